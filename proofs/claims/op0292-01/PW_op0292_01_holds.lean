import PyProof.Rows.All
import Wide.All
import OpenK.AllK
import Wide.FinOn
import PySem.Challenge.RW_op0292_01
set_option genInjectivity false
set_option genSizeOf false
set_option Elab.async false
set_option maxRecDepth 100000
set_option maxHeartbeats 0
set_option linter.all false
open PySem PySem.W PySem.W.X
namespace Sx
noncomputable section
section
set_option tactic.hygienic false
def p5:= @Nat.not_lt_zero
def si:= @Nat.succ_pos
def sj:= @Nat.succ_ne_zero
def fM:= @Nat.zero_add
def dN:= @List.mem_append_left
def cz:= @List.mem_append_right
def p6:= @Nat.lt_irrefl
def u7:= @Nat.add_assoc
def j2:= @Nat.le_succ_of_le
def kZ:= @Nat.le_add_right_of_le
def mJ:= @Nat.ne_of_lt
def dX:= @Nat.le_of_eq
def aL:= @List.map_append
def gW:= @Option.bind_eq_some_iff
def mK:= @Option.map_eq_some_iff
def dw:= @List.map_cons
def aZ:= @List.mem_map
def b7:= @List.mem_map_of_mem
def sk:= @List.any_eq_false
def cW:= @List.nodup_nil
def cy:= @List.nodup_cons
def jA:= @List.map_congr_left
def bc:= @List.mem_cons
def aM:= @Nat.le_refl
def jB:= @Nat.le_of_succ_le
def dY:= @List.map_map
def aB:= @List.length_map
def au:= @Nat.le_trans
def jD:= @Nat.lt_of_lt_of_le
def bJ:= @List.mem_append
def gb:= @Array.toList_inj
def b8:= @Nat.le_add_right
def br:= @List.append_assoc
def dc:= @Nat.le_of_ble_eq_true
def b9:= @Nat.zero_le
def iA:= @Nat.le_succ
def cX:= @List.length_cons
def pa:= @Nat.succ_add_eq_add_succ
def eG:= @List.nodup_append
def fj:= @List.mem_range
def sl:= @Int.not_ofNat_neg
def sm:= @List.dropWhile_cons_of_neg
def gd:= @List.filter_cons_of_pos
def wD:= @Option.isSome_iff_exists
def iB:= @Bool.and_eq_true_iff
def mL:= @List.isEmpty_iff
def so:= @Nat.eq_of_beq_eq_true
def kE:= @List.all_eq_true
def pb:= @Nat.add_sub_of_le
def jE:= @Nat.le_of_succ_le_succ
def cY:= @Nat.le_of_lt_succ
def fk:= @Bool.false_ne_true
def bQ:= @List.mem_singleton
def mM:= @Nat.lt_or_ge
def pd:= @Nat.le_of_add_right_le
def sq:= @List.sublist_append_left
def mN:= @List.perm_append_comm
def bY:= @List.append_nil
def jF:= @List.eq_nil_of_length_eq_zero
def pe:= @List.cons_append
def sr:= @List.append_of_mem
def mO:= @Int.ofNat_inj
def cJ:= @List.length_append
def su:= @Nat.add_le_add_right
def gX:= @Nat.succ_le_succ
def jG:= @Nat.add_le_add
def wH:= @List.dropWhile_cons_of_pos
def sx:= @Nat.zero_ne_add_one
def sy:= @Nat.ne_of_beq_eq_false
def mP:= @Nat.zero_lt_succ
def kG:= @List.cons_ne_nil
def pf:= @List.foldl_cons
def fm:= @List.flatMap_cons
def mQ:= @Int.natCast_nonneg
def sz:= @List.flatMap_append
def kH:= @List.length_pos_iff
def mR:= @Bool.and_eq_true
def mS:= @Nat.lt_add_one
def sC:= @Nat.lt_of_sub_eq_succ
def iC:= @Nat.succ_le_of_lt
def gf:= @List.take_add_one
def jH:= @Nat.mul_le_mul
def kK:= @List.length_filter_le
def sD:= @List.length_take_le
def mT:= @List.filter_append
def gY:= @List.filter_cons
def gZ:= @List.take_length
def sE:= @List.count_append
def kL:= @List.any_eq_true
def iE:= @List.mem_filter
def mU:= @List.count_pos_iff
def ph:= @List.length_take_le'
def mV:= @List.range_succ
def jI:= @Nat.succ_mul
def sF:= @List.length_range
def sG:= @Option.ne_none_iff_exists'
def sH:= @List.map_eq_nil_iff
def sI:= @Nat.one_lt_succ_succ
noncomputable def u9:List Nat:=[115,99,114,105,112,116]
noncomputable def Iy:List Nat:=[115,111,114,116,101,114]
noncomputable def Fx:List Nat:=[99,108,97,105,109,46,99,97,108,108,101,114]
noncomputable def xm:List Nat:=[114,101,115,117,108,116]
noncomputable def QL:List Nat:=[119,114,105,116,105,110,103,115]
abbrev ZV:=PySem.Value
abbrev ZW:=PySem.World
abbrev ZS:=PySem.Shared
abbrev ZL:=List (List Nat)
abbrev ZG:=Array GenState
abbrev ZA:=List (Addr×Obj)
abbrev ZR:=Result->ZS->Prop
abbrev ZC:=List (Code×Pos)
abbrev ZN:=List Nat
abbrev ZY:=List PySem.Value
abbrev ZE:=Sem PySem.Fin
abbrev ZI:=Zero OsState
abbrev ZT:=Nat->Tok
abbrev den:Code->ZE:=PySem.W.Fast.tw11892475500146522536 PySem.W.Fast.tw14364793385576792824
theorem nS{α:Type}{a:α}{P:Prop}(h:none=some a):P:=nomatch h
theorem fT{P:Prop}(h:false=true):P:=nomatch h
theorem B0{G:Prop}(h:∀P:Prop,(G->P)->P):G:=h G id
theorem QM{A:Sort _}{B:Sort _}{p:A->B->Prop}(a:A)(b:B)(h:p a b):∃a b,p a b:=⟨a,b,h⟩
theorem VQ{A:Sort _}{B:Sort _}{p:A->B->Prop}(h:∃a b,p a b){P:Prop}(k:∀a b,p a b->P):P:=h.elim fun a h=>h.elim (k a)
theorem Fy{A:Sort _}{B:Sort _}{C:Sort _}{p:A->B->C->Prop}(a:A)(b:B)(c:C)(h:p a b c):∃a b c,p a b c:=⟨a,QM b c h⟩
theorem Us{A:Sort _}{B:Sort _}{C:Sort _}{p:A->B->C->Prop}(h:∃a b c,p a b c){P:Prop}(k:∀a b c,p a b c->P):P:=h.elim fun a h=>VQ h (k a)
theorem VR{A:Sort _}{B:Sort _}{C:Sort _}{D:Sort _}{p:A->B->C->D->Prop}(a:A)(b:B)(c:C)(d:D)(h:p a b c d):∃a b c d,p a b c d:=⟨a,Fy b c d h⟩
theorem VS{A:Sort _}{B:Sort _}{C:Sort _}{D:Sort _}{p:A->B->C->D->Prop}(h:∃a b c d,p a b c d){P:Prop}(k:∀a b c d,p a b c d->P):P:=h.elim fun a h=>Us h (k a)
theorem VT{A:Sort _}{B:Sort _}{C:Sort _}{D:Sort _}{E:Sort _}{p:A->B->C->D->E->Prop}(a:A)(b:B)(c:C)(d:D)(e:E)(h:p a b c d e):∃a b c d e,p a b c d e:=⟨a,VR b c d e h⟩
theorem VU{A:Sort _}{B:Sort _}{C:Sort _}{D:Sort _}{E:Sort _}{p:A->B->C->D->E->Prop}(h:∃a b c d e,p a b c d e){P:Prop}(k:∀a b c d e,p a b c d e->P):P:=h.elim fun a h=>VS h (k a)
theorem Ut{A:Sort _}{B:Sort _}{C:Sort _}{D:Sort _}{E:Sort _}{F:Sort _}{p:A->B->C->D->E->F->Prop}(a:A)(b:B)(c:C)(d:D)(e:E)(f:F)(h:p a b c d e f):∃a b c d e f,p a b c d e f:=⟨a,VT b c d e f h⟩
theorem Uu{A:Sort _}{B:Sort _}{C:Sort _}{D:Sort _}{E:Sort _}{F:Sort _}{p:A->B->C->D->E->F->Prop}(h:∃a b c d e f,p a b c d e f){P:Prop}(k:∀a b c d e f,p a b c d e f->P):P:=h.elim fun a h=>VU h (k a)
theorem zz{P:Nat->Prop}{m n:Nat}(h:n<m+1)(a:P 0)(s:∀k,k<m->P (k+1)):P n:=by
 cases n with
 |zero=>exact a
 |succ n=>exact s n (Nat.lt_of_succ_lt_succ h)
theorem R8{P:Nat->Prop}{m n:Nat}(h:n<m+3)(a:P 0)(b:P 1)(c:P 2)(s:∀k,k<m->P (k+3)):P n:=zz h a fun d h=>zz (P:=fun k=>P (k+1)) h b fun d h=>zz (P:=fun k=>P (k+2)) h c s
theorem Iz{P:Nat->Prop}{m n:Nat}(h:n<m+4)(a:P 0)(b:P 1)(c:P 2)(d:P 3)(s:∀k,k<m->P (k+4)):P n:=R8 h a b c fun e h=>zz (P:=fun k=>P (k+3)) h d s
theorem zA{P:Nat->Prop}{n:Nat}(h:n<4)(a:P 0)(b:P 1)(c:P 2)(d:P 3):P n:=Iz h a b c d fun e h=>absurd h (p5 _)
theorem IA{P:Nat->Prop}{n:Nat}(h:n<8)(a:P 0)(b:P 1)(c:P 2)(d:P 3)(e:P 4)(f:P 5)(g:P 6)(i:P 7):P n:=Iz h a b c d fun j h=>zA (P:=fun k=>P (k+4)) h e f g i
theorem eY:denote table=den:=by rw[table_eq_tree,PySem.W.Fast.te11892475500146522536,PySem.W.Fast.te14364793385576792824]
inductive LT where
 |nil
 |node (a:Addr) (o:Obj) (l r:LT)
namespace LT
def get:LT->Nat->Option (Addr×Obj)
 |.nil,_=>none
 |.node a o l r,i=>match Nat.beq i 0 with
  |true=>some (a,o)
  |false=>match Nat.beq (i%2) 1 with
   |true=>l.get (i/2)
   |false=>r.get (i/2-1)
def set:LT->Nat->Obj->LT
 |.nil,_,_=>.nil
 |.node a o l r,i,x=>match Nat.beq i 0 with
  |true=>.node a x l r
  |false=>match Nat.beq (i%2) 1 with
   |true=>.node a o (l.set (i/2) x) r
   |false=>.node a o l (r.set (i/2-1) x)
def ins:LT->Nat->Addr->Obj->LT
 |.nil,_,b,x=>.node b x .nil .nil
 |.node a o l r,i,b,x=>match Nat.beq i 0 with
  |true=>.node b x l r
  |false=>match Nat.beq (i%2) 1 with
   |true=>.node a o (l.ins (i/2) b x) r
   |false=>.node a o l (r.ins (i/2-1) b x)
theorem z7{P:Nat->Prop}(z:P 0)(o:∀j,P (2*j+1))(e:∀j,P (2*j+2))(i:Nat):P i:=by
 have h:i=0\/∃j,i=2*j+1\/i=2*j+2:=by
  induction i with
  |zero=>exact .inl rfl
  |succ i h=>
   rcases h with rfl|⟨j,rfl|rfl⟩
   .exact .inr ⟨0,.inl rfl⟩
   .exact .inr ⟨j,.inr rfl⟩
   .exact .inr ⟨j+1,.inl rfl⟩
 rcases h with rfl|⟨j,rfl|rfl⟩
 .exact z
 .exact o j
 .exact e j
theorem Uv{α:Type}{p q:Prop}[Decidable p][Decidable q]{a b:α}(h:p->q)(k:q->p):ite q a b=ite p a b:=if hq:q then(if_pos hq).trans (if_pos (k hq)).symm else(if_neg hq).trans (if_neg fun hp=>hq (h hp)).symm
theorem Uw(j:Nat):Nat.beq ((2*j+1)%2) 1=true:=congrArg (Nat.beq · 1) (Nat.mul_add_mod 2 j 1)
theorem Ux(j:Nat):Nat.beq ((2*j+2)%2) 1=false:=congrArg (Nat.beq · 1) (Nat.mul_add_mod 2 j 2)
theorem odd{α:Type}(f g:Nat->α)(j:Nat):(match Nat.beq ((2*j+1)%2) 1 with|true=>f ((2*j+1)/2)|false=>g ((2*j+1)/2-1))=f j:=by rw[Uw];exact congrArg f (Nat.mul_add_div (si 1) j 1)
theorem QN{α:Type}(f g:Nat->α)(j:Nat):(match Nat.beq ((2*j+2)%2) 1 with|true=>f ((2*j+2)/2)|false=>g ((2*j+2)/2-1))=g j:=by rw[Ux];exact congrArg (fun i=>g (i-1)) (Nat.mul_add_div (si 1) j 2)
section
variable{a:Addr}{o:Obj}{l r:LT}
theorem g1(j:Nat):(node a o l r).get (2*j+1)=l.get j:=odd l.get r.get j
theorem g2(j:Nat):(node a o l r).get (2*j+2)=r.get j:=QN l.get r.get j
theorem Uy{b:Addr}{x:Obj}:∀i,(node b x l r).get i=if i=0 then some (b,x)else(node a o l r).get i:=z7 (if_pos rfl).symm (fun c=>(if_neg (sj _)).symm) fun c=>(if_neg (sj _)).symm
theorem Uz{j m:Nat}(h:2*j+2=2*m+1):False:=Bool.noConfusion ((Ux j).symm.trans ((congrArg (fun i=>Nat.beq (i%2) 1) h).trans (Uw m)))
theorem UA{Z:LT}{m:Nat}{v:Option (Addr×Obj)}(h:∀i,Z.get i=if i=m then v else l.get i):∀i,(node a o Z r).get i=if i=2*m+1 then v else(node a o l r).get i:=z7 (if_neg (sj _).symm).symm
  (fun j=>by rw[g1,g1,h];exact Uv (fun e=>Nat.eq_of_mul_eq_mul_left (si 1) (Nat.succ.inj e)) fun e=>congrArg (2*·+1) e)
  fun j=>by rw[g2,if_neg Uz,g2]
theorem UB{Z:LT}{m:Nat}{v:Option (Addr×Obj)}(h:∀i,Z.get i=if i=m then v else r.get i):∀i,(node a o l Z).get i=if i=2*m+2 then v else(node a o l r).get i:=z7 (if_neg (sj _).symm).symm
  (fun j=>by rw[g1,if_neg fun e=>Uz e.symm,g1])
  fun j=>by rw[g2,g2,h];exact Uv (fun e=>Nat.eq_of_mul_eq_mul_left (si 1) (Nat.succ.inj (Nat.succ.inj e))) fun e=>congrArg (2*·+2) e
end
theorem get_set(x:Obj)(t:LT):∀(k i:Nat),(t.set k x).get i=if i=k then(t.get k).map (fun p=>(p.1,x))else t.get i:=by
 induction t with
 |nil=>exact fun k i=>(ite_self none).symm
 |node a o l r Y Z=>
  refine z7 Uy (fun m=>?_) fun m=>?_
  .rw [g1,show(node a o l r).set (2*m+1) x=_ from odd (fun i=>node a o (l.set i x) r) (fun i=>node a o l (r.set i x)) m]
   exact UA (Y m)
  .rw [g2,show(node a o l r).set (2*m+2) x=_ from QN (fun i=>node a o (l.set i x) r) (fun i=>node a o l (r.set i x)) m]
   exact UB (Z m)
theorem get_ins(b:Addr)(x:Obj)(t:LT):∀(k:Nat),((t.ins k b x).get k).isSome=true->∀i,(t.ins k b x).get i=if i=k then some (b,x)else t.get i:=by
 induction t with
 |nil=>
  have e:∀k,LT.nil.ins k b x=node b x nil nil:=fun c=>rfl
  refine z7 (fun c=>z7 (if_pos rfl).symm (fun j=>(g1 j).trans (if_neg (sj _)).symm) fun j=>(g2 j).trans (if_neg (sj _)).symm) (fun m h=>?_) fun m h=>?_
  .rw [e,g1]at h;exact Bool.noConfusion h
  .rw [e,g2]at h;exact Bool.noConfusion h
 |node a o l r Y Z=>
  refine z7 (fun c=>Uy) (fun m h=>?_) fun m h=>?_
  .rw [show(node a o l r).ins (2*m+1) b x=_ from odd (fun i=>node a o (l.ins i b x) r) (fun i=>node a o l (r.ins i b x)) m]at h⊢
   rw[g1]at h;exact UA (Y m h)
  .rw [show(node a o l r).ins (2*m+2) b x=_ from QN (fun i=>node a o (l.ins i b x) r) (fun i=>node a o l (r.ins i b x)) m]at h⊢
   rw[g2]at h;exact UB (Z m h)
end LT
end
section
set_option tactic.hygienic false
def ma(prog:Program)(w:ZW)(s:ZS)(t:Thread)(Z:ZS)(t':Thread):Prop:=∃n,runNI (denote table) prog w n s t=.running Z t'
section
variable{prog:Program}{w:ZW}
theorem ma.refl(s:ZS)(t:Thread):ma prog w s t s t:=⟨0,rfl⟩
theorem ma.step{s sJ s':ZS}{t ni t':Thread}(e:stepI (denote table) prog w s t=.go sJ ni)(h:ma prog w sJ ni s' t'):ma prog w s t s' t':=by obtain⟨n,h⟩:=h;exact⟨n+1,by simp only[runNI,e];exact h⟩
theorem nj:∀{n m:Nat} {s Y W:ZS} {t Z t':Thread},runNI (denote table) prog w n s t=.running Y Z->runNI (denote table) prog w m Y Z=.running W t'->runNI (denote table) prog w (n+m) s t=.running W t'
 |0,m,s,Y,W,t,Z,t',h,k=>by
  simp only[runNI,Run.running.injEq]at h;obtain⟨rfl,rfl⟩:=h;rw[fM];exact k
 |n+1,m,s,Y,W,t,Z,t',h,k=>by
  rw[show n+1+m=(n+m)+1 by exact Nat.add_right_comm n 1 m]
  simp only[runNI]at h⊢;cases e:stepI (denote table) prog w s t with
  |go X V=>rw[e]at h;exact nj h k
  |halt o X=>rw[e]at h;cases h
theorem ma.trans{s Y X:ZS}{t Z t':Thread}(h:ma prog w s t Y Z)(k:ma prog w Y Z X t'):ma prog w s t X t':=by obtain⟨n,h⟩:=h;obtain⟨m,k⟩:=k;exact⟨n+m,nj h k⟩
end
noncomputable def leaf:Result->ZE
 |.ok f=>.pure (.done f)
 |.error e=>.raise e
structure aS where
 k:Result->ZE
 h:Option ZV
 g:Bool
 l:ZY
 cd:Code
 p:Pos
 kp:ZY
 K:List Frame
noncomputable def aS.st(B:aS):List Frame:=.ret B.k B.h B.g B.l B.cd B.p B.kp::B.K
noncomputable def aS.W(B:aS):ZC:=B.st.map Frame.where_
def a8(prog:Program)(w:ZW)(B:aS)(s:ZS)(c:Code)(pos:Pos)(t:ZE)(own:List Frame)(R:ZR):Prop:=∃r Z Y pos',R r Z/\ma prog w s ⟨t,c,pos,own++B.st⟩ Z ⟨leaf r,Y,pos',B.st⟩
section
variable{prog:Program}{w:ZW}{B:aS}{s:ZS}{c:Code}{pos:Pos}{own:List Frame}{R:ZR}
theorem a8.leaf{r:Result}(h:R r s):a8 prog w B s c pos (leaf r) [] R:=⟨r,s,c,pos,h,.refl _ _⟩
theorem a8.step{t t':ZE}{s':ZS}{c':Code}{pos':Pos}{k4:List Frame}(e:stepI (denote table) prog w s ⟨t,c,pos,own++B.st⟩=.go s' ⟨t',c',pos',k4++B.st⟩)(h:a8 prog w B s' c' pos' t' k4 R):a8 prog w B s c pos t own R:=by obtain⟨r,sJ,c₁,Z,Y,X⟩:=h;exact⟨r,sJ,c₁,Z,Y,.step e X⟩
theorem a8.mono{t:ZE}{W:ZR}(h:a8 prog w B s c pos t own R)(m:∀r X,R r X->W r X):a8 prog w B s c pos t own W:=by obtain⟨r,Z,c₁,Y,V,U⟩:=h;exact⟨r,Z,c₁,Y,m _ _ V,U⟩
theorem l1{r:Result}{k:Result->ZE}{h:Option ZV}{g:Bool}{l:ZY}{Y:Code}{Z:Pos}{kp:ZY}{st:List Frame}:stepI (denote table) prog w s ⟨Sx.leaf r,c,pos,.ret k h g l Y Z kp::st⟩=.go s ⟨k r,Y,Z,st⟩:=by
 cases r with
 |ok f=>rfl
 |error e=>rfl
theorem a8.call{W:Code}{h:Option ZV}{g:Bool}{l:ZY}{k:Result->ZE}{Q:ZR}(L:a8 prog w ⟨k,h,g,l,c,pos,[],own++B.st⟩ s W pos (denote table W) [] Q)(N:∀r T,Q r T->a8 prog w B T c pos (k r) own R):a8 prog w B s c pos (.call W h g l k) own R:=by obtain⟨r,Y,c₁,S,O,M⟩:=L;obtain⟨P,Z,c₂,X,V,U⟩:=N r Y O;refine⟨P,Z,c₂,X,V,.step (sJ:=s) (ni:=⟨denote table W,W,pos,.ret k h g l c pos []::(own++B.st)⟩) rfl (.trans M (.step l1 U))⟩
theorem a8.again{Z:Code}{k:Result->ZE}{h:Option ZV}{g:Bool}{l:ZY}{cd:Code}{p:Pos}{kp:ZY}{Q:ZR}(hq:Z.quiet=true)(L:a8 prog w ⟨k,h,g,l,cd,p,kp,own++B.st⟩ s Z pos (denote table Z) [] Q)(N:∀r T,Q r T->a8 prog w B T cd p (k r) own R):a8 prog w B s c pos (.pure (.again Z)) (.ret k h g l cd p kp::own) R:=by
 obtain⟨r,X,c₁,S,O,M⟩:=L;obtain⟨P,Y,c₂,W,V,U⟩:=N r X O;refine⟨P,Y,c₂,W,V,.step (sJ:=s) (ni:=⟨denote table Z,Z,pos,.ret k h g l cd p kp::(own++B.st)⟩) ?_ (.trans M (.step l1 U))⟩;rw[stepI_quiet _ _ _ (by rw[Thread.loud_again,hq];rfl)]
 rfl
theorem a8.goto{Z:Code}(hq:Z.quiet=true)(h:a8 prog w B s Z pos (denote table Z) own R):a8 prog w B s c pos (.pure (.again Z)) own R:=by
 refine a8.step (s':=s) (c':=Z) (pos':=pos) (k4:=own) ?_ h;rw[stepI_quiet _ _ _ (by rw[Thread.loud_again,hq];rfl)]
 rfl
end
end
set_option tactic.hygienic false
inductive Ob where
 |a (x:Addr)
 |c (x:Code)
 |e (x:Addr×Obj)
 |w (x:ZC)
 |b (x:Bool)
 |t (x:ZE)
 |l (x:ZA)
abbrev aQ:=ZA
abbrev hP:=List (Ob×Ob)
def d9(l:hP):Prop:=∀p∈l,p.1=p.2
def aO(l:List Prop):Prop:=∀p∈l,p
theorem d9.cons{p:Ob×Ob}{l:hP}(h:d9 (p::l)):p.1=p.2/\d9 l:=⟨h p (.head _),fun q hq=>h q (.tail _ hq)⟩
theorem d9.app{l Z:hP}(h:d9 (l++Z)):d9 l/\d9 Z:=⟨fun q hq=>h q (dN _ hq),fun q hq=>h q (cz _ hq)⟩
theorem aO.app{l Z:List Prop}(h:aO (l++Z)):aO l/\aO Z:=⟨fun q hq=>h q (dN _ hq),fun q hq=>h q (cz _ hq)⟩
structure Vw where
 prog:Program
 w:ZW
 kt:KT
 W:ZC
 hb:Option ZV
def aR(h:Heap)(l:ZA):Prop:=∀p∈l,h.get? p.1=some p.2
inductive K where
 |fn|fo|wh|cl|IB|IC|cmp|ex (id:String)|bi (id:String)|gx
def cB(c:Code)(f:String->Args->Bool):Bool:=if h:c.ctorIdx=1 then Code.builtin.elim c h f else false
noncomputable def ID(c:Code):Bool:=if h:c.ctorIdx=12 then Code.compLoop.elim c h fun x n a a a=>Nat.beq x.ctorIdx 11&&Nat.beq n 0 else false
noncomputable def z8(v:ZV):Option Addr:=if h:v.ctorIdx=10 then Value.ref.elim v h some else none
noncomputable def IF(v:ZV):Option String:=if h:v.ctorIdx=8 then Value.type.elim v h some else none
noncomputable def B5{α:Type}:List α->Option (α×List α)
 |[]=>none
 |a::l=>some (a,l)
noncomputable def IG(c:Code):K->Bool
 |.fn=>Nat.beq c.ctorIdx 6
 |.fo=>Nat.beq c.ctorIdx 9
 |.wh=>Nat.beq c.ctorIdx 8
 |.cmp=>Nat.beq c.ctorIdx 12
 |.cl=>cB c fun i a=>i=="claim.caller"&&(a.kw.isEmpty&&a.pos.isEmpty)
 |.IB=>cB c fun i a=>i=="list.extend.loop"&&(a.kw.isEmpty&&(B5 a.pos).any fun p=>(z8 p.1).isSome&&(B5 p.2).any fun q=>(z8 q.1).isSome&&(B5 q.2).any fun r=>Nat.beq r.1.ctorIdx 0&&r.2.isEmpty)
 |.IC=>cB c fun i a=>i=="type.__call__"&&(a.kw.isEmpty&&(B5 a.pos).any fun p=>IF p.1==some "list"&&(B5 p.2).any fun q=>(z8 q.1).isSome&&q.2.isEmpty)
 |.ex i=>cB c fun j b=>j==i
 |.bi i=>cB c fun j b=>j==i
 |.gx=>ID c
noncomputable def B6:ZC->List K->Bool
 |[],ks=>match ks with
  |[]=>true
  |_::_=>false
 |p::W,ks=>match ks with
  |[]=>false
  |k::ks=>IG p.1 k&&B6 W ks
inductive kM where
 |exact(W:ZC)
 |kinds (ks:List K)
 |fq
structure R9 where
 code:Code
 hQ:ZN
 pre:ZA
 W:kM
 ps:List Prop
 UC:ZN
 EO:List aQ
structure vb where
 r:Result
 post:List Obj
 new:ZA
 N:Nat
 t:Nat
 ng:Nat
 fs:List aQ
structure kN(kt:KT)(h:Heap)(as:List Addr)(l:aQ):Prop where
 holds:aR h l
 kt:∀p∈l,kt.get p.1=none
 apart:∀p∈l,p.1∉as
 nodup:(l.map (·.1)).Nodup
noncomputable def z9(W:ZC):Bool:=Nat.ble W.length 60
def kM.ok:kM->ZC->Prop
 |.exact W,Z=>Z=W
 |.kinds ks,Z=>B6 Z ks=true
 |.fq,Z=>z9 Z=true
structure Ext(s s':ZS)(old:List Addr):Prop where
 frame:∀b o,s.heap.get? b=some o->b∉old->s'.heap.get? b=some o
 size:s.heap.objs.size<=s'.heap.objs.size
 toks:s.toks<=s'.toks
 drawn:s'.drawn=s.drawn
 os:s'.os=s.os
structure cf(s s':ZS)(pre:ZA)(b:vb):Prop where
 ext:Ext s s' (pre.map (·.1))
 len:b.post.length=pre.length
 upd:aR s'.heap ((pre.map (·.1)).zip b.post)
 new:aR s'.heap b.new
 free:∀p∈b.new,s.heap.get? p.1=none
 nodup:(b.new.map (·.1)).Nodup
 size:s'.heap.objs.size=b.N
 toks:s'.toks=b.t
 gens:s'.gens=s.gens++(List.replicate b.ng GenState.finished).toArray
 iF:∀l∈b.fs,aR s'.heap l
 dU:∀l∈b.fs,∀p∈l,s.heap.get? p.1=none
 d6:∀l∈b.fs,(l.map (·.1)).Nodup
 eo:∀l∈b.fs,∀p∈l,p.1∉b.new.map (·.1)
def cP(kt:KT)(h:Heap):Prop:=∀a o,kt.get a=some o->h.get? a=some o
def UD:Bool->aS->Prop
 |false,B=>topHandled B.st=none
 |true,_=>True
noncomputable def EP:Bool->Option (Option ZV)->Bool
 |true,_=>true
 |false,Z=>match Z with
  |some v=>match v with
   |none=>true
   |some _=>false
  |none=>false
structure aX(prog:Program)(w:ZW)(kt:KT)where
 hh:Bool:=false
 A:ZL->Code->Nat->Nat->LT->R9
 B:ZL->Code->Nat->Nat->LT->ZN->vb
 ok:∀(bb:ZL)(c:Code)(T:LT)(s:ZS)(B':aS)(pos:Pos),c=(A bb c s.heap.objs.size s.toks T).code->aO (A bb c s.heap.objs.size s.toks T).ps->cP kt s.heap->
  aR s.heap (A bb c s.heap.objs.size s.toks T).pre->((A bb c s.heap.objs.size s.toks T).pre.map (·.1)).Nodup->(∀p∈(A bb c s.heap.objs.size s.toks T).pre,kt.get p.1=none)->UD hh B'->(∀l∈(A bb c s.heap.objs.size s.toks T).EO,kN kt s.heap ((A bb c s.heap.objs.size s.toks T).pre.map (·.1)) l)->(A bb c s.heap.objs.size s.toks T).W.ok B'.W->
  a8 prog w B' s c pos (denote table c) [] (fun r s'=>∃f,r=(B bb c s.heap.objs.size s.toks T f).r/\cf s s' (A bb c s.heap.objs.size s.toks T).pre (B bb c s.heap.objs.size s.toks T f))
inductive Lk(aJ:ZC){α:Type}:Sem α->Sem α->Prop where
 |refl (t:Sem α):Lk aJ t t
 |load {a:Addr} {p:Option ZV} {k k':Obj->Sem α}:(∀o,Lk aJ (k o) (k' o))->Lk aJ (.load a p k) (.load a p k')
 |update {a:Addr} {p:Option ZV} {f:Obj->Obj} {k k':Unit->Sem α}:Lk aJ (k ()) (k' ())->Lk aJ (.update a p f k) (.update a p f k')
 |alloc {o:Obj} {k k':Addr->Sem α}:(∀a,Lk aJ (k a) (k' a))->Lk aJ (.alloc o k) (.alloc o k')
 |stack {k:ZC->Sem α} {t':Sem α}:Lk aJ (k aJ) t'->Lk aJ (.stack k) t'
inductive bD(prog:Program)(w:ZW)(kt:KT)where
 |ld (i:Nat)
 |up (i:Nat)
 |fin
 |tail
 |ai (O:aX prog w kt)
 |lk (aJ:ZC) (X:ZE->ZE×ZE) (h:∀t,Lk aJ (X t).1 (X t).2)
 |eq (X:ZE->ZE×ZE) (h:∀t,(X t).1=(X t).2)
 |gn (x:Nat)
 |stop
inductive ay where
 |err (n:Nat)
 |fin (r:Result) (T:LT) (m N j tk i:Nat) (G:ZG) (gl:List GenState) (bg:List aQ) (ob:hP) (ps:List Prop)
 |stop (c:Code) (pos:Pos) (t:ZE) (own:List Frame) (T:LT) (m N j tk i:Nat) (G:ZG) (gl:List GenState) (bg:List aQ) (ob:hP) (ps:List Prop)
 |tail (c:Code) (pos:Pos) (T:LT) (m N j tk i:Nat) (G:ZG) (gl:List GenState) (bg:List aQ) (ob:hP) (ps:List Prop)
abbrev ck:=Code->Pos->ZE->List Frame->LT->Nat->Nat->Nat->Nat->Nat->ZG->List GenState->List aQ->hP->List Prop->ay
noncomputable def uc:List Frame->Option ZV->Option (Option ZV)
 |[],Z=>some Z
 |.gen ..::rest,Z=>uc rest Z
 |.ret _ h _ _ _ _ _::rest,Z=>match h with
  |none=>uc rest Z
  |some e=>match Nat.beq e.ctorIdx 2 with
   |true=>none
   |false=>some (some e)
def dflt(V:Vw)(Z:ck):ck:=fun c pos t own T m N j tk i G gl bg ob ps=>match t with
 |.pure f=>match f with
  |.done f=>match own with
   |[]=>.err 1
   |fr::rest=>match fr with
    |.ret k _ _ _ Y X _=>Z Y X (k (.ok f)) rest T m N j tk i G gl bg ob ps
    |.gen ..=>.err 2
  |.again Y=>match Y.quiet with
   |true=>Z Y pos (den Y) own T m N j tk i G gl bg ob ps
   |false=>.err 3
 |.raise e=>match own with
   |[]=>.err 1
   |fr::rest=>match fr with
    |.ret k _ _ _ Y X _=>Z Y X (k (.error e)) rest T m N j tk i G gl bg ob ps
    |.gen ..=>.err 2
 |.rule _ k=>Z c pos (k ()) own T m N j tk i G gl bg ob ps
 |.at p k=>Z c p (k ()) own T m N j tk i G gl bg ob ps
 |.point _ k=>Z c pos (k ()) own T m N j tk i G gl bg ob ps
 |.ask k=>Z c pos (k ⟨V.prog,V.w.params⟩) own T m N j tk i G gl bg ob ps
 |.load a _ k=>match V.kt.get a with
  |some o=>Z c pos (k o) own T m N j tk i G gl bg ob ps
  |none=>.err 4
 |.loadIfAlive a k=>match V.kt.get a with
  |some o=>Z c pos (k (some o)) own T m N j tk i G gl bg ob ps
  |none=>.err 4
 |.alloc o k=>match o.isFreed with
  |true=>.err 5
  |false=>match (T.ins m (N+j) o).get m with
   |some _=>Z c pos (k (N+j)) own (T.ins m (N+j) o) (m+1) N (j+1) tk i G gl bg ob ps
   |none=>.err 6
 |.fresh k=>Z c pos (k (tk+i)) own T m N j tk (i+1) G gl bg ob ps
 |.call Y h g l k=>Z Y pos (den Y) (.ret k h g l c pos []::own) T m N j tk i G gl bg ob ps
 |.handled b k=>match b with
  |false=>match uc own V.hb with
   |some v=>Z c pos (k v) own T m N j tk i G gl bg ob ps
   |none=>.err 7
  |true=>.err 7
 |.stack k=>Z c pos (k ((c,pos)::(own.map Frame.where_++V.W))) own T m N j tk i G gl bg ob ps
 |.newGen Y k=>Z c pos (k (G.size+gl.length)) own T m N j tk i G (gl++[.fresh Y]) bg ob ps
 |_=>.err 9
def IH(V:Vw)(k:ck)(n:Nat):ck:= @Nat.rec (fun a=>ck) k (fun a Z=>dflt V Z) n
def sL{α:Type}(f:Nat->Option α)(mk:α->Ob):ZN->List α->Option hP
 |[],ps=>match ps with
  |[]=>some []
  |_::_=>none
 |i::is,ps=>match ps with
  |[]=>none
  |p::ps=>(f i).bind fun q=>(sL f mk is ps).map fun l=>(mk q,mk p)::l
noncomputable def wI(T:LT):ZN->ZA->Option hP:=sL T.get .e
noncomputable def wJ(bg:List aQ):ZN->List aQ->Option hP:=sL (fun i=>bg[i]?) .l
noncomputable def eF:ZN->Bool
 |[]=>true
 |x::l=>match l.any (Nat.beq x)with
  |true=>false
  |false=>eF l
noncomputable def eZ:LT->ZN->List Obj->LT
 |T,[],_=>T
 |T,i::is,os=>match os with
  |[]=>T
  |o::os=>eZ (T.set i o) is os
noncomputable def dm:LT->Nat->ZA->Option (LT×Nat)
 |T,m,[]=>some (T,m)
 |T,m,p::l=>match (T.ins m p.1 p.2).get m with
  |some _=>dm (T.ins m p.1 p.2) (m+1) l
  |none=>none
noncomputable def II(Z:ZC):kM->Ob×Ob
 |.exact W=>(.w Z,.w W)
 |.kinds ks=>(.b (B6 Z ks),.b true)
 |.fq=>(.b (z9 Z),.b true)
noncomputable def zC{prog:Program}{w:ZW}{kt:KT}(O:aX prog w kt)(Z:ZL)(f:ZN)(U:Option (Option ZV))(S:ZC)(Y:Code)(cont:Result->ck):ck:=fun c pos t own T m N j tk i G gl bg ob ps=>
 match EP O.hh U with
 |true=>match eF (O.A Z Y (N+j) (tk+i) T).hQ with
  |false=>.err 23
  |true=>match wI T (O.A Z Y (N+j) (tk+i) T).hQ (O.A Z Y (N+j) (tk+i) T).pre with
   |some l=>match wJ bg (O.A Z Y (N+j) (tk+i) T).UC (O.A Z Y (N+j) (tk+i) T).EO with
    |some V=>match dm (eZ T (O.A Z Y (N+j) (tk+i) T).hQ (O.B Z Y (N+j) (tk+i) T f).post) m (O.B Z Y (N+j) (tk+i) T f).new with
     |some (R,X)=>cont (O.B Z Y (N+j) (tk+i) T f).r c pos t own R X (O.B Z Y (N+j) (tk+i) T f).N 0 (O.B Z Y (N+j) (tk+i) T f).t 0 G (gl++List.replicate (O.B Z Y (N+j) (tk+i) T f).ng GenState.finished) (bg++(O.B Z Y (N+j) (tk+i) T f).fs)
      ((.c Y,.c (O.A Z Y (N+j) (tk+i) T).code)::II S (O.A Z Y (N+j) (tk+i) T).W::(l++(V++ob))) ((O.A Z Y (N+j) (tk+i) T).ps++ps)
     |none=>.err 21
    |none=>.err 24
   |none=>.err 20
 |false=>.err 22
noncomputable def IK:GenState->GenStatus×Option (ZC)
 |.fresh c=>(.fresh,some [(c,default)])
 |.suspended _ _ c p frames _=>(.suspended,some ((c,p)::frames.map Frame.where_))
 |.running=>(.running,none)
 |.finished=>(.finished,none)
def pj(x:Nat)(st:GenState)(Z:ck):ck:=fun c pos t own T m N j tk i G gl bg ob ps=>match t with
 |.genState g k=>Z c pos (k (IK st)) own T m N j tk i G gl bg ((.a g,.a (G.size+x))::ob) ps
 |.resume g r l k=>match st with
  |.fresh Y=>match r with
   |.send v=>match v with
    |.none=>Z Y pos (den Y) (.gen g k l c pos::own) T m N j tk i G (gl.set x .running) bg ((.a g,.a (G.size+x))::ob) ps
    |_=>.err 51
   |_=>.err 51
  |.suspended W _ Y X frames _=>Z Y X (W r) (frames++.gen g k l c pos::own) T m N j tk i G (gl.set x .running) bg ((.a g,.a (G.size+x))::ob) ps
  |.running=>.err 52
  |.finished=>.err 52
 |.yield v g0 l W=>match splitAtGen own with
  |some (frames,(g,k,Y,X),rest)=>match g0||frames.any Frame.guarded with
   |true=>.err 56
   |false=>Z Y X (k (.yielded v)) rest T m N j tk i G (gl.set x (.suspended W l c pos frames false)) bg ((.a g,.a (G.size+x))::ob) ps
  |none=>.err 53
 |.pure f=>match f with
  |.done f=>match own with
   |[]=>.err 54
   |F::rest=>match F with
    |.ret ..=>.err 54
    |.gen g k _ Y X=>Z Y X (k (.returned (match f with|.ret v=>v|_=>.none))) rest T m N j tk i G (gl.set x .finished) bg ((.a g,.a (G.size+x))::ob) ps
  |.again _=>.err 54
 |.raise e=>match own with
   |[]=>.err 54
   |F::rest=>match F with
    |.ret ..=>.err 54
    |.gen g k _ Y X=>Z Y X (k (.raised e)) rest T m N j tk i G (gl.set x .finished) bg ((.a g,.a (G.size+x))::ob) ps
 |_=>.err 50
def wK(V:Vw)(h:bD V.prog V.w V.kt)(Y:ZL->ZL->ck)(Z fr:ZL):ck:=fun c pos t own T m N j tk i G gl bg ob ps=>match h with
 |.ld x=>match T.get x with
  |some (b,o)=>match t with
   |.load a _ k=>Y Z fr c pos (k o) own T m N j tk i G gl bg ((.a a,.a b)::ob) ps
   |.loadIfAlive a k=>Y Z fr c pos (k (some o)) own T m N j tk i G gl bg ((.a a,.a b)::ob) ps
   |_=>.err 31
  |none=>.err 30
 |.up x=>match T.get x with
  |some (b,o)=>match t with
   |.update a _ f k=>match (f o).isFreed with
    |false=>Y Z fr c pos (k ()) own (T.set x (f o)) m N j tk i G gl bg ((.a a,.a b)::ob) ps
    |true=>.err 33
   |_=>.err 32
  |none=>.err 30
 |.fin=>match own with
  |[]=>match t with
   |.pure f=>match f with
    |.done f=>.fin (.ok f) T m N j tk i G gl bg ob ps
    |.again _=>.err 34
   |.raise e=>.fin (.error e) T m N j tk i G gl bg ob ps
   |_=>.err 34
  |_::_=>.err 34
 |.tail=>match own with
  |[]=>match t with
   |.pure f=>match f with
    |.done _=>.err 35
    |.again U=>match U.quiet with
     |true=>.tail U pos T m N j tk i G gl bg ob ps
     |false=>.err 3
   |_=>.err 35
  |_::_=>.err 35
 |.ai O=>match t with
   |.call U h g l k=>zC O Z (fr.headD []) (uc (.ret k h g l c pos []::own) V.hb) ((c,pos)::(own.map Frame.where_++V.W)) U (fun r c pos d own=>Y (fr.headD []::Z) fr.tail c pos (k r) own) c pos t own T m N j tk i G gl bg ob ps
   |.pure S=>match S with
    |.done _=>.err 41
    |.again U=>match U.quiet with
     |false=>.err 3
     |true=>match own with
      |[]=>.err 42
      |F::rest=>match F with
       |.gen ..=>.err 43
       |.ret k h g l cd p kp=>zC O Z (fr.headD []) (uc (.ret k h g l cd p kp::rest) V.hb) ((cd,p)::(rest.map Frame.where_++V.W)) U (fun r d d d d=>Y (fr.headD []::Z) fr.tail cd p (k r) rest) c pos t own T m N j tk i G gl bg ob ps
   |_=>.err 41
 |.lk aJ X _=>Y Z fr c pos (X t).2 own T m N j tk i G gl bg ((.t t,.t (X t).1)::(.w ((c,pos)::(own.map Frame.where_++V.W)),.w aJ)::ob) ps
 |.eq X _=>Y Z fr c pos (X t).2 own T m N j tk i G gl bg ((.t t,.t (X t).1)::ob) ps
 |.stop=>match t with
  |.call ..=>.stop c pos t own T m N j tk i G gl bg ob ps
  |.pure _=>.stop c pos t own T m N j tk i G gl bg ob ps
  |_=>.err 60
 |.gn x=>match gl[x]? with
  |some st=>pj x st (Y Z fr) c pos t own T m N j tk i G gl bg ob ps
  |none=>.err 55
def ev(V:Vw)(X:List (Nat×bD V.prog V.w V.kt)):ZL->ZL->ck:=@List.rec (Nat×bD V.prog V.w V.kt) (fun a=>ZL->ZL->ck) (fun a a a a a a a a a a a a a a a a a=>.err 90) (fun p a Y Z fr=>IH V (wK V p.2 Y Z fr) p.1) X
section
set_option tactic.hygienic false
structure Rep(kt:KT)(aI:ZS)(old:List Addr)(nb:Nat)(T:LT)(m N j tk i:Nat)(G:ZG)(gl:List GenState)(bg:List aQ)(s:ZS):Prop where
 size:s.heap.objs.size=N+j
 toks:s.toks=tk+i
 gens:s.gens=G++gl.toArray
 drawn:s.drawn=aI.drawn
 os:s.os=aI.os
 led:∀x a o,T.get x=some (a,o)->s.heap.get? a=some o
 own:∀x a o,T.get x=some (a,o)->kt.get a=none/\(a∈old\/aI.heap.get? a=none)/\(old.length<=x->aI.heap.get? a=none)
 has:∀a∈old,∃x o,T.get x=some (a,o)
 B7:old.length<=m
 top:∀x p,T.get x=some p->x<m
 inj:∀x y a o o',T.get x=some (a,o)->T.get y=some (a,o')->x=y
 k5:∀l∈bg,∀p∈l,kt.get p.1=none
 kt:cP kt s.heap
 frame:∀b o,aI.heap.get? b=some o->b∉old->s.heap.get? b=some o
 le:aI.heap.objs.size<=s.heap.objs.size
 Aa:aI.toks<=s.toks
 fs:∀l∈bg,aR s.heap l
 d6:∀l∈bg,(l.map (·.1)).Nodup
 eo:∀l∈bg,∀p∈l,∀x o,T.get x≠some (p.1,o)
 dU:∀k l,bg[k]?=some l->nb<=k->∀p∈l,aI.heap.get? p.1=none
 sM:nb<=bg.length
theorem Rep.ext{kt:KT}{Z s:ZS}{Y:List Addr}{X:Nat}{T:LT}{m N j tk i:Nat}{G:ZG}{gl:List GenState}{bg:List aQ}(D:Rep kt Z Y X T m N j tk i G gl bg s):Ext Z s Y:=⟨D.frame,D.le,D.Aa,D.drawn,D.os⟩
theorem i4{h:Heap}{a:Nat}{o:Obj}(e:h.get? a=some o):a<h.objs.size:=Heap.lt_size e
theorem dC{h:Heap}{a:Nat}(q:h.objs.size<=a):h.get? a=none:=by
 cases e:h.get? a with
 |none=>rfl
 |some o=>exact absurd (i4 e) (Nat.not_lt.mpr q)
theorem dJ(h:Heap)(o:Obj):(h.push o).objs.size=h.objs.size+1:=Heap.size_push ..
section
variable{kt:KT}{Z s:ZS}{Y:List Addr}{X:Nat}{T:LT}{m N j tk i:Nat}{G:ZG}{gl:List GenState}{bg:List aQ}
theorem fC{a:Addr}{o:Obj}(W:((T.ins m a o).get m).isSome=true){y:Nat}{p:Addr×Obj}(e:(T.ins m a o).get y=some p):(y=m/\(a,o)=p)\/T.get y=some p:=by
 rw[LT.get_ins _ _ T m W]at e
 by_cases h:y=m
 .rw [if_pos h]at e;exact .inl ⟨h,by injection e⟩
 .rw [if_neg h]at e;exact .inr e
theorem Rep.alloc(D:Rep kt Z Y X T m N j tk i G gl bg s){o:Obj}(hf:o.isFreed=false)(V:((T.ins m (N+j) o).get m).isSome=true):Rep kt Z Y X (T.ins m (N+j) o) (m+1) N (j+1) tk i G gl bg {s with heap:=s.heap.push o}:=by
 have U:=D.size
 have S:∀{x a W},T.get x=some (a,W)->a≠N+j:=fun e z=>by have Q:=i4 (D.led _ _ _ e);rw[z,U]at Q;exact p6 _ Q
 refine⟨by show(s.heap.push o).objs.size=_;rw[dJ,U];exact u7 N j 1,D.toks,D.gens,D.drawn,D.os,fun x a W e=>?_,fun x a W e=>?_,fun a M=>?_,j2 D.B7,fun x p e=>?_,fun x y a I J K L=>?_,D.k5,fun a W e=>Heap.get?_push_of_some _ (D.kt a W e),fun b W e q=>Heap.get?_push_of_some _ (D.frame b W e q),
  by show _<=(s.heap.push o).objs.size;rw[dJ];have:=D.le;exact kZ this,D.Aa,
  fun l R p hp=>Heap.get?_push_of_some _ (D.fs l R p hp),D.d6,fun l R p hp x W e=>?_,D.dU,D.sM⟩
 .rcases fC V e with ⟨_,z⟩|e
  .cases z
   show(s.heap.push o).get? (N+j)=some o
   rw[←U];exact Heap.get?_push_size _ hf
  .exact Heap.get?_push_of_some _ (D.led _ _ _ e)
 .rcases fC V e with ⟨_,z⟩|e
  .cases z
   have z:Z.heap.get? (N+j)=none:=dC (U▸D.le)
   refine⟨?_,.inr z,fun c=>z⟩
   cases q:kt.get (N+j)with
   |none=>rfl
   |some W=>exact absurd (U▸i4 (D.kt _ _ q)) (p6 _)
  .exact D.own _ _ _ e
 .exact(D.has a M).elim fun x h=>h.elim fun W e=>⟨x,W,(LT.get_ins _ _ T m V x).trans ((if_neg (mJ (D.top _ _ e))).trans e)⟩
 .exact(fC V e).elim (fun z=>Nat.lt_succ_of_le (dX z.1)) fun e=>Nat.lt_succ_of_lt (D.top _ _ e)
 .rcases fC V K with ⟨Q,O⟩|f1<;>rcases fC V L with ⟨h2,P⟩|f2
  .exact Q.trans h2.symm
  .exact absurd (congrArg (·.1) O).symm (S f2)
  .exact absurd (congrArg (·.1) P).symm (S f1)
  .exact D.inj _ _ _ _ _ f1 f2
 .exact(fC V e).elim (fun z=>by have h:=i4 (D.fs l R p hp);rw[U,←(congrArg (·.1) z.2:N+j=p.1)]at h;exact p6 _ h) fun e=>D.eo l R p hp x W e
theorem ji{x:Nat}{b:Addr}{o W:Obj}(e:T.get x=some (b,o)){y:Nat}{p:Addr×Obj}(h:(T.set x W).get y=some p):(y=x/\(b,W)=p)\/(y≠x/\T.get y=some p):=by
 rw[LT.get_set]at h
 by_cases q:y=x
 .rw [if_pos q,e]at h;exact .inl ⟨q,by injection h⟩
 .rw [if_neg q]at h;exact .inr ⟨q,h⟩
theorem ou{x:Nat}{b:Addr}{o V:Obj}(e:T.get x=some (b,o)){y:Nat}{a:Addr}{W:Obj}(h:(T.set x V).get y=some (a,W)):∃U,T.get y=some (a,U):=(ji e h).elim (fun z=>⟨o,by rw[z.1,e,show b=a from congrArg (·.1) z.2]⟩) fun z=>⟨W,z.2⟩
theorem Rep.update(D:Rep kt Z Y X T m N j tk i G gl bg s){x:Nat}{b:Addr}{o:Obj}{f:Obj->Obj}(e:T.get x=some (b,o))(hf:(f o).isFreed=false):Rep kt Z Y X (T.set x (f o)) m N j tk i G gl bg {s with heap:=s.heap.update b f}:=by
 have M:=D.led _ _ _ e
 have S:Heap.SameBut b s.heap (s.heap.update b f):=Heap.SameBut.update ..
 have ge:(s.heap.update b f).get? b=some (f o):=Heap.get?_update_self f M hf
 have Q:=D.own _ _ _ e
 refine⟨by show(s.heap.update b f).objs.size=_;rw[S.1,D.size],D.toks,D.gens,D.drawn,D.os,fun y a V W=>?_,fun y a V W=>?_,fun a L=>?_,D.B7,fun y p W=>?_,fun y z a H I J K=>?_,D.k5,fun a V W=>?_,fun a V W q=>?_,
  by show _<=(s.heap.update b f).objs.size;rw[S.1];exact D.le,D.Aa,
  fun l R p hp=>(S.2 p.1 (fun z=>D.eo l R p hp x o (by rw[z];exact e))).trans (D.fs l R p hp),D.d6,fun l R p hp y V W=>?_,D.dU,D.sM⟩
 .rcases ji e W with ⟨_,z⟩|⟨U,W⟩
  .cases z;exact ge
  .exact(S.2 a (fun z=>U (D.inj _ _ _ _ _ W (z▸e)))).trans (D.led _ _ _ W)
 .rcases ji e W with ⟨U,z⟩|⟨_,W⟩
  .cases z;rw[U];exact Q
  .exact D.own _ _ _ W
 .obtain⟨y,V,W⟩:=D.has a L
  by_cases U:y=x
  .subst U;rw[e]at W;cases W;exact⟨y,f o,by rw[LT.get_set,if_pos rfl,e];rfl⟩
  .exact⟨y,V,by rw[LT.get_set,if_neg U];exact W⟩
 .exact(ji e W).elim (fun z=>z.1▸D.top _ _ e) fun z=>D.top _ _ z.2
 .exact(ou e J).elim fun c O=>(ou e K).elim fun c P=>D.inj _ _ _ _ _ O P
 .have:a≠b:=fun z=>by rw[z]at W;rw[Q.1]at W;cases W
  exact(S.2 a this).trans (D.kt _ _ W)
 .have:a≠b:=fun z=>by
   rcases Q.2.1 with h|h
   .exact q (z▸h)
   .rw [z,h]at W;cases W
  exact(S.2 a this).trans (D.frame _ _ W q)
 .exact(ou e W).elim fun c k=>D.eo l R p hp y _ k
theorem Rep.fresh(D:Rep kt Z Y X T m N j tk i G gl bg s):Rep kt Z Y X T m N j tk (i+1) G gl bg {s with toks:=s.toks+1}:=⟨D.size,by show s.toks+1=_;rw[D.toks];exact u7 tk i 1,D.gens,D.drawn,D.os,D.led,D.own,D.has,D.B7,D.top,D.inj,D.k5,D.kt,D.frame,D.le,by show _<=s.toks+1;have:=D.Aa;exact kZ this,D.fs,D.d6,D.eo,D.dU,D.sM⟩
end
end
section
set_option tactic.hygienic false
section
variable(V:Vw)(B:aS)(Z:ZS)(Y:List Addr)(X:Nat)(R:ZR)
def aA(c:Code)(pos:Pos)(t:ZE)(own:List Frame)(T:LT)(m N j tk i:Nat)(G:ZG)(gl:List GenState)(bg:List aQ)(ob:hP)(ps:List Prop):Prop:=d9 ob/\aO ps/\∀s,Rep V.kt Z Y X T m N j tk i G gl bg s->a8 V.prog V.w B s c pos t own R
def bq:ay->Prop
 |.err _=>False
 |.fin r T m N j tk i G gl bg ob ps=>d9 ob/\aO ps/\∀s,Rep V.kt Z Y X T m N j tk i G gl bg s->R r s
 |.stop c pos t own T m N j tk i G gl bg ob ps=>d9 ob/\aO ps/\∀s,Rep V.kt Z Y X T m N j tk i G gl bg s->a8 V.prog V.w B s c pos t own R
 |.tail c pos T m N j tk i G gl bg ob ps=>d9 ob/\aO ps/\∀s,Rep V.kt Z Y X T m N j tk i G gl bg s->a8 V.prog V.w B s c pos (denote table c) [] R
def dD(F:ZL->ck):Prop:=∀c pos t own T m N j tk i G gl bg ob ps,(∀fr:ZL,bq V B Z Y X R (F fr c pos t own T m N j tk i G gl bg ob ps))->aA V B Z Y X R c pos t own T m N j tk i G gl bg ob ps
end
theorem bX{prog:Program}{w:ZW}{s:ZS}{t:Thread}{x:Step}(Z:t.loud=false)(h:step (denote table) prog w s t=x)(k:stepK (denote table) prog w s t=step (denote table) prog w s t):stepI (denote table) prog w s t=x:=(stepI_quiet _ _ _ Z).trans (k.trans h)
theorem Sa{b:Bool}{α:Type}{x z:α}(h:(match b with|true=>none|false=>some x)=some z):b=false/\x=z:=by
 cases b with
 |true=>exact nS h
 |false=>exact⟨rfl,Option.some.inj h⟩
theorem nk(own st:List Frame)(Y v:Option ZV)(e:topHandled st=Y)(h:uc own Y=some v):topHandled (own++st)=v:=by
 induction own with
 |nil=>exact e.trans (Option.some.inj h)
 |cons F rest Z=>
  cases F with
  |gen=>exact Z h
  |ret k hd g l c p kp=>
   cases hd with
   |none=>exact Z h
   |some x=>
    obtain⟨q,rfl⟩:=Sa h;have q:(x==byPass)=false:=Bool.eq_false_iff.mpr fun e=>by rw[eq_of_beq e]at q;exact Bool.noConfusion q
    show(if(x==byPass)=true then _ else some x)=_
    rw[q];rfl
section
variable{V:Vw}{B:aS}{Z:ZS}{U:List Addr}{Q:Nat}{R:ZR}(P:B.W=V.W)(hB:topHandled B.st=V.hb)
include P hB
omit P hB in
theorem aA.bad{c:Code}{pos:Pos}{t:ZE}{own:List Frame}{T:LT}{m N j tk i:Nat}{G:ZG}{gl:List GenState}{bg:List aQ}{ob:hP}{ps:List Prop}{e:Nat}(H:∀_:ZL,bq V B Z U Q R (ay.err e)):aA V B Z U Q R c pos t own T m N j tk i G gl bg ob ps:=(H []).elim
omit P hB in
theorem dD.to{F:ZL->ck}(S:dD V B Z U Q R F){G:ZG}{ob:hP}{ps:List Prop}{c c':Code}{pos pos':Pos}{t t':ZE}{own k4:List Frame}{T T':LT}{m N j tk i m' N' j' UE i':Nat}{gl UG:List GenState}{bg UH:List aQ}(e:∀s,Rep V.kt Z U Q T m N j tk i G gl bg s->∃s',stepI (denote table) V.prog V.w s ⟨t,c,pos,own++B.st⟩=.go s' ⟨t',c',pos',k4++B.st⟩/\Rep V.kt Z U Q T' m' N' j' UE i' G UG UH s')(H:∀fr:ZL,bq V B Z U Q R (F fr c' pos' t' k4 T' m' N' j' UE i' G UG UH ob ps)):aA V B Z U Q R c pos t own T m N j tk i G gl bg ob ps:=(S _ _ _ _ _ _ _ _ _ _ _ _ _ _ _ H).imp_right fun h=>h.imp_right fun h s D=>(e s D).elim fun _ z=>.step z.1 (h _ z.2)
omit P hB in
theorem dD.st{F:ZL->ck}(S:dD V B Z U Q R F){G:ZG}{ob:hP}{ps:List Prop}{c c':Code}{pos pos':Pos}{t t':ZE}{own k4:List Frame}{T:LT}{m N j tk i:Nat}{gl:List GenState}{bg:List aQ}(e:∀s,Rep V.kt Z U Q T m N j tk i G gl bg s->stepI (denote table) V.prog V.w s ⟨t,c,pos,own++B.st⟩=.go s ⟨t',c',pos',k4++B.st⟩)(H:∀fr:ZL,bq V B Z U Q R (F fr c' pos' t' k4 T m N j tk i G gl bg ob ps)):aA V B Z U Q R c pos t own T m N j tk i G gl bg ob ps:=S.to (fun s D=>⟨s,e s D,D⟩) H
omit P hB in
theorem il{prog:Program}{w:ZW}{s:ZS}{c:Code}{pos:Pos}{st:List Frame}{a:Addr}{p:Option ZV}{k:Obj->ZE}{o:Obj}(h:s.heap.get? a=some o):stepI (denote table) prog w s ⟨.load a p k,c,pos,st⟩=.go s ⟨k o,c,pos,st⟩:=bX rfl (by simp only[step,h]) rfl
omit P hB in
theorem mc{prog:Program}{w:ZW}{s:ZS}{c:Code}{pos:Pos}{st:List Frame}{a:Addr}{k:Option Obj->ZE}{o:Obj}(h:s.heap.get? a=some o):stepI (denote table) prog w s ⟨.loadIfAlive a k,c,pos,st⟩=.go s ⟨k (some o),c,pos,st⟩:=bX rfl (by simp only[step,h]) rfl
omit P hB in
theorem vc{prog:Program}{w:ZW}{s:ZS}{c:Code}{pos:Pos}{st:List Frame}{c':Code}(q:c'.quiet=true):stepI (denote table) prog w s ⟨.pure (.again c'),c,pos,st⟩=.go s ⟨den c',c',pos,st⟩:=by rw[stepI_quiet _ _ _ (by rw[Thread.loud_again,q];rfl),eY];rfl
omit P hB in
theorem step_call{prog:Program}{w:ZW}{s:ZS}{c:Code}{pos:Pos}{st:List Frame}{c':Code}{h:Option ZV}{g:Bool}{l:ZY}{k:Result->ZE}:stepI (denote table) prog w s ⟨.call c' h g l k,c,pos,st⟩=.go s ⟨den c',c',pos,.ret k h g l c pos []::st⟩:=by rw[eY];rfl
omit P hB in
theorem aA.bool{b:Bool}{X Y:ZL->ay}{g:Prop}(h1:b=true->(∀fr,bq V B Z U Q R (X fr))->g)(h0:b=false->(∀fr,bq V B Z U Q R (Y fr))->g)(H:∀fr,bq V B Z U Q R (b.casesOn (Y fr) (X fr))):g:=by
 cases b
 .exact h0 rfl H
 .exact h1 rfl H
omit P hB in
theorem aA.opt{α:Type}{b:Option α}{X:α->ZL->ay}{Y:ZL->ay}{g:Prop}(h1:∀a,b=some a->(∀fr,bq V B Z U Q R (X a fr))->g)(h0:(∀fr,bq V B Z U Q R (Y fr))->g)(H:∀fr,bq V B Z U Q R (b.casesOn (Y fr) fun a=>X a fr)):g:=by
 cases b
 .exact h0 H
 .exact h1 _ rfl H
set_option smartUnfolding false in
theorem tL{F:ZL->ck}(S:dD V B Z U Q R F):dD V B Z U Q R (fun fr=>dflt V (F fr)):=fun c pos t own T m N j tk i G gl bg ob ps=>
 Sem.casesOn (motive:=fun t=>(∀fr:ZL,bq V B Z U Q R (dflt V (F fr) c pos t own T m N j tk i G gl bg ob ps))->aA V B Z U Q R c pos t own T m N j tk i G gl bg ob ps) t
  (pure:=fun f=>f.casesOn (done:=fun f=>own.casesOn aA.bad fun f r=>f.casesOn (ret:=fun _ _ _ _ _ _ _=>S.st fun _ _=>rfl) (gen:=fun _ _ _ _ _=>aA.bad))
   (again:=fun c'=>aA.bool (b:=c'.quiet) (X:=fun fr=>F fr c' pos (den c') own T m N j tk i G gl bg ob ps) (Y:=fun _=>.err 3) (fun q=>S.st fun _ _=>vc q) fun _=>aA.bad))
  (raise:=fun e=>own.casesOn aA.bad fun f r=>f.casesOn (ret:=fun _ _ _ _ _ _ _=>S.st fun _ _=>rfl) (gen:=fun _ _ _ _ _=>aA.bad))
  (rule:=fun _ _=>S.st fun _ _=>rfl)
  («at» :=fun _ _=>S.st fun _ _=>rfl)
  (point:=fun _ _=>S.st fun _ _=>rfl)
  (ask:=fun _=>S.st fun _ _=>rfl)
  (load:=fun a p k=>aA.opt (b:=V.kt.get a) (X:=fun o fr=>F fr c pos (k o) own T m N j tk i G gl bg ob ps) (Y:=fun _=>.err 4) (fun o q=>S.st fun s D=>il (D.kt a o q)) aA.bad)
  (loadIfAlive:=fun a k=>aA.opt (b:=V.kt.get a) (X:=fun o fr=>F fr c pos (k (some o)) own T m N j tk i G gl bg ob ps) (Y:=fun _=>.err 4) (fun o q=>S.st fun s D=>mc (D.kt a o q)) aA.bad)
  (alloc:=fun o k=>aA.bool (b:=o.isFreed) (X:=fun _=>.err 5) (Y:=fun fr=>((T.ins m (N+j) o).get m).casesOn (.err 6) fun _=>F fr c pos (k (N+j)) own (T.ins m (N+j) o) (m+1) N (j+1) tk i G gl bg ob ps) (fun _=>aA.bad) fun hf=>
   aA.opt (b:=(T.ins m (N+j) o).get m) (X:=fun _ fr=>F fr c pos (k (N+j)) own (T.ins m (N+j) o) (m+1) N (j+1) tk i G gl bg ob ps) (Y:=fun _=>.err 6) (fun _ hg=>S.to fun s D=>⟨{s with heap:=s.heap.push o},by rw[←D.size];rfl,D.alloc hf (by rw[hg];rfl)⟩) aA.bad)
  (fresh:=fun k=>S.to fun s D=>⟨{s with toks:=s.toks+1},by rw[←D.toks];rfl,D.fresh⟩)
  (call:=fun _ _ _ _ _=>S.st fun _ _=>step_call)
  (handled:=fun b k=>b.casesOn (aA.opt (b:=uc own V.hb) (X:=fun v fr=>F fr c pos (k v) own T m N j tk i G gl bg ob ps) (Y:=fun _=>.err 7) (fun v q=>S.st fun s D=>by rw[←nk own B.st V.hb v hB q];rfl) aA.bad) aA.bad)
  (stack:=fun k=>S.st fun s D=>by rw[←show(own++B.st).map Frame.where_=own.map Frame.where_++V.W by rw[aL,←P];rfl];rfl)
  (newGen:=fun c' k=>S.to fun s D=>⟨{s with gens:=s.gens.push (.fresh c')},bX rfl (by simp only[step,show s.gens.size=G.size+gl.length by rw[D.gens];simp]) rfl,⟨D.size,D.toks,by show s.gens.push _=_;rw[D.gens];simp,D.drawn,D.os,D.led,D.own,D.has,D.B7,D.top,D.inj,D.k5,D.kt,D.frame,D.le,D.Aa,D.fs,D.d6,D.eo,D.dU,D.sM⟩⟩)
  (unsupported:=fun _=>aA.bad) (finish:=fun _=>aA.bad) (update:=fun _ _ _ _=>aA.bad) (register:=fun _ _=>aA.bad) (choose:=fun _ _ _=>aA.bad) (os:=fun _ _ _=>aA.bad)
  (genState:=fun _ _=>aA.bad) (resume:=fun _ _ _ _=>aA.bad) (yield:=fun _ _ _ _=>aA.bad) (fork:=fun _ _=>aA.bad) (thread:=fun _=>aA.bad) (await:=fun _ _ _ _ _=>aA.bad)
theorem md{F:ZL->ck}(S:dD V B Z U Q R F):∀k,dD V B Z U Q R (fun fr=>IH V (F fr) k)
 |0=>S
 |k+1=>tL P hB (md S k)
end
end
set_option tactic.hygienic false
theorem xn{α:Type}{f:Nat->Option α}{mk:α->Ob}(Z:∀a b,mk a=mk b->a=b){is:ZN}:∀{ps:List α} {l:hP},sL f mk is ps=some l->d9 l->is.map f=ps.map some:=by
 induction is with
 |nil=>
  intro ps l h _;cases ps with
  |nil=>rfl
  |cons=>exact nS h
 |cons x is Y=>
  intro ps l h e;cases ps with
  |nil=>exact nS h
  |cons p ps=>
   obtain⟨y,q,h⟩:=gW.mp h;obtain⟨X,r,rfl⟩:=mK.mp h;have e:=e.cons
   rw[dw,dw,q,Z _ _ e.1,Y r e.2]
theorem l2{α:Type}{f:Nat->Option α}{is:ZN}{ps:List α}(A:is.map f=ps.map some){p:α}(hp:p∈ps):∃x∈is,f x=some p:=aZ.mp (A▸b7 hp)
def At(T:LT)(is:ZN)(ps:ZA):Prop:=is.map T.get=ps.map some
theorem rq{T:LT}{is:ZN}{ps:ZA}{l:hP}:wI T is ps=some l->d9 l->At T is ps:=xn fun a a h=>by injection h
theorem At.p7{T:LT}{is:ZN}{ps:ZA}(A:At T is ps){p:Addr×Obj}:p∈ps->∃x∈is,T.get x=some p:=l2 A
theorem At.holds{T:LT}{h:Heap}(led:∀x a o,T.get x=some (a,o)->h.get? a=some o){is:ZN}{ps:ZA}(A:At T is ps):aR h ps:=fun b hq=>(A.p7 hq).elim fun b z=>led _ _ _ z.2
theorem kl{x:Nat}{l:ZN}(h:eF (x::l)=true):x∉l/\eF l=true:=by
 unfold eF at h;cases q:l.any (Nat.beq x)with
 |true=>rw[q]at h;cases h
 |false=>
  rw[q]at h;refine⟨fun hx=>?_,h⟩
  have:=sk.mp q x hx
  exact this (Nat.beq_refl x)
theorem At.nodup{T:LT}(inj:∀x y a o X,T.get x=some (a,o)->T.get y=some (a,X)->x=y){is:ZN}:∀{ps:ZA},At T is ps->eF is=true->(ps.map (·.1)).Nodup:=by
 induction is with
 |nil=>
  intro ps A _;cases ps with
  |nil=>exact cW
  |cons=>cases A
 |cons x is W=>
  intro ps A h;cases ps with
  |nil=>cases A
  |cons p ps=>
   have A:=List.cons.inj A
   have Y:=kl h
   exact cy.mpr ⟨fun V=>(aZ.mp V).elim fun q hq=>(l2 A.2 hq.1).elim fun y Z=>Y.1 (inj x y p.1 p.2 q.2 A.1 (by rw[←show q.1=p.1 from hq.2];exact Z.2)▸Z.1),W A.2 Y.2⟩
noncomputable def adr(T:LT)(x:Nat):Option Addr:=(T.get x).map (·.1)
theorem ud(T:LT)(k:Nat)(o:Obj)(x:Nat):adr (T.set k o) x=adr T x:=by
 unfold adr;rw[LT.get_set]
 by_cases h:x=k
 .subst h;rw[if_pos rfl];cases T.get x<;>rfl
 .rw [if_neg h]
theorem me:∀(T:LT)(is:ZN)(os:List Obj)(x:Nat),adr (eZ T is os) x=adr T x
 |_,[],_,_=>rfl
 |_,_::_,[],_=>rfl
 |T,i::is,o::os,x=>by
  show adr (eZ (T.set i o) is os) x=_
  rw[me,ud]
theorem qr{T:LT}{x:Nat}{a:Addr}{o:Obj}(h:T.get x=some (a,o)):adr T x=some a:=by unfold adr;rw[h];rfl
theorem ov{T:LT}{x:Nat}{a:Addr}(h:adr T x=some a):∃o,T.get x=some (a,o):=by
 unfold adr at h;cases q:T.get x with
 |none=>rw[q]at h;cases h
 |some p=>rw[q]at h;cases h;exact⟨p.2,rfl⟩
theorem tM{h:Heap}(is:ZN):∀(as:List Addr)(os:List Obj)(T:LT),os.length=as.length->is.map (adr T)=as.map some->aR h (as.zip os)->
  (∀y a o,T.get y=some (a,o)->y∈is\/h.get? a=some o)->∀y a o,(eZ T is os).get y=some (a,o)->h.get? a=some o:=by
 induction is with
 |nil=>exact fun b b b b b b led y a o e=>(led y a o e).elim (fun q=>nomatch q) id
 |cons i is V=>
  intro as os T W em H led;cases as with
  |nil=>cases em
  |cons Y as=>
   cases os with
   |nil=>cases W
   |cons Z os=>
    have em:=List.cons.inj em
    refine V as os (T.set i Z) (Nat.succ.inj W) ((jA fun x b=>ud T i Z x).trans em.2) (fun p hp=>H p (.tail _ hp)) fun y a o e=>?_
    rw[LT.get_set]at e
    by_cases X:y=i
    .rw [if_pos X]at e;obtain⟨S,U⟩:=ov em.1;rw[U]at e;cases e;exact .inr (H (Y,Z) (.head _))
    .rw [if_neg X]at e;exact(led y a o e).elim (fun q=>(bc.mp q).elim (fun q=>absurd q X) .inl) .inr
theorem eP{V:LT}{X:Nat}{P:LT->Nat->ZA->Prop}(h0:P V X [])(S:∀{T Z:LT} {m:Nat} {q:Addr×Obj} {l:ZA},(∀{y p},Z.get y=some p->(y=m/\q=p)\/(y≠m/\T.get y=some p))->(∀i,Z.get i=if i=m then some q else T.get i)->P Z (m+1) l->P T m (q::l)){l:ZA}:∀{T:LT} {m:Nat},dm T m l=some (V,X)->P T m l:=by
 induction l with
 |nil=>intro T m h;cases h;exact h0
 |cons q l U=>
  intro T m h
  replace h:(match (T.ins m q.1 q.2).get m with|some _=>dm (T.ins m q.1 q.2) (m+1) l|none=>none)=some (V,X):=h
  cases W:(T.ins m q.1 q.2).get m with
  |none=>rw[W]at h;exact nS h
  |some z=>
   rw[W]at h;have g:=LT.get_ins q.1 q.2 T m (by rw[W];rfl)
   refine S (fun{y p} e=>?_) g (U h)
   rw[g]at e
   by_cases Y:y=m
   .rw [if_pos Y]at e;exact .inl ⟨Y,Option.some.inj e⟩
   .rw [if_neg Y]at e;exact .inr ⟨Y,e⟩
theorem eQ{l:ZA}{T Z:LT}{m Y:Nat}(h:dm T m l=some (Z,Y))(y:Nat)(p:Addr×Obj)(e:Z.get y=some p):T.get y=some p\/p∈l:=eP (P:=fun T a l=>T.get y=some p\/p∈l) (.inl e) (fun u a X=>X.elim (fun e=>(u e).elim (fun z=>.inr (z.2▸.head _)) fun z=>.inl z.2) fun h=>.inr (.tail _ h)) h
theorem mf{l:ZA}{T W:LT}{m S:Nat}(h:dm T m l=some (W,S)):(l.map (·.1)).Nodup->(∀y a o,T.get y=some (a,o)->∀p∈l,p.1≠a)->
  (∀x y a o Z,T.get x=some (a,o)->T.get y=some (a,Z)->x=y)->∀x y a o Z,W.get x=some (a,o)->W.get y=some (a,Z)->x=y:=eP (P:=fun T b l=>(l.map fun p:Addr×Obj=>p.1).Nodup->(∀y a o,T.get y=some (a,o)->∀p∈l,p.1≠a)->(∀x y a o Z,T.get x=some (a,o)->T.get y=some (a,Z)->x=y)->∀x y a o Z,W.get x=some (a,o)->W.get y=some (a,Z)->x=y)
  (fun b b inj=>inj) (fun{_ _ _ q _} u _ R V ap inj=>R (cy.mp V).2
   (fun y a o e p hp=>(u e).elim (fun z k=>(cy.mp V).1 (by show q.1∈_;rw[show q.1=p.1 from(congrArg (·.1) z.2).trans k.symm];exact b7 hp)) fun z=>ap y a o z.2 p (.tail _ hp))
   fun x y a o Z Q U=>(u Q).elim (fun X=>(u U).elim (fun Y=>X.1.trans Y.1.symm) fun Y=>absurd (congrArg (·.1) X.2) (ap y a Z Y.2 q (.head _)))
    fun X=>(u U).elim (fun Y=>absurd (congrArg (·.1) Y.2) (ap x a o X.2 q (.head _))) fun Y=>inj x y a o Z X.2 Y.2) h
theorem km{l:ZA}{T Y:LT}{m Z:Nat}(h:dm T m l=some (Y,Z)):m<=Z/\(∀x,x<m->Y.get x=T.get x)/\(∀x p,Y.get x=some p->T.get x=some p\/(m<=x/\x<Z)):=eP (P:=fun T m a=>m<=Z/\(∀x,x<m->Y.get x=T.get x)/\(∀x p,Y.get x=some p->T.get x=some p\/(m<=x/\x<Z)))
  ⟨aM _,fun a a=>rfl,fun a a e=>.inl e⟩
  (fun u g X=>⟨jB X.1,fun x hx=>(X.2.1 x (Nat.lt_succ_of_lt hx)).trans ((g x).trans (if_neg (mJ hx))),
   fun x p e=>(X.2.2 x p e).elim (fun e=>(u e).elim (fun z=>.inr ⟨dX z.1.symm,z.1▸X.1⟩) fun z=>.inl z.2) fun e=>.inr ⟨jB e.1,e.2⟩⟩) h
theorem Rep.ai{kt:KT}{X s I:ZS}{U:List Addr}{F:Nat}{T B:LT}{m E N j tk i:Nat}{G:ZG}{gl:List GenState}{bg:List aQ}(D:Rep kt X U F T m N j tk i G gl bg s){is:ZN}{R:ZA}{b:vb}(A:At T is R)(P:cf s I R b)(M:dm (eZ T is b.post) m b.new=some (B,E)):Rep kt X U F B E b.N 0 b.t 0 G (gl++List.replicate b.ng GenState.finished) (bg++b.fs) I:=by
 have emap:is.map (adr T)=(R.map (·.1)).map some:=by
  have A:=congrArg (List.map (Option.map (·.1))) A
  rw[dY,dY]at A;rw[dY];exact A
 have K:∀y a o,T.get y=some (a,o)->y∈is\/I.heap.get? a=some o:=by
  intro y a o e
  by_cases C:y∈is
  .exact .inl C
  .refine .inr (P.ext.frame a o (D.led _ _ _ e) fun O=>?_)
   obtain⟨p,hp,rfl⟩:=aZ.mp O;obtain⟨x,hx,ex⟩:=A.p7 hp;exact C (D.inj _ _ _ _ _ e (show T.get x=some (p.1,p.2)from ex)▸hx)
 have L:=tM is _ b.post T (by rw[P.len,aB]) emap P.upd K
 have S:=me T is b.post
 have back:∀{y a o},(eZ T is b.post).get y=some (a,o)->∃V,T.get y=some (a,V):=fun e=>ov ((S _).symm.trans (qr e))
 have live:∀{a o},s.heap.get? a=some o->∀p∈b.new,p.1≠a:=fun e p hp z=>by have:=P.free p hp;rw[z,e]at this;cases this
 have ap:∀y a o,(eZ T is b.post).get y=some (a,o)->∀p∈b.new,p.1≠a:=fun y a o e=>by
  obtain⟨V,Y⟩:=back e;exact live (D.led _ _ _ Y)
 have kp:=km M
 refine⟨by rw[P.size,Nat.add_zero],by rw[P.toks,Nat.add_zero],?_,P.ext.drawn.trans D.drawn,P.ext.os.trans D.os,fun y a o e=>?_,fun y a o e=>?_,fun a r=>?_,au D.B7 kp.1,fun y p e=>?_,?_,fun l Z p hp=>?_,fun a o e=>?_,fun a o e q=>?_,au D.le P.ext.size,au D.Aa P.ext.toks,fun l Z p hp=>?_,fun l Z=>?_,fun l Z p hp x o e=>?_,fun k l e u p hp=>?_,by have:=D.sM;simp;exact kZ this⟩
 .rw [P.gens,D.gens,Array.append_assoc];congr 1;simp
 .rcases eQ M y (a,o) e with Y|Y
  .exact L y a o Y
  .exact P.new _ Y
 .rcases eQ M y (a,o) e with Y|Y
  .obtain⟨V,H⟩:=back Y;exact D.own _ _ _ H
  .have fr:=P.free _ Y
   have z:X.heap.get? a=none:=by
    cases q:X.heap.get? a with
    |none=>rfl
    |some V=>
     by_cases J:a∈U
     .obtain⟨x,Q,W⟩:=D.has a J;have:=D.led _ _ _ W;rw[fr]at this;cases this
     .have:=D.frame a V q J;rw[fr]at this;cases this
   refine⟨?_,.inr z,fun c=>z⟩
   cases q:kt.get a with
   |none=>rfl
   |some V=>have:=D.kt _ _ q;rw[fr]at this;cases this
 .obtain⟨x,o,e⟩:=D.has a r;have lt:=D.top _ _ e
  obtain⟨Q,W⟩:=ov ((S x).trans (qr e));exact⟨x,Q,by rw[kp.2.1 x lt];exact W⟩
 .rcases kp.2.2 y p e with Y|Y
  .obtain⟨Q,W⟩:=back (a:=p.1) (o:=p.2) Y;exact jD (D.top _ _ W) kp.1
  .exact Y.2
 .refine mf M P.nodup ap (fun x y a o V n W=>?_)
  obtain⟨_,v⟩:=back n;obtain⟨_,w⟩:=back W;exact D.inj _ _ _ _ _ v w
 .rcases bJ.mp Z with Z|Z
  .exact D.k5 l Z p hp
  .have fr:=P.dU l Z p hp
   cases q:kt.get p.1 with
   |none=>rfl
   |some V=>have:=D.kt _ _ q;rw[fr]at this;cases this
 .refine P.ext.frame a o (D.kt _ _ e) fun O=>?_
  obtain⟨p,hp,rfl⟩:=aZ.mp O;obtain⟨x,hx,ex⟩:=A.p7 hp;have:=(D.own x p.1 p.2 ex).1
  rw[e]at this;cases this
 .refine P.ext.frame a o (D.frame _ _ e q) fun O=>?_
  obtain⟨p,hp,rfl⟩:=aZ.mp O;obtain⟨x,hx,ex⟩:=A.p7 hp;rcases(D.own x p.1 p.2 ex).2.1 with h|h
  .exact q h
  .rw [e]at h;cases h
 .rcases bJ.mp Z with Z|Z
  .refine P.ext.frame _ _ (D.fs l Z p hp) fun O=>?_
   obtain⟨q,hq,eq⟩:=aZ.mp O;obtain⟨x,hx,ex⟩:=A.p7 hq;exact D.eo l Z p hp x q.2 (by rw[←eq];exact ex)
  .exact P.iF l Z p hp
 .rcases bJ.mp Z with Z|Z
  .exact D.d6 l Z
  .exact P.d6 l Z
 .rcases bJ.mp Z with Z|Z
  .rcases eQ M x (p.1,o) e with Y|Y
   .obtain⟨Q,W⟩:=back Y;exact D.eo l Z p hp x Q W
   .have:=P.free _ Y
    rw[D.fs l Z p hp]at this;cases this
  .rcases eQ M x (p.1,o) e with Y|Y
   .obtain⟨Q,W⟩:=back Y;have:=P.dU l Z p hp
    rw[D.led _ _ _ W]at this;cases this
   .exact P.eo l Z p hp (aZ.mpr ⟨_,Y,rfl⟩)
 .rw [List.getElem?_append]at e;split at e
  .exact D.dU k l e u p hp
  .have Z:=List.mem_of_getElem? e
   have fr:=P.dU l Z p hp
   cases q:X.heap.get? p.1 with
   |none=>rfl
   |some V=>
    by_cases J:p.1∈U
    .obtain⟨x,Q,W⟩:=D.has _ J;have:=D.led _ _ _ W;rw[fr]at this;cases this
    .have:=D.frame _ V q J;rw[fr]at this;cases this
section
set_option tactic.hygienic false
section
variable{V:Vw}{B:aS}{aI:ZS}{old:List Addr}{nb:Nat}{R:ZR}(Z:B.W=V.W)(hB:topHandled B.st=V.hb)
def rL(V:Vw)(B:aS)(aI:ZS)(old:List Addr)(nb:Nat)(R:ZR)(F:ZL->ZL->ck):Prop:=∀Y,dD V B aI old nb R (F Y)
theorem ve{bg:List aQ}{is:ZN}{ps:List aQ}{l:hP}(h:wJ bg is ps=some l)(e:d9 l)(p:aQ)(hp:p∈ps):p∈bg:=(l2 (xn (fun a a h=>by injection h) h e) hp).elim fun a z=>List.mem_of_getElem? z.2
theorem yU{kt:KT}{aI s:ZS}{old:List Addr}{nb:Nat}{T:LT}{m N j tk i:Nat}{G:ZG}{gl:List GenState}{bg:List aQ}(D:Rep kt aI old nb T m N j tk i G gl bg s){is:ZN}{Y:ZA}(A:At T is Y){l:aQ}(h:l∈bg):kN kt s.heap (Y.map (·.1)) l:=⟨D.fs l h,D.k5 l h,fun p hp X=>by
  obtain⟨q,hq,eq⟩:=aZ.mp X;obtain⟨x,hx,ex⟩:=A.p7 hq;exact D.eo l h p hp x q.2 (by rw[←eq];exact ex),D.d6 l h⟩
theorem Fz{Y:Bool}{X:Option (Option ZV)}{W:aS}(q:EP Y X=true)(h:∀v,X=some v->topHandled W.st=v):UD Y W:=by
 cases Y with
 |true=>trivial
 |false=>
  rcases X with _|_|v
  .cases q
  .exact h none rfl
  .cases q
section
set_option smartUnfolding false
theorem Kl{t:ZE}{C:ZE->Prop}{e:Nat}{f:ZL->Addr->Option ZV->(Obj->ZE)->ay}{g:ZL->Addr->(Option Obj->ZE)->ay}(h0:∀t,(∀_:ZL,bq V B aI old nb R (.err e))->C t)(hf:∀a b c,(∀fr,bq V B aI old nb R (f fr a b c))->C (.load a b c))(Y:∀a b,(∀fr,bq V B aI old nb R (g fr a b))->C (.loadIfAlive a b)):(∀fr,bq V B aI old nb R (match t with|.load a b c=>f fr a b c|.loadIfAlive a b=>g fr a b|_=>.err e))->C t:=t.casesOn (fun d=>h0 _) (fun d=>h0 _) (fun d=>h0 _) (fun d=>h0 _) (fun d d=>h0 _) (fun d d=>h0 _) (fun d d d=>hf _ _ _) (fun d d d d=>h0 _) (fun d d=>h0 _) (fun d d=>Y _ _) (fun d d=>h0 _) (fun d d=>h0 _) (fun d=>h0 _) (fun d=>h0 _) (fun d d d=>h0 _) (fun d d d=>h0 _) (fun d d d d d=>h0 _) (fun d d=>h0 _) (fun d d=>h0 _) (fun d d=>h0 _) (fun d d d d=>h0 _) (fun d d d d=>h0 _) (fun d=>h0 _) (fun d d=>h0 _) (fun d=>h0 _) (fun d d d d d=>h0 _)
theorem Km{t:ZE}{C:ZE->Prop}{e:Nat}{f:ZL->Addr->Option ZV->(Obj->Obj)->(Unit->ZE)->ay}(h0:∀t,(∀_:ZL,bq V B aI old nb R (.err e))->C t)(hf:∀a b c d,(∀fr,bq V B aI old nb R (f fr a b c d))->C (.update a b c d)):(∀fr,bq V B aI old nb R (match t with|.update a b c d=>f fr a b c d|_=>.err e))->C t:=t.casesOn (fun g=>h0 _) (fun g=>h0 _) (fun g=>h0 _) (fun g=>h0 _) (fun g g=>h0 _) (fun g g=>h0 _) (fun g g g=>h0 _) (fun g g g g=>hf _ _ _ _) (fun g g=>h0 _) (fun g g=>h0 _) (fun g g=>h0 _) (fun g g=>h0 _) (fun g=>h0 _) (fun g=>h0 _) (fun g g g=>h0 _) (fun g g g=>h0 _) (fun g g g g g=>h0 _) (fun g g=>h0 _) (fun g g=>h0 _) (fun g g=>h0 _) (fun g g g g=>h0 _) (fun g g g g=>h0 _) (fun g=>h0 _) (fun g g=>h0 _) (fun g=>h0 _) (fun g g g g g=>h0 _)
theorem Ko{t:ZE}{C:ZE->Prop}{e:Nat}{f:ZL->PySem.Fin->ay}{g:ZL->ZV->ay}(h0:∀t,(∀_:ZL,bq V B aI old nb R (.err e))->C t)(hf:∀a,(∀fr,bq V B aI old nb R (f fr a))->C (.pure a))(Y:∀a,(∀fr,bq V B aI old nb R (g fr a))->C (.raise a)):(∀fr,bq V B aI old nb R (match t with|.pure a=>f fr a|.raise a=>g fr a|_=>.err e))->C t:=t.casesOn (fun b=>hf _) (fun b=>Y _) (fun b=>h0 _) (fun b=>h0 _) (fun b b=>h0 _) (fun b b=>h0 _) (fun b b b=>h0 _) (fun b b b b=>h0 _) (fun b b=>h0 _) (fun b b=>h0 _) (fun b b=>h0 _) (fun b b=>h0 _) (fun b=>h0 _) (fun b=>h0 _) (fun b b b=>h0 _) (fun b b b=>h0 _) (fun b b b b b=>h0 _) (fun b b=>h0 _) (fun b b=>h0 _) (fun b b=>h0 _) (fun b b b b=>h0 _) (fun b b b b=>h0 _) (fun b=>h0 _) (fun b b=>h0 _) (fun b=>h0 _) (fun b b b b b=>h0 _)
theorem Kq{t:ZE}{C:ZE->Prop}{e:Nat}{f:ZL->PySem.Fin->ay}(h0:∀t,(∀_:ZL,bq V B aI old nb R (.err e))->C t)(hf:∀a,(∀fr,bq V B aI old nb R (f fr a))->C (.pure a)):(∀fr,bq V B aI old nb R (match t with|.pure a=>f fr a|_=>.err e))->C t:=t.casesOn (fun b=>hf _) (fun b=>h0 _) (fun b=>h0 _) (fun b=>h0 _) (fun b b=>h0 _) (fun b b=>h0 _) (fun b b b=>h0 _) (fun b b b b=>h0 _) (fun b b=>h0 _) (fun b b=>h0 _) (fun b b=>h0 _) (fun b b=>h0 _) (fun b=>h0 _) (fun b=>h0 _) (fun b b b=>h0 _) (fun b b b=>h0 _) (fun b b b b b=>h0 _) (fun b b=>h0 _) (fun b b=>h0 _) (fun b b=>h0 _) (fun b b b b=>h0 _) (fun b b b b=>h0 _) (fun b=>h0 _) (fun b b=>h0 _) (fun b=>h0 _) (fun b b b b b=>h0 _)
theorem B8{t:ZE}{C:ZE->Prop}{e:Nat}{f:ZL->Code->Option ZV->Bool->ZY->(Result->ZE)->ay}{g:ZL->PySem.Fin->ay}(h0:∀t,(∀_:ZL,bq V B aI old nb R (.err e))->C t)(hf:∀a b c d e,(∀fr,bq V B aI old nb R (f fr a b c d e))->C (.call a b c d e))(Y:∀a,(∀fr,bq V B aI old nb R (g fr a))->C (.pure a)):(∀fr,bq V B aI old nb R (match t with|.call a b c d e=>f fr a b c d e|.pure a=>g fr a|_=>.err e))->C t:=t.casesOn (fun h=>Y _) (fun h=>h0 _) (fun h=>h0 _) (fun h=>h0 _) (fun h h=>h0 _) (fun h h=>h0 _) (fun h h h=>h0 _) (fun h h h h=>h0 _) (fun h h=>h0 _) (fun h h=>h0 _) (fun h h=>h0 _) (fun h h=>h0 _) (fun h=>h0 _) (fun h=>h0 _) (fun h h h=>h0 _) (fun h h h=>h0 _) (fun h h h h h=>hf _ _ _ _ _) (fun h h=>h0 _) (fun h h=>h0 _) (fun h h=>h0 _) (fun h h h h=>h0 _) (fun h h h h=>h0 _) (fun h=>h0 _) (fun h h=>h0 _) (fun h=>h0 _) (fun h h h h h=>h0 _)
theorem Kr{t:ZE}{C:ZE->Prop}{e:Nat}{f:ZL->Nat->(GenStatus×Option (ZC)->ZE)->ay}{g:ZL->Nat->Resume->ZY->(GenResult->ZE)->ay}{h:ZL->ZV->Bool->ZY->(Resume->ZE)->ay}{i:ZL->PySem.Fin->ay}{j:ZL->ZV->ay}(h0:∀t,(∀_:ZL,bq V B aI old nb R (.err e))->C t)(hf:∀a b,(∀fr,bq V B aI old nb R (f fr a b))->C (.genState a b))(U:∀a b c d,(∀fr,bq V B aI old nb R (g fr a b c d))->C (.resume a b c d))(W:∀a b c d,(∀fr,bq V B aI old nb R (h fr a b c d))->C (.yield a b c d))(X:∀a,(∀fr,bq V B aI old nb R (i fr a))->C (.pure a))(Y:∀a,(∀fr,bq V B aI old nb R (j fr a))->C (.raise a)):(∀fr,bq V B aI old nb R (match t with|.genState a b=>f fr a b|.resume a b c d=>g fr a b c d|.yield a b c d=>h fr a b c d|.pure a=>i fr a|.raise a=>j fr a|_=>.err e))->C t:=t.casesOn (fun k=>X _) (fun k=>Y _) (fun k=>h0 _) (fun k=>h0 _) (fun k k=>h0 _) (fun k k=>h0 _) (fun k k k=>h0 _) (fun k k k k=>h0 _) (fun k k=>h0 _) (fun k k=>h0 _) (fun k k=>h0 _) (fun k k=>h0 _) (fun k=>h0 _) (fun k=>h0 _) (fun k k k=>h0 _) (fun k k k=>h0 _) (fun k k k k k=>h0 _) (fun k k=>h0 _) (fun k k=>h0 _) (fun k k=>hf _ _) (fun k k k k=>U _ _ _ _) (fun k k k k=>W _ _ _ _) (fun k=>h0 _) (fun k k=>h0 _) (fun k=>h0 _) (fun k k k k k=>h0 _)
theorem dD.ad{F:ZL->ck}(S:dD V B aI old nb R F){G:ZG}{ob:hP}{ps:List Prop}{a b:Nat}{c K:Code}{pos pos':Pos}{t t':ZE}{own Y:List Frame}{T J:LT}{m N j tk i P N' O X M:Nat}{gl W:List GenState}{bg U:List aQ}(e:a=b->∀s,Rep V.kt aI old nb T m N j tk i G gl bg s->∃Q,stepI (denote table) V.prog V.w s ⟨t,c,pos,own++B.st⟩=.go Q ⟨t',K,pos',Y++B.st⟩/\Rep V.kt aI old nb J P N' O X M G W U Q)(H:∀fr:ZL,bq V B aI old nb R (F fr K pos' t' Y J P N' O X M G W U ((.a a,.a b)::ob) ps)):aA V B aI old nb R c pos t own T m N j tk i G gl bg ob ps:=(S _ _ _ _ _ _ _ _ _ _ _ _ _ _ _ H).elim fun L h=>⟨L.cons.2,h.1,fun s D=>(e (by have:=L.cons.1;injection this) s D).elim fun d z=>.step z.1 (h.2 _ z.2)⟩
end
theorem VV{W:ZC}{S:kM}(e:(II W S).1=(II W S).2):S.ok W:=by
 cases S with
 |exact W=>injection e
 |kinds ks=>injection e
 |fq=>injection e
include Z hB in
set_option smartUnfolding false in
theorem mg{O:aX V.prog V.w V.kt}{bb:ZL}{W':ZC}{hb:Option (Option ZV)}{c':Code}{cont:ZN->ZL->Result->ck}{c:Code}{pos:Pos}{t:ZE}{own:List Frame}{T:LT}{m N j tk i:Nat}{G:ZG}{gl:List GenState}{bg:List aQ}{ob:hP}{ps:List Prop}(c₁:Code)(ER:Pos)(ni:Result->ZE)(rM:List Frame)(B':aS)(Sb:B'.W=W')(Sd:∀v,hb=some v->topHandled B'.st=v)(K:∀f r T m N j tk i gl bg ob ps,(∀fr:ZL,bq V B aI old nb R (cont f fr r c pos t own T m N j tk i G gl bg ob ps))->aA V B aI old nb R c₁ ER (ni r) rM T m N j tk i G gl bg ob ps)(H:∀fr:ZL,bq V B aI old nb R (zC O bb (fr.headD []) hb W' c' (cont (fr.headD []) fr.tail) c pos t own T m N j tk i G gl bg ob ps))(R₀:(s:ZS)->(∀R',a8 V.prog V.w B' s c' pos (denote table c') [] R'->(∀r s',R' r s'->a8 V.prog V.w B s' c₁ ER (ni r) rM R)->a8 V.prog V.w B s c pos t own R)):aA V B aI old nb R c pos t own T m N j tk i G gl bg ob ps:=by
 revert H;refine aA.bool (b:=EP O.hh hb) (fun VW=>?_) (fun _=>aA.bad)
 refine aA.bool (b:=eF (O.A bb c' (N+j) (tk+i) T).hQ) (fun IM=>?_) (fun _=>aA.bad)
 refine aA.opt (b:=wI T (O.A bb c' (N+j) (tk+i) T).hQ (O.A bb c' (N+j) (tk+i) T).pre) (fun l hp=>?_) aA.bad
 refine aA.opt (b:=wJ bg (O.A bb c' (N+j) (tk+i) T).UC (O.A bb c' (N+j) (tk+i) T).EO) (fun lb VX H=>?_) aA.bad
 have each:∀f,∃T' m',dm (eZ T (O.A bb c' (N+j) (tk+i) T).hQ (O.B bb c' (N+j) (tk+i) T f).post) m (O.B bb c' (N+j) (tk+i) T f).new=some (T',m')/\
   aA V B aI old nb R c₁ ER (ni (O.B bb c' (N+j) (tk+i) T f).r) rM T' m' (O.B bb c' (N+j) (tk+i) T f).N 0 (O.B bb c' (N+j) (tk+i) T f).t 0 G (gl++List.replicate (O.B bb c' (N+j) (tk+i) T f).ng GenState.finished) (bg++(O.B bb c' (N+j) (tk+i) T f).fs)
  ((.c c',.c (O.A bb c' (N+j) (tk+i) T).code)::II W' (O.A bb c' (N+j) (tk+i) T).W::(l++(lb++ob))) ((O.A bb c' (N+j) (tk+i) T).ps++ps):=by
  intro f;exact aA.opt (b:=dm (eZ T (O.A bb c' (N+j) (tk+i) T).hQ (O.B bb c' (N+j) (tk+i) T f).post) m (O.B bb c' (N+j) (tk+i) T f).new) (Y:=fun _=>.err 21) (fun z hi H=>⟨z.1,z.2,hi,K f _ _ z.2 _ _ _ _ _ _ _ _ H⟩) (fun H=>False.elim (H [])) fun fr=>H (f::fr)
 obtain⟨_,_,_,g1,g2,_⟩:=each [];obtain⟨e1,g1⟩:=g1.cons;obtain⟨e2,g1⟩:=g1.cons;obtain⟨e3,g1⟩:=g1.app;obtain⟨e5,g1⟩:=g1.app;obtain⟨q1,q2⟩:=g2.app;refine⟨g1,q2,fun s D=>?_⟩
 have A:=rq hp e3
 have VY:=ve VX e5
 have ok:=O.ok bb c' T s B' pos
 rw[D.size,D.toks]at ok;exact R₀ s _ (ok (by injection e1) q1 D.kt (A.holds D.led) (A.nodup D.inj IM) (fun p hp=>(A.p7 hp).elim fun _ h=>(D.own _ _ _ h.2).1) (Fz VW Sd) (fun l hl=>yU D A (VY l hl)) (VV (Sb.symm▸e2))) fun r s' ⟨f,e,P⟩=>
  e▸(each f).elim fun T' h=>h.elim fun m' h=>h.2.2.2 s' (D.ai A P h.1)
theorem ma.inv{prog:Program}{w:ZW}{s V:ZS}{t t':Thread}(h:ma prog w s t V t'):(s=V/\t=t')\/∃X Y,stepI (denote table) prog w s t=.go X Y/\ma prog w X Y V t':=by
 obtain⟨n,h⟩:=h;cases n with
 |zero=>
  simp only[runNI,Run.running.injEq]at h;exact .inl h
 |succ n=>
  refine .inr ?_;simp only[runNI]at h;cases e:stepI (denote table) prog w s t with
  |go W U=>rw[e]at h;exact⟨_,_,rfl,n,h⟩
  |halt o W=>rw[e]at h;cases h
theorem ow{prog:Program}{w:ZW}{B:aS}{s:ZS}{c:Code}{pos:Pos}{own:List Frame}{R:ZR}{t:ZE}(h:a8 prog w B s c pos t own R)(hn:∀r,t≠leaf r):∃X Y,stepI (denote table) prog w s ⟨t,c,pos,own++B.st⟩=.go X Y/\∃r W V pos',R r W/\ma prog w X Y W ⟨leaf r,V,pos',B.st⟩:=by
 obtain⟨r,W,V,pos',U,h⟩:=h;rcases h.inv with ⟨_,e⟩|⟨X,Y,e,h⟩
 .exact absurd (congrArg Thread.cur e) (hn r)
 .exact⟨X,Y,e,r,W,V,pos',U,h⟩
theorem ox{prog:Program}{w:ZW}{s:ZS}{c:Code}{pos:Pos}{st:List Frame}{a:Addr}{p:Option ZV}{f:Obj->Obj}{k:Unit->ZE}{o:Obj}(h:s.heap.get? a=some o):stepI (denote table) prog w s ⟨.update a p f k,c,pos,st⟩=.go {s with heap:=s.heap.update a f} ⟨k (),c,pos,st⟩:=bX rfl (by simp only[step,h,Option.isSome_some,if_true]) rfl
theorem my{prog:Program}{w:ZW}{s:ZS}{c:Code}{pos:Pos}{st:List Frame}{o:Obj}{k:Addr->ZE}:stepI (denote table) prog w s ⟨.alloc o k,c,pos,st⟩=.go {s with heap:=s.heap.push o} ⟨k s.heap.objs.size,c,pos,st⟩:=bX rfl (by simp only[step]) rfl
theorem vf{prog:Program}{w:ZW}{s:ZS}{c:Code}{pos:Pos}{st:List Frame}{a:Addr}{p:Option ZV}{k:Obj->ZE}(g:s.heap.get? a=none){X:ZS}{Y:Thread}:stepI (denote table) prog w s ⟨.load a p k,c,pos,st⟩≠.go X Y:=fun e=>by have z:=(bX (prog:=prog) (w:=w) (t:=⟨.load a p k,c,pos,st⟩) (x:=.halt (.stuck (if a<s.heap.objs.size then "load: the object has been freed" else "load: no object at this address")) s) rfl (by simp only[step,g]) rfl).symm.trans e;cases z
theorem Ax{prog:Program}{w:ZW}{s:ZS}{c:Code}{pos:Pos}{st:List Frame}{a:Addr}{p:Option ZV}{f:Obj->Obj}{k:Unit->ZE}(g:s.heap.get? a=none){X:ZS}{Y:Thread}:stepI (denote table) prog w s ⟨.update a p f k,c,pos,st⟩≠.go X Y:=fun e=>by have z:=(bX (prog:=prog) (w:=w) (t:=⟨.update a p f k,c,pos,st⟩) (x:=.halt (.stuck "update: no object at this address, or it has been freed") s) rfl (by simp only[step,g];rfl) rfl).symm.trans e;cases z
theorem rN{prog:Program}{w:ZW}{B:aS}{s S:ZS}{c P:Code}{pos pos':Pos}{own Y:List Frame}{R:ZR}{t t':ZE}(h:a8 prog w B s c pos t own R)(hn:∀r,t≠leaf r)(e:stepI (denote table) prog w s ⟨t,c,pos,own++B.st⟩=.go S ⟨t',P,pos',Y++B.st⟩):a8 prog w B S P pos' t' Y R:=by obtain⟨T,U,Q,r,W,V,X,O,q⟩:=ow h hn;rw[e]at Q;cases Q;exact⟨r,W,V,X,O,q⟩
theorem FA{prog:Program}{w:ZW}{B:aS}{c:Code}{pos:Pos}{own:List Frame}{R:ZR}{aJ:ZC}(X:(c,pos)::(own++B.st).map Frame.where_=aJ){t t':ZE}(h:Lk aJ t t'):∀{s:ZS},a8 prog w B s c pos t' own R->a8 prog w B s c pos t own R:=by
 induction h with
 |refl t=>exact fun h=>h
 | @load a p k k' h Y=>
  intro s q;have hn:∀r,Sem.load a p k'≠leaf r:=fun r=>by cases r<;>(intro z;cases z)
  cases g:s.heap.get? a with
  |none=>obtain⟨_,_,e,_⟩:=ow q hn;exact absurd e (vf g)
  |some o=>exact .step (il g) (Y o (rN q hn (il g)))
 | @update a p f k k' h Y=>
  intro s q;have hn:∀r,Sem.update a p f k'≠leaf r:=fun r=>by cases r<;>(intro z;cases z)
  cases g:s.heap.get? a with
  |none=>obtain⟨_,_,e,_⟩:=ow q hn;exact absurd e (Ax g)
  |some o=>exact .step (ox g) (Y (rN q hn (ox g)))
 |alloc h Y=>exact fun q=>.step my (Y _ (rN q (fun r=>by cases r<;>(intro z;cases z)) my))
 |stack h Y=>
  intro s q;refine .step (s':=s) (c':=c) (pos':=pos) (k4:=own) ?_ (Y q);rw[←X];exact bX rfl rfl rfl
theorem hV:∀{own st:List Frame} {Y:List Frame} {b:Nat×(GenResult->ZE)×Code×Pos} {rest:List Frame},splitAtGen own=some (Y,b,rest)->splitAtGen (own++st)=some (Y,b,rest++st)
 |[],_,_,_,_,h=>nomatch h
 |.gen g k l c p::own,st,Y,b,rest,h=>by
  simp only[splitAtGen,Option.some.injEq,Prod.mk.injEq]at h;obtain⟨rfl,rfl,rfl⟩:=h;rfl
 |.ret k hd g l c p kp::own,st,Y,b,rest,h=>by
  simp only[splitAtGen,Option.map_eq_some_iff]at h;obtain⟨⟨W,U,V⟩,X,h2⟩:=h;simp only[Prod.mk.injEq]at h2;obtain⟨rfl,rfl,rfl⟩:=h2;show(splitAtGen (own++st)).map _=_
  rw[hV X];rfl
theorem Rep.Se{kt:KT}{aI s:ZS}{old:List Addr}{nb:Nat}{T:LT}{m N j tk i:Nat}{G:ZG}{gl:List GenState}{bg:List aQ}(D:Rep kt aI old nb T m N j tk i G gl bg s)(x:Nat)(st:GenState):Rep kt aI old nb T m N j tk i G (gl.set x st) bg {s with gens:=s.gens.setIfInBounds (G.size+x) st}:=by
 refine⟨D.size,D.toks,?_,D.drawn,D.os,D.led,D.own,D.has,D.B7,D.top,D.inj,D.k5,D.kt,D.frame,D.le,D.Aa,D.fs,D.d6,D.eo,D.dU,D.sM⟩;show s.gens.setIfInBounds (G.size+x) st=_
 rw[D.gens];apply gb.mp;simp[List.set_append]
theorem ue{kt:KT}{aI s:ZS}{old:List Addr}{nb:Nat}{T:LT}{m N j tk i:Nat}{G:ZG}{gl:List GenState}{bg:List aQ}(D:Rep kt aI old nb T m N j tk i G gl bg s){x:Nat}{st:GenState}(h:gl[x]?=some st):s.gens[G.size+x]?=some st:=by rw[D.gens];rw[Array.getElem?_append_right (b8 G.size x)];simpa using h
section
variable{prog:Program}{w:ZW}{s:ZS}{c:Code}{pos:Pos}{S:List Frame}{g:Nat}
theorem Ay{st:GenState}(h:s.gens[g]?=some st){k:GenStatus×Option (ZC)->ZE}:stepI (denote table) prog w s ⟨.genState g k,c,pos,S⟩=.go s ⟨k (IK st),c,pos,S⟩:=bX rfl (by simp only[step,h];cases st<;>rfl) rfl
theorem Az{Y:Code}(h:s.gens[g]?=some (.fresh Y)){l:ZY}{k:GenResult->ZE}:stepI (denote table) prog w s ⟨.resume g (.send .none) l k,c,pos,S⟩=.go {s with gens:=s.gens.setIfInBounds g .running} ⟨den Y,Y,pos,.gen g k l c pos::S⟩:=bX rfl (by simp only[step,h,eY]) rfl
theorem AA{X:Resume->ZE}{U:ZY}{V:Code}{Y:Pos}{W:List Frame}{cl:Bool}(h:s.gens[g]?=some (.suspended X U V Y W cl)){r:Resume}{l:ZY}{k:GenResult->ZE}:stepI (denote table) prog w s ⟨.resume g r l k,c,pos,S⟩=.go {s with gens:=s.gens.setIfInBounds g .running} ⟨X r,V,Y,W++.gen g k l c pos::S⟩:=bX rfl (by simp only[step,h]) rfl
theorem AB{v:ZV}{g0:Bool}{l:ZY}{Y:Resume->ZE}{X:List Frame}{k:GenResult->ZE}{V:Code}{W:Pos}{R:List Frame}(h:splitAtGen S=some (X,(g,k,V,W),R))(q:(g0||X.any Frame.guarded)=false):stepI (denote table) prog w s ⟨.yield v g0 l Y,c,pos,S⟩=.go {s with gens:=s.gens.setIfInBounds g (.suspended Y l c pos X false)} ⟨k (.yielded v),V,W,R⟩:=bX ((Thread.loud_yield v g0 l Y c pos h).trans q) (by simp only[step,h,q]) rfl
theorem AD{f:PySem.Flow}{k:GenResult->ZE}{l:ZY}{X:Code}{Y:Pos}:stepI (denote table) prog w s ⟨.pure (.done f),c,pos,.gen g k l X Y::S⟩=.go {s with gens:=s.gens.setIfInBounds g .finished} ⟨k (.returned (match f with|.ret v=>v|_=>.none)),X,Y,S⟩:=bX rfl (by simp only[step];rfl) rfl
theorem AE{e:ZV}{k:GenResult->ZE}{l:ZY}{X:Code}{Y:Pos}:stepI (denote table) prog w s ⟨.raise e,c,pos,.gen g k l X Y::S⟩=.go {s with gens:=s.gens.setIfInBounds g .finished} ⟨k (.raised e),X,Y,S⟩:=bX rfl (by simp only[step]) rfl
end
section
set_option smartUnfolding false
theorem AF{v:ZV}{e:Nat}{C:ZV->Prop}{f:ZL->ay}(h0:∀v,(∀_:ZL,bq V B aI old nb R (.err e))->C v)(Y:(∀fr,bq V B aI old nb R (f fr))->C .none):(∀fr,bq V B aI old nb R (match v with|.none=>f fr|_=>.err e))->C v:=v.casesOn Y (h0 _) (h0 _) (fun a=>h0 _) (fun a a=>h0 _) (fun a a=>h0 _) (fun a a=>h0 _) (fun a a=>h0 _) (fun a=>h0 _) (fun a=>h0 _) (fun a=>h0 _)
theorem dD.gn{F:ZL->ck}(S:dD V B aI old nb R F){x:Nat}{G:ZG}{ob:hP}{ps:List Prop}{g:Nat}{c W:Code}{pos pos':Pos}{t t':ZE}{own Y:List Frame}{T:LT}{m N j tk i:Nat}{gl:List GenState}{bg:List aQ}{st X:GenState}(U:gl[x]?=some st)(e:∀s,s.gens[g]?=some st->stepI (denote table) V.prog V.w s ⟨t,c,pos,own++B.st⟩=.go {s with gens:=s.gens.setIfInBounds g X} ⟨t',W,pos',Y++B.st⟩)(H:∀fr:ZL,bq V B aI old nb R (F fr W pos' t' Y T m N j tk i G (gl.set x X) bg ((.a g,.a (G.size+x))::ob) ps)):aA V B aI old nb R c pos t own T m N j tk i G gl bg ob ps:=S.ad (fun q s D=>⟨_,e s (by rw[q];exact ue D U),by rw[q];exact D.Se x _⟩) H
theorem rx{x:Nat}{st:GenState}{F:ZL->ck}(S:dD V B aI old nb R F){c:Code}{pos:Pos}{t:ZE}{own:List Frame}{T:LT}{m N j tk i:Nat}{G:ZG}{gl:List GenState}{bg:List aQ}{ob:hP}{ps:List Prop}(W:gl[x]?=some st):(∀fr:ZL,bq V B aI old nb R (pj x st (F fr) c pos t own T m N j tk i G gl bg ob ps))->aA V B aI old nb R c pos t own T m N j tk i G gl bg ob ps:=Kr (C:=fun t=>aA V B aI old nb R c pos t own T m N j tk i G gl bg ob ps) (fun d=>aA.bad)
  (fun g k=>S.ad fun e s D=>⟨s,Ay (e▸ue D W),D⟩)
  (fun g r l k=>GenState.casesOn (motive:=fun st=>gl[x]?=some st->(∀fr,bq V B aI old nb R (pj x st (F fr) c pos (.resume g r l k) own T m N j tk i G gl bg ob ps))->aA V B aI old nb R c pos (.resume g r l k) own T m N j tk i G gl bg ob ps) st
   (fun U W=>Resume.casesOn (motive:=fun r=>(∀fr,bq V B aI old nb R (pj x (.fresh U) (F fr) c pos (.resume g r l k) own T m N j tk i G gl bg ob ps))->aA V B aI old nb R c pos (.resume g r l k) own T m N j tk i G gl bg ob ps) r
    (fun v=>AF (C:=fun v=>aA V B aI old nb R c pos (.resume g (.send v) l k) own T m N j tk i G gl bg ob ps) (fun d=>aA.bad) (S.gn W fun s e=>Az e)) fun d=>aA.bad)
   (fun O L U P K cl W=>S.gn W fun s e=>br ..▸AA e)
   (fun d=>aA.bad) (fun d=>aA.bad) W)
  (fun v g0 l O=>aA.opt (b:=splitAtGen own) (X:=fun z fr=>(g0||z.1.any Frame.guarded).casesOn (F fr z.2.1.2.2.1 z.2.1.2.2.2 (z.2.1.2.1 (.yielded v)) z.2.2 T m N j tk i G (gl.set x (.suspended O l c pos z.1 false)) bg ((.a z.2.1.1,.a (G.size+x))::ob) ps) (.err 56)) (Y:=fun d=>.err 53)
   (fun z q=>aA.bool (b:=g0||z.1.any Frame.guarded) (X:=fun d=>.err 56) (fun d=>aA.bad) fun M=>S.gn W fun s e=>AB (hV (st:=B.st) q) M)
   aA.bad)
  (fun f=>f.casesOn (fun f=>own.casesOn aA.bad fun Q r=>Q.casesOn (fun d d d d d d d=>aA.bad) fun g k l U P=>S.gn W fun s e=>AD) fun d=>aA.bad)
  (fun J=>own.casesOn aA.bad fun Q r=>Q.casesOn (fun d d d d d d d=>aA.bad) fun g k l U P=>S.gn W fun s e=>AE)
end
theorem aA.fin{c:Code}{pos:Pos}{r:Result}{T:LT}{m N j tk i:Nat}{G:ZG}{gl:List GenState}{bg:List aQ}{ob:hP}{ps:List Prop}(H:∀_:ZL,bq V B aI old nb R (.fin r T m N j tk i G gl bg ob ps)):aA V B aI old nb R c pos (leaf r) [] T m N j tk i G gl bg ob ps:=And.imp_right (fun h=>And.imp_right (fun h s D=>a8.leaf (h s D)) h) (H [])
theorem aA.tail{c:Code}{pos:Pos}{Y:Code}{T:LT}{m N j tk i:Nat}{G:ZG}{gl:List GenState}{bg:List aQ}{ob:hP}{ps:List Prop}(q:Y.quiet=true)(H:∀_:ZL,bq V B aI old nb R (.tail Y pos T m N j tk i G gl bg ob ps)):aA V B aI old nb R c pos (.pure (.again Y)) [] T m N j tk i G gl bg ob ps:=And.imp_right (fun h=>And.imp_right (fun h s D=>.goto q (h s D)) h) (H [])
include Z hB in
set_option smartUnfolding false in
theorem ry(h:bD V.prog V.w V.kt){F:ZL->ZL->ck}(S:rL V B aI old nb R F):rL V B aI old nb R (fun bb fr=>wK V h F bb fr):=fun bb c pos t own T m N j tk i G gl bg ob ps=>
 h.casesOn (motive:=fun h=>(∀fr:ZL,bq V B aI old nb R (wK V h F bb fr c pos t own T m N j tk i G gl bg ob ps))->aA V B aI old nb R c pos t own T m N j tk i G gl bg ob ps)
  (fun x=>aA.opt (b:=T.get x) (X:=fun z fr=>match t with|.load a p k=>F bb fr c pos (k z.2) own T m N j tk i G gl bg ((.a a,.a z.1)::ob) ps|.loadIfAlive a k=>F bb fr c pos (k (some z.2)) own T m N j tk i G gl bg ((.a a,.a z.1)::ob) ps|_=>.err 31) (Y:=fun _=>.err 30)
   (fun z q=>Kl (C:=fun t=>aA V B aI old nb R c pos t own T m N j tk i G gl bg ob ps) (fun _=>aA.bad) (fun a p k=>(S bb).ad fun e s D=>⟨s,il (e▸D.led _ _ _ q),D⟩) fun a k=>(S bb).ad fun e s D=>⟨s,mc (e▸D.led _ _ _ q),D⟩) aA.bad)
  (fun x=>aA.opt (b:=T.get x) (X:=fun z fr=>match t with|.update a p f k=>(match (f z.2).isFreed with|false=>F bb fr c pos (k ()) own (T.set x (f z.2)) m N j tk i G gl bg ((.a a,.a z.1)::ob) ps|true=>.err 33)|_=>.err 32) (Y:=fun _=>.err 30)
   (fun z q=>Km (C:=fun t=>aA V B aI old nb R c pos t own T m N j tk i G gl bg ob ps) (fun _=>aA.bad) fun a p f k=>aA.bool (b:=(f z.2).isFreed) (X:=fun _=>.err 33) (fun _=>aA.bad) fun hf=>(S bb).ad fun e s D=>⟨_,ox (e▸D.led _ _ _ q),e▸D.update q hf⟩) aA.bad)
  (own.casesOn (Ko (C:=fun t=>aA V B aI old nb R c pos t [] T m N j tk i G gl bg ob ps) (fun _=>aA.bad) (fun f=>f.casesOn (fun f=>aA.fin (r:=.ok f)) fun _=>aA.bad) fun e=>aA.fin (r:=.error e)) fun _ _=>aA.bad)
  (own.casesOn (Kq (C:=fun t=>aA V B aI old nb R c pos t [] T m N j tk i G gl bg ob ps) (fun _=>aA.bad) fun f=>f.casesOn (fun _=>aA.bad) fun c'=>aA.bool (b:=c'.quiet) (Y:=fun _=>.err 3) (fun q=>aA.tail q) fun _=>aA.bad) fun _ _=>aA.bad)
  (fun O=>B8 (C:=fun t=>aA V B aI old nb R c pos t own T m N j tk i G gl bg ob ps) (fun _=>aA.bad)
   (fun c' hd g l k=>mg Z hB (O:=O) (bb:=bb) (cont:=fun f fr r c pos _ own=>F (f::bb) fr c pos (k r) own) c pos k own ⟨k,hd,g,l,c,pos,[],own++B.st⟩
    (by show(c,pos)::(own++B.st).map Frame.where_=(c,pos)::(own.map Frame.where_++V.W);rw[aL,←Z];rfl)
    (fun v hv=>nk (.ret k hd g l c pos []::own) B.st V.hb v hB hv)
    (fun f r T m N j tk i gl bg ob ps=>S (f::bb) _ _ _ _ _ _ _ _ _ _ _ _ _ _ _) (R₀:=fun s R' hc hk=>.call hc hk))
   fun f=>f.casesOn (fun _=>aA.bad) fun c'=>aA.bool (b:=c'.quiet) (Y:=fun _=>.err 3)
    (fun q=>own.casesOn (motive:=fun own=>(∀fr:ZL,bq V B aI old nb R (match own with
     |[]=>.err 42
     |F'::rest=>match F' with
      |.gen ..=>.err 43
      |.ret k h g l cd p kp=>zC O bb (fr.headD []) (uc (.ret k h g l cd p kp::rest) V.hb) ((cd,p)::(rest.map Frame.where_++V.W)) c' (fun r _ _ _ _=>F (fr.headD []::bb) fr.tail cd p (k r) rest) c pos t own T m N j tk i G gl bg ob ps))->aA V B aI old nb R c pos (.pure (.again c')) own T m N j tk i G gl bg ob ps) aA.bad fun F' rest=>F'.casesOn (fun k hd g l cd p kp=>mg Z hB (O:=O) (bb:=bb) (cont:=fun f fr r _ _ _ _=>F (f::bb) fr cd p (k r) rest) cd p k rest ⟨k,hd,g,l,cd,p,kp,rest++B.st⟩
    (by show(cd,p)::(rest++B.st).map Frame.where_=(cd,p)::(rest.map Frame.where_++V.W);rw[aL,←Z];rfl)
    (fun v hv=>nk (.ret k hd g l cd p kp::rest) B.st V.hb v hB hv)
    (fun f r T m N j tk i gl bg ob ps=>S (f::bb) _ _ _ _ _ _ _ _ _ _ _ _ _ _ _) (R₀:=fun s R' hc hk=>.again q hc hk)) fun _ _ _ _ _=>aA.bad) fun _=>aA.bad)
  (fun aJ X h H=>(S bb _ _ _ _ _ _ _ _ _ _ _ _ _ _ _ H).elim fun h1 h2=>⟨h1.cons.2.cons.2,h2.1,fun s D=>by
   have e1:t=(X t).1:=by have:=h1.cons.1;injection this
   have e2:(c,pos)::(own.map Frame.where_++V.W)=aJ:=by have:=h1.cons.2.cons.1;injection this
   rw[e1];refine FA ?_ (h t) (h2.2 s D);rw[←e2,←Z,aL];rfl⟩)
  (fun X h H=>(S bb _ _ _ _ _ _ _ _ _ _ _ _ _ _ _ H).elim fun h1 h2=>⟨h1.cons.2,h2.1,fun s D=>by
   have e1:t=(X t).1:=by have:=h1.cons.1;injection this
   rw[e1,h t];exact h2.2 s D⟩)
  (fun x=>aA.opt (b:=gl[x]?) (X:=fun st fr=>pj x st (F bb fr) c pos t own T m N j tk i G gl bg ob ps) (fun st q=>rx (S bb) q) aA.bad)
  (B8 (C:=fun _=>aA V B aI old nb R c pos t own T m N j tk i G gl bg ob ps) (fun _=>aA.bad) (fun _ _ _ _ _ H=>H []) fun _ H=>H [])
include Z hB in
theorem qs:∀hs:List (Nat×bD V.prog V.w V.kt),rL V B aI old nb R (ev V hs)
 |[]=>fun bb c pos t own T m N j tk i G gl bg ob ps H=>absurd (H []) (fun q=>q)
 |(n,h)::hs=>fun bb=>md Z hB (ry Z hB h (qs hs) bb) n
end
end
section
set_option tactic.hygienic false
theorem uf(r:Result):leaf r=leafOf r:=by cases r<;>rfl
noncomputable def xo(B:aS):Around:={handled:=none,depth:=frameCount B.W,units:=unitsOf B.W}
section
variable{prog:Program}{w:ZW}{B:aS}{s:ZS}{c:Code}{pos:Pos}{R:ZR}
theorem hY(hB:topHandled B.st=none)(h:codeAny (model prog w) (xo B) c R s):a8 prog w B s c pos (denote table c) [] R:=by
 obtain⟨r,X,V,U⟩:=h (Ctx.of c B.st) pos rfl ⟨hB,aM _,fun a Z=>(nomatch Z),fun a Z=>(nomatch Z),aM _⟩
 obtain⟨n,t',T,W,Y,hn,rfl,rfl⟩:=(runs_reach V B.st (Ctx.fits_of ..)).runN;exact⟨r,X,T,W,U,n,by rw[uf];exact hn⟩
theorem vh{p:Prop}[d:Decidable p]{a:p->Nat}{b:¬p->Nat}{n:Nat}(Y:∀h,a h<=n)(Z:∀h,b h<=n):dite p a b<=n:=d.casesOn (motive:=fun d=> @dite Nat p d a b<=n) Z Y
theorem Sf{i j:String}{k n:Nat}(h:k<=n):∀e:i=j,Eq.ndrec_symm (motive:=fun a=>Nat) k e<=n:=fun e=>by subst e;exact h
set_option smartUnfolding false in
theorem vi(c:Code):c.frames<=3:=by
 have u:1<=3:=dc rfl
 have f:(if c.isFrame=true then 1 else 0)<=3:=by cases c.isFrame;exact b9 3;exact u
 cases c with
 |builtin id a=>
  have e:= @Sf
  exact vh (e (iA 2)) fun _=>vh (e (aM 3)) fun _=>vh (e u) fun _=>vh (e u) fun _=>vh (e u) fun _=>vh (e u) fun _=>vh (e u) fun _=>vh (e u) fun _=>vh (e u) fun _=>f
 |_=>exact f
theorem vj(c:Code):c.cUnits<=10:=by
 have h:=Nat.mul_le_mul_left 3 (vi c)
 cases c with
 |builtin=>exact Nat.add_le_add_left h 1
 |call=>exact dc rfl
 |_=>exact au h (iA 9)
theorem rp:∀W:ZC,unitsOf W<=10*W.length
 |[]=>aM 0
 |(c,p)::W=>by
  have:=vj c
  have:=rp W
  rw[unitsOf_cons,cX];lia
theorem vk{W:ZC}(h:z9 W=true):unitsOf W<=600:=by
 have:=rp W
 have:=dc h
 lia
theorem l0{A:Around}{id:String}{Bt:Builtin}{Z:Args}{S:PySem.Spec}(plain:plainId id=true)(entry:entryFor table id=some Bt)(g:Meets (Bt Z) S)(h:S A R s):codeAny (model prog w) A (.builtin id Z) R s:=by
 refine codeAny_of_tree ?_;rw[Around.under_plainId plain];have e:(model prog w).den (.builtin id Z)=Bt Z:=by
  show(match entryFor table id with|some b=>b Z|none=>unsupported ((withoutEnding? id "#data").getD id))=_
  rw[entry]
 rw[e];exact g prog w A R s h
theorem bL{id:String}{Bt:Builtin}{Z:Args}{S:PySem.Spec}(hB:topHandled B.st=none)(plain:plainId id=true)(entry:entryFor table id=some Bt)(g:Meets (Bt Z) S)(h:S (xo B) R s):a8 prog w B s (.builtin id Z) pos (denote table (.builtin id Z)) [] R:=hY hB (l0 plain entry g h)
theorem bE{c:Code}{id:String}{Bt:Builtin}{args:Args}{S:PySem.Spec}(e:c=.builtin id args)(hB:topHandled B.st=none)(plain:plainId id=true)(entry:entryFor table id=some Bt)(g:Meets (Bt args) S){R:ZR}(h:S (xo B) R s){Q:ZR}(k:∀r Z,R r Z->Q r Z):a8 prog w B s c pos (denote table c) [] Q:=by subst e;exact(bL hB plain entry g h).mono k
end
theorem Ext.refl(s:ZS)(Z:List Addr):Ext s s Z:=⟨fun a a e a=>e,aM _,aM _,rfl,rfl⟩
theorem Ext.xp(s:ZS)(n:Nat)(Z:List Addr):Ext s {s with toks:=s.toks+n} Z:=⟨fun a a e a=>e,aM _,b8 ..,rfl,rfl⟩
theorem bH(h:Heap):aR h []:=fun a hp=>nomatch hp
theorem iU(s:ZS)(n:Nat)(r:Result):cf s {s with toks:=s.toks+n} [] ⟨r,[],[],s.heap.objs.size,s.toks+n,0,[]⟩:=⟨.xp ..,rfl,bH _,bH _,fun a hp=>(nomatch hp),cW,rfl,rfl,by simp,fun a hp=>(nomatch hp),fun a hp=>(nomatch hp),fun a hp=>(nomatch hp),fun a hp=>(nomatch hp)⟩
noncomputable def rO:Code->ZY
 |.builtin _ a=>a.pos
 |.call _ a=>a.pos
 |_=>[]
noncomputable def ak:ZV->Int
 |.int i _=>i
 |_=>0
noncomputable def ao:ZV->Nat
 |.int _ t=>t
 |.str _ t=>t
 |_=>0
noncomputable def ag:ZV->Str
 |.str x _=>x
 |_=>Str.empty
noncomputable def af:ZV->Nat
 |.ref a=>a
 |_=>0
noncomputable def v0(c:Code):ZV:=(rO c).getD 0 .none
noncomputable def v1(c:Code):ZV:=(rO c).getD 1 .none
noncomputable def dg{prog:Program}{w:ZW}{kt:KT}(shape:Code->Code)(ps:Code->List Prop)(val:Code->Nat->ZV)(n:Nat)(ok:∀(c:Code) (s:ZS) (B:aS) (pos:Pos),aO (ps c)->topHandled B.st=none->z9 B.W=true->
   a8 prog w B s (shape c) pos (denote table (shape c)) [] (fun r Z=>r=.ok (.ret (val c s.toks))/\Z={s with toks:=s.toks+n})):aX prog w kt where
 A:=fun a c a a a=>⟨shape c,[],[],.fq,ps c,[],[]⟩
 B:=fun a c N t a a=>⟨.ok (.ret (val c t)),[],[],N,t+n,0,[]⟩
 ok:=fun a c a s B pos e hp a a a a hB a X=>by
  have z:=ok c s B pos hp hB X
  rw[←(show c=shape c from e)]at z
  refine z.mono fun r Z ⟨Y,h2⟩=>⟨[],Y,?_⟩
  subst Y h2;exact iU s n _
section
variable{prog:Program}{w:ZW}{kt:KT}
noncomputable def k7(id:String)(c:Code):Code:=.builtin id ⟨[.int (ak (v0 c)) (ao (v0 c)),.int (ak (v1 c)) (ao (v1 c))],[]⟩
theorem bf{id:String}{Bt:Builtin}{Z:Args}{m:Made}{B:aS}{s:ZS}{pos:Pos}{R:ZR}(hB:topHandled B.st=none)(plain:plainId id=true)(entry:entryFor table id=some Bt)(g:Gives (Bt Z) m)(h:m.post (fun v Y=>R (.ok (.ret v)) Y) s):a8 prog w B s (.builtin id Z) pos (denote table (.builtin id Z)) [] R:=bL hB plain entry g.meets h
noncomputable def eu:aX prog w kt:=dg (k7 "int.__add__") (fun a=>[]) (fun c t=>.int (ak (v0 c)+ak (v1 c)) t) 1
 fun c s B pos a hB a=>bf hB (by decide+kernel) entry_int_add (gives_int_add _ _ _ _) ⟨rfl,rfl⟩
end
end
set_option tactic.hygienic false
noncomputable def dE(P:Params)(name:ZN)(tok:Nat)(v:ZV):DictEntry:=⟨PyData.keyHash P ⟨⟨name⟩⟩,.str ⟨⟨name⟩⟩ tok,v⟩
noncomputable abbrev ar(x:List Nat)(t:Nat):ZV:=.str ⟨⟨x⟩⟩ t
noncomputable def sA(i:Nat):Stmt:=PySem.Challenge.pw_op0292_01.main.body.getD i default
noncomputable def sB(i j:Nat):Stmt:=if h:(sA i).ctorIdx=2 then Stmt.ClassDef.elim (sA i) h fun a a a b a a a a a a a=>b.getD j default else default
noncomputable def fD(st:Stmt)(q:ZN)(g:Addr)(d k Y m:ZV)(an:Option Addr)(c X:ZV)(b:Addr):FuncData:=if h:st.ctorIdx=0 then Stmt.FunctionDef.elim st h fun n a body e e e Z e e e=>⟨n,⟨⟨q⟩⟩,a,.stmts body,Z,g,[],d,k,Y,m,an,c,X,b⟩else default
noncomputable def sS(s:String)(t:Nat):ZV:=.str (Str.ofString s) t
noncomputable def iS(n:Nat):ZV:=.int n 0
noncomputable def cO(l:ZY):Obj:=⟨.type "code",none,.fields ⟨l⟩,⟨[]⟩⟩
noncomputable def fO(st:Stmt)(q:String)(g:Addr)(d k Z m:ZV)(an:Option Addr)(c Y:ZV)(b:Addr):Obj:=⟨.type "function",none,.func (fD st (Str.ofString q).cps.toList g d k Z m an c Y b),⟨[]⟩⟩
noncomputable def bP(x:Nat):ZN:= @Nat.rec (fun a=>Nat->ZN) (fun a=>[]) (fun a Z x=>match Nat.beq x 0 with
 |true=>[]
 |false=>Nat.mod x 256::Z (Nat.div x 256)) 99 x
noncomputable def UI(l:List DictEntry)(n:Nat):Obj:=⟨.type "dict",none,.dict ⟨l⟩ n,⟨[]⟩⟩
noncomputable def QO(P:Params)(l:List (Nat×Nat×ZV)):List DictEntry:=l.map fun e=>dE P (bP e.1) e.2.1 e.2.2
noncomputable def vl(P:Params)(l:List (Nat×Nat×ZV))(n:Nat):Obj:=UI (QO P l) n
noncomputable def QP(P:Params):Nat->List (Nat×String)->List DictEntry
 |_,[]=>[]
 |t,e::l=>dE P (bP e.1) t (.builtin e.2)::QP P (t+1) l
noncomputable def UJ(n q:String)(t l a k f r u:Nat)(x:ZY):Obj:=cO ([sS n t,sS q (t+1),sS "/claim/cut.py" (t+2),iS l,iS a,iS k,iS 0,iS f,.ref r,.bool true,iS 318,.ref (r+1),.none]++(x++[iS u,iS l,sS "/claim/cut.py" (u+1)]))
noncomputable def fN(n q:String)(t l a k f r u:Nat):Obj:=UJ n q t l a k f r u [.ref (r+2),.ref (r+3),.ref (r+4)]
noncomputable def QQ(n q:String)(t l a k f r u:Nat):Obj:=UJ n q t l a k f r u [.none,.none,.ref (r+2)]
noncomputable def e9(st:Stmt)(q:String)(d:ZV)(m:String)(t c:Nat):Obj:=fO st q 3 d .none .none (sS m t) none (.ref c) .none 0
noncomputable def hx(i:Nat):Nat:=bif Nat.blt i 10 then 48+i else 55+i
noncomputable def ix(i:Nat):Nat->ZN->Option Nat
 |_,[]=>none
 |p,c::r=>bif Nat.beq i c then some p else ix i (p+1) r
noncomputable def qv(l:ZN)(b i:Nat):ZV:=match ix i 0 l with
 |some p=>.str ⟨⟨[i]⟩⟩ (b+3*p)
 |none=>.str ⟨⟨[61,hx (i/16),hx (i%16)]⟩⟩ (341+4*i)
noncomputable def UK:ZN:=((List.range 95).map (32+·)).filter (fun i=>!(Nat.beq i 61))++[9]
noncomputable def VZ(P:Params):Obj:=UI (QO P [(0x5f5f656d616e5f5f,1,.str ⟨⟨(bP 0x736e69746c697562)⟩⟩ 160)]++(QP P 2 [(0x5f5f636f645f5f,"builtins.__doc__:str#opaque"),(0x5f5f6567616b6361705f5f,"builtins.__package__:str#opaque"),(0x5f5f726564616f6c5f5f,"builtins.__loader__:shared#opaque"),(0x5f5f636570735f5f,"builtins.__spec__#opaque"),(0x5f5f7373616c635f646c6975625f5f,"__build_class__"),(0x5f5f74726f706d695f5f,"__import__"),(0x736261,"abs"),(0x6c6c61,"all"),(0x796e61,"any"),(0x6969637361,"ascii"),(0x6e6962,"bin"),(0x746e696f706b61657262,"breakpoint"),(0x656c62616c6c6163,"callable"),(0x726863,"chr"),(0x656c69706d6f63,"compile"),(0x727474616c6564,"delattr"),(0x726964,"dir"),(0x646f6d766964,"divmod"),(0x6c617665,"eval"),(0x63657865,"exec"),(0x74616d726f66,"format"),(0x72747461746567,"getattr"),(0x736c61626f6c67,"globals"),(0x72747461736168,"hasattr"),(0x68736168,"hash"),(0x786568,"hex"),(0x6469,"id"),(0x7475706e69,"input"),(0x65636e6174736e697369,"isinstance"),(0x7373616c636275737369,"issubclass"),(0x72657469,"iter"),(0x7265746961,"aiter"),(0x6e656c,"len"),(0x736c61636f6c,"locals"),(0x78616d,"max"),(0x6e696d,"min"),(0x7478656e,"next"),(0x7478656e61,"anext"),(0x74636f,"oct"),(0x64726f,"ord"),(0x776f70,"pow"),(0x746e697270,"print"),(0x72706572,"repr"),(0x646e756f72,"round"),(0x72747461746573,"setattr"),(0x646574726f73,"sorted"),(0x6d7573,"sum"),(0x73726176,"vars")]++(QO P [(0x656e6f4e,50,.none),(0x73697370696c6c45,51,.ellipsis),(0x6465746e656d656c706d49746f4e,52,.notImplemented),(0x65736c6146,53,.bool false),(0x65757254,54,.bool true),(0x6c6f6f62,55,.type "bool"),(0x7765697679726f6d656d,56,.type "memoryview"),(0x796172726165747962,57,.type "bytearray"),(0x7365747962,58,.type "bytes"),(0x646f6874656d7373616c63,59,.type "classmethod"),(0x78656c706d6f63,60,.type "complex"),(0x74636964,61,.type "dict"),(0x65746172656d756e65,62,.type "enumerate"),(0x7265746c6966,63,.type "filter"),(0x74616f6c66,64,.type "float"),(0x7465736e657a6f7266,65,.type "frozenset"),(0x79747265706f7270,66,.type "property"),(0x746e69,67,.type "int"),(0x7473696c,68,.type "list"),(0x70616d,69,.type "map"),(0x7463656a626f,70,.type "object"),(0x65676e6172,71,.type "range"),(0x6465737265766572,72,.type "reversed"),(0x746573,73,.type "set"),(0x6563696c73,74,.type "slice"),(0x646f6874656d636974617473,75,.type "staticmethod"),(0x727473,76,.type "str"),(0x7265707573,77,.type "super"),(0x656c707574,78,.type "tuple"),(0x65707974,79,.type "type"),(0x70697a,80,.type "zip"),(0x5f5f67756265645f5f,81,.bool true),(0x6e6f6974706563784565736142,82,.type "BaseException"),(0x70756f72476e6f6974706563784565736142,83,.type "BaseExceptionGroup"),(0x6e6f69747065637845,84,.type "Exception"),(0x74697845726f746172656e6547,85,.type "GeneratorExit"),(0x747075727265746e496472616f6279654b,86,.type "KeyboardInterrupt"),(0x746978456d6574737953,87,.type "SystemExit"),(0x726f727245636974656d6874697241,88,.type "ArithmeticError"),(0x726f7272456e6f69747265737341,89,.type "AssertionError"),(0x726f727245657475626972747441,90,.type "AttributeError"),(0x726f727245726566667542,91,.type "BufferError"),(0x726f727245464f45,92,.type "EOFError"),(0x726f72724574726f706d49,93,.type "ImportError"),(0x726f72724570756b6f6f4c,94,.type "LookupError"),(0x726f72724579726f6d654d,95,.type "MemoryError"),(0x726f727245656d614e,96,.type "NameError"),(0x726f727245534f,97,.type "OSError"),(0x726f72724565636e657265666552,98,.type "ReferenceError"),(0x726f727245656d69746e7552,99,.type "RuntimeError"),(0x6e6f69746172657449636e797341706f7453,100,.type "StopAsyncIteration"),(0x6e6f69746172657449706f7453,101,.type "StopIteration"),(0x726f7272457861746e7953,102,.type "SyntaxError"),(0x726f7272456d6574737953,103,.type "SystemError"),(0x726f72724565707954,104,.type "TypeError"),(0x726f72724565756c6156,105,.type "ValueError"),(0x676e696e726157,106,.type "Warning"),(0x726f727245746e696f50676e6974616f6c46,107,.type "FloatingPointError"),(0x726f727245776f6c667265764f,108,.type "OverflowError"),(0x726f7272456e6f6973697669446f72655a,109,.type "ZeroDivisionError"),(0x676e696e7261577365747942,110,.type "BytesWarning"),(0x676e696e7261576e6f697461636572706544,111,.type "DeprecationWarning"),(0x676e696e726157676e69646f636e45,112,.type "EncodingWarning"),(0x676e696e726157657275747546,113,.type "FutureWarning"),(0x676e696e72615774726f706d49,114,.type "ImportWarning"),(0x676e696e7261576e6f697461636572706544676e69646e6550,115,.type "PendingDeprecationWarning"),(0x676e696e726157656372756f736552,116,.type "ResourceWarning"),(0x676e696e726157656d69746e7552,117,.type "RuntimeWarning"),(0x676e696e7261577861746e7953,118,.type "SyntaxWarning"),(0x676e696e72615765646f63696e55,119,.type "UnicodeWarning"),(0x676e696e72615772657355,120,.type "UserWarning"),(0x726f7272454f49676e696b636f6c42,121,.type "BlockingIOError"),(0x726f727245737365636f7250646c696843,122,.type "ChildProcessError"),(0x726f7272456e6f697463656e6e6f43,123,.type "ConnectionError"),(0x726f727245737473697845656c6946,124,.type "FileExistsError"),(0x726f727245646e756f46746f4e656c6946,125,.type "FileNotFoundError"),(0x726f7272456465747075727265746e49,126,.type "InterruptedError"),(0x726f72724579726f746365726944417349,127,.type "IsADirectoryError"),(0x726f72724579726f74636572694441746f4e,128,.type "NotADirectoryError"),(0x726f7272456e6f697373696d726550,129,.type "PermissionError"),(0x726f72724570756b6f6f4c737365636f7250,130,.type "ProcessLookupError"),(0x726f72724574756f656d6954,131,.type "TimeoutError"),(0x726f7272456e6f697461746e65646e49,132,.type "IndentationError"),(0x726f7272457475706e496574656c706d6f636e495f,133,.type "_IncompleteInputError"),(0x726f7272457865646e49,134,.type "IndexError"),(0x726f72724579654b,135,.type "KeyError"),(0x726f727245646e756f46746f4e656c75646f4d,136,.type "ModuleNotFoundError"),(0x726f7272456465746e656d656c706d49746f4e,137,.type "NotImplementedError"),(0x726f7272456e6f6974617a696c616e69466e6f68747950,138,.type "PythonFinalizationError"),(0x726f7272456e6f69737275636552,139,.type "RecursionError"),(0x726f7272456c61636f4c646e756f626e55,140,.type "UnboundLocalError"),(0x726f72724565646f63696e55,141,.type "UnicodeError"),(0x726f727245657069506e656b6f7242,142,.type "BrokenPipeError"),(0x726f727245646574726f62416e6f697463656e6e6f43,143,.type "ConnectionAbortedError"),(0x726f727245646573756665526e6f697463656e6e6f43,144,.type "ConnectionRefusedError"),(0x726f72724574657365526e6f697463656e6e6f43,145,.type "ConnectionResetError"),(0x726f727245626154,146,.type "TabError"),(0x726f72724565646f63654465646f63696e55,147,.type "UnicodeDecodeError"),(0x726f72724565646f636e4565646f63696e55,148,.type "UnicodeEncodeError"),(0x726f7272456574616c736e61725465646f63696e55,149,.type "UnicodeTranslateError"),(0x70756f72476e6f69747065637845,150,.type "ExceptionGroup"),(0x726f727245746e656d6e6f7269766e45,151,.type "OSError"),(0x726f7272454f49,152,.type "OSError")]++(QP P 153 [(0x6e65706f,"open"),(0x74697571,"builtins.quit#opaque"),(0x74697865,"builtins.exit#opaque"),(0x746867697279706f63,"builtins.copyright#opaque"),(0x73746964657263,"builtins.credits#opaque"),(0x65736e6563696c,"builtins.license#opaque"),(0x706c6568,"builtins.help#opaque")])))) 159
noncomputable def V1(P:Params):Obj:=vl P [(0x736e69746c697562,162,.ref 4),(0x5f5f6e69616d5f5f,163,.ref 5),(0x6572735f,244,.ref 12),(0x736e6f697463656c6c6f635f,292,.ref 30)] 4
noncomputable def V2(P:Params):Obj:=⟨.none,none,(.dict ⟨[dE P (bP 0x6572735f2e646564616f6c2e74726f706d69) 183 (.bool true),dE P (bP 0x726574726f706d496e69746c6975422e62696c74726f706d695f6e657a6f72665f2e7373616c63) 185 (.ref 14),dE P (bP 0x74726f706d692e64656863746177) 206 (.ref 18),dE P (bP 0x63657053656c75646f4d2e62696c74726f706d695f6e657a6f72665f2e7373616c63) 216 (.ref 22),dE P (bP 0x68636f70652d64656b6f6f622e73656c75646f6d2e737973) 245 (.int 4 0),dE P (bP 0x6572735f2e6469616c2d726574616c2e74726f706d69) 270 (.bool true),dE P (bP 0x7972617262696c2e64656863746177) 272 (.ref 27),dE P (bP 0x737463656a626f2d7972617262696c2e64656863746177) 0 (ar [12,30] 0),dE P (bP 0x6572735f2e706565642d7972617262696c2e64656863746177) 273 (ar [4,0,0,11,4,0,0,11,4,0,0,3,4,0,0,11,8,4,100,105,99,116,2] 0),dE P (bP 0x736e6f697463656c6c6f635f2e646564616f6c2e74726f706d69) 280 (.bool true),dE P (bP 0x736e6f697463656c6c6f635f2e6465646e616c2e73656c75646f6d2e737973) 294 (.bool true),dE P (bP 0x736e6f697463656c6c6f635f2e6469616c2d726574616c2e74726f706d69) 309 (.bool true),dE P (bP 0x736e6f697463656c6c6f635f2e706565642d7972617262696c2e64656863746177) 311 (ar [4,0,0,29,4,0,0,29,4,0,0,3,4,0,0,29,8,4,100,105,99,116,2] 0),dE P (bP 0x302e726f727245534f2e5f5f73657373616c636275735f5f2e65707974) 2191 (.int 244 0),dE P (bP 0x6e2e726f727245534f2e5f5f73657373616c636275735f5f2e65707974) 2192 (.int 1 0)]⟩ 15),⟨[]⟩⟩
noncomputable def Ab(P:Params):Obj:=vl P [(0x5f5f656d616e5f5f,165,.str ⟨⟨(bP 0x31305f32393230706f5f77616c)⟩⟩ 3040),(0x5f5f636f645f5f,166,.none),(0x5f5f6567616b6361705f5f,167,.none),(0x5f5f726564616f6c5f5f,168,.builtin "__main__.__loader__#opaque"),(0x5f5f636570735f5f,169,.none),(0x5f5f736e6f697461746f6e6e615f5f,170,.ref 6),(0x5f5f736e69746c6975625f5f,171,.ref 4),(0x5f5f656c69665f5f,173,.str ⟨⟨(bP 0x79702e7475632f6d69616c632f)⟩⟩ 172),(0x5f5f6465686361635f5f,174,.none),(0x6572735f,275,.ref 12),(0x6575716564,317,.type "collections.deque"),(0x6c6c61775f,330,.ref 44),(0x464c5243,332,.str ⟨⟨[13,10]⟩⟩ 331),(0x4c4e,334,.str ⟨⟨[10]⟩⟩ 333),(0x50414d5f4952504f55515f,1362,.ref 47),(0x50414d5f5245444145485f4952504f55515f,1363,.ref 52),(0x50414d5f59444f425f4952504f55515f,1364,.ref 54),(0x657361637265776f6c5f6969637361,1366,.str ⟨⟨(bP 0x7a797877767574737271706f6e6d6c6b6a696867666564636261)⟩⟩ 1365),(0x6573616372657070755f6969637361,1368,.str ⟨⟨(bP 0x5a595857565554535251504f4e4d4c4b4a494847464544434241)⟩⟩ 1367),(0x7372657474656c5f6969637361,1370,.str ⟨⟨(bP 0x5a595857565554535251504f4e4d4c4b4a4948474645444342417a797877767574737271706f6e6d6c6b6a696867666564636261)⟩⟩ 1369),(0x737469676964,1372,.str ⟨⟨(bP 0x39383736353433323130)⟩⟩ 1371),(0x737469676964786568,1377,.str ⟨⟨(bP 0x46454443424166656463626139383736353433323130)⟩⟩ 1376),(0x65746f75716e75,1883,.ref 67),(0x65746f7571,1890,.ref 930),(0x656d696d6972706f75715f65746f7571,1891,.ref 74),(0x50414d5f45444f434e455f59444f425f4952504f55515f,1892,.ref 76),(0x65646f636e655f79646f62,1919,.ref 87),(0x65646f636564,1932,.ref 95),(0x54554f5f45444f4e5f,1937,.int (-1) 1936),(0x454e4f445f45444f4e5f,1940,.int (-2) 1939),(0x6f666e4965646f4e5f,1977,.ref 114),(0x726f727245656c637943,1995,.ref 129),(0x726574726f536c616369676f6c6f706f54,2114,.ref 211),(0x315f65725f6e6977745f,2154,.ref 220),(0x65636e6568775f,2164,.ref 227),(0x7865646e695f,2172,.ref 234),(0x6e6f6974617265704f646574726f707075736e55,2194,.ref 244),(0x657361424f49,2226,.ref 264),(0x657361424f496465726566667542,2244,.ref 279),(0x657361424f4974786554,2262,.ref 291),(0x4f497365747942,2524,.ref 521),(0x4f49676e69727453,2811,.ref 768),(0x646e696b5f,2822,.ref 777),(0x6874617073665f,2831,.ref 784),(0x73657079745f6772615f6b636568635f,2841,.ref 791),(0x7362617369,2848,.ref 798),(0x6e696f6a,2859,.ref 922),(0x687461705f6e696f6a,2860,.ref 805),(0x656d616e726964,2870,.ref 812),(0x78656c6873,3011,.ref 903),(0x74696c7073,3021,.ref 915),(0x78656c68735f6e696f6a,3029,.ref 922),(0x656661736e755f646e69665f,3031,.ref 923),(0x78656c68735f65746f7571,3039,.ref 930),(0x6e616c705f77616c5f,3052,.ref 937),(0x73706574735f77616c5f,3058,.ref 942),(0x737961775f77616c5f,3070,.ref 949),(0x646165725f77616c5f,3082,.ref 956),(0x77616c,3088,.ref 961)] 61
noncomputable def V3(P:Params):Obj:=⟨(.type "module"),(some 0),.plain,⟨[]⟩⟩
noncomputable def Sg(P:Params):Obj:=fN "unquote" "unquote" 1877 22 1 0 3 61 1881
noncomputable def Sh(P:Params):Obj:=e9 (sA 17) "unquote" .none "cpy313.email.quoprimime" 1378 66
noncomputable def nr(P:Params):Obj:=⟨.type "list",none,.seq ⟨(List.range 256).map fun i=>match i with
 |10=>.str ⟨⟨[10]⟩⟩ 1899
 |13=>.str ⟨⟨[13]⟩⟩ 1896
 |_=>qv UK 1594 i⟩ 0,⟨[]⟩⟩
noncomputable def Si(P:Params):Obj:=⟨(.type "tuple"),none,(.seq ⟨[(.int 76 1900),(ar [10] 333)]⟩ 0),⟨[]⟩⟩
noncomputable def Sj(P:Params):Obj:=fN "body_encode" "body_encode" 1901 31 3 0 3 81 1917
noncomputable def Sl(P:Params):Obj:=e9 (sA 23) "body_encode" (.ref 80) "cpy313.email.quoprimime" 1378 86
noncomputable def Sm(P:Params):Obj:=⟨(.type "tuple"),none,(.seq ⟨[(ar [10] 333)]⟩ 0),⟨[]⟩⟩
noncomputable def Sn(P:Params):Obj:=fN "decode" "decode" 1920 69 2 0 3 89 1930
noncomputable def zD(P:Params):Obj:=e9 (sA 24) "decode" (.ref 88) "cpy313.email.quoprimime" 1378 94
noncomputable def Ks(P:Params):Obj:=fN "__init__" "_NodeInfo.__init__" 1957 105 2 0 3 104 1962
noncomputable def Kt(P:Params):Obj:=e9 (sB 28 1) "_NodeInfo.__init__" .none "cpy313.graphlib" 1933 109
noncomputable def Ku(P:Params):Obj:=vl P [(0x5f5f656c75646f6d5f5f,1948,.str ⟨⟨(bP 0x62696c68706172672e333133797063)⟩⟩ 1933),(0x5f5f6f6e656e696c74737269665f5f,1952,.int 102 1951),(0x5f5f73746f6c735f5f,1956,.ref 103),(0x5f5f74696e695f5f,1964,.ref 110),(0x5f5f736574756269727474615f6369746174735f5f,1968,.ref 111),(0x65646f6e,1970,.ref 115),(0x73726f7373656365646572706e,1972,.ref 116),(0x73726f73736563637573,1974,.ref 117),(0x5f5f636f645f5f,1975,.none)] 5
noncomputable def Kv(P:Params):Obj:=⟨(.type "type"),none,(.cls ⟨⟨⟨(bP 0x6f666e4965646f4e5f)⟩⟩,[(.type "object")],[(.ref 114),(.type "object")],113,⟨⟨(bP 0x6f666e4965646f4e5f)⟩⟩,false,[⟨⟨(bP 0x65646f6e)⟩⟩,⟨⟨(bP 0x73726f7373656365646572706e)⟩⟩,⟨⟨(bP 0x73726f73736563637573)⟩⟩],[],false,none,false⟩),⟨[none,none,(some (ar ((bP 0x6f666e4965646f4e5f)) 1941)),(some (ar ((bP 0x6f666e4965646f4e5f)) 1949)),(some (.builtin "object.__new__")),(some (.bool false))]⟩⟩
noncomputable def Kw(P:Params):Obj:=⟨(.type "member_descriptor"),none,(.fields ⟨[(ar ((bP 0x65646f6e)) 1969),(.ref 114),(.builtin "proto.slot"),(.builtin "proto.slot#set"),(.int 2 0)]⟩),⟨[]⟩⟩
noncomputable def Kx(P:Params):Obj:=⟨(.type "member_descriptor"),none,(.fields ⟨[(ar ((bP 0x73726f7373656365646572706e)) 1971),(.ref 114),(.builtin "proto.slot"),(.builtin "proto.slot#set"),(.int 1 0)]⟩),⟨[]⟩⟩
noncomputable def Ky(P:Params):Obj:=⟨(.type "member_descriptor"),none,(.fields ⟨[(ar ((bP 0x73726f73736563637573)) 1973),(.ref 114),(.builtin "proto.slot"),(.builtin "proto.slot#set"),(.int 0 0)]⟩),⟨[]⟩⟩
noncomputable def Kz(P:Params):Obj:=vl P [(0x5f5f656c75646f6d5f5f,1985,.str ⟨⟨(bP 0x62696c68706172672e333133797063)⟩⟩ 1933),(0x5f5f6f6e656e696c74737269665f5f,1989,.int 109 1988),(0x5f5f736574756269727474615f6369746174735f5f,1990,.ref 127),(0x5f5f6665726b6165775f5f,1992,.ref 130),(0x5f5f636f645f5f,1993,.none)] 3
noncomputable def KA(P:Params):Obj:=⟨(.type "type"),none,(.cls ⟨⟨⟨(bP 0x726f727245656c637943)⟩⟩,[(.type "ValueError")],[(.ref 129),(.type "ValueError"),(.type "Exception"),(.type "BaseException"),(.type "object")],128,⟨⟨(bP 0x726f727245656c637943)⟩⟩,true,[],[],false,none,false⟩),⟨[(some (.ref 120)),none,(some (ar ((bP 0x726f727245656c637943)) 1978)),(some (ar ((bP 0x726f727245656c637943)) 1986)),(some (.builtin "ValueError.__new__")),(some (.bool true))]⟩⟩
noncomputable def KC(P:Params):Obj:=⟨(.type "tuple"),none,(.seq ⟨[.none]⟩ 0),⟨[]⟩⟩
noncomputable def KD(P:Params):Obj:=fN "__init__" "TopologicalSorter.__init__" 2008 113 2 0 3 141 2015
noncomputable def KG(P:Params):Obj:=e9 (sB 30 0) "TopologicalSorter.__init__" (.ref 140) "cpy313.graphlib" 1933 146
noncomputable def KH(P:Params):Obj:=fN "_get_nodeinfo" "TopologicalSorter._get_nodeinfo" 2018 122 2 0 3 148 2024
noncomputable def KJ(P:Params):Obj:=e9 (sB 30 1) "TopologicalSorter._get_nodeinfo" .none "cpy313.graphlib" 1933 153
noncomputable def KL(P:Params):Obj:=fN "add" "TopologicalSorter.add" 2027 127 2 0 7 155 2036
noncomputable def pn(P:Params):Obj:=e9 (sB 30 2) "TopologicalSorter.add" .none "cpy313.graphlib" 1933 160
noncomputable def KN(P:Params):Obj:=QQ "prepare" "TopologicalSorter.prepare" 2039 136 1 0 3 162 2042
noncomputable def kO(P:Params):Obj:=e9 (sB 30 3) "TopologicalSorter.prepare" .none "cpy313.graphlib" 1933 165
noncomputable def KO(P:Params):Obj:=fN "get_ready" "TopologicalSorter.get_ready" 2045 144 1 0 3 167 2052
noncomputable def sO(P:Params):Obj:=e9 (sB 30 4) "TopologicalSorter.get_ready" .none "cpy313.graphlib" 1933 172
noncomputable def KP(P:Params):Obj:=fN "is_active" "TopologicalSorter.is_active" 2055 155 1 0 3 174 2059
noncomputable def KQ(P:Params):Obj:=e9 (sB 30 5) "TopologicalSorter.is_active" .none "cpy313.graphlib" 1933 179
noncomputable def KR(P:Params):Obj:=fN "done" "TopologicalSorter.done" 2069 163 1 0 7 188 2080
noncomputable def sP(P:Params):Obj:=e9 (sB 30 7) "TopologicalSorter.done" .none "cpy313.graphlib" 1933 193
noncomputable def KS(P:Params):Obj:=fN "_find_cycle" "TopologicalSorter._find_cycle" 2083 186 1 0 3 195 2093
noncomputable def sQ(P:Params):Obj:=e9 (sB 30 8) "TopologicalSorter._find_cycle" .none "cpy313.graphlib" 1933 200
noncomputable def KU(P:Params):Obj:=vl P [(0x5f5f656c75646f6d5f5f,2003,.str ⟨⟨(bP 0x62696c68706172672e333133797063)⟩⟩ 1933),(0x5f5f6f6e656e696c74737269665f5f,2007,.int 111 2006),(0x5f5f74696e695f5f,2017,.ref 147),(0x6f666e6965646f6e5f7465675f,2026,.ref 154),(0x646461,2038,.ref 161),(0x65726170657270,2044,.ref 166),(0x79646165725f746567,2054,.ref 173),(0x6576697463615f7369,2061,.ref 180),(0x5f5f6c6f6f625f5f,2068,.ref 187),(0x656e6f64,2082,.ref 194),(0x656c6379635f646e69665f,2095,.ref 201),(0x726564726f5f636974617473,2102,.ref 208),(0x5f5f736574756269727474615f6369746174735f5f,2107,.ref 209),(0x5f5f746369645f5f,2109,.ref 212),(0x5f5f6665726b6165775f5f,2111,.ref 213),(0x5f5f636f645f5f,2112,.none)] 4
noncomputable def KV(P:Params):Obj:=⟨(.type "type"),none,(.cls ⟨⟨⟨(bP 0x726574726f536c616369676f6c6f706f54)⟩⟩,[(.type "object")],[(.ref 211),(.type "object")],210,⟨⟨(bP 0x726574726f536c616369676f6c6f706f54)⟩⟩,true,[],[],false,none,false⟩),⟨[none,none,(some (ar ((bP 0x726574726f536c616369676f6c6f706f54)) 1996)),(some (ar ((bP 0x726574726f536c616369676f6c6f706f54)) 2004)),(some (.builtin "object.__new__")),(some (.bool true))]⟩⟩
noncomputable def sR(P:Params):Obj:=⟨(.type "tuple"),none,(.seq ⟨[(.int 14 0),(.int 17 0),(.int 4 0),(.int 1 0),(.int 1 0),(.int 21 0),(.int 9 0),(.int 0 0),(.int 604043296 0),(.int 1 0),(.int 0 0),(.int 0 0),(.int 0 0),(.int 0 0),(.int 0 0),(.int 8 0),(.int 4 0),(.int 0 0),(.int 13 0),(.int 14 0),(.int 21 0),(.int 9 0),(.int 0 0),(.int 604043296 0),(.int 1 0),(.int 0 0),(.int 0 0),(.int 0 0),(.int 0 0),(.int 0 0),(.int 8 0),(.int 4 0),(.int 0 0),(.int 1 0)]⟩ 0),⟨[]⟩⟩
noncomputable def pq(P:Params):Obj:=⟨(.type "re.Pattern"),none,(.fields ⟨[(ar ((bP 0x5d2d2f2e2c3a3d2b2540775c5e5b)) 2116),(.int 256 2153),(.int 0 0),.none,.none,(.ref 219),(.int 0 0)]⟩),⟨[]⟩⟩
noncomputable def KW(P:Params):Obj:=fN "_index" "_index" 2165 224 2 0 3 228 2170
noncomputable def KX(P:Params):Obj:=e9 (sA 34) "_index" .none "io" 2155 233
noncomputable def KY(P:Params):Obj:=fN "__new__" "IOBase.__new__" 2209 236 1 1 15 255 2215
noncomputable def KZ(P:Params):Obj:=e9 (sB 36 1) "IOBase.__new__" .none "io" 2155 260
noncomputable def K0(P:Params):Obj:=vl P [(0x5f5f656c75646f6d5f5f,2202,.str ⟨⟨[105,111]⟩⟩ 2207),(0x5f5f6f6e656e696c74737269665f5f,2206,.int 233 2205),(0x5f5f77656e5f5f,2217,.ref 265),(0x5f5f736574756269727474615f6369746174735f5f,2218,.ref 262),(0x5f5f746369645f5f,2221,.ref 266),(0x5f5f6665726b6165775f5f,2223,.ref 267),(0x5f5f636f645f5f,2224,.none)] 4
noncomputable def K3(P:Params):Obj:=⟨(.type "type"),none,(.cls ⟨⟨⟨(bP 0x657361424f49)⟩⟩,[(.type "object")],[(.ref 264),(.type "object")],263,⟨⟨(bP 0x657361424f49)⟩⟩,true,[],[(.ref 279),(.ref 291)],false,none,false⟩),⟨[none,none,(some (ar ((bP 0x657361424f49)) 2195)),(some (ar ((bP 0x657361424f49)) 2203)),(some .none),(some (.bool true))]⟩⟩
noncomputable def K4(P:Params):Obj:=⟨(.type "staticmethod"),none,(.fields ⟨[(.ref 261)]⟩),⟨[]⟩⟩
noncomputable def K5(P:Params):Obj:=vl P [(0x5f5f656c75646f6d5f5f,2252,.str ⟨⟨[105,111]⟩⟩ 2257),(0x5f5f6f6e656e696c74737269665f5f,2256,.int 242 2255),(0x5f5f736574756269727474615f6369746174735f5f,2259,.ref 289),(0x5f5f636f645f5f,2260,.none)] 2
noncomputable def K6(P:Params):Obj:=⟨(.type "type"),none,(.cls ⟨⟨⟨(bP 0x657361424f4974786554)⟩⟩,[(.ref 264)],[(.ref 291),(.ref 264),(.type "object")],290,⟨⟨(bP 0x657361424f4974786554)⟩⟩,true,[],[(.ref 768)],false,none,false⟩),⟨[(some (.ref 282)),none,(some (ar ((bP 0x657361424f4974786554)) 2245)),(some (ar ((bP 0x657361424f4974786554)) 2253)),(some .none),(some (.bool true))]⟩⟩
noncomputable def K7(P:Params):Obj:=⟨(.type "type"),none,(.cls ⟨⟨⟨(bP 0x4f497365747942)⟩⟩,[(.ref 279)],[(.ref 521),(.ref 279),(.ref 264),(.type "object")],520,⟨⟨(bP 0x4f497365747942)⟩⟩,true,[],[],false,none,false⟩),⟨[(some (.ref 294)),none,(some (ar ((bP 0x4f497365747942)) 2263)),(some (ar ((bP 0x4f497365747942)) 2271)),(some .none),(some (.bool true))]⟩⟩
noncomputable def K8(P:Params):Obj:=⟨(.type "tuple"),none,(.seq ⟨[(ar [] 2539),(ar [10] 2540)]⟩ 0),⟨[]⟩⟩
noncomputable def K9(P:Params):Obj:=fN "__init__" "StringIO.__init__" 2541 417 3 0 3 532 2547
noncomputable def La(P:Params):Obj:=e9 (sB 40 1) "StringIO.__init__" (.ref 531) "io" 2155 537
noncomputable def Lb(P:Params):Obj:=fN "__translated" "StringIO.__translated" 2550 430 2 0 3 539 2556
noncomputable def Lc(P:Params):Obj:=e9 (sB 40 2) "StringIO.__translated" .none "io" 2155 544
noncomputable def Ld(P:Params):Obj:=fN "__check" "StringIO.__check" 2559 438 1 0 3 546 2563
noncomputable def Le(P:Params):Obj:=e9 (sB 40 3) "StringIO.__check" .none "io" 2155 551
noncomputable def Lf(P:Params):Obj:=⟨(.type "tuple"),none,(.seq ⟨[(.int (-1) 2732)]⟩ 0),⟨[]⟩⟩
noncomputable def Lg(P:Params):Obj:=fN "read" "StringIO.read" 2733 560 2 2 3 708 2740
noncomputable def Lh(P:Params):Obj:=e9 (sB 40 25) "StringIO.read" (.ref 707) "io" 2155 713
noncomputable def Li(P:Params):Obj:=vl P [(0x5f5f656c75646f6d5f5f,2532,.str ⟨⟨(bP 0x6f695f)⟩⟩ 2537),(0x5f5f6f6e656e696c74737269665f5f,2536,.int 414 2535),(0x5f5f74696e695f5f,2549,.ref 538),(0x646574616c736e6172745f5f4f49676e697274535f,2558,.ref 545),(0x6b636568635f5f4f49676e697274535f,2565,.ref 552),(0x746f645f6b636568635f5f4f49676e697274535f,2572,.ref 559),(0x656e696c5f5f4f49676e697274535f,2587,.ref 566),(0x6465736f6c63,2595,.ref 574),(0x676e697265666675625f656e696c,2603,.ref 582),(0x73656e696c77656e,2611,.ref 590),(0x676e69646f636e65,2619,.ref 598),(0x73726f727265,2627,.ref 606),(0x65736f6c63,2634,.ref 613),(0x5f5f7265746e655f5f,2641,.ref 620),(0x5f5f746978655f5f,2649,.ref 627),(0x656c626164616572,2656,.ref 634),(0x656c626174697277,2663,.ref 641),(0x656c62616b656573,2670,.ref 648),(0x797474617369,2677,.ref 655),(0x6873756c66,2684,.ref 662),(0x6f6e656c6966,2691,.ref 669),(0x686361746564,2698,.ref 676),(0x65756c6176746567,2705,.ref 683),(0x6c6c6574,2712,.ref 690),(0x6b656573,2722,.ref 698),(0x657461636e757274,2730,.ref 706),(0x64616572,2742,.ref 714),(0x656e696c64616572,2752,.ref 722),(0x73656e696c64616572,2762,.ref 730),(0x5f5f726574695f5f,2769,.ref 737),(0x5f5f7478656e5f5f,2777,.ref 744),(0x6574697277,2789,.ref 751),(0x73656e696c6574697277,2797,.ref 758),(0x5f5f727065725f5f,2804,.ref 765),(0x5f5f736574756269727474615f6369746174735f5f,2808,.ref 766),(0x5f5f636f645f5f,2809,.none)] 2
noncomputable def Lj(P:Params):Obj:=⟨(.type "type"),none,(.cls ⟨⟨⟨(bP 0x4f49676e69727453)⟩⟩,[(.ref 291)],[(.ref 768),(.ref 291),(.ref 264),(.type "object")],767,⟨⟨(bP 0x4f49676e69727453)⟩⟩,true,[],[],false,none,false⟩),⟨[(some (.ref 524)),none,(some (ar ((bP 0x4f49676e69727453)) 2525)),(some (ar ((bP 0x4f49676e69727453)) 2533)),(some .none),(some (.bool true))]⟩⟩
noncomputable def Ll(P:Params):Obj:=⟨(.type "tuple"),none,(.seq ⟨[.none,.none,(.bool false),(.bool false)]⟩ 0),⟨[]⟩⟩
noncomputable def Lm(P:Params):Obj:=fN "__init__" "shlex.__init__" 2885 686 5 0 3 821 2894
noncomputable def Ln(P:Params):Obj:=e9 (sB 50 0) "shlex.__init__" (.ref 820) "cpy313.shlex" 2871 826
noncomputable def Lo(P:Params):Obj:=fN "punctuation_chars" "shlex.punctuation_chars" 2897 727 1 0 3 828 2901
noncomputable def Lq(P:Params):Obj:=e9 (sB 50 1) "shlex.punctuation_chars" .none "cpy313.shlex" 2871 833
noncomputable def Lr(P:Params):Obj:=⟨(.type "property"),none,(.fields ⟨[(.ref 834),.none,.none,.none,(ar ((bP 0x73726168635f6e6f6974617574636e7570)) 2904),(.bool false)]⟩),⟨[]⟩⟩
noncomputable def Lu(P:Params):Obj:=fN "get_token" "shlex.get_token" 2929 754 1 0 3 858 2938
noncomputable def wL(P:Params):Obj:=e9 (sB 50 5) "shlex.get_token" .none "cpy313.shlex" 2871 863
noncomputable def Lv(P:Params):Obj:=fN "read_token" "shlex.read_token" 2941 781 1 0 3 865 2949
noncomputable def mW(P:Params):Obj:=e9 (sB 50 6) "shlex.read_token" .none "cpy313.shlex" 2871 870
noncomputable def Lw(P:Params):Obj:=fN "__iter__" "shlex.__iter__" 2969 928 1 0 3 887 2973
noncomputable def Lx(P:Params):Obj:=e9 (sB 50 9) "shlex.__iter__" .none "cpy313.shlex" 2871 892
noncomputable def Ly(P:Params):Obj:=fN "__next__" "shlex.__next__" 2976 931 1 0 3 894 2981
noncomputable def pv(P:Params):Obj:=e9 (sB 50 10) "shlex.__next__" .none "cpy313.shlex" 2871 899
noncomputable def Lz(P:Params):Obj:=vl P [(0x5f5f656c75646f6d5f5f,2880,.str ⟨⟨(bP 0x78656c68732e333133797063)⟩⟩ 2871),(0x5f5f6f6e656e696c74737269665f5f,2884,.int 684 2883),(0x5f5f74696e695f5f,2896,.ref 827),(0x73726168635f6e6f6974617574636e7570,2904,.ref 835),(0x6e656b6f745f68737570,2912,.ref 842),(0x656372756f735f68737570,2921,.ref 850),(0x656372756f735f706f70,2928,.ref 857),(0x6e656b6f745f746567,2940,.ref 864),(0x6e656b6f745f64616572,2951,.ref 871),(0x6b6f6f68656372756f73,2959,.ref 878),(0x72656461656c5f726f727265,2968,.ref 886),(0x5f5f726574695f5f,2975,.ref 893),(0x5f5f7478656e5f5f,2983,.ref 900),(0x5f5f736574756269727474615f6369746174735f5f,3004,.ref 901),(0x5f5f746369645f5f,3006,.ref 904),(0x5f5f6665726b6165775f5f,3008,.ref 905),(0x5f5f636f645f5f,3009,.none)] 4
noncomputable def LA(P:Params):Obj:=⟨(.type "type"),none,(.cls ⟨⟨⟨(bP 0x78656c6873)⟩⟩,[(.type "object")],[(.ref 903),(.type "object")],902,⟨⟨(bP 0x78656c6873)⟩⟩,true,[],[],false,none,false⟩),⟨[none,none,(some (ar ((bP 0x78656c6873)) 2873)),(some (ar ((bP 0x78656c6873)) 2881)),(some (.builtin "object.__new__")),(some (.bool true))]⟩⟩
noncomputable def LB(P:Params):Obj:=⟨(.type "tuple"),none,(.seq ⟨[(.bool false),(.bool true)]⟩ 0),⟨[]⟩⟩
noncomputable def LC(P:Params):Obj:=fN "split" "split" 3012 936 3 0 3 909 3019
noncomputable def pw(P:Params):Obj:=e9 (sA 51) "split" (.ref 908) "cpy313.shlex" 2871 914
noncomputable def sT(P:Params):Obj:=fN "join" "join" 3022 944 1 0 3 916 3026
noncomputable def LD(P:Params):Obj:=e9 (sA 52) "join" .none "cpy313.shlex" 2871 921
noncomputable def LG(P:Params):Obj:=⟨(.type "builtin_function_or_method"),none,(.fields ⟨[(.builtin "re.Pattern.search"),(.ref 220)]⟩),⟨[]⟩⟩
noncomputable def LH(P:Params):Obj:=fN "quote" "quote" 3032 948 1 0 3 924 3036
noncomputable def LI(P:Params):Obj:=e9 (sA 55) "quote" .none "cpy313.shlex" 2871 929
noncomputable def LJ(P:Params):Obj:=fN "_law_plan" "_law_plan" 3042 956 1 0 3 931 3050
noncomputable def sU(P:Params):Obj:=e9 (sA 58) "_law_plan" .none "law_op0292_01" 3040 936
noncomputable def LK(P:Params):Obj:=QQ "_law_steps" "_law_steps" 3053 965 2 0 3 938 3056
noncomputable def sV(P:Params):Obj:=e9 (sA 59) "_law_steps" .none "law_op0292_01" 3040 941
noncomputable def LM(P:Params):Obj:=fN "_law_ways" "_law_ways" 3059 973 3 0 3 943 3068
noncomputable def iG(P:Params):Obj:=e9 (sA 60) "_law_ways" .none "law_op0292_01" 3040 948
noncomputable def LN(P:Params):Obj:=fN "_law_read" "_law_read" 3071 980 3 0 3 950 3080
noncomputable def eH(P:Params):Obj:=e9 (sA 61) "_law_read" .none "law_op0292_01" 3040 955
noncomputable def LO(P:Params):Obj:=QQ "law" "law" 3083 990 1 0 3 957 3086
noncomputable def jJ(P:Params):Obj:=e9 (sA 62) "law" .none "law_op0292_01" 3040 960
noncomputable def aD(l r:KT):KT:=.node none l r
noncomputable def bO(o:Obj):KT:=.node (some o) .nil .nil
noncomputable def V4(P:Params):KT:=(aD (aD (aD (aD (aD .nil (bO (Li P))) .nil) .nil) (.node (some (zD P)) .nil (aD (aD .nil (bO (Lu P))) .nil))) .nil)
noncomputable def V5(P:Params):KT:=(aD (aD (aD (aD (bO (K0 P)) (aD .nil (bO (LA P)))) .nil) (aD (aD (aD (bO (Ld P)) .nil) .nil) (aD (aD .nil (bO (mW P))) .nil))) (aD (bO (Sl P)) .nil))
noncomputable def V6(P:Params):KT:=(aD (aD (.node (some (Sh P)) (aD .nil (aD .nil (bO (Ly P)))) (aD (aD .nil (bO (Lr P))) (aD (bO (Lf P)) .nil))) (aD (aD (bO (K6 P)) .nil) .nil)) (aD (aD (.node (some (KG P)) (aD (bO (K8 P)) .nil) (aD .nil (bO (pw P)))) (bO (KV P))) (.node (some (Kw P)) (bO (KP P)) .nil)))
noncomputable def V7(P:Params):KT:=(aD .nil (aD (aD (aD .nil (aD .nil (bO (LG P)))) (bO (sR P))) (aD (aD (aD .nil (bO (Ln P))) (aD .nil (bO (LN P)))) .nil)))
noncomputable def V8(P:Params):KT:=(aD (aD (aD (bO (KA P)) (.node (some (KR P)) (aD .nil (bO (Lo P))) (aD .nil (bO (jJ P))))) (aD (.node (some (pn P)) (aD (bO (Lc P)) .nil) (aD .nil (bO (LH P)))) .nil)) (aD .nil (bO (Ku P))))
noncomputable def V9(P:Params):KT:=(aD (aD (aD (aD (.node (some (K4 P)) (bO (K7 P)) .nil) .nil) (.node (some (sQ P)) .nil (aD (bO (Lg P)) .nil))) (aD (aD .nil (aD .nil (bO (sU P)))) (bO (KW P)))) (aD (aD (.node (some (KH P)) (aD (bO (K9 P)) .nil) (aD .nil (bO (sT P)))) .nil) .nil))
noncomputable def Wa(P:Params):KT:=(aD (aD (aD (aD (bO (KZ P)) .nil) .nil) (aD (bO (KN P)) .nil)) (aD .nil (.node (some (Ky P)) (aD .nil (aD .nil (bO (iG P)))) .nil)))
noncomputable def Wb(P:Params):KT:=(aD (aD .nil (.node (some (Ks P)) (.node (some (sO P)) .nil (aD .nil (bO (LK P)))) .nil)) (aD .nil (aD .nil (aD (aD .nil (bO (Lx P))) .nil))))
noncomputable def Wc(P:Params):KT:=(aD (aD (aD (.node (some (Kz P)) (aD .nil (bO (Lj P))) .nil) (aD .nil (aD .nil (bO (LO P))))) (aD (.node (some (KL P)) (aD (bO (Lb P)) .nil) .nil) (aD (aD .nil (bO (wL P))) .nil))) (aD (bO (Si P)) .nil))
noncomputable def We(P:Params):KT:=(aD (aD (aD (aD (bO (K3 P)) .nil) (bO (KS P))) (aD (aD (aD (bO (Le P)) .nil) (aD .nil (bO (LJ P)))) .nil)) (aD (bO (Sm P)) .nil))
noncomputable def So(P:Params):KT:=(aD (aD (aD (aD (bO (KY P)) (aD .nil (bO (pv P)))) .nil) .nil) (aD .nil (.node (some (Kx P)) (.node (some (KQ P)) (aD .nil (bO (Ll P))) (aD .nil (bO (LM P)))) .nil)))
noncomputable def Sq(P:Params):KT:=(aD (aD (.node (some (nr P)) (.node (some (KC P)) .nil (aD .nil (bO (LB P)))) .nil) (aD (bO (KO P)) .nil)) (aD (aD .nil (bO (pq P))) (aD (aD .nil (aD .nil (bO (eH P)))) (aD (aD .nil (bO (Lw P))) .nil))))
noncomputable def Sr(P:Params):KT:=(aD (aD (.node (some (Sg P)) .nil (.node (some (sP P)) (aD .nil (bO (Lq P))) .nil)) (aD (aD (bO (K5 P)) (aD .nil (bO (LI P)))) .nil)) (aD (aD (.node (some (KD P)) .nil (aD .nil (bO (LC P)))) (bO (KU P))) (bO (Kv P))))
noncomputable def Ss(P:Params):KT:=(aD (aD (aD .nil (aD .nil (aD (bO (Lh P)) .nil))) (aD .nil (bO (KX P)))) (aD (aD (.node (some (KJ P)) (aD (bO (La P)) .nil) (aD .nil (bO (LD P)))) .nil) (aD (aD (aD .nil (bO (Lm P))) .nil) .nil)))
noncomputable def Su(P:Params):KT:=(aD (aD (aD (aD .nil (aD .nil (bO (Lz P)))) .nil) (aD (bO (kO P)) (aD (aD .nil (bO (Lv P))) .nil))) (aD (bO (Sj P)) .nil))
noncomputable def Sv(P:Params):KT:=(aD (aD .nil (.node (some (Kt P)) (aD .nil (aD .nil (bO (sV P)))) .nil)) (aD (bO (Sn P)) .nil))
noncomputable def Sw(P:Params):KT:=(.node (some (VZ P)) (.node (some (V1 P)) (.node (some (Ab P)) (aD (V4 P) (V5 P)) (aD (V6 P) (V7 P))) (aD (aD (V8 P) (V9 P)) (aD (Wa P) (Wb P)))) (.node (some (V2 P)) (.node (some (V3 P)) (aD (Wc P) (We P)) (aD (So P) (Sq P))) (aD (aD (Sr P) (Ss P)) (aD (Su P) (Sv P)))))
section
set_option tactic.hygienic false
theorem tN{l:ZA}{T X:LT}{m Z:Nat}(h:dm T m l=some (X,Z)):Z=m+l.length:=eP (P:=fun a m l=>Z=m+l.length) rfl (fun a a Y=>Y.trans (pa _ _)) h
theorem tO{l:ZA}{T Z:LT}{m X:Nat}(h:dm T m l=some (Z,X)):∀p∈l,∃x,Z.get x=some p:=(eP (P:=fun T m l=>(∀x,x<m->Z.get x=T.get x)/\∀p∈l,∃x,Z.get x=some p) ⟨fun a a=>rfl,fun a h=>nomatch h⟩
  (fun{_ _ m _ _} _ g Y=>⟨fun x hx=>(Y.1 x (Nat.lt_succ_of_lt hx)).trans ((g x).trans (if_neg (mJ hx))),
   fun p hp=>(bc.mp hp).elim (fun e=>⟨m,(Y.1 m (Nat.lt_succ_self m)).trans ((g m).trans ((if_pos rfl).trans (congrArg some e.symm)))⟩) (Y.2 p)⟩) h).2
theorem Rep.start{kt:KT}{s:ZS}{L:ZA}{T:LT}{m:Nat}(hT:dm .nil 0 L=some (T,m))(X:cP kt s.heap)(V:aR s.heap L)(hn:(L.map (·.1)).Nodup)(W:∀p∈L,kt.get p.1=none){bg:List aQ}(Y:∀l∈bg,kN kt s.heap (L.map (·.1)) l):Rep kt s (L.map (·.1)) bg.length T m s.heap.objs.size 0 s.toks 0 s.gens [] bg s:=by
 have get:=eQ hT
 have nil:∀y,LT.nil.get y=none:=fun y=>rfl
 have mem:∀{y p},T.get y=some p->p∈L:=fun{y p} e=>by
  rcases get y p e with q|q
  .rw [nil]at q;cases q
  .exact q
 have len:=tN hT
 have top:∀x p,T.get x=some p->x<m:=fun x p e=>by
  rcases(km hT).2.2 x p e with q|q
  .rw [nil]at q;cases q
  .exact q.2
 refine⟨rfl,rfl,by simp,rfl,rfl,fun x a o e=>V _ (mem e),fun x a o e=>⟨W _ (mem e),.inl (List.mem_map_of_mem (mem e)),fun q=>?_⟩,fun a h=>?_,by rw[len,List.length_map];exact Nat.le_add_left L.length 0,top,?_,fun l Z=>(Y l Z).kt,X,fun b o e c=>e,aM _,aM _,fun l Z=>(Y l Z).holds,fun l Z=>(Y l Z).nodup,fun l Z p hp x o e=>(Y l Z).apart p hp (by
  have:=mem e
  exact aZ.mpr ⟨_,this,rfl⟩),fun k l e X=>absurd (List.getElem?_eq_some_iff.mp e).1 (Nat.not_lt.mpr X),aM _⟩
 .have:=top _ _ e;rw[aB]at q;lia
 .obtain⟨p,hp,rfl⟩:=aZ.mp h;obtain⟨x,e⟩:=tO hT p hp;exact⟨x,p.2,e⟩
 .exact mf hT hn (fun y a o e=>by rw[nil]at e;cases e) (fun x y a o U e=>by rw[nil]at e;cases e)
noncomputable def gg:ay->List Ob
 |.err _=>[]
 |.fin _ _ _ _ _ _ _ _ _ _ ob _=>ob.map (·.1)
 |.stop _ _ _ _ _ _ _ _ _ _ _ _ _ ob _=>ob.map (·.1)
 |.tail _ _ _ _ _ _ _ _ _ _ _ ob _=>ob.map (·.1)
noncomputable def gh:ay->List Ob
 |.err _=>[]
 |.fin _ _ _ _ _ _ _ _ _ _ ob _=>ob.map (·.2)
 |.stop _ _ _ _ _ _ _ _ _ _ _ _ _ ob _=>ob.map (·.2)
 |.tail _ _ _ _ _ _ _ _ _ _ _ ob _=>ob.map (·.2)
noncomputable def dx(Z:ZN):ay->Option (Result×List (Option (Addr×Obj))×Nat×Nat×ZG×List GenState×List Prop)
 |.fin r T _ N j tk i G gl _ _ ps=>some (r,Z.map T.get,N+j,tk+i,G,gl,ps)
 |_=>none
noncomputable def px(Z:ZN):ay->Option (Code×Pos×List (Option (Addr×Obj))×Nat×Nat×ZG×List GenState×List Prop)
 |.tail c pos T _ N j tk i G gl _ _ ps=>some (c,pos,Z.map T.get,N+j,tk+i,G,gl,ps)
 |_=>none
noncomputable def fP:ay->List aQ
 |.fin _ _ _ _ _ _ _ _ _ bg _ _=>bg
 |.stop _ _ _ _ _ _ _ _ _ _ _ _ bg _ _=>bg
 |.tail _ _ _ _ _ _ _ _ _ _ bg _ _=>bg
 |_=>[]
theorem jj:∀{l:hP},l.map (·.1)=l.map (·.2)->d9 l
 |[],_=>fun a h=>nomatch h
 |p::l,h=>by
  rw[dw,dw]at h;injection h with Z h2
  intro q hq;rcases bc.mp hq with rfl|hq
  .exact Z
  .exact jj h2 q hq
structure p8(kT:KT)(aI:ZS)(old:List Addr)(nb:Nat)(hQ:ZN)(es:ZA)(N t:Nat)(gs:ZG)(bg:List aQ)(s:ZS):Prop where
 ext:Ext aI s old
 holds:aR s.heap es
 size:s.heap.objs.size=N
 toks:s.toks=t
 gens:s.gens=gs
 kt:cP kT s.heap
 free:∀q∈hQ.zip es,old.length<=q.1->aI.heap.get? q.2.1=none
 away:∀p∈es,kT.get p.1=none
 inj:∀q∈hQ.zip es,∀q'∈hQ.zip es,q.2.1=q'.2.1->q.1=q'.1
 iF:∀l∈bg,aR s.heap l
 dU:∀k l,bg[k]?=some l->nb<=k->∀p∈l,aI.heap.get? p.1=none
 d6:∀l∈bg,(l.map (·.1)).Nodup
 IP:∀l∈bg,∀p∈l,p.1∉es.map (·.1)
 k5:∀l∈bg,∀p∈l,kT.get p.1=none
theorem lQ{T:LT}:∀{Z:ZN} {Y:ZA},Z.map T.get=Y.map some->∀q∈Z.zip Y,T.get q.1=some q.2
 |[],_,_,_,h=>nomatch h
 |_::_,[],h,_,_=>by simp at h
 |x::Z,e::Y,h,q,hq=>by
  rw[dw,dw]at h;injection h with X h2
  rw[List.zip_cons_cons]at hq;rcases bc.mp hq with rfl|hq
  .exact X
  .exact lQ h2 q hq
theorem k8{T:LT}:∀{Z:ZN} {Y:ZA},Z.map T.get=Y.map some->∀p∈Y,∃x,T.get x=some p
 |_,[],_,_,h=>nomatch h
 |[],_::_,h,_,_=>by simp at h
 |x::Z,e::Y,h,p,hp=>by
  rw[dw,dw]at h;injection h with X h2
  rcases bc.mp hp with rfl|hp
  .exact⟨x,X⟩
  .exact k8 h2 p hp
theorem oy{kt:KT}{Z s:ZS}{Y:List Addr}{S:Nat}{T:LT}{m N j tk i:Nat}{G:ZG}{gl:List GenState}{bg:List aQ}(D:Rep kt Z Y S T m N j tk i G gl bg s){X:ZN}{R:ZA}(h:X.map T.get=R.map some):p8 kt Z Y S X R (N+j) (tk+i) (G++gl.toArray) bg s:=⟨D.ext,fun p hp=>by obtain⟨x,e⟩:=k8 h p hp;exact D.led _ _ _ e,D.size,D.toks,D.gens,D.kt,fun q hq U=>(D.own _ _ _ (lQ h q hq)).2.2 U,
  fun p hp=>by obtain⟨x,e⟩:=k8 h p hp;exact(D.own _ _ _ e).1,fun q hq W V e=>D.inj _ _ _ _ _ (lQ h q hq) (show T.get W.1=some (q.2.1,W.2.2)from by rw[e];exact lQ h W V),D.fs,D.dU,D.d6,fun l U p hp Q=>by
   obtain⟨q,hq,eq⟩:=aZ.mp Q;obtain⟨x,ex⟩:=k8 h q hq;exact D.eo l U p hp x q.2 (by rw[←eq];exact ex),D.k5⟩
structure sW where
 callee:Code
 c:Code
 pos:Pos
 h:Option ZV
 g:Bool
 l:ZY
 kp:ZY
 k:Result->ZE
 own:List Frame
 p0:Pos
noncomputable def B9(pos:Pos)(own:List Frame)(f:PySem.Fin):Option sW:=match f with
 |.done _=>none
 |.again Z=>match own with
  |[]=>none
  |F::rest=>match F with
   |.gen ..=>none
   |.ret k h g l cd p kp=>match Z.quiet with
    |true=>some ⟨Z,cd,p,h,g,l,kp,k,rest,pos⟩
    |false=>none
noncomputable def kP(c:Code)(pos:Pos)(t:ZE)(own:List Frame):Option sW:=if h:t.ctorIdx=16 then Sem.call.elim t h fun Z h g l k=>some ⟨Z,c,pos,h,g,l,[],k,own,pos⟩else if h:t.ctorIdx=0 then Sem.pure.elim t h (B9 pos own)else none
noncomputable def bp:ay->sW
 |.stop c pos t own ..=>(kP c pos t own).getD ⟨.builtin "" {},.builtin "" {},default,none,false,[],[],fun a=>.unsupported "",[],default⟩
 |_=>⟨.builtin "" {},.builtin "" {},default,none,false,[],[],fun a=>.unsupported "",[],default⟩
theorem Sy{b:Bool}{α:Type}{x z:α}(h:(match b with|true=>some x|false=>none)=some z):b=true/\x=z:=by
 cases b with
 |true=>exact⟨rfl,Option.some.inj h⟩
 |false=>cases h
theorem yV{prog:Program}{w:ZW}{B:aS}{s:ZS}{c:Code}{pos:Pos}{t:ZE}{own:List Frame}{R V:ZR}{z:sW}(h:kP c pos t own=some z)(W:a8 prog w ⟨z.k,z.h,z.g,z.l,z.c,z.pos,z.kp,z.own++B.st⟩ s z.callee z.p0 (denote table z.callee) [] V)(X:∀r Z,V r Z->a8 prog w B Z z.c z.pos (z.k r) z.own R):a8 prog w B s c pos t own R:=by
 by_cases q:t.ctorIdx=16
 .exact Sem.call.elim (motive:=fun t=>kP c pos t own=some z->a8 prog w B s c pos t own R) t q (fun U h g l k e=>by cases e;exact .call W X) h
 .by_cases Y:t.ctorIdx=0
  .refine Sem.pure.elim (motive:=fun t=>kP c pos t own=some z->a8 prog w B s c pos t own R) t Y (fun f e=>?_) h
   replace e:B9 pos own f=some z:=e
   cases f with
   |done=>cases e
   |again U=>
    cases own with
    |nil=>cases e
    |cons F rest=>
     cases F with
     |gen=>cases e
     |ret k h g l cd p kp=>
      obtain⟨q,rfl⟩:=Sy e;exact .again q W X
  .rw [kP,dif_neg q,dif_neg Y]at h;cases h
section
variable{V:Vw}{B:aS}{s:ZS}{Z:List Addr}{Y:Nat}{R:ZR}
theorem jk{out:ay}{hQ:ZN}{r:Result}{es:ZA}{N t:Nat}{G:ZG}{gl:List GenState}{ps:List Prop}(h:(gg out,dx hQ out)=(gh out,some (r,es.map some,N,t,G,gl,ps)))(hp:aO ps)(k:∀X,p8 V.kt s Z Y hQ es N t (G++gl.toArray) (fP out) X->R r X):bq V B s Z Y R out:=by
 obtain⟨M,h2⟩:=Prod.mk.inj h;cases out with
 |err n=>exact nS h2
 |tail=>exact nS h2
 |stop=>exact nS h2
 |fin J T m N' j tk i I L K ob O=>
  have h2:=Prod.mk.inj (Option.some.inj h2)
  have P:=Prod.mk.inj h2.2
  have Q:=Prod.mk.inj P.2
  have S:=Prod.mk.inj Q.2
  have U:=Prod.mk.inj S.2
  have W:=Prod.mk.inj U.2
  exact⟨jj M,W.2.symm▸hp,fun X D=>h2.1.symm▸k X (Q.1▸S.1▸U.1▸W.1▸oy D P.1)⟩
theorem nt{out:ay}{hQ:ZN}{c:Code}{pos:Pos}{es:ZA}{N t:Nat}{G:ZG}{gl:List GenState}{ps:List Prop}(h:(gg out,px hQ out)=(gh out,some (c,pos,es.map some,N,t,G,gl,ps)))(hp:aO ps)(k:∀X,p8 V.kt s Z Y hQ es N t (G++gl.toArray) (fP out) X->a8 V.prog V.w B X c pos (denote table c) [] R):bq V B s Z Y R out:=by
 obtain⟨L,h2⟩:=Prod.mk.inj h;cases out with
 |err n=>exact nS h2
 |fin=>exact nS h2
 |stop=>exact nS h2
 |tail I pos' T m N' j tk i H K J ob M=>
  have h2:=Prod.mk.inj (Option.some.inj h2)
  have O:=Prod.mk.inj h2.2
  have P:=Prod.mk.inj O.2
  have Q:=Prod.mk.inj P.2
  have S:=Prod.mk.inj Q.2
  have U:=Prod.mk.inj S.2
  have W:=Prod.mk.inj U.2
  exact⟨jj L,W.2.symm▸hp,fun X D=>by rw[h2.1,O.1];exact k X (Q.1▸S.1▸U.1▸W.1▸oy D P.1)⟩
def cu(V:Vw)(W:List (Nat×bD V.prog V.w V.kt))(fr:ZL)(c:Code)(pos:Pos)(X:ZE)(own:List Frame)(L:ZA)(bg:List aQ)(N t:Nat)(G:ZG):ay:=match dm .nil 0 L with
 |some (T,m)=>ev V W [] fr c pos X own T m N 0 t 0 G [] bg [] []
 |none=>.err 99
def aq(V:Vw)(X:List (Nat×bD V.prog V.w V.kt))(fr:ZL)(c:Code)(pos:Pos)(L:ZA)(bg:List aQ)(N t:Nat)(G:ZG):ay:=cu V X fr c pos (den c) [] L bg N t G
def cU(V:Vw)(X:List (Nat×bD V.prog V.w V.kt))(fr:ZL)(c:Code)(pos:Pos)(L:ZA)(N t:Nat)(G:ZG):ay:=aq V X fr c pos L [] N t G
theorem jl{U:List (Nat×bD V.prog V.w V.kt)}{c:Code}{pos:Pos}{X:ZE}{own:List Frame}{L:ZA}(O:B.W=V.W)(hB:topHandled B.st=V.hb)(S:cP V.kt s.heap)(N:aR s.heap L)(hn:(L.map (·.1)).Nodup)(P:∀p∈L,V.kt.get p.1=none){bg:List aQ}(Q:∀l∈bg,kN V.kt s.heap (L.map (·.1)) l)(H:∀fr:ZL,bq V B s (L.map (·.1)) bg.length R (cu V U fr c pos X own L bg s.heap.objs.size s.toks s.gens)):a8 V.prog V.w B s c pos X own R:=by
 cases q:dm .nil 0 L with
 |none=>
  have:=H []
  simp only[cu,q]at this;exact this.elim
 |some z=>
  obtain⟨T,m⟩:=z;have h:=qs O hB (aI:=s) (old:=L.map (·.1)) (nb:=bg.length) (R:=R) U [] c pos X own T m s.heap.objs.size 0 s.toks 0 s.gens [] bg [] [] (fun fr=>by
   have:=H fr
   simp only[cu,q]at this;exact this)
  exact h.2.2 s (Rep.start q S N hn P Q)
theorem k9{hs:List (Nat×bD V.prog V.w V.kt)}{c:Code}{pos:Pos}{L:ZA}(S:B.W=V.W)(hB:topHandled B.st=V.hb)(X:cP V.kt s.heap)(Q:aR s.heap L)(hn:(L.map (·.1)).Nodup)(T:∀p∈L,V.kt.get p.1=none){bg:List aQ}(U:∀l∈bg,kN V.kt s.heap (L.map (·.1)) l)(H:∀fr:ZL,bq V B s (L.map (·.1)) bg.length R (aq V hs fr c pos L bg s.heap.objs.size s.toks s.gens)):a8 V.prog V.w B s c pos (denote table c) [] R:=by rw[eY];exact jl S hB X Q hn T U H
end
theorem eR{α β:Type}:∀{l:List α} {m:List β} {p:β},l.length=m.length->p∈m->∃x,(x,p)∈l.zip m
 |[],[],_,_,h=>nomatch h
 |[],_::_,_,h,_=>by simp at h
 |_::_,[],_,_,h=>nomatch h
 |x::l,q::m,p,Y,hp=>by
  rcases bc.mp hp with rfl|hp
  .exact⟨x,.head _⟩
  .obtain⟨y,Z⟩:=eR (by simpa using Y) hp
   exact⟨y,.tail _ Z⟩
end
section
set_option tactic.hygienic false
theorem cC{α β:Type}:∀{a:List α} {b:List α} {x y:List β},a.length=x.length->(a++b).zip (x++y)=a.zip x++b.zip y
 |[],_,[],_,_=>rfl
 |[],_,_::_,_,h=>by simp at h
 |_::_,_,[],_,h=>by simp at h
 |p::a,b,q::x,y,h=>by
  simp only[List.cons_append,List.zip_cons_cons];rw[cC (by simpa using h)]
theorem Ext.trans{s W Y:ZS}{Z:List Addr}(h:Ext s W Z)(X:Ext W Y Z):Ext s Y Z:=⟨fun b o e q=>X.frame b o (h.frame b o e q) q,au h.size X.size,au h.toks X.toks,X.drawn.trans h.drawn,X.os.trans h.os⟩
structure dR(V:Vw)(B:aS)(s:ZS)(L:ZA)(bg:List aQ):Prop where
 W:B.W=V.W
 hB:topHandled B.st=V.hb
 kt:cP V.kt s.heap
 holds:aR s.heap L
 nodup:(L.map (·.1)).Nodup
 away:∀p∈L,V.kt.get p.1=none
 gF:∀l∈bg,kN V.kt s.heap (L.map (·.1)) l
structure de(s s':ZS)(pre:ZA)(post:List Obj)(nw:ZA)(fs:List aQ)(ng:Nat):Prop where
 ext:Ext s s' (pre.map (·.1))
 len:post.length=pre.length
 upd:aR s'.heap ((pre.map (·.1)).zip post)
 new:aR s'.heap nw
 free:∀p∈nw,s.heap.get? p.1=none
 nodup:(nw.map (·.1)).Nodup
 gens:s'.gens=s.gens++(List.replicate ng GenState.finished).toArray
 iF:∀l∈fs,aR s'.heap l
 dU:∀l∈fs,∀p∈l,s.heap.get? p.1=none
 d6:∀l∈fs,(l.map (·.1)).Nodup
 eo:∀l∈fs,∀p∈l,p.1∉nw.map (·.1)
theorem de.Wf{s W:ZS}{Y:ZA}{Z:List Obj}{new:ZA}{X:List aQ}{V:Nat}(h:de s W Y Z new X V)(r:Result):cf s W Y ⟨r,Z,new,W.heap.objs.size,W.toks,V,X⟩:=⟨h.ext,h.len,h.upd,h.new,h.free,h.nodup,rfl,rfl,h.gens,h.iF,h.dU,h.d6,h.eo⟩
theorem cf.UL{s Y:ZS}{Z:ZA}{b:vb}(h:cf s Y Z b):de s Y Z b.post b.new b.fs b.ng:=⟨h.ext,h.len,h.upd,h.new,h.free,h.nodup,h.gens,h.iF,h.dU,h.d6,h.eo⟩
theorem jK{Z:ZN}{X:ZA}(hx:Z.length=X.length)(Y:Z.Nodup)(inj:∀q∈Z.zip X,∀W∈Z.zip X,q.2.1=W.2.1->q.1=W.1):(X.map (·.1)).Nodup:=by
 induction X generalizing Z with
 |nil=>exact cW
 |cons p X T=>
  cases Z with
  |nil=>simp at hx
  |cons x Z=>
   rw[cy]at Y;rw[dw,cy];refine⟨fun S=>?_,T (by simpa using hx) Y.2 (fun q hq W V=>inj q (.tail _ hq) W (.tail _ V))⟩
   obtain⟨q,hq,eq⟩:=aZ.mp S;obtain⟨y,U⟩:=eR (by simpa using hx) hq
   have:y=x:=inj (y,q) (.tail _ U) (x,p) (.head _) eq
   exact Y.1 (this▸(List.of_mem_zip U).1)
theorem eI{kt:KT}{s T:ZS}{L:ZA}{bg dn:List aQ}{nx:ZN}{post:List Obj}{new:ZA}{N t ng:Nat}(F:p8 kt s (L.map (·.1)) bg.length (List.range L.length++nx) ((L.map (·.1)).zip post++new) N t (s.gens++(List.replicate ng GenState.finished).toArray) (bg++dn) T)(Z:post.length=L.length)(hx:nx.length=new.length)(V:∀x∈nx,L.length<=x)(W:nx.Nodup):de s T L post new dn ng:=by
 have P:(List.range L.length).length=((L.map (·.1)).zip post).length:=by simp[Z]
 have U:(List.range L.length++nx).zip ((L.map (·.1)).zip post++new)=(List.range L.length).zip ((L.map (·.1)).zip post)++nx.zip new:=cC P
 have free:∀q∈nx.zip new,s.heap.get? q.2.1=none:=fun q hq=>F.free q (by rw[U];exact cz _ hq) (by rw[aB];exact V _ (List.of_mem_zip hq).1)
 refine⟨F.ext,Z,fun p hp=>F.holds p (dN _ hp),fun p hp=>F.holds p (cz _ hp),fun p hp=>?_,?_,F.gens,fun l Z=>F.iF l (cz _ Z),fun l Z p hp=>?_,fun l Z=>F.d6 l (cz _ Z),fun l Z p hp R=>F.IP l (cz _ Z) p hp (by rw[aL];exact cz _ R)⟩
 .obtain⟨x,Y⟩:=eR hx hp;exact free _ Y
 .exact jK hx W fun q hq S X=>F.inj q (by rw[U];exact cz _ hq) S (by rw[U];exact cz _ X)
 .obtain⟨k,Q,e⟩:=List.mem_iff_getElem.mp Z;exact F.dU (bg.length+k) l (by rw[List.getElem?_append_right (b8 bg.length k)];simp[Q,e]) (b8 bg.length k) p hp
theorem lR{n:Nat}{Z:ZN}(X:∀x∈Z,n<=x)(Y:Z.Nodup):(List.range n++Z).Nodup:=by
 rw[eG];refine⟨List.nodup_range,Y,fun a V b W e=>?_⟩
 have:=fj.mp V
 have:=X _ W
 lia
theorem ko{V:Vw}{B:aS}{s S:ZS}{L:ZA}{nb:Nat}{bg:List aQ}{Y:ZN}{Z:List Obj}{new:ZA}{N t:Nat}{P:ZG}{X:List Addr}(Q:B.W=V.W)(hB:topHandled B.st=V.hb)(F:p8 V.kt s X nb (List.range L.length++Y) ((L.map (·.1)).zip Z++new) N t P bg S)(R:Z.length=L.length)(hx:Y.length=new.length)(T:∀x∈Y,L.length<=x)(U:Y.Nodup):dR V B S ((L.map (·.1)).zip Z++new) bg:=⟨Q,hB,F.kt,F.holds,jK (by simp[R,hx]) (lR T U) F.inj,F.away,fun l h=>⟨F.iF l h,F.k5 l h,F.IP l h,F.d6 l h⟩⟩
section
variable{V:Vw}{B:aS}{s:ZS}{L:ZA}{bg:List aQ}
theorem qt{hs:List (Nat×bD V.prog V.w V.kt)}{c:Code}{pos:Pos}{Z:ZE}{own:List Frame}{Y:ZN}{post:ZL->List Obj}{new:ZL->ZA}{dn:ZL->List aQ}{N t:ZL->Nat}{ng:Nat}{r:ZL->Result}{ps:ZL->List Prop}(h:dR V B s L bg)(H:∀fr:ZL,(gg (cu V hs fr c pos Z own L bg s.heap.objs.size s.toks s.gens),dx (List.range L.length++Y) (cu V hs fr c pos Z own L bg s.heap.objs.size s.toks s.gens),fP (cu V hs fr c pos Z own L bg s.heap.objs.size s.toks s.gens))=
   (gh (cu V hs fr c pos Z own L bg s.heap.objs.size s.toks s.gens),some (r fr,((L.map (·.1)).zip (post fr)++new fr).map some,N fr,t fr,s.gens,List.replicate ng GenState.finished,ps fr),bg++dn fr))(hp:∀fr,aO (ps fr))(P:∀fr,(post fr).length=L.length)(hx:∀fr,Y.length=(new fr).length)(S:∀x∈Y,L.length<=x)(T:Y.Nodup):a8 V.prog V.w B s c pos Z own (fun U X=>∃fr,U=r fr/\de s X L (post fr) (new fr) (dn fr) ng):=jl (R:=fun U X=>∃fr,U=r fr/\de s X L (post fr) (new fr) (dn fr) ng) h.W h.hB h.kt h.holds h.nodup h.away h.gF fun fr=>by
  have e:=H fr
  refine jk (hQ:=List.range L.length++Y) (r:=r fr) (es:=(L.map (·.1)).zip (post fr)++new fr) (N:=N fr) (t:=t fr) (G:=s.gens) (gl:=List.replicate ng GenState.finished) (ps:=ps fr) (Prod.ext (congrArg (·.1) e) (congrArg (·.2.1) e)) (hp fr) fun X F=>⟨fr,rfl,?_⟩
  have Q:=congrArg (·.2.2) e
  simp only at Q;rw[Q]at F;exact eI F (P fr) (hx fr) S T
theorem vm{R:ZR}{hs:List (Nat×bD V.prog V.w V.kt)}{c:Code}{pos:Pos}{Z:ZE}{own:List Frame}{c':ZL->Code}{pos':ZL->Pos}{X:ZN}{post:ZL->List Obj}{new:ZL->ZA}{dn:ZL->List aQ}{N t:ZL->Nat}{ng:Nat}{ps:ZL->List Prop}(h:dR V B s L bg)(H:∀fr:ZL,(gg (cu V hs fr c pos Z own L bg s.heap.objs.size s.toks s.gens),px (List.range L.length++X) (cu V hs fr c pos Z own L bg s.heap.objs.size s.toks s.gens),fP (cu V hs fr c pos Z own L bg s.heap.objs.size s.toks s.gens))=
   (gh (cu V hs fr c pos Z own L bg s.heap.objs.size s.toks s.gens),some (c' fr,pos' fr,((L.map (·.1)).zip (post fr)++new fr).map some,N fr,t fr,s.gens,List.replicate ng GenState.finished,ps fr),bg++dn fr))(hp:∀fr,aO (ps fr))(S:∀fr,(post fr).length=L.length)(hx:∀fr,X.length=(new fr).length)(T:∀x∈X,L.length<=x)(U:X.Nodup)(K:∀fr Y,de s Y L (post fr) (new fr) (dn fr) ng->dR V B Y ((L.map (·.1)).zip (post fr)++new fr) (bg++dn fr)->a8 V.prog V.w B Y (c' fr) (pos' fr) (denote table (c' fr)) [] R):a8 V.prog V.w B s c pos Z own R:=jl h.W h.hB h.kt h.holds h.nodup h.away h.gF fun fr=>by
  have e:=H fr
  refine nt (hQ:=List.range L.length++X) (c:=c' fr) (pos:=pos' fr) (es:=(L.map (·.1)).zip (post fr)++new fr) (N:=N fr) (t:=t fr) (G:=s.gens) (gl:=List.replicate ng GenState.finished) (ps:=ps fr) (Prod.ext (congrArg (·.1) e) (congrArg (·.2.1) e)) (hp fr) fun Y F=>?_
  have Q:=congrArg (·.2.2) e
  simp only at Q;rw[Q]at F;exact K fr Y (eI F (S fr) (hx fr) T U) (ko (nb:=bg.length) h.W h.hB F (S fr) (hx fr) T U)
theorem ug{W:List (Nat×bD V.prog V.w V.kt)}{c:Code}{pos:Pos}{X:ZN}{Z:ZL->List Obj}{new:ZL->ZA}{Y:ZL->List aQ}{N t:ZL->Nat}{S:Nat}{r:ZL->Result}{ps:ZL->List Prop}(h:dR V B s L bg)(H:∀fr:ZL,(gg (aq V W fr c pos L bg s.heap.objs.size s.toks s.gens),dx (List.range L.length++X) (aq V W fr c pos L bg s.heap.objs.size s.toks s.gens),fP (aq V W fr c pos L bg s.heap.objs.size s.toks s.gens))=
   (gh (aq V W fr c pos L bg s.heap.objs.size s.toks s.gens),some (r fr,((L.map (·.1)).zip (Z fr)++new fr).map some,N fr,t fr,s.gens,List.replicate S GenState.finished,ps fr),bg++Y fr))(hp:∀fr,aO (ps fr))(P:∀fr,(Z fr).length=L.length)(hx:∀fr,X.length=(new fr).length)(T:∀x∈X,L.length<=x)(U:X.Nodup):a8 V.prog V.w B s c pos (denote table c) [] (fun Q R=>∃fr,Q=r fr/\de s R L (Z fr) (new fr) (Y fr) S):=by
 rw[eY];exact qt h H hp P hx T U
end
theorem aR.app{h:Heap}{a b:ZA}(x:aR h a)(y:aR h b):aR h (a++b):=fun p hp=>by
 rcases bJ.mp hp with q|q
 .exact x p q
 .exact y p q
theorem de.refl{s:ZS}{L:ZA}(h:aR s.heap L):de s s L (L.map (·.2)) [] [] 0:=⟨Ext.refl _ _,by simp,fun p hp=>by
  have:(L.map (·.1)).zip (L.map (·.2))=L:=by
   clear h hp;induction L with
   |nil=>rfl
   |cons x l Z=>simp only[List.map_cons,List.zip_cons_cons,Z]
  rw[this]at hp;exact h p hp,bH _,(fun a hp=>nomatch hp),cW,(by simp),(fun a hp=>nomatch hp),(fun a hp=>nomatch hp),(fun a hp=>nomatch hp),(fun a hp=>nomatch hp)⟩
theorem de.same{s W:ZS}{L M:ZA}{Z:List Obj}{new:ZA}{X:List aQ}{V:Nat}(S:aR s.heap M)(U:Z.length=L.length)(h:de s W (L++M) (Z++M.map (·.2)) new X V):de s W L Z new X V:=by
 have R:((L++M).map (·.1)).zip (Z++M.map (·.2))=(L.map (·.1)).zip Z++(M.map (·.1)).zip (M.map (·.2)):=by
  rw[aL];exact cC (by rw[aB,U])
 have P:(M.map (·.1)).zip (M.map (·.2))=M:=by
  clear h R S;induction M with
  |nil=>rfl
  |cons x l Q=>simp only[List.map_cons,List.zip_cons_cons,Q]
 have upd:=h.upd
 rw[R,P]at upd;refine⟨⟨fun b o e q=>?_,h.ext.size,h.ext.toks,h.ext.drawn,h.ext.os⟩,U,fun p hp=>upd p (dN _ hp),h.new,h.free,h.nodup,h.gens,h.iF,h.dU,h.d6,h.eo⟩
 by_cases T:b∈M.map (·.1)
 .obtain⟨p,hp,rfl⟩:=aZ.mp T;have N:=S p hp
  have O:=upd p (cz _ hp)
  rw[N]at e;cases e;exact O
 .refine h.ext.frame b o e fun Y=>?_
  rw[aL]at Y;rcases bJ.mp Y with Y|Y
  .exact q Y
  .exact T Y
section
variable{V:Vw}{B:aS}{s:ZS}{L M:ZA}{bg:List aQ}
theorem dR.opened(h:dR V B s L bg){M:aQ}(U:M∈bg):dR V B s (L++M) []:=by
 have z:=h.gF M U
 refine⟨h.W,h.hB,h.kt,aR.app h.holds z.holds,?_,fun p hp=>?_,fun c Z=>nomatch Z⟩
 .rw [aL,eG];refine⟨h.nodup,z.nodup,fun a X b Y e=>?_⟩
  subst e;obtain⟨p,hp,rfl⟩:=aZ.mp Y;exact z.apart p hp X
 .rcases bJ.mp hp with hp|hp
  .exact h.away p hp
  .exact z.kt p hp
end
structure Ct(prog:Program)(w:ZW)(kt:KT)where
 code:Code
 L:ZA
 W:kM
 bg:List aQ
 P:List Prop
 r:ZN->Result
 post:ZN->List Obj
 new:ZN->ZA
 fs:ZN->List aQ
 ng:Nat
section
variable{prog:Program}{w:ZW}{kt:KT}
structure Ct.At(C:Ct prog w kt)(B:aS)(s:ZS):Prop where
 P:aO C.P
 W:C.W.ok B.W
 here:∀W,B.W=W->dR ⟨prog,w,kt,W,none⟩ B s C.L C.bg
def Ct.Holds(C:Ct prog w kt):Prop:=∀(s:ZS)(B:aS)(pos:Pos),C.At B s->
 a8 prog w B s C.code pos (denote table C.code) [] (fun r Z=>∃g,r=C.r g/\de s Z C.L (C.post g) (C.new g) (C.fs g) C.ng)
noncomputable def Ct.ai{V:Type}(C:V->Ct prog w kt)(h:∀x,(C x).Holds)(inf:ZL->Code->Nat->Nat->LT->V)(Y X:ZN):aX prog w kt where
 A:=fun Z c N t T=>⟨(C (inf Z c N t T)).code,Y,(C (inf Z c N t T)).L,(C (inf Z c N t T)).W,(C (inf Z c N t T)).P,X,(C (inf Z c N t T)).bg⟩
 B:=fun Z c N t T f=>⟨(C (inf Z c N t T)).r (f.drop 2),(C (inf Z c N t T)).post (f.drop 2),(C (inf Z c N t T)).new (f.drop 2),f.getD 0 0,f.getD 1 0,(C (inf Z c N t T)).ng,(C (inf Z c N t T)).fs (f.drop 2)⟩
 ok:=fun Z c T s B pos e hp S M hn Q hB R O=>by
  have z:=h (inf Z c s.heap.objs.size s.toks T) s B pos ⟨hp,O,fun W e=>⟨e,hB,S,M,hn,Q,R⟩⟩
  rw[←(show c=(C (inf Z c s.heap.objs.size s.toks T)).code from e)]at z
  refine z.mono fun r U ⟨g,K,P⟩=>⟨U.heap.objs.size::U.toks::g,K,P.Wf _⟩
end
end
section
open PySem.F
section
set_option tactic.hygienic false
variable{prog:Program}{w:ZW}{kt:KT}
theorem typeIs_str(s:ZS)(x:Str)(t:Tok):s.TypeIs (.str x t) "str":=by first|exact rfl|trivial|simp[Shared.TypeIs]
noncomputable def iH:aX prog w kt:=dg (fun c=>.builtin "len" ⟨[.str (ag (v0 c)) (ao (v0 c))],[]⟩) (fun c=>[(ag (v0 c)).length<=16777216]) (fun c t=>.int (ag (v0 c)).length (t+1)) 2
 fun c s B pos hp hB a=>by
  have Z:(ag (v0 c)).length<=16777216:=hp _ (.head _)
  refine bL hB (by decide+kernel) entry_len (Meets.of_wp (S:=fun a R s=>R (.ok (.ret (.int (ag (v0 c)).length (s.toks+1)))) {s with toks:=s.toks+1+1}) fun prog w A R s h=>?_) ⟨rfl,rfl⟩
  exact wpAny_len_body (typeIs_str _ _ _) slot_str_len PySem.F.entry_str_len (args_str_len_1 _) (gives_str_len _ _) (sl (ag (v0 c)).length) (by lia) h
theorem dr{v Z:ZV}{s:ZS}(e:v=Z):(Made.val v).post (fun v Y=>(Except.ok (Flow.ret v):Result)=Except.ok (Flow.ret Z)/\Y={s with toks:=s.toks+0}) s:=⟨by rw[e],rfl⟩
noncomputable def QR(b:Bool):aX prog w kt:=dg (k7 "int.__ge__") (fun c=>[decide (ak (v0 c)>=ak (v1 c))=b]) (fun a a=>.bool b) 0
 fun a a a a hp hB a=>bf hB (by decide+kernel) PySem.F.entry_int_ge (gives_int_ge _ _ _ _) (dr (congrArg Value.bool (hp _ (.head _))))
noncomputable def oLt(b:Bool):aX prog w kt:=dg (k7 "int.__lt__") (fun c=>[decide (ak (v0 c)<ak (v1 c))=b]) (fun a a=>.bool b) 0
 fun a a a a hp hB a=>bf hB (by decide+kernel) PySem.F.entry_int_lt (gives_int_lt _ _ _ _) (dr (congrArg Value.bool (hp _ (.head _))))
noncomputable def oLe(b:Bool):aX prog w kt:=dg (k7 "int.__le__") (fun c=>[decide (ak (v0 c)<=ak (v1 c))=b]) (fun a a=>.bool b) 0
 fun a a a a hp hB a=>bf hB (by decide+kernel) PySem.F.entry_int_le (gives_int_le _ _ _ _) (dr (congrArg Value.bool (hp _ (.head _))))
noncomputable def QS(b:Bool):aX prog w kt:=dg (k7 "int.__gt__") (fun c=>[decide (ak (v0 c)>ak (v1 c))=b]) (fun a a=>.bool b) 0
 fun a a a a hp hB a=>bf hB (by decide+kernel) PySem.F.entry_int_gt (gives_int_gt _ _ _ _) (dr (congrArg Value.bool (hp _ (.head _))))
noncomputable def oEq(b:Bool):aX prog w kt:=dg (k7 "int.__eq__") (fun c=>[(ak (v0 c)==ak (v1 c))=b]) (fun a a=>.bool b) 0
 fun a a a a hp hB a=>bf hB (by decide+kernel) PySem.F.entry_int_eq (gives_int_eq _ _ _ _) (dr (congrArg Value.bool (hp _ (.head _))))
noncomputable def FC(b:Bool):aX prog w kt:=dg (k7 "int.__ne__") (fun c=>[(ak (v0 c) !=ak (v1 c))=b]) (fun a a=>.bool b) 0
 fun a a a a hp hB a=>bf hB (by decide+kernel) PySem.F.entry_int_ne (gives_int_ne _ _ _ _) (dr (congrArg Value.bool (hp _ (.head _))))
noncomputable def vn(id:String)(c:Code):Code:=.builtin id ⟨[.str (ag (v0 c)) (ao (v0 c)),.str (ag (v1 c)) (ao (v1 c))],[]⟩
noncomputable def hZ:aX prog w kt:=dg (vn "str.__add__") (fun c=>[((ag (v0 c)).length==0)=false,((ag (v1 c)).length==0)=false,(ag (v0 c)++ag (v1 c)).length<=16777216]) (fun c t=>.str (ag (v0 c)++ag (v1 c)) t) 1
 fun c a a a hp hB a=>bf hB (by decide+kernel) PySem.F.entry_str_add (gives_str_add _ _ _ _) (by
  rw[show((ag (v0 c)).length==0)=false from hp _ (.head _),show((ag (v1 c)).length==0)=false from hp _ (.tail _ (.head _))]
  exact⟨hp _ (.tail _ (.tail _ (.head _))),rfl,rfl⟩)
noncomputable def nu(b:Bool):aX prog w kt:=dg (vn "str.__eq__") (fun c=>[((ag (v0 c)).cps.toList==(ag (v1 c)).cps.toList)=b]) (fun a a=>.bool b) 0
 fun a a a a hp hB a=>bf hB (by decide+kernel) PySem.F.entry_str_eq (gives_str_eq _ _ _ _) (dr (congrArg Value.bool (hp _ (.head _))))
noncomputable def eb(Z:Nat):aX prog w kt:=dg (fun c=>.builtin "str.__getitem__" ⟨[.str (ag (v0 c)) (ao (v0 c)),.int (ak (v1 c)) (ao (v1 c))],[]⟩)
  (fun c=>[(decide (ak (v1 c)< -(2^63:Int))||decide (ak (v1 c)>=2^63))=false,(seqIndex? (ak (v1 c)) (ag (v0 c)).length).bind ((ag (v0 c)).cps[·]?)=some Z]) (fun a t=>.str ⟨#[Z]⟩ t) 1
 fun a a a a hp hB a=>bf hB (by decide+kernel) PySem.F.entry_str_getitem (gives_str_getitem _ _ _ _ _ (hp _ (.head _)) (hp _ (.tail _ (.head _)))) ⟨by show 1<=sizeLine;decide,rfl,rfl⟩
noncomputable def dV:ZV->Option (Int×Tok)
 |.int i t=>some (i,t)
 |_=>none
noncomputable def ab(T:LT)(ix:Nat):Obj:=match T.get ix with
 |some p=>p.2
 |none=>{cls:=.none}
noncomputable def aF(o:Obj)(k:Nat):ZV:=match o.data with
 |.fields vs=>vs.getD k .none
 |_=>.none
theorem dW(s:ZS)(n:Nat)(r:Result)(p:Addr×Obj)(h:s.heap.get? p.1=some p.2):cf s {s with toks:=s.toks+n} [p] ⟨r,[p.2],[],s.heap.objs.size,s.toks+n,0,[]⟩:=⟨.xp ..,rfl,(by
  intro q hq;rcases bc.mp hq with rfl|hq
  .exact h
  .exact(nomatch hq)),bH _,(fun a hp=>(nomatch hp)),cW,rfl,rfl,(by simp),(fun a hp=>(nomatch hp)),(fun a hp=>(nomatch hp)),(fun a hp=>(nomatch hp)),(fun a hp=>(nomatch hp))⟩
noncomputable def kR(ix:Nat)(shape:Code->Obj->Code)(Z:Obj->Obj)(ad:Code->Addr)(ps:Code->Obj->List Prop)(val:Code->Obj->Nat->ZV)(n:Nat)(ok:∀(c:Code) (o:Obj) (s:ZS) (B:aS) (pos:Pos),aO (ps c o)->s.heap.get? (ad c)=some (Z o)->topHandled B.st=none->z9 B.W=true->
   a8 prog w B s (shape c o) pos (denote table (shape c o)) [] (fun r Y=>r=.ok (.ret (val c o s.toks))/\Y={s with toks:=s.toks+n})):aX prog w kt where
 A:=fun a c a a T=>⟨shape c (ab T ix),[ix],[(ad c,Z (ab T ix))],.fq,ps c (ab T ix),[],[]⟩
 B:=fun a c N t T a=>⟨.ok (.ret (val c (ab T ix) t)),[Z (ab T ix)],[],N,t+n,0,[]⟩
 ok:=fun a c T s B pos e hp a S a a hB a U=>by
  have X:s.heap.get? (ad c)=some (Z (ab T ix)):=S _ (.head _)
  have z:=ok c (ab T ix) s B pos hp X hB U
  rw[←(show c=shape c (ab T ix)from e)]at z
  refine z.mono fun r Y ⟨V,h2⟩=>⟨[],V,?_⟩
  subst V h2;exact dW s n _ (ad c,Z (ab T ix)) X
noncomputable def Ca(o:Obj):Obj:={cls:=.type "slice",data:=.fields #[partValue (dV (aF o 0)),partValue (dV (aF o 1)),partValue (dV (aF o 2))]}
noncomputable def zE(ix:Nat)(y:Str):aX prog w kt:=kR ix (fun c a=>.builtin "str.__getitem__" ⟨[.str (ag (v0 c)) (ao (v0 c)),.ref (af (v1 c))],[]⟩) Ca (fun c=>af (v1 c))
  (fun c o=>[(((dV (aF o 2)).map (·.1)).getD 1==0)=false,sliceMade (ag (v0 c)) (ao (v0 c)) (dV (aF o 0)) (dV (aF o 1)) (dV (aF o 2))=.str y,y.length<=16777216]) (fun a a t=>.str y t) 1
 fun c o s B pos hp Z hB a=>bL hB (by decide+kernel) PySem.F.entry_str_getitem (meets_str_getitem_slice _ _ _ (dV (aF o 0)) (dV (aF o 1)) (dV (aF o 2)) (hp _ (.head _)))
  ⟨⟨_,Z,rfl,rfl⟩,by
   rw[show sliceMade (ag (v0 c)) (ao (v0 c)) (dV (aF o 0)) (dV (aF o 1)) (dV (aF o 2))=.str y from hp _ (.tail _ (.head _))]
   exact⟨hp _ (.tail _ (.tail _ (.head _))),rfl,rfl⟩⟩
noncomputable def LP(ix:Nat):aX prog w kt:=kR ix (fun c a=>.builtin "str.__getitem__" ⟨[.str (ag (v0 c)) (ao (v0 c)),.ref (af (v1 c))],[]⟩) Ca (fun c=>af (v1 c))
  (fun c o=>[(((dV (aF o 2)).map (·.1)).getD 1==0)=false,sliceMade (ag (v0 c)) (ao (v0 c)) (dV (aF o 0)) (dV (aF o 1)) (dV (aF o 2))=.val (.str (ag (v0 c)) (ao (v0 c)))]) (fun c a a=>.str (ag (v0 c)) (ao (v0 c))) 0
 fun c o s B pos hp Z hB a=>bL hB (by decide+kernel) PySem.F.entry_str_getitem (meets_str_getitem_slice _ _ _ (dV (aF o 0)) (dV (aF o 1)) (dV (aF o 2)) (hp _ (.head _)))
  ⟨⟨_,Z,rfl,rfl⟩,by
   rw[show sliceMade (ag (v0 c)) (ao (v0 c)) (dV (aF o 0)) (dV (aF o 1)) (dV (aF o 2))=_ from hp _ (.tail _ (.head _))]
   exact⟨rfl,rfl⟩⟩
end
section
set_option tactic.hygienic false
variable{prog:Program}{w:ZW}{kt:KT}
noncomputable def i5(b:Bool):aX prog w kt:=dg (vn "str.__contains__") (fun c=>[(!(Builtin.Str.occurrences (ag (v0 c)) (ag (v1 c)) 0 (ag (v0 c)).length 1).isEmpty)=b]) (fun a a=>.bool b) 0
 fun a a a a hp hB a=>bf hB (by decide+kernel) PySem.F.entry_str_contains (gives_str_contains _ _ _ _) (dr (congrArg Value.bool (hp _ (.head _))))
noncomputable def h5(o:Obj)(k:Nat):ZV:=match o.data with
 |.seq vs _=>vs.getD k .none
 |_=>.none
noncomputable def eU(o:Obj):Nat:=match o.data with
 |.seq _ n=>n
 |.dict _ n=>n
 |_=>0
noncomputable def Sz(o:Obj):Obj:={cls:=.type "tuple",data:=.seq #[.str (ag (h5 o 0)) (ao (h5 o 0)),.str (ag (h5 o 1)) (ao (h5 o 1))] (eU o)}
theorem eqGives_str(x y:Str)(t u:Tok):MeetsSeq.EqGives (.str x t) (.str y u) (decide (x=y)):=fun a a a a a a h=>wpAny_eqBool_str h
noncomputable def ES(x:Str):ZV->Bool
 |.str y _=>decide (y=x)
 |_=>false
noncomputable def jL(ix:Nat)(b:Bool):aX prog w kt:=kR ix (fun c a=>.builtin "tuple.__contains__" ⟨[.ref (af (v0 c)),.str (ag (v1 c)) (ao (v1 c))],[]⟩) Sz (fun c=>af (v0 c))
  (fun c o=>[(decide (ag (h5 o 0)=ag (v1 c))||decide (ag (h5 o 1)=ag (v1 c)))=b]) (fun a a a=>.bool b) 0
 fun c o s B pos hp Y hB a=>bL hB (by decide+kernel) PySem.F.entry_tuple_contains (MeetsSeq2.tuple_contains _ #[.str (ag (h5 o 0)) (ao (h5 o 0)),.str (ag (h5 o 1)) (ao (h5 o 1))] (eU o) _ (ES (ag (v1 c))) (by
   intro y Z;simp only[List.mem_toArray,List.mem_cons,List.mem_nil_iff,or_false]at Z;rcases Z with rfl|rfl<;>exact eqGives_str _ _ _ _))
  ⟨Y,by
   have:((#[.str (ag (h5 o 0)) (ao (h5 o 0)),.str (ag (h5 o 1)) (ao (h5 o 1))]:Array ZV).any (ES (ag (v1 c))))=b:=by
    have e:=hp _ (.head _)
    simp[ES]at e⊢;exact e
   rw[this];exact⟨rfl,rfl⟩⟩
end
end
section
set_option tactic.hygienic false
inductive gi{α:Type}:Sem α->Prop where
 |pure (a:α):gi (.pure a)
 |raise (e:ZV):gi (.raise e)
 |fE (x:String):gi (.unsupported x)
 |load {a:Addr} {p:Option ZV} {k:Obj->Sem α}:(∀o,gi (k o))->gi (.load a p k)
 |update {a:Addr} {p:Option ZV} {f:Obj->Obj} {k:Unit->Sem α}:gi (k ())->gi (.update a p f k)
 |alloc {o:Obj} {k:Addr->Sem α}:(∀a,gi (k a))->gi (.alloc o k)
theorem gi.bind{α β:Type}{m:Sem α}{F:α->Sem β}(h:gi m)(hF:∀x,gi (F x)):gi (m.bind F):=by
 induction h with
 |pure a=>exact hF a
 |raise e=>exact .raise e
 |fE x=>exact .fE x
 |load _ Z=>exact .load Z
 |update _ Z=>exact .update Z
 |alloc _ Z=>exact .alloc Z
section
variable{aJ:ZC}
theorem Lk.bind{α β:Type}{m Y:Sem α}(h:Lk aJ m Y)(K:α->Sem β):Lk aJ (m.bind K) (Y.bind K):=by
 induction h with
 |refl t=>exact .refl _
 |load _ Z=>exact .load Z
 |update _ Z=>exact .update Z
 |alloc _ Z=>exact .alloc Z
 |stack _ Z=>exact .stack Z
theorem Lk.onRaise{α:Type}{m Y:Sem α}(h:Lk aJ m Y)(K:ZV->Sem Unit):Lk aJ (m.onRaise K) (Y.onRaise K):=by
 induction h with
 |refl t=>exact .refl _
 |load _ Z=>exact .load Z
 |update _ Z=>exact .update Z
 |alloc _ Z=>exact .alloc Z
 |stack _ Z=>exact .stack Z
theorem Lk.trans{α:Type}{a b c:Sem α}(h:Lk aJ a b)(Y:Lk aJ b c):Lk aJ a c:=by
 induction h generalizing c with
 |refl t=>exact Y
 |load h Z=>cases Y with
  |refl=>exact .load h
  |load h2=>exact .load fun o=>Z o (h2 o)
 |update h Z=>cases Y with
  |refl=>exact .update h
  |update h2=>exact .update (Z h2)
 |alloc h Z=>cases Y with
  |refl=>exact .alloc h
  |alloc h2=>exact .alloc fun o=>Z o (h2 o)
 |stack h Z=>exact .stack (Z Y)
theorem gi.lk{α β:Type}{m:Sem α}(h:gi m){F Y:α->Sem β}(hF:∀x,Lk aJ (F x) (Y x)):Lk aJ (m.bind F) (m.bind Y):=by
 induction h with
 |pure a=>exact hF a
 |raise e=>exact .refl _
 |fE x=>exact .refl _
 |load _ Z=>exact .load Z
 |update _ Z=>exact .update Z
 |alloc _ Z=>exact .alloc Z
end
theorem j3(v:ZV)(i:Nat):gi (field v i):=by
 refine gi.bind (m:=fieldsOf v) ?_ fun vs=>?_
 .cases v with
  |ref a=>
   refine .load fun o=>?_
   show gi (match o.data with|.fields vs=>Pure.pure vs|_=>unsupported "internal:no-fields")
   cases o.data<;>first|exact .pure _|exact .fE _
  |_=>exact .fE _
 .show gi (match vs[i]? with|some x=>Pure.pure x|none=>unsupported "internal:no-such-field")
  cases vs[i]? with
  |none=>exact .fE _
  |some x=>exact .pure _
theorem pz(v:ZV)(i:Nat)(x:ZV):gi (setField v i x):=by
 cases v with
 |ref a=>
  refine .load fun o=>?_
  show gi (match o.data with|.fields vs=>if i<vs.size then update a (Obj.mapFields (·.setIfInBounds i x))else unsupported "internal:no-such-field"|_=>unsupported "internal:write-to-non-record")
  cases o.data with
  |fields vs=>
   show gi (if i<vs.size then update a (Obj.mapFields (·.setIfInBounds i x))else unsupported "internal:no-such-field")
   split
   .exact .update (.pure _)
   .exact .fE _
  |_=>exact .fE _
 |_=>exact .fE _
noncomputable def cw(aJ:ZC):List Env:=(aJ.filter (·.1.isFrame)).filterMap (·.1.env?)
noncomputable def wM(Z:Bool)(env:Env)(im:Bool):List Env->ZV
 |[]=>match env.scope.isGenerator||env.scope.isCoroutine with|true=>.none|false=>match Z with|true=>.notImplemented|false=>.none
 |caller::_=>match env.scope.isGenerator||env.scope.isCoroutine with|true=>.none|false=>match im with|true=>.notImplemented|false=>caller.frame.elim .notImplemented Value.ref
noncomputable def eA(Z:Bool):List Env->Sem Unit
 |[]=>.pure ()
 |env::outer=>match env.frame with
  |none=>.unsupported "frame:not-modelled"
  |some f=>.load f none fun o=>match (o.slots.getD 3 none).isSome with
   |true=>.pure ()
   |false=>(behindIsImport env outer).bind fun im=>
    .update f none (fun o=>{o with slots:=#[some env.code,some (.ref env.globals),o.slots.getD 2 none,some (wM Z env im outer),o.slots.getD 4 none,env.func.map Value.ref,some (.ref env.builtins)]++(env.cells.map fun c=>some (.ref c.2)).toArray}) fun a=>eA Z outer
theorem mh(env:Env)(outer:List Env):gi (behindIsImport env outer):=by
 unfold behindIsImport;split
 .exact .pure _
 .show gi (if _ then _ else _)
  split
  .exact .pure _
  .exact(j3 _ _).bind fun a=>.pure _
theorem hI(Z:Bool):∀L:List Env,gi (eA Z L)
 |[]=>.pure _
 |env::outer=>by
  unfold eA;cases env.frame with
  |none=>exact .fE _
  |some f=>
   refine .load fun o=>?_
   cases h:(o.slots.getD 3 none).isSome with
   |true=>exact .pure _
   |false=>exact(mh env outer).bind fun im=>.update (hI Z outer)
noncomputable def dH(aJ:ZC):Bool:=aJ.any fun(c,_)=>match c with|.builtin "claim.caller" _=>true|_=>false
theorem AG{aJ:ZC}{Z:Bool}(Y:dH aJ=Z)(env:Env)(im:Bool)(outer:List Env):Lk aJ (keptBack env im outer) (.pure (wM Z env im outer)):=by
 unfold keptBack wM;cases outer with
 |cons caller _=>
  show Lk aJ (.pure (if(env.scope.isGenerator||env.scope.isCoroutine)=true then Value.none else if im=true then Value.notImplemented else caller.frame.elim .notImplemented Value.ref)) _
  cases (env.scope.isGenerator||env.scope.isCoroutine)<;>cases im<;>exact .refl _
 |nil=>
  show Lk aJ (if(env.scope.isGenerator||env.scope.isCoroutine)=true then _ else _) _
  cases (env.scope.isGenerator||env.scope.isCoroutine)with
  |true=>exact .refl _
  |false=>
   refine .stack ?_;show Lk aJ (.pure (if dH aJ=true then Value.notImplemented else Value.none)) _
   rw[Y];cases Z<;>exact .refl _
theorem qw{aJ:ZC}{Y:Bool}(Z:dH aJ=Y):∀L:List Env,Lk aJ (readyFrames L) (eA Y L)
 |[]=>.refl _
 |env::outer=>by
  unfold readyFrames eA;cases env.frame with
  |none=>exact .refl _
  |some f=>
   refine .load fun o=>?_
   show Lk aJ (if(o.slots.getD 3 none).isSome=true then _ else _) _
   cases h:(o.slots.getD 3 none).isSome with
   |true=>exact .refl _
   |false=>
    refine(mh env outer).lk fun im=>?_
    exact((AG Z env im outer).bind _).trans (.update (qw Z outer))
noncomputable def f3(f:Addr)(Z:Bool)(aJ:ZC):ZY:=match aJ.find? fun(c,_)=>c.env?.bind (·.frame)==some f with
 |some (_,pos)=>if pos.line==0 then[]else[rawInt pos.line,rawInt pos.endLine,rawInt pos.col,rawInt pos.endCol]++EntryCells.cells f Z aJ
 |none=>[]
theorem yW{aJ:ZC}(f:Addr)(b:Bool):Lk aJ (entryPlaceOf f b) (.pure (f3 f b aJ)):=by
 refine .stack ?_;unfold f3;show Lk aJ (match aJ.find? (fun(c,_)=>c.env?.bind (·.frame)==some f)with|some (_,pos)=>_|none=>_) _
 cases aJ.find? (fun(c,_)=>c.env?.bind (·.frame)==some f)<;>exact .refl _
noncomputable def jM(L:List Env):Sem ZV:=match L with
 |[]=>.unsupported "internal:frame-not-on-the-stack"
 |E::_=>match E.frame with
  |none=>.unsupported "internal:frame-not-on-the-stack"
  |some Z=>.pure (.ref Z)
theorem tP{aJ:ZC}{Z:Bool}(Y:dH aJ=Z){env:Env}{L:List Env}(X:(cw aJ).dropWhile (·.frame !=env.frame)=L):Lk aJ (frameOf env) ((eA Z L).bind fun a=>jM L):=by
 refine .stack ?_;show Lk aJ ((frameObject ((cw aJ).dropWhile (·.frame !=env.frame))).bind _) _
 rw[X];cases L with
 |nil=>exact .refl _
 |cons E outer=>
  show Lk aJ (((readyFrames (E::outer)).bind _).bind _) _
  refine(((qw Y _).bind _).bind _).trans ?_;rw[Sem.bind_assoc];refine(hI Z _).lk fun a=>?_
  show Lk aJ ((Sem.pure (E.frame.map Value.ref)).bind _) (match E.frame with|none=>Sem.unsupported "internal:frame-not-on-the-stack"|some W=>Sem.pure (Value.ref W))
  cases E.frame<;>exact .refl _
noncomputable def gv(Y:Bool)(L:List Env)(Z:Bool->ZY)(e:ZV)(env:Env):Sem Unit:=match env.frame with
 |none=>.unsupported "frame:not-modelled"
 |some f=>(field e 1).bind fun head=>match head !=.none with
  |true=>(field head 3).bind fun x=>match x==rawInt f with
   |true=>.pure ()
   |false=>(setField head 3 .none).bind fun a=>(eA Y L).bind fun a=>(jM L).bind fun fr=>(EntryCells.newEntry head fr .none (rawInt f) .none (Z true)).bind fun t=>setField e 1 t
  |false=>(eA Y L).bind fun a=>(jM L).bind fun fr=>(EntryCells.newEntry head fr .none (rawInt f) .none (Z false)).bind fun t=>setField e 1 t
theorem tQ(L:List Env):gi (jM L):=by
 unfold jM;cases L with
 |nil=>exact .fE _
 |cons E _=>
  show gi (match E.frame with|none=>_|some Z=>_)
  cases E.frame<;>first|exact .fE _|exact .pure _
theorem uh{aJ:ZC}{cc:Bool}(Y:dH aJ=cc){env:Env}{L:List Env}(X:(cw aJ).dropWhile (·.frame !=env.frame)=L){f:Addr}(hf:env.frame=some f){Z:Bool->ZY}(hp:∀b,f3 f b aJ=Z b)(e:ZV):Lk aJ (noteFrame e env) (gv cc L Z e env):=by
 unfold noteFrame gv;rw[hf];refine(j3 e 1).lk fun head=>?_
 have fin:∀b,Lk aJ ((frameOf env).bind fun fr=>(entryPlaceOf f b).bind fun p=>(EntryCells.newEntry head fr .none (rawInt f) .none p).bind fun t=>setField e 1 t)
   ((eA cc L).bind fun a=>(jM L).bind fun fr=>(EntryCells.newEntry head fr .none (rawInt f) .none (Z b)).bind fun t=>setField e 1 t):=fun b=>by
  refine((tP Y X).bind _).trans ?_;rw[Sem.bind_assoc];refine(hI cc L).lk fun a=>(tQ L).lk fun fr=>?_
  refine((yW f b).bind _).trans ?_;rw[hp b];exact .refl _
 show Lk aJ (if(head !=.none)=true then _ else _) _
 cases W:head !=.none with
 |false=>exact fin false
 |true=>
  refine(j3 head 3).lk fun x=>?_
  show Lk aJ (if(x==rawInt f)=true then _ else _) _
  cases x==rawInt f with
  |true=>exact .refl _
  |false=>exact(pz head 3 .none).lk fun a=>fin true
end
set_option tactic.hygienic false
noncomputable def pC(W:ZC):List String:=(W.filterMap fun(c,_)=>match c with|.builtin id _=>some id|_=>none).eraseDups
noncomputable def oz(ids:List String)(b:Bool):ZY:=[if(EntryCells.make ids).length>sizeLine then .none else .str (EntryCells.make ids) 0,.bool b]
noncomputable def fa(pos:Pos)(ids:List String)(b:Bool):ZY:=[rawInt pos.line,rawInt pos.endLine,rawInt pos.col,rawInt pos.endCol]++oz ids b
theorem vo{c:Code}{env:Env}{pos:Pos}{rest:ZC}{f:Addr}(he:c.env?=some env)(hf:env.frame=some f)(Y:c.isFrame=true)(Z:(pos.line==0)=false)(b:Bool):f3 f b ((c,pos)::rest)=fa pos (pC rest) b:=by
 have X:((c,pos)::rest).find? (fun(c,_)=>c.env?.bind (·.frame)==some f)=some (c,pos):=by
  rw[List.find?_cons_of_pos];simp[he,hf]
 have h2:EntryCells.beneath f ((c,pos)::rest)=some (pC rest):=by
  unfold EntryCells.beneath pC;rw[sm (by simp[he,hf,Y])]
  rfl
 unfold f3 fa oz;rw[X];show(if(pos.line==0)=true then _ else _)=_
 rw[Z];unfold EntryCells.cells;rw[h2];rfl
theorem tR{c:Code}{env:Env}{pos:Pos}{rest:ZC}(he:c.env?=some env)(Z:c.isFrame=true):(cw ((c,pos)::rest)).dropWhile (·.frame !=env.frame)=env::cw rest:=by
 have:cw ((c,pos)::rest)=env::cw rest:=by
  unfold cw;rw[gd (by simp[Z]),List.filterMap_cons_some (by exact he)]
 rw[this,sm (by simp)]
noncomputable def wN(e:ZV)(env:Env):ZE:=(((noteFrame e env).bind fun a=>setFlight e none).bind fun a=>(Sem.raise e:Sem Flow)).bind fun fl=>match fl with|.ret v=>ret v|_=>ret .none
noncomputable def jN(Y:Bool)(L:List Env)(Z:Bool->ZY)(e:ZV)(env:Env):ZE:=(((gv Y L Z e env).bind fun a=>setFlight e none).bind fun a=>(Sem.raise e:Sem Flow)).bind fun fl=>match fl with|.ret v=>ret v|_=>ret .none
theorem FD{body:List Stmt}{env:Env}{pos:Pos}{rest:ZC}{f:Addr}{Z:Bool}{L:List Env}{ids:List String}(hf:env.frame=some f)(Y:(pos.line==0)=false)(W:dH rest=Z)(V:cw rest=L)(X:pC rest=ids)(e:ZV):Lk ((.func body env,pos)::rest) (wN e env) (jN Z (env::L) (fa pos ids) e env):=by
 refine Lk.bind (Lk.bind (Lk.bind (uh (cc:=Z) ?_ ?_ hf ?_ e) _) _) _
 .rw [←W];rfl
 .rw [tR (env:=env) rfl rfl,V]
 .intro b;rw[vo (env:=env) rfl hf rfl Y,X]
def p9(e:ZV)(env:Env):ZE:=PySem.W.R.bindR (PySem.W.R.bindR (PySem.W.Fast.tw9442747609961115081 env e) fun a=>(Sem.raise e:Sem Flow)) fun fl=>match fl with|.ret v=>PySem.W.Fast.tw6905046200447255374 v|_=>PySem.W.Fast.tw6905046200447255374 .none
theorem AH(e:ZV)(env:Env):p9 e env=wN e env:=by unfold p9 wN;rw[←PySem.W.R.bindR_eq,←PySem.W.Fast.te9442747609961115081,←PySem.W.Fast.te6905046200447255374];rfl
theorem ui{body:List Stmt}{env:Env}{pos:Pos}{rest:ZC}{f:Addr}{Z:Bool}{L:List Env}{ids:List String}(hf:env.frame=some f)(Y:(pos.line==0)=false)(W:dH rest=Z)(V:cw rest=L)(X:pC rest=ids)(e:ZV):Lk ((.func body env,pos)::rest) (p9 e env) (jN Z (env::L) (fa pos ids) e env):=by rw[AH];exact FD hf Y W V X e
section
set_option tactic.hygienic false
noncomputable abbrev pg:Program:=PySem.Challenge.pw_op0292_01
noncomputable def di:String:="special-get-raises"
theorem a4(w:ZW):(∃Z,w=World.withFollow Z di true)\/(∃Z,w=World.withFollow Z di false):=by
 have e:=World.withFollow_self w di
 cases h:w.params.followText di with
 |true=>rw[h]at e;exact .inl ⟨w,e.symm⟩
 |false=>rw[h]at e;exact .inr ⟨w,e.symm⟩
noncomputable def h6:String:="comprehension-iter-twice"
theorem pD(w:ZW):(∃Z,w=World.withFollow Z h6 true)\/(∃Z,w=World.withFollow Z h6 false):=by
 have e:=World.withFollow_self w h6
 cases h:w.params.followText h6 with
 |true=>rw[h]at e;exact .inl ⟨w,e.symm⟩
 |false=>rw[h]at e;exact .inr ⟨w,e.symm⟩
noncomputable def h2{α:Type}(w:ZW)(a b:α):α:=match w.params.followText h6 with
 |true=>b
 |false=>a
noncomputable abbrev zN(s:ZS):Nat:=s.heap.objs.size
noncomputable abbrev kp(w:ZW):KT:=Sw w.params
abbrev ZH(w:ZW):=List (Nat×bD pg w (kp w))
section
variable{prog:Program}{w:ZW}{kt:KT}
noncomputable def Wg(x:Nat):bD prog w kt:=match Nat.beq (x/256%2) 0 with
 |true=>.ld (x/512%128)
 |false=>.up (x/512%128)
def dh(n x:Nat):List (Nat×bD prog w kt):= @Nat.rec (fun a=>Nat->List (Nat×bD prog w kt)) (fun a=>[]) (fun a Z x=>(x%256,Wg x)::Z (x/65536)) n x
noncomputable def Wh:Nat:=0x81b0e0a0207040f0c10080806241c041803021b080f040a0a0b1c061d001c0b1a080010180b160b040b1407120812071206102d0c2a060f04260e060e130c130a130408020a04090c0d16050e0e0a071005100a0e250a080701060e0c050c08081c1603041002051a01140614080609000f080a000d08230c0e060b02061b001203120b02081805120a08050c060a0518041a041900040c09010f010e0b1006040716041404160210081205080b060808060c041a00040600090f000e070a04100713001204180017000c070a061601080e10030e030c031403110006070e0418010a0314020b00080700070900060610040803060516001002040512020c0212011500000b0604080406030e010e020006070010000a020d00000a06020e000802100104041200000814011400060104030a010a0008010000080000040c0005000c01030004020005000304000204000206000100020200010203020104010200
def IQ:List Nat:=[0x201040a06,0x9070d0f0108010303040b11020e,0x1818171726b3161614142109070d0f0108010303,0x10f0419020e1f0e,0xf0308010303040b11020e,0x392510081210101025120812101010251208121010124623,0xb11190403060a,0x2020272735b32b2b22222ab31010121232b3b4,0xb20cb224b20db224b2,0x3150c1309,0xc07,0x505,0x10124cb21db20cb21dba,0x301b1e1b1c1c1b4a364d4a301b1e1b1c1c1b5e45331e5c,0x303,0x8081a,0x1b1b1c1c3f3f1e1e31331e4f31311e6d29070d,0xb205,0x51515050256110e110e1134,0x163d492d21,0xb11192c1a232e232d0b11192c1a232e23,0x2227202020442722272020,0x1712101010251217121010,0xbc0d,0x606060104,0x7150715151505bd,0xb0b,0xb255c32fbc2fba1dc9,0x380914141416c90713b7c101,0x2254475120355d35,0x364d3668301c1e1b1c1c1b,0xbc13,0x6453632b2a422a,0x8011a0601080a,0x101,0x713,0x909150c,0x509,0x31311e1e33b3b9,0x1010121232b3b4,0xc313b2,0x70d,0x171718,0x23cc020e0b1f02020b,0x34151505bd,0xb52eb52eb5,0x653d5b16212d,0x1416,0x191134111fb7c115,0x290f010f01d403c0,0xd0729301b301b,0x1212d412101010,0xbb37bb3a28,0x80b1a0e0b081f,0x18dc021623111f,0xb806,0xb0a040403,0xb110b02190bcc,0x151508081505bd,0x260917dc136e,0x1b1c1c,0x140b160e0b14,0xb21dc3,0x1210,0x202,0x5d1,0x161614,0x2823282328,0x70907,0x1130c0c05,0x16e105]
noncomputable def FE(f:Nat->List (Nat×bD prog w kt))(x:Nat):List (Nat×bD prog w kt):= @Nat.rec (fun a=>Nat->List (Nat×bD prog w kt)) (fun a=>[]) (fun a Z x=>match Nat.beq x 0 with
 |true=>[]
 |false=>(f (Nat.sub (Nat.mod x 256) 1)).append (Z (Nat.div x 256))) 999 x
noncomputable def FF(x:Nat):List (Nat×bD prog w kt):=match Nat.blt x 177 with
 |true=>dh 1 (Nat.mod (Nat.div Wh (Nat.pow 65536 x)) 65536)
 |false=>[]
noncomputable def Wi(x:Nat):List (Nat×bD prog w kt):=match Nat.blt x 177 with
 |true=>FF x
 |false=>FE FF (IQ.getD (Nat.sub x 177) 0)
noncomputable def Wj(x:Nat):List (Nat×bD prog w kt):=match Nat.blt x 177 with
 |true=>FF x
 |false=>FE Wi (IQ.getD (Nat.sub x 177) 0)
noncomputable def Wl(x:Nat):List (Nat×bD prog w kt):=match Nat.blt x 177 with
 |true=>FF x
 |false=>FE Wj (IQ.getD (Nat.sub x 177) 0)
noncomputable def Wm(x:Nat):List (Nat×bD prog w kt):=match Nat.blt x 177 with
 |true=>FF x
 |false=>FE Wl (IQ.getD (Nat.sub x 177) 0)
noncomputable def dz(x:Nat):List (Nat×bD prog w kt):=FE Wm x
def jn:List (List (Nat×bD prog w kt))->List (Nat×bD prog w kt)
 |[]=>[]
 |x::l=>x.append (jn l)
end
noncomputable def Fr:ZL->Nat->ZN
 |fr,0=>fr.headD []
 |fr,n+1=>Fr fr.tail n
noncomputable abbrev Nf(fr:ZL)(i:Nat):Nat:=(Fr fr i).getD 0 0
noncomputable abbrev Tf(fr:ZL)(i:Nat):Nat:=(Fr fr i).getD 1 0
noncomputable abbrev Gf(fr:ZL)(i j:Nat):Nat:=((Fr fr i).drop 2).getD j 0
noncomputable def KK(l:ZN):Nat->Nat:=fun i=>l.getD i 0
noncomputable def ae(Z:ZY)(ep:Nat):Obj:=⟨.type "list",none,.seq ⟨Z⟩ ep,#[]⟩
noncomputable def bK(Z:ZY)(ep:Nat):Obj:=⟨.type "tuple",none,.seq ⟨Z⟩ ep,#[]⟩
noncomputable def fx(Z:List DictEntry)(ep:Nat):Obj:=⟨.type "frame",none,.dict ⟨Z⟩ ep,#[]⟩
noncomputable def gj(Z:List DictEntry)(ep:Nat):Obj:=⟨.type "dict",none,.dict ⟨Z⟩ ep,#[]⟩
noncomputable def fnOf(o:Obj):FuncData:=match o.data with
 |.func f=>f
 |_=>default
noncomputable def aH(o:Obj):List Stmt:=match (fnOf o).body with
 |.stmts b=>b
 |_=>[]
noncomputable def eB(a:Addr)(o:Obj)(L:Addr)(cells:List (Str×Addr)):Env:={scope:=(fnOf o).scope,locals:=L,globals:=(fnOf o).globals,cells,qual:=(fnOf o).qualname++⟨⟨[46,60,108,111,99,97,108,115,62,46]⟩⟩,func:=some a,code:=(fnOf o).code,frame:=some L,builtins:=(fnOf o).builtins}
noncomputable def ft(T:LT)(ix:Nat):Addr:=match T.get ix with
 |some p=>p.1
 |none=>0
theorem aj:aO []:=fun a hp=>nomatch hp
theorem aa{a:Prop}{l:List Prop}(Z:a)(h:aO l):aO (a::l):=fun p hp=>by
 rcases bc.mp hp with rfl|hp
 .exact Z
 .exact h p hp
theorem aO.head{a:Prop}{l:List Prop}(h:aO (a::l)):a:=h a (.head _)
theorem aO.tail{a:Prop}{l:List Prop}(h:aO (a::l)):aO l:=fun p hp=>h p (.tail _ hp)
structure Sk where
 b:List Stmt
 o:List Stmt
 e:Env
 x:PySem.Expr
 v:ZV
 u:ZV
 n:Nat
 p:Pos
 a:Args:=⟨[],[]⟩
 gs:List Comprehension:=[]
 sc:Scope:=default
 qp:Pos:=default
noncomputable def Sk.code(z:Sk):K->Code
 |.fn=>.func z.b z.e
 |.fo=>.forLoop z.x z.v z.b z.o z.e
 |.wh=>.whileLoop z.x z.b z.o z.e
 |.cl=>.builtin "claim.caller" ⟨[],[]⟩
 |.IB=>.builtin "list.extend.loop" ⟨[.ref z.n,z.v,.none],[]⟩
 |.IC=>.builtin "type.__call__" ⟨[.type "list",z.v],[]⟩
 |.cmp=>.compLoop z.x z.n z.v z.u z.e
 |.ex id=>.builtin id ⟨[],[]⟩
 |.bi id=>.builtin id z.a
 |.gx=>.compLoop (.GeneratorExp z.x z.gs z.sc z.qp) 0 z.v z.u z.e
noncomputable def Wk(σ:Nat->Sk):List K->ZC
 |[]=>[]
 |k::ks=>((σ 0).code k,(σ 0).p)::Wk (fun n=>σ (n+1)) ks
noncomputable def i6:K->Bool
 |.ex _=>false
 |_=>true
theorem lg{v:ZV}{a}(h:z8 v=some a):v=.ref a:=by
 by_cases q:v.ctorIdx=10
 .exact Value.ref.elim (motive:=fun v=>z8 v=some a->v=.ref a) v q (fun b e=>congrArg Value.ref (Option.some.inj e)) h
 .rw [z8,dif_neg q]at h;exact nS h
theorem AI{v:ZV}{a}(h:IF v=some a):v=.type a:=by
 by_cases q:v.ctorIdx=8
 .exact Value.type.elim (motive:=fun v=>IF v=some a->v=.type a) v q (fun b e=>congrArg Value.type (Option.some.inj e)) h
 .rw [IF,dif_neg q]at h;exact nS h
theorem lj{c:Code}{f:String->Args->Bool}{P:Code->Prop}(h:cB c f=true)(k:∀i a,f i a=true->P (.builtin i a)):P c:=by
 by_cases q:c.ctorIdx=1
 .exact Code.builtin.elim (motive:=fun c=>cB c f=true->P c) c q k h
 .rw [cB,dif_neg q]at h;exact fT h
noncomputable def qx(p:Pos):Sk:=⟨[],[],default,default,.none,.none,0,p,⟨[],[]⟩,[],default,default⟩
theorem oH{α:Type}{o:Option α}(h:o.isSome=true):∃z,o=some z:=wD.mp h
theorem vp{α:Type}{o:Option α}{f:α->Bool}(h:o.any f=true){P:Prop}(k:∀z,o=some z->f z=true->P):P:=by
 cases o with
 |none=>exact fT h
 |some z=>exact k z rfl h
theorem jm{a b:Bool}(h:(a&&b)=true){P:Prop}(k:a=true->b=true->P):P:=(iB.mp h).elim k
theorem i7{α:Type}{l:List α}{z}(h:B5 l=some z):l=z.1::z.2:=by
 cases l with
 |nil=>exact nS h
 |cons=>cases h;rfl
theorem wO{i j:String}{a:Args}{l:ZY}(h:(i==j)=true)(k:a.kw.isEmpty=true)(p:a.pos=l):Code.builtin j ⟨l,[]⟩=.builtin i a:=by rw[←eq_of_beq h,←p,←mL.mp k]
theorem vq{c:Code}{k:K}(p:Pos)(Q:i6 k=true)(h:IG c k=true):∃z:Sk,z.p=p/\z.code k=c:=by
 have I:∀z:Sk,z.code k=c->∃z:Sk,z.p=p/\z.code k=c:=fun z e=>⟨{z with p:=p},rfl,e▸by cases k<;>rfl⟩
 refine B0 fun P R=>?_
 replace I:=fun z e=>R (I z e)
 have E:∀{n m:Nat},Nat.beq n m=true->n=m:=so
 cases k with
 |fn=>exact Code.func.elim (motive:=fun c=>(∀z:Sk,z.code .fn=c->P)->P) c (E h) (fun b e I=>I {qx p with b:=b,e:=e} rfl) I
 |fo=>exact Code.forLoop.elim (motive:=fun c=>(∀z:Sk,z.code .fo=c->P)->P) c (E h) (fun x v b o e I=>I {qx p with x:=x,v:=v,b:=b,o:=o,e:=e} rfl) I
 |wh=>exact Code.whileLoop.elim (motive:=fun c=>(∀z:Sk,z.code .wh=c->P)->P) c (E h) (fun x b o e I=>I {qx p with x:=x,b:=b,o:=o,e:=e} rfl) I
 |cmp=>exact Code.compLoop.elim (motive:=fun c=>(∀z:Sk,z.code .cmp=c->P)->P) c (E h) (fun x n v u e I=>I {qx p with x:=x,n:=n,v:=v,u:=u,e:=e} rfl) I
 |gx=>
  by_cases q:c.ctorIdx=12
  .exact Code.compLoop.elim (motive:=fun c=>ID c=true->(∀z:Sk,z.code .gx=c->P)->P) c q (fun x n v u e h I=>jm h fun Y h2=>
    @PySem.Expr.GeneratorExp.elim (fun x=>(∀z:Sk,z.code .gx=.compLoop x n v u e->P)->P) x (E Y) (fun x M T S I=>I {qx p with x:=x,gs:=M,sc:=T,qp:=S,v:=v,u:=u,e:=e} (by rw[E h2];rfl)) I) h I
  .replace h:ID c=true:=h
   rw[ID,dif_neg q]at h;exact fT h
 |ex i=>exact fT Q
 |bi i=>exact lj (P:=fun c=>(∀z:Sk,z.code (.bi i)=c->P)->P) h (fun j a h I=>I {qx p with a:=a} (by rw[eq_of_beq h];rfl)) I
 |cl=>exact lj (P:=fun c=>(∀z:Sk,z.code .cl=c->P)->P) h (fun j a h I=>jm h fun h Z=>jm Z fun h2 Y=>I (qx p) (wO h h2 (mL.mp Y))) I
 |IB=>exact lj (P:=fun c=>(∀z:Sk,z.code .IB=c->P)->P) h (fun j a h I=>jm h fun h Z=>jm Z fun h0 Z=>vp Z fun x U Z=>jm Z fun Y Z=>vp Z fun y V Z=>jm Z fun h2 Z=>vp Z fun u L Z=>jm Z fun N W=>
   (oH Y).elim fun a O=>(oH h2).elim fun b X=>I {qx p with n:=a,v:=.ref b} (wO h h0 (by rw[i7 U,i7 V,i7 L,lg O,lg X,mL.mp W,Value.none.elim (motive:=fun v=>v=.none) u.1 (E N) rfl]))) I
 |IC=>exact lj (P:=fun c=>(∀z:Sk,z.code .IC=c->P)->P) h (fun j a h I=>jm h fun h Z=>jm Z fun h0 Z=>vp Z fun x U Z=>jm Z fun Y Z=>vp Z fun y V Z=>jm Z fun h2 W=>
   (oH h2).elim fun b X=>I {qx p with v:=.ref b} (wO h h0 (by rw[i7 U,i7 V,AI (eq_of_beq Y),lg X,mL.mp W]))) I
theorem l3{W:ZC}{ks:List K}(Y:ks.all i6=true)(h:B6 W ks=true):∃σ,W=Wk σ ks:=by
 induction ks generalizing W with
 |nil=>
  cases W with
  |nil=>exact⟨fun a=>qx default,rfl⟩
  |cons=>exact fT h
 |cons k ks Z=>
  cases W with
  |nil=>exact fT h
  |cons p W=>
   obtain⟨s1,s2⟩:=iB.mp Y;obtain⟨X,h2⟩:=iB.mp h;obtain⟨z,U,V⟩:=vq p.2 s1 X;obtain⟨σ,e⟩:=Z s2 h2;exact⟨fun n=>Nat.casesOn (motive:=fun a=>Sk) n z σ,by show p::W=(z.code k,z.p)::Wk σ ks;rw[U,V,←e]⟩
theorem allB{Z:ZN}{n:Nat}(h:(Z.all fun x=>Nat.ble n x)=true):∀x∈Z,n<=x:=fun x hx=>dc (kE.mp h x hx)
theorem zH:∀{Z:ZN},eF Z=true->Z.Nodup
 |[],_=>cW
 |x::l,h=>by
  obtain⟨Y,h2⟩:=kl h;exact cy.mpr ⟨Y,zH h2⟩
theorem Ct.rP{w:ZW}(C:Ct pg w (kp w)){ks:List K}(O:C.W=.kinds ks)(U:ks.all i6=true)(Y:Nat->Nat->ZH w)(Z:ZN){r:ZL->Nat->Nat->Result}{post:ZL->Nat->Nat->List Obj}{new:ZL->Nat->Nat->ZA}{dn:ZL->Nat->Nat->List aQ}{N' t':ZL->Nat->Nat->Nat}{ps:ZL->Nat->Nat->List Prop}(H:∀(σ:Nat->Sk) (fr:ZL) (pos:Pos) (N t:Nat) (G:ZG),
   (gg (aq ⟨pg,w,kp w,Wk σ ks,none⟩ (Y N t) fr C.code pos C.L C.bg N t G),dx (List.range C.L.length++Z) (aq ⟨pg,w,kp w,Wk σ ks,none⟩ (Y N t) fr C.code pos C.L C.bg N t G),fP (aq ⟨pg,w,kp w,Wk σ ks,none⟩ (Y N t) fr C.code pos C.L C.bg N t G))=
   (gh (aq ⟨pg,w,kp w,Wk σ ks,none⟩ (Y N t) fr C.code pos C.L C.bg N t G),some (r fr N t,((C.L.map (·.1)).zip (post fr N t)++new fr N t).map some,N' fr N t,t' fr N t,G,List.replicate C.ng GenState.finished,ps fr N t),C.bg++dn fr N t))(hp:aO C.P->∀fr N t,aO (ps fr N t))(Q:∀fr N t,∃g,r fr N t=C.r g/\post fr N t=C.post g/\new fr N t=C.new g/\dn fr N t=C.fs g)(R:∀fr N t,(post fr N t).length=C.L.length)(hx:∀fr N t,Z.length=(new fr N t).length)(T:(Z.all fun x=>Nat.ble C.L.length x)=true)(X:eF Z=true):C.Holds:=by
 intro s B pos A;have S:=A.W
 rw[O]at S;obtain⟨σ,e⟩:=l3 U (show B6 B.W ks=true from S)
 have h:=ug (V:=⟨pg,w,kp w,Wk σ ks,none⟩) (A.here _ e) (fun fr=>H σ fr pos (zN s) s.toks s.gens) (fun fr=>hp A.P fr _ _) (fun fr=>R fr _ _) (fun fr=>hx fr _ _) (allB T) (zH X)
 refine h.mono fun F I ⟨fr,J,P⟩=>?_
 obtain⟨g,g1,g2,g3,M⟩:=Q fr s.heap.objs.size s.toks;exact⟨g,J.trans g1,by rw[←g2,←g3,←M];exact P⟩
end
section
open PyProof.Rows PySem.Calls
set_option tactic.hygienic false
theorem qy:denote treeTable=den:=by rw[←eY,table_eq_tree]
theorem jr{α:Type}{b:Bool}{x y:α}(h:(bif b then some x else none)=some y):b=true/\y=x:=by
 cases b
 .cases h
 .cases h;exact⟨rfl,rfl⟩
def qc{Z:Type}(p:Program)(w:ZW)(ok:Thread->Bool)(fin:SharedT->Thread->Option Z)(stop:SharedT->Thread->Option (Option Z)):Nat->SharedT->Thread->Option Z
 |0,s,t=>fin s t
 |n+1,s,t=>match stop s t with
  |some r=>r
  |none=>match ok t with
   |false=>none
   |true=>match stepT den p w s t with
    |some z=>qc p w ok fin stop n z.1 z.2
    |none=>none
theorem lp{Z W:Type}{ρ:Z->W}{F:Nat->ZS->Thread->Option W}{p:Program}{w:ZW}{ok:Thread->Bool}{fin:SharedT->Thread->Option Z}{stop:SharedT->Thread->Option (Option Z)}(h0:∀s t r,fin s t=some r->F 0 s.abs t=some (ρ r))(T:∀n s t r,stop s t=some (some r)->F (n+1) s.abs t=some (ρ r))(h2:∀n s t V t' x,stop s t=none->ok t=true->step (denote treeTable) p w s.abs t=.go V t'->F n V t'=x->F (n+1) s.abs t=x){n:Nat}:∀{s:SharedT} {t:Thread} {r:Z},qc p w ok fin stop n s t=some r->F n s.abs t=some (ρ r):=by
 induction n with
 |zero=>exact h0 _ _ _
 |succ n U=>
  intro s t r h
  replace h:(match stop s t with|some r=>r|none=>match ok t with|false=>none|true=>match stepT den p w s t with|some z=>qc p w ok fin stop n z.1 z.2|none=>none)=some r:=h
  cases he:stop s t with
  |some x=>rw[he]at h;exact T _ _ _ _ (h▸he)
  |none=>
   rw[he]at h;cases X:ok t with
   |false=>rw[X]at h;exact nS h
   |true=>
    rw[X]at h;cases Y:stepT den p w s t with
    |none=>rw[Y]at h;exact nS h
    |some z=>rw[Y]at h;exact h2 n s t _ _ _ he X (by rw[qy];exact stepT_spec Y) (U h)
theorem IU{α:Type}{b:Bool}{x:α}(h:(bif b then some x else none)=none):b=false:=by
 cases b with
 |true=>cases h
 |false=>rfl
def ET(p:Program)(w:ZW):Nat->SharedT->Thread->Option SharedT:=qc p w (fun a=>true) (fun a a=>none) fun s t=>t.atExitBegin.map fun l=>bif l.isEmpty then some s else none
theorem AJ{p:Program}{w:ZW}{n:Nat}{s Z:SharedT}{t:Thread}:ET p w n s t=some Z->importEnds treeTable p w n s.abs t=some Z.abs:=lp (fun a a a h=>nS h) (fun n s t r h=>by
  obtain⟨l,e,h⟩:=mK.mp h;obtain⟨X,Y⟩:=jr h;rw[mL.mp X]at e;simp only[importEnds,e,Y]) fun n s t Z t' x e a h k=>by
  simp only[importEnds,Option.map_eq_none_iff.mp e,h,k]
def zI(p:Program)(w:ZW)(Z:Nat)(ann:Option ZV):Nat->SharedT->Thread->Option SharedT:=qc p w (stepOk Z ann) (fun a a=>none) fun s t=>bif through t then some (some s)else none
theorem AK{p:Program}{w:ZW}{Z:Nat}{ann:Option ZV}{n:Nat}{s Y:SharedT}{t:Thread}:zI p w Z ann n s t=some Y->topRun treeTable p w Z ann n s.abs t=some Y.abs:=lp (fun a a a h=>nS h) (fun n s t r h=>by
  obtain⟨h,e⟩:=jr h;simp only[topRun,h,Option.some.inj e]) fun n s t Y t' x e q h k=>by
  simp only[topRun,IU e,q,h,k]
noncomputable def EU(m:Str)(s:SharedT):Option SharedT:=(boundIn s.abs.heap sysModules m).bind fun v=>(z8 v).bind fun a=>(tameNamesOf? m).bind fun row=>(s.tree.get a).bind fun o=>o.dict.bind fun D=>(s.tree.get D).bind fun Y=>(fenceDict? m row Y).bind fun Z=>(alive o).bind fun b=>(alive Y).bind fun b=>
 bif Nat.blt a s.n&&Nat.blt D s.n then some {s with tree:=s.tree.set D fun b=>Z}else none
noncomputable def zJ:List Str->SharedT->Option SharedT
 |[],s=>some s
 |m::r,s=>match EU m s with
  |some Z=>zJ r Z
  |none=>none
theorem qz{o Z:Obj}(h:alive o=some Z):Z=o:=by
 obtain⟨c,d,Y,X⟩:=o;cases Y with
 |freed=>exact nS h
 |_=>exact(Option.some.inj h).symm
theorem yX{m:Str}{s Y:ZS}{a D:Addr}{row}{o X:Obj}(T:boundIn s.heap sysModules m=some (.ref a))(U:tameNamesOf? m=some row)(q1:s.heap.get? a=some o)(V:o.dict=some D)(W:s.heap.get? D=some X)(e:((fenceDict? m row X).map fun Z=>{s with heap:=s.heap.update D fun b=>Z})=some Y):fenceModule? m s=some Y:=by unfold fenceModule?;rw[T,U];dsimp only;rw[q1];dsimp only;rw[V];dsimp only;rw[W];exact e
theorem AM{m:Str}{s Y:SharedT}(h:EU m s=some Y):fenceModule? m s.abs=some Y.abs:=by
 obtain⟨v,W,h⟩:=gW.mp h;obtain⟨a,R,h⟩:=gW.mp h;obtain⟨row,S,h⟩:=gW.mp h;obtain⟨o,U,h⟩:=gW.mp h;obtain⟨D,T,h⟩:=gW.mp h;obtain⟨Q,hd,h⟩:=gW.mp h;obtain⟨V,hf,h⟩:=gW.mp h;obtain⟨_,x1,h⟩:=gW.mp h;obtain⟨_,x2,h⟩:=gW.mp h;obtain⟨Z,e⟩:=jr h;have Z:=iB.mp Z
 have q1:=abs_get (t:=s.tree) (n:=s.n) (life:=s.life) (dc Z.1) U
 have X:=abs_get (t:=s.tree) (n:=s.n) (life:=s.life) (dc Z.2) hd
 rw[x1,qz x1]at q1;rw[x2,qz x2]at X;rw[lg R]at W;rw[e];exact yX W S q1 T X (by rw[hf];exact congrArg (fun z=>some {s.abs with heap:=z}) (absHeap_set hd).symm)
theorem uj:∀{ms:List Str} {s Z:SharedT},zJ ms s=some Z->fenceAll? ms s.abs=some Z.abs
 |[],_,_,h=>by cases h;rfl
 |m::r,s,Z,h=>by
  unfold zJ at h;cases Y:EU m s with
  |none=>rw[Y]at h;cases h
  |some x=>
   rw[Y]at h;unfold fenceAll?;rw[AM Y];exact uj h
noncomputable def QU(p:Program):SharedT:=⟨.nil,0,(start p).1.heap.life,(start p).1.gens,(start p).1.drawn,(start p).1.toks,(start p).1.os⟩
def IV(p:Program)(w:ZW)(N:Nat):Option SharedT:=match ET (opening p) w N (QU (opening p)) (start (opening p)).2 with
 |some s=>zJ (importedModules p.main.body) s
 |none=>none
noncomputable def hq:Program:={pg with main:={pg.main with body:=[pg.main.body.getD 62 default]}}
noncomputable def ip:List Str:=(pg.main.scope.names.map (·.1)).filter fun x=>!(x==("law":Str))
noncomputable def IW(s:ZS):Bool:=xlAt hq [] s&&recOk [] s
def zL(p:Program)(w:ZW)(Z:Nat)(ann:Option ZV):Nat->SharedT->Thread->Option (SharedT×Thread):=qc p w (stepOk Z ann) (fun s t=>some (s,t)) fun a t=>bif through t then some none else none
theorem AN{p:Program}{w:ZW}{Z:Nat}{ann:Option ZV}{n:Nat}{s Y:SharedT}{t t':Thread}:zL p w Z ann n s t=some (Y,t')->topGo treeTable p w Z ann n s.abs t=some (Y.abs,t'):=lp (ρ:=fun z:SharedT×Thread=>(z.1.abs,z.2)) (F:=topGo treeTable p w Z ann) (fin:=fun s t=>some (s,t)) (fun s t r h=>congrArg (Option.map fun z:SharedT×Thread=>(z.1.abs,z.2)) h) (fun n s t r h=>nS (jr h).2.symm) fun n s t Y t' x e q h k=>by
  simp only[topGo,IU e,q,h,k]
def h8(p:Program)(w:ZW)(Z:Nat)(ann:Option ZV):Nat->SharedT->Thread->Option (Flow×SharedT×Code×Pos):=qc p w (stepOk Z ann) (fun a a=>none) fun s t=>(endAt 1 t).map fun f=>some (f,s,t.code,t.pos)
theorem i8{p:Program}{w:ZW}{Z:Nat}{ann:Option ZV}{n:Nat}{s Y:SharedT}{t:Thread}{f:Flow}{c:Code}{q:Pos}:h8 p w Z ann n s t=some (f,Y,c,q)->segRun treeTable p w Z ann 1 n s.abs t=some (f,Y.abs,c,q):=lp (ρ:=fun z:Flow×SharedT×Code×Pos=>(z.1,z.2.1.abs,z.2.2)) (F:=segRun treeTable p w Z ann 1) (fun a a a h=>nS h) (fun n s t r h=>by
  obtain⟨l,e,h⟩:=mK.mp h;simp only[segRun,e,←Option.some.inj h]) fun n s t Y t' x e q h k=>by
  simp only[segRun,Option.map_eq_none_iff.mp e,q,h,k]
noncomputable def sN:SharedT:=⟨.nil,0,(start (opening pg)).1.heap.life,#[],(start (opening pg)).1.drawn,0,(start (opening pg)).1.os⟩
noncomputable def gO:Option SharedT->SharedT
 |some s=>s
 |none=>sN
noncomputable def gP:Option (SharedT×Thread)->SharedT
 |some s=>s.1
 |none=>sN
noncomputable def gQ:Option (Flow×SharedT×Code×Pos)->SharedT
 |some s=>s.2.1
 |none=>sN
noncomputable def hB:List Stmt:=behindTheImports pg
noncomputable def hE:Env:={scope:=pg.main.scope,locals:=mainNs,globals:=mainNs,cells:=[],code:=.ref 36,frame:=some 37}
noncomputable def hC:Code:=.body hB hE
noncomputable def hK:List Frame:=[topFrame ⟨0,0,0,0⟩]
noncomputable abbrev hA:Option ZV:=some (.ref 6)
def s0(w:ZW):SharedT:=gO (IV pg w 60000)
def s1(w:ZW):SharedT:=gP (zL pg w 34 hA 12 (s0 w) (topStub pg))
def s2(w:ZW):SharedT:=gQ (h8 pg w 34 hA 9 (s1 w) (blockOf hB hE hC ⟨0,0,0,0⟩ hK))
def s3(w:ZW):SharedT:=gQ (h8 pg w 34 hA 900 (s2 w) (piecesOf (hB.take 3) hE hC ⟨0,0,0,0⟩ hK))
def s4(w:ZW):SharedT:={s3 w with
 n:=51,toks:=1363
 tree:=((((((((s3 w).tree.set 3 fun o=>{o with data:=match o.data with
  |.dict Z n=>.dict (Z.push ⟨PyData.keyHash w.params ⟨⟨[95,81,85,79,80,82,73,95,77,65,80]⟩⟩,.str ⟨⟨[95,81,85,79,80,82,73,95,77,65,80]⟩⟩ 1362,.ref 47⟩) (n+1)
  |d=>d}).ins 45 ⟨.type "range",none,.fields ⟨[.int 0 336,.int 256 335,.int 1 337]⟩,⟨[]⟩⟩).ins 46 ⟨.type "range_iterator",none,.fields ⟨[.int 256 0,.int 0 0,.int 1 0]⟩,⟨[]⟩⟩).ins 47
  ⟨.type "list",none,.seq ⟨(List.range 256).map fun i=>.str ⟨⟨[61,hx (i/16),hx (i%16)]⟩⟩ (341+4*i)⟩ 256,⟨[]⟩⟩).ins 48 ⟨.type "dict",none,.dict ⟨[]⟩ 2,⟨[]⟩⟩).ins 49 ⟨.type "tuple",none,.seq ⟨[]⟩ 0,⟨[]⟩⟩).ins 50
  ⟨.type "StopIteration",none,.fields ⟨[.ref 49,.none,.none,.none,.bool false,.none]⟩,⟨[]⟩⟩)}
noncomputable def Cb(a:Addr):Obj:=⟨.type "StopIteration",none,.fields ⟨[.ref a,.none,.none,.none,.bool false,.none]⟩,⟨[]⟩⟩
noncomputable def IX:Obj:=⟨.type "tuple",none,.seq ⟨[]⟩ 0,⟨[]⟩⟩
noncomputable def IY:Obj:=⟨.type "slice",none,.fields ⟨[.none,.none,.none]⟩,⟨[]⟩⟩
noncomputable def IZ(i:Int):Obj:=⟨.type "bytes_iterator",none,.fields ⟨[.none,.int i 0]⟩,⟨[]⟩⟩
noncomputable def zM:ZN:=(List.range 26).map (97+·)
noncomputable def I0:ZN:=(List.range 26).map (65+·)
noncomputable def EV:ZN:=(List.range 10).map (48+·)
noncomputable def Wn:ZN:=[45,33,42,43,47]++zM++I0++EV
noncomputable def Wo:ZN:=[99,112,121,51,49,51,46,101,109,97,105,108,46,113,117,111,112,114,105,109,105,109,101]
noncomputable def Wq(w:ZW):List DictEntry:=[dE w.params [95,81,85,79,80,82,73,95,72,69,65,68,69,82,95,77,65,80] 1363 (.ref 52),dE w.params [95,81,85,79,80,82,73,95,66,79,68,89,95,77,65,80] 1364 (.ref 54),
 dE w.params [97,115,99,105,105,95,108,111,119,101,114,99,97,115,101] 1366 (ar zM 1365),dE w.params [97,115,99,105,105,95,117,112,112,101,114,99,97,115,101] 1368 (ar I0 1367),
 dE w.params [97,115,99,105,105,95,108,101,116,116,101,114,115] 1370 (ar (zM++I0) 1369),dE w.params [100,105,103,105,116,115] 1372 (ar EV 1371),dE w.params [104,101,120,100,105,103,105,116,115] 1377 (ar (EV++zM.take 6++I0.take 6) 1376),dE w.params [99] 1388 (.int 9 1874)]
def s5(w:ZW):SharedT:={s4 w with
 n:=61,toks:=1877
 tree:=((((((((((((s4 w).tree.set 3 fun o=>{o with data:=match o.data with
  |.dict ⟨e::Z⟩ n=>.dict ⟨{e with val:=.str ⟨⟨Wo⟩⟩ 1378}::(Z++Wq w)⟩ (n+8)
  |d=>d}).ins 51 IY).ins 52 ⟨.type "list",none,.seq ⟨(List.range 256).map fun i=>bif Nat.beq i 32 then .str ⟨⟨[95]⟩⟩ 1588 else qv Wn 1389 i⟩ 0,⟨[]⟩⟩).ins 53 IY).ins 54 ⟨.type "list",none,.seq ⟨(List.range 256).map (qv UK 1594)⟩ 0,⟨[]⟩⟩).ins 55
  (IZ 67)).ins 56 IX).ins 57 (Cb 56)).ins 58 (IZ 95)).ins 59 IX).ins 60 (Cb 59))}
def s6(w:ZW):SharedT:=gQ (h8 pg w 34 hA 20000 (s5 w) (piecesOf (hB.drop 15) hE hC ⟨20,9,20,110⟩ hK))
def s7(w:ZW):SharedT:=gO (zI pg w 34 hA 5 (s6 w) ⟨doneF .next,hC,⟨990,0,1026,46⟩,hK⟩)
theorem I3(r:String){P:ZW->Prop}(h:∀b w,P (World.withFollow w r b))(w:ZW):P w:=by
 have:=h (w.params.followText r) w
 rwa [World.withFollow_self]at this
theorem vr(w:ZW):(IV pg w 60000,((s0 w).abs.heap.isNs mainGlobals&&(s0 w).gens.size==0,(s0 w).n,(s0 w).abs.heap.nsMap mainGlobals "__annotations__"),zL pg w 34 hA 12 (s0 w) (topStub pg),h8 pg w 34 hA 9 (s1 w) (blockOf hB hE hC ⟨0,0,0,0⟩ hK),h8 pg w 34 hA 900 (s2 w) (piecesOf (hB.take 3) hE hC ⟨0,0,0,0⟩ hK))=
  (some (s0 w),(true,34,hA),some (s1 w,⟨den hC,hC,⟨0,0,0,0⟩,hK⟩),some (.next,s2 w,hC,⟨0,0,0,0⟩),some (.next,s3 w,hC,⟨7,0,7,2⟩)):=by
 kernel_rfl
end
section
open PySem.F PySem.Calls PySem.Spec PyProof.Rows
set_option tactic.hygienic true
noncomputable def gw:Option Addr->Obj
 |none=>⟨.none,none,.fields #[],#[]⟩
 |some a=>⟨.none,none,.fields #[.int 945 0,.int 20 0,.ref a],#[]⟩
noncomputable def KT.parts:KT->Option Obj×KT×KT
 |.nil=>(none,.nil,.nil)
 |.node v l r=>(v,l,r)
theorem yY(B:KT)(i:Nat):B.get i=if i=0 then(KT.parts B).1 else if i%2=1 then(KT.parts B).2.1.get (i/2)else(KT.parts B).2.2.get (i/2-1):=by
 cases B with
 |nil=>
  show none=_
  split
  .rfl
  .split<;>rfl
 |node v l r=>
  show(match Nat.beq i 0 with|true=>v|false=>match Nat.beq (i%2) 1 with|true=>l.get (i/2)|false=>r.get (i/2-1))=_
  rw[BT.beq_eq,BT.beq_eq]
  by_cases h:i=0
  .simp [h,KT.parts]
  .by_cases q:i%2=1<;>simp[h,q,KT.parts]
theorem FG(w:ZW):∃vs,(sT w.params).cls=.type "code"/\(sT w.params).data=.fields vs/\vs[11]?=some (.ref 917):=⟨_,rfl,rfl,rfl⟩
theorem SA(w:ZW):(kp w).get 921=some (sT w.params):=by kernel_rfl
theorem k3(w:ZW):(kp w).get 3=some (Ab w.params):=by kernel_rfl
noncomputable def Cc:KT->ZN
 |.nil=>[]
 |.node v l r=>(match v with|some _=>[0]|none=>[])++((Cc l).map (fun j=>2*j+1)++(Cc r).map (fun j=>2*j+2))
theorem oI:∀(A:KT)(i:Nat)(o:Obj),A.get i=some o->i∈Cc A
 |.nil,i,o,h=>by cases h
 |.node v l r,i,o,h=>by
  rw[yY]at h;show i∈(match v with|some _=>[0]|none=>[])++((Cc l).map (fun j=>2*j+1)++(Cc r).map (fun j=>2*j+2))
  split at h
  .next q=>
   subst q;have h:v=some o:=h
   subst h;exact dN _ (.head _)
  .next q=>
   refine cz _ ?_;split at h
   .next Z=>
    exact dN _ (aZ.mpr ⟨i/2,oI l _ o h,by lia⟩)
   .next Z=>
    exact cz _ (aZ.mpr ⟨i/2-1,oI r _ o h,by lia⟩)
noncomputable def rQ:ZN:=[0,1,3,767,95,863,263,903,551,871,87,67,899,835,707,291,147,531,915,211,115,179,923,219,827,955,129,193,833,961,161,545,929,113,265,521,201,713,937,233,153,537,921,261,165,117,949,109,173,941,893,2,4,128,768,960,160,544,864,80,264,200,552,936,88,260,900,116,180,820,948,76,140,908,172,220,956,892,66,194,834,290,930,146,914,210,114,714,234,154,538,922,826,902,166,870,86,110,942,94]
theorem AO(w:ZW):Cc (kp w)=rQ:=by kernel_rfl
noncomputable def FH(s:ZS):Nat×List (Option Obj):=(s.heap.objs.size,(917::rQ).map s.heap.get?)
def Cd(w:ZW):Nat×List (Option Obj):=(962,some (gw none)::rQ.map (kp w).get)
theorem LQ{w:ZW}{Z:ZS}{h:Heap}(y:FH Z=Cd w)(keeps:∀b o,Z.heap.get? b=some o->h.get? b=some o):Z.heap.objs.size=962/\cP (kp w) h/\h.get? 917=some (gw none)/\h.get? 3=some (Ab w.params)/\isCodeTable h 917:=by
 obtain⟨Q,V⟩:=Prod.mk.inj y;obtain⟨V,R⟩:=List.cons.inj V;have X:∀a o,(kp w).get a=some o->Z.heap.get? a=some o:=fun a o Y=>by
  have U:=oI _ _ _ Y
  rw[AO]at U;rw[←Y];exact List.map_inj_left.mp R a U
 have W:cP (kp w) h:=fun a o Y=>keeps _ _ (X a o Y)
 obtain⟨vs,S,h2,T⟩:=FG w;exact⟨Q,W,keeps _ _ V,W _ _ (k3 w),921,_,vs,W _ _ (SA w),S,h2,T⟩
end
section
open PyProof.Rows PySem.Calls
set_option tactic.hygienic false
def Pb(w:ZW):Prop:=h8 pg w 34 hA 10000 (s3 w) (piecesOf [hB.getD 3 default] hE hC ⟨7,0,7,2⟩ hK)=some (.next,s4 w,hC,⟨8,0,8,11⟩)
theorem LR(w:ZW):Pb ((w.withFollow h6 false).withFollow di false):=by delta Pb;kernel_rfl
theorem LU(w:ZW):Pb ((w.withFollow h6 false).withFollow di true):=by delta Pb;kernel_rfl
theorem LV(w:ZW):Pb ((w.withFollow h6 true).withFollow di false):=by delta Pb;kernel_rfl
theorem LW(w:ZW):Pb ((w.withFollow h6 true).withFollow di true):=by delta Pb;kernel_rfl
theorem SF:∀w,Pb w:=I3 di fun b=>I3 (P:=fun w=>Pb (w.withFollow di b)) h6 fun a w=>match a,b with
 |false,false=>LR w
 |false,true=>LU w
 |true,false=>LV w
 |true,true=>LW w
set_option tactic.hygienic false
def Pm(w:ZW):Prop:=h8 pg w 34 hA 10000 (s4 w) (piecesOf ((hB.drop 4).take 11) hE hC ⟨8,0,8,11⟩ hK)=some (.next,s5 w,hC,⟨20,9,20,110⟩)
theorem LY(w:ZW):Pm (w.withFollow di false):=by delta Pm;kernel_rfl
theorem LZ(w:ZW):Pm (w.withFollow di true):=by delta Pm;kernel_rfl
theorem SG:∀w,Pm w:=I3 di fun b w=>match b with
 |false=>LY w
 |true=>LZ w
set_option tactic.hygienic false
def wQ(w:ZW):=((staticsOk (importedModules pg.main.body) (s0 w).abs.heap (s7 w).abs.heap&&namesBound pg (s7 w).abs.heap&&gensDone (s7 w).abs&&laidKept (s0 w).abs.heap (s7 w).abs.heap),openSeen hq ip (importedModules pg.main.body) IW true (s7 w).abs,FH (s7 w).abs)
def Pc(w:ZW):Prop:=(h8 pg w 34 hA 20000 (s5 w) (piecesOf (hB.drop 15) hE hC ⟨20,9,20,110⟩ hK),zI pg w 34 hA 5 (s6 w) ⟨doneF .next,hC,⟨990,0,1026,46⟩,hK⟩,wQ w)=(some (.next,s6 w,hC,⟨990,0,1026,46⟩),some (s7 w),true,openGood hq ip,Cd w)
theorem L0(w:ZW):Pc (w.withFollow di false):=by delta Pc;kernel_rfl
theorem L3(w:ZW):Pc (w.withFollow di true):=by delta Pc;kernel_rfl
theorem zO:∀w,Pc w:=I3 di fun b w=>match b with
 |false=>L0 w
 |true=>L3 w
set_option tactic.hygienic false
theorem AP{p:Program}{w:ZW}{Z:Nat}{ann:Option ZV}{E:Env}{B D F G H:List Stmt}{c:Code}{P Q R p4 S T q:Pos}{t0 t1 U t3 V W X Y:SharedT}{I J K L M N O:Nat}(u:zL p w Z ann I t0 (topStub p)=some (t1,⟨den (.body B E),c,P,[topFrame q]⟩))(h2:h8 p w Z ann J t1 (blockOf B E c P [topFrame q])=some (.next,U,c,Q))(v:h8 p w Z ann K U (piecesOf D E c Q [topFrame q])=some (.next,t3,c,R))(x:h8 p w Z ann L t3 (piecesOf F E c R [topFrame q])=some (.next,V,c,p4))(y:h8 p w Z ann M V (piecesOf G E c p4 [topFrame q])=some (.next,W,c,S))(z:h8 p w Z ann N W (piecesOf H E c S [topFrame q])=some (.next,X,c,T))(A:zI p w Z ann O X ⟨doneF .next,c,T,[topFrame q]⟩=some Y)(C:B=D++(F++(G++(H++[])))):topRun treeTable p w Z ann (I+(J+(K+(L+(M+(N+O)))))) t0.abs (topStub p)=some Y.abs:=by subst C;refine go_top (AN u) ?_;rw[←qy];refine piece_block (i8 h2) ?_;refine piece_app (i8 v) ?_;refine piece_app (i8 x) ?_;refine piece_app (i8 y) ?_;refine piece_app (i8 z) ?_;exact piece_nil (AK A)
theorem yZ{p q:Program}{loose:List Str}{V:ZS->Bool}{α:Type}{W:ZS->α}{U:ZW->α}{N Z M:Nat}{ann:Option ZV}{a b:ZW->SharedT}(hn:p.main.body.any namesNumpy=false)(K:∀w,IV p w N=some (a w))(h2:∀w,((a w).abs.heap.isNs mainGlobals&&(a w).gens.size==0)=true)(L:∀w,(a w).n=Z)(O:∀w,(a w).abs.heap.nsMap mainGlobals "__annotations__"=ann)(P:∀w,topRun treeTable p w Z ann M (a w).abs (topStub p)=some (b w).abs)(T:M<=N)(Q:∀w,(staticsOk (importedModules p.main.body) (a w).abs.heap (b w).abs.heap&&namesBound p (b w).abs.heap&&gensDone (b w).abs&&laidKept (a w).abs.heap (b w).abs.heap)=true)(R:∀w,openSeen q loose (importedModules p.main.body) V true (b w).abs=openGood q loose)(S:∀w,W (b w).abs=U w):LeftO p q loose V W U N:=fun w=>by
 have f:fencedOpening treeTable p w N=some (a w).abs:=by
  have Y:=K w
  unfold IV at Y;cases X:ET (opening p) w N (QU (opening p)) (start (opening p)).2 with
  |none=>rw[X]at Y;cases Y
  |some x=>
   rw[X]at Y;unfold fencedOpening;rw[show(start (opening p)).1=(QU (opening p)).abs from rfl,AJ X]
   show fenceModules? p x.abs=_
   unfold fenceModules?;rw[uj Y];show(if p.main.body.any namesNumpy then _ else some (a w).abs)=_
   rw[hn];rfl
 unfold openEnds;rw[f];have r:=topRun_mono (N-M) _ _ _ _ (P w)
 rw[show M+(N-M)=N by exact pb T]at r
 have g:topFrom treeTable p w N (a w).abs=some (b w).abs:=by
  unfold topFrom;rw[show((a w).abs.heap.isNs mainGlobals&&(a w).abs.gens.size==0)=true from h2 w]
  dsimp only;rw[show(a w).abs.heap.objs.size=Z from(absHeap_size _ _ _).trans (L w),O,r]
  show(match staticsOk (importedModules p.main.body) (a w).abs.heap (b w).abs.heap&&namesBound p (b w).abs.heap&&gensDone (b w).abs&&laidKept (a w).abs.heap (b w).abs.heap with|true=>_|false=>_)=_
  rw[Q]
 show(topFrom treeTable p w N (a w).abs).map _=_
 rw[g];show some (openSeen q loose (importedModules p.main.body) V true (b w).abs,W (b w).abs)=_
 rw[R,S]
theorem xq{α β W:Type}{a X:α}{b Y:β}{c Z:W}(h:(a,b,c)=(X,Y,Z)):a=X/\b=Y/\c=Z:=by cases h;exact⟨rfl,rfl,rfl⟩
theorem FJ{α β S T U:Type}{a V:α}{b W:β}{c X:S}{d Y:T}{e Z:U}(h:(a,b,c,d,e)=(V,W,X,Y,Z)):a=V/\b=W/\c=X/\d=Y/\e=Z:=by cases h;exact⟨rfl,rfl,rfl,rfl,rfl⟩
theorem oK{w:ZW}(h:wQ w=(true,openGood hq ip,Cd w)):(staticsOk (importedModules pg.main.body) (s0 w).abs.heap (s7 w).abs.heap&&namesBound pg (s7 w).abs.heap&&gensDone (s7 w).abs&&laidKept (s0 w).abs.heap (s7 w).abs.heap)=true/\openSeen hq ip (importedModules pg.main.body) IW true (s7 w).abs=openGood hq ip/\FH (s7 w).abs=Cd w:=by delta wQ at h;exact xq h
theorem L4:hB=hB.take 3++([hB.getD 3 default]++((hB.drop 4).take 11++(hB.drop 15++[]))):=by kernel_rfl
theorem L5:pg.main.body.any namesNumpy=false:=by kernel_rfl
theorem AQ(w:ZW):topRun treeTable pg w 34 hA (12+(9+(900+(10000+(10000+(20000+5)))))) (s0 w).abs (topStub pg)=some (s7 w).abs:=have a:=FJ (vr w)
 have c:=xq (zO w)
 AP (B:=hB) (E:=hE) (c:=hC) a.2.2.1 a.2.2.2.1 a.2.2.2.2 (SF w) (SG w) c.1 c.2.1 L4
theorem left:LeftO pg hq ip IW FH Cd 60000:=yZ (a:=s0) (b:=s7) L5 (fun w=>(FJ (vr w)).1) (fun w=>(xq (FJ (vr w)).2.1).1) (fun w=>(xq (FJ (vr w)).2.1).2.1) (fun w=>(xq (FJ (vr w)).2.1).2.2) AQ (by decide) (fun w=>(oK (xq (zO w)).2.2).1) (fun w=>(oK (xq (zO w)).2.2).2.1) (fun w=>(oK (xq (zO w)).2.2).2.2)
end
section
set_option tactic.hygienic false
universe u
def wF{α:Type u}(L:ZW->α)(w:ZW):α×α:=(L (w.withFollow di true),L (w.withFollow di false))
def wG{α:Type u}(L:ZW->α)(w:ZW):α×α:=(L (w.withFollow di true),L (w.withFollow di false))
theorem aC{α:Type u}{L R:ZW->α}(w:ZW)(h:wF L=wG R):L w=R w:=by
 rcases a4 w with ⟨Z,rfl⟩|⟨Z,rfl⟩
 .exact congrArg (·.1) (congrFun h Z)
 .exact congrArg (·.2) (congrFun h Z)
def Wr{α:Type u}(L:ZW->α)(w:ZW):(α×α)×(α×α):=(wF L (w.withFollow h6 true),wF L (w.withFollow h6 false))
def Ws{α:Type u}(L:ZW->α)(w:ZW):(α×α)×(α×α):=(wG L (w.withFollow h6 true),wG L (w.withFollow h6 false))
theorem h9{α:Type u}{L R:ZW->α}(w:ZW)(h:Wr L=Ws R):L w=R w:=by
 rcases a4 w with ⟨Y,rfl⟩|⟨Y,rfl⟩<;>rcases pD Y with ⟨Z,rfl⟩|⟨Z,rfl⟩
 .exact congrArg (fun x=>x.1.1) (congrFun h Z)
 .exact congrArg (fun x=>x.2.1) (congrFun h Z)
 .exact congrArg (fun x=>x.1.2) (congrFun h Z)
 .exact congrArg (fun x=>x.2.2) (congrFun h Z)
def QV(α:Type)(β:Type u):Nat->Type u
 |0=>β
 |n+1=>β×(α->QV α β n)
def lF{α:Type}{β:Type u}:(n:Nat)->(List α->β)->QV α β n
 |0,f=>f []
 |n+1,f=>(f [],fun a=>lF n fun l=>f (a::l))
def lG{α:Type}{β:Type u}:(n:Nat)->(List α->β)->QV α β n
 |0,f=>f []
 |n+1,f=>(f [],fun a=>lG n fun l=>f (a::l))
theorem SH{α:Type}{β:Type u}{n:Nat}:∀{f g:List α->β},lF n f=lG n g->∀(l:List α),l.length<=n->f l=g l:=by
 induction n with
 |zero=>
  intro f g h l Z;cases l with
  |nil=>exact h
  |cons=>exact absurd Z (Nat.not_succ_le_zero _)
 |succ n Y=>
  intro f g h l Z;cases l with
  |nil=>exact congrArg (·.1) h
  |cons a l=>exact Y (f:=fun l=>f (a::l)) (congrFun (congrArg (·.2) h) a) l (jE Z)
theorem c5{α:Type}{β:Type u}{n:Nat}{f g:List α->β}{l:List α}(Z:l.length<=n)(h:lF n f=lG n g):f l=g l:=SH h l Z
def QW(β:Type u):Nat->Type u
 |0=>β
 |n+1=>QW β n×β
def nF{β:Type u}:(n:Nat)->(Nat->β)->QW β n
 |0,f=>f 0
 |n+1,f=>(nF n f,f (n+1))
def nG{β:Type u}:(n:Nat)->(Nat->β)->QW β n
 |0,f=>f 0
 |n+1,f=>(nG n f,f (n+1))
theorem I4{β:Type u}{n:Nat}{f g:Nat->β}(h:nF n f=nG n g):∀(i:Nat),i<=n->f i=g i:=by
 induction n with
 |zero=>exact fun i Z=>by rw[Nat.le_zero.mp Z];exact h
 |succ n Y=>exact fun i Z=>(Nat.lt_or_eq_of_le Z).elim (fun q=>Y (congrArg (·.1) h) i (cY q)) fun q=>by rw[q];exact congrArg (·.2) h
theorem rR{β:Type u}{n:Nat}{f g:Nat->β}{i:Nat}(Z:i<=n)(h:nF n f=nG n g):f i=g i:=I4 h i Z
def oF{α:Type}{β:Type u}(f:Option α->β):β×(α->β):=(f none,fun a=>f (some a))
def oG{α:Type}{β:Type u}(f:Option α->β):β×(α->β):=(f none,fun a=>f (some a))
theorem cm{α:Type}{β:Type u}{f g:Option α->β}(a:Option α)(h:oF f=oG g):f a=g a:=by
 cases a with
 |none=>exact congrArg (·.1) h
 |some a=>exact congrFun (congrArg (·.2) h) a
def bF{β:Type u}(f:Bool->β):β×β:=(f true,f false)
def bG{β:Type u}(f:Bool->β):β×β:=(f true,f false)
theorem uk{β:Type u}{f g:Bool->β}(a:Bool)(h:bF f=bG g):f a=g a:=by
 cases a with
 |true=>exact congrArg (·.1) h
 |false=>exact congrArg (·.2) h
noncomputable def QX{α:Type u}:Bool->α->Option α
 |true,a=>some a
 |false,_=>none
noncomputable def QY{α:Type u}:Bool->α->Option α
 |true,a=>some a
 |false,_=>none
theorem mj{β:Type u}{c:Bool}{L R:β}(Z:c=true)(h:QX c L=QY c R):L=R:=by subst Z;exact Option.some.inj h
structure Rs where
 A:ZA
 B:ZA
 P:List Prop
end
section
open PySem.F
section
set_option tactic.hygienic false
variable{prog:Program}{w:ZW}{kt:KT}
noncomputable def ah(o:Obj):ZY:=match o.data with
 |.seq xs _=>xs.toList
 |_=>[]
noncomputable def du(o:Obj):Obj:=ae (ah o) (eU o)
noncomputable def qA(o:Obj):Obj:=bK (ah o) (eU o)
theorem js:∀M:ZA,(M.map (·.1)).zip (M.map (·.2))=M
 |[]=>rfl
 |x::l=>by simp only[List.map_cons,List.zip_cons_cons,js l]
theorem dB{s:ZS}{l:Addr}{o o':Obj}{f:Obj->Obj}(h:s.heap.get? l=some o)(e:f o=o')(hf:o'.isFreed=false){M:ZA}(W:aR s.heap M)(X:l∉M.map (·.1))(n:Nat):cf s {s with heap:=s.heap.update l f,toks:=s.toks+n} ((l,o)::M) ⟨.ok .next,o'::M.map (·.2),[],s.heap.objs.size,s.toks+n,0,[]⟩:=by
 have Y:Heap.SameBut l s.heap (s.heap.update l f):=Heap.SameBut.update ..
 refine⟨⟨fun b x V q=>(Y.2 b (fun z=>q (z▸.head _))).trans V,dX Y.1.symm,b8 ..,rfl,rfl⟩,by simp,?_,bH _,(fun a hp=>nomatch hp),cW,Y.1,rfl,(by simp),(fun a hp=>nomatch hp),(fun a hp=>nomatch hp),(fun a hp=>nomatch hp),(fun a hp=>nomatch hp)⟩
 intro p hp;simp only[List.map_cons,List.zip_cons_cons]at hp;rcases bc.mp hp with rfl|hp
 .show (s.heap.update l f).get? l=some o'
  rw[←e];exact Heap.get?_update_self f h (by rw[e];exact hf)
 .have:(M.map (·.1)).zip (M.map (·.2))=M:=js M
  rw[this]at hp;refine(Y.2 p.1 fun z=>X (z▸b7 hp)).trans (W p hp)
theorem cf.ret{s V:ZS}{X:ZA}{r T:Result}{Y:List Obj}{new:ZA}{N t U:Nat}{W:List aQ}(h:cf s V X ⟨r,Y,new,N,t,U,W⟩):cf s V X ⟨T,Y,new,N,t,U,W⟩:=⟨h.ext,h.len,h.upd,h.new,h.free,h.nodup,h.size,h.toks,h.gens,h.iF,h.dU,h.d6,h.eo⟩
noncomputable def eJ(ix:Nat):aX prog w kt where
 A:=fun a c a a T=>⟨.builtin "list.append" ⟨[.ref (af (v0 c)),v1 c],[]⟩,[ix],[(af (v0 c),du (ab T ix))],.fq,[(ah (ab T ix)).length<=16777216],[],[]⟩
 B:=fun a c N t T a=>⟨.ok (.ret .none),[ae (ah (ab T ix)++[v1 c]) (eU (ab T ix)+1)],[],N,t,0,[]⟩
 ok:=fun a c T s B pos e hp a V a a hB a S=>by
  have X:s.heap.get? (af (v0 c))=some (du (ab T ix)):=V _ (.head _)
  have W:(ah (ab T ix)).length<=16777216:=hp _ (.head _)
  have e:c=.builtin "list.append" ⟨[.ref (af (v0 c)),v1 c],[]⟩:=e
  refine bE e hB (by decide+kernel) PySem.entry_list_append (PySem.AutoListH.list_append_list_val_0 (af (v0 c)) ⟨ah (ab T ix)⟩ (eU (ab T ix)) (v1 c) W) (R:=fun r Y=>r=.ok (.ret .none)/\Y={s with heap:=s.heap.update (af (v0 c)) (Obj.mapSeq fun x=>x.push (v1 c)),toks:=s.toks}) ⟨X,rfl,rfl⟩ fun r Y ⟨U,h2⟩=>⟨[],U,?_⟩
  subst h2;have:=dB (s:=s) (f:=Obj.mapSeq fun x=>x.push (v1 c)) (o':=ae (ah (ab T ix)++[v1 c]) (eU (ab T ix)+1)) X (by
   simp[du,ae,Obj.mapSeq]) rfl (M:=[]) (bH _) (by simp) 0
  exact this.ret
noncomputable def FK(o:Obj):ZY:=match o.data with
 |.fields xs=>xs.toList
 |_=>[]
noncomputable def iO(o:Obj):Nat:=(ak ((FK o).getD 1 .none)).toNat
noncomputable def bx(l:Addr)(i:Nat):Obj:=⟨.type "list_iterator",none,.fields #[.ref l,.int i 0],#[]⟩
noncomputable def gy(l:Addr)(i:Nat):Obj:=⟨.type "tuple_iterator",none,.fields #[.ref l,.int i 0],#[]⟩
variable{prog:Program}{w:ZW}{kt:KT}
section
variable{I l:Addr}{i:Nat}{Z:ZY}{n:Nat}
theorem kr(x:ZV)(hx:Z[i]?=some x):Meets (Builtin.«list_iterator.__next__» ⟨[.ref I],[]⟩) (fun a R s=>s.heap.get? I=some (bx l i)/\s.heap.get? l=some (ae Z n)/\R (.ok (.ret x)) {s with heap:=s.heap.update I (Obj.mapFields (·.setIfInBounds 1 (rawInt ((i:Int)+1))))}):=.of_wp fun prog w A R s h=>by
  obtain⟨W,X,h⟩:=h;show wpAny _ _ (field (.ref I) 0>>=_) _ _ s
  refine wpAny_bind (wpAny_field W rfl (x:=.ref l) rfl ?_);show wpAny _ _ (if(Value.ref l==Value.none)=true then _ else _) _ _ s
  rw[if_neg (show¬((Value.ref l==Value.none)=true)from fk)]
  show wpAny _ _ (field (.ref I) 1>>=_) _ _ s
  refine wpAny_bind (wpAny_field W rfl (x:=.int i 0) rfl ?_);show wpAny _ _ (seqItems? (.ref l)>>=_) _ _ s
  refine wpAny_bind (wpAny_seqItems X rfl ?_);have Y:(⟨Z⟩:Array ZV)[i]?=some x:=by simpa using hx
  simp only[Int.toNat_natCast,Y];exact wpAny_bind (wpAny_setField W rfl (by simp) (wpAny_pure ⟨x,rfl,h⟩))
theorem rz(x:ZV)(hx:Z[i]?=some x):Meets (Builtin.«tuple_iterator.__next__» ⟨[.ref I],[]⟩) (fun a R s=>s.heap.get? I=some (gy l i)/\s.heap.get? l=some (bK Z n)/\R (.ok (.ret x)) {s with heap:=s.heap.update I (Obj.mapFields (·.setIfInBounds 1 (rawInt ((i:Int)+1))))}):=.of_wp fun prog w A R s h=>by
  obtain⟨W,X,h⟩:=h;show wpAny _ _ (field (.ref I) 0>>=_) _ _ s
  refine wpAny_bind (wpAny_field W rfl (x:=.ref l) rfl ?_);show wpAny _ _ (if(Value.ref l==Value.none)=true then _ else _) _ _ s
  rw[if_neg (show¬((Value.ref l==Value.none)=true)from fk)]
  show wpAny _ _ (field (.ref I) 1>>=_) _ _ s
  refine wpAny_bind (wpAny_field W rfl (x:=.int i 0) rfl ?_);show wpAny _ _ (seqItems? (.ref l)>>=_) _ _ s
  refine wpAny_bind (wpAny_seqItems X rfl ?_);have Y:(⟨Z⟩:Array ZV)[i]?=some x:=by simpa using hx
  simp only[Int.toNat_natCast,Y];exact wpAny_bind (wpAny_setField W rfl (by simp) (wpAny_pure ⟨x,rfl,h⟩))
noncomputable def lS(N:Nat):Obj:=⟨.type "StopIteration",none,.fields #[.ref N,.none,.none,.none,.bool false,.none],#[]⟩
theorem nv{prog:Program}{w:ZW}{A:Around}{Q:PySem.Fin->ZS->Prop}{E:ZV->ZS->Prop}{s:ZS}(Y:A.handled=none)(h:E (.ref (s.heap.objs.size+1)) {s with heap:=(s.heap.push (bK [] 0)).push (lS s.heap.objs.size)}):wpAny (model prog w) A (newExc (.type "StopIteration") []>>=raiseNew) Q E s:=by
 refine wpAny_bind ?_;simp only[newExc,newTuple];refine wpAny_bind (wpAny_newObj_type ?_ (by size_fits))
 refine wpAny_bind (m:=firstArgMember _ _) (wpAny_of_eq (a:=Value.none) (by first|rfl|(simp only[firstArgMember];rfl)) ?_)
 refine wpAny_newObj_type ?_ (by size_fits)
 simp only[raiseNew];refine wpAny_bind (wpAny_handled ?_);rw[show A.handled=none from Y]
 refine wpAny_bind (wpAny_pure (wpAny_throw ?_));rw[Heap.size_push];exact h
theorem ml(hx:Z[i]?=none):Meets (Builtin.«list_iterator.__next__» ⟨[.ref I],[]⟩) (fun A R s=>A.handled=none/\s.heap.get? I=some (bx l i)/\s.heap.get? l=some (ae Z n)/\
   R (.error (.ref (s.heap.objs.size+1))) {s with heap:=((s.heap.update I (Obj.mapFields (·.setIfInBounds 0 .none))).push (bK [] 0)).push (lS s.heap.objs.size)}):=.of_wp fun prog w A R s h=>by
  obtain⟨V,W,X,h⟩:=h;show wpAny _ _ (field (.ref I) 0>>=_) _ _ s
  refine wpAny_bind (wpAny_field W rfl (x:=.ref l) rfl ?_);show wpAny _ _ (if(Value.ref l==Value.none)=true then _ else _) _ _ s
  rw[if_neg (show¬((Value.ref l==Value.none)=true)from fk)]
  show wpAny _ _ (field (.ref I) 1>>=_) _ _ s
  refine wpAny_bind (wpAny_field W rfl (x:=.int i 0) rfl ?_);show wpAny _ _ (seqItems? (.ref l)>>=_) _ _ s
  refine wpAny_bind (wpAny_seqItems X rfl ?_);have Y:(⟨Z⟩:Array ZV)[i]?=none:=by simpa using hx
  simp only[Int.toNat_natCast,Y];refine wpAny_bind (wpAny_rule (wpAny_bind (wpAny_setField W rfl (by simp) ?_)))
  refine nv (A:=A.in1) V ?_;rw[Heap.size_update];exact h
theorem tS(hx:Z[i]?=none):Meets (Builtin.«tuple_iterator.__next__» ⟨[.ref I],[]⟩) (fun A R s=>A.handled=none/\s.heap.get? I=some (gy l i)/\s.heap.get? l=some (bK Z n)/\
   R (.error (.ref (s.heap.objs.size+1))) {s with heap:=((s.heap.update I (Obj.mapFields (·.setIfInBounds 0 .none))).push (bK [] 0)).push (lS s.heap.objs.size)}):=.of_wp fun prog w A R s h=>by
  obtain⟨V,W,X,h⟩:=h;show wpAny _ _ (field (.ref I) 0>>=_) _ _ s
  refine wpAny_bind (wpAny_field W rfl (x:=.ref l) rfl ?_);show wpAny _ _ (if(Value.ref l==Value.none)=true then _ else _) _ _ s
  rw[if_neg (show¬((Value.ref l==Value.none)=true)from fk)]
  show wpAny _ _ (field (.ref I) 1>>=_) _ _ s
  refine wpAny_bind (wpAny_field W rfl (x:=.int i 0) rfl ?_);show wpAny _ _ (seqItems? (.ref l)>>=_) _ _ s
  refine wpAny_bind (wpAny_seqItems X rfl ?_);have Y:(⟨Z⟩:Array ZV)[i]?=none:=by simpa using hx
  simp only[Int.toNat_natCast,Y];refine wpAny_bind (wpAny_rule (wpAny_bind (wpAny_setField W rfl (by simp) ?_)))
  refine nv (A:=A.in1) V ?_;rw[Heap.size_update];exact h
end
theorem um(l:Addr)(i:Nat):Obj.mapFields (·.setIfInBounds 1 (rawInt ((i:Int)+1))) (bx l i)=bx l (i+1):=rfl
theorem AR(l:Addr)(i:Nat):Obj.mapFields (·.setIfInBounds 1 (rawInt ((i:Int)+1))) (gy l i)=gy l (i+1):=rfl
noncomputable def jO(cls:String)(i:Nat):Obj:=⟨.type cls,none,.fields #[.none,.int i 0],#[]⟩
theorem j4{s:ZS}{I l:Addr}{o o' ol:Obj}{f:Obj->Obj}(h:s.heap.get? I=some o)(e:f o=o')(hf:o'.isFreed=false)(V:s.heap.get? l=some ol)(U:I≠l)(r:Result):cf s {s with heap:=((s.heap.update I f).push (bK [] 0)).push (lS s.heap.objs.size)} [(I,o),(l,ol)] ⟨r,[o',ol],[(s.heap.objs.size,bK [] 0),(s.heap.objs.size+1,lS s.heap.objs.size)],s.heap.objs.size+2,s.toks,0,[]⟩:=by
 have X:Heap.SameBut I s.heap (s.heap.update I f):=Heap.SameBut.update ..
 have W:(s.heap.update I f).objs.size=s.heap.objs.size:=X.1
 have Y:((s.heap.update I f).push (bK [] 0)).objs.size=s.heap.objs.size+1:=by rw[Heap.size_push,W]
 have up:∀{a x},(s.heap.update I f).get? a=some x->(((s.heap.update I f).push (bK [] 0)).push (lS s.heap.objs.size)).get? a=some x:=fun e=>Heap.get?_push_of_some _ (Heap.get?_push_of_some _ e)
 have g0:(((s.heap.update I f).push (bK [] 0)).push (lS s.heap.objs.size)).get? s.heap.objs.size=some (bK [] 0):=Heap.get?_push_of_some _ (by rw[←W];exact Heap.get?_push_size _ rfl)
 have g1:(((s.heap.update I f).push (bK [] 0)).push (lS s.heap.objs.size)).get? (s.heap.objs.size+1)=some (lS s.heap.objs.size):=by rw[←Y];exact Heap.get?_push_size _ rfl
 refine⟨⟨fun b x T q=>up ((X.2 b (fun z=>q (z▸.head _))).trans T),?_,aM _,rfl,rfl⟩,rfl,?_,?_,?_,?_,?_,rfl,(by simp),(fun c hp=>nomatch hp),(fun c hp=>nomatch hp),(fun c hp=>nomatch hp),(fun c hp=>nomatch hp)⟩
 .show s.heap.objs.size<=(((s.heap.update I f).push (bK [] 0)).push (lS s.heap.objs.size)).objs.size
  rw[Heap.size_push,Y];lia
 .intro p hp;rcases bc.mp hp with rfl|hp
  .refine up ?_;rw[←e];exact Heap.get?_update_self f h (by rw[e];exact hf)
  .rcases bc.mp hp with rfl|hp
   .exact up ((X.2 l (Ne.symm U)).trans V)
   .exact nomatch hp
 .intro p hp;rcases bc.mp hp with rfl|hp
  .exact g0
  .rcases bc.mp hp with rfl|hp
   .exact g1
   .exact nomatch hp
 .intro p hp;rcases bc.mp hp with rfl|hp
  .exact dC (aM _)
  .rcases bc.mp hp with rfl|hp
   .exact dC (iA _)
   .exact nomatch hp
 .simp
 .show (((s.heap.update I f).push (bK [] 0)).push (lS s.heap.objs.size)).objs.size=_
  rw[Heap.size_push,Y]
theorem ky:entryFor table "tuple_iterator.__next__"=some Builtin.«tuple_iterator.__next__» :=entryFor_of_tree (by kernel_rfl)
noncomputable def fu(Y iS:Nat)(x:ZV):aX prog w kt where
 A:=fun a c a a T=>⟨.builtin "list_iterator.__next__" ⟨[.ref (af (v0 c))],[]⟩,[Y,iS],[(af (v0 c),bx (ft T iS) (iO (ab T Y))),(ft T iS,du (ab T iS))],.fq,[(ah (ab T iS))[iO (ab T Y)]?=some x],[],[]⟩
 B:=fun a c N t T a=>⟨.ok (.ret x),[bx (ft T iS) (iO (ab T Y)+1),du (ab T iS)],[],N,t,0,[]⟩
 ok:=fun a c T s B pos e hp a U hn a hB a P=>by
  have W:s.heap.get? (af (v0 c))=some (bx (ft T iS) (iO (ab T Y))):=U _ (.head _)
  have V:s.heap.get? (ft T iS)=some (du (ab T iS)):=U _ (.tail _ (.head _))
  have hx:(ah (ab T iS))[iO (ab T Y)]?=some x:=hp _ (.head _)
  have e:c=.builtin "list_iterator.__next__" ⟨[.ref (af (v0 c))],[]⟩:=e
  refine bE e hB (by decide+kernel) PySem.entry_listiter_next (kr x hx) (R:=fun r X=>r=.ok (.ret x)/\X={s with heap:=s.heap.update (af (v0 c)) (Obj.mapFields (·.setIfInBounds 1 (rawInt ((iO (ab T Y):Int)+1))))}) ⟨W,V,rfl,rfl⟩ fun r X ⟨Q,h2⟩=>⟨[],Q,?_⟩
  subst h2;have S:af (v0 c)∉[(ft T iS,du (ab T iS))].map (·.1):=(cy.mp hn).1
  exact(dB (s:=s) W (um _ _) rfl (M:=[(ft T iS,du (ab T iS))]) (fun p hp=>by rcases bQ.mp hp with rfl;exact V) S 0).ret
noncomputable def qd(Y iS:Nat)(x:ZV):aX prog w kt where
 A:=fun a c a a T=>⟨.builtin "tuple_iterator.__next__" ⟨[.ref (af (v0 c))],[]⟩,[Y,iS],[(af (v0 c),gy (ft T iS) (iO (ab T Y))),(ft T iS,qA (ab T iS))],.fq,[(ah (ab T iS))[iO (ab T Y)]?=some x],[],[]⟩
 B:=fun a c N t T a=>⟨.ok (.ret x),[gy (ft T iS) (iO (ab T Y)+1),qA (ab T iS)],[],N,t,0,[]⟩
 ok:=fun a c T s B pos e hp a U hn a hB a P=>by
  have W:s.heap.get? (af (v0 c))=some (gy (ft T iS) (iO (ab T Y))):=U _ (.head _)
  have V:s.heap.get? (ft T iS)=some (qA (ab T iS)):=U _ (.tail _ (.head _))
  have hx:(ah (ab T iS))[iO (ab T Y)]?=some x:=hp _ (.head _)
  have e:c=.builtin "tuple_iterator.__next__" ⟨[.ref (af (v0 c))],[]⟩:=e
  refine bE e hB (by decide+kernel) ky (rz x hx) (R:=fun r X=>r=.ok (.ret x)/\X={s with heap:=s.heap.update (af (v0 c)) (Obj.mapFields (·.setIfInBounds 1 (rawInt ((iO (ab T Y):Int)+1))))}) ⟨W,V,rfl,rfl⟩ fun r X ⟨Q,h2⟩=>⟨[],Q,?_⟩
  subst h2;have S:af (v0 c)∉[(ft T iS,qA (ab T iS))].map (·.1):=(cy.mp hn).1
  exact(dB (s:=s) W (AR _ _) rfl (M:=[(ft T iS,qA (ab T iS))]) (fun p hp=>by rcases bQ.mp hp with rfl;exact V) S 0).ret
noncomputable def qf(Y iS:Nat):aX prog w kt where
 A:=fun a c a a T=>⟨.builtin "list_iterator.__next__" ⟨[.ref (af (v0 c))],[]⟩,[Y,iS],[(af (v0 c),bx (ft T iS) (iO (ab T Y))),(ft T iS,du (ab T iS))],.fq,[(ah (ab T iS))[iO (ab T Y)]?=none],[],[]⟩
 B:=fun a c N t T a=>⟨.error (.ref (N+1)),[jO "list_iterator" (iO (ab T Y)),du (ab T iS)],[(N,bK [] 0),(N+1,lS N)],N+2,t,0,[]⟩
 ok:=fun a c T s B pos e hp a U hn a hB a P=>by
  have W:s.heap.get? (af (v0 c))=some (bx (ft T iS) (iO (ab T Y))):=U _ (.head _)
  have V:s.heap.get? (ft T iS)=some (du (ab T iS)):=U _ (.tail _ (.head _))
  have hx:(ah (ab T iS))[iO (ab T Y)]?=none:=hp _ (.head _)
  have e:c=.builtin "list_iterator.__next__" ⟨[.ref (af (v0 c))],[]⟩:=e
  refine bE e hB (by decide+kernel) PySem.entry_listiter_next (ml hx) (R:=fun r X=>r=.error (.ref (s.heap.objs.size+1))/\X={s with heap:=((s.heap.update (af (v0 c)) (Obj.mapFields (·.setIfInBounds 0 .none))).push (bK [] 0)).push (lS s.heap.objs.size)}) ⟨rfl,W,V,rfl,rfl⟩ fun r X ⟨Q,h2⟩=>⟨[],Q,?_⟩
  subst h2;have S:af (v0 c)≠ft T iS:=fun q=>(cy.mp hn).1 (by rw[q];exact .head _)
  exact j4 (s:=s) W rfl rfl V S _
noncomputable def vx(Y iS:Nat):aX prog w kt where
 A:=fun a c a a T=>⟨.builtin "tuple_iterator.__next__" ⟨[.ref (af (v0 c))],[]⟩,[Y,iS],[(af (v0 c),gy (ft T iS) (iO (ab T Y))),(ft T iS,qA (ab T iS))],.fq,[(ah (ab T iS))[iO (ab T Y)]?=none],[],[]⟩
 B:=fun a c N t T a=>⟨.error (.ref (N+1)),[jO "tuple_iterator" (iO (ab T Y)),qA (ab T iS)],[(N,bK [] 0),(N+1,lS N)],N+2,t,0,[]⟩
 ok:=fun a c T s B pos e hp a U hn a hB a P=>by
  have W:s.heap.get? (af (v0 c))=some (gy (ft T iS) (iO (ab T Y))):=U _ (.head _)
  have V:s.heap.get? (ft T iS)=some (qA (ab T iS)):=U _ (.tail _ (.head _))
  have hx:(ah (ab T iS))[iO (ab T Y)]?=none:=hp _ (.head _)
  have e:c=.builtin "tuple_iterator.__next__" ⟨[.ref (af (v0 c))],[]⟩:=e
  refine bE e hB (by decide+kernel) ky (tS hx) (R:=fun r X=>r=.error (.ref (s.heap.objs.size+1))/\X={s with heap:=((s.heap.update (af (v0 c)) (Obj.mapFields (·.setIfInBounds 0 .none))).push (bK [] 0)).push (lS s.heap.objs.size)}) ⟨rfl,W,V,rfl,rfl⟩ fun r X ⟨Q,h2⟩=>⟨[],Q,?_⟩
  subst h2;have S:af (v0 c)≠ft T iS:=fun q=>(cy.mp hn).1 (by rw[q];exact .head _)
  exact j4 (s:=s) W rfl rfl V S _
end
section
set_option tactic.hygienic false
theorem dR.frame{V:Vw}{B:aS}{s Y:ZS}{C S X M O:ZA}{bg Q:List aQ}{Xp:List Obj}{new:ZA}{k:Nat}(H:dR V B s (C++M) bg)(P:de s Y (C++X) (S.map (·.2)++Xp) new Q k)(hC:S.map (·.1)=C.map (·.1))(G:∀p∈X,p∈M)(F:O.map (·.1)=M.map (·.1))(L:∀p∈O,p∈(X.map (·.1)).zip Xp\/(p∈M/\p.1∉X.map (·.1))):dR V B Y (S++O++new) (bg++Q):=by
 have N:(S.map (·.2)).length=C.length:=by have:=congrArg List.length hC;simpa using this
 have E:((C++X).map (·.1)).zip (S.map (·.2)++Xp)=S++(X.map (·.1)).zip Xp:=by
  rw[aL,cC (by rw[N,aB]),←hC,js]
 have upd:=P.upd
 rw[E]at upd;have K:=H.nodup
 rw[aL,eG]at K;have sub:∀a,a∈(C++X).map (·.1)->a∈(C++M).map (·.1):=fun a U=>by
  rw[aL]at U⊢;rcases bJ.mp U with U|U
  .exact dN _ U
  .obtain⟨p,hp,rfl⟩:=aZ.mp U;exact cz _ (b7 (G p hp))
 have keep:∀a o,s.heap.get? a=some o->a∉(C++M).map (·.1)->Y.heap.get? a=some o:=fun a o e q=>P.ext.frame a o e fun h=>q (sub a h)
 have addr:(S++O).map (·.1)=(C++M).map (·.1):=by rw[aL,aL,hC,F]
 have ex:∀a,a∈(C++M).map (·.1)->∃o,s.heap.get? a=some o:=fun a U=>by
  obtain⟨p,hp,rfl⟩:=aZ.mp U;exact⟨p.2,H.holds p hp⟩
 refine⟨H.W,H.hB,fun a o e=>?_,?_,?_,fun p hp=>?_,fun l T=>?_⟩
 .refine keep a o (H.kt a o e) fun Z=>?_
  obtain⟨p,hp,rfl⟩:=aZ.mp Z;rw[H.away p hp]at e;cases e
 .refine aR.app (aR.app (fun p hp=>upd p (dN _ hp)) fun p hp=>?_) P.new
  rcases L p hp with q|⟨q,J⟩
  .exact upd p (cz _ q)
  .refine P.ext.frame _ _ (H.holds p (cz _ q)) fun Z=>?_
   rw[aL]at Z;rcases bJ.mp Z with Z|Z
   .exact K.2.2 _ Z _ (b7 q) rfl
   .exact J Z
 .rw [aL,addr,eG];refine⟨H.nodup,P.nodup,fun a U b I e=>?_⟩
  subst e;obtain⟨o,R⟩:=ex a U;obtain⟨p,hp,rfl⟩:=aZ.mp I;rw[P.free p hp]at R;cases R
 .rcases bJ.mp hp with hp|hp
  .have:p.1∈(C++M).map (·.1):=by rw[←addr];exact b7 hp
   obtain⟨q,hq,e⟩:=aZ.mp this;rw[←e];exact H.away q hq
  .cases e:V.kt.get p.1 with
   |none=>rfl
   |some o=>have:=P.free p hp;rw[H.kt _ _ e]at this;cases this
 .rcases bJ.mp T with T|T
  .have z:=H.gF l T
   refine⟨fun p hp=>keep _ _ (z.holds p hp) (z.apart p hp),z.kt,fun p hp Z=>?_,z.nodup⟩
   rw[aL,addr]at Z;rcases bJ.mp Z with Z|Z
   .exact z.apart p hp Z
   .obtain⟨q,hq,e⟩:=aZ.mp Z;have:=P.free q hq
    rw[e,z.holds p hp]at this;cases this
  .refine⟨P.iF l T,fun p hp=>?_,fun p hp Z=>?_,P.d6 l T⟩
   .cases e:V.kt.get p.1 with
    |none=>rfl
    |some o=>have:=P.dU l T p hp;rw[H.kt _ _ e]at this;cases this
   .rw [aL,addr]at Z;rcases bJ.mp Z with Z|Z
    .obtain⟨o,R⟩:=ex _ Z;rw[P.dU l T p hp]at R;cases R
    .exact P.eo l T p hp Z
noncomputable def aW{α:Type}(f:Nat->α)(v:Nat)(y:α):Nat->α:=fun n=>match Nat.beq n v with
 |true=>y
 |false=>f n
section
variable{prog:Program}{w:ZW}{kt:KT}
noncomputable def SI(Z:Nat->Nat)(x:Nat):bD prog w kt:=match Nat.beq (x/256%2) 0 with
 |true=>.ld (Z (x/512%128))
 |false=>.up (Z (x/512%128))
def fy(Z:Nat->Nat)(n x:Nat):List (Nat×bD prog w kt):= @Nat.rec (fun a=>Nat->List (Nat×bD prog w kt)) (fun a=>[]) (fun a Y x=>(x%256,SI Z x)::Y (x/65536)) n x
end
noncomputable def Ce(b Z p n:Nat)(i:Nat):Nat:=match Nat.ble b i with
 |false=>i
 |true=>match Nat.ble (b+2*Z) i with
  |false=>i+2*p
  |true=>i-(b+2*Z)+(b+2*n)
noncomputable def QZ(x:Stmt):PySem.Expr:=if h:x.ctorIdx=9 then Stmt.For.elim x h fun t a a a a=>t else default
noncomputable def rS(x:Stmt):List Stmt:=if h:x.ctorIdx=9 then Stmt.For.elim x h fun a a b a a=>b else[]
noncomputable def I5(x:Stmt):List Stmt:=if h:x.ctorIdx=9 then Stmt.For.elim x h fun a a a o a=>o else[]
noncomputable def f6(st:Stmt)(it:Addr)(e:Env):Code:=.forLoop (QZ st) (.ref it) (rS st) (I5 st) e
end
section
set_option tactic.hygienic true
section
variable{prog:Program}{w:ZW}{B:aS}{s:ZS}{pos:Pos}{R:ZR}
theorem rA{id:String}{Bt:Builtin}{Z:Args}{S:PySem.Spec}(hB:topHandled B.st=none)(plain:plainId id=true)(entry:entryFor table id=some Bt)(g:MeetsIn prog w (Bt Z) S)(h:S (xo B) R s):a8 prog w B s (.builtin id Z) pos (denote table (.builtin id Z)) [] R:=hY hB (by
 refine codeAny_of_tree ?_;rw[Around.under_plainId plain];have e:(model prog w).den (.builtin id Z)=Bt Z:=by
  show(match entryFor table id with|some b=>b Z|none=>unsupported ((withoutEnding? id "#data").getD id))=_
  rw[entry]
 rw[e];exact g (xo B) R s h)
theorem bR{c:Code}{id:String}{Bt:Builtin}{args:Args}{S:PySem.Spec}(e:c=.builtin id args)(hB:topHandled B.st=none)(plain:plainId id=true)(entry:entryFor table id=some Bt)(g:MeetsIn prog w (Bt args) S){R:ZR}(h:S (xo B) R s){Q:ZR}(k:∀r Z,R r Z->Q r Z):a8 prog w B s c pos (denote table c) [] Q:=by subst e;exact(rA hB plain entry g h).mono k
end
abbrev IE:=Int×Tok×ZV
noncomputable def jP(e:IE):DictEntry:=⟨hashInt e.1,.int e.1 e.2.1,e.2.2⟩
noncomputable def a9(l:List IE)(ep:Nat):Obj:=gj (l.map jP) ep
noncomputable def aG:List IE->Int->Option ZV
 |[],_=>none
 |e::l,k=>if e.1=k then some e.2.2 else aG l k
noncomputable def zP:List IE->Int->ZV->List IE
 |[],_,_=>[]
 |e::l,k,v=>if e.1=k then(e.1,e.2.1,v)::l else e::zP l k v
noncomputable def iI:List IE->Int->List IE
 |[],_=>[]
 |e::l,k=>if e.1=k then l else e::iI l k
theorem iV(l:List IE):IntKeys ⟨l.map jP⟩:=fun e he=>by
 simp only[List.mem_toArray,List.mem_map]at he;obtain⟨x,_,rfl⟩:=he;exact⟨x.1,x.2.1,rfl,rfl⟩
theorem jt(k:Int)(e:IE):Value.isInt k (jP e).key=decide (e.1=k):=by
 show(e.1==k)=_
 by_cases h:e.1=k<;>simp[h]
theorem AS(l:List IE)(k:Int):findBy Value.isInt ⟨l.map jP⟩ k=aG l k:=by
 unfold findBy;rw[List.find?_toArray];induction l with
 |nil=>rfl
 |cons e l Z=>
  rw[dw,List.find?_cons,jt];unfold aG
  by_cases h:e.1=k
  .simp [h,jP]
  .simp only[h,decide_false,if_false];exact Z
theorem y0{l:List IE}{k:Int}(h:aG l k=none):((⟨l.map jP⟩:Array DictEntry).findIdx? fun e=>Value.isInt k e.key)=none:=by
 rw[Array.findIdx?_eq_none_iff];intro e he;simp only[List.mem_toArray,List.mem_map]at he;obtain⟨x,hx,rfl⟩:=he;rw[jt];induction l with
 |nil=>cases hx
 |cons y l Z=>
  unfold aG at h;split at h
  .cases h
  .rename_i Y;rcases bc.mp hx with rfl|hx
   .simp [Y]
   .exact Z h hx
theorem vy{l:List IE}{k:Int}{Z:ZV}(v:ZV)(h:aG l k=some Z):∃i,((⟨l.map jP⟩:Array DictEntry).findIdx? fun e=>Value.isInt k e.key)=some i/\((⟨l.map jP⟩:Array DictEntry).modify i fun e=>{e with val:=v})=⟨(zP l k v).map jP⟩/\
  ((⟨l.map jP⟩:Array DictEntry).eraseIdxIfInBounds i)=⟨(iI l k).map jP⟩/\(⟨l.map jP⟩:Array DictEntry)[i]?.map (·.val)=some Z:=by
 induction l with
 |nil=>cases h
 |cons e l W=>
  unfold aG at h
  by_cases he:e.1=k
  .rw [if_pos he]at h;refine⟨0,?_,?_,?_,?_⟩
   .simp [List.findIdx?_cons,jt,he]
   .apply gb.mp;simp[zP,he,jP,List.modify]
   .apply gb.mp;simp[iI,he]
   .simpa [jP]using h
  .rw [if_neg he]at h;obtain⟨i,U,h2,V,Y⟩:=W h;have X:List.findIdx? (fun e=>Value.isInt k e.key) (l.map jP)=some i:=by simpa using U
   have lt:i<l.length:=by
    rcases mM i l.length with q|q
    .exact q
    .exfalso;have:(⟨l.map jP⟩:Array DictEntry)[i]?=none:=by simp;exact String.Pos.Raw.mk_le_mk.mp q
     rw[this]at Y;cases Y
   refine⟨i+1,?_,?_,?_,?_⟩
   .simp only[List.map_cons,List.findIdx?_toArray,List.findIdx?_cons,jt,he,decide_false];rw[X];rfl
   .have:=congrArg Array.toList h2
    apply gb.mp;simp only[List.modify_toArray,List.map_cons,List.modify_succ_cons]at this⊢;unfold zP;rw[if_neg he];simp only[List.map_cons];rw[this]
   .have:=congrArg Array.toList V
    apply gb.mp;unfold iI;rw[if_neg he];simp only[Array.eraseIdxIfInBounds,List.size_toArray,List.length_map,List.length_cons,lt,dif_pos,List.map_cons,Nat.add_lt_add_iff_right]at this⊢;simp only[List.eraseIdx_toArray,List.eraseIdx_cons_succ]at this⊢;rw[this]
   .simpa using Y
section
variable{w:ZW}
theorem L6(w:ZW):∃o,(kp w).get sysModules=some o:=by
 have:((kp w).get sysModules).isSome=true:=by kernel_rfl
 exact wD.mp this
theorem rT{w:ZW}{d:Addr}(h:(kp w).get d=none):(d==sysModules)=false:=by
 cases q:d==sysModules with
 |false=>rfl
 |true=>
  have:d=sysModules:=eq_of_beq q
  obtain⟨o,e⟩:=L6 w;rw[this,e]at h;cases h
theorem eO{s:ZS}{d:Addr}{l:List IE}{ep:Nat}(h:s.heap.get? d=some (a9 l ep)):s.heap.MapOf (intKind pg w) d (aG l):=Heap.IntMap.mapOf (prog:=pg) (w:=w) ⟨_,_,ep,h,rfl,rfl,iV l,AS l⟩ (fun o e=>by rw[h]at e;cases e;exact⟨rfl,rfl⟩)
noncomputable def kU(ix:Nat)(l:List IE)(ep:Nat)(r:Option ZV):aX pg w (kp w)where
 A:=fun a c a a T=>⟨.builtin "dict.get" ⟨[.ref (af (v0 c)),.int (ak (v1 c)) (ao (v1 c))],[]⟩,[ix],[(af (v0 c),a9 l ep)],.fq,[aG l (ak (v1 c))=r],[],[]⟩
 B:=fun a c N t T a=>⟨.ok (.ret (r.getD .none)),[a9 l ep],[],N,t+1,0,[]⟩
 ok:=fun a c T s B pos e hp a U hn V hB a Q=>by
  have X:s.heap.get? (af (v0 c))=some (a9 l ep):=U _ (.head _)
  have W:aG l (ak (v1 c))=r:=hp _ (.head _)
  have e:c=.builtin "dict.get" ⟨[.ref (af (v0 c)),.int (ak (v1 c)) (ao (v1 c))],[]⟩:=e
  refine bR e hB (by decide+kernel) PySem.F.entry_dict_get (meets_dict_get (intKind pg w) (af (v0 c)) (intKind_is pg w (ak (v1 c)) (ao (v1 c))) (rT (V _ (.head _)))) (R:=fun Y Z=>Y=.ok (.ret (r.getD .none))/\Z={s with toks:=s.toks+1}) ⟨_,eO X,by rw[W],rfl⟩ fun Y Z ⟨S,h2⟩=>⟨[],S,?_⟩
  subst h2;exact(dW s 1 (.ok .next) (af (v0 c),a9 l ep) X).ret
noncomputable def v2(c:Code):ZV:=(rO c).getD 2 .none
noncomputable def rU(ix:Nat)(l:List IE)(ep:Nat)(r:Option ZV):aX pg w (kp w)where
 A:=fun a c a a T=>⟨.builtin "dict.get" ⟨[.ref (af (v0 c)),.int (ak (v1 c)) (ao (v1 c)),v2 c],[]⟩,[ix],[(af (v0 c),a9 l ep)],.fq,[aG l (ak (v1 c))=r],[],[]⟩
 B:=fun a c N t T a=>⟨.ok (.ret (r.getD (v2 c))),[a9 l ep],[],N,t+1,0,[]⟩
 ok:=fun a c T s B pos e hp a U hn V hB a Q=>by
  have X:s.heap.get? (af (v0 c))=some (a9 l ep):=U _ (.head _)
  have W:aG l (ak (v1 c))=r:=hp _ (.head _)
  have e:c=.builtin "dict.get" ⟨[.ref (af (v0 c)),.int (ak (v1 c)) (ao (v1 c)),v2 c],[]⟩:=e
  refine bR e hB (by decide+kernel) PySem.F.entry_dict_get (meets_dict_get_default (intKind pg w) (af (v0 c)) (intKind_is pg w (ak (v1 c)) (ao (v1 c))) (rT (V _ (.head _))) (v2 c)) (R:=fun Y Z=>Y=.ok (.ret (r.getD (v2 c)))/\Z={s with toks:=s.toks+1}) ⟨_,eO X,by rw[W],rfl⟩ fun Y Z ⟨S,h2⟩=>⟨[],S,?_⟩
  subst h2;exact(dW s 1 (.ok .next) (af (v0 c),a9 l ep) X).ret
noncomputable def jQ(ix:Nat)(l:List IE)(ep:Nat)(v:ZV):aX pg w (kp w)where
 A:=fun a c a a T=>⟨.builtin "dict.__getitem__" ⟨[.ref (af (v0 c)),.int (ak (v1 c)) (ao (v1 c))],[]⟩,[ix],[(af (v0 c),a9 l ep)],.fq,[aG l (ak (v1 c))=some v],[],[]⟩
 B:=fun a c N t T a=>⟨.ok (.ret v),[a9 l ep],[],N,t+1,0,[]⟩
 ok:=fun a c T s B pos e hp a V hn Q hB a S=>by
  have X:s.heap.get? (af (v0 c))=some (a9 l ep):=V _ (.head _)
  have W:aG l (ak (v1 c))=some v:=hp _ (.head _)
  have e:c=.builtin "dict.__getitem__" ⟨[.ref (af (v0 c)),.int (ak (v1 c)) (ao (v1 c))],[]⟩:=e
  refine bR e hB (by decide+kernel) PySem.entry_dict_getitem (meets_dict_getitem (intKind pg w) (af (v0 c)) (intKind_is pg w (ak (v1 c)) (ao (v1 c)))) (R:=fun Y Z=>Y=.ok (.ret v)/\Z={s with toks:=s.toks+1}) ⟨_,v,eO X,W,rfl,rfl⟩ fun Y Z ⟨U,h2⟩=>⟨[],U,?_⟩
  subst h2;exact(dW s 1 (.ok .next) (af (v0 c),a9 l ep) X).ret
noncomputable def Cf(ix:Nat)(l:List IE)(ep:Nat)(b:Bool):aX pg w (kp w)where
 A:=fun a c a a T=>⟨.builtin "dict.__contains__" ⟨[.ref (af (v0 c)),.int (ak (v1 c)) (ao (v1 c))],[]⟩,[ix],[(af (v0 c),a9 l ep)],.fq,[(aG l (ak (v1 c))).isSome=b],[],[]⟩
 B:=fun a c N t T a=>⟨.ok (.ret (.bool b)),[a9 l ep],[],N,t+1,0,[]⟩
 ok:=fun a c T s B pos e hp a U hn V hB a Q=>by
  have X:s.heap.get? (af (v0 c))=some (a9 l ep):=U _ (.head _)
  have W:(aG l (ak (v1 c))).isSome=b:=hp _ (.head _)
  have e:c=.builtin "dict.__contains__" ⟨[.ref (af (v0 c)),.int (ak (v1 c)) (ao (v1 c))],[]⟩:=e
  refine bR e hB (by decide+kernel) PySem.entry_dict_contains (meets_dict_contains (intKind pg w) (af (v0 c)) (intKind_is pg w (ak (v1 c)) (ao (v1 c))) (rT (V _ (.head _)))) (R:=fun Y Z=>Y=.ok (.ret (.bool b))/\Z={s with toks:=s.toks+1}) ⟨_,eO X,by rw[W],rfl⟩ fun Y Z ⟨S,h2⟩=>⟨[],S,?_⟩
  subst h2;exact(dW s 1 (.ok .next) (af (v0 c),a9 l ep) X).ret
theorem mz{A:Around}{E:ZV->ZS->Prop}{s:ZS}{d:Addr}{l:List IE}{ep:Nat}{k:Int}{t:Tok}{v:ZV}{Q:Unit->ZS->Prop}(Z:s.heap.get? d=some (a9 l ep))(hn:aG l k=none)(Y:l.length<=1000)(h:Q () {s with heap:=s.heap.update d (Obj.mapDictKeys (·.push ⟨hashInt k,.int k t,v⟩)),toks:=s.toks+1}):wpAny (model pg w) A (dictSet d (.int k t) v) Q E s:=by
 unfold dictSet
 try with_reducible refine wpAny_holding ?_
 refine wpAny_bind (wpAny_pyHash_int ?_);unfold dictSetHashed
 try with_reducible refine wpAny_holding ?_
 refine wpAny_bind (wpAny_dictFind_int (s:={s with toks:=s.toks+1}) Z rfl (iV l) ?_)
 rw[y0 hn];exact wpAny_bind (wpAny_rule (wpAny_updateDictKeys (hz:=by simp[sizeLine];lia) (s:={s with toks:=s.toks+1}) Z rfl h))
noncomputable def mX(ix:Nat)(l:List IE)(ep:Nat):aX pg w (kp w)where
 A:=fun a c a a T=>⟨.builtin "dict.__setitem__" ⟨[.ref (af (v0 c)),.int (ak (v1 c)) (ao (v1 c)),v2 c],[]⟩,[ix],[(af (v0 c),a9 l ep)],.fq,[aG l (ak (v1 c))=none,l.length<=1000],[],[]⟩
 B:=fun a c N t T a=>⟨.ok (.ret .none),[a9 (l++[(ak (v1 c),ao (v1 c),v2 c)]) (ep+1)],[],N,t+1,0,[]⟩
 ok:=fun a c T s B pos e hp a U hn P hB a Q=>by
  have Z:s.heap.get? (af (v0 c))=some (a9 l ep):=U _ (.head _)
  have V:aG l (ak (v1 c))=none:=hp _ (.head _)
  have W:l.length<=1000:=hp _ (.tail _ (.head _))
  have e:c=.builtin "dict.__setitem__" ⟨[.ref (af (v0 c)),.int (ak (v1 c)) (ao (v1 c)),v2 c],[]⟩:=e
  have hT:s.TypeIs (.ref (af (v0 c))) "dict":=(eO (w:=w) Z).typeIs
  have g:MeetsIn pg w (Builtin.«dict.__setitem__» ⟨[.ref (af (v0 c)),.int (ak (v1 c)) (ao (v1 c)),v2 c],[]⟩) (fun a R s=>s.heap.get? (af (v0 c))=some (a9 l ep)/\R (.ok (.ret .none)) {s with heap:=s.heap.update (af (v0 c)) (Obj.mapDictKeys (·.push ⟨hashInt (ak (v1 c)),.int (ak (v1 c)) (ao (v1 c)),v2 c⟩)),toks:=s.toks+1}):=.of_wp fun A R s ⟨Z,h⟩=>by
    show wpAny _ _ (Builtin.Dict.notOrdered "__setitem__" ⟨[.ref (af (v0 c)),.int (ak (v1 c)) (ao (v1 c)),v2 c],[]⟩>>=_) _ _ s
    refine wpAny_bind (wpAny_notOrdered_dict (eO (w:=w) Z).typeIs ?_);show wpAny _ _ (dictSet (af (v0 c)) (.int (ak (v1 c)) (ao (v1 c))) (v2 c)>>=_) _ _ s
    exact wpAny_bind (mz Z V W (wpAny_pure ⟨.none,rfl,h⟩))
  refine bR e hB (by decide+kernel) PySem.entry_dict_setitem g (R:=fun X Y=>X=.ok (.ret .none)/\Y=_) ⟨Z,rfl,rfl⟩ fun X Y ⟨S,h2⟩=>⟨[],S,?_⟩
  subst h2;exact(dB (s:=s) (f:=Obj.mapDictKeys (·.push ⟨hashInt (ak (v1 c)),.int (ak (v1 c)) (ao (v1 c)),v2 c⟩)) (o':=a9 (l++[(ak (v1 c),ao (v1 c),v2 c)]) (ep+1)) Z (by
   simp[a9,gj,Obj.mapDictKeys,jP]) rfl (M:=[]) (bH _) (by simp) 1).ret
end
end
end
set_option tactic.hygienic false
theorem Ct.AU{w:ZW}(C:Ct pg w (kp w)){M:aQ}(S:C.bg=[M]){ks:List K}(J:C.W=.kinds ks)(U:ks.all i6=true)(Y:Nat->Nat->ZH w)(Z:ZN){r:ZL->Nat->Nat->Result}{post:ZL->Nat->Nat->List Obj}{new:ZL->Nat->Nat->ZA}{dn:ZL->Nat->Nat->List aQ}{N' t':ZL->Nat->Nat->Nat}{ps:ZL->Nat->Nat->List Prop}(H:aO C.P->∀(σ:Nat->Sk) (fr:ZL) (pos:Pos) (N t:Nat) (G:ZG),
   (gg (aq ⟨pg,w,kp w,Wk σ ks,none⟩ (Y N t) fr C.code pos (C.L++M) [] N t G),dx (List.range (C.L++M).length++Z) (aq ⟨pg,w,kp w,Wk σ ks,none⟩ (Y N t) fr C.code pos (C.L++M) [] N t G),fP (aq ⟨pg,w,kp w,Wk σ ks,none⟩ (Y N t) fr C.code pos (C.L++M) [] N t G))=
   (gh (aq ⟨pg,w,kp w,Wk σ ks,none⟩ (Y N t) fr C.code pos (C.L++M) [] N t G),some (r fr N t,(((C.L++M).map (·.1)).zip (post fr N t++M.map (·.2))++new fr N t).map some,N' fr N t,t' fr N t,G,List.replicate C.ng GenState.finished,ps fr N t),[]++dn fr N t))(hp:aO C.P->∀fr N t,aO (ps fr N t))(O:∀fr N t,∃g,r fr N t=C.r g/\post fr N t=C.post g/\new fr N t=C.new g/\dn fr N t=C.fs g)(R:∀fr N t,(post fr N t).length=C.L.length)(hx:∀fr N t,Z.length=(new fr N t).length)(T:(Z.all fun x=>Nat.ble (C.L++M).length x)=true)(X:eF Z=true):C.Holds:=by
 intro s B pos A;have Q:=A.W
 rw[J]at Q;obtain⟨σ,e⟩:=l3 U (show B6 B.W ks=true from Q)
 have h0:=A.here _ e
 rw[S]at h0;have I:=(h0.gF M (.head _)).holds
 have h:=ug (V:=⟨pg,w,kp w,Wk σ ks,none⟩) (h0.opened (.head _)) (fun fr=>H A.P σ fr pos (zN s) s.toks s.gens) (fun fr=>hp A.P fr _ _) (fun fr=>by simp[R]) (fun fr=>hx fr _ _) (allB T) (zH X)
 refine h.mono fun z D ⟨fr,E,P⟩=>?_
 obtain⟨g,g1,g2,g3,F⟩:=O fr s.heap.objs.size s.toks;refine⟨g,E.trans g1,?_⟩;have P:=P.same I (R fr _ _)
 rw[←g2,←g3,←F];exact P
structure aK where
 a:Addr
 u:Nat
 tu:Tok
 w:Nat
 tw:Tok
noncomputable def aK.led(r:aK):Addr×Obj:=(r.a,bK [.int r.u r.tu,.int r.w r.tw] 0)
noncomputable def bh(rs:List aK):ZY:=rs.map fun r=>.ref r.a
noncomputable def bB(rs:List aK):ZY:=rs.map fun r=>.int r.u r.tu
def eK(w:ZW)(i:Nat):Stmt:=(aH (jJ w.params)).getD i default
def wR(w:ZW)(i:Nat):Stmt:=(aH (sV w.params)).getD i default
noncomputable def Ac(x:Stmt):PySem.Expr:=if h:x.ctorIdx=24 then Stmt.Expr.elim x h fun v a=>v else if h:x.ctorIdx=5 then Stmt.Assign.elim x h fun a v a=>v else if h:x.ctorIdx=3 then Stmt.Return.elim x h fun v a=>v.getD default else if h:x.ctorIdx=12 then Stmt.If.elim x h fun t a a a=>t else if h:x.ctorIdx=11 then Stmt.While.elim x h fun t a a a=>t else default
noncomputable def Wt(x:PySem.Expr):List PySem.Expr:=if h:x.ctorIdx=16 then PySem.Expr.Call.elim x h fun b a b b=>a else[]
noncomputable def Wu(x:PySem.Expr):PySem.Expr:=if h:x.ctorIdx=22 then PySem.Expr.Starred.elim x h fun v a=>v else default
noncomputable def L7(x:PySem.Expr):Comprehension:=if h:x.ctorIdx=8 then PySem.Expr.ListComp.elim x h fun a g a a=>g.getD 0 ⟨default,default,[],0⟩else⟨default,default,[],0⟩
noncomputable def L8(x:PySem.Expr):PySem.Expr:=if h:x.ctorIdx=8 then PySem.Expr.ListComp.elim x h fun e a a a=>e else default
noncomputable def oL(x:PySem.Expr):Scope:=if h:x.ctorIdx=8 then PySem.Expr.ListComp.elim x h fun a a s a=>s else if h:x.ctorIdx=11 then PySem.Expr.GeneratorExp.elim x h fun a a s a=>s else default
noncomputable def EW(e:PySem.Expr):PySem.Expr:=(L7 e).ifs.headD default
noncomputable def UM(x:PySem.Expr):PySem.Expr:=if h:x.ctorIdx=15 then PySem.Expr.Compare.elim x h fun l a a a=>l else default
noncomputable def Wv(x:PySem.Expr):PySem.Expr:=if h:x.ctorIdx=15 then PySem.Expr.Compare.elim x h fun a a r a=>r.headD default else default
noncomputable def Cg(e:PySem.Expr)(L:Addr)(p:Env):Env:={scope:=oL e,locals:=L,globals:=p.globals,cells:=[],qual:=p.qual,func:=none,code:=p.code,frame:=p.frame,builtins:=p.builtins}
def bz(w:ZW)(W X Y Z:Addr):Env:=eB 961 (jJ w.params) W [(⟨⟨[116,97,107,101,110]⟩⟩,Z),(⟨⟨[115,116,101,112,115]⟩⟩,Y),(⟨⟨[110,101,101,100,115]⟩⟩,X)]
def UN(w:ZW):Bool->PySem.Expr
 |true=>Wu ((Wt (Ac ((rS (eK w 2)).headD default))).getD 1 default)
 |false=>Wv (EW (UM (EW (Ac ((rS (wR w 2)).headD default)))))
noncomputable def UO:Bool->List K
 |true=>[.fo,.fn,.cl]
 |false=>[.cmp,.cmp,.fo,.fn,.cmp,.fn,.cl]
def Ww(w:ZW):Nat->ZH w
 |0=>h2 w (jn [dz 0x520f030801c0ca,[(0,.fin)]]) (jn [dz 0x520f030801c004,[(0,.fin)]])
 |1=>h2 w (jn [dz 0x58b6f4142109db0f010801c0ca,[(0,.fin)]]) (jn [dz 0x58b6f4142109db0f010801c004,[(0,.fin)]])
 |2=>h2 w (jn [dz 0x42b6b4ca,[(0,.fin)]]) (jn [dz 0x42b6b404,[(0,.fin)]])
 |3=>h2 w (jn [dz 0x39b6d9ca,[(0,.fin)]]) (jn [dz 0x39b6d904,[(0,.fin)]])
 |4=>h2 w (jn [dz 0x4fb62b2b22222ab3d9ca,[(0,.fin)]]) (jn [dz 0x4fb62b2b22222ab3d904,[(0,.fin)]])
 |5=>h2 w (jn [dz 0x5fb6b9ca,[(0,.fin)]]) (jn [dz 0x5fb6b904,[(0,.fin)]])
 |6=>h2 w (jn [dz 0x60b6d8ca,[(0,.fin)]]) (jn [dz 0x60b6d804,[(0,.fin)]])
 |_=>h2 w (jn [dz 0x69b61c1c1b1b3fb3d8ca,[(0,.fin)]]) (jn [dz 0x69b61c1c1b1b3fb3d804,[(0,.fin)]])
noncomputable def UP(P:Params)(rs:List aK)(t:Tok):Obj:=match rs with
 |[]=>gj [] 0
 |r::rs=>gj [dE P [110,101,101,100] t (.ref ((r::rs).getLastD r).a)] 1
def EY(w:ZW)(b:Bool)(p:Env)(L Z AC LS:Addr)(rs:List aK)(ep:Nat):Ct pg w (kp w)where
 code:=.compStart (UN w b) 0 (.ref Z) (.ref AC) (Cg (UN w b) L p)
 L:=[(L,gj [] 0),(Z,bx LS 0),(AC,ae [] 0),(LS,ae (bh rs) ep)]
 W:=.kinds (UO b)
 bg:=[rs.map aK.led]
 P:=[rs.length<=7]
 r:=fun a=>.ok .next
 post:=fun g=>[UP w.params rs (g.getD 0 0),jO "list_iterator" rs.length,ae (bB rs) rs.length,ae (bh rs) ep]
 new:=fun a=>[]
 fs:=fun a=>[]
 ng:=0
theorem FL(w:ZW)(b:Bool)(p:Env)(L Z AC LS:Addr)(rs:List aK)(ep:Nat):(EY w b p L Z AC LS rs ep).Holds:=by
 refine Ct.AU (EY w b p L Z AC LS rs ep) (M:=rs.map aK.led) rfl (ks:=UO b) rfl (by cases b<;>rfl) (fun a a=>Ww w rs.length) [] (r:=fun a a a=>.ok .next) (post:=fun a a t=>[UP w.params rs t,jO "list_iterator" rs.length,ae (bB rs) rs.length,ae (bh rs) ep]) (new:=fun a a a=>[]) (dn:=fun a a a=>[])
  (N':=fun a N a=>N+2) (t':=fun a a t=>t+2*rs.length) (ps:=fun a a a=>[]) ?_ (fun a a a a=>aj) (fun a a t=>⟨[t],rfl,rfl,rfl,rfl⟩) (fun a a a=>rfl) (fun a a a=>rfl) rfl rfl
 intro hp σ fr pos N t G;have Y:rs.length<=7:=hp.head
 clear hp;apply c5 Y;apply uk b;apply h9 w;kernel_rfl
section
open PySem.F
section
set_option tactic.hygienic false
section
variable{prog:Program}{w:ZW}{kt:KT}
noncomputable def uo(ep:Nat):ZY->Nat
 |[]=>ep
 |_::_=>ep+1
theorem i3(xs Z:ZY)(ep:Nat):Obj.mapSeq (fun x=>x++(⟨Z⟩:Array ZV)) (ae xs ep)=ae (xs++Z) (uo ep Z):=by
 show(⟨_,_,.seq ((⟨xs⟩:Array ZV)++⟨Z⟩) (if((⟨xs⟩:Array ZV)++⟨Z⟩).size==(⟨xs⟩:Array ZV).size then ep else ep+1),_⟩:Obj)=_
 have e:((⟨xs⟩:Array ZV)++⟨Z⟩)=⟨xs++Z⟩:=by simp
 rw[e];cases Z with
 |nil=>simp[ae,uo]
 |cons y Z=>simp[ae,uo]
theorem iW{s:ZS}{l m:Addr}{o Z p:Obj}{f:Obj->Obj}(h:s.heap.get? l=some o)(Y:s.heap.get? m=some p)(e:f o=Z)(hf:Z.isFreed=false)(X:l≠m)(r:Result):cf s {s with heap:=s.heap.update l f} [(l,o),(m,p)] ⟨r,[Z,p],[],s.heap.objs.size,s.toks,0,[]⟩:=(dB (s:=s) h e hf (M:=[(m,p)]) (fun q hq=>by rcases bQ.mp hq with rfl;exact Y) (by simpa using X) 0).ret
theorem tooLong{xs Z:ZY}(h:xs.length+Z.length<=16777216):¬(!(⟨xs⟩:Array ZV).isEmpty&&Builtin.List.listTooLong ((⟨xs⟩:Array ZV).size+(⟨Z⟩:Array ZV).size))=true:=by
 have:Builtin.List.listTooLong ((⟨xs⟩:Array ZV).size+(⟨Z⟩:Array ZV).size)=false:=by
  simp[Builtin.List.listTooLong,sizeLine];lia
 rw[this];simp
noncomputable def iJ(Y Z:Nat):aX prog w kt where
 A:=fun a c a a T=>⟨.builtin "list.__iadd__" ⟨[.ref (af (v0 c)),.ref (af (v1 c))],[]⟩,[Y,Z],[(af (v0 c),du (ab T Y)),(af (v1 c),du (ab T Z))],.fq,[(ah (ab T Y)).length+(ah (ab T Z)).length<=16777216],[],[]⟩
 B:=fun a c N t T a=>⟨.ok (.ret (.ref (af (v0 c)))),[ae (ah (ab T Y)++ah (ab T Z)) (uo (eU (ab T Y)) (ah (ab T Z))),du (ab T Z)],[],N,t,0,[]⟩
 ok:=fun a c T s B pos e hp a S hn a hB a O=>by
  have V:s.heap.get? (af (v0 c))=some (du (ab T Y)):=S _ (.head _)
  have U:s.heap.get? (af (v1 c))=some (du (ab T Z)):=S _ (.tail _ (.head _))
  have X:(ah (ab T Y)).length+(ah (ab T Z)).length<=16777216:=hp _ (.head _)
  have Q:af (v0 c)≠af (v1 c):=fun q=>(cy.mp hn).1 (by rw[q];exact .head _)
  have e:c=.builtin "list.__iadd__" ⟨[.ref (af (v0 c)),.ref (af (v1 c))],[]⟩:=e
  refine bE e hB (by decide+kernel) PySem.F.entry_list_iadd (PySem.AutoSeq1.list___iadd___list_list_0 (af (v0 c)) ⟨ah (ab T Y)⟩ (eU (ab T Y)) (af (v1 c)) ⟨ah (ab T Z)⟩ (eU (ab T Z)) (tooLong X) (by simp[sizeLine];exact pd X) (by simp[sizeLine];exact j2 X))
   (R:=fun r W=>r=.ok (.ret (.ref (af (v0 c))))/\W={s with heap:=s.heap.update (af (v0 c)) (Obj.mapSeq fun x=>x++(⟨ah (ab T Z)⟩:Array ZV))}) ⟨V,U,rfl,rfl⟩ fun r W ⟨P,h2⟩=>⟨[],P,?_⟩
  subst h2;exact iW V U (i3 _ _ _) rfl Q _
noncomputable def I6(Y Z:Nat):aX prog w kt where
 A:=fun a c a a T=>⟨.builtin "list.extend" ⟨[.ref (af (v0 c)),.ref (af (v1 c))],[]⟩,[Y,Z],[(af (v0 c),du (ab T Y)),(af (v1 c),du (ab T Z))],.fq,[(ah (ab T Y)).length+(ah (ab T Z)).length<=16777216],[],[]⟩
 B:=fun a c N t T a=>⟨.ok (.ret .none),[ae (ah (ab T Y)++ah (ab T Z)) (uo (eU (ab T Y)) (ah (ab T Z))),du (ab T Z)],[],N,t,0,[]⟩
 ok:=fun a c T s B pos e hp a S hn a hB a O=>by
  have V:s.heap.get? (af (v0 c))=some (du (ab T Y)):=S _ (.head _)
  have U:s.heap.get? (af (v1 c))=some (du (ab T Z)):=S _ (.tail _ (.head _))
  have X:(ah (ab T Y)).length+(ah (ab T Z)).length<=16777216:=hp _ (.head _)
  have Q:af (v0 c)≠af (v1 c):=fun q=>(cy.mp hn).1 (by rw[q];exact .head _)
  have e:c=.builtin "list.extend" ⟨[.ref (af (v0 c)),.ref (af (v1 c))],[]⟩:=e
  refine bE e hB (by decide+kernel) PySem.F.entry_list_extend (PySem.AutoSeq1.list_extend_list_list_0 (af (v0 c)) ⟨ah (ab T Y)⟩ (eU (ab T Y)) (af (v1 c)) ⟨ah (ab T Z)⟩ (eU (ab T Z)) (tooLong X) (by simp[sizeLine];exact pd X) (by simp[sizeLine];exact j2 X))
   (R:=fun r W=>r=.ok (.ret .none)/\W={s with heap:=s.heap.update (af (v0 c)) (Obj.mapSeq fun x=>x++(⟨ah (ab T Z)⟩:Array ZV))}) ⟨V,U,rfl,rfl⟩ fun r W ⟨P,h2⟩=>⟨[],P,?_⟩
  subst h2;exact iW V U (i3 _ _ _) rfl Q _
end
def Ad(w:ZW)(b:Bool)(p:Env)(rs:List aK)(ep:Nat)(V Y X Z W:Nat):aX pg w (kp w):=Ct.ai (fun z:Addr×Addr×Addr×Addr=>EY w b p z.1 z.2.1 z.2.2.1 z.2.2.2 rs ep) (fun z=>FL w b p _ _ _ _ rs ep) (fun a a a a T=>(ft T V,ft T Y,ft T X,ft T Z)) [V,Y,X,Z] [W]
end
end
section
set_option tactic.hygienic false
noncomputable def wU(V:Vw)(Z:ZN):ay->Option (Option (Code×ZC)×Option (Option ZV)×List (Option (Addr×Obj))×Nat×Nat×ZG×List GenState×List Prop)
 |.stop c pos t own T _ N j tk i G gl _ _ ps=>(kP c pos t own).map fun z=>(some (z.callee,(z.c,z.pos)::(z.own.map Frame.where_++V.W)),uc (.ret z.k z.h z.g z.l z.c z.pos z.kp::z.own) V.hb,Z.map T.get,N+j,tk+i,G,gl,ps)
 |_=>none
section
variable{V:Vw}{B:aS}{s:ZS}{Z:List Addr}{Y:Nat}{R:ZR}{L:ZA}{bg:List aQ}
theorem tT{out:ay}{hQ:ZN}{c:Code}{W':ZC}{vz:Option ZV}{es:ZA}{N t:Nat}{G:ZG}{gl:List GenState}{ps:List Prop}(h:(gg out,wU V hQ out)=(gh out,some (some (c,W'),some vz,es.map some,N,t,G,gl,ps)))(hp:aO ps)(k:∀S,p8 V.kt s Z Y hQ es N t (G++gl.toArray) (fP out) S->((bp out).c,(bp out).pos)::((bp out).own.map Frame.where_++V.W)=W'->uc (.ret (bp out).k (bp out).h (bp out).g (bp out).l (bp out).c (bp out).pos (bp out).kp::(bp out).own) V.hb=some vz->
   ∃M:ZR,a8 V.prog V.w ⟨(bp out).k,(bp out).h,(bp out).g,(bp out).l,(bp out).c,(bp out).pos,(bp out).kp,(bp out).own++B.st⟩ S c (bp out).p0 (denote table c) [] M/\∀r U,M r U->a8 V.prog V.w B U (bp out).c (bp out).pos ((bp out).k r) (bp out).own R):bq V B s Z Y R out:=by
 obtain⟨A,h2⟩:=Prod.mk.inj h;cases out with
 |err n=>exact nS h2
 |fin=>exact nS h2
 |tail=>exact nS h2
 |stop C pos' t' X T m N' j tk i y P O ob Q=>
  obtain⟨z,q,h2⟩:=mK.mp h2;rw[show bp (.stop C pos' t' X T m N' j tk i y P O ob Q)=z by show(kP C pos' t' X).getD _=z;rw[q];rfl]at k
  have h2:=Prod.mk.inj h2
  have E:=Prod.mk.inj h2.2
  have F:=Prod.mk.inj E.2
  have H:=Prod.mk.inj F.2
  have I:=Prod.mk.inj H.2
  have J:=Prod.mk.inj I.2
  have K:=Prod.mk.inj J.2
  have L:=Prod.mk.inj (Option.some.inj h2.1)
  refine⟨jj A,K.2.symm▸hp,fun S D=>(k S (H.1▸I.1▸J.1▸K.1▸oy D F.1) L.2 E.1).elim fun M k=>?_⟩
  rw[←L.1]at k;exact yV q k.1 k.2
theorem tU{R:ZR}{hs:List (Nat×bD V.prog V.w V.kt)}{c:Code}{pos:Pos}{X:ZE}{own:List Frame}{W':ZC}{vz:Option ZV}{callee:ZL->Code}{S:ZN}{post:ZL->List Obj}{new:ZL->ZA}{dn:ZL->List aQ}{N t:ZL->Nat}{ng:Nat}{ps:ZL->List Prop}(h:dR V B s L bg)(H:∀fr:ZL,(gg (cu V hs fr c pos X own L bg s.heap.objs.size s.toks s.gens),wU V (List.range L.length++S) (cu V hs fr c pos X own L bg s.heap.objs.size s.toks s.gens),fP (cu V hs fr c pos X own L bg s.heap.objs.size s.toks s.gens))=
   (gh (cu V hs fr c pos X own L bg s.heap.objs.size s.toks s.gens),some (some (callee fr,W'),some vz,((L.map (·.1)).zip (post fr)++new fr).map some,N fr,t fr,s.gens,List.replicate ng GenState.finished,ps fr),bg++dn fr))(hp:∀fr,aO (ps fr))(J:∀fr,(post fr).length=L.length)(hx:∀fr,S.length=(new fr).length)(P:∀x∈S,L.length<=x)(Q:S.Nodup)(K:∀fr T o,o=cu V hs fr c pos X own L bg s.heap.objs.size s.toks s.gens->de s T L (post fr) (new fr) (dn fr) ng->dR V B T ((L.map (·.1)).zip (post fr)++new fr) (bg++dn fr)->
   ∃O:ZR,(∀M:aS,M.W=W'->topHandled M.st=vz->a8 V.prog V.w M T (callee fr) (bp o).p0 (denote table (callee fr)) [] O)/\
    ∀r U,O r U->a8 V.prog V.w B U (bp o).c (bp o).pos ((bp o).k r) (bp o).own R):a8 V.prog V.w B s c pos X own R:=jl h.W h.hB h.kt h.holds h.nodup h.away h.gF fun fr=>by
  have e:=H fr
  refine tT (W':=W') (vz:=vz) (hQ:=List.range L.length++S) (c:=callee fr) (es:=(L.map (·.1)).zip (post fr)++new fr) (N:=N fr) (t:=t fr) (G:=s.gens) (gl:=List.replicate ng GenState.finished) (ps:=ps fr) (Prod.ext (congrArg (·.1) e) (congrArg (·.2.1) e)) (hp fr) fun T F D E=>?_
  have I:=congrArg (·.2.2) e
  simp only at I;rw[I]at F;obtain⟨O,C,h2⟩:=K fr T _ rfl (eI F (J fr) (hx fr) P Q) (ko (nb:=bg.length) h.W h.hB F (J fr) (hx fr) P Q);refine⟨O,C ⟨_,_,_,_,_,_,_,(bp _).own++B.st⟩ ?_ ?_,h2⟩
  .rw [←D,←h.W];show(_,_)::((bp _).own++B.st).map Frame.where_=_
   rw[aL];rfl
  .exact nk _ B.st V.hb vz h.hB E
end
end
section
open PySem.F
section
set_option tactic.hygienic false
theorem dR.keep{V:Vw}{B:aS}{s Z:ZS}{C W M:ZA}{bg Y:List aQ}{new:ZA}{k:Nat}(H:dR V B s (C++M) bg)(P:de s Z C (W.map (·.2)) new Y k)(hC:W.map (·.1)=C.map (·.1)):dR V B Z (W++M++new) (bg++Y):=dR.frame (X:=[]) (Xp:=[]) H (by simpa using P) hC (fun a hp=>nomatch hp) rfl (fun p hp=>.inr ⟨hp,fun h=>nomatch h⟩)
def Ci[ZI](s:ZS):Prop:=s.os=Zero.zero/\PyProof.Rows.AllBare s.gens
theorem Ci.step[ZI]{s s':ZS}{X nw:ZA}{Y:List Obj}{W:List aQ}{V:Nat}(h:Ci s)(P:de s s' X Y nw W V):Ci s':=⟨P.ext.os.trans h.1,by
 rw[P.gens];intro y Z;rcases Array.mem_append.mp Z with Z|Z
 .exact h.2 y Z
 .simp only[List.mem_toArray,List.mem_replicate]at Z;rw[Z.2];rfl⟩
structure Hp[ZI](w:ZW)(s:ZS)(L:ZA)(bg:List aQ):Prop where
 kt:cP (kp w) s.heap
 holds:aR s.heap L
 nodup:(L.map (·.1)).Nodup
 away:∀p∈L,(kp w).get p.1=none
 gF:∀l∈bg,kN (kp w) s.heap (L.map (·.1)) l
 oo:Ci s
structure Bt(W:ZC)(hb:Option ZV)(B:aS):Prop where
 W:B.W=W
 hB:topHandled B.st=hb
section
variable{w:ZW}{W:ZC}{Y:Option ZV}{B:aS}{s s':ZS}{L Z:ZA}{bg X:List aQ}
theorem Hp.here[ZI](h:Hp w s L bg)(b:Bt W Y B):dR ⟨pg,w,kp w,W,Y⟩ B s L bg:=⟨b.W,b.hB,h.kt,h.holds,h.nodup,h.away,h.gF⟩
theorem dR.hp[ZI](h:dR ⟨pg,w,kp w,W,Y⟩ B s L bg)(o:Ci s):Hp w s L bg:=⟨h.kt,h.holds,h.nodup,h.away,h.gF,o⟩
theorem Hp.perm[ZI](h:Hp w s L bg)(p:L.Perm Z):Hp w s Z bg:=⟨h.kt,fun q hq=>h.holds q (p.mem_iff.mpr hq),(p.map _).nodup_iff.mp h.nodup,fun q hq=>h.away q (p.mem_iff.mpr hq),fun l V=>have z:=h.gF l V;⟨z.holds,z.kt,fun q hq W=>z.apart q hq ((p.map _).mem_iff.mpr W),z.nodup⟩,h.oo⟩
theorem Hp.sub[ZI](h:Hp w s L bg)(W:Z.Sublist L)(Y:∀l∈X,l∈bg):Hp w s Z X:=⟨h.kt,fun p hp=>h.holds p (W.subset hp),(W.map _).nodup h.nodup,fun p hp=>h.away p (W.subset hp),fun l U=>have z:=h.gF l (Y l U);⟨z.holds,z.kt,fun p hp V=>z.apart p hp ((W.map _).subset V),z.nodup⟩,h.oo⟩
theorem Hp.of[ZI]{R:ZA}(h:Hp w s L bg)(p:L.Perm (Z++R)):Hp w s Z bg:=(h.perm p).sub (sq _ _) fun a h=>h
theorem Hp.step[ZI]{A T R new:ZA}{V:List aQ}{k:Nat}(h:Hp w s L bg)(p:L.Perm (A++R))(P:de s s' A (T.map (·.2)) new V k)(hA:T.map (·.1)=A.map (·.1)):Hp w s' (T++(new++R)) (bg++V):=by
 let U:aS:=⟨fun r=>leaf r,none,false,[],default,default,[],[]⟩
 have H:dR ⟨pg,w,kp w,U.W,topHandled U.st⟩ U s (A++R) bg:=(h.perm p).here ⟨rfl,rfl⟩
 have z:=(dR.keep H P hA).hp (h.oo.step P)
 refine z.perm ?_;rw[br];exact List.Perm.append_left _ mN
end
theorem mY{bg:List aQ}:∀l∈([]:List aQ),l∈bg:=fun a h=>nomatch h
abbrev f5(n:Nat)(Z:ZN)(o:ay)(c:Code)(pos:Pos)(L new:ZA)(N t:Nat)(G:ZG)(Y:Nat)(ps:List Prop)(bg:List aQ):Prop:=(gg o,px (List.range n++Z) o,fP o)=(gh o,some (c,pos,(L++new).map some,N,t,G,List.replicate Y GenState.finished,ps),bg)
abbrev iq(n:Nat)(Z:ZN)(o:ay)(r:Result)(L new:ZA)(N t:Nat)(G:ZG)(Y:Nat)(ps:List Prop)(bg:List aQ):Prop:=(gg o,dx (List.range n++Z) o,fP o)=(gh o,some (r,(L++new).map some,N,t,G,List.replicate Y GenState.finished,ps),bg)
abbrev ir(V:Vw)(n:Nat)(Y:ZN)(o:ay)(c:Code)(W:ZC)(Z:Option ZV)(L new:ZA)(N t:Nat)(G:ZG)(X:Nat)(ps:List Prop)(bg:List aQ):Prop:=(gg o,wU V (List.range n++Y) o,fP o)=(gh o,some (some (c,W),some Z,(L++new).map some,N,t,G,List.replicate X GenState.finished,ps),bg)
noncomputable abbrev V0(w:ZW)(W:ZC):Vw:=⟨pg,w,kp w,W,none⟩
def bo(V:Vw)(Z:List (Nat×bD V.prog V.w V.kt))(fr:ZL)(o:ay)(r:Result)(L:ZA)(bg:List aQ)(N t:Nat)(G:ZG):ay:=cu V Z fr (bp o).c (bp o).pos ((bp o).k r) (bp o).own L bg N t G
abbrev vA(n:Nat)(Z:ZN)(o:ay)(c:Code)(pos:Pos)(r:Rs)(N t:Nat)(G:ZG)(Y:Nat):Prop:=f5 n Z o c pos r.A r.B N t G Y r.P []
abbrev I7(V:Vw)(n:Nat)(Y:ZN)(o:ay)(c:Code)(W:ZC)(Z:Option ZV)(r:Rs)(N t:Nat)(G:ZG)(X:Nat):Prop:=ir V n Y o c W Z r.A r.B N t G X r.P []
structure c7 where
 o:ay
 c:Code
 p:Pos
 r:Rs
 N:Nat
 t:Nat
structure dp where
 o:ay
 x:Result
 r:Rs
 N:Nat
 t:Nat
structure dK where
 o:ay
 c:Code
 r:Rs
 N:Nat
 t:Nat
abbrev c7.ok(q:c7){w:ZW}(h:ZH w)(Y:Pos)(n:Nat)(Z:ZN)(G:ZG):Prop:=f5 n Z q.o q.c q.p q.r.A q.r.B q.N q.t G 0 q.r.P []
abbrev dp.ok(q:dp){w:ZW}(h:ZH w)(Y:Pos)(n:Nat)(Z:ZN)(G:ZG):Prop:=iq n Z q.o q.x q.r.A q.r.B q.N q.t G 0 q.r.P []
abbrev dK.ok(q:dK)(V:Vw){w:ZW}(h:ZH w)(X:Pos)(Y:ZC)(n:Nat)(Z:ZN)(G:ZG):Prop:=ir V n Z q.o q.c Y none q.r.A q.r.B q.N q.t G 0 q.r.P []
noncomputable def dP(n:Nat)(Z:ZN)(m:Nat):Bool:=(Z.all fun x=>Nat.ble n x)&&eF Z&&Nat.beq Z.length m
def lh(o:ay)(r:Rs)(n:Nat)(Z:ZN):ay×List Addr×Nat×Bool:=(o,r.A.map (·.1),n,dP n Z r.B.length)
def rh(o:ay)(L:ZA):ay×List Addr×Nat×Bool:=(o,L.map (·.1),L.length,true)
theorem fQ{n m:Nat}{Z:ZN}(h:dP n Z m=true):(∀x∈Z,n<=x)/\Z.Nodup/\Z.length=m:=by simp only[dP,Bool.and_eq_true]at h;exact⟨allB h.1.1,zH h.1.2,so h.2⟩
theorem rV{A Z:ZA}(h:Z.map (·.1)=A.map (·.1)):(A.map (·.1)).zip (Z.map (·.2))=Z:=by rw[←h,js]
section
variable{w:ZW}{W:ZC}{Y:Option ZV}{B:aS}{s:ZS}{U A R:ZA}{bg Z:List aQ}{V:ZH w}{c:Code}{pos:Pos}{tr:ZE}{own:List Frame}{X:ZN}{A' new:ZL->ZA}{dn:ZL->List aQ}{N t:ZL->Nat}{ng:Nat}{ps:ZL->List Prop}{Q:ZR}
theorem I8[ZI]{O:ZL->Code}{pos':ZL->Pos}(b:Bt W Y B)(H:Hp w s U bg)(hp:U.Perm (A++R))(L:∀l∈Z,l∈bg)(T:∀fr,f5 A.length X (cu ⟨pg,w,kp w,W,Y⟩ V fr c pos tr own A Z s.heap.objs.size s.toks s.gens) (O fr) (pos' fr) (A' fr) (new fr) (N fr) (t fr) s.gens ng (ps fr) (Z++dn fr))(M:∀fr,aO (ps fr))(hA:∀fr,(A' fr).map (·.1)=A.map (·.1))(hx:∀fr,dP A.length X (new fr).length=true)(K:∀fr S,Hp w S (A' fr++(new fr++R)) (bg++dn fr)->a8 pg w B S (O fr) (pos' fr) (denote table (O fr)) [] Q):a8 pg w B s c pos tr own Q:=by
 have H1:=H.perm hp
 have J:=(H1.sub (sq _ _) L).here b
 refine vm (hs:=V) (N:=N) (t:=t) (ng:=ng) (ps:=ps) (c':=O) (pos':=pos') (post:=fun fr=>(A' fr).map (·.2)) (new:=new) (dn:=dn) J (fun fr=>?_) M (fun fr=>by have:=congrArg List.length (hA fr);simpa using this) (fun fr=>(fQ (hx fr)).2.2) (fQ (hx [])).1 (fQ (hx [])).2.1 (fun fr S P a=>K fr S (H.step hp P (hA fr)))
 rw[rV (hA fr)];exact T fr
theorem Wx[ZI]{O:ZL->Code}{pos':ZL->Pos}(b:Bt W Y B)(H:Hp w s U bg)(hp:U.Perm (A++R))(P:∀l∈Z,l∈bg)(T:∀fr,f5 A.length X (aq ⟨pg,w,kp w,W,Y⟩ V fr c pos A Z s.heap.objs.size s.toks s.gens) (O fr) (pos' fr) (A' fr) (new fr) (N fr) (t fr) s.gens ng (ps fr) (Z++dn fr))(S:∀fr,aO (ps fr))(hA:∀fr,(A' fr).map (·.1)=A.map (·.1))(hx:∀fr,dP A.length X (new fr).length=true)(K:∀fr M,Hp w M (A' fr++(new fr++R)) (bg++dn fr)->a8 pg w B M (O fr) (pos' fr) (denote table (O fr)) [] Q):a8 pg w B s c pos (denote table c) [] Q:=by rw[eY];exact I8 (tr:=den c) (own:=[]) b H hp P T S hA hx K
theorem SJ[ZI]{r:ZL->Result}(b:Bt W Y B)(H:Hp w s U bg)(hp:U.Perm (A++R))(M:∀l∈Z,l∈bg)(T:∀fr,iq A.length X (cu ⟨pg,w,kp w,W,Y⟩ V fr c pos tr own A Z s.heap.objs.size s.toks s.gens) (r fr) (A' fr) (new fr) (N fr) (t fr) s.gens ng (ps fr) (Z++dn fr))(O:∀fr,aO (ps fr))(hA:∀fr,(A' fr).map (·.1)=A.map (·.1))(hx:∀fr,dP A.length X (new fr).length=true)(K:∀fr S,Hp w S (A' fr++(new fr++R)) (bg++dn fr)->Q (r fr) S):a8 pg w B s c pos tr own Q:=by
 have H1:=H.perm hp
 have L:=(H1.sub (sq _ _) M).here b
 refine(qt (hs:=V) (N:=N) (t:=t) (ng:=ng) (ps:=ps) (r:=r) (post:=fun fr=>(A' fr).map (·.2)) (new:=new) (dn:=dn) L (fun fr=>?_) O (fun fr=>by have:=congrArg List.length (hA fr);simpa using this) (fun fr=>(fQ (hx fr)).2.2) (fQ (hx [])).1 (fQ (hx [])).2.1).mono ?_
 .rw [rV (hA fr)];exact T fr
 .rintro J S ⟨fr,rfl,P⟩
  exact K fr S (H.step hp P (hA fr))
theorem I9[ZI]{L:ZL->Code}{E:ZC}{S:Option ZV}(b:Bt W Y B)(H:Hp w s U bg)(hp:U.Perm (A++R))(F:∀l∈Z,l∈bg)(T:∀fr,ir ⟨pg,w,kp w,W,Y⟩ A.length X (cu ⟨pg,w,kp w,W,Y⟩ V fr c pos tr own A Z s.heap.objs.size s.toks s.gens) (L fr) E S (A' fr) (new fr) (N fr) (t fr) s.gens ng (ps fr) (Z++dn fr))(G:∀fr,aO (ps fr))(hA:∀fr,(A' fr).map (·.1)=A.map (·.1))(hx:∀fr,dP A.length X (new fr).length=true)(K:∀fr M o,o=cu ⟨pg,w,kp w,W,Y⟩ V fr c pos tr own A Z s.heap.objs.size s.toks s.gens->Hp w M (A' fr++(new fr++R)) (bg++dn fr)->
   ∃J:ZR,(∀I:aS,Bt E S I->a8 pg w I M (L fr) (bp o).p0 (denote table (L fr)) [] J)/\∀r O,J r O->a8 pg w B O (bp o).c (bp o).pos ((bp o).k r) (bp o).own Q):a8 pg w B s c pos tr own Q:=by
 have H1:=H.perm hp
 have x:=(H1.sub (sq _ _) F).here b
 refine tU (hs:=V) (N:=N) (t:=t) (ng:=ng) (ps:=ps) (callee:=L) (W':=E) (vz:=S) (post:=fun fr=>(A' fr).map (·.2)) (new:=new) (dn:=dn) x (fun fr=>?_) G (fun fr=>by have:=congrArg List.length (hA fr);simpa using this) (fun fr=>(fQ (hx fr)).2.2) (fQ (hx [])).1 (fQ (hx [])).2.1 (fun fr M o D P a=>?_)
 .rw [rV (hA fr)];exact T fr
 .obtain⟨J,C,h2⟩:=K fr M o D (H.step hp P (hA fr));exact⟨J,fun I y z=>C I ⟨y,z⟩,h2⟩
theorem Wy[ZI]{L:ZL->Code}{I:ZC}{P:Option ZV}(b:Bt W Y B)(H:Hp w s U bg)(hp:U.Perm (A++R))(M:∀l∈Z,l∈bg)(T:∀fr,ir ⟨pg,w,kp w,W,Y⟩ A.length X (aq ⟨pg,w,kp w,W,Y⟩ V fr c pos A Z s.heap.objs.size s.toks s.gens) (L fr) I P (A' fr) (new fr) (N fr) (t fr) s.gens ng (ps fr) (Z++dn fr))(O:∀fr,aO (ps fr))(hA:∀fr,(A' fr).map (·.1)=A.map (·.1))(hx:∀fr,dP A.length X (new fr).length=true)(K:∀fr J o,o=aq ⟨pg,w,kp w,W,Y⟩ V fr c pos A Z s.heap.objs.size s.toks s.gens->Hp w J (A' fr++(new fr++R)) (bg++dn fr)->
   ∃G:ZR,(∀F:aS,Bt I P F->a8 pg w F J (L fr) (bp o).p0 (denote table (L fr)) [] G)/\∀r S,G r S->a8 pg w B S (bp o).c (bp o).pos ((bp o).k r) (bp o).own Q):a8 pg w B s c pos (denote table c) [] Q:=by
 rw[eY];exact I9 (tr:=den c) (own:=[]) b H hp M T O hA hx K
end
section
variable{w:ZW}{W:ZC}{Y:Option ZV}{B:aS}{s:ZS}{V A R:ZA}{bg j5:List aQ}{hs:ZH w}{c:Code}{pos:Pos}{U:ZE}{own:List Frame}{X:ZN}{Z new:ZL->ZA}{N t:ZL->Nat}{ng:Nat}{ps:ZL->List Prop}{Q:ZR}
theorem Cj[ZI]{O:ZL->Code}{pos':ZL->Pos}(b:Bt W Y B)(H:Hp w s V bg)(hp:V.Perm (A++R))(P:∀l∈j5,l∈bg)(T:∀fr,f5 A.length X (cu ⟨pg,w,kp w,W,Y⟩ hs fr c pos U own A j5 s.heap.objs.size s.toks s.gens) (O fr) (pos' fr) (Z fr) (new fr) (N fr) (t fr) s.gens ng (ps fr) j5)(S:∀fr,aO (ps fr))(hA:∀fr,(Z fr).map (·.1)=A.map (·.1))(hx:∀fr,dP A.length X (new fr).length=true)(K:∀fr M,Hp w M (Z fr++(new fr++R)) bg->a8 pg w B M (O fr) (pos' fr) (denote table (O fr)) [] Q):a8 pg w B s c pos U own Q:=by
 refine I8 (A':=Z) (new:=new) (N:=N) (t:=t) (ng:=ng) (ps:=ps) (dn:=fun a=>[]) b H hp P (fun fr=>by rw[bY];exact T fr) S hA hx ?_
 simpa only[List.append_nil]using K
theorem SK[ZI]{O:ZL->Code}{pos':ZL->Pos}(b:Bt W Y B)(H:Hp w s V bg)(hp:V.Perm (A++R))(P:∀l∈j5,l∈bg)(T:∀fr,f5 A.length X (aq ⟨pg,w,kp w,W,Y⟩ hs fr c pos A j5 s.heap.objs.size s.toks s.gens) (O fr) (pos' fr) (Z fr) (new fr) (N fr) (t fr) s.gens ng (ps fr) j5)(S:∀fr,aO (ps fr))(hA:∀fr,(Z fr).map (·.1)=A.map (·.1))(hx:∀fr,dP A.length X (new fr).length=true)(K:∀fr M,Hp w M (Z fr++(new fr++R)) bg->a8 pg w B M (O fr) (pos' fr) (denote table (O fr)) [] Q):a8 pg w B s c pos (denote table c) [] Q:=by
 refine Wx (A':=Z) (new:=new) (N:=N) (t:=t) (ng:=ng) (ps:=ps) (dn:=fun a=>[]) b H hp P (fun fr=>by rw[bY];exact T fr) S hA hx ?_
 simpa only[List.append_nil]using K
theorem Ck[ZI]{r:ZL->Result}(b:Bt W Y B)(H:Hp w s V bg)(hp:V.Perm (A++R))(P:∀l∈j5,l∈bg)(T:∀fr,iq A.length X (cu ⟨pg,w,kp w,W,Y⟩ hs fr c pos U own A j5 s.heap.objs.size s.toks s.gens) (r fr) (Z fr) (new fr) (N fr) (t fr) s.gens ng (ps fr) j5)(S:∀fr,aO (ps fr))(hA:∀fr,(Z fr).map (·.1)=A.map (·.1))(hx:∀fr,dP A.length X (new fr).length=true)(K:∀fr O,Hp w O (Z fr++(new fr++R)) bg->Q (r fr) O):a8 pg w B s c pos U own Q:=by
 refine SJ (A':=Z) (new:=new) (N:=N) (t:=t) (ng:=ng) (ps:=ps) (dn:=fun a=>[]) b H hp P (fun fr=>by rw[bY];exact T fr) S hA hx ?_
 simpa only[List.append_nil]using K
theorem Cm[ZI]{L:ZL->Code}{I:ZC}{P:Option ZV}(b:Bt W Y B)(H:Hp w s V bg)(hp:V.Perm (A++R))(M:∀l∈j5,l∈bg)(T:∀fr,ir ⟨pg,w,kp w,W,Y⟩ A.length X (cu ⟨pg,w,kp w,W,Y⟩ hs fr c pos U own A j5 s.heap.objs.size s.toks s.gens) (L fr) I P (Z fr) (new fr) (N fr) (t fr) s.gens ng (ps fr) j5)(O:∀fr,aO (ps fr))(hA:∀fr,(Z fr).map (·.1)=A.map (·.1))(hx:∀fr,dP A.length X (new fr).length=true)(K:∀fr J o,o=cu ⟨pg,w,kp w,W,Y⟩ hs fr c pos U own A j5 s.heap.objs.size s.toks s.gens->Hp w J (Z fr++(new fr++R)) bg->
   ∃G:ZR,(∀F:aS,Bt I P F->a8 pg w F J (L fr) (bp o).p0 (denote table (L fr)) [] G)/\∀r S,G r S->a8 pg w B S (bp o).c (bp o).pos ((bp o).k r) (bp o).own Q):a8 pg w B s c pos U own Q:=by
 refine I9 (A':=Z) (new:=new) (N:=N) (t:=t) (ng:=ng) (ps:=ps) (dn:=fun a=>[]) b H hp M (fun fr=>by rw[bY];exact T fr) O hA hx ?_
 simpa only[List.append_nil]using K
theorem SM[ZI]{L:ZL->Code}{I:ZC}{P:Option ZV}(b:Bt W Y B)(H:Hp w s V bg)(hp:V.Perm (A++R))(M:∀l∈j5,l∈bg)(T:∀fr,ir ⟨pg,w,kp w,W,Y⟩ A.length X (aq ⟨pg,w,kp w,W,Y⟩ hs fr c pos A j5 s.heap.objs.size s.toks s.gens) (L fr) I P (Z fr) (new fr) (N fr) (t fr) s.gens ng (ps fr) j5)(O:∀fr,aO (ps fr))(hA:∀fr,(Z fr).map (·.1)=A.map (·.1))(hx:∀fr,dP A.length X (new fr).length=true)(K:∀fr J o,o=aq ⟨pg,w,kp w,W,Y⟩ hs fr c pos A j5 s.heap.objs.size s.toks s.gens->Hp w J (Z fr++(new fr++R)) bg->
   ∃G:ZR,(∀F:aS,Bt I P F->a8 pg w F J (L fr) (bp o).p0 (denote table (L fr)) [] G)/\∀r S,G r S->a8 pg w B S (bp o).c (bp o).pos ((bp o).k r) (bp o).own Q):a8 pg w B s c pos (denote table c) [] Q:=by
 refine Wy (A':=Z) (new:=new) (N:=N) (t:=t) (ng:=ng) (ps:=ps) (dn:=fun a=>[]) b H hp M (fun fr=>by rw[bY];exact T fr) O hA hx ?_
 simpa only[List.append_nil]using K
end
section
variable{w:ZW}{W:ZC}{X:Option ZV}{B:aS}{s:ZS}{V:ZA}{bg:List aQ}{Y:ZH w}{c:Code}{pos:Pos}{Z:ZE}{own:List Frame}{Q:ZR}
end
noncomputable def pk{α:Type}:ZN->List (Option α)->List α
 |[],_=>[]
 |i::is,L=>match L[i]? with
  |some (some x)=>x::pk is (L.set i none)
  |_=>pk is L
noncomputable def rs{α:Type}:ZN->List (Option α)->List α
 |[],L=>L.filterMap id
 |i::is,L=>rs is (L.set i none)
theorem FN{α:Type}(L:List (Option α)):∀i:Nat,(L.filterMap id).Perm ((L[i]?).join.toList++(L.set i none).filterMap id):=by
 induction L with
 |nil=>exact fun b=>.refl _
 |cons a L Z=>
  intro i;cases i with
  |zero=>cases a<;>exact .refl _
  |succ i=>
   cases a with
   |none=>exact Z i
   |some x=>exact(List.Perm.cons x (Z i)).trans List.perm_middle.symm
theorem y1{α:Type}(L:List (Option α)):∀i:Nat,(L[i]?).join=none->L.set i none=L:=by
 induction L with
 |nil=>exact fun b b=>rfl
 |cons a L Z=>
  intro i h;cases i with
  |zero=>exact congrArg (·::L) (show none=a from h.symm)
  |succ i=>exact congrArg (a::·) (Z i h)
theorem AV{α:Type}(is:ZN):∀L:List (Option α),(L.filterMap id).Perm (pk is L++rs is L):=by
 induction is with
 |nil=>exact fun a=>.refl _
 |cons i is Z=>
  intro L;have f:=FN L i
  have e:=y1 L i
  replace Z:=Z (L.set i none)
  show(L.filterMap id).Perm ((match L[i]? with|some (some x)=>x::pk is (L.set i none)|_=>pk is L)++rs is (L.set i none))
  cases q:L[i]? with
  |none=>rw[q]at e;rw[e rfl]at Z⊢;exact Z
  |some y=>
   rw[q]at e f;cases y with
   |none=>rw[e rfl]at Z⊢;exact Z
   |some x=>exact f.trans (List.Perm.cons x Z)
theorem ny{α:Type}(is:ZN)(L E:List α):(L++E).Perm (pk is (L.map some)++(rs is (L.map some)++E)):=by
 have h:=AV is (L.map some)
 rw[List.filterMap_map]at h;have e:L.filterMap (id∘some)=L:=by
  have:(id∘some:α->Option α)=some:=rfl
  rw[this,List.filterMap_some]
 rw[e]at h;rw[←br];exact h.append_right E
section
variable{w:ZW}{W:ZC}{U:Option ZV}{B:aS}{s:ZS}{L E:ZA}{bg:List aQ}{V:ZH w}{c:Code}{pos:Pos}{Z:ZE}{own:List Frame}{Y:ZN}{T new:ZL->ZA}{N t:ZL->Nat}{X:Nat}{ps:ZL->List Prop}{Q:ZR}
end
end
section
set_option tactic.hygienic false
noncomputable def ib:List Int->ZN->ZY
 |[],_=>[]
 |n::ns,g=>.int n (g.headD 0)::ib ns g.tail
theorem FO{vs:ZY}{ns:List Int}(h:PyProof.Rows.IntsAre vs ns):∃g,vs=ib ns g:=by
 induction h with
 |nil=>exact⟨[],rfl⟩
 |cons n t _ Z=>obtain⟨g,e⟩:=Z;exact⟨t::g,by rw[e];rfl⟩
theorem hM:∀(ns:List Int)(g:ZN),PyProof.Rows.IntsAre (ib ns g) ns
 |[],_=>.nil
 |n::ns,g=>.cons n _ (hM ns g.tail)
theorem rC:∀{a b:List Int},a.Perm b->a.Pairwise (·<=·)->b.Pairwise (·<=·)->a=b:=fun hp Y Z=>
 hp.eq_of_pairwise (fun c c c c X h2=>Int.le_antisymm X h2) Y Z
noncomputable def Ja(ns:List Int)(ep:Nat):Nat:=match ns with
 |[]=>ep
 |_::_=>ep+2
section
variable{prog:Program}{w:ZW}{kt:KT}
theorem rD{vs:ZY}{ns:List Int}(h:PyProof.Rows.IntsAre vs ns):vs.length=ns.length:=by
 induction h with
 |nil=>rfl
 |cons _ _ _ Z=>exact congrArg (·+1) Z
theorem tV(a:Addr){Z:ZY}{ep:Nat}{ns out:List Int}(V:PyProof.Rows.IntsAre Z ns)(W:Z.length<64)(Y:out.Perm ns/\out.Pairwise (·<=·)):Meets (Builtin.«list.sort» ⟨[.ref a],[]⟩) (fun b R s=>s.heap.get? a=some (ae Z ep)/\∀f,R (.ok (.ret .none)) {s with heap:=PyProof.Rows.sortedHeap s.heap a Z ⟨ib out f⟩}):=by
 refine .of_wp fun prog w A R s h=>?_
 refine PyProof.Rows.list_sort_tree (n:=ep) h.1 V W fun o X a1 a2 S=>?_
 have U:X=out:=rC (a2.trans Y.1.symm) S Y.2
 subst U;obtain⟨f,T⟩:=FO a1;rw[show o=⟨ib X f⟩from gb.mp T]
 exact⟨.none,rfl,h.2 f⟩
theorem vB{s:ZS}{a:Addr}{Z vs:ZY}{ep R:Nat}(Q:s.heap.get? a=some (ae Z ep))(he:ae vs R=Obj.mapSeq (fun c=>⟨vs⟩) (Obj.mapSeq (fun c=>#[]) (ae Z ep))):cf s {s with heap:=PyProof.Rows.sortedHeap s.heap a Z ⟨vs⟩} [(a,ae Z ep)] ⟨.ok (.ret .none),[ae vs R],[],s.heap.objs.size+2,s.toks,0,[]⟩:=by
 let W:=s.heap.update a (Obj.mapSeq fun c=>#[])
 let U:=(W.push (PyProof.Rows.seqObj "tuple" Z.toArray 0)).push (PyProof.Rows.seqObj "list" #[] 0)
 have X:Heap.SameBut a s.heap W:=Heap.SameBut.update ..
 have g1:W.get? a=some (Obj.mapSeq (fun c=>#[]) (ae Z ep)):=Heap.get?_update_self _ Q rfl
 have up:∀{b x},W.get? b=some x->U.get? b=some x:=fun e=>Heap.get?_push_of_some _ (Heap.get?_push_of_some _ e)
 have V:U.objs.size=s.heap.objs.size+2:=by
  show((W.push _).push _).objs.size=_
  rw[Heap.size_push,Heap.size_push,X.1]
 have Y:Heap.SameBut a U (PyProof.Rows.sortedHeap s.heap a Z ⟨vs⟩):=Heap.SameBut.update ..
 have T:(PyProof.Rows.sortedHeap s.heap a Z ⟨vs⟩).objs.size=s.heap.objs.size+2:=Y.1.trans V
 have g3:(PyProof.Rows.sortedHeap s.heap a Z ⟨vs⟩).get? a=some (Obj.mapSeq (fun c=>⟨vs⟩) (Obj.mapSeq (fun c=>#[]) (ae Z ep))):=Heap.get?_update_self _ (up g1) rfl
 refine⟨⟨fun b x P q=>?_,T▸b8 _ _,aM _,rfl,rfl⟩,rfl,?_,bH _,(fun c hp=>nomatch hp),cW,T,rfl,(by simp),(fun c hp=>nomatch hp),(fun c hp=>nomatch hp),(fun c hp=>nomatch hp),(fun c hp=>nomatch hp)⟩
 .have S:b≠a:=fun z=>q (z▸.head _)
  exact(Y.2 b S).trans (up ((X.2 b S).trans P))
 .intro p hp;rcases bQ.mp hp with rfl
  rw[he];exact g3
theorem y3{Z:ZY}{ns out:List Int}{f:ZN}{ep:Nat}(W:PyProof.Rows.IntsAre Z ns)(hn:out.length=ns.length):ae (ib out f) (Ja ns ep)=Obj.mapSeq (fun a=>⟨ib out f⟩) (Obj.mapSeq (fun a=>#[]) (ae Z ep)):=by
 have X:=rD (hM out f)
 cases W with
 |nil=>
  rw[jF hn];simp[ae,Obj.mapSeq,ib,Ja]
 |cons n t h=>
  have h2:(ib out f).length≠0:=by rw[X,hn];simp
  have Y:¬ib out f=[]:=fun z=>h2 (by rw[z];rfl)
  simp[ae,Obj.mapSeq,Ja,Y]
noncomputable def lT(ix:Nat)(ns out:List Int):aX prog w kt where
 A:=fun a c a a T=>⟨.builtin "list.sort" ⟨[.ref (af (v0 c))],[]⟩,[ix],[(af (v0 c),du (ab T ix))],.fq,[PyProof.Rows.IntsAre (ah (ab T ix)) ns,(ah (ab T ix)).length<64,out.Perm ns/\out.Pairwise (·<=·)],[],[]⟩
 B:=fun a c N t T f=>⟨.ok (.ret .none),[ae (ib out f) (Ja ns (eU (ab T ix)))],[],N+2,t,0,[]⟩
 ok:=fun a c T s B pos e hp a U a a hB a Q=>by
  have W:s.heap.get? (af (v0 c))=some (du (ab T ix)):=U _ (.head _)
  have V:PyProof.Rows.IntsAre (ah (ab T ix)) ns:=hp _ (.head _)
  have Y:(ah (ab T ix)).length<64:=hp _ (.tail _ (.head _))
  have Z:out.Perm ns/\out.Pairwise (·<=·):=hp _ (.tail _ (.tail _ (.head _)))
  have e:c=.builtin "list.sort" ⟨[.ref (af (v0 c))],[]⟩:=e
  refine bE e hB (by decide+kernel) PyProof.Rows.entry_list_sort (tV (af (v0 c)) V Y Z) (R:=fun r X=>∃f,r=.ok (.ret .none)/\X={s with heap:=PyProof.Rows.sortedHeap s.heap (af (v0 c)) (ah (ab T ix)) ⟨ib out f⟩}) ⟨W,fun f=>⟨f,rfl,rfl⟩⟩ fun r X ⟨f,S,h2⟩=>⟨f,S,?_⟩
  subst h2;exact vB W (y3 V Z.1.length_eq)
noncomputable def xr(Y Z:Nat):aX prog w kt where
 A:=fun a c a a T=>⟨.builtin "list.__iadd__" ⟨[.ref (af (v0 c)),.ref (af (v1 c))],[]⟩,[Y,Z],[(af (v0 c),du (ab T Y)),(af (v1 c),qA (ab T Z))],.fq,[(ah (ab T Y)).length+(ah (ab T Z)).length<=16777216],[],[]⟩
 B:=fun a c N t T a=>⟨.ok (.ret (.ref (af (v0 c)))),[ae (ah (ab T Y)++ah (ab T Z)) (uo (eU (ab T Y)) (ah (ab T Z))),qA (ab T Z)],[],N,t,0,[]⟩
 ok:=fun a c T s B pos e hp a Q hn a hB a L=>by
  have U:s.heap.get? (af (v0 c))=some (du (ab T Y)):=Q _ (.head _)
  have S:s.heap.get? (af (v1 c))=some (qA (ab T Z)):=Q _ (.tail _ (.head _))
  have W:(ah (ab T Y)).length+(ah (ab T Z)).length<=16777216:=hp _ (.head _)
  have O:af (v0 c)≠af (v1 c):=fun q=>(cy.mp hn).1 (by rw[q];exact .head _)
  have e:c=.builtin "list.__iadd__" ⟨[.ref (af (v0 c)),.ref (af (v1 c))],[]⟩:=e
  have g:Meets (Builtin.«list.__iadd__» ⟨[.ref (af (v0 c)),.ref (af (v1 c))],[]⟩) (fun a R s=>s.heap.get? (af (v0 c))=some (du (ab T Y))/\s.heap.get? (af (v1 c))=some (qA (ab T Z))/\R (.ok (.ret (.ref (af (v0 c))))) {s with heap:=s.heap.update (af (v0 c)) (Obj.mapSeq fun x=>x++(⟨ah (ab T Z)⟩:Array ZV))}):=by
   refine .of_wp fun prog w A R s h=>?_
   obtain⟨X,h2,M⟩:=h;show wpAny _ _ (Builtin.List.listExtendWith (.ref (af (v0 c))) (.ref (af (v1 c))) (.ref (af (v0 c)))) _ _ s
   unfold Builtin.List.listExtendWith;refine wpAny_bind (wpAny_typeOf (T:="tuple") ⟨_,h2,rfl⟩ ?_);have P:(Value.type "tuple"==Value.type "tuple")=true:=by rfl
   rw[if_pos (by rw[P];simp)]
   refine wpAny_bind (PyProof.Rows.listItems_at h2 rfl ?_);refine wpAny_bind (PyProof.Rows.listItems_at X rfl ?_);rw[if_neg (tooLong W)];refine wpAny_bind (PyProof.Rows.listUpdate_at X rfl ?_ (by show(⟨ah (ab T Y)⟩:Array ZV).size<=_;have:sizeLine=16777216:=rfl;simp;exact pd W) (by have:sizeLine=16777216:=rfl;simp;exact kZ W))
   exact wpAny_pure ⟨_,rfl,M⟩
  refine bE e hB (by decide+kernel) PySem.F.entry_list_iadd g
   (R:=fun r V=>r=.ok (.ret (.ref (af (v0 c))))/\V={s with heap:=s.heap.update (af (v0 c)) (Obj.mapSeq fun x=>x++(⟨ah (ab T Z)⟩:Array ZV))}) ⟨U,S,rfl,rfl⟩ fun r V ⟨X,h2⟩=>⟨[],X,?_⟩
  subst h2;exact iW U S (i3 _ _ _) rfl O _
end
end
end
set_option tactic.hygienic false
noncomputable def cn(P:Params)(k:ZT)(D:Addr)(R:ZV)(po Z:Int):Obj:=gj [dE P [95,110,111,100,101,50,105,110,102,111] (k 0) (.ref D),dE P [95,114,101,97,100,121,95,110,111,100,101,115] (k 1) R,dE P [95,110,112,97,115,115,101,100,111,117,116] (k 2) (.int po (k 3)),dE P [95,110,102,105,110,105,115,104,101,100] (k 4) (.int Z (k 5))] (k 6)
noncomputable def cp(Z:Addr):Obj:=⟨.ref 211,some Z,.plain,#[]⟩
def Wz(w:ZW):ZH w:=jn [dz 0xbb2ce637,[(5,.ai (oLt false))],dz 0x2f20b61bb37,[(11,.fin)]]
noncomputable def EZ(w:ZW)(S X D R:Addr)(k:ZT)(po Y:Int)(Z:ZY)(ep:Nat):Ct pg w (kp w)where
 code:=.call (.ref 180) ⟨[.ref S],[]⟩
 L:=[(S,cp X),(X,cn w.params k D (.ref R) po Y),(R,ae Z ep)]
 W:=.kinds [.wh,.fn,.cl]
 bg:=[]
 P:=[Z.length<=4,decide (Y<po)=false]
 r:=fun a=>.ok (.ret (.bool (!Z.isEmpty)))
 post:=fun a=>[cp X,cn w.params k D (.ref R) po Y,ae Z ep]
 new:=fun a=>[]
 fs:=fun a=>[]
 ng:=0
theorem FP(w:ZW)(S X D R:Addr)(k:ZT)(po Y:Int)(Z:ZY)(ep:Nat):(EZ w S X D R k po Y Z ep).Holds:=by
 by_cases W:Z.length<=4
 .refine Ct.rP (EZ w S X D R k po Y Z ep) (ks:=[.wh,.fn,.cl]) rfl rfl (fun a a=>Wz w) [] (r:=fun a a a=>.ok (.ret (.bool (!Z.isEmpty)))) (post:=fun a a a=>[cp X,cn w.params k D (.ref R) po Y,ae Z ep]) (new:=fun a a a=>[]) (dn:=fun a a a=>[])
   (N':=fun a N a=>N+1) (t':=fun a a t=>t+7) (ps:=fun a a a=>[decide (Y<po)=false]) ?_ (fun h a a a=>h.tail) (fun a a a=>⟨[],rfl,rfl,rfl,rfl⟩) (fun a a a=>rfl) (fun a a a=>rfl) rfl rfl
  intro σ fr pos N t G;apply c5 W;apply aC w;kernel_rfl
 .intro s B pos A;exact absurd A.P.head W
set_option tactic.hygienic false
structure NS where
 ia:Nat->Addr
 da:Nat->Addr
 ja:Nat->Addr
 tv:Nat->Tok
 tn:Nat->Tok
 np:Nat->Int
 sc:Nat->ZY
 ep:Nat->Nat
noncomputable def c8(d:Addr)(v:Int)(Z:Tok)(X:Int)(Y:Tok)(J:Addr):Obj:=⟨.ref 114,some d,.plain,#[some (.int v Z),some (.int X Y),some (.ref J)]⟩
noncomputable def aT(x:NS):ZN->ZA
 |[]=>[]
 |v::Z=>(x.ia v,c8 (x.da v) v (x.tv v) (x.np v) (x.tn v) (x.ja v))::(x.ja v,ae (x.sc v) (x.ep v))::aT x Z
noncomputable def dl(x:NS)(Z:ZN):List IE:=Z.map fun(v:Nat)=>((v:Int),x.tv v,.ref (x.ia v))
noncomputable def dO(x:NS)(Y:ZN)(Z:Nat):Obj:=a9 (dl x Y) Z
noncomputable def NS.app(x:NS)(u:Nat)(v:ZV):NS:={x with sc:=aW x.sc u (x.sc u++[v]),ep:=aW x.ep u (x.ep u+1)}
noncomputable def NS.qB(x:NS)(u:Nat)(a d j:Addr)(tu t0:Tok):NS:=⟨aW x.ia u a,aW x.da u d,aW x.ja u j,aW x.tv u tu,aW x.tn u t0,aW x.np u 0,aW x.sc u [],aW x.ep u 0⟩
def L9(w:ZW):Stmt:=(aH (pn w.params)).getD 3 default
def wV(w:ZW)(L:Addr):Env:=eB 161 (pn w.params) L []
noncomputable def zQ(P:Params)(k:ZT)(S T I:Addr)(v:Nat)(x:Option (Nat×Tok×Addr)):Obj:=fx ([dE P [115,101,108,102] (k 0) (.ref S),dE P [110,111,100,101] (k 1) (.int v (k 2)),dE P [112,114,101,100,101,99,101,115,115,111,114,115] (k 3) (.ref T),dE P [110,111,100,101,105,110,102,111] (k 4) (.ref I)]++
  (match x with|none=>[]|some (u,tu,J)=>[dE P [112,114,101,100] (k 5) (.int u tu),dE P [112,114,101,100,95,105,110,102,111] (k 6) (.ref J)])) (match x with|none=>k 7|some _=>k 7+2)
noncomputable def Cn(w:ZW)(L V T S W D I:Addr)(v:Nat)(Z:ZY)(Y:Nat)(s k:ZT)(q:Option (Nat×Tok×Addr))(i:Nat)(l:List IE)(X:Nat):ZA:=[(L,zQ w.params k S T I v q),(V,gy T i),(T,bK Z Y),(S,cp W),(W,cn w.params s D .none 0 0),(D,a9 l X)]
def nA(w:ZW)(L Z:Addr):Code:=f6 (L9 w) Z (wV w L)
noncomputable abbrev Jb:List K:=[.fn,.fo,.fn,.cl]
def Ma(w:ZW)(Z:Nat->Nat)(l:List IE)(Y:Nat)(I:Addr)(u:Nat)(tu:Tok):ZH w:=jn [fy Z 2 0x2010201,[(0,.ai (qd 1 2 (.int u tu)))],fy Z 25 0xa0214020a000a000a000a030801060006030604060214061500140215001408000208000604060306030601000301000004,[(0,.ai (kU 5 l Y (some (.ref I))))],fy Z 17 0xe0200020e000e000e000e030c010c070c0e0c040c02000301000006140415001405,[(0,.ai (eJ (Z 7)))],[(1,.tail)]]
def Mb(w:ZW)(Z:Nat->Nat)(l:List IE)(Y:Nat)(I:Addr)(u:Nat)(tu:Tok):ZH w:=jn [fy Z 2 0x2010201,[(0,.ai (qd 1 2 (.int u tu)))],fy Z 25 0xa0214020a000a000a000a030801060006030604060214061500140215001408000208000604060306030601000301000004,[(0,.ai (kU 5 l Y (some (.ref I))))],fy Z 17 0xe0200020e000e000e000e030c010c070c0e0c040c02000301000006140415001405,[(0,.ai (eJ (Z 7)))],[(1,.tail)]]
def Mc(w:ZW)(Z:Nat->Nat)(l:List IE)(Y:Nat)(I:Addr)(u:Nat)(tu:Tok):ZH w:=jn [fy Z 2 0x2010201,[(0,.ai (qd 1 2 (.int u tu)))],fy Z 25 0xa0210020a000a000a000a030801060006030604060210061100100211001008000208000604060306030601000301000004,[(0,.ai (kU 5 l Y none))],fy Z 44 0xa010a000a01100308010600060306040602100715011407140b1401140214041402160615011407140b1401140214041402160515011407140b140114021404140216011606170016021700160a14011425100611001005,[(0,.ai (mX 5 l Y))],fy Z 17 0x18020002180018001800180314011407140e14041402000301000006100311001005,[(0,.ai (eJ (Z 12)))],[(1,.tail)]]
def Md(w:ZW)(Z:Nat->Nat)(l:List IE)(Y:Nat)(I:Addr)(u:Nat)(tu:Tok):ZH w:=jn [fy Z 2 0x2010201,[(0,.ai (qd 1 2 (.int u tu)))],fy Z 25 0xa0214020a000a000a000a030801060006030604060214061500140215001408000208000604060306030601000301000004,[(0,.ai (kU 5 l Y none))],fy Z 44 0xa010a000a01140308010600060306040602140719011807180b18011802180418021a0619011807180b18011802180418021a0519011807180b18011802180418021a011a061b001a021b001a0a18011825140615001405,[(0,.ai (mX 5 l Y))],fy Z 17 0x1c0200021c001c001c001c0318011807180e18041802000301000006140315001405,[(0,.ai (eJ (Z 14)))],[(1,.tail)]]
def SO(w:ZW)(q:Option (Nat×Tok×Addr))(l:List IE)(Z:Nat)(I:Addr)(u:Nat)(tu:Tok):ZH w:=match q with
 |none=>Ma w (Ce 6 2 0 1) l Z I u tu
 |some _=>Mb w (Ce 6 2 0 1) l Z I u tu
def SP(w:ZW)(q:Option (Nat×Tok×Addr))(l:List IE)(Z u:Nat)(tu:Tok):ZH w:=match q with
 |none=>Mc w (Ce 6 1 0 0) l Z 0 u tu
 |some _=>Md w (Ce 6 2 0 0) l Z 0 u tu
noncomputable def kq(k:ZT)(q:Option (Nat×Tok×Addr))(a b:Tok):Nat->Tok:=match q with
 |none=>KK [k 0,k 1,k 2,k 3,k 4,a,b,k 7]
 |some _=>k
noncomputable def Co:Pos:=⟨134,12,134,45⟩
set_option tactic.hygienic false
theorem bj{α:Type}(f:Nat->α)(v:Nat)(y:α):aW f v y v=y:=by
 show(match Nat.beq v v with|true=>y|false=>f v)=y
 rw[Nat.beq_refl]
theorem bI{α:Type}(f:Nat->α){v n:Nat}(y:α)(h:n≠v):aW f v y n=f n:=by
 show(match Nat.beq n v with|true=>y|false=>f n)=f n
 cases q:Nat.beq n v with
 |true=>exact absurd (so q) h
 |false=>rfl
noncomputable def df(x:NS)(u:Nat):ZA:=[(x.ia u,c8 (x.da u) u (x.tv u) (x.np u) (x.tn u) (x.ja u)),(x.ja u,ae (x.sc u) (x.ep u))]
theorem cv(x:NS)(v:Nat)(Z:ZN):aT x (v::Z)=df x v++aT x Z:=rfl
theorem fU(x:NS):∀(Y Z:ZN),aT x (Y++Z)=aT x Y++aT x Z
 |[],_=>rfl
 |v::Y,Z=>by rw[pe,cv,cv,fU x Y Z,br]
theorem vC{x:NS}{p:Addr×Obj}{u:Nat}:∀{Z:ZN},u∈Z->p∈df x u->p∈aT x Z
 |[],h,_=>nomatch h
 |v::Z,h,hp=>by
  rw[cv];rcases bc.mp h with rfl|h
  .exact dN _ hp
  .exact cz _ (vC h hp)
theorem d8{x y:NS}:∀{π:ZN},(∀u∈π,df x u=df y u)->aT x π=aT y π
 |[],_=>rfl
 |v::π,h=>by rw[cv,cv,h v (.head _),d8 fun u Z=>h u (.tail _ Z)]
theorem l4(x:NS){Z:ZN}{u:Nat}(Y:Z.Nodup)(W:u∈Z):∃R,∀y:NS,(∀n∈Z,n≠u->df y n=df x n)->(aT y Z).Perm (df y u++R):=by
 obtain⟨a,b,rfl⟩:=sr W;rw[eG]at Y;refine⟨aT x a++aT x b,fun y X=>?_⟩
 rw[fU,cv,d8 fun n hn=>X n (dN _ hn) (Y.2.2 n hn u (.head _)),d8 (π:=b) fun n hn=>X n (cz _ (.tail _ hn)) fun e=>(cy.mp Y.2.1).1 (e▸hn)]
 exact List.perm_append_comm_assoc ..
structure PG where
 π:ZN
 np:Nat->Int
 sc:Nat->ZN
noncomputable def dj(Z:ZN)(u:Nat):ZN:=if u∈Z then Z else Z++[u]
noncomputable def PG.eC(v:Nat)(g:PG)(u:Nat):PG:=⟨dj g.π u,g.np,aW g.sc u (g.sc u++[v])⟩
noncomputable def PG.node(g:PG)(v:Nat)(n:Nat):PG:=⟨dj g.π v,aW g.np v (g.np v+n),g.sc⟩
noncomputable def PG.add(g:PG)(v:Nat)(Z:ZN):PG:=Z.foldl (PG.eC v) (g.node v Z.length)
def bW:ZY->ZN->Prop
 |[],[]=>True
 |v::vs,n::ns=>(∃t,v=.int n t)/\bW vs ns
 |_,_=>False
theorem bW.app:∀{a:ZY} {x:ZN} {b:ZY} {y:ZN},bW a x->bW b y->bW (a++b) (x++y)
 |[],[],_,_,_,h=>h
 |_::_,_::_,_,_,h,k=>⟨h.1,bW.app h.2 k⟩
 |[],_::_,_,_,h,_=>h.elim
 |_::_,[],_,_,h,_=>h.elim
theorem bW.len:∀{a:ZY} {x:ZN},bW a x->a.length=x.length
 |[],[],_=>rfl
 |_::_,_::_,h=>by simp[bW.len h.2]
 |[],_::_,h=>h.elim
 |_::_,[],h=>h.elim
structure NG(x:NS)(g:PG):Prop where
 nd:g.π.Nodup
 np:∀u∈g.π,x.np u=g.np u
 sc:∀u∈g.π,bW (x.sc u) (g.sc u)
 Jc:∀u,u∉g.π->g.np u=0
 Jd:∀u,u∉g.π->g.sc u=[]
theorem d5{x:NS}{u:Nat}:∀{Z:ZN},u∈Z->aG (dl x Z) u=some (.ref (x.ia u))
 |[],h=>nomatch h
 |v::Z,h=>by
  show(if((v:Nat):Int)=u then some (Value.ref (x.ia v))else aG (dl x Z) u)=_
  by_cases e:v=u
  .subst e;rw[if_pos rfl]
  .rw [if_neg (Nat.ToInt.of_diseq rfl rfl e)];rcases bc.mp h with h|h
   .exact absurd h.symm e
   .exact d5 h
theorem dA{x:NS}{u:Nat}:∀{Z:ZN},u∉Z->aG (dl x Z) u=none
 |[],_=>rfl
 |v::Z,h=>by
  show(if((v:Nat):Int)=u then some (Value.ref (x.ia v))else aG (dl x Z) u)=_
  rw[if_neg (fun e=>h (by rw[show v=u by exact mO.mp e];exact .head _))]
  exact dA fun q=>h (.tail _ q)
theorem NG.app{x:NS}{g:PG}(h:NG x g){u v:Nat}(Z:u∈g.π)(t:Tok):NG (x.app u (.int v t)) (g.eC v u):=by
 have e:(g.eC v u).π=g.π:=by show dj g.π u=_;rw[dj,if_pos Z]
 refine⟨by rw[e];exact h.nd,fun n hn=>h.np n (e▸hn),fun n hn=>?_,fun n hn=>h.Jc n (by rw[e]at hn;exact hn),fun n hn=>?_⟩
 .show bW (aW x.sc u _ n) (aW g.sc u _ n)
  by_cases q:n=u
  .subst q;rw[bj,bj];exact(h.sc n Z).app ⟨⟨t,rfl⟩,trivial⟩
  .rw [bI _ _ q,bI _ _ q];exact h.sc n (e▸hn)
 .rw [e]at hn;show aW g.sc u _ n=_
  have q:n≠u:=fun q=>hn (by rw[q];exact Z)
  rw[bI _ _ q];exact h.Jd n hn
theorem NG.qB{x:NS}{g:PG}(h:NG x g){u:Nat}(Z:u∉g.π)(a d j:Addr)(tu t0:Tok):NG (x.qB u a d j tu t0) ⟨g.π++[u],g.np,g.sc⟩:=by
 refine⟨?_,fun n hn=>?_,fun n hn=>?_,fun n hn=>h.Jc n fun q=>hn (dN _ q),fun n hn=>h.Jd n fun q=>hn (dN _ q)⟩
 .show (g.π++[u]).Nodup
  rw[eG];exact⟨h.nd,by simp,fun a X b Y e=>Z (by rw[List.mem_singleton.mp Y]at e;exact e▸X)⟩
 .show aW x.np u 0 n=g.np n
  by_cases q:n=u
  .subst q;rw[bj,h.Jc n Z]
  .rw [bI _ _ q];rcases bJ.mp hn with hn|hn
   .exact h.np n hn
   .exact absurd (bQ.mp hn) q
 .show bW (aW x.sc u [] n) (g.sc n)
  by_cases q:n=u
  .subst q;rw[bj,h.Jd n Z];trivial
  .rw [bI _ _ q];rcases bJ.mp hn with hn|hn
   .exact h.sc n hn
   .exact absurd (bQ.mp hn) q
theorem xt{x:NS}{Z:ZN}{u:Nat}(Y:u∉Z)(a d j:Addr)(tu t0:Tok):dl (x.qB u a d j tu t0) (Z++[u])=dl x Z++[((u:Int),tu,.ref a)]:=by
 unfold dl;rw[aL]
 congr 1
 .refine jA fun n hn=>?_
  have q:n≠u:=fun e=>Y (e▸hn)
  show((n:Int),aW x.tv u tu n,Value.ref (aW x.ia u a n))=_
  rw[bI _ _ q,bI _ _ q]
 .show [((u:Int),aW x.tv u tu u,Value.ref (aW x.ia u a u))]=_
  rw[bj,bj]
theorem qC{x:NS}{u n:Nat}(h:n≠u)(a d j:Addr)(tu t0:Tok):df (x.qB u a d j tu t0) n=df x n:=by
 show[(aW x.ia u a n,c8 (aW x.da u d n) n (aW x.tv u tu n) (aW x.np u 0 n) (aW x.tn u t0 n) (aW x.ja u j n)),(aW x.ja u j n,ae (aW x.sc u [] n) (aW x.ep u 0 n))]=_
 simp only[bI _ _ h];rfl
theorem qD{x:NS}{u n:Nat}(h:n≠u)(v:ZV):df (x.app u v) n=df x n:=by
 show[(x.ia n,c8 (x.da n) n (x.tv n) (x.np n) (x.tn n) (x.ja n)),(x.ja n,ae (aW x.sc u _ n) (aW x.ep u _ n))]=_
 simp only[bI _ _ h];rfl
theorem iP{x:NS}{u:Nat}(v:ZV):df (x.app u v) u=[(x.ia u,c8 (x.da u) u (x.tv u) (x.np u) (x.tn u) (x.ja u)),(x.ja u,ae (x.sc u++[v]) (x.ep u+1))]:=by
 show[(x.ia u,c8 (x.da u) u (x.tv u) (x.np u) (x.tn u) (x.ja u)),(x.ja u,ae (aW x.sc u _ u) (aW x.ep u _ u))]=_
 simp only[bj]
noncomputable def NS.j6(x:NS)(v:Nat)(n:Int)(t:Tok):NS:={x with np:=aW x.np v (x.np v+n),tn:=aW x.tn v t}
theorem nB{x:NS}{u n:Nat}(h:n≠u)(m:Int)(t:Tok):df (x.j6 u m t) n=df x n:=by
 show[(x.ia n,c8 (x.da n) n (x.tv n) (aW x.np u _ n) (aW x.tn u t n) (x.ja n)),(x.ja n,ae (x.sc n) (x.ep n))]=_
 simp only[bI _ _ h];rfl
theorem ic{x:NS}{u:Nat}(m:Int)(t:Tok):df (x.j6 u m t) u=[(x.ia u,c8 (x.da u) u (x.tv u) (x.np u+m) t (x.ja u)),(x.ja u,ae (x.sc u) (x.ep u))]:=by
 show[(x.ia u,c8 (x.da u) u (x.tv u) (aW x.np u _ u) (aW x.tn u t u) (x.ja u)),(x.ja u,ae (x.sc u) (x.ep u))]=_
 simp only[bj]
theorem NG.j6{x:NS}{g:PG}(h:NG x g){v:Nat}(Z:v∈g.π)(m:Nat)(t:Tok):NG (x.j6 v m t) (g.node v m):=by
 have e:(g.node v m).π=g.π:=by show dj g.π v=_;rw[dj,if_pos Z]
 refine⟨by rw[e];exact h.nd,fun n hn=>?_,fun n hn=>h.sc n (by rw[e]at hn;exact hn),fun n hn=>?_,fun n hn=>h.Jd n (by rw[e]at hn;exact hn)⟩
 .rw [e]at hn;show aW x.np v _ n=aW g.np v _ n
  by_cases q:n=v
  .subst q;rw[bj,bj,h.np n Z]
  .rw [bI _ _ q,bI _ _ q];exact h.np n hn
 .rw [e]at hn;have q:n≠v:=fun q=>hn (q▸Z)
  show aW g.np v _ n=0
  rw[bI _ _ q];exact h.Jc n hn
theorem y4{g:PG}{v m:Nat}(Z:v∉g.π):(⟨g.π++[v],g.np,g.sc⟩:PG).node v m=g.node v m:=by
 show(⟨dj (g.π++[v]) v,aW g.np v (g.np v+m),g.sc⟩:PG)=⟨dj g.π v,aW g.np v (g.np v+m),g.sc⟩
 rw[dj,if_pos (by simp),dj,if_neg Z]
theorem qF(Z:ZN)(u:Nat):(dj Z u).length<=Z.length+1:=by unfold dj;split<;>simp
section
open PySem.F
section
set_option tactic.hygienic false
theorem xu(m:Nat):(((m+1:Nat):Int)-1)=(m:Int):=by rw[Int.natCast_succ,Int.add_sub_cancel]
theorem lA{i k n:Nat}(h:i+(k+1)=n):i<n:=by lia
theorem lB{i k n:Nat}(h:i+(k+1)=n):i+1+k=n:=by lia
inductive Bk where
 |o (a:Addr) (x:Obj)
 |l (L:ZA)
noncomputable def fl:List Bk->ZA
 |[]=>[]
 |.o a x::r=>(a,x)::fl r
 |[.l L]=>L
 |.l L::r=>L++fl r
noncomputable def sg(L:ZA):List Bk:=L.map fun p=>.o p.1 p.2
noncomputable def Bk.L:Bk->ZA
 |.o a x=>[(a,x)]
 |.l L=>L
theorem cZ(b:Bk)(r:List Bk):fl (b::r)=b.L++fl r:=by
 cases b with
 |o a x=>rfl
 |l L=>cases r with
  |nil=>exact(bY L).symm
  |cons c r=>rfl
theorem cE:∀a b:List Bk,fl (a++b)=fl a++fl b
 |[],_=>rfl
 |x::a,b=>by rw[pe,cZ,cZ,cE a b,br]
theorem kV:∀L:ZA,fl (sg L)=L
 |[]=>rfl
 |(a,x)::L=>congrArg ((a,x)::·) (kV L)
theorem lq{a b:List Bk}(h:a.Perm b):(fl a).Perm (fl b):=by
 induction h with
 |nil=>exact List.Perm.refl _
 |cons x _ X=>rw[cZ,cZ];exact List.Perm.append_left _ X
 |swap x y l=>rw[cZ,cZ,cZ,cZ,←br,←br];exact List.Perm.append_right _ mN
 |trans _ _ Y Z=>exact Y.trans Z
noncomputable def kI:ZN->Nat
 |[]=>0
 |i::r=>bif Nat.ble (i+1) (kI r)then kI r else i+1
noncomputable def pB(Z:ZN)(bs:List Bk):List Bk:=pk Z ((bs.take (kI Z)).map some)
noncomputable def rB(Z:ZN)(bs:List Bk):List Bk:=rs Z ((bs.take (kI Z)).map some)++bs.drop (kI Z)
theorem oO(Z:ZN)(bs:List Bk):bs.Perm (pB Z bs++rB Z bs):=by
 have h:=ny Z (bs.take (kI Z)) (bs.drop (kI Z))
 rwa [List.take_append_drop]at h
theorem jR(Z:ZN)(bs:List Bk):(fl bs).Perm (fl (pB Z bs)++fl (rB Z bs)):=by rw[←cE];exact lq (oO Z bs)
def Hq[ZI](w:ZW)(s:ZS)(bs:List Bk)(bg:List aQ):Prop:=Hp w s (fl bs) bg
section
variable{w:ZW}{W:ZC}{Z:Option ZV}{B:aS}{s:ZS}{bs:List Bk}{bg:List aQ}{X:ZH w}{c:Code}{pos:Pos}{U:ZE}{own:List Frame}{n:Nat}{Y:ZN}{o:ZL->ay}{V new:ZL->ZA}{N t:ZL->Nat}{S:Nat}{ps:ZL->List Prop}{Q:ZR}
noncomputable def pT(W:ZN)(m:Nat)(bs:List Bk):List Bk:=pk W ((bs.take m).map some)++bs.drop m
theorem Hq.to[ZI]{cs:List Bk}(h:Hq w s bs bg)(e:fl bs=fl cs):Hq w s cs bg:=by unfold Hq at h⊢;rw[←e];exact h
theorem Hq.p[ZI](h:Hq w s bs bg)(W:ZN)(m:Nat:=99){cs:List Bk}(e:fl (pT W m bs)=fl cs:=by kernel_rfl):Hq w s cs bg:=by
 have q:=ny W (bs.take m) (bs.drop m)
 rw[List.take_append_drop]at q;refine Hq.to (bs:=pT W m bs) (Hp.of (R:=fl (rs W ((bs.take m).map some))) h ?_) e;rw[←cE];refine lq (q.trans ?_);unfold pT;rw[br];exact List.Perm.append_left _ mN
theorem Hq.u[ZI](h:Hq w s bs bg)(W:ZN)(m:Nat:=99){L:ZA}(e:fl (pT W m bs)=L:=by kernel_rfl):Hp w s L bg:=by subst e;exact h.p W m rfl
theorem Hp.q[ZI]{L:ZA}(h:Hp w s L bg){cs:List Bk}(e:L=fl cs:=by kernel_rfl):Hq w s cs bg:=by subst e;exact h
theorem Hq.ch[ZI](h:Hq w s bs bg)(W:ZN){R T:ZA}(p:R.Perm T)(cs:List Bk)(P:fl (pB W bs)=R:=by kernel_rfl)(Q:T=fl cs:=by rfl):Hq w s (cs++rB W bs) bg:=by subst P Q;unfold Hq at h⊢;rw[cE];exact h.perm ((jR W bs).trans (List.Perm.append_right _ p))
theorem Hq.tidy[ZI]{W:ZS}{A new:ZA}{r:List Bk}(h:Hp w W (A++(new++fl r)) bg):Hq w W (sg A++(sg new++r)) bg:=by unfold Hq;rw[cE,cE,kV,kV];exact h
abbrev Rn(w:ZW)(B:aS)(s:ZS)(c:Code)(pos:Pos)(Q:ZR):Prop:=a8 pg w B s c pos (den c) [] Q
abbrev Rk(w:ZW)(B:aS)(s:ZS)(o:ay)(r:Result)(Q:ZR):Prop:=a8 pg w B s (bp o).c (bp o).pos ((bp o).k r) (bp o).own Q
theorem Rk.z{B:aS}{s:ZS}{o W:ay}{r:Result}{Q:ZR}(e:bp o=bp W)(h:Rk w B s W r Q):Rk w B s o r Q:=by unfold Rk at h⊢;rw[e];exact h
theorem Rn.of{Q:ZR}(h:a8 pg w B s c pos (denote table c) [] Q):Rn w B s c pos Q:=by unfold Rn;rw[←eY];exact h
theorem Rn.to{Q:ZR}(h:Rn w B s c pos Q):a8 pg w B s c pos (denote table c) [] Q:=by rw[eY];exact h
theorem UQ[ZI](R:ZN){L:ZA}{M:ZL->Code}{pos':ZL->Pos}(b:Bt W Z B)(H:Hq w s bs bg)(T:∀fr,f5 n Y (o fr) (M fr) (pos' fr) (V fr) (new fr) (N fr) (t fr) s.gens S (ps fr) [])(J:∀fr,o fr=cu ⟨pg,w,kp w,W,Z⟩ X fr c pos U own L [] s.heap.objs.size s.toks s.gens)(O:∀fr,aO (ps fr))(K:∀fr P,Hq w P (sg (V fr)++(sg (new fr)++rB R bs)) bg->Rn w B P (M fr) (pos' fr) Q)(I:fl (pB R bs)=L:=by kernel_rfl)(hn:L.length=n:=by kernel_rfl)(hA:∀fr,(V fr).map (·.1)=L.map (·.1):=by intro _;kernel_rfl)(hx:∀fr,dP n Y (new fr).length=true:=by intro _;kernel_rfl):a8 pg w B s c pos U own Q:=by subst hn I;exact Cj b H (jR R bs) mY (fun fr=>J fr▸T fr) O hA hx fun fr P h=>(K fr P (Hq.tidy h)).to
theorem UR[ZI](R:ZN){L:ZA}{r:ZL->Result}(b:Bt W Z B)(H:Hq w s bs bg)(T:∀fr,iq n Y (o fr) (r fr) (V fr) (new fr) (N fr) (t fr) s.gens S (ps fr) [])(M:∀fr,o fr=cu ⟨pg,w,kp w,W,Z⟩ X fr c pos U own L [] s.heap.objs.size s.toks s.gens)(O:∀fr,aO (ps fr))(K:∀fr P,Hq w P (sg (V fr)++(sg (new fr)++rB R bs)) bg->Q (r fr) P)(J:fl (pB R bs)=L:=by kernel_rfl)(hn:L.length=n:=by kernel_rfl)(hA:∀fr,(V fr).map (·.1)=L.map (·.1):=by intro _;kernel_rfl)(hx:∀fr,dP n Y (new fr).length=true:=by intro _;kernel_rfl):a8 pg w B s c pos U own Q:=by subst hn J;exact Ck b H (jR R bs) mY (fun fr=>M fr▸T fr) O hA hx fun fr P h=>K fr P (Hq.tidy h)
theorem US[ZI](R:ZN){L:ZA}{E:ZL->Code}{D:ZC}{O:Option ZV}(b:Bt W Z B)(H:Hq w s bs bg)(T:∀fr,ir ⟨pg,w,kp w,W,Z⟩ n Y (o fr) (E fr) D O (V fr) (new fr) (N fr) (t fr) s.gens S (ps fr) [])(F:∀fr,o fr=cu ⟨pg,w,kp w,W,Z⟩ X fr c pos U own L [] s.heap.objs.size s.toks s.gens)(I:∀fr,aO (ps fr))(K:∀fr M,Hq w M (sg (V fr)++(sg (new fr)++rB R bs)) bg->∀J:aS,Bt D O J->Rn w J M (E fr) (bp (o fr)).p0 (fun r P=>Rk w B P (o fr) r Q))(C:fl (pB R bs)=L:=by kernel_rfl)(hn:L.length=n:=by kernel_rfl)(hA:∀fr,(V fr).map (·.1)=L.map (·.1):=by intro _;kernel_rfl)(hx:∀fr,dP n Y (new fr).length=true:=by intro _;kernel_rfl):a8 pg w B s c pos U own Q:=by
 subst hn C;refine Cm b H (jR R bs) mY (fun fr=>F fr▸T fr) I hA hx fun fr M z G h=>?_
 subst G;rw[←F fr];exact⟨_,fun J A=>(K fr M (Hq.tidy h) J A).to,fun r P h=>h⟩
theorem Cp[ZI](R:ZN){o0:ay}{M:Result}{L:ZA}{I:ZL->Code}{pos':ZL->Pos}(b:Bt W Z B)(H:Hq w s bs bg)(T:∀fr,f5 n Y (o fr) (I fr) (pos' fr) (V fr) (new fr) (N fr) (t fr) s.gens S (ps fr) [])(J:∀fr,o fr=bo ⟨pg,w,kp w,W,Z⟩ X fr o0 M L [] s.heap.objs.size s.toks s.gens)(P:∀fr,aO (ps fr))(K:∀fr O,Hq w O (sg (V fr)++(sg (new fr)++rB R bs)) bg->Rn w B O (I fr) (pos' fr) Q)(hL:fl (pB R bs)=L:=by kernel_rfl)(hn:L.length=n:=by kernel_rfl)(hA:∀fr,(V fr).map (·.1)=L.map (·.1):=by intro _;kernel_rfl)(hx:∀fr,dP n Y (new fr).length=true:=by intro _;kernel_rfl):Rk w B s o0 M Q:=by delta bo at J;exact UQ R b H T J P K hL hn hA hx
theorem Ae[ZI](R:ZN){o0:ay}{M:Result}{L:ZA}{r:ZL->Result}(b:Bt W Z B)(H:Hq w s bs bg)(T:∀fr,iq n Y (o fr) (r fr) (V fr) (new fr) (N fr) (t fr) s.gens S (ps fr) [])(J:∀fr,o fr=bo ⟨pg,w,kp w,W,Z⟩ X fr o0 M L [] s.heap.objs.size s.toks s.gens)(P:∀fr,aO (ps fr))(K:∀fr O,Hq w O (sg (V fr)++(sg (new fr)++rB R bs)) bg->Q (r fr) O)(I:fl (pB R bs)=L:=by kernel_rfl)(hn:L.length=n:=by kernel_rfl)(hA:∀fr,(V fr).map (·.1)=L.map (·.1):=by intro _;kernel_rfl)(hx:∀fr,dP n Y (new fr).length=true:=by intro _;kernel_rfl):Rk w B s o0 M Q:=by delta bo at J;exact UR R b H T J P K I hn hA hx
theorem WA[ZI](R:ZN){o0:ay}{I:Result}{L:ZA}{F:ZL->Code}{E:ZC}{P:Option ZV}(b:Bt W Z B)(H:Hq w s bs bg)(T:∀fr,ir ⟨pg,w,kp w,W,Z⟩ n Y (o fr) (F fr) E P (V fr) (new fr) (N fr) (t fr) s.gens S (ps fr) [])(G:∀fr,o fr=bo ⟨pg,w,kp w,W,Z⟩ X fr o0 I L [] s.heap.objs.size s.toks s.gens)(M:∀fr,aO (ps fr))(K:∀fr J,Hq w J (sg (V fr)++(sg (new fr)++rB R bs)) bg->∀D:aS,Bt E P D->Rn w D J (F fr) (bp (o fr)).p0 (fun r O=>Rk w B O (o fr) r Q))(hL:fl (pB R bs)=L:=by kernel_rfl)(hn:L.length=n:=by kernel_rfl)(hA:∀fr,(V fr).map (·.1)=L.map (·.1):=by intro _;kernel_rfl)(hx:∀fr,dP n Y (new fr).length=true:=by intro _;kernel_rfl):Rk w B s o0 I Q:=by delta bo at G;exact US R b H T G M K hL hn hA hx
theorem hT[ZI](R:ZN){L:ZA}{M:ZL->Code}{pos':ZL->Pos}(b:Bt W Z B)(H:Hq w s bs bg)(T:∀fr,f5 n Y (o fr) (M fr) (pos' fr) (V fr) (new fr) (N fr) (t fr) s.gens S (ps fr) [])(J:∀fr,o fr=aq ⟨pg,w,kp w,W,Z⟩ X fr c pos L [] s.heap.objs.size s.toks s.gens)(P:∀fr,aO (ps fr))(K:∀fr O,Hq w O (sg (V fr)++(sg (new fr)++rB R bs)) bg->Rn w B O (M fr) (pos' fr) Q)(hL:fl (pB R bs)=L:=by kernel_rfl)(hn:L.length=n:=by kernel_rfl)(hA:∀fr,(V fr).map (·.1)=L.map (·.1):=by intro _;kernel_rfl)(hx:∀fr,dP n Y (new fr).length=true:=by intro _;kernel_rfl):Rn w B s c pos Q:=UQ R b H T (fun fr=>(J fr).trans rfl) P K hL hn hA hx
theorem hF[ZI](R:ZN){L:ZA}{r:ZL->Result}(b:Bt W Z B)(H:Hq w s bs bg)(T:∀fr,iq n Y (o fr) (r fr) (V fr) (new fr) (N fr) (t fr) s.gens S (ps fr) [])(M:∀fr,o fr=aq ⟨pg,w,kp w,W,Z⟩ X fr c pos L [] s.heap.objs.size s.toks s.gens)(P:∀fr,aO (ps fr))(K:∀fr O,Hq w O (sg (V fr)++(sg (new fr)++rB R bs)) bg->Q (r fr) O)(J:fl (pB R bs)=L:=by kernel_rfl)(hn:L.length=n:=by kernel_rfl)(hA:∀fr,(V fr).map (·.1)=L.map (·.1):=by intro _;kernel_rfl)(hx:∀fr,dP n Y (new fr).length=true:=by intro _;kernel_rfl):Rn w B s c pos Q:=UR R b H T (fun fr=>(M fr).trans rfl) P K J hn hA hx
theorem hS[ZI](R:ZN){L:ZA}{I:ZL->Code}{G:ZC}{P:Option ZV}(b:Bt W Z B)(H:Hq w s bs bg)(T:∀fr,ir ⟨pg,w,kp w,W,Z⟩ n Y (o fr) (I fr) G P (V fr) (new fr) (N fr) (t fr) s.gens S (ps fr) [])(E:∀fr,o fr=aq ⟨pg,w,kp w,W,Z⟩ X fr c pos L [] s.heap.objs.size s.toks s.gens)(M:∀fr,aO (ps fr))(K:∀fr J,Hq w J (sg (V fr)++(sg (new fr)++rB R bs)) bg->∀F:aS,Bt G P F->Rn w F J (I fr) (bp (o fr)).p0 (fun r O=>Rk w B O (o fr) r Q))(D:fl (pB R bs)=L:=by kernel_rfl)(hn:L.length=n:=by kernel_rfl)(hA:∀fr,(V fr).map (·.1)=L.map (·.1):=by intro _;kernel_rfl)(hx:∀fr,dP n Y (new fr).length=true:=by intro _;kernel_rfl):Rn w B s c pos Q:=US R b H T (fun fr=>(E fr).trans rfl) M K D hn hA hx
def zT(q:ZL->c7)(n:Nat)(Y:ZN):ZL->ay×List Addr×Nat×Bool:=fun fr=>lh (q fr).o (q fr).r n Y
def zF(q:ZL->dp)(n:Nat)(Y:ZN):ZL->ay×List Addr×Nat×Bool:=fun fr=>lh (q fr).o (q fr).r n Y
def zS(q:ZL->dK)(n:Nat)(Y:ZN):ZL->ay×List Addr×Nat×Bool:=fun fr=>lh (q fr).o (q fr).r n Y
def zG(w:ZW)(W:ZC)(Z:Option ZV)(X:ZH w)(c:Code)(pos:Pos)(U:ZE)(own:List Frame)(L:ZA)(s:ZS):ZL->ay×List Addr×Nat×Bool:=fun fr=>rh (cu ⟨pg,w,kp w,W,Z⟩ X fr c pos U own L [] s.heap.objs.size s.toks s.gens) L
def zB(w:ZW)(W:ZC)(Z:Option ZV)(X:ZH w)(c:Code)(pos:Pos)(L:ZA)(s:ZS):ZL->ay×List Addr×Nat×Bool:=fun fr=>rh (aq ⟨pg,w,kp w,W,Z⟩ X fr c pos L [] s.heap.objs.size s.toks s.gens) L
def zK(w:ZW)(W:ZC)(Z:Option ZV)(X:ZH w)(o:ay)(r:Result)(L:ZA)(s:ZS):ZL->ay×List Addr×Nat×Bool:=fun fr=>rh (bo ⟨pg,w,kp w,W,Z⟩ X fr o r L [] s.heap.objs.size s.toks s.gens) L
theorem UT[ZI](R:ZN){J:Pos}{q:ZL->c7}(b:Bt W Z B)(H:Hq w s bs bg)(T:∀fr,(q fr).ok X J n Y s.gens)(L:∀fr,aO (q fr).r.P)(K:∀fr O,Hq w O (sg (q fr).r.A++(sg (q fr).r.B++rB R bs)) bg->Rn w B O (q fr).c (q fr).p Q)(M:zT q n Y=zG w W Z X c pos U own (fl (pB R bs)) s):a8 pg w B s c pos U own Q:=by
 have hn:n=(fl (pB R bs)).length:=congrArg (fun z=>z.2.2.1) (congrFun M [])
 subst hn;have e:∀fr,(q fr).o=cu ⟨pg,w,kp w,W,Z⟩ X fr c pos U own (fl (pB R bs)) [] s.heap.objs.size s.toks s.gens:=fun fr=>congrArg (fun z=>z.1) (congrFun M fr)
 exact Cj (hs:=X) (N:=fun fr=>(q fr).N) (t:=fun fr=>(q fr).t) (ng:=0) b H (jR R bs) mY (fun fr=>by have t:=T fr;unfold c7.ok f5 at t;rw[e fr]at t;exact t) L (fun fr=>congrArg (·.2.1) (congrFun M fr)) (fun fr=>congrArg (·.2.2.2) (congrFun M fr)) fun fr O h=>(K fr O (Hq.tidy h)).to
theorem qG[ZI](R:ZN){o0:ay}{M:Result}{q:ZL->c7}(b:Bt W Z B)(H:Hq w s bs bg)(T:∀fr,(q fr).ok X ⟨0,0,0,0⟩ n Y s.gens)(O:∀fr,aO (q fr).r.P)(K:∀fr N,Hq w N (sg (q fr).r.A++(sg (q fr).r.B++rB R bs)) bg->Rn w B N (q fr).c (q fr).p Q)(L:zT q n Y=zK w W Z X o0 M (fl (pB R bs)) s:=by kernel_rfl):Rk w B s o0 M Q:=by delta zK bo at L;exact UT R b H T O K L
theorem kT[ZI](R:ZN){q:ZL->c7}(b:Bt W Z B)(H:Hq w s bs bg)(T:∀fr,(q fr).ok X pos n Y s.gens)(O:∀fr,aO (q fr).r.P)(K:∀fr N,Hq w N (sg (q fr).r.A++(sg (q fr).r.B++rB R bs)) bg->Rn w B N (q fr).c (q fr).p Q)(M:zT q n Y=zB w W Z X c pos (fl (pB R bs)) s:=by kernel_rfl):Rn w B s c pos Q:=UT R b H T O K M
theorem UU[ZI](R:ZN){J:Pos}{q:ZL->dp}(b:Bt W Z B)(H:Hq w s bs bg)(T:∀fr,(q fr).ok X J n Y s.gens)(L:∀fr,aO (q fr).r.P)(K:∀fr O,Hq w O (sg (q fr).r.A++(sg (q fr).r.B++rB R bs)) bg->Q (q fr).x O)(M:zF q n Y=zG w W Z X c pos U own (fl (pB R bs)) s):a8 pg w B s c pos U own Q:=by
 have hn:n=(fl (pB R bs)).length:=congrArg (fun z=>z.2.2.1) (congrFun M [])
 subst hn;have e:∀fr,(q fr).o=cu ⟨pg,w,kp w,W,Z⟩ X fr c pos U own (fl (pB R bs)) [] s.heap.objs.size s.toks s.gens:=fun fr=>congrArg (fun z=>z.1) (congrFun M fr)
 exact Ck (hs:=X) (N:=fun fr=>(q fr).N) (t:=fun fr=>(q fr).t) (ng:=0) b H (jR R bs) mY (fun fr=>by have t:=T fr;unfold dp.ok iq at t;rw[e fr]at t;exact t) L (fun fr=>congrArg (·.2.1) (congrFun M fr)) (fun fr=>congrArg (·.2.2.2) (congrFun M fr)) fun fr O h=>K fr O (Hq.tidy h)
theorem pE[ZI](R:ZN){o0:ay}{M:Result}{q:ZL->dp}(b:Bt W Z B)(H:Hq w s bs bg)(T:∀fr,(q fr).ok X ⟨0,0,0,0⟩ n Y s.gens)(O:∀fr,aO (q fr).r.P)(K:∀fr N,Hq w N (sg (q fr).r.A++(sg (q fr).r.B++rB R bs)) bg->Q (q fr).x N)(L:zF q n Y=zK w W Z X o0 M (fl (pB R bs)) s:=by kernel_rfl):Rk w B s o0 M Q:=by delta zK bo at L;exact UU R b H T O K L
theorem kF[ZI](R:ZN){q:ZL->dp}(b:Bt W Z B)(H:Hq w s bs bg)(T:∀fr,(q fr).ok X pos n Y s.gens)(O:∀fr,aO (q fr).r.P)(K:∀fr N,Hq w N (sg (q fr).r.A++(sg (q fr).r.B++rB R bs)) bg->Q (q fr).x N)(M:zF q n Y=zB w W Z X c pos (fl (pB R bs)) s:=by kernel_rfl):Rn w B s c pos Q:=UU R b H T O K M
theorem UW[ZI](R:ZN){E:Pos}{q:ZL->dK}{F:ZC}(b:Bt W Z B)(H:Hq w s bs bg)(T:∀fr,(q fr).ok ⟨pg,w,kp w,W,Z⟩ X E F n Y s.gens)(I:∀fr,aO (q fr).r.P)(K:∀fr M,Hq w M (sg (q fr).r.A++(sg (q fr).r.B++rB R bs)) bg->∀J:aS,Bt F none J->Rn w J M (q fr).c (bp (q fr).o).p0 (fun r O=>Rk w B O (q fr).o r Q))(L:zS q n Y=zG w W Z X c pos U own (fl (pB R bs)) s):a8 pg w B s c pos U own Q:=by
 have hn:n=(fl (pB R bs)).length:=congrArg (fun z=>z.2.2.1) (congrFun L [])
 subst hn;have e:∀fr,(q fr).o=cu ⟨pg,w,kp w,W,Z⟩ X fr c pos U own (fl (pB R bs)) [] s.heap.objs.size s.toks s.gens:=fun fr=>congrArg (fun z=>z.1) (congrFun L fr)
 refine Cm (hs:=X) (N:=fun fr=>(q fr).N) (t:=fun fr=>(q fr).t) (ng:=0) b H (jR R bs) mY (fun fr=>by have t:=T fr;unfold dK.ok ir at t;rw[e fr]at t;exact t) I (fun fr=>congrArg (·.2.1) (congrFun L fr)) (fun fr=>congrArg (·.2.2.2) (congrFun L fr)) fun fr M C G h=>?_
 subst G;rw[←e fr];exact⟨_,fun J D=>(K fr M (Hq.tidy h) J D).to,fun r O h=>h⟩
theorem m5[ZI](R:ZN){o0:ay}{L:Result}{q:ZL->dK}{I:ZC}(b:Bt W Z B)(H:Hq w s bs bg)(T:∀fr,(q fr).ok ⟨pg,w,kp w,W,Z⟩ X ⟨0,0,0,0⟩ I n Y s.gens)(N:∀fr,aO (q fr).r.P)(K:∀fr M,Hq w M (sg (q fr).r.A++(sg (q fr).r.B++rB R bs)) bg->∀G:aS,Bt I none G->Rn w G M (q fr).c (bp (q fr).o).p0 (fun r O=>Rk w B O (q fr).o r Q))(J:zS q n Y=zK w W Z X o0 L (fl (pB R bs)) s:=by kernel_rfl):Rk w B s o0 L Q:=by delta zK bo at J;exact UW R b H T N K J
theorem kS[ZI](R:ZN){q:ZL->dK}{L:ZC}(b:Bt W Z B)(H:Hq w s bs bg)(T:∀fr,(q fr).ok ⟨pg,w,kp w,W,Z⟩ X pos L n Y s.gens)(N:∀fr,aO (q fr).r.P)(K:∀fr M,Hq w M (sg (q fr).r.A++(sg (q fr).r.B++rB R bs)) bg->∀J:aS,Bt L none J->Rn w J M (q fr).c (bp (q fr).o).p0 (fun r O=>Rk w B O (q fr).o r Q))(I:zS q n Y=zB w W Z X c pos (fl (pB R bs)) s:=by kernel_rfl):Rn w B s c pos Q:=UW R b H T N K I
end
end
end
section
set_option tactic.hygienic false
def Me(w:ZW)(Z:Nat->Nat):ZH w:=jn [fy Z 2 0x2010201,[(0,.ai (vx 1 2))],fy Z 1 0x1200,[(1,.fin)]]
def Mf(w:ZW)(Z:Nat->Nat):ZH w:=jn [fy Z 2 0x2010201,[(0,.ai (vx 1 2))],fy Z 1 0x1600,[(1,.fin)]]
def SQ(w:ZW)(q:Option (Nat×Tok×Addr)):ZH w:=match q with
 |none=>Me w (Ce 6 1 0 0)
 |some _=>Mf w (Ce 6 2 0 0)
section
variable(w:ZW)(L X T S W D V:Addr)(v:Nat)(Z:ZY)(Y:Nat)(s:ZT)
def Mg(k:ZT)(σ:Nat->Sk)(q:Option (Nat×Tok×Addr))(i:Nat)(l:List IE)(U:Nat)(I d J:Addr)(R Q:Tok)(O:Int)(P:ZY)(ep u:Nat)(tu:Tok)(fr:ZL)(pos:Pos)(N t:Nat)(G:ZG):ay:=aq ⟨pg,w,kp w,Wk σ Jb,none⟩ (SO w q l U I u tu) fr (nA w L X) pos (Cn w L X T S W D V v Z Y s k q i l U++[(I,c8 d u R O Q J),(J,ae P ep)]) [] N t G
theorem Mh(k:ZT)(σ:Nat->Sk)(q:Option (Nat×Tok×Addr))(i:Nat)(l:List IE)(U:Nat)(I d J:Addr)(Q P:Tok)(O:Int)(R:ZY)(ep u:Nat)(tu:Tok)(fr:ZL)(pos:Pos)(N t:Nat)(G:ZG):f5 8 [] (Mg w L X T S W D V v Z Y s k σ q i l U I d J Q P O R ep u tu fr pos N t G) (nA w L X) Co (Cn w L X T S W D V v Z Y s (kq k q t (t+6)) (some (u,tu,I)) (i+1) l U++[(I,c8 d u Q O P J),(J,ae (R++[.int v (k 2)]) (ep+1))]) [] (N+1) (t+8) G 0
   [R.length<=16777216,aG l u=some (.ref I),Z[i]?=some (.int u tu)] []:=by
 rcases q with _|⟨q1,K,M⟩<;>kernel_rfl
def Mi(k:ZT)(σ:Nat->Sk)(q:Option (Nat×Tok×Addr))(i:Nat)(l:List IE)(U u:Nat)(tu:Tok)(fr:ZL)(pos:Pos)(N t:Nat)(G:ZG):ay:=aq ⟨pg,w,kp w,Wk σ Jb,none⟩ (SP w q l U u tu) fr (nA w L X) pos (Cn w L X T S W D V v Z Y s k q i l U) [] N t G
theorem Mj(k:ZT)(σ:Nat->Sk)(q:Option (Nat×Tok×Addr))(i:Nat)(l:List IE)(U u:Nat)(tu:Tok)(fr:ZL)(pos:Pos)(N t:Nat)(G:ZG):f5 6 [8,10] (Mi w L X T S W D V v Z Y s k σ q i l U u tu fr pos N t G) (nA w L X) Co (Cn w L X T S W D V v Z Y s (kq k q t (t+15)) (some (u,tu,N+2)) (i+1) (l++[((u:Int),tu,.ref (N+2))]) (U+1)) [(N+2,c8 (N+1) u tu 0 (t+9) (N+4)),(N+4,ae [.int v (k 2)] 1)] (N+5) (t+17) G 0
   [([]:ZY).length<=16777216,aG l u=none,l.length<=1000,aG l u=none,Z[i]?=some (.int u tu)] []:=by
 rcases q with _|⟨q1,Q,R⟩<;>kernel_rfl
def Mk(k:ZT)(σ:Nat->Sk)(q:Option (Nat×Tok×Addr))(i:Nat)(l:List IE)(U:Nat)(fr:ZL)(pos:Pos)(N t:Nat)(G:ZG):ay:=aq ⟨pg,w,kp w,Wk σ Jb,none⟩ (SQ w q) fr (nA w L X) pos (Cn w L X T S W D V v Z Y s k q i l U) [] N t G
theorem Ml(k:ZT)(σ:Nat->Sk)(q:Option (Nat×Tok×Addr))(i:Nat)(l:List IE)(U:Nat)(fr:ZL)(pos:Pos)(N t:Nat)(G:ZG):iq 6 [] (Mk w L X T S W D V v Z Y s k σ q i l U fr pos N t G) (.ok .next) [(L,zQ w.params k S T V v q),(X,jO "tuple_iterator" i),(T,bK Z Y),(S,cp W),(W,cn w.params s D .none 0 0),(D,a9 l U)] [] (N+2) t G 0 [Z[i]?=none] []:=by rcases q with _|⟨q1,Q,R⟩<;>kernel_rfl
end
theorem UX(k:ZT)(q:Option (Nat×Tok×Addr))(a b:Tok):kq k q a b 2=k 2:=by cases q<;>rfl
theorem y5(x:NS)(u:Nat)(a d j:Addr)(tu t0:Tok)(v:ZV):df ((x.qB u a d j tu t0).app u v) u=[(a,c8 d u tu 0 t0 j),(j,ae [v] 1)]:=by rw[iP];simp only[NS.qB,bj,List.nil_append]
theorem uq[ZI]{Q:ZR}(w:ZW)(L r T S F D f:Addr)(v:Nat)(Z:ZY)(W:Nat)(s:ZT)(σ:Nat->Sk)(B:aS)(b:Bt (Wk σ Jb) none B)(k2:Tok)(bg:List aQ)(E:List Bk)(z:PG)(K:∀U d,NG d z->Hq w U ([.o S (cp F),.o F (cn w.params s D .none 0 0),.o D (dO d z.π z.π.length),.l (aT d z.π)]++E) bg->Q (.ok .next) U):∀(X:ZN)(i:Nat)(q:Option (Nat×Tok×Addr))(k:ZT)(x:NS)(g:PG)(h:ZN)(l:List IE)(I:Nat)(st:ZS)(pos:Pos),X.foldl (PG.eC v) g=z->bW (Z.drop i) X->k 2=k2->NG x g->g.π=h->dl x h=l->h.length=I->(∀u,(g.sc u).length+X.length<=500)->I+X.length<=500->
  Hq w st (sg (Cn w L r T S F D f v Z W s k q i l I)++.l (aT x h)::E) bg->Rn w B st (nA w L r) pos Q:=by
 intro X;induction X with
 |nil=>
  rintro i q k x g _ _ _ st pos rfl M hk G rfl rfl rfl V J H
  have hn:Z[i]?=none:=by
   cases e:Z.drop i with
   |nil=>rw[List.getElem?_eq_none_iff];exact List.drop_eq_nil_iff.mp e
   |cons a l=>rw[e]at M;exact M.elim
  exact hF [0,1,2,3,4,5] b H (fun fr=>Ml w L r T S F D f v Z W s k σ q i (dl x g.π) g.π.length fr pos (zN st) st.toks st.gens:) (fun c=>rfl) (fun c=>aa hn aj) fun fr U j=>K U x G (j.p [3,4,5,6] 7)
 |cons u X ih=>
  rintro i q k x g _ _ _ st pos hg M hk G rfl rfl rfl V J H
  obtain⟨tu,hx,hd⟩:∃tu,Z[i]?=some (Value.int u tu)/\bW (Z.drop (i+1)) X:=by
   rw[←List.head?_drop,←List.tail_drop];cases e:Z.drop i with
   |nil=>rw[e]at M;exact M.elim
   |cons a l=>
    rw[e]at M;obtain⟨⟨t,rfl⟩,h2⟩:=M;exact⟨t,rfl,h2⟩
  have O:∀m,((PG.eC v g u).sc m).length+X.length<=500:=fun m=>by
   show(aW g.sc u (g.sc u++[v]) m).length+X.length<=500
   by_cases e:m=u
   .subst e;rw[bj,cJ,u7,Nat.add_comm [v].length];exact V _
   .rw [bI _ _ e];exact au (iA _) (V m)
  have P:g.π.length+1+X.length<=500:=by rw[u7,Nat.add_comm 1];exact J
  have N:g.π.length<=500:=au (b8 ..) J
  by_cases Y:u∈g.π
  .obtain⟨R,hR⟩:=l4 x G.nd Y;have hy:=hR (x.app u (Value.int v (k 2))) fun n c ne=>qD ne _
   rw[iP]at hy;have WB:(x.sc u).length<=16777216:=by
    rw[(G.sc u Y).len];exact au (au (b8 ..) (V u)) (by decide)
   exact hT [3,4,5,6,7,8,0,1] b (H.ch [6] (hR x fun c c c=>rfl) [.o (x.ia u) (c8 (x.da u) u (x.tv u) (x.np u) (x.tn u) (x.ja u)),.o (x.ja u) (ae (x.sc u) (x.ep u)),.l R]) (fun fr=>Mh w L r T S F D f v Z W s k σ q i (dl x g.π) g.π.length (x.ia u) (x.da u) (x.ja u) (x.tv u) (x.tn u) (x.np u) (x.sc u) (x.ep u) u tu fr pos (zN st) st.toks st.gens:) (fun c=>rfl)
    (fun c=>aa WB (aa (d5 Y) (aa hx aj))) fun fr U j=>
    ih (i+1) (some (u,tu,x.ia u)) (kq k q st.toks (st.toks+6)) (x.app u (Value.int v (k 2))) (PG.eC v g u) g.π _ _ U _ hg hd (by rw[UX,hk]) (G.app Y _) (by show dj g.π u=_;rw[dj,if_pos Y]) rfl rfl O (au (su (iA _) _) P)
     ((j.ch [6,7,8] hy.symm [.l (aT (x.app u (Value.int v (k 2))) g.π)]).p [1,2,3,4,5,6,0] 7)
  .let y:=(x.qB u (st.heap.objs.size+2) (st.heap.objs.size+1) (st.heap.objs.size+4) tu (st.toks+9)).app u (Value.int v (k 2))
   have ll:(dl x g.π).length<=1000:=by rw[dl,aB];exact au N (by decide)
   have ei:aT x g.π++[(st.heap.objs.size+2,c8 (st.heap.objs.size+1) u tu 0 (st.toks+9) (st.heap.objs.size+4)),(st.heap.objs.size+4,ae [Value.int v (k 2)] 1)]=aT y (g.π++[u]):=by
    have C:∀n∈g.π,n≠u:=fun n hn e=>Y (e▸hn)
    rw[fU,d8 (y:=x) fun n hn=>(qD (C n hn) _).trans (qC (C n hn) ..),cv,y5];rfl
   have A:=(G.qB Y (st.heap.objs.size+2) (st.heap.objs.size+1) (st.heap.objs.size+4) tu (st.toks+9)).app (u:=u) (v:=v) (cz _ (.head _)) (k 2)
   have eg:PG.eC v ⟨g.π++[u],g.np,g.sc⟩ u=PG.eC v g u:=by
    show(⟨dj (g.π++[u]) u,g.np,aW g.sc u (g.sc u++[v])⟩:PG)=⟨dj g.π u,g.np,aW g.sc u (g.sc u++[v])⟩
    rw[dj,if_pos (cz _ (.head _)),dj,if_neg Y]
   rw[eg]at A;exact hT [0,1,2,3,4,5] b H (fun fr=>Mj w L r T S F D f v Z W s k σ q i (dl x g.π) g.π.length u tu fr pos (zN st) st.toks st.gens:) (fun c=>rfl)
    (fun c=>aa (b9 _) (aa (dA Y) (aa ll (aa (dA Y) (aa hx aj))))) fun fr U j=>
    ih (i+1) (some (u,tu,st.heap.objs.size+2)) (kq k q st.toks (st.toks+15)) y (PG.eC v g u) (g.π++[u]) _ (g.π.length+1) U _ hg hd (by rw[UX,hk]) A (by show dj g.π u=_;rw[dj,if_neg Y]) (xt Y _ (st.heap.objs.size+1) (st.heap.objs.size+4) _ (st.toks+9)) cJ O P
     ((j.ch [8,6,7] (List.Perm.of_eq ei) [.l (aT y (g.π++[u]))]).p [1,2,3,4,5,6,0] 7)
end
section
set_option tactic.hygienic false
def Mm(w:ZW)(l:List IE)(Z:Nat)(I:Addr):ZH w:=jn [dz 0xe320bcc19bb6b2532258226f76abb4b3e263e263e4b,[(0,.ai (kU 2 l Z (some (.ref I))))],dz 0x1616384b1a43842e23403e4b582583,[(8,.ai (eu))],dz 0x4721e1528543741a232e23,[(0,.stop)]]
def Mn(w:ZW)(l:List IE)(Z:Nat):ZH w:=jn [dz 0xe260bcc19bb4b3e263e8621f76cbb593b213b213b59,[(0,.ai (kU 2 l Z none))],dz 0x20b0240bb8ad262d289d22062443544882b874b3e6a,[(0,.ai (mX 2 l Z))],dz 0x1a1a2c592b538b422a383b59403e6a,[(8,.ai (eu))],dz 0x4523081a2dd2,[(0,.stop)]]
def Mo(w:ZW):ZH w:=jn [[(0,.fin)]]
noncomputable abbrev Af:List K:=[.fo,.fn,.cl]
noncomputable def nC(S:Addr)(v:Nat)(Y:Tok)(Z:ZY):Code:=.call (.ref 161) ⟨.ref S::.int v Y::Z,[]⟩
noncomputable def UY(t:Nat)(Z:Tok):Nat->Tok:=KK [t,t+1,Z,t+2,t+9,0,0,4]
noncomputable def UZ(t:Nat)(Z:Tok):Nat->Tok:=KK [t,t+1,Z,t+2,t+18,0,0,4]
noncomputable def U0:Pos:=⟨132,20,132,32⟩
noncomputable abbrev addW(w:ZW)(L:Addr)(σ:Nat->Sk):ZC:=(.func (aH (pn w.params)) (wV w L),U0)::Wk σ Af
def Cq(w:ZW)(L:Addr)(σ:Nat->Sk):Nat->Sk:=fun n=>match n with
 |0=>{qx U0 with b:=aH (pn w.params),e:=wV w L}
 |n+1=>σ n
def xv(w:ZW)(o:ay)(σ:Nat->Sk)(fr:ZL)(N t:Nat)(G:ZG):ay:=bo ⟨pg,w,kp w,Wk σ Af,none⟩ (Mo w) fr o (.ok .next) [] [] N t G
section
variable(w:ZW)(S X D:Addr)(s:ZT)(l:List IE)(Y v:Nat)(W:Tok)(Z:ZY)
def xw(I d J:Addr)(tw U:Tok)(T:Int)(σ:Nat->Sk)(fr:ZL)(pos:Pos)(N t:Nat)(G:ZG):ay:=aq ⟨pg,w,kp w,Wk σ Af,none⟩ (Mm w l Y I) fr (nC S v W Z) pos [(S,cp X),(X,cn w.params s D .none 0 0),(D,a9 l Y),(I,c8 d v tw T U J)] [] N t G
def xy(σ:Nat->Sk)(fr:ZL)(pos:Pos)(N t:Nat)(G:ZG):ay:=aq ⟨pg,w,kp w,Wk σ Af,none⟩ (Mn w l Y) fr (nC S v W Z) pos [(S,cp X),(X,cn w.params s D .none 0 0),(D,a9 l Y)] [] N t G
variable(V:Z.length<=7)
include V
theorem FQ(I d J:Addr)(tw T:Tok)(U:Int)(σ:Nat->Sk)(fr:ZL)(pos:Pos)(N t:Nat)(G:ZG):ir ⟨pg,w,kp w,Wk σ Af,none⟩ 4 [5,7,4] (xw w S X D s l Y v W Z I d J tw T U σ fr pos N t G) (nA w (N+1) (N+3)) (addW w (N+1) σ) none [(S,cp X),(X,cn w.params s D .none 0 0),(D,a9 l Y),(I,c8 d v tw (U+Z.length) (t+13) J)] [(N+1,zQ w.params (UY t W) S N I v none),(N+3,gy N 0),(N,bK Z 0)] (N+4) (t+15) G 0 [aG l v=some (.ref I)] []:=by apply c5 V;apply aC w;kernel_rfl
theorem FR(σ:Nat->Sk)(fr:ZL)(pos:Pos)(N t:Nat)(G:ZG):ir ⟨pg,w,kp w,Wk σ Af,none⟩ 3 [4,10,3,7,9] (xy w S X D s l Y v W Z σ fr pos N t G) (nA w (N+1) (N+7)) (addW w (N+1) σ) none [(S,cp X),(X,cn w.params s D .none 0 0),(D,a9 (l++[((v:Int),W,Value.ref (N+4))]) (Y+1))]
   [(N+1,zQ w.params (UZ t W) S N (N+4) v none),(N+7,gy N 0),(N,bK Z 0),(N+4,c8 (N+3) v W (0+Z.length) (t+22) (N+6)),(N+6,ae [] 0)] (N+8) (t+24) G 0 [aG l v=none,l.length<=1000,aG l v=none] []:=by
 apply c5 V;apply aC w;kernel_rfl
theorem AW(I d J:Addr)(tw R:Tok)(Q:Int)(σ:Nat->Sk)(fr:ZL)(pos:Pos)(N t:Nat)(G:ZG)(U:ZL)(N' t':Nat)(T:ZG):iq 0 [] (xv w (xw w S X D s l Y v W Z I d J tw R Q σ fr pos N t G) σ U N' t' T) (.ok (.ret .none)) [] [] N' t' T 0 [] []:=by apply c5 V;apply aC w;kernel_rfl
theorem AX(σ:Nat->Sk)(fr:ZL)(pos:Pos)(N t:Nat)(G:ZG)(U:ZL)(N' t':Nat)(T:ZG):iq 0 [] (xv w (xy w S X D s l Y v W Z σ fr pos N t G) σ U N' t' T) (.ok (.ret .none)) [] [] N' t' T 0 [] []:=by apply c5 V;apply aC w;kernel_rfl
end
end
set_option tactic.hygienic false
theorem vE(x:NS)(u:Nat)(a d j:Addr)(tu t0:Tok)(m:Int)(t:Tok):df ((x.qB u a d j tu t0).j6 u m t) u=[(a,c8 d u tu (0+m) t j),(j,ae [] 0)]:=by rw[ic];simp only[NS.qB,bj]
theorem AY[ZI]{Q:ZR}(w:ZW)(S U D:Addr)(s:ZT)(σ:Nat->Sk)(B:aS)(b:Bt (Wk σ Af) none B)(bg:List aQ)(E:List Bk)(v:Nat)(X:Tok)(Z:ZY)(Y:ZN)(L:Z.length<=7)(G:bW Z Y)(x:NS)(g:PG)(st:ZS)(pos:Pos)(I:NG x g)(M:∀u,(g.sc u).length+Y.length<=500)(O:g.π.length+Y.length<=450)(H:Hq w st ([.o S (cp U),.o U (cn w.params s D .none 0 0),.o D (dO x g.π g.π.length),.l (aT x g.π)]++E) bg)(K:∀t T,NG T (g.add v Y)->Hq w t ([.o S (cp U),.o U (cn w.params s D .none 0 0),.o D (dO T (g.add v Y).π (g.add v Y).π.length),.l (aT T (g.add v Y).π)]++E) bg->Q (.ok (.ret .none)) t):Rn w B st (nC S v X Z) pos Q:=by
 have m:Z.length=Y.length:=G.len
 by_cases W:v∈g.π
 .obtain⟨R,q⟩:=l4 x I.nd W;have r:=q (x.j6 v Z.length (st.toks+13)) fun n a ne=>nB ne _ _
  rw[ic]at r;refine hS [3,4,5,0] b (H.ch [3] (q x fun a a a=>rfl) [.o (x.ia v) (c8 (x.da v) v (x.tv v) (x.np v) (x.tn v) (x.ja v)),.o (x.ja v) (ae (x.sc v) (x.ep v)),.l R]) (fun fr=>FQ w S U D s (dl x g.π) g.π.length v X Z L (x.ia v) (x.da v) (x.ja v) (x.tv v) (x.tn v) (x.np v) σ fr pos (zN st) st.toks st.gens:) (fun a=>rfl) (fun a=>aa (d5 W) aj) fun fr s1 H1 z F=>?_
  refine uq w (st.heap.objs.size+1) (st.heap.objs.size+3) st.heap.objs.size S U D (x.ia v) v Z 0 s (Cq w (st.heap.objs.size+1) σ) z F X bg E (g.add v Y) (fun s2 T P A=>?_) Y 0 none (UY st.toks X) (x.j6 v Z.length (st.toks+13)) (g.node v Y.length) g.π _ _ s1 _ rfl G rfl (by have:=I.j6 W Z.length (st.toks+13);rwa [m]at this⊢) (by show dj g.π v=_;rw[dj,if_pos W]) rfl rfl M (au O (by decide))
   ((H1.ch [3,7,8] r.symm [.l (aT (x.j6 v Z.length (st.toks+13)) g.π)]).p [4,5,6,1,2,3,0] 7)
  exact Ae [] b A (fun V=>AW w S U D s (dl x g.π) g.π.length v X Z L (x.ia v) (x.da v) (x.ja v) (x.tv v) (x.tn v) (x.np v) σ fr pos (zN st) st.toks st.gens V (zN s2) s2.toks s2.gens:) (fun a=>rfl) (fun a=>aj) fun V s3 C=>K s3 T P C
 .let y:=(x.qB v (st.heap.objs.size+4) (st.heap.objs.size+3) (st.heap.objs.size+6) X 0).j6 v Z.length (st.toks+22)
  have N:∀n∈g.π,n≠v:=fun n hn e=>W (e▸hn)
  have k:(dl x g.π).length<=1000:=by rw[dl,aB];exact au (au (b8 ..) O) (by decide)
  have j:aT x g.π++[(st.heap.objs.size+4,c8 (st.heap.objs.size+3) v X (0+Z.length) (st.toks+22) (st.heap.objs.size+6)),(st.heap.objs.size+6,ae [] 0)]=aT y (g.π++[v]):=by
   rw[fU,d8 (y:=x) fun n hn=>(nB (N n hn) _ _).trans (qC (N n hn) ..),cv,vE];rfl
  have J:NG y (g.node v Y.length):=by
   rw[←m,←y4 W];exact(I.qB W _ _ _ _ _).j6 (cz _ (.head _)) _ _
  refine hS [0,1,2] b H (fun fr=>FR w S U D s (dl x g.π) g.π.length v X Z L σ fr pos (zN st) st.toks st.gens:) (fun a=>rfl) (fun a=>aa (dA W) (aa k (aa (dA W) aj))) fun fr s1 H1 z F=>?_
  refine uq w (st.heap.objs.size+1) (st.heap.objs.size+7) st.heap.objs.size S U D (st.heap.objs.size+4) v Z 0 s (Cq w (st.heap.objs.size+1) σ) z F X bg E (g.add v Y) (fun s2 T P A=>?_) Y 0 none (UZ st.toks X) y (g.node v Y.length) (g.π++[v]) _ (g.π.length+1) s1 _ rfl G rfl J (by show dj g.π v=_;rw[dj,if_neg W]) (xt W _ (st.heap.objs.size+3) (st.heap.objs.size+6) _ 0) cJ M (au (by rw[Nat.add_right_comm];exact gX O) (by decide:451<=500))
   ((H1.ch [8,6,7] (List.Perm.of_eq j) [.l (aT y (g.π++[v]))]).p [4,5,6,1,2,3,0] 7)
  exact Ae [] b A (fun V=>AX w S U D s (dl x g.π) g.π.length v X Z L σ fr pos (zN st) st.toks st.gens V (zN s2) s2.toks s2.gens:) (fun a=>rfl) (fun a=>aj) fun V s3 C=>K s3 T P C
section
open PySem.F
section
set_option tactic.hygienic false
section
variable{w:ZW}{W:ZC}{X:Option ZV}{B:aS}{s Z:ZS}{L M E:ZA}{bg:List aQ}{S:ZH w}{c:Code}{pos:Pos}{R:ZE}{own:List Frame}{V:ZN}{Y new:ZL->ZA}{N t:ZL->Nat}{U:Nat}{ps:ZL->List Prop}{Q:ZR}
theorem Hp.Mp[ZI](h:Hp w s (L++M) bg):Hp w s L (M::bg):=by
 refine⟨h.kt,fun p hp=>h.holds p (dN _ hp),(eG.mp (aL▸h.nodup)).1,fun p hp=>h.away p (dN _ hp),fun l T=>?_,h.oo⟩
 have hn:=eG.mp (aL▸h.nodup)
 rcases bc.mp T with rfl|T
 .exact⟨fun p hp=>h.holds p (cz _ hp),fun p hp=>h.away p (cz _ hp),fun p hp W=>hn.2.2 _ W _ (b7 hp) rfl,hn.2.1⟩
 .have z:=h.gF l T
  exact⟨z.holds,z.kt,fun p hp W=>z.apart p hp (by rw[aL];exact dN _ W),z.nodup⟩
def FT(M:ZA)(bg:List aQ):Prop:=∀l∈bg,∀p∈l,p.1∉M.map (·.1)
theorem Hp.WC[ZI](h:Hp w s (L++M) bg):FT M bg:=fun l T p hp W=>(h.gF l T).apart p hp (by rw[aL];exact cz _ W)
theorem Hp.Mq[ZI](h:Hp w s L (M::bg))(Q:FT M bg):Hp w s (L++M) bg:=by
 have z:=h.gF M (.head _)
 refine⟨h.kt,fun p hp=>?_,?_,fun p hp=>?_,fun l T=>?_,h.oo⟩
 .rcases bJ.mp hp with hp|hp
  .exact h.holds p hp
  .exact z.holds p hp
 .rw [aL];refine eG.mpr ⟨h.nodup,z.nodup,fun a P b X e=>?_⟩
  obtain⟨p,hp,rfl⟩:=aZ.mp X;exact z.apart p hp (e▸P)
 .rcases bJ.mp hp with hp|hp
  .exact h.away p hp
  .exact z.kt p hp
 .have y:=h.gF l (.tail _ T)
  refine⟨y.holds,y.kt,fun p hp W=>?_,y.nodup⟩
  rw[aL]at W;rcases bJ.mp W with W|W
  .exact y.apart p hp W
  .exact Q l T p hp W
theorem Hp.xA[ZI](h:Hp w s (L++(M++E)) bg):Hp w s (L++E) (M::bg):=by refine Hp.Mp (h.perm ?_);rw[br];exact List.Perm.append_left _ mN
theorem Hp.qH[ZI](h:Hp w s (L++E) (M::bg))(W:FT M bg):Hp w s (L++(M++E)) bg:=by refine(h.Mq W).perm ?_;rw[br];exact List.Perm.append_left _ mN
theorem Hp.Je[ZI](h:Hp w s (L++(M++E)) bg):FT M bg:=by refine Hp.WC (L:=L++E) (h.perm ?_);rw[br];exact List.Perm.append_left _ mN
noncomputable def Jf:List aQ->List aQ->List aQ
 |[],bg=>bg
 |M::W,bg=>Jf W (M::bg)
def E1:List aQ->List aQ->Prop
 |[],_=>True
 |M::W,bg=>FT M bg/\E1 W (M::bg)
theorem ur{l:aQ}:∀{Ms bg:List aQ},l∈Ms\/l∈bg->l∈Jf Ms bg
 |[],_,h=>h.resolve_left (nomatch ·)
 |M::Ms,bg,h=>ur (Ms:=Ms) (bg:=M::bg) (by
  rcases h with h|h
  .rcases bc.mp h with rfl|h
   .exact .inr (.head _)
   .exact .inl h
  .exact .inr (.tail _ h))
theorem Hq.U1[ZI]{A F:List Bk}:∀(W:List aQ){bg:List aQ},Hq w s (A++(W.map Bk.l++F)) bg->Hp w s (fl A++fl F) (Jf W bg)/\E1 W bg
 |[],bg,h=>⟨by have h:Hp w s (fl (A++F)) bg:=h;rwa [cE]at h,trivial⟩
 |M::W,bg,h=>by
  have T:Hp w s (fl A++(M++fl (W.map Bk.l++F))) bg:=by
   have h:Hp w s (fl (A++(.l M::(W.map Bk.l++F)))) bg:=h
   rwa [cE,cZ]at h
  have h2:Hq w s (A++(W.map Bk.l++F)) (M::bg):=by
   show Hp w s (fl _) _
   rw[cE];exact T.xA
  obtain⟨P,Q⟩:=Hq.U1 W h2;exact⟨P,T.Je,Q⟩
theorem Hq.U2[ZI]{A F:List Bk}:∀(W:List aQ){bg:List aQ},E1 W bg->Hp w s (fl A++fl F) (Jf W bg)->Hq w s (A++(W.map Bk.l++F)) bg
 |[],bg,_,h=>by
  show Hp w s (fl (A++F)) bg
  rw[cE];exact h
 |M::W,bg,f,h=>by
  have h2:Hp w s (fl (A++(W.map Bk.l++F))) (M::bg):=Hq.U2 W f.2 h
  show Hp w s (fl (A++(.l M::(W.map Bk.l++F)))) bg
  rw[cE]at h2⊢;rw[cZ];exact h2.qH f.1
theorem Q0[ZI]{A F:List Bk}{n:Nat}{o:ZL->ay}{O:ZL->Code}{pos':ZL->Pos}(b:Bt W X B)(H:Hq w s (A++.l M::F) bg)(T:∀fr,f5 n V (o fr) (O fr) (pos' fr) (Y fr) (new fr) (N fr) (t fr) s.gens U (ps fr) [M])(J:∀fr,o fr=aq ⟨pg,w,kp w,W,X⟩ S fr c pos L [M] (zN s) s.toks s.gens)(P:∀fr,aO (ps fr))(K:∀fr Z,Hq w Z (sg (Y fr)++(sg (new fr)++.l M::F)) bg->Rn w B Z (O fr) (pos' fr) Q)(G:fl A=L:=by kernel_rfl)(hn:L.length=n:=by kernel_rfl)(hA:∀fr,(Y fr).map (·.1)=L.map (·.1):=by intro _;kernel_rfl)(hx:∀fr,dP n V (new fr).length=true:=by intro _;kernel_rfl):Rn w B s c pos Q:=by
 subst hn G;have H1:Hp w s (fl A++(M++fl F)) bg:=by
  have h:Hp w s (fl (A++.l M::F)) bg:=H
  rwa [cE,cZ]at h
 refine Rn.of (SK b H1.xA (List.Perm.refl _) (j5:=[M]) (fun l I=>by rcases bQ.mp I with rfl;exact .head _) (fun fr=>J fr▸T fr) P hA hx fun fr Z h=>(K fr Z ?_).to)
 have h2:=Hp.qH (L:=Y fr++new fr) (E:=fl F) (M:=M) (by rwa [br]) H1.Je
 show Hp w Z (fl (sg (Y fr)++(sg (new fr)++.l M::F))) bg
 rw[cE,cE,kV,kV,cZ,←br];exact h2
theorem WD[ZI](P:List aQ){A F:List Bk}{n:Nat}{o:ZL->ay}{D:ZL->Code}{C:ZC}{M:Option ZV}(b:Bt W X B)(H:Hq w s (A++(P.map Bk.l++F)) bg)(T:∀fr,ir ⟨pg,w,kp w,W,X⟩ n V (o fr) (D fr) C M (Y fr) (new fr) (N fr) (t fr) s.gens U (ps fr) P)(E:∀fr,o fr=aq ⟨pg,w,kp w,W,X⟩ S fr c pos L P (zN s) s.toks s.gens)(I:∀fr,aO (ps fr))(K:∀fr Z,Hq w Z (sg (Y fr)++(sg (new fr)++(P.map Bk.l++F))) bg->∀J:aS,Bt C M J->Rn w J Z (D fr) (bp (o fr)).p0 (fun r O=>Rk w B O (o fr) r Q))(y:fl A=L:=by kernel_rfl)(hn:L.length=n:=by kernel_rfl)(hA:∀fr,(Y fr).map (·.1)=L.map (·.1):=by intro _;kernel_rfl)(hx:∀fr,dP n V (new fr).length=true:=by intro _;kernel_rfl):Rn w B s c pos Q:=by
 subst hn y;obtain⟨H1,hf⟩:=H.U1 P;refine Rn.of (SM b H1 (List.Perm.refl _) (j5:=P) (fun l z=>ur (.inl z)) (fun fr=>E fr▸T fr) I hA hx fun fr Z v G h=>?_)
 have hq:Hq w Z (sg (Y fr)++(sg (new fr)++(P.map Bk.l++F))) bg:=by
  rw[←br];refine Hq.U2 P hf ?_;rw[cE,kV,kV,br];exact h
 subst G;rw[←E fr];exact⟨_,fun J x=>(K fr Z hq J x).to,fun r O h=>h⟩
end
end
end
set_option tactic.hygienic false
noncomputable def qI(a b i:Nat):Nat:=match Nat.beq i a with
 |true=>b
 |false=>i
noncomputable def aP(v:Option ZV):Obj:=⟨.type "cell",none,.cell v,#[]⟩
noncomputable def Q3(P:Params)(k:ZT)(Y S:Addr)(v:Option (Int×Tok)):Obj:=fx ([dE P u9 (k 0) (.ref Y),dE P Iy (k 1) (.ref S)]++(match v with|none=>[]|some (v,Z)=>[dE P [118] (k 2) (.int v Z)])) (match v with|none=>k 3|some _=>k 3+1)
noncomputable def b6(i n:Int):Obj:=⟨.type "range_iterator",none,.fields #[.int i 0,.int n 0,.int 1 0],#[]⟩
noncomputable def vF(w:ZW)(U R V W:Addr)(Z:Nat->Addr)(ne:Nat->Nat)(Y:Nat)(rs:Nat->List aK)(s:ZT)(T S X D:Addr)(k:ZT)(v:Option (Int×Tok))(i n:Int):ZA:=[(R,Q3 w.params k U S v),(T,b6 i n),(V,aP (some (.ref W))),(W,ae [.ref (Z 0),.ref (Z 1),.ref (Z 2),.ref (Z 3)] Y),(Z 0,ae (bh (rs 0)) (ne 0)),(Z 1,ae (bh (rs 1)) (ne 1)),(Z 2,ae (bh (rs 2)) (ne 2)),(Z 3,ae (bh (rs 3)) (ne 3)),(S,cp X),(X,cn w.params s D .none 0 0)]
noncomputable def xB(rs:Nat->List aK):List aQ:=[(rs 0).map aK.led,(rs 1).map aK.led,(rs 2).map aK.led,(rs 3).map aK.led]
def m6(w:ZW)(V X Y Z W:Addr):Code:=f6 (eK w 2) W (bz w V X Y Z)
noncomputable def cL:Pos:=⟨994,8,994,54⟩
noncomputable abbrev mn:List K:=[.fn,.cl]
def Mr(w:ZW)(W X Y Z:Addr)(rs:List aK)(ep v:Nat):ZH w:=jn [fy (qI 5 5) 29 0x16030802080008020601060106000600060100010401000b12011000100610041002000301000006030002000300020002000200020102010201,[(2,.ai (Ad w true (bz w W X Y Z) rs ep 13 11 12 (4+v) v))],fy (qI 5 5) 2 0x18011a00,[(2,.ai (iJ 14 12))],fy (qI 5 5) 3 0x140214011c00,[(0,.stop)]]
def Mt(w:ZW)(W X Y Z:Addr)(rs:List aK)(ep v:Nat):ZH w:=jn [fy (qI 5 5) 29 0x16030802080008020601060106000600060100010401000b12011000100610041002000301000006030002000300020002000200020102010201,[(2,.ai (Ad w true (bz w W X Y Z) rs ep 13 11 12 (4+v) v))],fy (qI 5 5) 4 0x18021b001a011a00,[(2,.ai (iJ 14 12))],fy (qI 5 5) 3 0x140214011c00,[(0,.stop)]]
def Mu(w:ZW)(W X Y Z:Addr)(rs:List aK)(ep v:Nat):ZH w:=jn [fy (qI 5 (4+v)) 29 0x16030a020a000a020601060106000600060100010401000b12011000100610041002000301000006030002000300020002000200020102010201,[(2,.ai (Ad w true (bz w W X Y Z) rs ep 13 11 12 (4+v) v))],fy (qI 5 (4+v)) 2 0x18011a00,[(2,.ai (iJ 14 12))],fy (qI 5 (4+v)) 3 0x140214011c00,[(0,.stop)]]
def Mv(w:ZW)(W X Y Z:Addr)(rs:List aK)(ep v:Nat):ZH w:=jn [fy (qI 5 (4+v)) 29 0x16030a020a000a020601060106000600060100010401000b12011000100610041002000301000006030002000300020002000200020102010201,[(2,.ai (Ad w true (bz w W X Y Z) rs ep 13 11 12 (4+v) v))],fy (qI 5 (4+v)) 4 0x18021b001a011a00,[(2,.ai (iJ 14 12))],fy (qI 5 (4+v)) 3 0x140214011c00,[(0,.stop)]]
def WE(w:ZW)(q:Option (Int×Tok))(W X Y Z:Addr)(rs:List aK)(ep v:Nat):ZH w:=match q with
 |none=>match rs with
  |[]=>Mr w W X Y Z [] ep v
  |r::rs=>Mt w W X Y Z (r::rs) ep v
 |some _=>match rs with
  |[]=>Mu w W X Y Z [] ep v
  |r::rs=>Mv w W X Y Z (r::rs) ep v
def lr(w:ZW)(R X Y V W P:Addr)(T:Nat->Addr)(ne:Nat->Nat)(Z:Nat)(rs:Nat->List aK)(s:ZT)(U S Q D:Addr)(k:ZT)(q:Option (Int×Tok))(v:Nat)(σ:Nat->Sk)(fr:ZL)(pos:Pos)(N t:Nat)(G:ZG):ay:=aq ⟨pg,w,kp w,Wk σ mn,none⟩ (WE w q X Y V W (rs v) (ne v) v) fr (m6 w X Y V W U) pos (vF w R X Y P T ne Z rs s U S Q D k q v (4-v)) (xB rs) N t G
def pF(w:ZW)(o:ay)(σ:Nat->Sk)(fr:ZL)(N t:Nat)(G:ZG):ay:=bo ⟨pg,w,kp w,Wk σ mn,none⟩ (jn [[(1,.tail)]]) fr o (.ok (.ret .none)) [] [] N t G
def Mw(w:ZW)(R W Y T U P:Addr)(V:Nat->Addr)(ne:Nat->Nat)(Z:Nat)(rs:Nat->List aK)(s:ZT)(X S Q D:Addr)(k:ZT)(q:Option (Int×Tok))(σ:Nat->Sk)(fr:ZL)(pos:Pos)(N t:Nat)(G:ZG):ay:=aq ⟨pg,w,kp w,Wk σ mn,none⟩ (jn [dz 0x8cd403c0,[(1,.fin)]]) fr (m6 w W Y T U X) pos (vF w R W Y P V ne Z rs s X S Q D k q 4 0) [] N t G
section
set_option tactic.hygienic false
noncomputable def gk(a b c d:List aK):Nat->List aK
 |0=>a
 |1=>b
 |2=>c
 |_=>d
section
variable{w:ZW}{Q T V cS cT O:Addr}{R ne:Nat->Nat}{Z:Nat}{s:Nat->Tok}{U S P D:Addr}{k:Nat->Tok}{σ:Nat->Sk}{W X rc Y:List aK}
theorem Mx(M:W.length<=7)(fr:ZL)(pos:Pos)(N t:Nat)(G:ZG):ir ⟨pg,w,kp w,Wk σ mn,none⟩ 10 [] (lr w Q T V cS cT O R ne Z (gk W X rc Y) s U S P D k none 0 σ fr pos N t G) (nC S 0 t (bB W)) ((m6 w T V cS cT U,cL)::Wk σ mn) none (vF w Q T V O R ne Z (gk W X rc Y) s U S P D (KK [k 0,k 1,t+1,k 3]) (some (0,t)) 1 3) [] (Nf fr 0+1) (Tf fr 0) G 0 [([]:ZY).length+(bB W).length<=16777216,W.length<=7] (xB (gk W X rc Y)):=by apply c5 M;apply aC w;kernel_rfl
theorem FU(K:W.length<=7)(fr:ZL)(pos:Pos)(N t:Nat)(G:ZG)(M:ZL)(N' t':Nat)(L:ZG):f5 0 [] (pF w (lr w Q T V cS cT O R ne Z (gk W X rc Y) s U S P D k none 0 σ fr pos N t G) σ M N' t' L) (m6 w T V cS cT U) cL [] [] N' t' L 0 [] []:=by apply c5 K;apply aC w;kernel_rfl
theorem My(K:X.length<=7)(M:Int)(L:Tok)(fr:ZL)(pos:Pos)(N t:Nat)(G:ZG):ir ⟨pg,w,kp w,Wk σ mn,none⟩ 10 [] (lr w Q T V cS cT O R ne Z (gk W X rc Y) s U S P D k (some (M,L)) 1 σ fr pos N t G) (nC S 1 t (bB X)) ((m6 w T V cS cT U,cL)::Wk σ mn) none (vF w Q T V O R ne Z (gk W X rc Y) s U S P D k (some (1,t)) 2 2) [] (Nf fr 0+1) (Tf fr 0) G 0 [([]:ZY).length+(bB X).length<=16777216,X.length<=7] (xB (gk W X rc Y)):=by apply c5 K;apply aC w;kernel_rfl
theorem FV(I:X.length<=7)(M:Int)(L:Tok)(fr:ZL)(pos:Pos)(N t:Nat)(G:ZG)(K:ZL)(N' t':Nat)(J:ZG):f5 0 [] (pF w (lr w Q T V cS cT O R ne Z (gk W X rc Y) s U S P D k (some (M,L)) 1 σ fr pos N t G) σ K N' t' J) (m6 w T V cS cT U) cL [] [] N' t' J 0 [] []:=by apply c5 I;apply aC w;kernel_rfl
theorem Mz(K:rc.length<=7)(M:Int)(L:Tok)(fr:ZL)(pos:Pos)(N t:Nat)(G:ZG):ir ⟨pg,w,kp w,Wk σ mn,none⟩ 10 [] (lr w Q T V cS cT O R ne Z (gk W X rc Y) s U S P D k (some (M,L)) 2 σ fr pos N t G) (nC S 2 t (bB rc)) ((m6 w T V cS cT U,cL)::Wk σ mn) none (vF w Q T V O R ne Z (gk W X rc Y) s U S P D k (some (2,t)) 3 1) [] (Nf fr 0+1) (Tf fr 0) G 0 [([]:ZY).length+(bB rc).length<=16777216,rc.length<=7] (xB (gk W X rc Y)):=by apply c5 K;apply aC w;kernel_rfl
theorem FX(I:rc.length<=7)(M:Int)(L:Tok)(fr:ZL)(pos:Pos)(N t:Nat)(G:ZG)(K:ZL)(N' t':Nat)(J:ZG):f5 0 [] (pF w (lr w Q T V cS cT O R ne Z (gk W X rc Y) s U S P D k (some (M,L)) 2 σ fr pos N t G) σ K N' t' J) (m6 w T V cS cT U) cL [] [] N' t' J 0 [] []:=by apply c5 I;apply aC w;kernel_rfl
theorem MA(K:Y.length<=7)(M:Int)(L:Tok)(fr:ZL)(pos:Pos)(N t:Nat)(G:ZG):ir ⟨pg,w,kp w,Wk σ mn,none⟩ 10 [] (lr w Q T V cS cT O R ne Z (gk W X rc Y) s U S P D k (some (M,L)) 3 σ fr pos N t G) (nC S 3 t (bB Y)) ((m6 w T V cS cT U,cL)::Wk σ mn) none (vF w Q T V O R ne Z (gk W X rc Y) s U S P D k (some (3,t)) 4 0) [] (Nf fr 0+1) (Tf fr 0) G 0 [([]:ZY).length+(bB Y).length<=16777216,Y.length<=7] (xB (gk W X rc Y)):=by apply c5 K;apply aC w;kernel_rfl
theorem FY(I:Y.length<=7)(M:Int)(L:Tok)(fr:ZL)(pos:Pos)(N t:Nat)(G:ZG)(K:ZL)(N' t':Nat)(J:ZG):f5 0 [] (pF w (lr w Q T V cS cT O R ne Z (gk W X rc Y) s U S P D k (some (M,L)) 3 σ fr pos N t G) σ K N' t' J) (m6 w T V cS cT U) cL [] [] N' t' J 0 [] []:=by apply c5 I;apply aC w;kernel_rfl
theorem MB(M:Int)(L:Tok)(fr:ZL)(pos:Pos)(N t:Nat)(G:ZG):iq 10 [] (Mw w Q T V cS cT O R ne Z (gk W X rc Y) s U S P D k (some (M,L)) σ fr pos N t G) (.ok .next) (vF w Q T V O R ne Z (gk W X rc Y) s U S P D k (some (M,L)) 4 0) [] (N+2) t G 0 [] []:=by apply aC w;kernel_rfl
end
end
section
set_option tactic.hygienic false
theorem jS:∀rs:List aK,bW (bB rs) (rs.map (·.u))
 |[]=>trivial
 |r::rs=>⟨⟨r.tu,rfl⟩,jS rs⟩
theorem tW(rs:List aK):(bB rs).length=rs.length:=aB ..
noncomputable def g0:PG:=⟨[],fun a=>0,fun a=>[]⟩
noncomputable def ax(rs:Nat->List aK)(v:Nat):ZN:=(rs v).map (·.u)
noncomputable def eV(Z:Nat->ZN):PG:=(((g0.add 0 (Z 0)).add 1 (Z 1)).add 2 (Z 2)).add 3 (Z 3)
theorem kz(v:Nat):∀(Z:ZN)(g:PG),(∀u,((Z.foldl (PG.eC v) g).sc u).length<=(g.sc u).length+Z.length)/\(Z.foldl (PG.eC v) g).π.length<=g.π.length+Z.length
 |[],g=>⟨fun a=>aM _,aM _⟩
 |u::Z,g=>by
  obtain⟨X,h2⟩:=kz v Z (g.eC v u);refine⟨fun m=>?_,?_⟩
  .have:=X m
   have Y:((g.eC v u).sc m).length<=(g.sc m).length+1:=by
    show(aW g.sc u (g.sc u++[v]) m).length<=_
    by_cases e:m=u
    .subst e;rw[bj];simp
    .rw [bI _ _ e];exact b8 (g.sc m).length 1
   simp only[List.foldl_cons,List.length_cons];lia
  .have Y:(g.eC v u).π.length<=g.π.length+1:=qF _ _
   simp only[List.foldl_cons,List.length_cons];lia
theorem vG(g:PG)(v:Nat)(Z:ZN):(∀u,((g.add v Z).sc u).length<=(g.sc u).length+Z.length)/\(g.add v Z).π.length<=g.π.length+1+Z.length:=by
 obtain⟨Y,h2⟩:=kz v Z (g.node v Z.length);refine⟨Y,?_⟩;have:(g.node v Z.length).π.length<=g.π.length+1:=qF _ _
 show(Z.foldl (PG.eC v) (g.node v Z.length)).π.length<=_
 lia
theorem rW{g:PG}{a b:Nat}(v:Nat){Z:ZN}(Y:Z.length<=7)(V:∀u,(g.sc u).length<=a)(h2:g.π.length<=b):(∀u,((g.add v Z).sc u).length<=a+7)/\(g.add v Z).π.length<=b+8:=by obtain⟨W,X⟩:=vG g v Z;exact⟨fun u=>au (W u) (jG (V u) Y),au X (by rw[u7,Nat.add_comm 1];exact jG h2 (gX Y))⟩
section
variable(w:ZW)(O V X P R U:Addr)(Y ne:Nat->Nat)(Z:Nat)(s:ZT)(W S N D:Addr)(σ:Nat->Sk)(bg:List aQ)(E:List Bk)
noncomputable def Jg(rs:Nat->List aK)(k:ZT)(q:Option (Int×Tok))(i m:Int)(x:NS)(T:ZN):List Bk:=sg (vF w O V X U Y ne Z rs s W S N D k q i m)++((xB rs).map Bk.l++(.o D (dO x T T.length)::.l (aT x T)::E))
theorem lu[ZI]{Q:ZR}(B:aS)(b:Bt (Wk σ mn) none B)(rs:Nat->List aK)(k k':ZT)(q:Option (Int×Tok))(v:Nat)(i m:Int)(x:NS)(g:PG)(st:ZS)(pos:Pos)(hlen:(rs v).length<=7)(G:∀u,(g.sc u).length<=21)(I:g.π.length<=24)(z:NG x g)(T:∀fr,ir ⟨pg,w,kp w,Wk σ mn,none⟩ 10 [] (lr w O V X P R U Y ne Z rs s W S N D k q v σ fr pos (zN st) st.toks st.gens) (nC S v st.toks (bB (rs v))) ((m6 w V X P R W,cL)::Wk σ mn) none (vF w O V X U Y ne Z rs s W S N D k' (some (v,st.toks)) i m) [] (Nf fr 0+1) (Tf fr 0) st.gens 0 [([]:ZY).length+(bB (rs v)).length<=16777216,(rs v).length<=7] (xB rs))(t:∀fr M N' t' A,f5 0 [] (pF w (lr w O V X P R U Y ne Z rs s W S N D k q v σ fr pos (zN st) st.toks st.gens) σ M N' t' A) (m6 w V X P R W) cL [] [] N' t' A 0 [] [])(H:Hq w st (Jg w O V X U Y ne Z s W S N D E rs k q v (4-v) x g.π) bg)(K:∀F L,NG L (g.add v ((rs v).map (·.u)))->Hq w F (Jg w O V X U Y ne Z s W S N D E rs k' (some (v,st.toks)) i m L (g.add v ((rs v).map (·.u))).π) bg->Rn w B F (m6 w V X P R W) cL Q):Rn w B st (m6 w V X P R W) pos Q:=by
 have hf:(bB (rs v)).length<=7:=by rw[tW];exact hlen
 have C:((rs v).map (·.u)).length<=7:=by rw[aB];exact hlen
 refine WD (xB rs) b H T (fun a=>rfl) (fun a=>aa (by rw[List.length_nil,fM];exact au hf (by decide)) (aa hlen aj)) fun fr s1 H1 h y=>?_
 refine AY w S N D s (fun n=>match n with|0=>{qx cL with x:=QZ (eK w 2),v:=.ref W,b:=rS (eK w 2),o:=I5 (eK w 2),e:=bz w V X P R}|n+1=>σ n) h y bg (.o V (Q3 w.params k' O S (some (v,st.toks)))::.o W (b6 i m)::.o X (aP (some (.ref U)))::.o U (ae [.ref (Y 0),.ref (Y 1),.ref (Y 2),.ref (Y 3)] Z)::.o (Y 0) (ae (bh (rs 0)) (ne 0))::.o (Y 1) (ae (bh (rs 1)) (ne 1))::.o (Y 2) (ae (bh (rs 2)) (ne 2))::.o (Y 3) (ae (bh (rs 3)) (ne 3))::.l ((rs 0).map aK.led)::.l ((rs 1).map aK.led)::.l ((rs 2).map aK.led)::.l ((rs 3).map aK.led)::E) v st.toks (bB (rs v)) ((rs v).map (·.u)) hf (jS _) x g s1 _ z (fun u=>au (jG (G u) C) (by decide)) (au (jG I C) (by decide)) (H1.p [8,9,14,15,0,1,2,3,4,5,6,7,10,11,12,13] 16) fun s2 L J j=>?_
 exact Cp [] b j (fun M=>t fr M (zN s2) s2.toks s2.gens) (fun a=>rfl) (fun a=>aj) fun M s3 r=>K s3 L J (r.p [4,5,6,7,8,9,10,11,0,1,12,13,14,15,2,3] 16)
theorem FZ[ZI]{Q:ZR}(B:aS)(b:Bt (Wk σ mn) none B)(J L rc M:List aK)(h0:J.length<=7)(G:L.length<=7)(h2:rc.length<=7)(z:M.length<=7)(k:ZT)(x:NS)(st:ZS)(pos:Pos)(H:Hq w st (Jg w O V X U Y ne Z s W S N D E (gk J L rc M) k none 0 4 x []) bg)(K:∀y k' t' x,NG x (eV (ax (gk J L rc M)))->Hq w y (Jg w O V X U Y ne Z s W S N D E (gk J L rc M) k' (some (3,t')) 4 0 x (eV (ax (gk J L rc M))).π) bg->Q (.ok .next) y):Rn w B st (m6 w V X P R W) pos Q:=by
 have A:∀{l:List aK},l.length<=7->(l.map (·.u)).length<=7:=fun h=>by rw[aB];exact h
 have C:=rW (g:=g0) (a:=0) (b:=0) 0 (A h0) (fun c=>aM _) (aM _)
 have F:=rW 1 (A G) C.1 C.2
 have v:=rW 2 (A h2) F.1 F.2
 refine lu w O V X P R U Y ne Z s W S N D σ bg E B b (gk J L rc M) k (KK [k 0,k 1,st.toks+1,k 3]) none 0 1 3 x g0 st pos h0 (fun c=>b9 _) (b9 _) ⟨cW,fun c h=>(nomatch h),fun c h=>(nomatch h),fun c c=>rfl,fun c c=>rfl⟩ (fun fr=>Mx h0 fr pos (zN st) st.toks st.gens) (fun fr T N' t' I=>FU h0 fr pos (zN st) st.toks st.gens T N' t' I) H fun s1 x1 n H1=>?_
 refine lu w O V X P R U Y ne Z s W S N D σ bg E B b (gk J L rc M) _ (KK [k 0,k 1,st.toks+1,k 3]) _ 1 2 2 x1 _ s1 cL G (fun u=>au (C.1 u) (by decide)) (au C.2 (by decide)) n (fun fr=>My G _ _ fr cL (zN s1) s1.toks s1.gens) (fun fr T N' t' I=>FV G _ _ fr cL (zN s1) s1.toks s1.gens T N' t' I) H1 fun s2 x2 o f=>?_
 refine lu w O V X P R U Y ne Z s W S N D σ bg E B b (gk J L rc M) _ (KK [k 0,k 1,st.toks+1,k 3]) _ 2 3 1 x2 _ s2 cL h2 (fun u=>au (F.1 u) (by decide)) (au F.2 (by decide)) o (fun fr=>Mz h2 _ _ fr cL (zN s2) s2.toks s2.gens) (fun fr T N' t' I=>FX h2 _ _ fr cL (zN s2) s2.toks s2.gens T N' t' I) f fun s3 r p i=>?_
 refine lu w O V X P R U Y ne Z s W S N D σ bg E B b (gk J L rc M) _ (KK [k 0,k 1,st.toks+1,k 3]) _ 3 4 0 r _ s3 cL z v.1 v.2 p (fun fr=>MA z _ _ fr cL (zN s3) s3.toks s3.gens) (fun fr T N' t' I=>FY z _ _ fr cL (zN s3) s3.toks s3.gens T N' t' I) i fun s4 t q j=>?_
 exact hF [0,1,2,3,4,5,6,7,8,9] b j (fun fr=>MB (k:=KK [k 0,k 1,st.toks+1,k 3]) (cS:=P) (cT:=R) (σ:=σ) 3 s3.toks fr cL (zN s4) s4.toks s4.gens:) (fun c=>rfl) (fun c=>aj) fun fr s5 m=>K s5 _ _ t q m
end
end
section
open PySem.F
section
set_option tactic.hygienic false
variable{w:ZW}
noncomputable def Q4(B:aS):Around:={handled:=topHandled B.st,depth:=frameCount B.W,units:=unitsOf B.W}
theorem lU{prog:Program}{w:ZW}{B:aS}{s:ZS}{c:Code}{pos:Pos}{R:ZR}(h:codeAny (model prog w) (Q4 B) c R s):a8 prog w B s c pos (denote table c) [] R:=by
 obtain⟨r,X,V,U⟩:=h (Ctx.of c B.st) pos rfl ⟨rfl,aM _,fun a Z=>(nomatch Z),fun a Z=>(nomatch Z),aM _⟩
 obtain⟨n,t',T,W,Y,hn,rfl,rfl⟩:=(runs_reach V B.st (Ctx.fits_of ..)).runN;exact⟨r,X,T,W,U,n,by rw[uf];exact hn⟩
theorem pG{prog:Program}{w:ZW}{B:aS}{s:ZS}{pos:Pos}{R:ZR}{id:String}{Bt:Builtin}{Z:Args}{S:PySem.Spec}(plain:plainId id=true)(entry:entryFor table id=some Bt)(g:MeetsIn prog w (Bt Z) S)(h:S (Q4 B) R s):a8 prog w B s (.builtin id Z) pos (denote table (.builtin id Z)) [] R:=lU (by
 refine codeAny_of_tree ?_;rw[Around.under_plainId plain];have e:(model prog w).den (.builtin id Z)=Bt Z:=by
  show(match entryFor table id with|some b=>b Z|none=>unsupported ((withoutEnding? id "#data").getD id))=_
  rw[entry]
 rw[e];exact g (Q4 B) R s h)
noncomputable def Cr(ix:Nat)(l:List IE)(ep:Nat)(Z:ZV):aX pg w (kp w)where
 hh:=true
 A:=fun a c a a T=>⟨.builtin "dict.__delitem__" ⟨[.ref (af (v0 c)),.int (ak (v1 c)) (ao (v1 c))],[]⟩,[ix],[(af (v0 c),a9 l ep)],.fq,[aG l (ak (v1 c))=some Z,l.length<=1000],[],[]⟩
 B:=fun a c N t T a=>⟨.ok (.ret .none),[a9 (iI l (ak (v1 c))) (ep+1)],[],N,t+1,0,[]⟩
 ok:=fun a c T s B pos e hp a K hn E hB a I=>by
  have Y:s.heap.get? (af (v0 c))=some (a9 l ep):=K _ (.head _)
  have O:aG l (ak (v1 c))=some Z:=hp _ (.head _)
  have P:l.length<=1000:=hp _ (.tail _ (.head _))
  obtain⟨i,J,_,h2,S⟩:=vy .none O;have e:c=.builtin "dict.__delitem__" ⟨[.ref (af (v0 c)),.int (ak (v1 c)) (ao (v1 c))],[]⟩:=e
  have L:(iI l (ak (v1 c))).length<=l.length:=by
   have:∀(l:List IE)(k:Int),(iI l k).length<=l.length:=by
    intro l k;induction l with
    |nil=>exact aM _
    |cons x l Q=>unfold iI;split<;>simp<;>exact String.Pos.Raw.mk_le_mk.mp Q
   exact this _ _
  have g:MeetsIn pg w (Builtin.«dict.__delitem__» ⟨[.ref (af (v0 c)),.int (ak (v1 c)) (ao (v1 c))],[]⟩) (fun a R s=>s.heap.get? (af (v0 c))=some (a9 l ep)/\R (.ok (.ret .none)) {s with heap:=s.heap.update (af (v0 c)) (Obj.mapDictKeys (·.eraseIdxIfInBounds i)),toks:=s.toks+1}):=.of_wp fun A R s ⟨Y,h⟩=>by
    unfold Builtin.«dict.__delitem__»;show wpAny _ _ (Builtin.Dict.dictSlotArgs "__delitem__" ⟨[.ref (af (v0 c)),.int (ak (v1 c)) (ao (v1 c))],[]⟩>>=_) _ _ s
    unfold Builtin.Dict.dictSlotArgs;refine wpAny_bind (wpAny_bind (wpAny_notOrdered_dict (eO (w:=w) Y).typeIs ?_));show wpAny _ _ (pure (Value.ref (af (v0 c)),Value.int (ak (v1 c)) (ao (v1 c)))) _ _ s
    refine wpAny_pure ?_;show wpAny _ _ (Builtin.Dict.takeOut (af (v0 c)) (.int (ak (v1 c)) (ao (v1 c)))>>=_) _ _ s
    unfold Builtin.Dict.takeOut;refine wpAny_bind (wpAny_holding (wpAny_bind (wpAny_pyHash_int (wpAny_bind (wpAny_dictFind_int (s:={s with toks:=s.toks+1}) Y rfl (iV l) ?_)))))
    rw[J];refine wpAny_bind (wpAny_dictEntries (s:={s with toks:=s.toks+1}) Y rfl ?_)
    cases q:(⟨l.map jP⟩:Array DictEntry)[i]? with
    |none=>rw[q]at S;cases S
    |some D=>
     refine wpAny_bind (wpAny_updateDictKeys (hz:=by
      have G:((⟨l.map jP⟩:Array DictEntry).eraseIdxIfInBounds i).size<=l.length:=by rw[h2];simpa using L
      first|exact(by show _<=sizeLine+1;have:l.length<=1000:=P;have H:sizeLine=16777216:=rfl;lia)|(simp[sizeLine];lia)) (s:={s with toks:=s.toks+1}) Y rfl (wpAny_pure ?_))
     exact wpAny_bind (wpAny_letGo (wpAny_pure ⟨.none,rfl,h⟩))
  have z:=pG (prog:=pg) (w:=w) (B:=B) (s:=s) (pos:=pos) (by decide+kernel) PySem.F.entry_dict_delitem g (R:=fun U V=>U=.ok (.ret .none)/\V=_) ⟨Y,rfl,rfl⟩
  rw[←e]at z;refine z.mono fun U V ⟨W,X⟩=>⟨[],W,?_⟩
  subst X;exact(dB (s:=s) (f:=Obj.mapDictKeys (·.eraseIdxIfInBounds i)) (o':=a9 (iI l (ak (v1 c))) (ep+1)) Y (by
   show(⟨.type "dict",none,.dict ((⟨l.map jP⟩:Array DictEntry).eraseIdxIfInBounds i) (ep+1),#[]⟩:Obj)=_
   rw[h2];rfl) rfl (M:=[]) (bH _) (by simp) 1).ret
noncomputable def qL(X q1 Y Z:Option Tok):List (Nat×Tok):=(match X with|some t=>[(0,t)]|none=>[])++((match q1 with|some t=>[(1,t)]|none=>[])++((match Y with|some t=>[(2,t)]|none=>[])++(match Z with|some t=>[(3,t)]|none=>[])))
noncomputable def gM(ld:Bool)(l:List (Nat×Tok))(ep:Nat):Obj:=⟨.type "set",none,.set ⟨l.map fun e=>(hashInt e.1,.int e.1 e.2)⟩ ep {mask:=7,place:=⟨l.map (·.1)⟩,dummies:=#[],finger:=0,led:=ld,moves:=0,plain:=true},#[]⟩
theorem y6{s:ZS}{ld:Bool}{a:Addr}{l:List (Nat×Tok)}{ep:Nat}(Z:l.length<=7)(h:s.heap.get? a=some (gM ld l ep)):s.heap.SetOf (intKind pg w) a (fun k=>l.any fun e=>decide ((e.1:Int)=k)) l.length:=by
 refine⟨_,⟨l.map fun e=>(hashInt e.1,.int e.1 e.2)⟩,ep,_,h,⟨rfl,rfl,rfl⟩,rfl,?_,fun k=>?_,by show(l.map _).length<scanBound;rw[aB];have:scanBound=4096:=rfl;lia,?_,by simp⟩
 .intro e he;simp only[List.mem_map]at he;obtain⟨x,_,rfl⟩:=he;exact⟨⟨x.1,by simp[intKind,Value.isInt],rfl⟩,rfl⟩
 .simp only[List.any_eq_true,decide_eq_true_eq];constructor
  .rintro ⟨x,hx,e⟩
   exact⟨_,aZ.mpr ⟨x,hx,rfl⟩,by simp[intKind,Value.isInt,e]⟩
  .rintro ⟨e,he,Y⟩
   obtain⟨x,hx,rfl⟩:=aZ.mp he;exact⟨x,hx,by simpa[intKind,Value.isInt]using Y⟩
 .simp [SetTable.fits,SetTable.fill];exact String.Pos.Raw.mk_le_mk.mp Z
noncomputable def pH(ix:Nat)(ld:Bool)(l:List (Nat×Tok))(ep:Nat)(b:Bool):aX pg w (kp w)where
 A:=fun a c a a T=>⟨.builtin "set.__contains__" ⟨[.ref (af (v0 c)),.int (ak (v1 c)) (ao (v1 c))],[]⟩,[ix],[(af (v0 c),gM ld l ep)],.fq,[(l.any fun e=>decide ((e.1:Int)=ak (v1 c)))=b,l.length<=7],[],[]⟩
 B:=fun a c N t T a=>⟨.ok (.ret (.bool b)),[gM ld l ep],[],N,t+1,0,[]⟩
 ok:=fun a c T s B pos e hp a S hn O hB a P=>by
  have Z:s.heap.get? (af (v0 c))=some (gM ld l ep):=S _ (.head _)
  have V:(l.any fun e=>decide ((e.1:Int)=ak (v1 c)))=b:=hp _ (.head _)
  have U:l.length<=7:=hp _ (.tail _ (.head _))
  have e:c=.builtin "set.__contains__" ⟨[.ref (af (v0 c)),.int (ak (v1 c)) (ao (v1 c))],[]⟩:=e
  have g:MeetsIn pg w (Builtin.«frozenset.__contains__» ⟨[.ref (af (v0 c)),.int (ak (v1 c)) (ao (v1 c))],[]⟩) (fun a R s=>s.heap.get? (af (v0 c))=some (gM ld l ep)/\R (.ok (.ret (.bool b))) {s with toks:=s.toks+1}):=.of_wp fun A R s ⟨Z,h⟩=>by
    unfold Builtin.«frozenset.__contains__» Builtin.Frozenset.oneOther;simp only[List.isEmpty_nil,bind_assoc];unfold Builtin.Frozenset.addrOf Builtin.Frozenset.withSetAsKey setContains;refine wpAny_bind (wpAny_pure ?_)
    try dsimp only
    refine wpAny_bind (wpAny_pure ?_)
    try dsimp only
    refine wpAny_bind (wpAny_tryCatch ?_);refine wpAny_holding ?_;refine wpAny_bind ((intKind pg w).pyHash (intKind_is pg w (ak (v1 c)) (ao (v1 c))) ?_);refine wpAny_bind (wpAny_setFind_of (s:={s with toks:=s.toks+1}) (knd:=intKind pg w) (intKind_is pg w (ak (v1 c)) (ao (v1 c))) rfl (y6 (w:=w) (s:={s with toks:=s.toks+1}) U Z) fun r Y=>?_)
    refine wpAny_pure ?_;show wpAny _ _ (ret (Value.bool r.isSome)) _ _ _
    rw[Y,V];exact wpAny_pure ⟨_,rfl,h⟩
  refine bR e hB (by decide+kernel) entry_set_contains g (R:=fun W X=>W=.ok (.ret (.bool b))/\X={s with toks:=s.toks+1}) ⟨Z,rfl,rfl⟩ fun W X ⟨Q,h2⟩=>⟨[],Q,?_⟩
  subst h2;exact(dW s 1 (.ok .next) (af (v0 c),gM ld l ep) Z).ret
end
set_option tactic.hygienic false
noncomputable def qq(q:Nat->Option Tok):List (Nat×Tok):=qL (q 0) (q 1) (q 2) (q 3)
def i9(w:ZW)(W:ZC)(fr:ZL)(pos:Pos)(a:Addr)(ld:Bool)(l:List (Nat×Tok))(ep:Nat)(v:Int)(Z:Tok)(N t:Nat)(G:ZG):ay:=aq ⟨pg,w,kp w,W,none⟩ (jn [dz 0x7050d,[(0,.fin)]]) fr (.builtin "set.add" ⟨[.ref a,.int v Z],[]⟩) pos [(a,gM ld l ep)] [] N t G
theorem SR(w:ZW)(W:ZC)(fr:ZL)(pos:Pos)(a:Addr)(ld:Bool)(q1 X Y:Option Tok)(Z:Tok)(l U:List (Nat×Tok))(v:Nat)(T:v=0)(S:l=qL none q1 X Y)(V:U=qL (some Z) q1 X Y)(ep:Nat)(N t:Nat)(G:ZG):(gg (i9 w W fr pos a ld l ep v Z N t G),dx (List.range 1++[]) (i9 w W fr pos a ld l ep v Z N t G),fP (i9 w W fr pos a ld l ep v Z N t G))=(gh (i9 w W fr pos a ld l ep v Z N t G),some (.ok (.ret .none),[(a,gM ld U (ep+1))].map some,N,t+1,G,[],[]),[]):=by subst T;subst S;subst V;apply cm q1;apply cm X;apply cm Y;apply uk ld;apply aC w;kernel_rfl
theorem SS(w:ZW)(W:ZC)(fr:ZL)(pos:Pos)(a:Addr)(ld:Bool)(V X Y:Option Tok)(Z:Tok)(l T:List (Nat×Tok))(v:Nat)(S:v=1)(R:l=qL V none X Y)(U:T=qL V (some Z) X Y)(ep:Nat)(N t:Nat)(G:ZG):(gg (i9 w W fr pos a ld l ep v Z N t G),dx (List.range 1++[]) (i9 w W fr pos a ld l ep v Z N t G),fP (i9 w W fr pos a ld l ep v Z N t G))=(gh (i9 w W fr pos a ld l ep v Z N t G),some (.ok (.ret .none),[(a,gM ld T (ep+1))].map some,N,t+1,G,[],[]),[]):=by subst S;subst R;subst U;apply cm V;apply cm X;apply cm Y;apply uk ld;apply aC w;kernel_rfl
theorem SU(w:ZW)(W:ZC)(fr:ZL)(pos:Pos)(a:Addr)(ld:Bool)(X q1 Y:Option Tok)(Z:Tok)(l U:List (Nat×Tok))(v:Nat)(T:v=2)(S:l=qL X q1 none Y)(V:U=qL X q1 (some Z) Y)(ep:Nat)(N t:Nat)(G:ZG):(gg (i9 w W fr pos a ld l ep v Z N t G),dx (List.range 1++[]) (i9 w W fr pos a ld l ep v Z N t G),fP (i9 w W fr pos a ld l ep v Z N t G))=(gh (i9 w W fr pos a ld l ep v Z N t G),some (.ok (.ret .none),[(a,gM ld U (ep+1))].map some,N,t+1,G,[],[]),[]):=by subst T;subst S;subst V;apply cm X;apply cm q1;apply cm Y;apply uk ld;apply aC w;kernel_rfl
theorem SV(w:ZW)(W:ZC)(fr:ZL)(pos:Pos)(a:Addr)(ld:Bool)(X q1 Y:Option Tok)(Z:Tok)(l U:List (Nat×Tok))(v:Nat)(T:v=3)(S:l=qL X q1 Y none)(V:U=qL X q1 Y (some Z))(ep:Nat)(N t:Nat)(G:ZG):(gg (i9 w W fr pos a ld l ep v Z N t G),dx (List.range 1++[]) (i9 w W fr pos a ld l ep v Z N t G),fP (i9 w W fr pos a ld l ep v Z N t G))=(gh (i9 w W fr pos a ld l ep v Z N t G),some (.ok (.ret .none),[(a,gM ld U (ep+1))].map some,N,t+1,G,[],[]),[]):=by subst T;subst S;subst V;apply cm X;apply cm q1;apply cm Y;apply uk ld;apply aC w;kernel_rfl
theorem WG(w:ZW)(W:ZC)(fr:ZL)(pos:Pos)(a:Addr)(ld:Bool)(q:Nat->Option Tok)(v:Nat)(hq:q v=none)(X:v<4)(ep:Nat)(Z:Tok)(N t:Nat)(G:ZG):(gg (i9 w W fr pos a ld (qq q) ep v Z N t G),dx (List.range 1++[]) (i9 w W fr pos a ld (qq q) ep v Z N t G),fP (i9 w W fr pos a ld (qq q) ep v Z N t G))=(gh (i9 w W fr pos a ld (qq q) ep v Z N t G),some (.ok (.ret .none),[(a,gM ld (qq (aW q v (some Z))) (ep+1))].map some,N,t+1,G,[],[]),[]):=by
 have Y:v=0\/v=1\/v=2\/v=3:=by lia
 rcases Y with h|h|h|h
 .exact SR w W fr pos a ld (q 1) (q 2) (q 3) Z (qq q) (qq (aW q v (some Z))) v h (by subst h;unfold qq;rw[hq]) (by subst h;rfl) ep N t G
 .exact SS w W fr pos a ld (q 0) (q 2) (q 3) Z (qq q) (qq (aW q v (some Z))) v h (by subst h;unfold qq;rw[hq]) (by subst h;rfl) ep N t G
 .exact SU w W fr pos a ld (q 0) (q 1) (q 3) Z (qq q) (qq (aW q v (some Z))) v h (by subst h;unfold qq;rw[hq]) (by subst h;rfl) ep N t G
 .exact SV w W fr pos a ld (q 0) (q 1) (q 2) Z (qq q) (qq (aW q v (some Z))) v h (by subst h;unfold qq;rw[hq]) (by subst h;rfl) ep N t G
set_option tactic.hygienic false
def MC(w:ZW)(ix:Nat)(ld:Bool)(q:Nat->Option Tok)(ep v:Nat):aX pg w (kp w)where
 A:=fun a c a a T=>⟨.builtin "set.add" ⟨[.ref (af (v0 c)),.int v (ao (v1 c))],[]⟩,[ix],[(af (v0 c),gM ld (qq q) ep)],.fq,[q v=none,v<4],[],[]⟩
 B:=fun a c N t T a=>⟨.ok (.ret .none),[gM ld (qq (aW q v (some (ao (v1 c))))) (ep+1)],[],N,t+1,0,[]⟩
 ok:=fun a c T s B pos e hp X S hn U hB I J=>by
  have hq:q v=none:=hp _ (.head _)
  have O:v<4:=hp _ (.tail _ (.head _))
  have e:c=.builtin "set.add" ⟨[.ref (af (v0 c)),.int v (ao (v1 c))],[]⟩:=e
  have H:dR ⟨pg,w,kp w,B.W,none⟩ B s [(af (v0 c),gM ld (qq q) ep)] []:=⟨rfl,hB,X,S,hn,U,fun a h=>nomatch h⟩
  have z:a8 pg w B s (.builtin "set.add" ⟨[.ref (af (v0 c)),.int v (ao (v1 c))],[]⟩) pos (denote table (.builtin "set.add" ⟨[.ref (af (v0 c)),.int v (ao (v1 c))],[]⟩)) [] (fun r Z=>r=.ok (.ret .none)/\cf s Z [(af (v0 c),gM ld (qq q) ep)] ⟨.ok (.ret .none),[gM ld (qq (aW q v (some (ao (v1 c))))) (ep+1)],[],s.heap.objs.size,s.toks+1,0,[]⟩):=by
   refine k9 (hs:=jn [dz 0x7050d,[(0,.fin)]]) (V:=⟨pg,w,kp w,B.W,none⟩) (R:=fun r Z=>r=.ok (.ret .none)/\cf s Z [(af (v0 c),gM ld (qq q) ep)] ⟨.ok (.ret .none),[gM ld (qq (aW q v (some (ao (v1 c))))) (ep+1)],[],s.heap.objs.size,s.toks+1,0,[]⟩) rfl hB X S hn U (bg:=[]) (fun a M=>nomatch M) fun fr=>?_
   have Y:=WG w B.W fr pos (af (v0 c)) ld q v hq O ep (ao (v1 c)) (zN s) s.toks s.gens
   unfold i9 at Y;refine jk (hQ:=List.range 1++[]) (r:=.ok (.ret .none)) (es:=[(af (v0 c),gM ld (qq (aW q v (some (ao (v1 c))))) (ep+1))]) (N:=s.heap.objs.size) (t:=s.toks+1) (G:=s.gens) (gl:=[]) (ps:=[]) (Prod.ext (congrArg (·.1) Y) (congrArg (·.2.1) Y)) aj fun Z F=>⟨rfl,?_⟩
   have Q:=congrArg (·.2.2) Y
   simp only at Q;rw[Q]at F;have P:=eI (L:=[(af (v0 c),gM ld (qq q) ep)]) (bg:=[]) (dn:=[]) (nx:=[]) (post:=[gM ld (qq (aW q v (some (ao (v1 c))))) (ep+1)]) (new:=[]) (ng:=0) F rfl rfl (fun a h=>nomatch h) cW
   exact⟨P.ext,P.len,P.upd,P.new,P.free,P.nodup,F.size,F.toks,P.gens,P.iF,P.dU,P.d6,P.eo⟩
  rw[←e]at z;exact z.mono fun r Z ⟨K,h2⟩=>⟨[],K,h2⟩
end
set_option tactic.hygienic false
noncomputable def SW:Flow->Sem Flow:=fun f=>match f with
 |.next=>.pure .next
 |f=>.pure f
noncomputable def SX(c:Code):Flow->ZE:=fun f=>match f with
 |.next=>.pure (.again c)
 |.cont=>.pure (.again c)
 |.brk=>.pure (.done .next)
 |.ret v=>.pure (.done (.ret v))
def WH(Z:List ExceptHandler)(e:ZV)(env:Env):Unit->Sem Flow:=fun a=>PySem.W.R.bindR (PySem.W.Fast.tw5670386056902412789 e none) fun a=>PySem.W.Fast.tw14206642085496868694 e env Z
def WI(env:Env):ZV->Sem Unit:=fun x=>PySem.W.R.bindR (PySem.W.Fast.tw17872113653443481271 x env) fun a=>PySem.W.Fast.tw1623429502029203251 x
def vH(n:Sem Unit)(Z:List ExceptHandler)(c:Code)(e:ZV)(env:Env):ZE:=PySem.W.R.onRaiseR (PySem.W.R.bindR (PySem.W.R.bindR (PySem.W.R.bindR n (WH Z e env)) SW) (SX c)) (WI env)
theorem MD{aJ:ZC}{cc:Bool}(X:dH aJ=cc){env:Env}{L:List Env}(V:(cw aJ).dropWhile (·.frame !=env.frame)=L){f:Addr}(hf:env.frame=some f){Z:Bool->ZY}(hp:∀b,f3 f b aJ=Z b)(Y:List ExceptHandler)(c:Code)(e:ZV):Lk aJ (vH (PySem.W.Fast.tw17872113653443481271 e env) Y c e env) (vH (gv cc L Z e env) Y c e env):=by
 unfold vH;rw[←PySem.W.R.bindR_eq,←PySem.W.R.onRaiseR_eq];have h:Lk aJ (PySem.W.Fast.tw17872113653443481271 e env) (gv cc L Z e env):=by
  rw[←PySem.W.Fast.te17872113653443481271];exact uh X V hf hp e
 exact((((h.bind _).bind _).bind _)).onRaise _
section
set_option tactic.hygienic false
noncomputable def Q5(x:Stmt):PySem.Expr:=if h:x.ctorIdx=11 then Stmt.While.elim x h fun t a a a=>t else default
noncomputable def Cs(x:Stmt):List Stmt:=if h:x.ctorIdx=11 then Stmt.While.elim x h fun a b a a=>b else[]
noncomputable def Q6(x:Stmt):List Stmt:=if h:x.ctorIdx=11 then Stmt.While.elim x h fun a a o a=>o else[]
noncomputable def Jh(st:Stmt)(e:Env):Code:=.whileLoop (Q5 st) (Cs st) (Q6 st) e
noncomputable def S0(x:Stmt):List ExceptHandler:=if h:x.ctorIdx=17 then Stmt.Try.elim x h fun a o a a a=>o else[]
def Ji(w:ZW):Stmt:=(aH (sQ w.params)).getD 5 default
def Jj(w:ZW):Stmt:=(rS (Ji w)).getD 1 default
def Jk(w:ZW):Stmt:=(Cs (Jj w)).getD 1 default
def qg(w:ZW):List ExceptHandler:=S0 ((Cs (Jk w)).headD default)
noncomputable def Ag(w:ZW):Bool:=!(w.params.followText "set-order")
structure SE where
 v:Nat
 tv:Tok
 tn:Tok
 ti:Tok
 m:Addr
 i:Addr
noncomputable def F0(st:List SE):ZY:=st.map fun e=>.int e.v e.tv
noncomputable def U3(st:List SE):ZY:=st.map fun e=>.ref e.m
noncomputable def gm:Nat->List SE->List IE
 |_,[]=>[]
 |i,e::st=>(e.v,e.tn,.int i e.ti)::gm (i+1) st
structure a6 where
 w:ZW
 F:Addr
 PF:Addr
 LF:Addr
 cN:Addr
 cS:Addr
 cT:Addr
 S:Addr
 D:Addr
 ST:Addr
 IS:Addr
 SN:Addr
 NS:Addr
 KI:Addr
 k:Nat->Tok
def a6.env(c:a6):Env:=eB 201 (sQ c.w.params) c.F []
def a6.vJ(c:a6):Env:=eB 166 (kO c.w.params) c.PF []
def a6.vK(c:a6):Env:=bz c.w c.LF c.cN c.cS c.cT
def a6.W0(c:a6):ZC:=[(.func (aH (kO c.w.params)) c.vJ,⟨140,16,140,34⟩),(.func (aH (jJ c.w.params)) c.vK,⟨997,8,997,24⟩),(.builtin "claim.caller" ⟨[],[]⟩,⟨0,0,0,0⟩)]
def a6.W1(c:a6):ZC:=(.func (aH (sQ c.w.params)) c.env,⟨192,20,192,23⟩)::c.W0
def a6.qh(c:a6):Code:=f6 (Ji c.w) c.KI c.env
def a6.W2(c:a6):ZC:=(c.qh,⟨195,12,212,25⟩)::c.W1
def a6.mA(c:a6):Code:=Jh (Jj c.w) c.env
def a6.W3(c:a6):ZC:=(c.mA,⟨204,16,212,25⟩)::c.W2
def a6.fv(c:a6):Code:=Jh (Jk c.w) c.env
noncomputable def a6.WJ(c:a6):Bool->Array (Option ZV)
 |false=>#[]
 |true=>#[some (.ref 200),some (.ref 3),none,some (.ref c.PF),none,some (.ref 201),some (.ref 0)]
noncomputable def a6.WK(c:a6):Bool->Array (Option ZV)
 |false=>#[]
 |true=>#[some (.ref 165),some (.ref 3),none,some (.ref c.LF),none,some (.ref 166),some (.ref 0)]
noncomputable def a6.WM(c:a6):Bool->Array (Option ZV)
 |false=>#[]
 |true=>#[some (.ref 960),some (.ref 3),none,some .notImplemented,none,some (.ref 961),some (.ref 0),some (.ref c.cT),some (.ref c.cS),some (.ref c.cN)]
noncomputable def nD(Y:Array DictEntry)(n:Nat)(Z:Array (Option ZV)):Obj:=⟨.type "frame",none,.dict Y n,Z⟩
noncomputable def a6.fr(c:a6)(q:Option (Tok×Nat×Tok))(ep:Nat)(b:Bool):Obj:=nD ⟨[dE c.w.params [115,101,108,102] (c.k 0) (.ref c.S),dE c.w.params [110,50,105] (c.k 1) (.ref c.D),dE c.w.params [115,116,97,99,107] (c.k 2) (.ref c.ST),dE c.w.params [105,116,115,116,97,99,107] (c.k 3) (.ref c.IS),dE c.w.params [115,101,101,110] (c.k 4) (.ref c.SN),dE c.w.params [110,111,100,101,50,115,116,97,99,107,105] (c.k 5) (.ref c.NS)]++(match q with
  |none=>[]
  |some (tk,v,Z)=>[dE c.w.params [110,111,100,101] tk (.int v Z)])⟩ ep (c.WJ b)
structure b4 where
 b:Bool
 q:Option (Tok×Nat×Tok)
 ep:Nat
 st:List SE
 es:Nat
 ei:Nat
 sn:Nat->Option Tok
 en:Nat
 uv:Nat
noncomputable def a6.core(c:a6)(l:List IE)(Z:Nat)(v:b4):ZA:=[(c.F,c.fr v.q v.ep v.b),(c.D,a9 l Z),(c.ST,ae (F0 v.st) v.es),(c.IS,ae (U3 v.st) v.ei),(c.SN,gM (Ag c.w) (qq v.sn) v.en),(c.NS,a9 (gm 0 v.st) v.uv)]
noncomputable def xC(D:Addr)(i Z:Nat):Obj:=⟨.type "dict_keyiterator",none,.fields #[.ref D,.int i 0,.int 4 0,.int Z 0],#[]⟩
noncomputable def nE(i:Addr):Obj:=⟨.type "method-wrapper",none,.fields #[.builtin "list_iterator.__next__",.ref i],#[]⟩
section
universe u
variable{β:Type u}
def cF(L:a6->β)(c:a6)(d:Nat):β×β:=(L {c with w:=c.w.withFollow di true,D:=d+2},L {c with w:=c.w.withFollow di false,D:=d+2})
def cG(L:a6->β)(c:a6)(d:Nat):β×β:=(L {c with w:=c.w.withFollow di true,D:=d+2},L {c with w:=c.w.withFollow di false,D:=d+2})
theorem rX{L R:a6->β}{c:a6}{d:Nat}(Z:c.D=d+2)(h:cF L=cG R):L c=R c:=by
 have e:c={c with w:=c.w,D:=d+2}:=by rw[←Z]
 rw[e];exact aC (L:=fun w=>L {c with w:=w,D:=d+2}) (R:=fun w=>R {c with w:=w,D:=d+2}) c.w (funext fun w=>congrFun (congrFun h {c with w:=w}) d)
def WN(L:a6->β)(c:a6):β×β:=(L {c with w:=c.w.withFollow di true},L {c with w:=c.w.withFollow di false})
def WO(L:a6->β)(c:a6):β×β:=(L {c with w:=c.w.withFollow di true},L {c with w:=c.w.withFollow di false})
theorem nH{L R:a6->β}{c:a6}(h:WN L=WO R):L c=R c:=aC (L:=fun w=>L {c with w:=w}) (R:=fun w=>R {c with w:=w}) c.w (funext fun w=>congrFun h {c with w:=w})
theorem zR{L R:b4->β}{v:b4}(h:(oF fun q=>L {v with q:=q})=oG fun q=>R {v with q:=q}):L v=R v:=cm (f:=fun q=>L {v with q:=q}) (g:=fun q=>R {v with q:=q}) v.q h
theorem S1{L R:b4->β}{v:b4}(h:(bF fun b=>L {v with b:=b})=bG fun b=>R {v with b:=b}):L v=R v:=uk (f:=fun b=>L {v with b:=b}) (g:=fun b=>R {v with b:=b}) v.b h
theorem vL{L R:b4->Tok->Nat->Tok->β}{v:b4}{tk:Tok}{n:Nat}{Z:Tok}(hq:v.q=some (tk,n,Z))(h:(fun(v:b4) tk n Z=>L {v with q:=some (tk,n,Z)} tk n Z)=fun v tk n Z=>R {v with q:=some (tk,n,Z)} tk n Z):L v tk n Z=R v tk n Z:=by
 have e:v={v with q:=some (tk,n,Z)}:=by rw[←hq]
 rw[e];exact congrFun (congrFun (congrFun (congrFun h v) tk) n) Z
theorem Q7{m:Nat}{L R:b4->β}{v:b4}(Z:v.st.length<=m)(h:(lF m fun l=>L {v with st:=l})=lG m fun l=>R {v with st:=l}):L v=R v:=c5 (f:=fun l=>L {v with st:=l}) (g:=fun l=>R {v with st:=l}) Z h
theorem S2{L R:b4->β}{v:b4}(Z:v.st=[])(h:L {v with st:=[]}=R {v with st:=[]}):L v=R v:=by
 have e:v={v with st:=[]}:=by rw[←Z]
 rw[e];exact h
theorem Q8{m:Nat}{L R:b4->List SE->β}{v:b4}{l:List SE}{e:SE}(Y:l.length<=m)(Z:v.st=l++[e])(h:(lF m fun l=>L {v with st:=l++[e]} l)=lG m fun l=>R {v with st:=l++[e]} l):L v l=R v l:=by
 have q:v={v with st:=l++[e]}:=by rw[←Z]
 rw[q];exact c5 (f:=fun l=>L {v with st:=l++[e]} l) (g:=fun l=>R {v with st:=l++[e]} l) Y h
theorem WQ{L R:b4->Nat->β}{v:b4}{i:Nat}(Z:v.st.length<=4)(Y:i<v.st.length)(h:(lF 4 fun l=>nF 3 fun i=>QX (Nat.blt i l.length) (L {v with st:=l} i))=lG 4 fun l=>nG 3 fun i=>QY (Nat.blt i l.length) (R {v with st:=l} i)):L v i=R v i:=by
 have z:=I4 (n:=3) (c5 (f:=fun l=>nF 3 fun i=>QX (Nat.blt i l.length) (L {v with st:=l} i)) (g:=fun l=>nG 3 fun i=>QY (Nat.blt i l.length) (R {v with st:=l} i)) Z h) i (by lia)
 have e:Nat.blt i v.st.length=true:=Nat.ble_eq.mpr Y
 rw[e]at z;exact Option.some.inj z
end
end
set_option tactic.hygienic false
noncomputable def a6.new(c:a6)(N t:Nat):a6:=⟨c.w,N,c.PF,c.LF,c.cN,c.cS,c.cT,c.S,c.D,N+1,N+2,N+3,N+4,N+5,KK [t,t+2,t+3,t+4,t+5,t+6]⟩
noncomputable def Jl:b4:=⟨false,none,6,[],0,0,fun a=>none,0,0⟩
def a6.oS(c:a6)(s:ZT)(Y:Addr)(X:ZV)(l:List IE)(Z:Nat)(fr:ZL)(pos:Pos)(N t:Nat)(G:ZG):ay:=aq ⟨pg,c.w,kp c.w,c.W0,none⟩ (jn [dz 0x35cc020e0b022c285a2843f1f1128d285a285a283abb3a2837,[(0,.stop)]]) fr (.call (.ref 201) ⟨[.ref c.S],[]⟩) pos [(c.S,cp Y),(Y,cn c.w.params s c.D X 0 0),(c.D,a9 l Z)] [] N t G
theorem S3(c:a6)(s:ZT)(X:Addr)(W:ZV)(R T U V:IE)(Z:Nat)(fr:ZL)(pos:Pos)(N t:Nat)(G:ZG)(Y:Nat)(Q:c.D=Y+2):ir ⟨pg,c.w,kp c.w,c.W0,none⟩ 3 [3,4,5,6,7,8] (c.oS s X W [R,T,U,V] Z fr pos N t G) ((c.new N t).qh) ((c.new N t).W1) none [(c.S,cp X),(X,cn c.w.params s c.D W 0 0),(c.D,a9 [R,T,U,V] Z)] [(N,(c.new N t).fr none 6 false),(N+1,ae [] 0),(N+2,ae [] 0),(N+3,gM (Ag c.w) [] 0),(N+4,a9 [] 0),(N+5,xC c.D 0 Z)] (N+6) (t+7) G 0 [] []:=by apply rX Q;kernel_rfl
set_option tactic.hygienic false
structure D4 where
 v:Nat->Nat
 t:Nat->Tok
 a:Nat->Addr
noncomputable def D4.l(d:D4):List IE:=[((d.v 0:Nat),d.t 0,.ref (d.a 0)),((d.v 1:Nat),d.t 1,.ref (d.a 1)),((d.v 2:Nat),d.t 2,.ref (d.a 2)),((d.v 3:Nat),d.t 3,.ref (d.a 3))]
def S4(w:ZW)(ld:Bool)(q:Nat->Option Tok)(Z:Nat)(b:Bool):ZH w:=match b with
 |false=>jn [dz 0xf8c9122512e5,[(0,.ai (pH 4 ld (qq q) Z b))],[(1,.stop)]]
 |true=>jn [dz 0xf8c9122512e5,[(0,.ai (pH 4 ld (qq q) Z b))],[(1,.tail)]]
def a6.oN(c:a6)(d:D4)(i:Nat)(v:b4)(b:Bool)(fr:ZL)(pos:Pos)(N t:Nat)(G:ZG):ay:=aq ⟨pg,c.w,kp c.w,c.W1,none⟩ (S4 c.w (Ag c.w) v.sn v.en b) fr c.qh pos (c.core d.l 4 v++[(c.KI,xC c.D i 4)]) [] N t G
noncomputable def b4.xD(v:b4)(t n:Nat)(Z:Tok):b4:=match v.q with
 |none=>{v with q:=some (t,n,Z),ep:=v.ep+1}
 |some (tk,_,_)=>{v with q:=some (tk,n,Z)}
noncomputable def lV(q:Nat->Option Tok)(n:Nat)(b:Bool):List Prop:=[((qq q).any fun e=>decide ((e.1:Int)=(n:Int)))=b,(qq q).length<=7]
theorem S5(c:a6)(d:D4)(i:Nat)(Y:i<4)(v:b4)(fr:ZL)(pos:Pos)(N t:Nat)(G:ZG)(Z:Nat)(X:c.D=Z+2):ir ⟨pg,c.w,kp c.w,c.W1,none⟩ 7 [] (c.oN d i v false fr pos N t G) c.mA c.W2 none (c.core d.l 4 (v.xD t (d.v i) (d.t i))++[(c.KI,xC c.D (i+1) 4)]) [] N (t+2) G 0 (lV v.sn (d.v i) false) []:=by apply rX X;apply zR (v:=v);apply rR (cY Y);kernel_rfl
set_option tactic.hygienic false
theorem S6(c:a6)(d:D4)(i:Nat)(Y:i<4)(v:b4)(fr:ZL)(pos:Pos)(N t:Nat)(G:ZG)(Z:Nat)(X:c.D=Z+2):f5 7 [] (c.oN d i v true fr pos N t G) c.qh ⟨194,16,194,24⟩ (c.core d.l 4 (v.xD t (d.v i) (d.t i))++[(c.KI,xC c.D (i+1) 4)]) [] N (t+2) G 0 (lV v.sn (d.v i) true) []:=by apply rX X;apply zR (v:=v);apply rR (cY Y);kernel_rfl
def a6.oE(c:a6)(d:D4)(v:b4)(fr:ZL)(pos:Pos)(N t:Nat)(G:ZG):ay:=aq ⟨pg,c.w,kp c.w,c.W1,none⟩ (jn [dz 0x3925e5,[(1,.fin)]]) fr c.qh pos (c.core d.l 4 v++[(c.KI,xC c.D 4 4)]) [] N t G
noncomputable def U4:Obj:=⟨.type "dict_keyiterator",none,.fields #[.none,.int 4 0,.int 4 0,.int 4 0],#[]⟩
theorem S7(c:a6)(d:D4)(v:b4)(fr:ZL)(pos:Pos)(N t:Nat)(G:ZG)(Z:Nat)(Y:c.D=Z+2):iq 7 [] (c.oE d v fr pos N t G) (.ok .next) (c.core d.l 4 v++[(c.KI,U4)]) [] (N+2) t G 0 [] []:=by apply rX Y;kernel_rfl
def rY(w:ZW)(W:ZC)(h:ZH w)(o:ay)(r:Result)(fr:ZL)(L:ZA)(N t:Nat)(G:ZG):ay:=bo (V0 w W) h fr o r L [] N t G
theorem ME(c:a6)(d:D4)(i:Nat)(W:i<4)(v:b4)(fr Y:ZL)(pos:Pos)(N t:Nat)(G:ZG)(N' t':Nat)(X:ZG)(Z:Nat)(V:c.D=Z+2):f5 0 [] (rY c.w c.W1 (jn [[(0,.tail)]]) (c.oN d i v false fr pos N t G) (.ok .next) Y [] N' t' X) c.qh ⟨195,12,212,25⟩ [] [] N' t' X 0 [] []:=by apply rX V;apply zR (v:=v);apply rR (cY W);kernel_rfl
theorem MF(c:a6)(d:D4)(i:Nat)(W:i<4)(v:b4)(fr Y:ZL)(pos:Pos)(N t:Nat)(G:ZG)(x:ZV)(N' t':Nat)(X:ZG)(Z:Nat)(V:c.D=Z+2):iq 0 [] (rY c.w c.W1 (jn [[(0,.fin)]]) (c.oN d i v false fr pos N t G) (.ok (.ret x)) Y [] N' t' X) (.ok (.ret x)) [] [] N' t' X 0 [] []:=by apply rX V;apply zR (v:=v);apply rR (cY W);kernel_rfl
def S8(w:ZW)(ld:Bool)(q:Nat->Option Tok)(Z:Nat)(b:Bool)(l:List IE)(X:Nat)(I:Addr)(i:ZV)(nl:List IE)(Y W n:Nat)(V:Tok):ZH w:=jn [dz 0xf80c,[(0,.ai (pH 4 ld (qq q) Z b))],dz 0x21091414e109,[(0,.ai (MC w 4 ld q Z W))],dz 0x3d403050d08c10c,[(0,.ai (jQ 1 l X i))],dz 0x181718053cf2193c08281a43482727202039482a2253104c755832,[(0,.ai (mX 5 nl Y))],dz 0xb11020e090bcc0209,[(3,.stop)]]
def a6.oC(c:a6)(l:List IE)(Z:Nat)(v:b4)(tk:Tok)(n:Nat)(W:Tok)(I d J:Addr)(Y X:Tok)(U:Int)(V:ZY)(sep:Nat)(fr:ZL)(pos:Pos)(N t:Nat)(G:ZG):ay:=aq ⟨pg,c.w,kp c.w,c.W2,none⟩ (S8 c.w (Ag c.w) v.sn v.en false l Z I (.ref I) (gm 0 v.st) v.uv n n W) fr c.mA pos (c.core l Z v++[(I,c8 d n Y U X J),(J,ae V sep)]) [] N t G
set_option tactic.hygienic false
noncomputable def b4.push(v:b4)(n:Nat)(Z:Tok)(t N:Nat):b4:={v with st:=v.st++[⟨n,Z,Z,t+6,N+1,N⟩],es:=v.es+1,ei:=v.ei+1,sn:=aW v.sn n (some Z),en:=v.en+1,uv:=v.uv+1}
noncomputable def S9(l:List IE)(v:b4)(n:Nat)(I:Addr):List Prop:=[aG (gm 0 v.st) (n:Nat)=none,(gm 0 v.st).length<=1000,aG l (n:Nat)=some (.ref I),v.sn n=none,n<4]++lV v.sn n false
theorem Ta(c:a6)(l:List IE)(Z:Nat)(v:b4)(W:v.st.length<=3)(tk:Tok)(n:Nat)(X:Tok)(hq:v.q=some (tk,n,X))(I d J:Addr)(V U:Tok)(S:Int)(T:ZY)(sep:Nat)(fr:ZL)(pos:Pos)(N t:Nat)(G:ZG)(Y:Nat)(R:c.D=Y+2):ir ⟨pg,c.w,kp c.w,c.W2,none⟩ 8 [9,8] (c.oC l Z v tk n X I d J V U S T sep fr pos N t G) c.fv c.W3 none (c.core l Z (v.push n X t N)++[(I,c8 d n V S U J),(J,ae T sep)]) [(N+1,nE N),(N,bx J 0)] (N+2) (t+8) G 0 (S9 l v n I) []:=by apply rX R;apply Q7 W;apply vL hq;kernel_rfl
set_option tactic.hygienic false
def Tb(w:ZW)(ld:Bool)(q:Nat->Option Tok)(Z:Nat)(b:Bool)(nl:List IE)(Y:Nat)(X:Bool):ZH w:=jn [dz 0xf80c,[(0,.ai (pH 4 ld (qq q) Z b))],dz 0x181718d7,[(0,.ai (Cf 5 nl Y X))],[(1,.stop)]]
def a6.oB(c:a6)(l:List IE)(Z:Nat)(v:b4)(fr:ZL)(pos:Pos)(N t:Nat)(G:ZG):ay:=aq ⟨pg,c.w,kp c.w,c.W2,none⟩ (Tb c.w (Ag c.w) v.sn v.en true (gm 0 v.st) v.uv false) fr c.mA pos (c.core l Z v) [] N t G
noncomputable def Jm(v:b4)(n:Nat)(b:Bool):List Prop:=((aG (gm 0 v.st) (n:Nat)).isSome=b)::lV v.sn n true
theorem Tc(c:a6)(l:List IE)(Z:Nat)(v:b4)(tk:Tok)(n:Nat)(Y:Tok)(hq:v.q=some (tk,n,Y))(fr:ZL)(pos:Pos)(N t:Nat)(G:ZG):ir ⟨pg,c.w,kp c.w,c.W2,none⟩ 6 [] (c.oB l Z v fr pos N t G) c.fv c.W3 none (c.core l Z v) [] N (t+2) G 0 (Jm v n false) []:=by apply nH (c:=c);apply vL hq;kernel_rfl
theorem MG(c:a6)(l:List IE)(W:Nat)(v:b4)(Y:v.st.length<=3)(tk:Tok)(n:Nat)(V:Tok)(hq:v.q=some (tk,n,V))(I d J:Addr)(T S:Tok)(Q:Int)(R:ZY)(sep:Nat)(fr X:ZL)(pos:Pos)(N t:Nat)(G:ZG)(N' t':Nat)(U:ZG)(Z:Nat)(P:c.D=Z+2):f5 0 [] (rY c.w c.W2 (jn [[(0,.tail)]]) (c.oC l W v tk n V I d J T S Q R sep fr pos N t G) (.ok .next) X [] N' t' U) c.mA ⟨204,16,212,25⟩ [] [] N' t' U 0 [] []:=by apply rX P;apply Q7 Y;apply vL hq;kernel_rfl
theorem MH(c:a6)(l:List IE)(W:Nat)(v:b4)(Y:v.st.length<=3)(tk:Tok)(n:Nat)(V:Tok)(hq:v.q=some (tk,n,V))(I d J:Addr)(T S:Tok)(Q:Int)(R:ZY)(sep:Nat)(fr X:ZL)(pos:Pos)(N t:Nat)(G:ZG)(N' t':Nat)(U:ZG)(Z:Nat)(P:c.D=Z+2):iq 0 [] (rY c.w c.W2 (jn [[(0,.fin)]]) (c.oC l W v tk n V I d J T S Q R sep fr pos N t G) (.ok .brk) X [] N' t' U) (.ok .next) [] [] N' t' U 0 [] []:=by apply rX P;apply Q7 Y;apply vL hq;kernel_rfl
theorem MI(c:a6)(l:List IE)(Y:Nat)(v:b4)(tk:Tok)(n:Nat)(W:Tok)(hq:v.q=some (tk,n,W))(fr Z:ZL)(pos:Pos)(N t:Nat)(G:ZG)(N' t':Nat)(X:ZG):f5 0 [] (rY c.w c.W2 (jn [[(0,.tail)]]) (c.oB l Y v fr pos N t G) (.ok .next) Z [] N' t' X) c.mA ⟨204,16,212,25⟩ [] [] N' t' X 0 [] []:=by apply nH (c:=c);apply vL hq;kernel_rfl
theorem MJ(c:a6)(l:List IE)(Y:Nat)(v:b4)(tk:Tok)(n:Nat)(W:Tok)(hq:v.q=some (tk,n,W))(fr Z:ZL)(pos:Pos)(N t:Nat)(G:ZG)(N' t':Nat)(X:ZG):iq 0 [] (rY c.w c.W2 (jn [[(0,.fin)]]) (c.oB l Y v fr pos N t G) (.ok .brk) Z [] N' t' X) (.ok .next) [] [] N' t' X 0 [] []:=by apply nH (c:=c);apply vL hq;kernel_rfl
def a6.oD(c:a6)(l:List IE)(Z:Nat)(v:b4)(fr:ZL)(pos:Pos)(N t:Nat)(G:ZG):ay:=aq ⟨pg,c.w,kp c.w,c.W3,none⟩ (jn [dz 0x2f20b0205,[(6,.fin)]]) fr c.fv pos (c.core l Z v) [] N t G
theorem Td(c:a6)(l:List IE)(Z:Nat)(v:b4)(Y:v.st=[])(fr:ZL)(pos:Pos)(N t:Nat)(G:ZG):iq 6 [] (c.oD l Z v fr pos N t G) (.ok .brk) (c.core l Z v) [] N (t+2) G 0 [] []:=by apply nH (c:=c);apply S2 Y;kernel_rfl
set_option tactic.hygienic false
def Te(w:ZW)(ld:Bool)(q:Nat->Option Tok)(Y:Nat)(b:Bool)(nl:List IE)(Z:Nat)(W:Bool)(X:ZV):ZH w:=jn [dz 0xf80c,[(0,.ai (pH 4 ld (qq q) Y b))],dz 0x181718d7,[(0,.ai (Cf 5 nl Z W))],dz 0x18dcbd09,[(0,.ai (jQ 5 nl Z X))],dz 0x2722202a22272a0d0b121212f102cc0e,[(3,.fin)]]
def a6.oA(c:a6)(l:List IE)(Z:Nat)(v:b4)(Y:ZV)(fr:ZL)(pos:Pos)(N t:Nat)(G:ZG):ay:=aq ⟨pg,c.w,kp c.w,c.W2,none⟩ (Te c.w (Ag c.w) v.sn v.en true (gm 0 v.st) v.uv true Y) fr c.mA pos (c.core l Z v) [] N t G
theorem Tg(c:a6)(l:List IE)(Z:Nat)(v:b4)(Y:v.st.length<=4)(i:Nat)(V:i<v.st.length)(W:Tok)(tk:Tok)(n:Nat)(X:Tok)(hq:v.q=some (tk,n,X))(fr:ZL)(pos:Pos)(N t:Nat)(G:ZG):iq 6 [9] (c.oA l Z v (.int i W) fr pos N t G) (.ok (.ret (.ref (N+3)))) (c.core l Z v) [(N+3,ae ((F0 v.st).drop i++[.int n X]) 0)] (N+4) (t+3) G 0 ((aG (gm 0 v.st) (n:Nat)=some (.int i W))::Jm v n true) []:=by apply nH (c:=c);apply WQ Y V;apply vL hq;kernel_rfl
def a6.oM(c:a6)(l:List IE)(Z:Nat)(v:b4)(M I J:Addr)(k:Nat)(Y:ZY)(sep:Nat)(fr:ZL)(pos:Pos)(N t:Nat)(G:ZG):ay:=aq ⟨pg,c.w,kp c.w,c.W3,none⟩ (jn [dz 0x321a1a0808431d02f20b0205,[(0,.stop)]]) fr c.fv pos (c.core l Z v++[(M,nE I),(I,bx J k),(J,ae Y sep)]) [] N t G
noncomputable def Cu(c:Code)(p:Pos)(W:ZC):ZC:=(c,p)::W
theorem Th(c:a6)(l:List IE)(X:Nat)(v:b4)(Z:List SE)(Y:Z.length<=3)(e:SE)(W:v.st=Z++[e])(J:Addr)(k:Nat)(V:ZY)(sep:Nat)(fr:ZL)(pos:Pos)(N t:Nat)(G:ZG):ir ⟨pg,c.w,kp c.w,c.W3,none⟩ 9 [] (c.oM l X v e.m e.i J k V sep fr pos N t G) (.call (.ref e.m) ⟨[],[]⟩) (Cu c.fv ⟨206,31,206,44⟩ c.W3) none (c.core l X v++[(e.m,nE e.i),(e.i,bx J k),(J,ae V sep)]) [] N (t+4) G 0 [] []:=by apply nH (c:=c);apply Q8 Y W;kernel_rfl
theorem MK(c:a6)(l:List IE)(Z:Nat)(v:b4)(X:List SE)(W:X.length<=3)(e:SE)(V:v.st=X++[e])(tk:Tok)(n:Nat)(R:Tok)(hq:v.q=some (tk,n,R))(J:Addr)(k:Nat)(Q:ZY)(sep:Nat)(T:Nat)(Y:Tok)(fr U:ZL)(pos:Pos)(N t:Nat)(G:ZG)(N' t':Nat)(S:ZG):iq 6 [] (rY c.w c.W3 (jn [dz 0xdb,[(2,.fin)]]) (c.oM l Z v e.m e.i J k Q sep fr pos N t G) (.ok (.ret (.int T Y))) U (c.core l Z v) N' t' S) (.ok .next) (c.core l Z {v with q:=some (tk,T,Y)}) [] N' (t'+1) S 0 [] []:=by apply nH (c:=c);apply Q8 W V;apply vL hq;kernel_rfl
set_option tactic.hygienic false
noncomputable def Q9(a Z:ZV):Obj:=⟨.type "StopIteration",none,.fields #[a,Z,.none,.none,.bool false,.none],#[]⟩
def a6.aJ(c:a6):ZC:=(c.fv,⟨206,31,206,44⟩)::c.W3
noncomputable def zU(b:Bool):ZY:=fa ⟨206,31,206,44⟩ ["claim.caller"] b
theorem a6.U5(c:a6)(e:ZV):∀t:ZE,Lk c.aJ (vH (PySem.W.Fast.tw17872113653443481271 e c.env) (qg c.w) c.fv e c.env) (vH (gv true [c.env,c.vJ,c.vK] zU e c.env) (qg c.w) c.fv e c.env):=fun a=>by
 have Z:cw c.aJ=[c.env,c.vJ,c.vK]:=rfl
 have hf:c.env.frame=some c.F:=rfl
 refine MD (cc:=true) rfl (by rw[Z,sm (by simp)]) hf (fun b=>?_) (qg c.w) c.fv e
 have a1:c.aJ.find? (fun(x,_)=>x.env?.bind (·.frame)==some c.F)=some (c.fv,⟨206,31,206,44⟩):=by
  unfold a6.aJ;rw[List.find?_cons_of_pos];show(some c.F==some c.F)=true
  simp
 have a2:EntryCells.beneath c.F c.aJ=some ["claim.caller"]:=by
  unfold EntryCells.beneath;have:c.aJ.dropWhile (fun(x,_)=>!(x.isFrame&&x.env?.bind (·.frame)==some c.F))=c.W1:=by
   unfold a6.aJ a6.W3 a6.W2;rw[wH (by rfl),wH (by rfl),wH (by rfl)]
   unfold a6.W1;rw[sm];show¬(!(true&&(some c.F==some c.F)))=true
   simp
  rw[this];rfl
 unfold f3 zU fa oz;rw[a1];unfold EntryCells.cells;rw[a2];rfl
def Ti(c:a6)(b:Bool)(nl:List IE)(Y:Nat)(x:ZV)(Z:Addr):List (Nat×bD pg c.w (kp c.w)):=match b with
 |false=>jn [[(0,.lk c.aJ (fun a=>(vH (PySem.W.Fast.tw17872113653443481271 (.ref Z) c.env) (qg c.w) c.fv (.ref Z) c.env,vH (gv true [c.env,c.vJ,c.vK] zU (.ref Z) c.env) (qg c.w) c.fv (.ref Z) c.env)) (c.U5 (.ref Z)))],dz 0x181740eb02d7501e4862501e27442054222512071527,[(0,.ai (Cr 5 nl Y x))],dz 0x828081a2c08c109,[(6,.tail)]]
 |true=>jn [[(0,.lk c.aJ (fun a=>(vH (PySem.W.Fast.tw17872113653443481271 (.ref Z) c.env) (qg c.w) c.fv (.ref Z) c.env,vH (gv true [c.env,c.vJ,c.vK] zU (.ref Z) c.env) (qg c.w) c.fv (.ref Z) c.env)) (c.U5 (.ref Z)))],dz 0x181740eb02d7501e4862501e2744201527,[(0,.ai (Cr 5 nl Y x))],dz 0x828081a2c08c109,[(6,.tail)]]
noncomputable def a6.ML(c:a6)(l:List IE)(Z:Nat)(v:b4)(ns:List IE):ZA:=[(c.F,c.fr v.q v.ep v.b),(c.D,a9 l Z),(c.ST,ae (F0 v.st) v.es),(c.IS,ae (U3 v.st) v.ei),(c.SN,gM (Ag c.w) (qq v.sn) v.en),(c.NS,a9 ns v.uv)]
noncomputable def a6.out(c:a6)(b:Bool)(Y Z:List DictEntry)(W X:Nat):ZA:=[(c.PF,nD ⟨Y⟩ W (c.WK b)),(c.LF,nD ⟨Z⟩ X (c.WM b))]
def a6.oF(c:a6)(l:List IE)(Z:Nat)(v:b4)(x:ZV)(Y:Addr)(a:ZV)(U V:List DictEntry)(W X:Nat)(o:ay)(fr:ZL)(N t:Nat)(G:ZG):ay:=bo ⟨pg,c.w,kp c.w,c.W3,none⟩ (Ti c v.b (gm 0 v.st) v.uv x Y) fr o (.error (.ref Y)) (c.core l Z v++c.out v.b U V W X++[(Y,Q9 a .none)]) [] N t G
noncomputable def b4.pop(v:b4)(Z:List SE):b4:={v with b:=true,st:=Z,es:=v.es+1,ei:=v.ei+1,uv:=v.uv+1}
theorem Tj(c:a6)(l:List IE)(Y:Nat)(v:b4)(Z:List SE)(X:Z.length<=3)(e:SE)(W:v.st=Z++[e])(tk:Tok)(n:Nat)(O:Tok)(hq:v.q=some (tk,n,O))(J:Addr)(k:Nat)(M:ZY)(sep:Nat)(x:ZV)(P:Addr)(a:ZV)(R S:List DictEntry)(T U:Nat)(fr V:ZL)(pos:Pos)(N t:Nat)(G:ZG)(N' t':Nat)(Q:ZG):f5 9 [] (c.oF l Y v x P a R S T U (c.oM l Y v e.m e.i J k M sep fr pos N t G) V N' t' Q) c.fv ⟨206,31,206,44⟩ (c.ML l Y (v.pop Z) (iI (gm 0 v.st) e.v)++c.out true R S T U++[(P,Q9 a (.ref N'))]) [] (N'+1) (t'+1) Q 0 [aG (gm 0 v.st) e.v=some x,(gm 0 v.st).length<=1000] []:=by apply nH (c:=c);apply Q8 X W;apply S1 (v:=v);apply vL hq;kernel_rfl
section
set_option tactic.hygienic true
def Ring(Z:Nat->ZN):Prop:=∃S:ZN,S≠[]/\∀u∈S,∃w∈S,w∈Z u
def gp(seen:Nat->Bool)(st:List (Nat×Nat))(u:Nat):Prop:=seen u=true/\u∉st.map (·.1)
def j7(Z:Nat->ZN)(Y:Nat->Prop):List (Nat×Nat)->Option Nat->Prop
 |[],_=>True
 |(v,k)::rest,none=>(∀j w,j<k->(Z v)[j]?=some w->Y w)/\k<=(Z v).length/\j7 Z Y rest (some v)
 |(v,k)::rest,some n=>(∃k',k=k'+1/\(Z v)[k']?=some n/\∀j w,j<k'->(Z v)[j]?=some w->Y w)/\j7 Z Y rest (some v)
structure Inv(Z:Nat->ZN)(seen:Nat->Bool)(st:List (Nat×Nat))(c:Option Nat):Prop where
 nd:(st.map (·.1)).Nodup
 sub:∀p∈st,seen p.1=true
 lt:∀u,seen u=true->u<4
 ok:j7 Z (gp seen st) st c
 rank:∃r:Nat->Nat,∀u,gp seen st u->∀w∈Z u,gp seen st w/\r w<r u
variable{Z:Nat->ZN}{seen:Nat->Bool}{st:List (Nat×Nat)}
theorem vM{a b:Nat}(h:a≠b):Nat.beq a b=false:=by
 cases e:Nat.beq a b with
 |false=>rfl
 |true=>exact absurd (so e) h
theorem j7.mono{V Y:Nat->Prop}(h:∀u,V u->Y u):∀{st:List (Nat×Nat)} {c:Option Nat},j7 Z V st c->j7 Z Y st c
 |[],_,_=>trivial
 |(v,k)::rest,none,⟨a,b,d⟩=>⟨fun j w W X=>h w (a j w W X),b,d.mono h⟩
 |(v,k)::rest,some n,⟨⟨k',e,U,a⟩,d⟩=>⟨⟨k',e,U,fun j w W X=>h w (a j w W X)⟩,d.mono h⟩
theorem j7.close{W:Nat->Prop}{n:Nat}(hn:W n):∀{st:List (Nat×Nat)},j7 Z W st (some n)->j7 Z W st none
 |[],_=>trivial
 |(v,k)::rest,⟨⟨k',e,X,a⟩,d⟩=>by
  refine⟨fun j w V Y=>?_,?_,d⟩
  .by_cases q:j=k'
   .subst q;rw[X]at Y;cases Y;exact hn
   .exact a j w (by lia) Y
  .have:k'<(Z v).length:=by
    rcases mM k' (Z v).length with q|q
    .exact q
    .rw [List.getElem?_eq_none q]at X;cases X
   exact le_of_eq_of_le e this
theorem j7.ring{R:Nat->Prop}{n:Nat}:∀{st:List (Nat×Nat)} {c:Nat},j7 Z R st (some c)->n∈st.map (·.1)->∃S:ZN,n∈S/\∀u∈S,∃w,(w∈S\/w=c)/\w∈Z u
 |[],_,_,h=>nomatch h
 |(v,k)::rest,c,⟨⟨k',e,T,a⟩,d⟩,h=>by
  have W:c∈Z v:=List.mem_of_getElem? T
  by_cases q:n=v
  .exact⟨[v],by simp[q],fun u Y=>by rcases bQ.mp Y with rfl;exact⟨c,.inr rfl,W⟩⟩
  .have hn:n∈rest.map (·.1):=by
    rcases bc.mp h with h|h
    .exact absurd h q
    .exact h
   obtain⟨S,U,h2⟩:=d.ring hn;refine⟨v::S,.tail _ U,fun u Y=>?_⟩
   rcases bc.mp Y with rfl|Y
   .exact⟨c,.inr rfl,W⟩
   .obtain⟨w,X,V⟩:=h2 u Y;rcases X with X|rfl
    .exact⟨w,.inl (.tail _ X),V⟩
    .exact⟨w,.inl (.head _),V⟩
theorem Inv.ring{n:Nat}(h:Inv Z seen st (some n))(hn:n∈st.map (·.1)):Ring Z:=by
 obtain⟨S,W,h2⟩:=h.ok.ring hn;refine⟨S,List.ne_nil_of_mem W,fun u V=>?_⟩
 obtain⟨w,Y,X⟩:=h2 u V;rcases Y with Y|rfl
 .exact⟨w,Y,X⟩
 .exact⟨w,W,X⟩
theorem Inv.push{n:Nat}(h:Inv Z seen st (some n))(hn:seen n=false)(T:n<4):Inv Z (aW seen n true) ((n,0)::st) none:=by
 have ns:n∉st.map (·.1):=fun q=>by
  obtain⟨p,hp,e⟩:=aZ.mp q;have:=h.sub p hp
  rw[e,hn]at this;cases this
 have up:∀u,aW seen n true u=true↔(u=n\/seen u=true):=fun u=>by
  unfold aW
  by_cases e:u=n
  .subst e;simp
  .have:Nat.beq u n=false:=vM e
   simp[this,e]
 have X:∀u,gp (aW seen n true) ((n,0)::st) u↔gp seen st u:=fun u=>by
  unfold gp;rw[up,dw,bc];constructor
  .rintro ⟨a,b⟩
   refine⟨?_,fun q=>b (.inr q)⟩
   rcases a with a|a
   .exact absurd (.inl a) b
   .exact a
  .rintro ⟨a,b⟩
   exact⟨.inr a,fun q=>by
    rcases q with q|q
    .subst q;rw[hn]at a;cases a
    .exact b q⟩
 refine⟨cy.mpr ⟨ns,h.nd⟩,fun p hp=>?_,fun u Y=>?_,⟨fun j w U=>absurd U (p5 _),b9 _,h.ok.mono fun u q=>(X u).mpr q⟩,?_⟩
 .rcases bc.mp hp with rfl|hp
  .exact(up _).mpr (.inl rfl)
  .exact(up _).mpr (.inr (h.sub p hp))
 .rcases(up u).mp Y with rfl|q
  .exact T
  .exact h.lt u q
 .obtain⟨r,V⟩:=h.rank;exact⟨r,fun u Y w W=>by
   obtain⟨a,b⟩:=V u ((X u).mp Y) w W;exact⟨(X w).mpr a,b⟩⟩
theorem Inv.skip{n:Nat}(h:Inv Z seen st (some n))(Y:seen n=true)(hn:n∉st.map (·.1)):Inv Z seen st none:=⟨h.nd,h.sub,h.lt,h.ok.close ⟨Y,hn⟩,h.rank⟩
theorem Inv.next{v k w:Nat}(h:Inv Z seen ((v,k)::st) none)(Y:(Z v)[k]?=some w):Inv Z seen ((v,k+1)::st) (some w):=by
 obtain⟨a,b,d⟩:=h.ok;exact⟨h.nd,fun p hp=>by
  rcases bc.mp hp with rfl|hp
  .exact h.sub (v,k) (.head _)
  .exact h.sub p (.tail _ hp),h.lt,⟨⟨k,rfl,Y,a⟩,d⟩,h.rank⟩
theorem Inv.pop{v k:Nat}(h:Inv Z seen ((v,k)::st) none)(R:(Z v)[k]?=none):Inv Z seen st none:=by
 obtain⟨a,b,d⟩:=h.ok;have M:(Z v).length<=k:=List.getElem?_eq_none_iff.mp R
 have T:=cy.mp (show(v::st.map (·.1)).Nodup from h.nd)
 have W:∀u,gp seen st u↔(gp seen ((v,k)::st) u\/u=v):=fun u=>by
  unfold gp;rw[dw,bc];constructor
  .rintro ⟨x,y⟩
   by_cases e:u=v
   .exact .inr e
   .exact .inl ⟨x,fun q=>by rcases q with q|q;exact e q;exact y q⟩
  .rintro (⟨x,y⟩|rfl)
   .exact⟨x,fun q=>y (.inr q)⟩
   .exact⟨h.sub _ (.head _),T.1⟩
 have Q:∀w∈Z v,gp seen ((v,k)::st) w:=fun w N=>by
  obtain⟨j,S,e⟩:=List.mem_iff_getElem.mp N;exact a j w (jD S M) (by rw[List.getElem?_eq_getElem S,e])
 refine⟨T.2,fun p hp=>h.sub p (.tail _ hp),h.lt,(d.mono fun u q=>(W u).mpr (.inl q)).close ((W v).mpr (.inr rfl)),?_⟩
 obtain⟨r,O⟩:=h.rank;refine⟨aW r v (1+(r 0+r 1+r 2+r 3)),fun u P w X=>?_⟩
 have ne:∀x,x≠v->aW r v (1+(r 0+r 1+r 2+r 3)) x=r x:=fun x q=>by
  unfold aW;have:Nat.beq x v=false:=vM q
  rw[this]
 have V:¬gp seen ((v,k)::st) v:=fun q=>q.2 (by simp)
 rcases(W u).mp P with q|rfl
 .obtain⟨x,y⟩:=O u q w X;have Y:w≠v:=fun e=>V (e▸x)
  have U:u≠v:=fun e=>V (e▸q)
  exact⟨(W w).mpr (.inl x),by rw[ne w Y,ne u U];exact y⟩
 .have x:=Q w X
  have Y:w≠u:=fun e=>V (e▸x)
  refine⟨(W w).mpr (.inl x),?_⟩;rw[ne w Y];have L:aW r u (1+(r 0+r 1+r 2+r 3)) u=1+(r 0+r 1+r 2+r 3):=by
   unfold aW;have:Nat.beq u u=true:=Nat.beq_refl u
   rw[this]
  rw[L];have:=h.lt w x.1
  match w,this with
  |0,_=>lia
  |1,_=>lia
  |2,_=>lia
  |3,_=>lia
noncomputable def Jn(Z:Nat->ZN)(st:List (Nat×Nat)):Nat:=(st.map fun p=>(Z p.1).length-p.2+1).sum
noncomputable def rZ(Z:Nat->ZN)(seen:Nat->Bool)(u:Nat):Nat:=if seen u then 0 else(Z u).length+2
noncomputable def pI(Z:Nat->ZN)(seen:Nat->Bool)(st:List (Nat×Nat)):Nat:=Jn Z st+(rZ Z seen 0+rZ Z seen 1+rZ Z seen 2+rZ Z seen 3)
theorem y7{n:Nat}(hn:seen n=false)(W:n<4):pI Z (aW seen n true) ((n,0)::st)<pI Z seen st:=by
 have ne:∀x,x≠n->rZ Z (aW seen n true) x=rZ Z seen x:=fun x q=>by
  unfold rZ aW;have:Nat.beq x n=false:=vM q
  rw[this]
 have X:rZ Z (aW seen n true) n=0:=by
  unfold rZ aW;have:Nat.beq n n=true:=Nat.beq_refl n
  rw[this];rfl
 have Y:rZ Z seen n=(Z n).length+2:=by unfold rZ;rw[hn];rfl
 unfold pI Jn;simp only[List.map_cons,List.sum_cons]
 match n,W with
 |0,_=>rw[ne 1 (Nat.one_ne_zero),ne 2 (Ne.symm (sx 1)),ne 3 (Ne.symm (sx 2)),X,Y];lia
 |1,_=>rw[ne 0 (Nat.zero_ne_one),ne 2 (Nat.add_one_add_one_ne_one),ne 3 (Nat.add_one_add_one_ne_one),X,Y];lia
 |2,_=>rw[ne 0 (sx 1),ne 1 (sy rfl),ne 3 (sy rfl),X,Y];lia
 |3,_=>rw[ne 0 (sx 2),ne 1 (sy rfl),ne 2 (sy rfl),X,Y];lia
theorem y8{v k w:Nat}(Y:(Z v)[k]?=some w):pI Z seen ((v,k+1)::st)<pI Z seen ((v,k)::st):=by
 have:k<(Z v).length:=by
  rcases mM k (Z v).length with q|q
  .exact q
  .rw [List.getElem?_eq_none q]at Y;cases Y
 unfold pI Jn;simp only[List.map_cons,List.sum_cons]
 lia
theorem AZ{v k:Nat}:pI Z seen st<pI Z seen ((v,k)::st):=by
 unfold pI Jn;simp only[List.map_cons,List.sum_cons]
 lia
end
set_option tactic.hygienic false
theorem l5{n:Nat}:∀{st:List SE} {i:Nat},n∉st.map (·.v)->aG (gm i st) n=none
 |[],_,_=>rfl
 |e::st,i,h=>by
  show(if((e.v:Nat):Int)=n then some (Value.int i e.ti)else aG (gm (i+1) st) n)=none
  rw[if_neg (fun q=>h (show n∈e.v::st.map (·.v)from bc.mpr (.inl (mO.mp (id (Eq.symm q))))))]
  exact l5 fun q=>h (.tail _ q)
theorem qJ{n:Nat}:∀{st:List SE} {i:Nat},n∈st.map (·.v)->∃j Z,j<st.length/\aG (gm i st) n=some (.int ((i+j:Nat):Int) Z)
 |[],_,h=>nomatch h
 |e::st,i,h=>by
  show∃j Z,j<st.length+1/\(if((e.v:Nat):Int)=n then some (Value.int i e.ti)else aG (gm (i+1) st) n)=_
  by_cases q:e.v=n
  .exact⟨0,e.ti,(mP st.length),by rw[if_pos (mO.mpr q)];rfl⟩
  .rw [if_neg (Nat.ToInt.of_diseq rfl rfl q)];rcases bc.mp h with h|h
   .exact absurd h.symm q
   .obtain⟨j,Z,Y,X⟩:=qJ (i:=i+1) h;exact⟨j+1,Z,(Nat.add_lt_add_right Y 1),by rw[X];congr 3;exact pa i j⟩
theorem uw{e:SE}:∀{st:List SE} {i:Nat},e.v∉st.map (·.v)->∃x,aG (gm i (st++[e])) e.v=some x
 |[],i,_=>⟨.int i e.ti,by show(if((e.v:Nat):Int)=e.v then _ else _)=_;rw[if_pos rfl]⟩
 |a::st,i,h=>by
  show∃x,(if((a.v:Nat):Int)=e.v then some (Value.int i a.ti)else aG (gm (i+1) (st++[e])) e.v)=some x
  rw[if_neg (fun q=>h (show e.v∈a.v::st.map (·.v)from bc.mpr (.inl (mO.mp (id (Eq.symm q))))))]
  exact uw fun q=>h (.tail _ q)
theorem ux{e:SE}:∀{st:List SE} {i:Nat},e.v∉st.map (·.v)->iI (gm i (st++[e])) e.v=gm i st
 |[],i,_=>by show(if((e.v:Nat):Int)=e.v then _ else _)=_;rw[if_pos rfl];rfl
 |a::st,i,h=>by
  show(if((a.v:Nat):Int)=e.v then gm (i+1) (st++[e])else((a.v:Int),a.tn,Value.int i a.ti)::iI (gm (i+1) (st++[e])) e.v)=_
  rw[if_neg (fun q=>h (show e.v∈a.v::st.map (·.v)from bc.mpr (.inl (mO.mp (id (Eq.symm q)))))),ux fun q=>h (.tail _ q)]
  rfl
theorem oP:∀(st:List SE)(i:Nat),(gm i st).length=st.length
 |[],_=>rfl
 |e::st,i=>by show(gm (i+1) st).length+1=_;rw[oP];rfl
noncomputable def d4(x:NS)(p:Nat->Nat):D4:=⟨p,fun i=>x.tv (p i),fun i=>x.ia (p i)⟩
noncomputable def p4(p:Nat->Nat):ZN:=[p 0,p 1,p 2,p 3]
noncomputable def Jo(x:NS):List (SE×Nat)->ZA
 |[]=>[]
 |(e,k)::zs=>(e.m,nE e.i)::(e.i,bx (x.ja e.v) k)::Jo x zs
structure Ah where
 d1:List DictEntry
 d2:List DictEntry
 n1:Nat
 n2:Nat
noncomputable def a6.bk(c:a6)(x:Sx.NS)(p:Nat->Nat)(o:Ah)(E:List Bk)(v:b4)(zs:List (SE×Nat)):List Bk:=sg (c.core (d4 x p).l 4 v)++(.l (Jo x zs)::(sg (c.out v.b o.d1 o.d2 o.n1 o.n2)++.l (aT x (p4 p))::E))
theorem l6(x:NS){u:Nat}{Z:ZN}(h:u∈Z):∃R,(aT x Z).Perm (df x u++R):=by obtain⟨a,b,rfl⟩:=sr h;refine⟨aT x a++aT x b,?_⟩;rw[fU,cv];exact List.perm_append_comm_assoc ..
noncomputable def m7(zs:List (SE×Nat)):List (Nat×Nat):=zs.map fun z=>(z.1.v,z.2)
noncomputable def bT(q:Nat->Option Tok)(n:Nat):Bool:=(q n).isSome
section
open PySem.F
set_option tactic.hygienic false
def WR(w:ZW)(W:ZC)(M I J:Addr)(k:Nat)(Z:ZY)(ep:Nat)(fr:ZL)(pos:Pos)(N t:Nat)(G:ZG):ay:=aq (V0 w W) (jn [dz 0x15,[(0,.tail)]]) fr (.call (.ref M) ⟨[],[]⟩) pos [(M,nE I),(I,bx J k),(J,ae Z ep)] [] N t G
theorem WS(w:ZW)(W:ZC)(M I J:Addr)(k:Nat)(Z:ZY)(ep:Nat)(fr:ZL)(pos:Pos)(N t:Nat)(G:ZG):f5 3 [] (WR w W M I J k Z ep fr pos N t G) (.builtin "list_iterator.__next__" ⟨[.ref I],[]⟩) pos [(M,nE I),(I,bx J k),(J,ae Z ep)] [] N t G 0 [] []:=by apply aC w;kernel_rfl
theorem Hp.Cv[ZI]{w:ZW}{s Z:ZS}{L A A' R new:ZA}{bg:List aQ}{k:Nat}(h:Hp w s L bg)(p:L.Perm (A++R))(P:de s Z A (A'.map (·.2)) new [] k)(hA:A'.map (·.1)=A.map (·.1)):Hp w Z (A'++(new++R)) bg:=by
 have z:=h.step p P hA
 rwa [bY]at z
theorem F1[ZI]{Q:ZR}(w:ZW)(W:ZC)(B:aS)(b:Bt W none B)(s:ZS)(pos:Pos)(M I J:Addr)(k:Nat)(Z:ZY)(ep:Nat)(E:List Bk)(bg:List aQ)(H:Hq w s (.o M (nE I)::.o I (bx J k)::.o J (ae Z ep)::E) bg)(K:∀x Y,Z[k]?=some x->Hq w Y (.o M (nE I)::.o I (bx J (k+1))::.o J (ae Z ep)::E) bg->Q (.ok (.ret x)) Y)(KE:∀a S Y,Z[k]?=none->Hq w Y (.o M (nE I)::.o I (jO "list_iterator" k)::.o J (ae Z ep)::.o S (Q9 a .none)::E) bg->Q (.error (.ref S)) Y):Rn w B s (.call (.ref M) ⟨[],[]⟩) pos Q:=by
 refine hT [0,1,2] b H (fun fr=>WS w W M I J k Z ep fr pos (zN s) s.toks s.gens:) (fun c=>rfl) (fun c=>aj) fun fr s1 H1=>Rn.of ?_
 have V:Hp w s1 ([(I,bx J k),(J,ae Z ep)]++(M,nE I)::fl E) bg:=H1.u [1,2,0] 3
 have U:=V.holds _ (.head _)
 have hJ:=V.holds _ (.tail _ (.head _))
 have X:I≠J:=fun e=>(cy.mp V.nodup).1 (e▸.head _)
 cases hx:Z[k]? with
 |some x=>
  refine(bL (prog:=pg) (w:=w) (B:=B) (s:=s1) (pos:=pos) b.hB (by decide+kernel) PySem.entry_listiter_next (kr (I:=I) (l:=J) (n:=ep) x hx) (R:=fun r Y=>r=.ok (.ret x)/\Y={s1 with heap:=s1.heap.update I (Obj.mapFields (·.setIfInBounds 1 (rawInt ((k:Int)+1))))}) ⟨U,hJ,rfl,rfl⟩).mono fun r Y h=>?_
  obtain⟨rfl,rfl⟩:=h;have P:=(dB (s:=s1) U (um J k) rfl (M:=[(J,ae Z ep)]) (fun p hp=>by rcases bQ.mp hp with rfl;exact hJ) (fun h=>X (bQ.mp h)) 0).UL
  have T:=Hp.Cv (A':=[(I,bx J (k+1)),(J,ae Z ep)]) V (List.Perm.refl _) P rfl
  exact K x _ hx ((T.q (cs:=.o I (bx J (k+1))::.o J (ae Z ep)::.o M (nE I)::E)).p [2,0,1] 3)
 |none=>
  refine(bL (prog:=pg) (w:=w) (B:=B) (s:=s1) (pos:=pos) b.hB (by decide+kernel) PySem.entry_listiter_next (ml (I:=I) (l:=J) (n:=ep) hx) (R:=fun r Y=>r=.error (.ref (s1.heap.objs.size+1))/\Y={s1 with heap:=((s1.heap.update I (Obj.mapFields (·.setIfInBounds 0 .none))).push (bK [] 0)).push (lS s1.heap.objs.size)}) ⟨rfl,U,hJ,rfl,rfl⟩).mono fun r Y h=>?_
  obtain⟨rfl,rfl⟩:=h;have P:=(j4 (s:=s1) (f:=Obj.mapFields (·.setIfInBounds 0 .none)) U (o':=jO "list_iterator" k) rfl rfl hJ X (.error (.ref (s1.heap.objs.size+1)))).UL
  have T:=Hp.Cv (A':=[(I,jO "list_iterator" k),(J,ae Z ep)]) V (List.Perm.refl _) P rfl
  exact KE (.ref s1.heap.objs.size) (s1.heap.objs.size+1) _ hx ((T.q (cs:=.o I (jO "list_iterator" k)::.o J (ae Z ep)::.o s1.heap.objs.size (bK [] 0)::.o (s1.heap.objs.size+1) (lS s1.heap.objs.size)::.o M (nE I)::E)).p [4,0,1,3] 5)
section
set_option tactic.hygienic true
theorem bW.get:∀{vs:ZY} {ns:ZN} {k:Nat} {y:ZV},bW vs ns->vs[k]?=some y->∃(n:Nat)(t:Tok),y=.int n t/\ns[k]?=some n
 |[],_,_,_,_,h=>by simp at h
 |_::_,[],_,_,h,_=>h.elim
 |v::vs,n::ns,0,y,h,e=>by
  obtain⟨⟨t,rfl⟩,_⟩:=h;simp only[List.getElem?_cons_zero,Option.some.injEq]at e;exact⟨n,t,e.symm,rfl⟩
 |v::vs,n::ns,k+1,y,h,e=>by
  simp only[List.getElem?_cons_succ]at e⊢;exact bW.get h.2 e
section
variable(c:a6)(x:NS)(p:Nat->Nat)(o:Ah)(E:List Bk)(bg:List aQ)(Z:Nat->ZN)(hx:∀u∈p4 p,bW (x.sc u) (Z u))(Y:∀u∈p4 p,∀w∈Z u,w∈p4 p)
include hx Y
theorem y9[ZI]{Q:ZR}(tk:Tok)(sn:Nat->Option Tok)(m:Nat)(B:aS)(b:Bt c.W3 none B)(K1:∀N U,U.sn=sn->U.b=true->U.st=[]->Inv Z (bT sn) [] none->Hq c.w N (c.bk x p o E U []) bg->Q (.ok .brk) N)(K2:∀N U W M V,U.sn=sn->U.q=some (tk,M,V)->U.st=(W.map (·.1)).reverse->W≠[]->W.length<=4->(∀z∈W,z.1.v∈p4 p)->M∈p4 p->Inv Z (bT sn) (m7 W) (some M)->pI Z (bT sn) (m7 W)<m->Hq c.w N (c.bk x p o E U W) bg->Q (.ok .next) N):∀(zs:List (SE×Nat))(s:ZS)(v:b4)(pos:Pos)(n:Nat)(L:Tok),zs.length<=4->(∀z∈zs,z.1.v∈p4 p)->v.q=some (tk,n,L)->v.sn=sn->v.st=(zs.map (·.1)).reverse->Inv Z (bT sn) (m7 zs) none->pI Z (bT sn) (m7 zs)<=m->(v.b=true\/zs≠[])->Hq c.w s (c.bk x p o E v zs) bg->Rn c.w B s c.fv pos Q:=by
 intro zs;induction zs with
 |nil=>
  intro s v pos n L _ _ _ D X inv _ hb H;exact hF [0,1,2,3,4,5] b H (fun fr=>Td c (d4 x p).l 4 v X fr pos (zN s) s.toks s.gens:) (fun d=>rfl) (fun d=>aj) fun fr N H'=>K1 N v D (hb.resolve_right (· rfl)) X inv (H'.p [0,1,2,3,4,5,6,7,8,9] 10)
 |cons z zs ih=>
  obtain⟨e,k⟩:=z;intro s v pos n L r A hq D P inv O _ H;have K:e.v∈p4 p:=A _ (.head _)
  have X:v.st=(zs.map (·.1)).reverse++[e]:=by rw[P,dw,List.reverse_cons]
  have T:((zs.map (·.1)).reverse).length<=3:=by rw[List.length_reverse,aB];exact jE r
  obtain⟨R,t⟩:=l6 x K
  let F (v:b4):List Bk:=sg (c.core (d4 x p).l 4 v)++(.l (Jo x zs)::(sg (c.out v.b o.d1 o.d2 o.n1 o.n2)++.o (x.ia e.v) (c8 (x.da e.v) e.v (x.tv e.v) (x.np e.v) (x.tn e.v) (x.ja e.v))::.l R::E))
  have H1:Hq c.w s (.o e.m (nE e.i)::.o e.i (bx (x.ja e.v) k)::.o (x.ja e.v) (ae (x.sc e.v) (x.ep e.v))::F v) bg:=Hq.p (bs:=.o (x.ia e.v) (c8 (x.da e.v) e.v (x.tv e.v) (x.np e.v) (x.tn e.v) (x.ja e.v))::.o (x.ja e.v) (ae (x.sc e.v) (x.ep e.v))::.l R::(sg (c.core (d4 x p).l 4 v)++(.o e.m (nE e.i)::.o e.i (bx (x.ja e.v) k)::.l (Jo x zs)::(sg (c.out v.b o.d1 o.d2 o.n1 o.n2)++E)))) ((H.ch [9] t [.o _ _,.o _ _,.l R]).to (by kernel_rfl)) [9,10,1,3,4,5,6,7,8,11,12,13,0,2] 14
  refine hS [3,4,5,6,7,8,0,1,2] b H1 (fun fr=>Th c (d4 x p).l 4 v _ T e X (x.ja e.v) k (x.sc e.v) (x.ep e.v) fr pos (zN s) s.toks s.gens:) (fun d=>rfl) (fun d=>aj) fun fr s1 H2 B1 b1=>?_
  refine F1 c.w (Cu c.fv ⟨206,31,206,44⟩ c.W3) B1 b1 s1 _ e.m e.i (x.ja e.v) k (x.sc e.v) (x.ep e.v) (F v) bg (H2.p [6,7,8,0,1,2,3,4,5,9,10,11,12,13] 14) (fun y s2 G g=>?_) (fun a EX s2 G g=>?_)
  .obtain⟨M,V,rfl,I⟩:=(hx _ K).get G;refine Ae [3,4,5,6,7,8] b g (fun S=>MK c (d4 x p).l 4 v _ T e X tk n L hq (x.ja e.v) k (x.sc e.v) (x.ep e.v) M V fr S pos (zN s) s.toks s.gens (zN s2) s2.toks s2.gens:) (fun d=>rfl) (fun d=>aj) fun S s3 j=>?_
   exact K2 s3 {v with q:=some (tk,M,V)} ((e,k+1)::zs) M V D rfl P (kG _ _) r (fun z O=>by
    rcases bc.mp O with rfl|O
    .exact K
    .exact A _ (.tail _ O)) (Y _ K _ (List.mem_of_getElem? I)) (inv.next I) (jD (y8 I) O)
    ((j.ch [12,8,13] t.symm [.l (aT x (p4 p))]).p [1,2,3,4,5,6,7,8,9,10,11,0] 12)
  .have I:(Z e.v)[k]?=none:=by
    rw[List.getElem?_eq_none_iff]at G⊢;rw[←(hx _ K).len];exact G
   have J:e.v∉((zs.map (·.1)).reverse).map (·.v):=fun h=>(cy.mp (show(e.v::(m7 zs).map (·.1)).Nodup from inv.nd)).1 (by
    simp only[m7,List.map_map,List.mem_map,List.mem_reverse,Function.comp]at h⊢;obtain⟨a1,⟨z,C,rfl⟩,h⟩:=h;exact⟨z,C,h⟩)
   obtain⟨f,u⟩:=uw (e:=e) (st:=(zs.map (·.1)).reverse) (i:=0) J;have hd:iI (gm 0 v.st) e.v=gm 0 (zs.map (·.1)).reverse:=by rw[X,ux J]
   refine Cp [4,5,6,7,8,9,11,12,3] b g (fun S=>Tj c (d4 x p).l 4 v _ T e X tk n L hq (x.ja e.v) k (x.sc e.v) (x.ep e.v) f EX a o.d1 o.d2 o.n1 o.n2 fr S pos (zN s) s.toks s.gens (zN s2) s2.toks s2.gens:) (fun d=>rfl) (fun d=>aa (by rw[X];exact u) (aa (by rw[oP,X,cJ,List.length_singleton];exact au (gX T) (by decide)) aj)) fun bV s3 j=>?_
   exact ih s3 (v.pop (zs.map (·.1)).reverse) _ n L (jB r) (fun z O=>A _ (.tail _ O)) hq D rfl (inv.pop I) (Nat.le_of_lt (jD AZ O)) (.inl rfl)
    ((j.ch [13,11,14] t.symm [.l (aT x (p4 p))]).p [1,2,3,4,5,6,12,7,8,0] 13 (by rw[hd];kernel_rfl))
end
end
section
set_option tactic.hygienic true
theorem F2(q:Nat->Option Tok){n:Nat}(h:n<4):((qq q).any fun e=>decide ((e.1:Int)=(n:Int)))=bT q n:=by unfold qq bT;apply zA h<;>cases q 0<;>cases q 1<;>cases q 2<;>cases q 3<;>rfl
theorem F3(q:Nat->Option Tok):(qq q).length<=7:=by unfold qq;cases q 0<;>cases q 1<;>cases q 2<;>cases q 3<;>simp[qL]
theorem fV(q:Nat->Option Tok){n:Nat}(h:n<4){b:Bool}(e:bT q n=b):aO (lV q n b):=aa (by rw[F2 q h,e]) (aa (F3 q) aj)
theorem za{n:Nat}:∀{l:ZN},l.Nodup->(∀u∈l,u<n)->l.length<=n:=by
 induction n with
 |zero=>intro l _ h;cases l with
  |nil=>exact aM _
  |cons a l=>exact absurd (h a (.head _)) (p5 _)
 |succ n X=>
  intro l Z h;have Y:(l.erase n).length<=n:=X (Z.erase n) fun u W=>by
   have:=(Z.mem_erase_iff).mp W
   have:=h u this.2
   lia
  rw[List.length_erase]at Y;split at Y<;>lia
theorem cM{l Z:List Prop}(h:aO l)(Y:aO Z):aO (l++Z):=fun p hp=>by
 rcases bJ.mp hp with q|q
 .exact h p q
 .exact Y p q
section
variable(c:a6)(Z:Nat)(x:NS)(p:Nat->Nat)(o:Ah)(E:List Bk)(bg:List aQ)(Y:Nat->ZN)(hx:∀u∈p4 p,bW (x.sc u) (Y u))(hp:∀u∈p4 p,u<4)(X:∀u∈p4 p,∀w∈Y u,w∈p4 p)
include hx hp X
theorem zb[ZI]{Q:ZR}(hD:c.D=Z+2)(T:Nat->Prop)(tk:Tok)(B:aS)(b:Bt c.W2 none B)(K1:∀k I,I.b=true->I.st=[]->Inv Y (bT I.sn) [] none->(∀u,T u->bT I.sn u=true)->Hq c.w k (c.bk x p o E I []) bg->Q (.ok .next) k)(K2:∀k a S I y,S≠[]->S.length<=5->Ring Y->Hq c.w k (.o a (ae S 0)::c.bk x p o E I y) bg->Q (.ok (.ret (.ref a))) k):∀(m:Nat)(zs:List (SE×Nat))(s:ZS)(v:b4)(pos:Pos)(n:Nat)(U:Tok),pI Y (bT v.sn) (m7 zs)<m->zs.length<=4->(∀z∈zs,z.1.v∈p4 p)->v.q=some (tk,n,U)->n∈p4 p->Inv Y (bT v.sn) (m7 zs) (some n)->v.st=(zs.map (·.1)).reverse->(v.b=true\/zs≠[]\/bT v.sn n=false)->(∀u,T u->u=n\/bT v.sn u=true)->Hq c.w s (c.bk x p o E v zs) bg->Rn c.w B s c.mA pos Q:=by
 intro m;induction m with
 |zero=>intro zs s v pos n U hm;exact absurd hm (p5 _)
 |succ m ih=>
  intro zs s v pos n U hm h4 hz hq hn inv O hb g H;have N:=hp n hn
  have key:∀(o':ay)(v1:b4)(V:List (SE×Nat))(s1:ZS)(A:aS)(G:Pos),Bt c.W3 none A->(∀u,T u->bT v1.sn u=true)->pI Y (bT v1.sn) (m7 V)<=m->(v1.b=true\/V≠[])->
    (∀W N' t' K,f5 0 [] (rY c.w c.W2 (jn [[(0,.tail)]]) o' (.ok .next) W [] N' t' K) c.mA ⟨204,16,212,25⟩ [] [] N' t' K 0 [] [])->
    (∀W N' t' K,iq 0 [] (rY c.w c.W2 (jn [[(0,.fin)]]) o' (.ok .brk) W [] N' t' K) (.ok .next) [] [] N' t' K 0 [] [])->
    V.length<=4->(∀z∈V,z.1.v∈p4 p)->v1.q=some (tk,n,U)->v1.st=(V.map (·.1)).reverse->Inv Y (bT v1.sn) (m7 V) none->Hq c.w s1 (c.bk x p o E v1 V) bg->
    Rn c.w A s1 c.fv G (fun r s2=>Rk c.w B s2 o' r Q):=fun o' v1 V s1 A G f g2 g3 g4 g5 g6 g7 g8 g9 WT WU H1=>
   y9 c x p o E bg Y hx X tk v1.sn m A f
    (fun s2 I t e2 e3 F H2=>Ae [] b H2 (fun W=>g6 W (zN s2) s2.toks s2.gens) (fun d=>rfl) (fun d=>aj) fun W s3 H3=>K1 s3 I e2 e3 (by rw[t];exact F) (by rw[t];exact g2) H3)
    (fun s2 I y n' Ra t e2 e3 e4 e5 e6 e7 F e8 H2=>Cp [] b H2 (fun W=>g5 W (zN s2) s2.toks s2.gens) (fun d=>rfl) (fun d=>aj) fun W s3 H3=>ih y s3 I _ n' Ra (by rw[t];exact e8) e5 e6 e2 e7 (by rw[t];exact F) e3 (.inr (.inl e4)) (by rw[t];exact fun u C=>.inr (g2 u C)) H3)
    V s1 v1 G n U g7 g8 g9 rfl WT WU g3 g4 H1
  cases J:bT v.sn n with
  |false=>
   have h3:zs.length<=3:=by
    have nd:(n::(m7 zs).map (·.1)).Nodup:=cy.mpr ⟨fun q=>(by
     obtain⟨z,P,e⟩:=aZ.mp q;have:=inv.sub z P
     rw[e,J]at this;cases this),inv.nd⟩
    have:=za (n:=4) nd (fun u C=>by
     rcases bc.mp C with rfl|C
     .exact N
     .obtain⟨z,P,rfl⟩:=aZ.mp C;exact inv.lt _ (inv.sub z P))
    rw[cX,aB,m7,aB]at this;exact jE this
   have M:v.st.length<=3:=by rw[O,List.length_reverse,aB];exact h3
   have WV:n∉v.st.map (·.v):=fun q=>by
    rw[O]at q;simp only[List.map_reverse,List.map_map,List.mem_reverse,List.mem_map,Function.comp]at q;obtain⟨z,P,e⟩:=q;have:=inv.sub (z.1.v,z.2) (aZ.mpr ⟨z,P,rfl⟩)
    rw[show(z.1.v,z.2).1=n from e,J]at this;cases this
   have WW:v.sn n=none:=by unfold bT at J;exact Option.isNone_iff_eq_none.mp (by rw[←Option.not_isSome,J];rfl)
   obtain⟨R,hR⟩:=l6 x hn;have es:bT (v.push n U s.toks s.heap.objs.size).sn=aW (bT v.sn) n true:=by
    funext u;show(aW v.sn n (some U) u).isSome=_
    unfold aW bT;cases Nat.beq u n<;>rfl
   refine hS [3,4,5,6,7,8,0,1] b (H.ch [9] hR [.o (x.ia n) (c8 (x.da n) n (x.tv n) (x.np n) (x.tn n) (x.ja n)),.o (x.ja n) (ae (x.sc n) (x.ep n)),.l R]) (fun fr=>Ta c (d4 x p).l 4 v M tk n U hq (x.ia n) (x.da n) (x.ja n) (x.tv n) (x.tn n) (x.np n) (x.sc n) (x.ep n) fr pos (zN s) s.toks s.gens Z hD:) (fun d=>rfl)
    (fun d=>cM (aa (l5 WV) (aa (by rw[oP];exact au M (by decide)) (aa (d5 hn) (aa WW (aa N aj))))) (fV v.sn N J)) fun fr s1 H1 A f=>?_
   exact key _ (v.push n U s.toks s.heap.objs.size) ((⟨n,U,U,s.toks+6,s.heap.objs.size+1,s.heap.objs.size⟩,0)::zs) s1 A _ f (fun u C=>by
     rw[es]
     by_cases e:u=n
     .rw [e];exact bj ..
     .rw [bI _ _ e];exact(g u C).resolve_left e)
    (by rw[es];exact cY (jD (y7 J N) (Nat.le_of_lt hm))) (.inr (kG _ _))
    (fun W N' t' K=>MG c (d4 x p).l 4 v M tk n U hq (x.ia n) (x.da n) (x.ja n) (x.tv n) (x.tn n) (x.np n) (x.sc n) (x.ep n) fr W pos _ _ _ N' t' K Z hD) (fun W N' t' K=>MH c (d4 x p).l 4 v M tk n U hq (x.ia n) (x.da n) (x.ja n) (x.tv n) (x.tn n) (x.np n) (x.sc n) (x.ep n) fr W pos _ _ _ N' t' K Z hD)
    (gX h3) (fun z P=>by
     rcases bc.mp P with rfl|h
     .exact hn
     .exact hz z h) hq (by show v.st++_=_;rw[O,dw,List.reverse_cons]) (by rw[es];exact inv.push J N)
    ((H1.ch [6,7,10] hR.symm [.l (aT x (p4 p))]).p [1,2,3,4,5,6,7,8,9,10,11,0] 12)
  |true=>
   by_cases L:n∈v.st.map (·.v)
   .obtain⟨j,ti,hj,ej⟩:=qJ (i:=0) L;rw[fM]at ej;have hl:v.st.length<=4:=by rw[O,List.length_reverse,aB];exact h4
    refine hF [0,1,2,3,4,5] b H (fun fr=>Tg c (d4 x p).l 4 v hl j hj ti tk n U hq fr pos (zN s) s.toks s.gens:) (fun d=>rfl) (fun d=>aa ej (aa (by rw[ej];rfl) (fV v.sn N J))) fun fr s1 H1=>?_
    refine K2 s1 _ ((F0 v.st).drop j++[Value.int (n:Int) U]) v zs (List.append_ne_nil_of_right_ne_nil _ (kG _ _)) ?_ (inv.ring ?_) (H1.p [6,0,1,2,3,4,5,7,8,9,10] 11)
    .rw [cJ,List.length_drop,F0,aB];exact gX (au (Nat.sub_le ..) hl)
    .rw [O]at L;simpa[m7]using L
   .have F4:n∉(m7 zs).map (·.1):=by
     rw[O]at L;simpa[m7]using L
    refine hS [0,1,2,3,4,5] b H (fun fr=>Tc c (d4 x p).l 4 v tk n U hq fr pos (zN s) s.toks s.gens:) (fun d=>rfl) (fun d=>aa (by rw[l5 L];rfl) (fV v.sn N J)) fun fr s1 H1 A f=>?_
    exact key _ v zs s1 A _ f (fun u C=>(g u C).elim (fun e=>e▸J) id) (cY hm)
     (hb.elim .inl fun h=>.inr (h.resolve_right fun h=>by rw[J]at h;cases h))
     (fun W N' t' K=>MI c (d4 x p).l 4 v tk n U hq fr W pos _ _ _ N' t' K) (fun W N' t' K=>MJ c (d4 x p).l 4 v tk n U hq fr W pos _ _ _ N' t' K) h4 hz hq O (inv.skip J F4)
     (H1.p [0,1,2,3,4,5,6,7,8,9] 10)
end
end
end
section
open PySem.F PySem.Builtin PySem.Builtin.Str
section
set_option tactic.hygienic true
noncomputable def jT(c:Nat):Bool:=Nat.ble 32 c&&Nat.ble c 126
noncomputable def dQ(c:Nat):ZN:=if c=61 then[61,51,68]else[c]
noncomputable def aV(l:ZN):ZN:=l.flatMap dQ
noncomputable def mZ(o:Obj):Array ZV:=match o.data with
 |.seq xs _=>xs
 |_=>#[]
theorem xE(w:ZW):(nr w.params).cls=.type "list"/\∃n,(nr w.params).data=.seq (mZ (nr w.params)) n:=⟨rfl,_,rfl⟩
noncomputable def Jp(xs:ZY)(c:Nat):Bool:=match xs[c]? with
 |some (.str x _)=>x.cps.toList==(if Nat.beq c 61 then[61,51,68]else[c])
 |_=>false
theorem A0(w:ZW):((List.range' 32 95).all fun c=>Jp (mZ (nr w.params)).toList c)=true:=by kernel_rfl
theorem A3(w:ZW){c:Nat}(h:jT c=true):∃x t,(mZ (nr w.params))[c]?=some (.str x t)/\x.cps.toList=dQ c:=by
 have Z:=kE.mp (A0 w) c (by
  simp only[jT,Bool.and_eq_true,Nat.ble_eq]at h;simp only[List.mem_range'_1];lia)
 unfold Jp at Z;rw[←Array.getElem?_toList];split at Z
 .rename_i x t e;refine⟨x,t,e,?_⟩;have:=eq_of_beq Z
  rw[this];unfold dQ
  by_cases q:c=61
  .subst q;rfl
  .rw [if_neg q,show Nat.beq c 61=false from vM q];rfl
 .cases Z
theorem qK(l:ZN):(aV l).length<=3*l.length:=by
 induction l with
 |nil=>exact aM _
 |cons c l Z=>
  have e:aV (c::l)=dQ c++aV l:=rfl
  have Y:(dQ c).length<=3:=by unfold dQ;split<;>simp
  rw[e,cJ,cX];lia
theorem qM:∀(l:List Str)(a:Array Nat),(l.foldl (fun acc (p:Str)=>acc++p.cps) a).toList=a.toList++l.flatMap fun p=>p.cps.toList
 |[],a=>by simp
 |p::l,a=>by
  rw[pf,qM l,Array.toList_append,fm,br]
section
variable{w:ZW}{A:Around}{E:ZV->ZS->Prop}{s:ZS}
theorem j8{c:Nat}(Z:jT c=true)(X:cP (kp w) s.heap){Q:Mapped->ZS->Prop}(h:∀x,x.cps.toList=dQ c->Q (.text x) {s with toks:=s.toks+1}):wpAny (model pg w) A (tableLookup (.ref 76) c) Q E s:=by
 obtain⟨x,t,e,hx⟩:=A3 w Z;have Y:s.heap.IsList 76 (mZ (nr w.params)):=⟨_,X 76 (nr w.params) rfl,(xE w).1,(xE w).2⟩
 unfold tableLookup;refine wpAny_bind (wpAny_attempt ?_);refine wpAny_bind (wpAny_mkInt ?_);refine wpAny_getItem_list (s:={s with toks:=s.toks+1}) Y (mQ c) (by
  simp only[jT,Bool.and_eq_true,Nat.ble_eq]at Z;lia) (x:=.str x t) (by simpa using e) ?_
 refine wpAny_bind (wpAny_pure (a:=none) ?_);refine wpAny_bind (wpAny_pure (a:=some x) ?_);exact wpAny_pure (h x hx)
def Rb(s0:ZS)(xs:ZN)(R:ZV->ZS->Prop)(rest:ZN)(b:List Str×Nat×Bool×List (Nat×Option Nat)×Bool)(s:ZS):Prop:=∃Z k,xs=Z++rest/\s={s0 with toks:=k}/\s0.toks<=k/\(b.1.reverse.flatMap fun p=>p.cps.toList)=aV Z/\b.2.1=(aV Z).length/\b.2.2.2.2=false/\∀c a,b.2.2.2.1.lookup c=some a->a=some c/\c≠61
theorem fW{α:Type}{M:Model}{A:Around}{E:ZV->ZS->Prop}{Q:α->ZS->Prop}{s:ZS}{c:Prop}[Decidable c]{x y:Sem α}(h:¬c)(k:wpAny M A y Q E s):wpAny M A (if c then x else y) Q E s:=by rw[if_neg h];exact k
theorem vN{α:Type}{M:Model}{A:Around}{E:ZV->ZS->Prop}{Q:α->ZS->Prop}{s:ZS}{c:Prop}[Decidable c]{x y:Sem α}(k:c->wpAny M A x Q E s)(k':¬c->wpAny M A y Q E s):wpAny M A (if c then x else y) Q E s:=by
 split
 .exact k (by assumption)
 .exact k' (by assumption)
theorem hO{α:Type}{M:Model}{A:Around}{E:ZV->ZS->Prop}{Q:α->ZS->Prop}{s:ZS}{a b:α}(e:a=b)(k:Q b s):wpAny M A (pure a) Q E s:=wpAny_pure (e▸k)
theorem vO{α β:Type}{M:Model}{A:Around}{E:ZV->ZS->Prop}{Q:α->ZS->Prop}{s:ZS}{o:Option β}{f:β->Sem α}{x:Sem α}(k:∀a,o=some a->wpAny M A (f a) Q E s)(k':o=none->wpAny M A x Q E s):wpAny M A (o.casesOn x f) Q E s:=by
 cases o with
 |none=>exact k' rfl
 |some a=>exact k a rfl
theorem tX{α β:Type}{M:Model}{A:Around}{E:ZV->ZS->Prop}{Q:α->ZS->Prop}{s:ZS}{o:Option β}{f:β->Sem α}{x:Sem α}(k:∀a,o=some a->wpAny M A (f a) Q E s)(k':o=none->wpAny M A x Q E s):wpAny M A (match o with|some a=>f a|_=>x) Q E s:=by
 cases o with
 |none=>exact k' rfl
 |some a=>exact k a rfl
theorem oR{c:Nat}(h:c≠61):dQ c=[c]:=by unfold dQ;rw[if_neg h]
theorem o9(y:Str):y.length=y.cps.toList.length:=by simp[Str.length]
theorem A4{c:Nat}(W:jT c=true){y:Str}(X:y.cps.toList=dQ c){a:Option Nat}(h:(if(y.length==1&&y.cps.all fun x=>decide (x<128))=true then some y.cps[0]? else none)=some a):a=some c/\c≠61:=by
 split at h
 .rename_i q;rw[o9,X]at q;have Z:c≠61:=fun z=>by subst z;exact nomatch q
  have Y:y.cps=#[c]:=gb.mp (by rw[X,oR Z])
  rw[Y]at h;cases h;exact⟨rfl,Z⟩
 .cases h
theorem vP{c:Nat}{a:Option Nat}(z:a=some c/\c≠61){X:List (Nat×Option Nat)}(h:∀c a,X.lookup c=some a->a=some c/\c≠61){Z:Nat}{Y:Option Nat}(e:((c,a)::X).lookup Z=some Y):Y=some Z/\Z≠61:=by
 rw[List.lookup_cons]at e;split at e
 .rename_i q;cases e;rw[eq_of_beq q];exact z
 .exact h Z Y e
theorem A5{s0:ZS}{xs Z rest:ZN}{c:Nat}{pieces:List Str}{total:Nat}{ad:Bool}(hp:(pieces.reverse.flatMap fun p=>p.cps.toList)=aV Z)(Q:total=(aV Z).length)(V:ad=false)(X:xs=Z++c::rest){R:ZV->ZS->Prop}{y:Str}{fast:Bool}{U:List (Nat×Option Nat)}{k n:Nat}(T:y.cps.toList=dQ c)(W:s0.toks<=k)(hn:n=total+y.cps.toList.length)(Y:∀c a,U.lookup c=some a->a=some c/\c≠61):Rb s0 xs R rest (y::pieces,n,fast,U,ad) {s0 with toks:=k}:=by
 have S:aV (Z++[c])=aV Z++dQ c:=by simp[aV]
 refine⟨Z++[c],k,by rw[X];simp,rfl,W,?_,?_,V,Y⟩
 .show (List.flatMap (fun p:Str=>p.cps.toList) (y::pieces).reverse)=_
  rw[List.reverse_cons,sz,hp,S,List.flatMap_singleton,T]
 .show n=_
  rw[hn,S,cJ,T,Q]
set_option smartUnfolding false in
theorem pJ{x:Str}{t:Tok}(hx:x.cps.toList≠[])(WX:∀c∈x.cps.toList,jT c=true)(hlen:x.cps.toList.length<=1000000)(hk:cP (kp w) s.heap){Q:PySem.Fin->ZS->Prop}(h:∀y k,y.cps.toList=aV x.cps.toList->s.toks<k->Q (.done (.ret (.str y (k-1)))) {s with toks:=k}):wpAny (model pg w) A (Builtin.«str.translate» ⟨[.str x t,.ref 76],[]⟩) Q E s:=by
 unfold Builtin.«str.translate»;refine wpAny_bind (wpAny_pure (a:=((Value.str x t,x,Value.ref 76):ZV×Str×ZV)) ?_);have h0:(x.length==0)=false:=by
  have e:x.length=x.cps.toList.length:=by simp[Str.length]
  rw[e];cases q:x.cps.toList with
  |nil=>exact absurd q hx
  |cons a l=>rfl
 have tl:∀(pre rest:ZN),x.cps.toList=pre++rest->Builtin.Str.tooLong (aV pre).length=false:=fun pre rest e=>by
  have h1:=qK pre
  have h2:=congrArg List.length e
  rw[cJ]at h2;unfold Builtin.Str.tooLong;simp only[decide_eq_false_iff_not,Nat.not_lt];have:sizeLine=16777216:=rfl
  lia
 refine fW (c:=(x.length==0)=true) (by rw[h0];exact fk) ?_
 refine wpAny_bind ?_;refine MeetsSeq2.wpAny_forIn_array _ (Rb s x.cps.toList (fun _ _=>True)) _ ?turn ?fin x.cps _ ?init
 case init=>exact⟨[],s.toks,rfl,rfl,aM _,rfl,rfl,rfl,fun c a e=>nomatch e⟩
 case fin=>
  rintro ⟨pieces,total,fast,known,ad⟩ s' ⟨pre,k,Ai,hs,H⟩
  rw[bY]at Ai;dsimp only at H⊢;refine fW (by rw[H.2.2.1,tl pre [] (by rw[bY];exact Ai)];exact fk) ?_
  have ey:(List.foldl (fun acc (p:Str)=>acc++p.cps) #[] pieces.reverse).toList=aV x.cps.toList:=by rw[qM,H.2.1,Ai];rfl
  refine wpAny_bind (wpAny_mkStr (wpAny_pure ?_) ?_)
  .rw [hs];exact h ⟨List.foldl (fun acc (p:Str)=>acc++p.cps) #[] pieces.reverse⟩ (k+1) ey (Nat.lt_succ_of_le H.1)
  .show Array.size _<=_
   rw[←Array.length_toList,ey];have:=qK x.cps.toList
   have:sizeLine=16777216:=rfl
   lia
 case turn=>
  rintro c rest ⟨pieces,total,fast,known,ad⟩ s' ⟨pre,k,Ai,hs,H⟩
  have hc:jT c=true:=WX c (by rw[Ai];simp)
  have zV:∀(y:Str)(fast:Bool)(kn:List (Nat×Option Nat))(k n:Nat),y.cps.toList=dQ c->s.toks<=k->n=total+y.cps.toList.length->(∀c a,kn.lookup c=some a->a=some c/\c≠61)->Rb s x.cps.toList (fun _ _=>True) rest (y::pieces,n,fast,kn,ad) {s with toks:=k}:=fun y fast kn k n=>A5 H.2.1 H.2.2.1 H.2.2.2.1 Ai
  have U6:¬ad=true:=by rw[show ad=false from H.2.2.2.1];exact fk
  subst hs;dsimp only;refine fW (by rw[show total=_ from H.2.2.1,tl pre _ Ai];exact fk) ?_
  refine vN (fun _=>?_) fun _=>?_
  .refine vO (fun a hl=>?_) fun hl=>?_
   .obtain⟨e,WY⟩:=H.2.2.2.2 c a hl;refine wpAny_bind (hO (b:=some (some c)) (congrArg some e) ?_);exact wpAny_pure (zV ⟨#[c]⟩ fast known k _ (by rw[oR WY]) H.1 rfl H.2.2.2.2)
   .refine wpAny_bind (j8 (s:={s with toks:=k}) hc hk fun y ey=>?_)
    refine tX (fun a ho=>?_) fun ho=>?_
    .have z:=A4 hc ey ho
     refine wpAny_bind (hO (b:=some (some c)) (ho.trans (congrArg some z.1)) ?_);exact wpAny_pure (zV ⟨#[c]⟩ fast ((c,a)::known) _ _ (by rw[oR z.2]) (j2 H.1) rfl fun c' a' Rc=>vP z H.2.2.2.2 Rc)
    .refine wpAny_bind (hO (b:=none) ho ?_);refine wpAny_bind (wpAny_rule ?_);refine fW U6 ?_;refine wpAny_bind (j8 (s:={s with toks:=k+1}) hc hk fun y2 WZ=>?_)
     exact wpAny_pure (zV y2 false known _ _ WZ (j2 (j2 H.1)) (by rw[o9]) H.2.2.2.2)
  .refine fW U6 ?_;refine wpAny_bind (j8 (s:={s with toks:=k}) hc hk fun y ey=>?_)
   exact wpAny_pure (zV y fast known _ _ ey (j2 H.1) (by rw[o9]) H.2.2.2.2)
noncomputable def F5:aX pg w (kp w)where
 A:=fun a c a a a=>⟨.builtin "str.translate" ⟨[.str (ag (v0 c)) (ao (v0 c)),.ref 76],[]⟩,[],[],.fq,[(ag (v0 c)).cps.toList≠[]/\(∀z∈(ag (v0 c)).cps.toList,jT z=true)/\(ag (v0 c)).cps.toList.length<=1000000],[],[]⟩
 B:=fun a c N t a f=>⟨.ok (.ret (ar (aV (ag (v0 c)).cps.toList) ((f.drop 2).getD 0 0))),[],[],f.getD 0 0,f.getD 1 0,0,[]⟩
 ok:=fun a c T s B pos e hp Z a a a hB a Q=>by
  obtain⟨X,h2,U⟩:=hp _ (.head _);have e:c=.builtin "str.translate" ⟨[.str (ag (v0 c)) (ao (v0 c)),.ref 76],[]⟩:=e
  refine bR e (args:=⟨[.str (ag (v0 c)) (ao (v0 c)),.ref 76],[]⟩) hB (by decide+kernel) PySem.F.entry_str_translate (MeetsIn.of_wp (S:=fun a R s=>cP (kp w) s.heap/\∀y k,y.cps.toList=aV (ag (v0 c)).cps.toList->s.toks<k->R (.ok (.ret (.str y (k-1)))) {s with toks:=k}) fun A R s h=>pJ X h2 U h.1 fun y k Y Z=>⟨_,rfl,h.2 y k Y Z⟩) (R:=fun V W=>∃k,s.toks<k/\V=.ok (.ret (ar (aV (ag (v0 c)).cps.toList) (k-1)))/\W={s with toks:=k}) ⟨Z,fun y k Y Z=>⟨k,Z,by rw[show y=⟨⟨aV (ag (v0 c)).cps.toList⟩⟩from by cases y;simp at Y⊢;exact Array.toList_inj.mp Y],rfl⟩⟩ fun V W ⟨k,Z,X,h2⟩=>⟨[s.heap.objs.size,k,k-1],X,?_⟩
  subst h2;obtain⟨n,rfl⟩:∃n,k=s.toks+n:=⟨k-s.toks,by lia⟩
  exact iU s n _
end
end
section
set_option tactic.hygienic false
theorem iX(s:ZS)(o:Obj)(hf:o.isFreed=false)(n:Nat)(r:Result):cf s {s with heap:=s.heap.push o,toks:=s.toks+n} [] ⟨r,[],[(s.heap.objs.size,o)],s.heap.objs.size+1,s.toks+n,0,[]⟩:=by
 refine⟨⟨fun b Z e a=>Heap.get?_push_of_some _ e,by show _<=(s.heap.push o).objs.size;rw[dJ];exact b8 s.heap.objs.size 1,b8 ..,rfl,rfl⟩,rfl,bH _,fun p hp=>?_,fun p hp=>?_,by simp,by show(s.heap.push o).objs.size=_;rw[dJ],rfl,by simp,fun a hp=>(nomatch hp),fun a hp=>(nomatch hp),fun a hp=>(nomatch hp),fun a hp=>(nomatch hp)⟩
 .rcases bQ.mp hp with rfl
  exact Heap.get?_push_size _ hf
 .rcases bQ.mp hp with rfl
  exact dC (aM _)
section
variable{w:ZW}
noncomputable def A6(y:Str):aX pg w (kp w)where
 A:=fun a c a a a=>⟨.builtin "str.translate" ⟨[.str (ag (v0 c)) (ao (v0 c)),.ref 76],[]⟩,[],[],.fq,[(ag (v0 c)).cps.toList≠[]/\(∀z∈(ag (v0 c)).cps.toList,jT z=true)/\(ag (v0 c)).cps.toList.length<=1000000/\y=⟨⟨aV (ag (v0 c)).cps.toList⟩⟩],[],[]⟩
 B:=fun a c N t a f=>⟨.ok (.ret (.str y ((f.drop 2).getD 0 0))),[],[],f.getD 0 0,f.getD 1 0,0,[]⟩
 ok:=fun h c T s B pos e hp Y a1 a2 U hB V Z=>by
  obtain⟨W,h2,X,rfl⟩:=hp _ (.head _);exact(F5 (w:=w)).ok h c T s B pos e (aa ⟨W,h2,X⟩ aj) Y a1 a2 U hB V Z
variable{prog:Program}{kt:KT}
noncomputable def xH:aX prog w kt where
 A:=fun a c a a a=>⟨.builtin "str.splitlines" ⟨[.str (ag (v0 c)) (ao (v0 c))],[]⟩,[],[],.fq,[(ag (v0 c)).length<=16777216/\lineCuts (ag (v0 c))=[(0,(ag (v0 c)).length)]],[],[]⟩
 B:=fun a c N t a a=>⟨.ok (.ret (.ref N)),[],[(N,ae [.str (ag (v0 c)) (ao (v0 c))] 0)],N+1,t+0,0,[]⟩
 ok:=fun a c T s B pos e hp V a a a hB a W=>by
  obtain⟨Z,h2⟩:=hp _ (.head _);have e:c=.builtin "str.splitlines" ⟨[.str (ag (v0 c)) (ao (v0 c))],[]⟩:=e
  refine bE e (args:=⟨[.str (ag (v0 c)) (ao (v0 c))],[]⟩) hB (by decide+kernel) PySem.F.entry_str_splitlines (meets_str_splitlines (ag (v0 c)) (ao (v0 c)) Z (by rw[h2];show 1<=sizeLine;decide)) (R:=fun X Y=>X=.ok (.ret (.ref s.heap.objs.size))/\Y={s with heap:=s.heap.push (ae [.str (ag (v0 c)) (ao (v0 c))] 0),toks:=s.toks+0}) (by
   show(if(lineCuts (ag (v0 c))==[(0,(ag (v0 c)).length)])=true then _ else _)
   rw[if_pos (by rw[h2];exact beq_self_eq_true _)]
   exact⟨rfl,rfl⟩) fun X Y ⟨Z,h2⟩=>⟨[],Z,?_⟩
  subst h2;exact iX s _ rfl 0 _
noncomputable def F6(ix:Nat)(y:Str):aX prog w kt where
 A:=fun a c a a T=>⟨.builtin "str.join" ⟨[.str (ag (v0 c)) (ao (v0 c)),.ref (af (v1 c))],[]⟩,[ix],[(af (v1 c),du (ab T ix))],.fq,[ah (ab T ix)=[.str y (ao ((ah (ab T ix)).headD .none))]/\y.length+(ag (v0 c)).length<=16777216],[],[]⟩
 B:=fun a c N t T a=>⟨.ok (.ret (.str y (ao ((ah (ab T ix)).headD .none)))),[du (ab T ix)],[],N,t+0,0,[]⟩
 ok:=fun a c T s B pos e hp Q U a a hB a S=>by
  obtain⟨Z,h2⟩:=hp _ (.head _);have W:s.heap.get? (af (v1 c))=some (du (ab T ix)):=U _ (.head _)
  generalize ao ((ah (ab T ix)).headD .none)=ty at Z⊢;have e:c=.builtin "str.join" ⟨[.str (ag (v0 c)) (ao (v0 c)),.ref (af (v1 c))],[]⟩:=e
  have V:s.heap.IsList (af (v1 c)) (strValues [(y,ty)]).toArray:=⟨_,W,rfl,_,by
   show Data.seq ⟨ah (ab T ix)⟩ _=_
   rw[Z];rfl⟩
  refine bE e (args:=⟨[.str (ag (v0 c)) (ao (v0 c)),.ref (af (v1 c))],[]⟩) hB (by decide+kernel) PySem.F.entry_str_join (meets_str_join_list (ag (v0 c)) (ao (v0 c)) (af (v1 c)) [(y,ty)] (by
   unfold Builtin.Str.tooLong;simp only[List.map_cons,List.map_nil,List.foldl_toArray',List.foldl_cons,List.foldl_nil,Nat.zero_add,decide_eq_false_iff_not,Nat.not_lt];exact h2)) (R:=fun X Y=>X=.ok (.ret (.str y ty))/\Y={s with toks:=s.toks+0}) ⟨V,rfl,rfl⟩ fun X Y ⟨Z,h2⟩=>⟨[],Z,?_⟩
  subst h2;exact dW s 0 (.ok .next) (af (v1 c),du (ab T ix)) W|>.ret
end
noncomputable def Jq(w:ZW)(code:Code)(W:kM)(P:List Prop)(y:Str):Ct pg w (kp w):=⟨code,[],W,[],P,fun g=>.ok (.ret (.str y (g.getD 0 0))),fun a=>[],fun a=>[],fun a=>[],0⟩
theorem sX{w:ZW}{code:Code}{ks:List K}{P:List Prop}{y:Str}(Z:ks.all i6=true)(Y:ZH w){tk N' t':ZL->Nat->Nat->Nat}{ps:ZL->Nat->Nat->List Prop}(H:aO P->∀(σ:Nat->Sk) (fr:ZL) (pos:Pos) (N t:Nat) (G:ZG),iq 0 [] (aq ⟨pg,w,kp w,Wk σ ks,none⟩ Y fr code pos [] [] N t G) (.ok (.ret (.str y (tk fr N t)))) [] [] (N' fr N t) (t' fr N t) G 0 (ps fr N t) [])(hp:aO P->∀fr N t,aO (ps fr N t)):(Jq w code (.kinds ks) P y).Holds:=by
 by_cases X:aO P
 .exact Ct.rP (Jq w code (.kinds ks) P y) (ks:=ks) rfl Z (fun a a=>Y) [] (r:=fun fr N t=>.ok (.ret (.str y (tk fr N t)))) (post:=fun a a a=>[]) (new:=fun a a a=>[]) (dn:=fun a a a=>[]) (N':=N') (t':=t') (ps:=ps) (H X) (fun h fr N t=>hp h fr N t) (fun fr N t=>⟨[tk fr N t],rfl,rfl,rfl,rfl⟩) (fun a a a=>rfl) (fun a a a=>rfl) rfl rfl
 .intro s B pos A;exact absurd A.P X
end
section
set_option tactic.hygienic false
noncomputable abbrev Rf:List K:=[.fo,.fo,.fo,.wh,.fn,.cl]
noncomputable def F7(i:Int)(y:Str)(z:Nat):List Prop:=[(decide (i< -(2^63:Int))||decide (i>=2^63))=false,(seqIndex? i y.length).bind (y.cps[·]?)=some z]
def F8(b:Bool)(x y:Str):Prop:=(!(Builtin.Str.occurrences x y 0 x.length 1).isEmpty)=b
noncomputable def Jr(Z d z:Nat)(l m:ZN)(ty:Tok):List Prop:=[[Value.str ⟨⟨d::m⟩⟩ ty]=[Value.str ⟨⟨d::m⟩⟩ ty]/\(⟨⟨d::m⟩⟩:Str).length+(⟨⟨[10]⟩⟩:Str).length<=16777216,F8 false ⟨⟨[13,10]⟩⟩ ⟨#[z]⟩]++(F7 (-1) ⟨⟨d::m⟩⟩ z++
 ([(1==(0:Int))=false,sliceMade ⟨⟨d::m⟩⟩ ty (some (0,0)) none none=.val (ar (d::m) ty),F8 false ⟨⟨[32,9]⟩⟩ ⟨#[z]⟩]++(F7 (-1) ⟨⟨d::m⟩⟩ z++
 [(⟨⟨d::m⟩⟩:Str).length<=16777216,decide ((0:Int)<=((⟨⟨d::m⟩⟩:Str).length:Int)-1-4000)=false,(⟨⟨d::m⟩⟩:Str).length<=16777216,(⟨⟨d::m⟩⟩:Str).length<=16777216/\lineCuts ⟨⟨d::m⟩⟩=[(0,(⟨⟨d::m⟩⟩:Str).length)],
  Z::l≠[]/\(∀z∈Z::l,jT z=true)/\(Z::l).length<=1000000/\(⟨⟨d::m⟩⟩:Str)=⟨⟨aV (Z::l)⟩⟩,(⟨⟨Z::l⟩⟩:Str).length<=16777216])))
section
variable(w:ZW)(σ:Nat->Sk)(Z d z:Nat)(l m:ZN)(t1 Y:Tok)(fr:ZL)(pos:Pos)(N t:Nat)(G:ZG)
def E2(w:ZW)(σ:Nat->Sk)(Z d z:Nat)(l m:ZN)(t1 Y:Tok):ZH w:=jn [dz 0x1d290709f629,[(1,.ai (iH))],dz 0x9,[(6,.ai (A6 ⟨⟨d::m⟩⟩))],dz 0xbc3c04d4c006bc1d0724bc2413db,[(4,.ai (xH))],dz 0x29073cdb3b1408e1162138230823,[(2,.ai (iH))],dz 0x51307551d,[(3,.ai (oLe false))],dz 0xc,[(1,.ai (iH))],dz 0x5,[(8,.ai (eb z))],[(3,.ai (i5 false))],dz 0xbd09,[(3,.ai (LP 5))],dz 0x13423b1608e1162d010f0301d4f2,[(8,.ai (eb z))],[(4,.ai (i5 false))],dz 0xc09,[(2,.ai (F6 1 ⟨⟨d::m⟩⟩))],[(1,.fin)]]
def Tn:ay:=aq (V0 w (Wk σ Rf)) (E2 w σ Z d z l m t1 Y) fr (.call (.ref 87) ⟨[.str ⟨⟨Z::l⟩⟩ t1,.int 4000 Y],[]⟩) pos [] [] N t G
abbrev To:dp:=⟨(Tn w σ Z d z l m t1 Y fr pos N t G),(.ok (.ret (ar (d::m) (Gf fr 1 0)))),⟨[],[],(Jr Z d z l m (Gf fr 1 0))⟩,((Nf fr 1)+7),((Tf fr 1)+28)⟩
theorem Tp:(To w σ Z d z l m t1 Y fr pos N t G).ok (E2 w σ Z d z l m t1 Y) pos 0 [] G:=by apply aC w;kernel_rfl
end
end
end
section
open PySem.F PySem.Builtin PySem.Builtin.Str PySem.StrLaws
set_option tactic.hygienic false
theorem MM:((List.range' 32 95).all fun c=>!Unicode.isLineBreak c)=true:=by decide+kernel
theorem F9{c:Nat}(h:jT c=true):Unicode.isLineBreak c=false:=by
 have:=kE.mp MM c (by
  simp only[jT,Bool.and_eq_true,Nat.ble_eq]at h;simp only[List.mem_range'_1];lia)
 simpa using this
theorem dM(l:ZN):(⟨⟨l⟩⟩:Str).length=l.length:=rfl
theorem qO{l:ZN}(hn:l≠[])(h:∀c∈l,jT c=true):lineCuts ⟨⟨l⟩⟩=[(0,(⟨⟨l⟩⟩:Str).length)]:=by
 unfold lineCuts;rw[ls_eq];have key:∀(is:ZN),(∀i∈is,i<l.length)->(forIn (m:=Id) is ((#[],0):LsSt) (lsBody ⟨⟨l⟩⟩))=pure ((#[],0):LsSt):=fun is=>by
  induction is with
  |nil=>intro _;rfl
  |cons i is X=>
   intro Z;rw[List.forIn_cons];have Y:i<l.length:=Z i (.head _)
   have h2:Unicode.isLineBreak ((⟨⟨l⟩⟩:Str).cps.getD i 0)=false:=by
    have:(⟨⟨l⟩⟩:Str).cps.getD i 0=l[i]:=by simp[Array.getD,Y]
    rw[this];exact F9 (h _ (List.getElem_mem Y))
   have e:lsBody ⟨⟨l⟩⟩ i ((#[],0):LsSt)=pure (ForInStep.yield ((#[],0):LsSt)):=by
    unfold lsBody;rw[h2,Bool.and_false];rfl
   rw[e];exact X fun j W=>Z j (.tail _ W)
 rw[key _ fun i Z=>by simp only[List.mem_range'_1,dM]at Z;lia]
 have:0<l.length:=kH.mpr hn
 show(lsEnd ⟨⟨l⟩⟩ (#[],0)).map _=_
 unfold lsEnd;rw[if_pos (by exact this)]
 rfl
theorem rE(y:Str)(ty:Tok):sliceMade y ty (some (0,0)) none none=.val (.str y ty):=by
 have e:slicePicked y (some (0,0)) none none=strSliceIndices (some ((0:Nat):Int)) (some ((y.length:Nat):Int)) 1 y.length:=by
  have Z:(Max.max (0:Int) (Min.min (if(y.length:Int)<0 then(y.length:Int)+y.length else(y.length:Int)) y.length))=(y.length:Int):=by
   rw[if_neg (sl y.length)];lia
  unfold slicePicked strSliceIndices;simp[Z]
 unfold sliceMade;rw[e,strSliceIndices_plain (b9 _) (aM _)];rw[if_pos (by simp)]
theorem Ga:((List.range' 33 94).all fun z=>(Builtin.Str.occurrences ⟨⟨[13,10]⟩⟩ ⟨#[z]⟩ 0 2 1).isEmpty&&(Builtin.Str.occurrences ⟨⟨[32,9]⟩⟩ ⟨#[z]⟩ 0 2 1).isEmpty)=true:=by decide+kernel
theorem Cw{z:Nat}(Z:33<=z)(h2:z<=126):F8 false ⟨⟨[13,10]⟩⟩ ⟨#[z]⟩/\F8 false ⟨⟨[32,9]⟩⟩ ⟨#[z]⟩:=by
 have:=kE.mp Ga z (by simp only[List.mem_range'_1];lia)
 rw[mR]at this;constructor
 .show (!(Builtin.Str.occurrences ⟨⟨[13,10]⟩⟩ ⟨#[z]⟩ 0 2 1).isEmpty)=false
  rw[this.1];rfl
 .show (!(Builtin.Str.occurrences ⟨⟨[32,9]⟩⟩ ⟨#[z]⟩ 0 2 1).isEmpty)=false
  rw[this.2];rfl
theorem oT{d z:Nat}{m:ZN}(h:(d::m).getLast?=some z):aO (F7 (-1) ⟨⟨d::m⟩⟩ z):=by
 refine aa (by decide) (aa ?_ aj)
 have e:seqIndex? (-1) (⟨⟨d::m⟩⟩:Str).length=some m.length:=by
  unfold seqIndex?;rw[dM,cX];have Z:((-1:Int)<0):=by decide
  simp only[Z,if_true];have h2:(-1+((m.length+1:Nat):Int))=(m.length:Int):=by push_cast;exact Eq.symm ((fun{b a c}=>Int.sub_eq_iff_eq_add'.mp) rfl)
  rw[h2];rw[if_pos (by simp;exact Int.lt_succ _)]
  simp
 rw[e];show(⟨d::m⟩:Array Nat)[m.length]?=some z
 rw[List.getLast?_eq_getElem?]at h;simpa using h
structure iK(l:ZN):Prop where
 ne:l≠[]
 ok:∀c∈l,jT c=true
 last:∃z,l.getLast?=some z/\33<=z
theorem A7{l:ZN}(h:∀c∈l,jT c=true):∀c∈aV l,jT c=true:=fun c Z=>by
 obtain⟨a,Y,Z⟩:=List.mem_flatMap.mp Z;unfold dQ at Z;split at Z
 .simp only[List.mem_cons,List.mem_nil_iff,or_false]at Z;rcases Z with rfl|rfl|rfl<;>decide
 .rcases bQ.mp Z with rfl
  exact h _ Y
theorem iK.enc{l:ZN}(h:iK l):iK (aV l):=by
 obtain⟨z,Y,Z⟩:=h.last;have X:l=l.dropLast++[z]:=by
  have:=List.dropLast_concat_getLast h.ne
  rw[List.getLast?_eq_some_getLast h.ne]at Y;cases Y;exact this.symm
 have e:aV l=aV l.dropLast++dQ z:=by
  conv=>lhs;rw[X]
  simp[aV]
 refine⟨?_,A7 h.ok,?_⟩
 .rw [e];unfold dQ;split<;>simp
 .rw [e];unfold dQ;split
  .exact⟨68,by simp,by decide⟩
  .exact⟨z,by simp,Z⟩
noncomputable def zW:Nat->Sk:=fun a=>⟨[],[],default,default,.none,.none,0,default,⟨[],[]⟩,[],default,default⟩
noncomputable def E3(w:ZW)(l:ZN)(t1 Z:Tok):Ct pg w (kp w):=Jq w (.call (.ref 87) ⟨[.str ⟨⟨l⟩⟩ t1,.int 4000 Z],[]⟩) (.kinds Rf) [iK l/\(aV l).length<=4000] ⟨⟨aV l⟩⟩
theorem Gb(w:ZW)(l:ZN)(t1 W:Tok):(E3 w l t1 W).Holds:=by
 by_cases T:iK l/\(aV l).length<=4000
 .obtain⟨h,S⟩:=T;have he:=h.enc
  obtain⟨Z,Y,rfl⟩:∃Z Y,l=Z::Y:=by
   cases l with
   |nil=>exact absurd rfl h.ne
   |cons a b=>exact⟨a,b,rfl⟩
  obtain⟨d,m,hm⟩:∃d m,aV (Z::Y)=d::m:=by
   cases q:aV (Z::Y)with
   |nil=>exact absurd q he.ne
   |cons a b=>exact⟨a,b,rfl⟩
  obtain⟨z,X,U⟩:=he.last;have V:z<=126:=by
   have:=he.ok z (List.mem_of_getLast? X)
   simp only[jT,Bool.and_eq_true,Nat.ble_eq]at this;exact this.2
  have hlen:(Z::Y).length<=(aV (Z::Y)).length:=by
   generalize Z::Y=x;induction x with
   |nil=>exact aM _
   |cons a x M=>
    have e:aV (a::x)=dQ a++aV x:=rfl
    have L:1<=(dQ a).length:=by unfold dQ;split<;>simp
    rw[e,cJ,cX];lia
  rw[hm]at he X S hlen;unfold E3;rw[hm];have O:(d::m).length<=4000:=S
  refine sX (ks:=Rf) rfl (E2 w zW Z d z Y m t1 W) (tk:=fun fr N t=>Gf fr 1 0) (N':=fun fr N t=>Nf fr 1+7) (t':=fun fr N t=>Tf fr 1+28) (ps:=fun fr N t=>Jr Z d z Y m (Gf fr 1 0)) (fun c σ fr pos N t G=>Tp w σ Z d z Y m t1 W fr pos N t G) (fun c fr N t=>?_)
  obtain⟨Q,R⟩:=Cw U V;have big:(⟨⟨d::m⟩⟩:Str).length<=16777216:=au O (by decide)
  refine cM (aa ⟨rfl,?_⟩ (aa Q aj)) (cM (oT X) (cM (aa (by decide) (aa (rE _ _) (aa R aj))) (cM (oT X) (aa big (aa ?_ (aa big (aa ⟨big,qO he.ne he.ok⟩ (aa ⟨h.ne,h.ok,?_,by rw[hm]⟩ (aa ?_ aj)))))))))
  .show (d::m).length+1<=16777216;lia
  .rw [decide_eq_false_iff_not];show¬((0:Int)<=((d::m).length:Int)-1-4000)
   lia
  .lia
  .show (Z::Y).length<=16777216;exact au hlen big
 .intro s B pos A;exact absurd A.P.head T
def Rg(w:ZW):aX pg w (kp w):=Ct.ai (fun z:ZN×Tok×Tok=>E3 w z.1 z.2.1 z.2.2) (fun z=>Gb w z.1 z.2.1 z.2.2) (fun a c a a a=>((ag (v0 c)).cps.toList,ao (v0 c),ao (v1 c))) [] []
end
section
open PySem.F PySem.Builtin PySem.Builtin.Str PySem.Builtin.Re
section
set_option tactic.hygienic false
noncomputable def cq:Array Nat:=#[14,17,4,1,1,21,9,0,604043296,1,0,0,0,0,0,8,4,0,13,14,21,9,0,604043296,1,0,0,0,0,0,8,4,0,1]
noncomputable def U7(x:Str)(t:Tok):ReTarget:={pattern:=.ref 220,string:=.str x t,code:=cq,text:=x.cps,kind:=0,groups:=0,pos:=0,lim:=x.cps.size}
noncomputable def wW(o:Obj):Array ZV:=match o.data with
 |.fields vs=>vs
 |_=>#[]
section
variable{w:ZW}{A:Around}{E:ZV->ZS->Prop}{s:ZS}
theorem vQ{x:Str}{t:Tok}(X:cP (kp w) s.heap)(P:x.cps.size<=16777216){Q:ReTarget->ZS->Prop}(h:Q (U7 x t) s):wpAny (model pg w) A (reTarget "re.Pattern.search" "search" ⟨[.ref 220,.str x t],[]⟩) Q E s:=by
 have Z:s.heap.get? 220=some (pq w.params):=X _ _ rfl
 have Y:s.heap.get? 219=some (sR w.params):=X _ _ rfl
 unfold reTarget;have R:reNamed "re.Pattern.search" "search" ["string","pos","endpos"] 1 [.str x t] []=pure [some (.str x t),none,none]:=by kernel_rfl
 refine wpAny_bind ?_;rw[R];refine wpAny_pure ?_;refine wpAny_bind (wpAny_pure (a:=(0:Int)) ?_);refine wpAny_bind (wpAny_pure (a:=(2^63-1:Int)) ?_);refine wpAny_bind (wpAny_fieldsOf (vs:=wW (pq w.params)) Z rfl ?_);refine wpAny_bind (wpAny_pure (a:=(x.cps,0)) ?_);have S:reRawNat ((wW (pq w.params)).getD 6 .none)=0:=rfl
 simp only[S];refine wpAny_bind (wpAny_pure (a:=()) ?_);refine wpAny_bind (wpAny_bind (wpAny_seqItems (items:=mZ (sR w.params)) Y rfl ?_));refine wpAny_pure ?_;refine wpAny_pure ?_;have T:(Array.map (fun x=>x.toNat) (Array.map reRawOf ((some (mZ (sR w.params))).getD #[])))=cq:=by kernel_rfl
 have U:reRawNat ((wW (pq w.params)).getD 2 .none)=0:=rfl
 rw[T,U];have V:min (Int.toNat 0) x.cps.size=0:=by simp
 have W:min (Int.toNat (2^63-1)) x.cps.size=x.cps.size:=by
  have:Int.toNat (2^63-1)=9223372036854775807:=rfl
  rw[this];lia
 rw[V,W];exact h
noncomputable def gG(c:Nat):Bool:=!((decide (c<256)&&(cq.getD (5+1+(1+c/32)) 0).testBit (c%32))||Sre.isWord c)
theorem zX(c:Nat):Sre.category 4 c=.ok (Sre.isWord c):=by
 have:Sre.category 4 c=.ok (Sre.isWord c !=false):=rfl
 rw[this];simp
theorem qP(c:Nat)(i:Nat)(S:i=5\/i=20)(seen:Sre.Seen):∃Y,Sre.inSet cq c 34 i true seen=.ok (gG c,Y):=by
 have key:∀(j:Nat)(f1 f2 Q:Nat->Sre.Seen->Sre.Seen),True:=fun a a a a=>trivial
 cases Z:(decide (c<256)&&(cq.getD (5+1+(1+c/32)) 0).testBit (c%32))with
 |true=>
  have W:gG c=false:=by unfold gG;rw[Z];rfl
  rw[W];rcases S with rfl|rfl
  .refine⟨(seen.add 21).add 9,?_⟩;show(if(decide (c<256)&&(cq.getD (6+(1+c/32)) 0).testBit (c%32))=true then _ else _)=_
   rw[if_pos Z];rfl
  .refine⟨(seen.add 21).add 9,?_⟩;show(if(decide (c<256)&&(cq.getD (21+(1+c/32)) 0).testBit (c%32))=true then _ else _)=_
   refine(if_pos ?_).trans rfl;rw[mR]at Z⊢;refine⟨Z.1,?_⟩;have h2:=of_decide_eq_true Z.1
   have X:c/32<8:=by exact Nat.div_lt_of_lt_mul h2
   rw[←Z.2];generalize c/32=k at X⊢;apply IA X<;>rfl
 |false=>
  have W:gG c=!Sre.isWord c:=by unfold gG;rw[Z];rfl
  rw[W];have U:∀(j:Nat)(s2:Sre.Seen),(j=15\/j=30)->∃Y,Sre.inSet cq c 32 j false s2=.ok (!Sre.isWord c,Y):=fun j s2 T=>by
   cases hw:Sre.isWord c with
   |true=>
    rcases T with rfl|rfl
    .refine⟨(s2.add 8).add 59,?_⟩;show(Sre.category 4 c>>=fun r=>if r=true then _ else _)=_
     have:Sre.category 4 c=.ok true:=by rw[zX,hw]
     rw[this];rfl
    .refine⟨(s2.add 8).add 59,?_⟩;show(Sre.category 4 c>>=fun r=>if r=true then _ else _)=_
     have:Sre.category 4 c=.ok true:=by rw[zX,hw]
     rw[this];rfl
   |false=>
    rcases T with rfl|rfl
    .refine⟨((s2.add 8).add 59).add 0,?_⟩;show(Sre.category 4 c>>=fun r=>if r=true then _ else _)=_
     have:Sre.category 4 c=.ok false:=by rw[zX,hw]
     rw[this];rfl
    .refine⟨((s2.add 8).add 59).add 0,?_⟩;show(Sre.category 4 c>>=fun r=>if r=true then _ else _)=_
     have:Sre.category 4 c=.ok false:=by rw[zX,hw]
     rw[this];rfl
  rcases S with rfl|rfl
  .obtain⟨s3,V⟩:=U 15 ((seen.add 21).add 9) (.inl rfl);refine⟨s3,?_⟩;show(if(decide (c<256)&&(cq.getD (6+(1+c/32)) 0).testBit (c%32))=true then _ else Sre.inSet cq c 32 15 false ((seen.add 21).add 9))=_
   rw[if_neg (by rw[Z];exact fk),V]
  .obtain⟨s3,V⟩:=U 30 ((seen.add 21).add 9) (.inr rfl);refine⟨s3,?_⟩;show(if(decide (c<256)&&(cq.getD (21+(1+c/32)) 0).testBit (c%32))=true then _ else Sre.inSet cq c 32 30 false ((seen.add 21).add 9))=_
   rw[if_neg,V];intro h2;rw[mR]at h2;have R:=of_decide_eq_true h2.1
   have X:c/32<8:=by exact Nat.div_lt_of_lt_mul R
   rw[Bool.and_eq_false_iff]at Z;rcases Z with Z|Z
   .rw [h2.1]at Z;cases Z
   .rw [←Bool.not_eq_true]at Z;refine Z ?_;rw[←h2.2];generalize c/32=k at X⊢;apply IA X<;>rfl
theorem rF(m:Sre.M)(R:m.code=cq)(V:m.lim=m.text.size):∀(fuel s:Nat)(seen:Sre.Seen),m.lim<fuel+s->
  ∃Z,(Sre.M.admitted m fuel s seen=.ok (none,Z)/\∀j,s<=j->j<m.lim->gG (m.text.getD j 0)=false)\/
   (∃k,s<=k/\k<m.lim/\gG (m.text.getD k 0)=true/\Sre.M.admitted m fuel s seen=.ok (some k,Z)):=by
 intro fuel;induction fuel with
 |zero=>intro s seen h;exact⟨seen,.inl ⟨rfl,fun j T h2=>by lia⟩⟩
 |succ fuel S=>
  intro s seen h;unfold Sre.M.admitted
  by_cases X:s>=m.lim
  .rw [if_pos X];exact⟨seen,.inl ⟨rfl,fun j T h2=>by lia⟩⟩
  .rw [if_neg X];obtain⟨s2,e⟩:=qP (m.text.getD s 0) 5 (.inl rfl) seen;have O:Sre.inSet m.code (m.text.getD s 0) m.code.size 5 true seen=.ok (gG (m.text.getD s 0),s2):=by rw[R];exact e
   rw[O];cases U:gG (m.text.getD s 0)with
   |true=>exact⟨s2,.inr ⟨s,aM _,(Nat.lt_of_not_le X),U,rfl⟩⟩
   |false=>
    obtain⟨s3,Y⟩:=S (s+1) s2 (by lia)
    refine⟨s3,?_⟩;rcases Y with ⟨Y,W⟩|⟨k,Y,W,P,Q⟩
    .refine .inl ⟨Y,fun j T h2=>?_⟩
     by_cases q:j=s
     .rw [q];exact U
     .exact W j (by lia) h2
    .exact .inr ⟨k,(jB Y),W,P,Q⟩
noncomputable def pK(x:Str)(seen:Sre.Seen):Sre.M:={code:=cq,text:=x.cps,lim:=x.cps.size,start:=0,lastStart:=x.cps.size,pc:=18,pos:=0,handed:=0,marks:=Array.replicate 0 none,mustAdvance:=false,seen}
theorem pL(x:Str)(hx:1<=x.cps.size):Sre.forSearch cq x.cps 0 0 x.cps.size false=(pK x (({}:Sre.Seen).add 14)).attemptFrom 0 true:=by
 have e:Sre.forSearch cq x.cps 0 0 x.cps.size false=(if(decide (0>x.cps.size)||decide (x.cps.size-0<1))=true then Sre.M.say {(pK x (({}:Sre.Seen).add 14))with lastStart:=0} false else(pK x (({}:Sre.Seen).add 14)).attemptFrom 0 true):=rfl
 rw[e,if_neg];have Z:¬(0>x.cps.size):=by exact p5 x.cps.size
 have h2:¬(x.cps.size-0<1):=by exact Nat.not_lt.mpr hx
 rw[decide_eq_false Z,decide_eq_false h2];decide
theorem uy{s:ZS}{A:Around}{E:ZV->ZS->Prop}{M:Model}(m:Sre.M){Q:Unit->ZS->Prop}(h:Q () s):wpAny M A (forIn (List.range Sre.names.size) PUnit.unit fun i a=>if m.seen.has i then(rule (Sre.names.getD i ""))>>=fun a=>pure (ForInStep.yield PUnit.unit)else pure (ForInStep.yield PUnit.unit)) Q E s:=by
 refine wpAny_forIn_list _ (fun a a Z=>Z=s) _ ?_ ?_ _ _ rfl
 .rintro i rest ⟨⟩ Z rfl
  split
  .exact wpAny_bind (wpAny_rule (wpAny_pure rfl))
  .exact wpAny_pure rfl
 .rintro ⟨⟩ Z rfl;exact h
theorem A8{m:Sre.M}(Y:m.answer=some false)(hf:m.frames=[])(Z:m.outcome=none){Q:Option Sre.M->ZS->Prop}(h:Q none s):wpAny (model pg w) A (reRunToEnd m) Q E s:=by
 unfold reRunToEnd;have e:m.runFor 4={m with outcome:=some .failed}:=by
  have W:m.step={m with outcome:=some .failed}:=by
   unfold Sre.M.step;rw[Z,Y,hf];rfl
  show(if m.outcome.isSome=true then m else Sre.M.runFor 3 m.step)=_
  rw[Z,W];rfl
 have X:reDrive (2^64) m=pure {m with outcome:=some .failed}:=by
  show(if(m.runFor 4).outcome.isSome=true then pure (m.runFor 4)else _)=_
  rw[e];rfl
 rw[X];refine wpAny_bind (wpAny_pure ?_);refine wpAny_bind (uy _ ?_);exact wpAny_pure h
theorem ju(n:Nat)(m:Sre.M)(h:m.outcome=none):m.runFor (n+1)=m.step.runFor n:=by
 show(if m.outcome.isSome=true then m else Sre.M.runFor n m.step)=_
 rw[h];rfl
noncomputable def jb(x:Str)(s2:Sre.Seen)(k:Nat):Sre.M:={pK x s2 with start:=k,pos:=k,lastmark:=-1,lastindex:=-1,frames:=[{wait:=.nextStart,pc:=18,pos:=k,outermost:=true}],weight:=1,pc:=18,handed:=k,outermost:=true}
theorem A9{x:Str}{s2:Sre.Seen}{k:Nat}(Y:k<x.cps.size)(X:gG (x.cps.getD k 0)=true){Q:Option Sre.M->ZS->Prop}(h:∀m:Sre.M,Q (some m) s):wpAny (model pg w) A (reRunToEnd (jb x s2 k)) Q E s:=by
 obtain⟨s3,Z⟩:=qP (x.cps.getD k 0) 20 (.inr rfl) (s2.add 13);rw[X]at Z;have R:(jb x s2 k).step={jb x s2 k with seen:=s3,pc:=33,pos:=k+1}:=by
  have a1:(jb x s2 k).step=(if k>=x.cps.size then Sre.M.say {jb x s2 k with seen:=s2.add 13} false else match Sre.inSet cq (x.cps.getD k 0) 34 20 true (s2.add 13)with
   |.error why=>Sre.M.stick {jb x s2 k with seen:=s2.add 13} why
   |.ok (false,seen)=>Sre.M.say {jb x s2 k with seen:=seen} false
   |.ok (true,seen)=>{jb x s2 k with seen:=seen,pc:=18+15,pos:=k+1}):=rfl
  rw[a1,if_neg (Nat.not_le_of_lt Y),Z]
 have S:({jb x s2 k with seen:=s3,pc:=33,pos:=k+1}:Sre.M).step={jb x s2 k with seen:=s3.add 1,pc:=33,pos:=k+1,handed:=k+1,answer:=some true}:=rfl
 have T:({jb x s2 k with seen:=s3.add 1,pc:=33,pos:=k+1,handed:=k+1,answer:=some true}:Sre.M).step={jb x s2 k with seen:=s3.add 1,pc:=18,pos:=k,handed:=k+1,answer:=some true,frames:=[],weight:=0}:=rfl
 have U:({jb x s2 k with seen:=s3.add 1,pc:=18,pos:=k,handed:=k+1,answer:=some true,frames:=[],weight:=0}:Sre.M).step={jb x s2 k with seen:=s3.add 1,pc:=18,pos:=k,handed:=k+1,answer:=some true,frames:=[],weight:=0,outcome:=some .matched}:=rfl
 have W:(jb x s2 k).runFor 4={jb x s2 k with seen:=s3.add 1,pc:=18,pos:=k,handed:=k+1,answer:=some true,frames:=[],weight:=0,outcome:=some .matched}:=by
  rw[ju 3 _ rfl,R,ju 2 _ rfl,S,ju 1 _ rfl,T,ju 0 _ rfl,U];rfl
 unfold reRunToEnd;have V:reDrive (2^64) (jb x s2 k)=pure {jb x s2 k with seen:=s3.add 1,pc:=18,pos:=k,handed:=k+1,answer:=some true,frames:=[],weight:=0,outcome:=some .matched}:=by
  show(if((jb x s2 k).runFor 4).outcome.isSome=true then pure ((jb x s2 k).runFor 4)else _)=_
  rw[W];rfl
 rw[V];refine wpAny_bind (wpAny_pure ?_);refine wpAny_bind (uy _ ?_);exact wpAny_pure (h _)
theorem nI{x:Str}{t:Tok}(R:cP (kp w) s.heap)(S:x.cps.size<=16777216)(hx:1<=x.cps.size){Q:PySem.Fin->ZS->Prop}(h0:(∀j,j<x.cps.size->gG (x.cps.getD j 0)=false)->Q (.done (.ret .none)) s)(O:(∃j,j<x.cps.size/\gG (x.cps.getD j 0)=true)->∀W X,X.isFreed=false->Q (.done (.ret (.ref (s.heap.push W).objs.size))) {s with heap:=(s.heap.push W).push X}):wpAny (model pg w) A (Builtin.«re.Pattern.search» ⟨[.ref 220,.str x t],[]⟩) Q E s:=by
 unfold Builtin.«re.Pattern.search»;refine wpAny_bind (vQ R S ?_);show wpAny _ _ (reAnswer (U7 x t) (Sre.forSearch cq x.cps 0 0 x.cps.size false)) _ _ _
 rw[pL x hx];unfold reAnswer;obtain⟨s2,T⟩:=rF (pK x (({}:Sre.Seen).add 14)) rfl rfl (x.cps.size+1-0) 0 (({}:Sre.Seen).add 14) (by show x.cps.size<_;exact mS x.cps.size)
 have N:(pK x (({}:Sre.Seen).add 14)).attemptFrom 0 true=(match Sre.M.admitted (pK x (({}:Sre.Seen).add 14)) (x.cps.size+1-0) 0 (({}:Sre.Seen).add 14)with
  |.ok (some k,seen)=>Sre.M.attemptAt {pK x (({}:Sre.Seen).add 14)with mustAdvance:=false,seen:=seen} k true
  |.ok (none,seen)=>Sre.M.say {pK x (({}:Sre.Seen).add 14)with seen:=seen} false
  |.error why=>Sre.M.stick (pK x (({}:Sre.Seen).add 14)) why):=rfl
 rw[N];rcases T with ⟨e,Y⟩|⟨k,-,Z,V,e⟩
 .rw [e];refine wpAny_bind (A8 (m:=Sre.M.say {pK x (({}:Sre.Seen).add 14)with seen:=s2} false) rfl rfl rfl ?_)
  exact wpAny_pure (h0 fun j P=>Y j (b9 _) P)
 .rw [e];have L:Sre.M.attemptAt {pK x (({}:Sre.Seen).add 14)with mustAdvance:=false,seen:=s2} k true=jb x s2 k:=rfl
  show wpAny _ _ (reRunToEnd (Sre.M.attemptAt {pK x (({}:Sre.Seen).add 14)with mustAdvance:=false,seen:=s2} k true)>>=_) _ _ _
  rw[L];refine wpAny_bind (A9 Z V fun m=>?_)
  refine wpAny_bind ?_;show wpAny _ _ (do
   let U←newTuple (rawInt m.start::rawInt m.handed::[])
   newFields "re.Match" [.str x t,.ref 220,rawInt 0,rawInt x.cps.size,rawInt m.lastindex,U]) _ _ _
  refine wpAny_bind (wpAny_newTuple ?_ (by show 2<=sizeLine;decide))
  refine wpAny_newObj_type ?_ ?_
  .exact wpAny_pure (O ⟨k,Z,V⟩ _ _ rfl)
  .first|trivial|(show 6<=sizeLine;decide)|simp[sizeOk,sizeLine]
end
end
end
section
open PySem.F PySem.Builtin PySem.Builtin.Str PySem.StrLaws
set_option tactic.hygienic false
noncomputable def d7(q:Nat):ZN->Nat->ZN
 |[],_=>[]
 |c::l,a=>if c=q then a::d7 q l (a+1)else d7 q l (a+1)
theorem eL(q c:Nat)(l:ZN)(a:Nat):d7 q (c::l) a=if c=q then a::d7 q l (a+1)else d7 q l (a+1):=rfl
theorem xI(l:ZN)(q i:Nat):subAt ⟨⟨l⟩⟩ ⟨⟨[q]⟩⟩ i=true↔l[i]?=some q:=by
 rw[subAt_eq];show(((l.drop i).take 1)==[q])=true↔_
 rw[beq_iff_eq];cases h:l.drop i with
 |nil=>
  have:l[i]?=none:=by
   have:=congrArg List.length h
   simp only[List.length_drop,List.length_nil]at this;exact List.getElem?_eq_none (List.drop_eq_nil_iff.mp h)
  simp[this]
 |cons a r=>
  have:l[i]?=some a:=by
   have:=List.getElem?_drop (xs:=l) (i:=i) (j:=0)
   rw[h]at this;simpa using this.symm
  simp[this]
theorem l7(l:ZN)(q:Nat):∀(rest:ZN)(a:Nat)(found:Array Nat)(free:Nat),l.drop a=rest->a<=l.length->free<=a->found.size<=a->
  (forIn (m:=Id) (List.range' a (rest.length+1)) (found,free) (occBody ⟨⟨l⟩⟩ ⟨⟨[q]⟩⟩ l.length (l.length+1))).run.fst.toList=found.toList++d7 q rest a
 |[],a,found,free,W,S,hf,V=>by
  have T:a=l.length:=by
   have:=congrArg List.length W
   simp only[List.length_drop,List.length_nil]at this;lia
  show(forIn (m:=Id) [a] (found,free) _).run.fst.toList=_
  rw[List.forIn_cons];unfold occBody;rw[if_neg (by
   rintro ⟨⟨-,h2⟩,-⟩
   have:a+1<=l.length:=h2
   lia)]
  show(found,free).fst.toList=_
  simp[d7]
 |c::rest,a,found,free,W,S,hf,V=>by
  have Z:a<l.length:=by
   have:=congrArg List.length W
   simp only[List.length_drop,List.length_cons]at this;exact sC this
  have X:l.drop (a+1)=rest:=by
   have:=congrArg List.tail W
   simpa[List.tail_drop]using this
  have U:l[a]?=some c:=by
   have:=List.getElem?_drop (xs:=l) (i:=a) (j:=0)
   rw[W]at this;simpa using this.symm
  show(forIn (m:=Id) (a::List.range' (a+1) (rest.length+1)) (found,free) _).run.fst.toList=_
  rw[List.forIn_cons];unfold occBody
  by_cases hq:c=q
  .subst hq;rw[if_pos ⟨⟨⟨by show found.size<_;lia,hf⟩,by show a+1<=_;exact iC Z⟩,(xI l c a).mpr U⟩]
   have Y:=l7 l c rest (a+1) (found.push a) (a+1) X (iC Z) (aM _) (by rw[Array.size_push];exact su V 1)
   unfold occBody at Y;refine Y.trans ?_;rw[eL,if_pos rfl];simp
  .rw [if_neg (by
    rintro ⟨-,h2⟩
    have:=(xI l q a).mp h2
    rw[U]at this;cases this;exact hq rfl)]
   have Y:=l7 l q rest (a+1) found free X (iC Z) (kZ hf) (kZ V)
   unfold occBody at Y;refine Y.trans ?_;rw[eL,if_neg hq]
theorem E4(l:ZN)(q:Nat):occurrences ⟨⟨l⟩⟩ ⟨⟨[q]⟩⟩ 0 l.length (l.length+1)=d7 q l 0:=by
 rw[occ_eq];have:=l7 l q l 0 #[] 0 rfl (b9 _) (aM _) (b9 _)
 simpa using this
theorem r4(l:ZN)(q:Nat)(z:Str):∀(rest:ZN)(a b:Nat),a<=b->b<=l.length->l.drop b=rest->
  (Str.join z (partsFrom ⟨⟨l⟩⟩ 1 a (d7 q rest b))).cps.toList=(l.drop a).take (b-a)++rest.flatMap fun c=>if c=q then z.cps.toList else[c]
 |[],a,b,Z,S,X=>by
  have V:b=l.length:=by
   have:=congrArg List.length X
   simp only[List.length_drop,List.length_nil]at this;lia
  show(strSub ⟨⟨l⟩⟩ a _).cps.toList=_
  rw[strSub_toList,V];simp[Str.length]
 |c::rest,a,b,Z,S,X=>by
  have W:b<l.length:=by
   have:=congrArg List.length X
   simp only[List.length_drop,List.length_cons]at this;exact sC this
  have Y:l.drop (b+1)=rest:=by
   have:=congrArg List.tail X
   simpa[List.tail_drop]using this
  by_cases hq:c=q
  .have e:d7 q (c::rest) b=b::d7 q rest (b+1):=by rw[eL,if_pos hq]
   rw[e];obtain⟨p,r,ep⟩:=partsFrom_ne ⟨⟨l⟩⟩ 1 (b+1) (d7 q rest (b+1));have U:=r4 l q z rest (b+1) (b+1) (aM _) (iC W) Y
   show(Str.join z (strSub ⟨⟨l⟩⟩ a b::partsFrom ⟨⟨l⟩⟩ 1 (b+1) (d7 q rest (b+1)))).cps.toList=_
   rw[ep]at U⊢;show(strSub ⟨⟨l⟩⟩ a b++z++Str.join z (p::r)).cps.toList=_
   simp only[Str.cps_append,Array.toList_append,strSub_toList];rw[U];simp[hq]
  .have e:d7 q (c::rest) b=d7 q rest (b+1):=by rw[eL,if_neg hq]
   rw[e,r4 l q z rest a (b+1) (by exact kZ Z) (by exact iC W) Y]
   have T:l[b]?=some c:=by
    have:=List.getElem?_drop (xs:=l) (i:=b) (j:=0)
    rw[X]at this;simpa using this.symm
   rw[fm,if_neg hq,←br]
   congr 1
   rw[show b+1-a=(b-a)+1 by exact Nat.sub_add_comm Z,gf,List.getElem?_drop,show a+(b-a)=b by exact pb Z,T]
   rfl
noncomputable def dk(q:Nat)(z:ZN)(l:ZN):ZN:=l.flatMap fun c=>if c=q then z else[c]
theorem Ba(l:ZN)(q:Nat)(z:Str):(glued z (partsBetween ⟨⟨l⟩⟩ (occurrences ⟨⟨l⟩⟩ ⟨⟨[q]⟩⟩ 0 l.length (l.length+1)) 1)).cps.toList=dk q z.cps.toList l:=by rw[glued_eq_join,partsBetween_eq,E4,r4 l q z l 0 0 (aM _) (b9 _) rfl];simp[dk]
theorem l8{q:Nat}:∀{l:ZN} {a:Nat},d7 q l a=[]↔q∉l
 |[],a=>by simp[d7]
 |c::l,a=>by
  rw[eL]
  by_cases h:c=q
  .simp [h]
  .rw [if_neg h,l8];simp[Ne.symm h]
theorem Bb{q:Nat}{z l:ZN}(h:q∉l):dk q z l=l:=by
 unfold dk;induction l with
 |nil=>rfl
 |cons c l Z=>
  rw[fm,Z fun q=>h (.tail _ q),if_neg fun e=>h (by rw[e];exact .head _)];rfl
section
set_option tactic.hygienic false
theorem rG(s:ZS)(Y Z:Obj)(r:Result):cf s {s with heap:=(s.heap.push Y).push Z} [] ⟨r,[],[],s.heap.objs.size+2,s.toks,0,[]⟩:=by refine⟨⟨fun b X e a=>Heap.get?_push_of_some _ (Heap.get?_push_of_some _ e),by show _<=((s.heap.push Y).push Z).objs.size;rw[dJ,dJ];lia,aM _,rfl,rfl⟩,rfl,bH _,fun p hp=>(nomatch hp),fun p hp=>(nomatch hp),cW,by show((s.heap.push Y).push Z).objs.size=_;rw[dJ,dJ],rfl,by simp,fun a hp=>(nomatch hp),fun a hp=>(nomatch hp),fun a hp=>(nomatch hp),fun a hp=>(nomatch hp)⟩
section
variable{w:ZW}
def jU(l:ZN):Prop:=∀c∈l,gG c=false
theorem uz{x:Str}:(∀j,j<x.cps.size->gG (x.cps.getD j 0)=false)↔jU x.cps.toList:=by
 constructor
 .intro h c Y;obtain⟨j,Z,e⟩:=List.mem_iff_getElem.mp Y;have:=h j (by simpa using Z)
  have X:x.cps.getD j 0=c:=by
   rw[←e];simp[Array.getD,show j<x.cps.size by simpa using Z]
  rw[X]at this;exact this
 .intro h j Z;refine h _ ?_;simp[Array.getD,Z]
noncomputable def MN:aX pg w (kp w)where
 A:=fun a c a a a=>⟨.builtin "re.Pattern.search" ⟨[.ref 220,.str (ag (v1 c)) (ao (v1 c))],[]⟩,[],[],.fq,[(ag (v1 c)).cps.toList≠[]/\(ag (v1 c)).cps.toList.length<=16777216/\jU (ag (v1 c)).cps.toList],[],[]⟩
 B:=fun a c N t a a=>⟨.ok (.ret .none),[],[],N,t+0,0,[]⟩
 ok:=fun a c T s B pos e hp U a a a hB a O=>by
  obtain⟨Y,h2,P⟩:=hp _ (.head _);have e:c=.builtin "re.Pattern.search" ⟨[.ref 220,.str (ag (v1 c)) (ao (v1 c))],[]⟩:=e
  have M:(ag (v1 c)).cps.size=(ag (v1 c)).cps.toList.length:=by simp
  have Z:0<(ag (v1 c)).cps.toList.length:=kH.mpr Y
  refine bR e (args:=⟨[.ref 220,.str (ag (v1 c)) (ao (v1 c))],[]⟩) hB (by decide+kernel) (entryFor_of_tree (by kernel_rfl):entryFor table "re.Pattern.search"=some Builtin.«re.Pattern.search») (MeetsIn.of_wp (S:=fun a R s=>cP (kp w) s.heap/\R (.ok (.ret .none)) s) fun A R s h=>nI h.1 (by lia) (Nat.one_le_of_lt Z) (fun a=>⟨_,rfl,h.2⟩) (fun hx=>by
   obtain⟨j,Q,V⟩:=hx;rw[uz.mpr P j Q]at V;cases V)) (R:=fun W X=>W=.ok (.ret .none)/\X={s with toks:=s.toks+0}) ⟨U,rfl,rfl⟩ fun W X ⟨Y,h2⟩=>⟨[],Y,?_⟩
  subst h2;exact iU s 0 _
noncomputable def Js:aX pg w (kp w)where
 A:=fun a c a a a=>⟨.builtin "re.Pattern.search" ⟨[.ref 220,.str (ag (v1 c)) (ao (v1 c))],[]⟩,[],[],.fq,[(ag (v1 c)).cps.toList≠[]/\(ag (v1 c)).cps.toList.length<=16777216/\¬jU (ag (v1 c)).cps.toList],[],[]⟩
 B:=fun a c N t a f=>⟨.ok (.ret (.ref ((f.drop 2).getD 0 0))),[],[],f.getD 0 0,f.getD 1 0,0,[]⟩
 ok:=fun a c T s B pos e hp Q a a a hB a O=>by
  obtain⟨W,h2,P⟩:=hp _ (.head _);have e:c=.builtin "re.Pattern.search" ⟨[.ref 220,.str (ag (v1 c)) (ao (v1 c))],[]⟩:=e
  have M:(ag (v1 c)).cps.size=(ag (v1 c)).cps.toList.length:=by simp
  have X:0<(ag (v1 c)).cps.toList.length:=kH.mpr W
  refine bR e (args:=⟨[.ref 220,.str (ag (v1 c)) (ao (v1 c))],[]⟩) hB (by decide+kernel) (entryFor_of_tree (by kernel_rfl):entryFor table "re.Pattern.search"=some Builtin.«re.Pattern.search») (MeetsIn.of_wp (S:=fun a R s=>cP (kp w) s.heap/\∀Z Y,R (.ok (.ret (.ref (s.heap.push Z).objs.size))) {s with heap:=(s.heap.push Z).push Y}) fun A R s h=>nI h.1 (by lia) (Nat.one_le_of_lt X) (fun hx=>absurd (uz.mp hx) P) (fun a Z Y a=>⟨_,rfl,h.2 Z Y⟩)) (R:=fun U V=>∃Z Y,U=.ok (.ret (.ref (s.heap.push Z).objs.size))/\V={s with heap:=(s.heap.push Z).push Y}) ⟨Q,fun Z Y=>⟨Z,Y,rfl,rfl⟩⟩ fun U V ⟨Z,Y,W,h2⟩=>⟨[s.heap.objs.size+2,s.toks,(s.heap.push Z).objs.size],W,?_⟩
  subst h2;exact rG s Z Y _
variable{prog:Program}{kt:KT}
noncomputable def Gd:aX prog w kt:=dg (fun c=>.builtin "str.replace" ⟨[.str (ag (v0 c)) (ao (v0 c)),.str ⟨⟨[39]⟩⟩ (ao (v1 c)),.str (ag (v2 c)) (ao (v2 c))],[]⟩)
  (fun c=>[39∉(ag (v0 c)).cps.toList]) (fun c a=>.str (ag (v0 c)) (ao (v0 c))) 0
 fun c s B pos hp hB a=>by
  have h:39∉(ag (v0 c)).cps.toList:=hp _ (.head _)
  have e:occurrences (ag (v0 c)) ⟨⟨[39]⟩⟩ 0 (ag (v0 c)).length ((ag (v0 c)).length+1)=[]:=by
   have:=E4 (ag (v0 c)).cps.toList 39
   rw[l8.mpr h]at this;simpa[Str.length]using this
  have Z:((occurrences (ag (v0 c)) ⟨⟨[39]⟩⟩ 0 (ag (v0 c)).length ((ag (v0 c)).length+1)).isEmpty||((⟨⟨[39]⟩⟩:Str).length==0&&(ag (v2 c)).length==0))=true:=by rw[e];rfl
  refine bf hB (by decide+kernel) PySem.F.entry_str_replace (gives_str_replace (ag (v0 c)) ⟨⟨[39]⟩⟩ (ag (v2 c)) (ao (v0 c)) (ao (v1 c)) (ao (v2 c)) (fun hf=>by rw[Z]at hf;cases hf)) ?_
  rw[if_pos Z];exact⟨rfl,rfl⟩
noncomputable def MO(y:Str):aX prog w kt:=dg (fun c=>.builtin "str.replace" ⟨[.str (ag (v0 c)) (ao (v0 c)),.str ⟨⟨[39]⟩⟩ (ao (v1 c)),.str (ag (v2 c)) (ao (v2 c))],[]⟩)
  (fun c=>[39∈(ag (v0 c)).cps.toList/\y=⟨⟨dk 39 (ag (v2 c)).cps.toList (ag (v0 c)).cps.toList⟩⟩,(ao (v1 c)==0||ao (v2 c)==0)=false/\(ao (v1 c)==ao (v2 c))=false/\((⟨⟨[39]⟩⟩:Str)==ag (v2 c))=false,(ag (v0 c)).length<=100000/\(ag (v2 c)).length<=10]) (fun c t=>.str y t) 1
 fun c s B pos hp hB d=>by
  obtain⟨h,rfl⟩:=hp _ (.head _);obtain⟨h2,R,S⟩:=hp _ (.tail _ (.head _));obtain⟨T,U⟩:=hp _ (.tail _ (.tail _ (.head _)));have e:occurrences (ag (v0 c)) ⟨⟨[39]⟩⟩ 0 (ag (v0 c)).length ((ag (v0 c)).length+1)=d7 39 (ag (v0 c)).cps.toList 0:=by
   have:=E4 (ag (v0 c)).cps.toList 39
   simpa[Str.length]using this
  have X:d7 39 (ag (v0 c)).cps.toList 0≠[]:=fun q=>l8.mp q h
  have V:((occurrences (ag (v0 c)) ⟨⟨[39]⟩⟩ 0 (ag (v0 c)).length ((ag (v0 c)).length+1)).isEmpty||((⟨⟨[39]⟩⟩:Str).length==0&&(ag (v2 c)).length==0))=false:=by
   rw[e];cases q:d7 39 (ag (v0 c)).cps.toList 0 with
   |nil=>exact absurd q X
   |cons a b=>rfl
  have hlen:∀(l:ZN)(a:Nat),(d7 39 l a).length<=l.length:=fun l=>by
   induction l with
   |nil=>intro a;exact aM _
   |cons x l Z=>
    intro a;rw[eL];split
    .have:=Z (a+1);simp;exact String.Pos.Raw.mk_le_mk.mp (Z (a+1))
    .have:=Z (a+1);simp;exact kZ (Z (a+1))
  have N:=hlen (ag (v0 c)).cps.toList 0
  have Y:(ag (v0 c)).cps.toList.length=(ag (v0 c)).length:=by simp[Str.length]
  have big:(ag (v0 c)).length+(occurrences (ag (v0 c)) ⟨⟨[39]⟩⟩ 0 (ag (v0 c)).length ((ag (v0 c)).length+1)).length*(ag (v2 c)).length<=16777216:=by
   rw[e];have:(d7 39 (ag (v0 c)).cps.toList 0).length*(ag (v2 c)).length<=100000*10:=jH (au (hlen (ag (v0 c)).cps.toList 0) T) U
   lia
  refine bf hB (by decide+kernel) PySem.F.entry_str_replace (gives_str_replace (ag (v0 c)) ⟨⟨[39]⟩⟩ (ag (v2 c)) (ao (v0 c)) (ao (v1 c)) (ao (v2 c)) (fun hf=>⟨h2,R,S,by
   unfold Builtin.Str.tooLong;rw[decide_eq_false_iff_not,Nat.not_lt];exact big⟩)) ?_
  rw[if_neg (by rw[V];exact fk)]
  have Q:glued (ag (v2 c)) (partsBetween (ag (v0 c)) (occurrences (ag (v0 c)) ⟨⟨[39]⟩⟩ 0 (ag (v0 c)).length ((ag (v0 c)).length+1)) (⟨⟨[39]⟩⟩:Str).length)=⟨⟨dk 39 (ag (v2 c)).cps.toList (ag (v0 c)).cps.toList⟩⟩:=by
   have:=Ba (ag (v0 c)).cps.toList 39 (ag (v2 c))
   have O:(⟨⟨(ag (v0 c)).cps.toList⟩⟩:Str)=ag (v0 c):=rfl
   rw[O,Y]at this;apply Str.ext';apply gb.mp;exact this
  rw[Q];refine⟨?_,rfl,rfl⟩;show(dk 39 (ag (v2 c)).cps.toList (ag (v0 c)).cps.toList).length<=16777216
  have W:∀(l:ZN),(dk 39 (ag (v2 c)).cps.toList l).length<=l.length*11:=fun l=>by
   induction l with
   |nil=>exact aM _
   |cons x l Z=>
    have P:dk 39 (ag (v2 c)).cps.toList (x::l)=(if x=39 then(ag (v2 c)).cps.toList else[x])++dk 39 (ag (v2 c)).cps.toList l:=rfl
    have M:(ag (v2 c)).cps.toList.length=(ag (v2 c)).length:=by simp[Str.length]
    rw[P,cJ,cX];split
    .lia
    .simp;lia
  have:=W (ag (v0 c)).cps.toList
  lia
end
end
section
set_option tactic.hygienic false
noncomputable abbrev kQ:List K:=[.gx,.bi "generator.__next__",.bi "list.extend.loop",.bi "str.join",.fn,.fo,.wh,.fn,.cl]
noncomputable def vR(a b:Str):List Prop:=[(a.length==0)=false,(b.length==0)=false,(a++b).length<=16777216]
noncomputable def Jt(x:ZN):List Prop:=[x≠[]/\x.length<=16777216/\jU x,(⟨⟨x⟩⟩:Str).length<=16777216]
noncomputable def E5(x:ZN):List Prop:=[x≠[]/\x.length<=16777216/\¬jU x,(⟨⟨x⟩⟩:Str).length<=16777216]
noncomputable def E6(x:ZN):List Prop:=vR (⟨⟨[39]⟩⟩++⟨⟨x⟩⟩) ⟨⟨[39]⟩⟩++(vR ⟨⟨[39]⟩⟩ ⟨⟨x⟩⟩++([39∉x]++E5 x))
noncomputable def E7(x:ZN)(y:Str)(t:Tok):List Prop:=vR (⟨⟨[39]⟩⟩++y) ⟨⟨[39]⟩⟩++(vR ⟨⟨[39]⟩⟩ y++([39∈x/\y=⟨⟨dk 39 [39,34,39,34,39] x⟩⟩,(t+1==0||t+2==0)=false/\(t+1==t+2)=false/\((⟨⟨[39]⟩⟩:Str)==⟨⟨[39,34,39,34,39]⟩⟩)=false,(⟨⟨x⟩⟩:Str).length<=100000/\(⟨⟨[39,34,39,34,39]⟩⟩:Str).length<=10]++E5 x))
section
variable(w:ZW)(σ:Nat->Sk)(Z:Nat)(l:ZN)(t1:Tok)(y:Str)(fr:ZL)(pos:Pos)(N t:Nat)(G:ZG)
def E8(w:ZW)(σ:Nat->Sk)(Z:Nat)(l:ZN)(t1:Tok):ZH w:=jn [dz 0x29db,[(1,.ai (iH))],dz 0x13,[(7,.ai (MN))],dz 0x13,[(0,.fin)]]
def Tq:ay:=aq (V0 w (Wk σ kQ)) (E8 w σ Z l t1) fr (.call (.ref 930) ⟨[.str ⟨⟨Z::l⟩⟩ t1],[]⟩) pos [] [] N t G
abbrev Tr:dp:=⟨(Tq w σ Z l t1 fr pos N t G),(.ok (.ret (ar (Z::l) t1))),⟨[],[],(Jt (Z::l))⟩,(N+1),(t+3)⟩
theorem Ts:(Tr w σ Z l t1 fr pos N t G).ok (E8 w σ Z l t1) pos 0 [] G:=by apply aC w;kernel_rfl
def E9(w:ZW)(σ:Nat->Sk)(Z:Nat)(l:ZN)(t1:Tok):ZH w:=jn [dz 0x29db,[(1,.ai (iH))],dz 0x13,[(7,.ai (Js))],dz 0xd,[(6,.ai (Gd))],[(4,.ai (hZ))],[(4,.ai (hZ))],[(0,.fin)]]
def Tt:ay:=aq (V0 w (Wk σ kQ)) (E9 w σ Z l t1) fr (.call (.ref 930) ⟨[.str ⟨⟨Z::l⟩⟩ t1],[]⟩) pos [] [] N t G
abbrev Tu:dp:=⟨(Tt w σ Z l t1 fr pos N t G),(.ok (.ret (.str (⟨⟨[39]⟩⟩++⟨⟨Z::l⟩⟩++⟨⟨[39]⟩⟩) ((Tf fr 1)+5)))),⟨[],[],(E6 (Z::l))⟩,(Nf fr 1),((Tf fr 1)+6)⟩
theorem Tv:(Tu w σ Z l t1 fr pos N t G).ok (E9 w σ Z l t1) pos 0 [] G:=by apply aC w;kernel_rfl
def Fb(w:ZW)(σ:Nat->Sk)(Z:Nat)(l:ZN)(t1:Tok)(y:Str):ZH w:=jn [dz 0x29db,[(1,.ai (iH))],dz 0x13,[(7,.ai (Js))],dz 0xd,[(6,.ai (MO y))],[(4,.ai (hZ))],[(4,.ai (hZ))],[(0,.fin)]]
def Tw:ay:=aq (V0 w (Wk σ kQ)) (Fb w σ Z l t1 y) fr (.call (.ref 930) ⟨[.str ⟨⟨Z::l⟩⟩ t1],[]⟩) pos [] [] N t G
abbrev Tx:dp:=⟨(Tw w σ Z l t1 y fr pos N t G),(.ok (.ret (.str (⟨⟨[39]⟩⟩++y++⟨⟨[39]⟩⟩) ((Tf fr 1)+6)))),⟨[],[],(E7 (Z::l) y (Tf fr 1))⟩,(Nf fr 1),((Tf fr 1)+7)⟩
theorem Tz:(Tx w σ Z l t1 y fr pos N t G).ok (Fb w σ Z l t1 y) pos 0 [] G:=by apply aC w;kernel_rfl
end
end
set_option tactic.hygienic false
noncomputable def fF(x:ZN):Bool:=x.all fun c=>!gG c
theorem nJ{x:ZN}:fF x=true↔jU x:=by
 unfold fF jU;rw[kE];constructor
 .intro h c Z;have:=h c Z;simpa using this
 .intro h c Z;simp[h c Z]
noncomputable def ct(x:ZN):ZN:=if fF x then x else[39]++dk 39 [39,34,39,34,39] x++[39]
theorem zc(x:ZN):(dk 39 [39,34,39,34,39] x).length<=5*x.length:=by
 induction x with
 |nil=>exact aM _
 |cons c x Z=>
  have e:dk 39 [39,34,39,34,39] (c::x)=(if c=39 then[39,34,39,34,39]else[c])++dk 39 [39,34,39,34,39] x:=rfl
  rw[e,cJ,cX];split
  .simp;lia
  .simp;lia
theorem Bc{x:ZN}(h:x≠[]):dk 39 [39,34,39,34,39] x≠[]:=by
 cases x with
 |nil=>exact absurd rfl h
 |cons c x=>
  have e:dk 39 [39,34,39,34,39] (c::x)=(if c=39 then[39,34,39,34,39]else[c])++dk 39 [39,34,39,34,39] x:=rfl
  rw[e];split<;>simp
theorem nK{a b:ZN}(X:a≠[])(Y:b≠[])(h:a.length+b.length<=16777216):aO (vR ⟨⟨a⟩⟩ ⟨⟨b⟩⟩):=by
 have z:∀l:ZN,l≠[]->((⟨⟨l⟩⟩:Str).length==0)=false:=fun l Z=>by
  cases l with
  |nil=>exact absurd rfl Z
  |cons c l=>rfl
 refine aa (z a X) (aa (z b Y) (aa ?_ aj));rw[Str.length_append];exact h
theorem jV(a b:ZN):(⟨⟨a⟩⟩++⟨⟨b⟩⟩:Str)=⟨⟨a++b⟩⟩:=by apply Str.ext';apply gb.mp;simp[Str.cps_append]
noncomputable def Rh(w:ZW)(x:ZN)(t1:Tok):Ct pg w (kp w):=Jq w (.call (.ref 930) ⟨[.str ⟨⟨x⟩⟩ t1],[]⟩) (.kinds kQ) [x≠[]/\x.length<=10000] ⟨⟨ct x⟩⟩
theorem MP(w:ZW)(x:ZN)(t1:Tok):(Rh w x t1).Holds:=by
 by_cases S:x≠[]/\x.length<=10000
 .obtain⟨hx,X⟩:=S;obtain⟨Z,l,rfl⟩:∃Z l,x=Z::l:=by
   cases x with
   |nil=>exact absurd rfl hx
   |cons a b=>exact⟨a,b,rfl⟩
  have big:(⟨⟨Z::l⟩⟩:Str).length<=16777216:=au X (by decide)
  have Y:(Z::l).length<=16777216:=au X (by decide)
  unfold Rh;cases V:fF (Z::l)with
  |true=>
   have e:ct (Z::l)=Z::l:=by unfold ct;rw[V];rfl
   rw[e];exact sX (ks:=kQ) rfl (E8 w zW Z l t1) (tk:=fun fr N t=>t1) (N':=fun fr N t=>N+1) (t':=fun fr N t=>t+3) (ps:=fun fr N t=>Jt (Z::l)) (fun c σ fr pos N t G=>Ts w σ Z l t1 fr pos N t G) (fun c fr N t=>aa ⟨hx,Y,nJ.mp V⟩ (aa big aj))
  |false=>
   have R:¬jU (Z::l):=fun q=>by rw[nJ.mpr q]at V;cases V
   have U:aO (E5 (Z::l)):=aa ⟨hx,Y,R⟩ (aa big aj)
   by_cases W:39∈Z::l
   .have e:(⟨⟨ct (Z::l)⟩⟩:Str)=⟨⟨[39]⟩⟩++⟨⟨dk 39 [39,34,39,34,39] (Z::l)⟩⟩++⟨⟨[39]⟩⟩:=by
     rw[jV,jV];unfold ct;rw[V];rfl
    rw[e];have T:=zc (Z::l)
    refine sX (ks:=kQ) rfl (Fb w zW Z l t1 ⟨⟨dk 39 [39,34,39,34,39] (Z::l)⟩⟩) (tk:=fun fr N t=>Tf fr 1+6) (N':=fun fr N t=>Nf fr 1) (t':=fun fr N t=>Tf fr 1+7) (ps:=fun fr N t=>E7 (Z::l) ⟨⟨dk 39 [39,34,39,34,39] (Z::l)⟩⟩ (Tf fr 1)) (fun c σ fr pos N t G=>Tz w σ Z l t1 _ fr pos N t G) (fun c fr N t=>?_)
    unfold E7;rw[jV];refine cM (nK (by simp) (by simp) (by simp;simp at T X;lia)) (cM (nK (by simp) (Bc (by simp)) (by simp at T X⊢;lia)) (cM (aa ⟨W,rfl⟩ (aa ⟨by simp,by simp,by decide⟩ (aa ⟨au X (by decide),by decide⟩ aj))) U))
   .have e:(⟨⟨ct (Z::l)⟩⟩:Str)=⟨⟨[39]⟩⟩++⟨⟨Z::l⟩⟩++⟨⟨[39]⟩⟩:=by
     rw[jV,jV];unfold ct;rw[V,Bb W];rfl
    rw[e];refine sX (ks:=kQ) rfl (E9 w zW Z l t1) (tk:=fun fr N t=>Tf fr 1+5) (N':=fun fr N t=>Nf fr 1) (t':=fun fr N t=>Tf fr 1+6) (ps:=fun fr N t=>E6 (Z::l)) (fun c σ fr pos N t G=>Tv w σ Z l t1 fr pos N t G) (fun c fr N t=>?_)
    unfold E6;rw[jV];exact cM (nK (by simp) (by simp) (by simp at X⊢;lia)) (cM (nK (by simp) (by simp) (by simp at X⊢;lia)) (cM (aa W aj) U))
 .intro s B pos A;exact absurd A.P.head S
def oQ(w:ZW):aX pg w (kp w):=Ct.ai (fun z:ZN×Tok=>Rh w z.1 z.2) (fun z=>MP w z.1 z.2) (fun a c a a a=>((ag (v0 c)).cps.toList,ao (v0 c))) [] []
set_option tactic.hygienic false
noncomputable abbrev kJ:List K:=[.fo,.wh,.fn,.cl]
def zY:Σ' (F:Bool->ZV->ZV->ZV->ZE),∀a b c,PySem.W.Fast.tw8938917530802602619 a b c=F (PySem.Builtin.List.listSameRef a b) a b c:=by
 refine⟨?F,fun a b c=>?h⟩
 case h=>
  delta PySem.W.Fast.tw8938917530802602619;generalize PySem.Builtin.List.listSameRef a b=Z;exact rfl
theorem uA{a b:Nat}(h:a≠b)(c:ZV):PySem.W.Fast.tw8938917530802602619 (.ref a) (.ref b) c=zY.1 false (.ref a) (.ref b) c:=by
 have e:PySem.Builtin.List.listSameRef (.ref a) (.ref b)=false:=by
  show(decide (a=b))=false
  exact decide_eq_false h
 rw[zY.2,e]
noncomputable def W5:ZL->ZN
 |[]=>[]
 |l::r=>l++32::W5 r
noncomputable def j9:ZL->ZN
 |[]=>[]
 |l::r=>match r with
  |[]=>l
  |_::_=>l++32::j9 r
noncomputable def jc(l:ZN):Str:=⟨⟨l⟩⟩
def Ri(ls:ZL):Sem Fin:=if PySem.Builtin.Str.tooLong (Array.foldl (fun x1 x2=>x1+x2.length+(jc [32]).length) 0 (⟨ls.map jc⟩:Array Str))=true then do
  let _←(PySem.unsupported "str.join:memory":Sem PUnit)
  PySem.W.Fast.tw15973247252070878614 (PySem.W.Fast.tw10206770168876983080 (jc [32]) (ls.map jc))
 else PySem.W.Fast.tw15973247252070878614 (PySem.W.Fast.tw10206770168876983080 (jc [32]) (ls.map jc))
def Rj(ls:ZL):Sem Fin:=.fresh fun k=>.pure (.done (.ret (ar (j9 ls) k)))
theorem zd(r:ZL):∀(a:ZN),(r.map jc).foldl (fun(acc:Array Nat) p=>acc++(jc [32]).cps++p.cps) (⟨a⟩:Array Nat)=⟨j9 (a::r)⟩:=by
 induction r with
 |nil=>intro a;rfl
 |cons l r Z=>
  intro a;have e:((⟨a⟩:Array Nat)++(jc [32]).cps++(jc l).cps)=(⟨a++32::l⟩:Array Nat):=by
   apply gb.mp;simp[jc]
  show(r.map jc).foldl _ ((⟨a⟩:Array Nat)++(jc [32]).cps++(jc l).cps)=_
  rw[e,Z];cases r with
  |nil=>rfl
  |cons m r=>show(⟨(a++32::l)++32::j9 (m::r)⟩:Array Nat)=⟨a++32::(l++32::j9 (m::r))⟩;simp
theorem ze(ls:ZL):PySem.W.Fast.tw10206770168876983080 (jc [32]) (ls.map jc)=⟨⟨j9 ls⟩⟩:=by
 rw[←PySem.W.Fast.te10206770168876983080];unfold PySem.Builtin.Str.glued
 congr 1
 cases ls with
 |nil=>rfl
 |cons l r=>exact zd r l
theorem Be(ls:ZL):∀n:Nat,((ls.map jc).foldl (fun(x1:Nat) (x2:Str)=>x1+x2.length+(jc [32]).length) n)=n+(ls.map fun l=>l.length+1).sum:=by
 induction ls with
 |nil=>intro n;rfl
 |cons l r Z=>
  intro n;show(r.map jc).foldl _ (n+l.length+1)=_
  rw[Z];simp only[List.map_cons,List.sum_cons];lia
theorem Bf(ls:ZL):(j9 ls).length<=(ls.map fun l=>l.length+1).sum:=by
 induction ls with
 |nil=>exact aM _
 |cons l r Z=>
  cases r with
  |nil=>show l.length<=_;simp only[List.map_cons,List.sum_cons];exact b8 l.length 1
  |cons m r=>
   show(l++32::j9 (m::r)).length<=_
   simp only[List.length_append,List.length_cons,List.map_cons,List.sum_cons]at Z⊢;lia
theorem vU(l:ZN)(h:l.length<=100000):PySem.W.Fast.tw15973247252070878614 (⟨⟨l⟩⟩:Str)=.fresh fun k=>.pure (.done (.ret (ar l k))):=by
 delta PySem.W.Fast.tw15973247252070878614 PySem.W.Fast.tw10821573891100952770;have Z:¬(Str.length ⟨⟨l⟩⟩>PySem.sizeLine):=by
  show¬(l.length>2^24);lia
 simp only[if_neg Z];rfl
theorem MQ(ls:ZL)(h:(ls.map fun l=>l.length+1).sum<=100000):Ri ls=Rj ls:=by
 unfold Ri Rj;have Z:=Bf ls
 have e:(Array.foldl (fun x1 x2=>x1+x2.length+(jc [32]).length) 0 (⟨ls.map jc⟩:Array Str))=0+(ls.map fun l=>l.length+1).sum:=by
  rw[←Be ls 0,←Array.foldl_toList]
 rw[e,ze,vU _ (au Z h),if_neg];intro Y;have:decide (0+(ls.map fun l=>l.length+1).sum>2^24)=true:=Y
 have:=of_decide_eq_true this
 lia
section
set_option tactic.hygienic false
abbrev Wd:=ZN×Tok
noncomputable def cj(z:Wd):ZV:=.str ⟨⟨z.1⟩⟩ z.2
noncomputable def r5(z:Wd):ZN:=ct z.1
def Ge(ws:List Wd):Prop:=((ws.map r5).map fun l=>l.length+1).sum<=100000
def Ju(ws:List Wd):Prop:=ws≠[]/\ws.length<=7/\(∀z∈ws,z.1≠[]/\z.1.length<=10000)/\((ws.map r5).map fun l=>l.length+1).sum<=100000
noncomputable def Rl(w:ZW)(ws:List Wd)(Z ep:Nat)(c:Option Addr):Ct pg w (kp w):=⟨.call (.ref 922) ⟨[.ref Z],[]⟩,[(Z,ae (ws.map cj) ep),(917,gw c)],.kinds kJ,[],[Ju ws],fun g=>.ok (.ret (ar (j9 (ws.map r5)) (g.getD 0 0))),fun g=>[ae (ws.map cj) ep,gw (some (g.getD 1 0))],fun a=>[],fun a=>[],1⟩
section
universe u
variable{α:Type}{β:Type u}
def Rm(α:Type)(β:Type u):Nat->(List α->Prop)->Type u
 |0,P=>P []->β
 |n+1,P=>(P []->β)×((a:α)->Rm α β n fun l=>P (a::l))
def dF:(n:Nat)->(P:List α->Prop)->((l:List α)->P l->β)->Rm α β n P
 |0,_,f=>f []
 |n+1,P,f=>(f [],fun a=>dF n (fun l=>P (a::l)) fun l=>f (a::l))
def dG:(n:Nat)->(P:List α->Prop)->((l:List α)->P l->β)->Rm α β n P
 |0,_,f=>f []
 |n+1,P,f=>(f [],fun a=>dG n (fun l=>P (a::l)) fun l=>f (a::l))
theorem TA{n:Nat}:∀{P:List α->Prop} {f g:(l:List α)->P l->β},dF n P f=dG n P g->∀(l:List α)(h:P l),l.length<=n->f l h=g l h:=by
 induction n with
 |zero=>
  intro P f g e l h Z;cases l with
  |nil=>exact congrFun e h
  |cons=>exact absurd Z (Nat.not_succ_le_zero _)
 |succ n Y=>
  intro P f g e l h Z;cases l with
  |nil=>exact congrFun (congrArg (·.1) e) h
  |cons a l=>exact Y (f:=fun l=>f (a::l)) (congrFun (congrArg (·.2) e) a) l h (jE Z)
theorem W6{n:Nat}{P:List α->Prop}{f g:(l:List α)->P l->β}{l:List α}{h:P l}(Z:l.length<=n)(e:dF n P f=dG n P g):f l h=g l h:=TA e l h Z
end
section
variable(w:ZW)
def U8(k:Nat):ZH w:=jn [[(2,.ai (oQ w))],[(2,.gn 0)],dh 6 k,[(0,.gn 0)],[(2,.gn 0)]]
def U9(Z k3:Nat):List Wd->ZH w
 |[]=>[]
 |_::zs=>jn [dh 10 k3,U8 w Z,U9 Z k3 zs]
def W7(z:Wd):(zs:List Wd)->Ge (z::zs)->ZH w
 |[],_=>[(3,.fin)]
 |y::zs,Z=>[(0,.eq (fun a=>(Ri ((z::y::zs).map r5),Rj ((z::y::zs).map r5))) (fun a=>MQ _ Z)),(3,.fin)]
def Va(n S M T X Y Z k3 U V:Nat)(z:Wd)(zs:List Wd)(R:Ge (z::zs)):ZH w:=jn [dh n S,[(3,.eq (fun a=>(PySem.W.Fast.tw8938917530802602619 (.ref (M+1)) (.ref M) (.ref (M+1)),zY.1 false (.ref (M+1)) (.ref M) (.ref (M+1)))) (fun a=>uA (Nat.succ_ne_self M) _))],dh 16 T,[(0,.gn 0)],[(2,.gn 0)],h2 w (dh 14 X) (dh 10 Y),U8 w Z,U9 w Z k3 zs,dh 8 U,[(0,.gn 0)],dh 2 V,W7 w z zs R]
def hJ(N:Nat)(c:Option Addr)(z:Wd)(zs:List Wd)(Z:Ge (z::zs)):ZH w:=match c with
 |none=>Va w 18 0x100210021000100010070f000e0502000300020802030603000200000001040905000405 (N+6) 0x1001100110011200130012001200130012011000100010021002100010001000 0xe040f000e0507000600000006000601060106020602060206000603 0xe040f000e050700060000000600060106010603 0x100110011001120013001201 0xe040f000e050700060000000600060106010602 0x16040700060100000600060106010602 0x12011a04 z zs Z
 |some _=>Va w 15 0xa020a020a000a000a070900080502030603000200000001040905000405 (N+3) 0xa010a010a010c000d000c000c000d000c010a000a000a020a020a000a000a00 0x8040900080507000600000006000601060106020602060206000603 0x804090008050700060000000600060106010603 0xa010a010a010c000d000c01 0x804090008050700060000000600060106010602 0x10040700060100000600060106010602 0xc011404 z zs Z
end
noncomputable def Ro(fr:ZL):List Wd->Tok
 |[]=>Gf fr 0 0
 |_::zs=>Tf fr (zs.length+1)
noncomputable def Vb(fr:ZL):List Wd->Tok
 |[]=>Tf fr 0
 |_::zs=>Tf fr (zs.length+1)+1
noncomputable def jC(N:Nat):Option Addr->Addr
 |none=>N+4
 |some a=>a
section
variable(w:ZW)(σ:Nat->Sk)(Z ep:Nat)(c:Option Addr)(z:Wd)(zs:List Wd)(Y:Ge (z::zs))(fr:ZL)(pos:Pos)(N t:Nat)(G:ZG)
def Vc:ay:=aq ⟨pg,w,kp w,Wk σ kJ,none⟩ (hJ w N c z zs Y) fr (.call (.ref 922) ⟨[.ref Z],[]⟩) pos [(Z,ae ((z::zs).map cj) ep),(917,gw c)] [] N t G
theorem W8(X:zs.length<=6):iq 2 [] (Vc w σ Z ep c z zs Y fr pos N t G) (.ok (.ret (ar (j9 ((z::zs).map r5)) (Ro fr zs)))) [(Z,ae ((z::zs).map cj) ep),(917,gw (some (jC N c)))] [] (Nf fr zs.length+4) (Vb fr zs) G 1 ((z::zs).reverse.map fun z=>z.1≠[]/\z.1.length<=10000) []:=by
 apply W6 (P:=fun zs=>Ge (z::zs)) (h:=Y) X
 apply cm c;apply h9 w;kernel_rfl
end
theorem MR(w:ZW)(ws:List Wd)(Z ep:Nat)(c:Option Addr):(Rl w ws Z ep c).Holds:=by
 by_cases h:Ju ws
 .cases ws with
  |nil=>exact absurd rfl h.1
  |cons z zs=>
   obtain⟨-,W,hq,Y⟩:=h;exact Ct.rP (Rl w (z::zs) Z ep c) (ks:=kJ) rfl rfl (fun N t=>hJ w N c z zs Y) [] (r:=fun fr N t=>.ok (.ret (ar (j9 ((z::zs).map r5)) (Ro fr zs)))) (post:=fun fr N t=>[ae ((z::zs).map cj) ep,gw (some (jC N c))]) (new:=fun a a a=>[]) (dn:=fun a a a=>[]) (N':=fun fr N t=>Nf fr zs.length+4) (t':=fun fr N t=>Vb fr zs) (ps:=fun a a a=>(z::zs).reverse.map fun z=>z.1≠[]/\z.1.length<=10000)
    (fun σ fr pos N t G=>by
     have e:=W8 w σ Z ep c z zs Y fr pos N t G (jE W)
     unfold Vc at e;exact e) (fun a a a a p hp=>by
     obtain⟨y,X,rfl⟩:=aZ.mp hp;exact hq y (List.mem_reverse.mp X)) (fun fr N t=>⟨[Ro fr zs,jC N c],rfl,rfl,rfl,rfl⟩) (fun a a a=>rfl) (fun a a a=>rfl) rfl rfl
 .intro s B pos A;exact absurd A.P.head h
def oJ(w:ZW)(ws:List Wd)(Y:Option Addr)(Z X:Nat):aX pg w (kp w):=Ct.ai (fun z:Nat×Nat=>Rl w ws z.1 z.2 Y) (fun z=>MR w ws z.1 z.2 Y) (fun a c a a T=>(af (v0 c),eU (ab T Z))) [Z,X] []
end
end
section
open PySem.F
section
set_option tactic.hygienic false
theorem b4.Gg(v:b4)(t n:Nat)(Z:Tok):(v.xD t n Z).sn=v.sn/\(v.xD t n Z).st=v.st/\(v.xD t n Z).b=v.b/\∃tk,(v.xD t n Z).q=some (tk,n,Z):=by obtain⟨b,q,ep,st,X,V,sn,W,Y⟩:=v;rcases q with _|⟨tk,_,_⟩<;>exact⟨rfl,rfl,rfl,_,rfl⟩
theorem xJ{p:Nat->Nat}{i:Nat}(h:i<4):p i∈p4 p:=by exact zA (P:=fun i=>p i∈p4 p) h (.head _) (.tail _ (.head _)) (.tail _ (.tail _ (.head _))) (.tail _ (.tail _ (.tail _ (.head _))))
section
variable(c:a6)(Z:Nat)(x:NS)(p:Nat->Nat)(o:Ah)(E:List Bk)(bg:List aQ)(Y:Nat->ZN)(hx:∀u∈p4 p,bW (x.sc u) (Y u))(hp:∀u∈p4 p,u<4)(X:∀u∈p4 p,∀w∈Y u,w∈p4 p)
include hx hp X
theorem Gh[ZI]{Q:ZR}(O:c.D=Z+2)(B:aS)(b:Bt c.W1 none B)(K1:∀N U F,U.b=true->U.st=[]->Inv Y (bT U.sn) [] none->(∀j,j<4->bT U.sn (p j)=true)->Hq c.w N (c.bk x p o (.o c.KI F::E) U []) bg->Q (.ok .next) N)(K2:∀N a W U P F,W≠[]->W.length<=5->Ring Y->Hq c.w N (.o a (ae W 0)::c.bk x p o (.o c.KI F::E) U P) bg->Q (.ok (.ret (.ref a))) N):∀(k i:Nat),i+k=4->∀(s:ZS)(v:b4)(pos:Pos),v.st=[]->Inv Y (bT v.sn) [] none->(∀j,j<i->bT v.sn (p j)=true)->(i=0->bT v.sn (p 0)=false)->(i≠0->v.b=true)->Hq c.w s (c.bk x p o (.o c.KI (xC c.D i 4)::E) v []) bg->Rn c.w B s c.qh pos Q:=by
 intro k;induction k with
 |zero=>
  intro i J s v pos R inv I h0 z H;obtain rfl:i=4:=J;exact hF [0,1,2,3,4,5,10] b H (fun fr=>S7 c (d4 x p) v fr pos (zN s) s.toks s.gens Z O:) (fun d=>rfl) (fun d=>aj) fun fr s1 H1=>K1 s1 v U4 (z (by decide)) R inv I (H1.p [0,1,2,3,4,5,7,8,9,10,6] 11)
 |succ k g=>
  intro i J s v pos R inv I h0 z H;have T:i<4:=lA J
  have hn:=xJ (p:=p) T
  have L:=hp _ hn
  obtain⟨M,l,G,tk,f⟩:=v.Gg s.toks (p i) (x.tv (p i));have C:∀{q:Nat->Bool},(∀j,j<i->q (p j)=true)->q (p i)=true->∀j,j<i+1->q (p j)=true:=fun h1 h2 j K=>by
   by_cases e:j=i
   .rw [e];exact h2
   .exact h1 j (Nat.lt_of_le_of_ne (cY K) e)
  cases V:bT v.sn (p i)with
  |true=>
   have A:i≠0:=fun e=>by subst e;rw[h0 rfl]at V;cases V
   exact hT [0,1,2,3,4,5,10] b H (fun fr=>S6 c (d4 x p) i T v fr pos (zN s) s.toks s.gens Z O:) (fun d=>rfl) (fun d=>fV v.sn L V) fun fr s1 H1=>
    g (i+1) (lB J) s1 (v.xD s.toks (p i) (x.tv (p i))) _ (l.trans R) (by rw[M];exact inv) (by rw[M];exact C I V) (fun e=>nomatch e) (fun d=>by rw[G];exact z A) (H1.p [0,1,2,3,4,5,7,8,9,10,6] 11 (by unfold a6.bk;rw[G];kernel_rfl))
  |false=>
   refine hS [0,1,2,3,4,5,10] b H (fun fr=>S5 c (d4 x p) i T v fr pos (zN s) s.toks s.gens Z O:) (fun d=>rfl) (fun d=>fV v.sn L V) fun fr s1 H1 B1 b1=>?_
   refine zb c Z x p o (.o c.KI (xC c.D (i+1) 4)::E) bg Y hx hp X O (fun u=>∃j,j<i+1/\u=p j) tk B1 b1 (fun s2 U r t y c4 m=>?_) (fun s2 a W U P r t y m=>?_) _ [] s1 (v.xD s.toks (p i) (x.tv (p i))) _ (p i) _ (Nat.lt_succ_self _) (b9 _) (fun d h=>nomatch h) f hn (by rw[M];exact⟨inv.nd,inv.sub,inv.lt,trivial,inv.rank⟩) (by rw[l,R];rfl) (.inr (.inr (by rw[M];exact V)))
    (by
     rintro u ⟨j,K,rfl⟩
     by_cases e:j=i
     .exact .inl (by rw[e])
     .rw [M];exact .inr (I j (Nat.lt_of_le_of_ne (cY K) e))) (H1.p [0,1,2,3,4,5,7,8,9,10,6] 11 (by unfold a6.bk;rw[G];kernel_rfl))
   .exact Cp [] b m (fun S=>ME c (d4 x p) i T v fr S pos (zN s) s.toks s.gens (zN s2) s2.toks s2.gens Z O:) (fun d=>rfl) (fun d=>aj) fun S s3 n=>g (i+1) (lB J) s3 U _ t y (fun j K=>c4 _ ⟨j,K,rfl⟩) (fun e=>nomatch e) (fun d=>r) n
   .exact Ae [] b m (fun S=>MF c (d4 x p) i T v fr S pos (zN s) s.toks s.gens (.ref a) (zN s2) s2.toks s2.gens Z O:) (fun d=>rfl) (fun d=>aj) fun S s3 n=>K2 s3 a W U P _ r t y n
end
theorem MS(c:a6)(s:ZT)(P:Addr)(V:ZV)(Q R S T:IE)(X:Nat)(fr Y:ZL)(pos:Pos)(N t:Nat)(G:ZG)(N' t':Nat)(W:ZG)(Z:Nat)(U:c.D=Z+2):iq 0 [] (rY c.w c.W0 (jn [[(1,.fin)]]) (c.oS s P V [Q,R,S,T] X fr pos N t G) (.ok .next) Y [] N' t' W) (.ok (.ret .none)) [] [] N' t' W 0 [] []:=by apply rX U;kernel_rfl
theorem MT(c:a6)(s:ZT)(P:Addr)(V:ZV)(Q R S T:IE)(X:Nat)(x:ZV)(fr Y:ZL)(pos:Pos)(N t:Nat)(G:ZG)(N' t':Nat)(W:ZG)(Z:Nat)(U:c.D=Z+2):iq 0 [] (rY c.w c.W0 (jn [[(0,.fin)]]) (c.oS s P V [Q,R,S,T] X fr pos N t G) (.ok (.ret x)) Y [] N' t' W) (.ok (.ret x)) [] [] N' t' W 0 [] []:=by apply rX U;kernel_rfl
noncomputable def a6.Jv(c:a6)(x:Sx.NS)(p:Nat->Nat)(o:Ah)(E:List Bk)(s:ZT)(Z:Addr)(Y:ZV)(b:Bool):List Bk:=.o c.S (cp Z)::.o Z (cn c.w.params s c.D Y 0 0)::.o c.D (a9 (d4 x p).l 4)::(sg (c.out b o.d1 o.d2 o.n1 o.n2)++.l (aT x (p4 p))::E)
theorem mB[ZI]{Q:ZR}(c:a6)(Y:Nat)(x:NS)(p:Nat->Nat)(o:Ah)(E:List Bk)(bg:List aQ)(U:Nat->ZN)(hx:∀u∈p4 p,bW (x.sc u) (U u))(hp:∀u∈p4 p,u<4)(M:∀u∈p4 p,∀w∈U u,w∈p4 p)(P:c.D=Y+2)(s:ZT)(W:Addr)(V:ZV)(B:aS)(st:ZS)(pos:Pos)(b:Bt c.W0 none B)(m:∀T,(∃R:Nat->Nat,∀u∈p4 p,∀w∈U u,R w<R u)->Hq c.w T (c.Jv x p o E s W V true) bg->Q (.ok (.ret .none)) T)(n:∀T a Z r,Z≠[]->Z.length<=5->Ring U->Hq c.w T (.o a (ae Z 0)::c.Jv x p o E s W V r) bg->Q (.ok (.ret (.ref a))) T)(H:Hq c.w st (c.Jv x p o E s W V false) bg):Rn c.w B st (.call (.ref 201) ⟨[.ref c.S],[]⟩) pos Q:=by
 let N:=c.new st.heap.objs.size st.toks
 refine hS [0,1,2] b H (fun fr=>S3 c s W V ((p 0:Nat),x.tv (p 0),.ref (x.ia (p 0))) ((p 1:Nat),x.tv (p 1),.ref (x.ia (p 1))) ((p 2:Nat),x.tv (p 2),.ref (x.ia (p 2))) ((p 3:Nat),x.tv (p 3),.ref (x.ia (p 3))) 4 fr pos (zN st) st.toks st.gens Y P:) (fun d=>rfl) (fun d=>aj) fun fr s1 H1 l q=>?_
 refine Gh N Y x p o (.o c.S (cp W)::.o W (cn c.w.params s c.D V 0 0)::E) bg U hx hp M P l q (fun s2 G z K C L O I=>?_) (fun s2 a Z G A z K C t I=>?_) 4 0 rfl s1 Jl _ rfl ⟨cW,fun d h=>(nomatch h),fun u h=>(nomatch h),trivial,fun d=>0,fun u h=>(nomatch h.1)⟩ (fun j h=>absurd h (p5 _)) (fun d=>rfl) (fun h=>absurd rfl h)
  (Hq.p (cs:=N.bk x p o (.o N.KI (xC N.D (0:Nat) 4)::.o c.S (cp W)::.o W (cn c.w.params s c.D V 0 0)::E) Jl []) H1 [3,2,4,5,6,7,9,10,11,8,0,1] 12)
 .refine Ae [] b I (fun X=>MS c s W V ((p 0:Nat),x.tv (p 0),.ref (x.ia (p 0))) ((p 1:Nat),x.tv (p 1),.ref (x.ia (p 1))) ((p 2:Nat),x.tv (p 2),.ref (x.ia (p 2))) ((p 3:Nat),x.tv (p 3),.ref (x.ia (p 3))) 4 fr X pos (zN st) st.toks st.gens (zN s2) s2.toks s2.gens Y P:) (fun d=>rfl) (fun d=>aj) fun X s3 J=>m s3 ?_ (J.p [11,12,1,7,8,9] 13 (by unfold a6.bk;rw[K];kernel_rfl))
  obtain⟨R,v⟩:=L.rank;refine⟨R,fun u F w y=>(v u ⟨?_,fun h=>nomatch h⟩ w y).2⟩
  simp only[p4,List.mem_cons,List.mem_nil_iff,or_false]at F;rcases F with rfl|rfl|rfl|rfl
  .exact O 0 (by decide)
  .exact O 1 (by decide)
  .exact O 2 (by decide)
  .exact O 3 (by decide)
 .exact Ae [] b I (fun X=>MT c s W V ((p 0:Nat),x.tv (p 0),.ref (x.ia (p 0))) ((p 1:Nat),x.tv (p 1),.ref (x.ia (p 1))) ((p 2:Nat),x.tv (p 2),.ref (x.ia (p 2))) ((p 3:Nat),x.tv (p 3),.ref (x.ia (p 3))) 4 (.ref a) fr X pos (zN st) st.toks st.gens (zN s2) s2.toks s2.gens Y P:) (fun d=>rfl) (fun d=>aj) fun X s3 J=>n s3 a Z G.b K C t (J.p [0,12,13,2,8,9,10] 14)
end
section
set_option tactic.hygienic false
def cA(w:ZW)(W X Y Z:Addr)(p:Pos):ZC:=[(.func (aH (jJ w.params)) (bz w W X Y Z),p),(.builtin "claim.caller" ⟨[],[]⟩,⟨0,0,0,0⟩)]
def fG(w:ZW)(Z:Addr):Env:=eB 166 (kO w.params) Z []
def Cx(w:ZW)(Z:Addr)(p:Pos):Code×Pos:=(.func (aH (kO w.params)) (fG w Z),p)
def Vd(w:ZW):PySem.Expr:=Ac ((aH (kO w.params)).getD 1 default)
def Aj(w:ZW)(Z Y AC L:Addr):Code:=.compLoop (Vd w) 0 (.ref Y) (.ref AC) (Cg (Vd w) L (fG w Z))
noncomputable def sY(D:Addr)(i:Nat):Obj:=⟨.type "dict_valueiterator",none,.fields #[.ref D,.int i 0,.int 4 0,.int 4 0],#[]⟩
noncomputable def Jw:Obj:=⟨.type "dict_valueiterator",none,.fields #[.none,.int 4 0,.int 4 0,.int 4 0],#[]⟩
noncomputable def vV(P:Params)(i:Nat)(tk:Tok)(a:Addr):Obj:=match i with
 |0=>gj [] 0
 |_+1=>gj [dE P [105] tk (.ref a)] 1
noncomputable def Jx(i:Nat)(t tk:Tok):Tok:=match i with
 |0=>t
 |_+1=>tk
section
variable(w:ZW)(Q R S T X Y AC L Z:Nat)(d:D4)(i:Nat)(acc:ZY)(ep:Nat)(tk:Tok)(a U J:Addr)(v:Int)(W V:Tok)(m:Nat)(fr:ZL)(pos:Pos)(N t:Nat)(G:ZG)
def Cy:ZH w:=jn [dz 0x10f0304c58ec50e113415150715ec,[(1,.tail)]]
abbrev MU:c7:=⟨(aq (V0 w (Cx w X ⟨139,45,139,69⟩::cA w Q R S T ⟨997,8,997,24⟩)) (Cy w) fr (Aj w X Y AC L) pos [(Y,sY (Z+2) i),(AC,ae acc ep),(L,vV w.params i tk a),((Z+2),a9 d.l 4),((d.a i),c8 U v W 0 V J)] [] N t G),(Aj w X Y AC L),⟨139,29,139,35⟩,⟨[(Y,sY (Z+2) (i+1)),(AC,ae (acc.concat (.int v W)) (ep+1)),(L,vV w.params (i+1) (Jx i t tk) (d.a i)),((Z+2),a9 d.l 4),((d.a i),c8 U v W 0 V J)],[],[]⟩,N,(t+4)⟩
theorem MV(O:i<4)(P:acc.length<=i):(MU w Q R S T X Y AC L Z d i acc ep tk a U J v W V fr pos N t G).ok (Cy w) pos 5 [] G:=by (match i,O with|0,_=>(apply c5 P;apply aC w;kernel_rfl)|1,_=>(apply c5 P;apply aC w;kernel_rfl)|2,_=>(apply c5 P;apply aC w;kernel_rfl)|3,_=>(apply c5 P;apply aC w;kernel_rfl))
def Cz:ZH w:=jn [dz 0xc50e113415150715ec,[(8,.tail)]]
abbrev MW:c7:=⟨(aq (V0 w (Cx w X ⟨139,45,139,69⟩::cA w Q R S T ⟨997,8,997,24⟩)) (Cz w) fr (Aj w X Y AC L) pos [(Y,sY (Z+2) i),(AC,ae acc ep),(L,vV w.params i tk a),((Z+2),a9 d.l 4),((d.a i),c8 U v W (Int.ofNat (m+1)) V J)] [] N t G),(Aj w X Y AC L),⟨139,73,139,93⟩,⟨[(Y,sY (Z+2) (i+1)),(AC,ae acc ep),(L,vV w.params (i+1) (Jx i t tk) (d.a i)),((Z+2),a9 d.l 4),((d.a i),c8 U v W (Int.ofNat (m+1)) V J)],[],[]⟩,N,(t+3)⟩
theorem MX(O:i<4)(P:acc.length<=i):(MW w Q R S T X Y AC L Z d i acc ep tk a U J v W V m fr pos N t G).ok (Cz w) pos 5 [] G:=by (match i,O with|0,_=>(apply c5 P;apply aC w;kernel_rfl)|1,_=>(apply c5 P;apply aC w;kernel_rfl)|2,_=>(apply c5 P;apply aC w;kernel_rfl)|3,_=>(apply c5 P;apply aC w;kernel_rfl))
def CA:ZH w:=jn [dz 0x5207ec,[(0,.fin)]]
abbrev MY:dp:=⟨(aq (V0 w (Cx w X ⟨139,45,139,69⟩::cA w Q R S T ⟨997,8,997,24⟩)) (CA w) fr (Aj w X Y AC L) pos [(Y,sY (Z+2) 4),(AC,ae acc ep),(L,vV w.params 4 tk a),((Z+2),a9 d.l 4)] [] N t G),(.ok .next),⟨[(Y,Jw),(AC,ae acc ep),(L,vV w.params 4 tk a),((Z+2),a9 d.l 4)],[],[]⟩,(N+2),t⟩
theorem MZ:(MY w Q R S T X Y AC L Z d acc ep tk a fr pos N t G).ok (CA w) pos 4 [] G:=by apply aC w;kernel_rfl
end
end
section
set_option tactic.hygienic false
section
variable(w:ZW)(P Q R T S U Z:Nat)(s:ZT)(d:D4)(tk:Tok)(a:Addr)(V:ZL)(X:Pos)(Y W:Nat)(O:ZG)(fr:ZL)(pos:Pos)(N t:Nat)(G:ZG)
def CB:ZH w:=h2 w (jn [dz 0x2626174b26cc1621142d02190bcc19e637,[(0,.stop)]]) (jn [dz 0x26cc1621142d02190bcc19e637,[(4,.stop)]])
def CC:ay:=aq ⟨pg,w,kp w,cA w P Q R T ⟨997,8,997,24⟩,none⟩ (CB w) fr (.call (.ref 166) ⟨[(.ref S)],[]⟩) pos [(S,cp U),(U,cn w.params s (Z+2) .none 0 0),((Z+2),a9 d.l 4)] [] N t G
abbrev M0:dK:=⟨(CC w P Q R T S U Z s d fr pos N t G),(Aj w N (N+2) (N+3) (N+4)),⟨[(S,cp U),(U,cn w.params s (Z+2) .none 0 0),((Z+2),a9 d.l 4)],[(N,fx [dE w.params [115,101,108,102] t (.ref S)] 1),((N+2),⟨(.type "dict_valueiterator"),none,(.fields ⟨[(.ref (Z+2)),(.int 0 0),(.int 4 0),(.int 4 0)]⟩),⟨[]⟩⟩),((N+3),⟨(.type "list"),none,(.seq ⟨[]⟩ 0),⟨[]⟩⟩),((N+4),⟨(.type "dict"),none,(.dict ⟨[]⟩ 0),⟨[]⟩⟩)],[]⟩,(N+5),(t+3)⟩
theorem M1:(M0 w P Q R T S U Z s d fr pos N t G).ok ⟨pg,w,kp w,cA w P Q R T ⟨997,8,997,24⟩,none⟩ (CB w) pos (Cx w N ⟨139,45,139,69⟩::cA w P Q R T ⟨997,8,997,24⟩) 3 [3,5,6,7] G:=by apply h9 w;kernel_rfl
def CD:ZH w:=jn [dz 0xf71f010f040cd713090e281a08,[(3,.stop)]]
def sZ:ay:=bo ⟨pg,w,kp w,cA w P Q R T ⟨997,8,997,24⟩,none⟩ (CD w) fr (CC w P Q R T S U Z s d V X Y W O) (.ok .next) [(S,cp U),(U,cn w.params s (Z+2) .none 0 0),(Y,fx [dE w.params [115,101,108,102] W (.ref S)] 1),((Y+4),vV w.params 4 tk a)] [] N t G
abbrev M3:dK:=⟨(sZ w P Q R T S U Z s d tk a V X Y W O fr N t G),(.call (.ref 201) ⟨[(.ref S)],[]⟩),⟨[(S,cp U),(U,cn w.params s (Z+2) (.ref (Y+3)) 0 0),(Y,fx [dE w.params [115,101,108,102] W (.ref S)] 1),((Y+4),gj [] 2)],[],[]⟩,N,(t+2)⟩
theorem M4:(M3 w P Q R T S U Z s d tk a V X Y W O fr N t G).ok ⟨pg,w,kp w,cA w P Q R T ⟨997,8,997,24⟩,none⟩ (CD w) ⟨0,0,0,0⟩ (Cx w Y ⟨140,16,140,34⟩::cA w P Q R T ⟨997,8,997,24⟩) 4 [] G:=by apply h9 w;kernel_rfl
end
noncomputable def TB(Z:Addr):Bool->Array (Option ZV)
 |false=>#[]
 |true=>#[some (.ref 165),some (.ref 3),none,some (.ref Z),none,some (.ref 166),some (.ref 0)]
noncomputable def lx(Z Y X:Addr):Bool->Array (Option ZV)
 |false=>#[]
 |true=>#[some (.ref 960),some (.ref 3),none,some .notImplemented,none,some (.ref 961),some (.ref 0),some (.ref Z),some (.ref Y),some (.ref X)]
noncomputable def CE(P:Params)(Y:Addr)(Z:Tok)(S:Addr)(q:Option (Tok×ZV))(b:Bool):Obj:=nD ⟨dE P [115,101,108,102] Z (.ref S)::(match q with|none=>[]|some (t,v)=>[dE P [99,121,99,108,101] t v])⟩ (match q with|none=>1|some _=>2) (TB Y b)
section
variable(w:ZW)(O K L M S J P:Nat)(s:ZT)(d:D4)(tk:Tok)(a:Addr)(V:ZL)(Z:Pos)(X Y:Nat)(Q:ZG)(W:ZL)(T U:Nat)(R:ZG)(fr:ZL)(N t:Nat)(G:ZG)
def CF:ZH w:=jn [dz 0xc9,[(1,.fin)]]
def M5:ay:=bo ⟨pg,w,kp w,cA w O K L M ⟨997,8,997,24⟩,none⟩ (CF w) fr (sZ w O K L M S J P s d tk a V Z X Y Q W T U R) (.ok (.ret .none)) [(X,CE w.params O Y S none true)] [] N t G
abbrev M6:dp:=⟨(M5 w O K L M S J P s d tk a V Z X Y Q W T U R fr N t G),(.ok (.ret .none)),⟨[(X,CE w.params O Y S (some (t,.none)) true)],[],[]⟩,N,(t+1)⟩
theorem M7:(M6 w O K L M S J P s d tk a V Z X Y Q W T U R fr N t G).ok (CF w) ⟨0,0,0,0⟩ 1 [] G:=by apply h9 w;kernel_rfl
end
theorem Jy(w:ZW)(V W X Y Z:Addr)(e:ZV):Lk ((.func (aH (kO w.params)) (fG w Z),⟨142,12,142,60⟩)::cA w V W X Y ⟨997,8,997,24⟩) (p9 e (fG w Z)) (jN true [fG w Z,bz w V W X Y] (fa ⟨142,12,142,60⟩ ["claim.caller"]) e (fG w Z)):=ui rfl rfl rfl rfl rfl e
section
variable(w:ZW)(V P Q R S E J:Nat)(s:ZT)(d:D4)(tk:Tok)(a Y:Addr)(x:ZV)(I:ZY)(F:List DictEntry)(H:Nat)(T:ZL)(W:Pos)(Z X:Nat)(K:ZG)(U:ZL)(M O:Nat)(L:ZG)(fr:ZL)(N t:Nat)(G:ZG)
def CG:ZH w:=jn [dz 0x16e1146c3b1438162d16762403c00103c9,[(1,.lk _ (fun a=>(p9 (.ref (N+1)) (fG w Z),jN true [fG w Z,bz w V P Q R] (fa ⟨142,12,142,60⟩ ["claim.caller"]) (.ref (N+1)) (fG w Z))) (fun a=>Jy w V P Q R Z (.ref (N+1))))],dz 0x2512143b16110b071514,[(0,.fin)]]
abbrev M8:dp:=⟨(bo ⟨pg,w,kp w,cA w V P Q R ⟨997,8,997,24⟩,none⟩ (CG w V P Q R Z N) fr (sZ w V P Q R S E J s d tk a T W Z X K U M O L) (.ok (.ret (.ref Y))) [(Z,CE w.params V X S none false),(Y,ae (x::I) 0),(V,nD ⟨F⟩ H (lx R Q P false))] [] N t G),(.error (.ref (N+1))),⟨[(Z,CE w.params V X S (some (t,.ref Y)) true),(Y,ae (x::I) 0),(V,nD ⟨F⟩ H (lx R Q P true))],[((N+1),⟨(.ref 129),none,(.fields ⟨[(.ref (N+2)),(.ref (N+3)),.none,.none,(.bool false),.none]⟩),⟨[]⟩⟩),((N+2),⟨(.type "tuple"),none,(.seq ⟨[(ar [110,111,100,101,115,32,97,114,101,32,105,110,32,97,32,99,121,99,108,101] (t+3)),(.ref Y)]⟩ 0),⟨[]⟩⟩),((N+3),⟨(.type "traceback"),none,(.fields ⟨[.none,(.ref Z),.none,.none,.none,(.int 142 0),(.int 142 0),(.int 12 0),(.int 60 0),(ar Fx 0),(.bool false)]⟩),⟨[]⟩⟩)],[]⟩,(N+4),(t+4)⟩
theorem M9(D:I.length<=4):(M8 w V P Q R S E J s d tk a Y x I F H T W Z X K U M O L fr N t G).ok (CG w V P Q R Z N) ⟨0,0,0,0⟩ 3 [4,5,6] G:=by apply c5 D;apply h9 w;kernel_rfl
def xK:ZH w:=jn [dz 0x16e1146c3b1438162d16762403c00103c9,[(1,.lk _ (fun a=>(p9 (.ref (N+1)) (fG w Z),jN true [fG w Z,bz w V P Q R] (fa ⟨142,12,142,60⟩ ["claim.caller"]) (.ref (N+1)) (fG w Z))) (fun a=>Jy w V P Q R Z (.ref (N+1))))],dz 0x2512143b161514,[(0,.fin)]]
abbrev Gi:dp:=⟨(bo ⟨pg,w,kp w,cA w V P Q R ⟨997,8,997,24⟩,none⟩ (xK w V P Q R Z N) fr (sZ w V P Q R S E J s d tk a T W Z X K U M O L) (.ok (.ret (.ref Y))) [(Z,CE w.params V X S none true),(Y,ae (x::I) 0),(V,nD ⟨F⟩ H (lx R Q P true))] [] N t G),(.error (.ref (N+1))),⟨[(Z,CE w.params V X S (some (t,.ref Y)) true),(Y,ae (x::I) 0),(V,nD ⟨F⟩ H (lx R Q P true))],[((N+1),⟨(.ref 129),none,(.fields ⟨[(.ref (N+2)),(.ref (N+3)),.none,.none,(.bool false),.none]⟩),⟨[]⟩⟩),((N+2),⟨(.type "tuple"),none,(.seq ⟨[(ar [110,111,100,101,115,32,97,114,101,32,105,110,32,97,32,99,121,99,108,101] (t+3)),(.ref Y)]⟩ 0),⟨[]⟩⟩),((N+3),⟨(.type "traceback"),none,(.fields ⟨[.none,(.ref Z),.none,.none,.none,(.int 142 0),(.int 142 0),(.int 12 0),(.int 60 0),(ar Fx 0),(.bool false)]⟩),⟨[]⟩⟩)],[]⟩,(N+4),(t+4)⟩
theorem Gj(D:I.length<=4):(Gi w V P Q R S E J s d tk a Y x I F H T W Z X K U M O L fr N t G).ok (xK w V P Q R Z N) ⟨0,0,0,0⟩ 3 [4,5,6] G:=by apply c5 D;apply h9 w;kernel_rfl
end
end
section
set_option tactic.hygienic false
def zr(x:Sx.NS)(l:ZN):ZY:=(l.filter fun v=>x.np v==0).map fun(v:Nat)=>.int v (x.tv v)
theorem Na(p:Nat->Nat){i:Nat}(h:i<4):(p4 p).take (i+1)=(p4 p).take i++[p i]:=by exact zA (P:=fun i=>(p4 p).take (i+1)=(p4 p).take i++[p i]) h rfl rfl rfl rfl
theorem xM(x:Sx.NS)(p:Nat->Nat)(i:Nat):(zr x ((p4 p).take i)).length<=i:=by unfold zr;rw[aB];exact au (kK _ _) (sD _ _)
section
variable(w:ZW)(U V W X Z:Nat)(x:Sx.NS)(p:Nat->Nat)(E:List Bk)(bg:List aQ)(Y:∀u∈p4 p,0<=x.np u)
include Y in
theorem Bg[ZI]{Q:ZR}(S SD:Addr)(PF IT AC L:Addr)(B:aS)(b:Bt (Cx w PF ⟨139,45,139,69⟩::cA w U V W X ⟨997,8,997,24⟩) none B)(K:∀s' tk a ep,Hq w s' ([.o IT Jw,.o AC (ae (zr x (p4 p)) ep),.o L (vV w.params 4 tk a),.o (Z+2) (a9 (d4 x p).l 4),.l (aT x (p4 p))]++E) bg->Q (.ok .next) s'):∀(k i:Nat),i+k=4->∀(st:ZS)(pos:Pos)(tk a ep:Nat),
  Hq w st ([.o IT (sY (Z+2) i),.o AC (ae (zr x ((p4 p).take i)) ep),.o L (vV w.params i tk a),.o (Z+2) (a9 (d4 x p).l 4),.l (aT x (p4 p))]++E) bg->Rn w B st (Aj w PF IT AC L) pos Q:=by
 intro k;induction k with
 |zero=>
  intro i hi st pos tk a ep H;obtain rfl:i=4:=hi;exact kF [0,1,2,3] b H (fun fr=>MZ w U V W X PF IT AC L Z (d4 x p) (zr x (p4 p)) ep tk a fr pos (zN st) st.toks st.gens:) (fun _=>aj) (fun fr s' H'=>K s' tk a ep (H'.p [0,1,2,3,4] 5))
 |succ k ih=>
  intro i hi st pos tk a ep H;have Ak:i<4:=lA hi
  have hn:=xJ (p:=p) Ak
  obtain⟨R,hR⟩:=l6 x hn;have et:∀b,(x.np (p i)==0)=b->zr x ((p4 p).take (i+1))=zr x ((p4 p).take i)++(if b then[.int (p i) (x.tv (p i))]else[]):=fun b e=>by
   rw[Na p Ak];unfold zr;rw[mT,aL,gY,e];cases b<;>rfl
  have Jz:∀z,x.np (p i)=z->df x (p i)=[(x.ia (p i),c8 (x.da (p i)) (p i) (x.tv (p i)) z (x.tn (p i)) (x.ja (p i))),(x.ja (p i),ae (x.sc (p i)) (x.ep (p i)))]:=fun z e=>by subst e;rfl
  cases hz:(x.np (p i)==0)with
  |true=>
   rw[Jz 0 (eq_of_beq hz)]at hR;have e1:=et true hz
   rw[if_pos rfl,←List.concat_eq_append]at e1;exact kT [3,4,5,6,0] b (H.ch [4] hR [.o _ _,.o _ _,.l R]) (fun fr=>MV w U V W X PF IT AC L Z (d4 x p) i (zr x ((p4 p).take i)) ep tk a (x.da (p i)) (x.ja (p i)) (p i) (x.tv (p i)) (x.tn (p i)) fr pos (zN st) st.toks st.gens Ak (xM x p i):) (fun _=>aj) (fun fr s' H'=>
    ih (i+1) (lB hi) s' _ (Jx i st.toks tk) (x.ia (p i)) (ep+1) ((H'.ch [4,5,6] hR.symm [.l (aT x (p4 p))]).p [1,2,3,4,0] 5 (by rw[e1];kernel_rfl)))
  |false=>
   obtain⟨m,hm⟩:∃m,x.np (p i)=Int.ofNat (m+1):=by
    obtain⟨m,hm⟩:=Int.eq_ofNat_of_zero_le (Y _ hn);cases m with
    |zero=>rw[hm]at hz;cases hz
    |succ m=>exact⟨m,hm⟩
   rw[Jz _ hm]at hR;have e1:=et false hz
   rw[if_neg (by simp),bY]at e1
   exact kT [3,4,5,6,0] b (H.ch [4] hR [.o _ _,.o _ _,.l R]) (fun fr=>MX w U V W X PF IT AC L Z (d4 x p) i (zr x ((p4 p).take i)) ep tk a (x.da (p i)) (x.ja (p i)) (p i) (x.tv (p i)) (x.tn (p i)) m fr pos (zN st) st.toks st.gens Ak (xM x p i):) (fun _=>aj) (fun fr s' H'=>
    ih (i+1) (lB hi) s' _ (Jx i st.toks tk) (x.ia (p i)) ep ((H'.ch [4,5,6] hR.symm [.l (aT x (p4 p))]).p [1,2,3,4,0] 5 (by rw[e1];kernel_rfl)))
end
noncomputable def JA(A Z:Addr):Obj:=⟨.ref 129,none,.fields #[.ref A,.ref Z,.none,.none,.bool false,.none],#[]⟩
noncomputable def JB(Z:Addr):Obj:=⟨.type "traceback",none,.fields #[.none,.ref Z,.none,.none,.none,.int 142 0,.int 142 0,.int 12 0,.int 60 0,.str ⟨⟨Fx⟩⟩ 0,.bool false],#[]⟩
theorem rH[ZI]{Q:ZR}(w:ZW)(R T U V Z S W:Nat)(s:ZT)(x:Sx.NS)(p:Nat->Nat)(K:List DictEntry)(L:Nat)(E:List Bk)(bg:List aQ)(J:Nat->ZN)(v:∀u∈p4 p,0<=x.np u)(hx:∀u∈p4 p,bW (x.sc u) (J u))(hp:∀u∈p4 p,u<4)(t:∀u∈p4 p,∀w∈J u,w∈p4 p)(B:aS)(st:ZS)(pos:Pos)(b:Bt (cA w R T U V ⟨997,8,997,24⟩) none B)(H:Hq w st ([.o S (cp W),.o W (cn w.params s (Z+2) .none 0 0),.o (Z+2) (a9 (d4 x p).l 4),.o R (nD ⟨K⟩ L (lx V U T false)),.l (aT x (p4 p))]++E) bg)(K1:∀I F ep,(∃r:Nat->Nat,∀u∈p4 p,∀w∈J u,r w<r u)->Hq w I ([.o S (cp W),.o W (cn w.params s (Z+2) (.ref F) 0 0),.o (Z+2) (a9 (d4 x p).l 4),.o R (nD ⟨K⟩ L (lx V U T true)),.o F (ae (zr x (p4 p)) ep),.l (aT x (p4 p))]++E) bg->Q (.ok (.ret .none)) I)(m:∀I k A n e F ep,Ring J->Hq w I ([.o S (cp W),.o W (cn w.params s (Z+2) (.ref F) 0 0),.o (Z+2) (a9 (d4 x p).l 4),.o R (nD ⟨K⟩ L (lx V U T true)),.o F (ae (zr x (p4 p)) ep),.o k (JA A n),.o n (JB e),.l (aT x (p4 p))]++E) bg->Q (.error (.ref k)) I):Rn w B st (.call (.ref 166) ⟨[.ref S],[]⟩) pos Q:=by
 let N:=st.heap.objs.size
 refine kS [0,1,2] b H (fun fr=>M1 w R T U V S W Z s (d4 x p) fr pos (zN st) st.toks st.gens:) (fun d=>aj) (fun fr s1 H1 B1 f=>?_)
 refine Bg w R T U V Z x p ([.o S (cp W),.o W (cn w.params s (Z+2) .none 0 0),.o N (fx [dE w.params [115,101,108,102] st.toks (.ref S)] 1),.o R (nD ⟨K⟩ L (lx V U T false))]++E) bg v S W N (N+2) (N+3) (N+4) B1 f (fun s2 tk a ep H2=>?_) 4 0 rfl s1 _ 0 0 0 (H1.p [4,5,6,2,8,0,1,3,7] 9)
 refine m5 [5,6,7,2] b H2 (fun O=>M4 w R T U V S W Z s (d4 x p) tk a fr pos (zN st) st.toks st.gens O (zN s2) s2.toks s2.gens:) (fun d=>aj) (fun O s3 H4 B2 g=>?_)
 let c:a6:=⟨w,0,N,R,T,U,V,S,Z+2,0,0,0,0,0,fun d=>0⟩
 let o:Ah:=⟨[dE w.params [115,101,108,102] st.toks (.ref S)],K,1,L⟩
 refine mB c Z x p o (.o (N+3) (ae (zr x (p4 p)) ep)::E) bg J hx hp t rfl s W (.ref (N+3)) B2 s3 _ g (fun s4 z C=>?_) (fun s4 Y P h i j q C=>?_) (Hq.p (cs:=c.Jv x p o (.o (N+3) (ae (zr x (p4 p)) ep)::E) s W (.ref (N+3)) false) H4 [0,1,6,2,8,7,5] 9)
 .exact pE [3] b C (fun X=>M7 w R T U V S W Z s (d4 x p) tk a fr pos (zN st) st.toks st.gens O (zN s2) s2.toks s2.gens X (zN s4) s4.toks s4.gens:) (fun d=>aj) (fun X s5 D=>K1 s5 (N+3) ep z (D.p [1,2,3,4,6,5] 7))
 .obtain⟨y,M,rfl⟩:∃y M,P=y::M:=by
   cases P with
   |nil=>exact absurd rfl i
   |cons y M=>exact⟨y,M,rfl⟩
  have G:M.length<=4:=jE j
  cases h with
  |false=>exact pE [4,0,5] b C (fun X=>M9 w R T U V S W Z s (d4 x p) tk a Y y M K L fr pos (zN st) st.toks st.gens O (zN s2) s2.toks s2.gens X (zN s4) s4.toks s4.gens G:) (fun d=>aj) (fun X s5 D=>m s5 (s4.heap.objs.size+1) (s4.heap.objs.size+2) (s4.heap.objs.size+3) N (N+3) ep q (D.p [6,7,8,2,10,3,5,9] 11))
  |true=>exact pE [4,0,5] b C (fun X=>Gj w R T U V S W Z s (d4 x p) tk a Y y M K L fr pos (zN st) st.toks st.gens O (zN s2) s2.toks s2.gens X (zN s4) s4.toks s4.gens G:) (fun d=>aj) (fun X s5 D=>m s5 (s4.heap.objs.size+1) (s4.heap.objs.size+2) (s4.heap.objs.size+3) N (N+3) ep q (D.p [6,7,8,2,10,3,5,9] 11))
end
section
set_option tactic.hygienic false
def vW(w:ZW)(W X Y Z:Addr):Code:=Jh (eK w 7) (bz w W X Y Z)
def eS(w:ZW)(W X Y Z:Addr)(p:Pos):ZC:=(vW w W X Y Z,p)::cA w W X Y Z ⟨1002,4,1013,27⟩
def CH(w:ZW)(F:Addr):Env:=eB 173 (sO w.params) F []
def JC(w:ZW)(F:Addr)(p:Pos):Code×Pos:=(.func (aH (sO w.params)) (CH w F),p)
def Gk(w:ZW)(F Z:Addr):Code:=f6 ((aH (sO w.params)).getD 3 default) Z (CH w F)
noncomputable def qE(P:Params)(name:ZN):Option (Tok×ZV)->List DictEntry
 |none=>[]
 |some (tk,v)=>[dE P name tk v]
noncomputable def qN:Option (Tok×ZV)->Nat
 |none=>0
 |some _=>1
noncomputable def q1(q:Option (Tok×ZV))(t:Tok)(v:ZV):Option (Tok×ZV):=match q with
 |none=>some (t,v)
 |some (tk,_)=>some (tk,v)
noncomputable def iv(Z:List (Nat×Tok)):ZY:=Z.map fun e=>.int e.1 e.2
section
variable(w:ZW)(P Q R U S O D M:Nat)(s:ZT)(po E:Int)(Z:Nat×Tok)(W:List (Nat×Tok))(ep T F K I:Nat)(z A B:Tok)(q:Option (Tok×ZV))(vs:ZY)(i:Nat)(l:List IE)(n v u:Int)(H y t0:Tok)(x J:Addr)(L:ZL)(V:Pos)(Y X:Nat)(C:ZG)(fr:ZL)(pos:Pos)(N t:Nat)(G:ZG)
def CI:ZH w:=jn [dz 0x61bb5abb3a2837,[(2,.ai (iJ 4 2))],dz 0x462617182c283abb2c28431818172614,[(0,.stop)]]
def CJ:ay:=aq (V0 w (eS w P Q R U ⟨1003,16,1003,34⟩)) (CI w) fr (.call (.ref 173) ⟨[(.ref S)],[]⟩) pos [(S,cp O),(O,cn w.params s D (.ref M) po E),(M,ae (iv (Z::W)) ep)] [] N t G
abbrev Nb:dK:=⟨(CJ w P Q R U S O D M s po E Z W ep fr pos N t G),(Gk w N (N+3)),⟨[(S,cp O),(O,cn w.params s D (.ref M) po E),(M,ae (iv (Z::W)) ep)],[(N,fx [dE w.params [115,101,108,102] t (.ref S),dE w.params xm (t+3) (.ref (N+2)),dE w.params [110,50,105] (t+5) (.ref D)] 3),((N+2),⟨(.type "tuple"),none,(.seq ⟨(iv (Z::W))⟩ 0),⟨[]⟩⟩),((N+3),⟨(.type "tuple_iterator"),none,(.fields ⟨[(.ref (N+2)),(.int 0 0)]⟩),⟨[]⟩⟩)],[([]:ZY).length+(iv (Z::W)).length<=16777216]⟩,(N+4),(t+6)⟩
theorem Nc(T:W.length<=3):(Nb w P Q R U S O D M s po E Z W ep fr pos N t G).ok (V0 w (eS w P Q R U ⟨1003,16,1003,34⟩)) (CI w) pos (JC w N ⟨149,20,149,26⟩::(eS w P Q R U ⟨1003,16,1003,34⟩)) 3 [3,5,6] G:=by apply c5 T;apply aC w;kernel_rfl
def CK:ZH w:=jn [dz 0xc0,[(0,.ai (qd 1 2 (.int n H)))],dz 0x1ac1050dd5,[(0,.ai (jQ 3 l 4 (.ref I)))],dz 0xe021,[(2,.tail)]]
def Nd:ay:=aq (V0 w (JC w F ⟨149,20,149,26⟩::(eS w P Q R U ⟨1003,16,1003,34⟩))) (CK w I l n H) fr (Gk w F K) pos [(F,fx ([dE w.params [115,101,108,102] z (.ref S),dE w.params xm A (.ref T),dE w.params [110,50,105] B (.ref D)]++qE w.params [110,111,100,101] q) (3+qN q)),(K,gy T i),(T,bK vs 0),(D,a9 l 4),(I,c8 x v y u t0 J)] [] N t G
abbrev Ng:c7:=⟨(Nd w P Q R U S D T F K I z A B q vs i l n v u H y t0 x J fr pos N t G),(Gk w F K),⟨150,12,150,35⟩,⟨[(F,fx ([dE w.params [115,101,108,102] z (.ref S),dE w.params xm A (.ref T),dE w.params [110,50,105] B (.ref D)]++qE w.params [110,111,100,101] (q1 q t (.int n H))) (3+qN (q1 q t (.int n H)))),(K,gy T (i+1)),(T,bK vs 0),(D,a9 l 4),(I,c8 x v y (-1) 1936 J)],[],[aG l n=some (.ref I),vs[i]?=some (.int n H)]⟩,N,(t+3)⟩
theorem Nh:(Ng w P Q R U S D T F K I z A B q vs i l n v u H y t0 x J fr pos N t G).ok (CK w I l n H) pos 5 [] G:=by apply cm q;apply aC w;kernel_rfl
def CL:ZH w:=jn [dz 0xc0,[(0,.ai (vx 1 2))],dz 0x14,[(1,.fin)]]
abbrev Ni:dp:=⟨(aq (V0 w (JC w F ⟨149,20,149,26⟩::(eS w P Q R U ⟨1003,16,1003,34⟩))) (CL w) fr (Gk w F K) pos [(F,fx ([dE w.params [115,101,108,102] z (.ref S),dE w.params xm A (.ref T),dE w.params [110,50,105] B (.ref D)]++qE w.params [110,111,100,101] q) (3+qN q)),(K,gy T i),(T,bK vs 0)] [] N t G),(.ok .next),⟨[(F,fx ([dE w.params [115,101,108,102] z (.ref S),dE w.params xm A (.ref T),dE w.params [110,50,105] B (.ref D)]++qE w.params [110,111,100,101] q) (3+qN q)),(K,jO "tuple_iterator" i),(T,bK vs 0)],[],[vs[i]?=none]⟩,(N+2),t⟩
theorem Nj:(Ni w P Q R U S D T F K z A B q vs i fr pos N t G).ok (CL w) pos 3 [] G:=by apply cm q;apply aC w;kernel_rfl
def CM:ZH w:=jn [dz 0xeb19bb23,[(W.length+5,.ld 3)],dz 0x2c010f040cd713771616383abb,[(0,.fin)]]
abbrev Nk:dp:=⟨(bo (V0 w (eS w P Q R U ⟨1003,16,1003,34⟩)) (CM w W) fr (CJ w P Q R U S O D M s po E Z W ep L V Y X C) (.ok .next) [(S,cp O),(O,cn w.params s D (.ref M) po E),(M,ae (iv (Z::W)) ep),(Y,fx ([dE w.params [115,101,108,102] X (.ref S),dE w.params xm (X+3) (.ref (Y+2)),dE w.params [110,50,105] (X+5) (.ref D)]++qE w.params [110,111,100,101] q) (3+qN q)),((Y+2),bK (iv (Z::W)) 0)] [] N t G),(.ok (.ret (.ref (Y+2)))),⟨[(S,cp O),(O,cn w.params (aW s 3 (t+4)) D (.ref M) (po+(Z::W).length) E),(M,ae [] (ep+1)),(Y,fx ([dE w.params [115,101,108,102] X (.ref S),dE w.params xm (X+3) (.ref (Y+2)),dE w.params [110,50,105] (X+5) (.ref D)]++qE w.params [110,111,100,101] q) (3+qN q)),((Y+2),bK (iv (Z::W)) 0)],[],[]⟩,N,(t+7)⟩
theorem Nl(T:W.length<=3):(Nk w P Q R U S O D M s po E Z W ep q L V Y X C fr N t G).ok (CM w W) ⟨0,0,0,0⟩ 5 [] G:=by apply cm q;apply c5 T;apply aC w;kernel_rfl
end
end
section
set_option tactic.hygienic false
theorem xN{α:Type}(f:Nat->α)(u:Nat)(y:α)(v:Nat):aW f u y v=if v=u then y else f v:=by
 by_cases e:v=u
 .subst e;rw[bj,if_pos rfl]
 .rw [bI _ _ e,if_neg e]
noncomputable def NS.upd(x:Sx.NS)(Y:Nat->Int)(Z:ZT):Sx.NS:={x with np:=Y,tn:=Z}
noncomputable def cg(Z:Nat->Int)(l:ZN):Nat->Int:=fun u=>if u∈l then-1 else Z u
noncomputable def JD(w:ZW)(S T D:Addr)(X Y Z:Tok)(q:Option (Tok×ZV)):Obj:=fx ([dE w.params [115,101,108,102] X (.ref S),dE w.params xm Y (.ref T),dE w.params [110,50,105] Z (.ref D)]++qE w.params [110,111,100,101] q) (3+qN q)
section
variable(w:ZW)(L M N O S D T F P:Addr)(U V W:Tok)(x:Sx.NS)(p:Nat->Nat)(E:List Bk)(bg:List aQ)(Z:List (Nat×Tok))(Y:(p4 p).Nodup)(X:∀e∈Z,e.1∈p4 p)
theorem gz(Z:List (Nat×Tok))(i:Nat):(iv Z)[i]?=Z[i]?.map fun e=>.int e.1 e.2:=by unfold iv;exact List.getElem?_map ..
include Y X in
theorem Bh[ZI]{Q:ZR}(B:aS)(b:Bt (JC w F ⟨149,20,149,26⟩::eS w L M N O ⟨1003,16,1003,34⟩) none B)(K:∀s' q tn,Hq w s' ([.o F (JD w S T D U V W q),.o T (bK (iv Z) 0),.o D (a9 (dl x (p4 p)) 4),.l (aT (x.upd (cg x.np (Z.map (·.1))) tn) (p4 p))]++E) bg->Q (.ok .next) s'):∀(k i:Nat),i+k=Z.length->∀(st:ZS)(pos:Pos)(q:Option (Tok×ZV))(tn:ZT),
  Hq w st ([.o F (JD w S T D U V W q),.o P (gy T i),.o T (bK (iv Z) 0),.o D (a9 (dl x (p4 p)) 4),.l (aT (x.upd (cg x.np ((Z.take i).map (·.1))) tn) (p4 p))]++E) bg->
  Rn w B st (Gk w F P) pos Q:=by
 intro k;induction k with
 |zero=>
  intro i hi st pos q tn H;obtain rfl:i=Z.length:=hi;rw[gZ]at H;exact kF [0,1,2] b H (fun fr=>Nj w L M N O S D T F P U V W q (iv Z) Z.length fr pos (zN st) st.toks st.gens:) (fun _=>aa (by rw[gz];simp) aj) (fun fr s' H'=>K _ q tn (H'.p [0,2,3,4] 5))
 |succ k ih=>
  intro i hi st pos q tn H;have jW:i<Z.length:=by exact lA hi
  obtain⟨⟨n,te⟩,he⟩:∃e,Z[i]?=some e:=⟨_,List.getElem?_eq_getElem jW⟩;have hn:n∈p4 p:=X _ (List.mem_of_getElem? he)
  obtain⟨R,hR⟩:=l4 (x.upd (cg x.np ((Z.take i).map (·.1))) tn) Y hn;have H1:=H.ch [4] (hR _ fun _ _ _=>rfl) [.o _ _,.o _ _,.l R]
  refine kT [3,4,5,6,0] b H1 (fun fr=>Nh w L M N O S D T F P (x.ia n) U V W q (iv Z) i (dl x (p4 p)) n n (cg x.np ((Z.take i).map (·.1)) n) te (x.tv n) (tn n) (x.da n) (x.ja n) fr pos (zN st) st.toks st.gens:) (fun _=>aa (d5 hn) (aa (by rw[gz,he];rfl) aj)) (fun fr s' H'=>?_)
  have et:cg x.np ((Z.take (i+1)).map (·.1))=aW (cg x.np ((Z.take i).map (·.1))) n (-1):=by
   funext u;rw[xN,gf,he];unfold cg;simp only[Option.toList_some,List.map_append,List.map_cons,List.map_nil,List.mem_append,List.mem_singleton]
   by_cases h1:u=n<;>simp[h1]
  have hy:=hR (x.upd (cg x.np ((Z.take (i+1)).map (·.1))) (aW tn n 1936)) (fun v _ hv=>by
   rw[et];show[(x.ia v,c8 (x.da v) v (x.tv v) (aW _ n (-1) v) (aW tn n 1936 v) (x.ja v)),(x.ja v,ae (x.sc v) (x.ep v))]=_
   rw[bI _ _ hv,bI _ _ hv];rfl)
  have e1:df (x.upd (cg x.np ((Z.take (i+1)).map (·.1))) (aW tn n 1936)) n=[(x.ia n,c8 (x.da n) n (x.tv n) (-1) 1936 (x.ja n)),(x.ja n,ae (x.sc n) (x.ep n))]:=by
   show[(x.ia n,c8 (x.da n) n (x.tv n) (cg x.np ((Z.take (i+1)).map (·.1)) n) (aW tn n 1936 n) (x.ja n)),(x.ja n,ae (x.sc n) (x.ep n))]=_
   rw[et,bj,bj]
  rw[e1]at hy;exact ih (i+1) (lB hi) s' _ (q1 q st.toks (.int n te)) (aW tn n 1936) ((H'.ch [4,5,6] hy.symm [.l _]).p [1,2,3,4,0] 5)
end
theorem nf[ZI]{Q:ZR}(w:ZW)(N O P R S X D W:Addr)(s:ZT)(po U:Int)(x:Sx.NS)(p:Nat->Nat)(E:List Bk)(bg:List aQ)(Z:Nat×Tok)(Y:List (Nat×Tok))(F:Y.length<=3)(ep:Nat)(J:(p4 p).Nodup)(I:∀e∈Z::Y,e.1∈p4 p)(B:aS)(st:ZS)(pos:Pos)(b:Bt (eS w N O P R ⟨1003,16,1003,34⟩) none B)(H:Hq w st ([.o S (cp X),.o X (cn w.params s D (.ref W) po U),.o D (a9 (dl x (p4 p)) 4),.o W (ae (iv (Z::Y)) ep),.l (aT x (p4 p))]++E) bg)(K:∀G T s2 M,Hq w G ([.o S (cp X),.o X (cn w.params s2 D (.ref W) (po+(Z::Y).length) U),.o D (a9 (dl x (p4 p)) 4),.o W (ae [] (ep+1)),.o T (bK (iv (Z::Y)) 0),.l (aT (x.upd (cg x.np ((Z::Y).map (·.1))) M) (p4 p))]++E) bg->Q (.ok (.ret (.ref T))) G):Rn w B st (.call (.ref 173) ⟨[.ref S],[]⟩) pos Q:=by
 have L:([]:ZY).length+(iv (Z::Y)).length<=16777216:=by simp[iv];lia
 have ex:x.upd (cg x.np []) x.tn=x:=by
  show({x with np:=cg x.np [],tn:=x.tn}:Sx.NS)=x
  rw[show cg x.np []=x.np from funext fun u=>by simp[cg]]
 rw[←ex]at H;exact kS [0,1,3] b H (fun fr=>Nc w N O P R S X D W s po U Z Y ep fr pos (zN st) st.toks st.gens F:) (fun a=>aa L aj) fun fr s1 H1 y C=>
  Bh w N O P R S D (st.heap.objs.size+2) st.heap.objs.size (st.heap.objs.size+3) st.toks (st.toks+3) (st.toks+5) x p ([.o S (cp X),.o X (cn w.params s D (.ref W) po U),.o W (ae (iv (Z::Y)) ep)]++E) bg (Z::Y) J I y C (fun s2 q M z=>
   pE [4,5,6,0,1] b z (fun V=>Nl w N O P R S X D W s po U Z Y ep q fr pos (zN st) st.toks st.gens V (zN s2) s2.toks s2.gens F:) (fun a=>aj) fun V s3 A=>K _ _ (aW s 3 (s2.toks+4)) M (A.p [0,1,5,2,4,6] 7)) (Z::Y).length 0 (fM _) s1 _ none x.tn (H1.p [3,5,4,6,7,0,1,2] 8)
end
section
set_option tactic.hygienic false
def wX(w:ZW)(F:Addr):Env:=eB 194 (sP w.params) F []
def r6(w:ZW)(F:Addr)(p:Pos):Code×Pos:=(.func (aH (sP w.params)) (wX w F),p)
def Ve(w:ZW):Stmt:=(aH (sP w.params)).getD 2 default
def uB(w:ZW)(F Z:Addr):Code:=f6 (Ve w) Z (wX w F)
def Al(w:ZW)(F Z:Addr):Code:=f6 ((rS (Ve w)).getD 4 default) Z (wX w F)
noncomputable def W9(P:Params):Option ((Tok×Tok×Tok)×(ZV×ZV×ZV))->List DictEntry
 |none=>[]
 |some ((a,b,c),(x,y,z))=>[dE P [110,111,100,101] a x,dE P [110,111,100,101,105,110,102,111] b y,dE P [115,116,97,116] c z]
noncomputable def Xa(P:Params):Option ((Tok×Tok)×(ZV×ZV))->List DictEntry
 |none=>[]
 |some ((a,b),(x,y))=>[dE P [115,117,99,99,101,115,115,111,114] a x,dE P [115,117,99,99,101,115,115,111,114,95,105,110,102,111] b y]
noncomputable def oN{α:Type}(n:Nat):Option α->Nat
 |none=>0
 |some _=>n
noncomputable def aN(q:Option ((Tok×Tok×Tok)×(ZV×ZV×ZV)))(t:Tok)(v:ZV×ZV×ZV):Option ((Tok×Tok×Tok)×(ZV×ZV×ZV)):=match q with
 |none=>some ((t,t+2,t+4),v)
 |some (k,_)=>some (k,v)
noncomputable def bN(q:Option ((Tok×Tok)×(ZV×ZV)))(t:Tok)(v:ZV×ZV):Option ((Tok×Tok)×(ZV×ZV)):=match q with
 |none=>some ((t,t+2),v)
 |some (k,_)=>some (k,v)
noncomputable def gH(P:Params)(S T D:Addr)(V W X:Tok)(Y:Option ((Tok×Tok×Tok)×(ZV×ZV×ZV)))(Z:Option ((Tok×Tok)×(ZV×ZV))):Obj:=fx ([dE P [115,101,108,102] V (.ref S),dE P [110,111,100,101,115] W (.ref T),dE P [110,50,105] X (.ref D)]++(W9 P Y++Xa P Z)) (3+(oN 3 Y+oN 2 Z))
section
variable(w:ZW)(Q R U V S A D r:Nat)(s:ZT)(po u:Int)(W:Nat×Tok)(z:List (Nat×Tok))(T F O:Nat)(K L M:Tok)(X:Option ((Tok×Tok×Tok)×(ZV×ZV×ZV)))(Z:Option ((Tok×Tok)×(ZV×ZV)))(l:List IE)(vs:ZY)(i:Nat)(n:Int)(P:Tok)(I C J:Addr)(v:Int)(E B:Tok)(H:ZY)(Y:Nat)(y q:Addr)(x:Int)(fr:ZL)(pos:Pos)(N t:Nat)(G:ZG)
def CN:ZH w:=jn [dz 0x380e0b022c283ae623283a,[(0,.stop)]]
def CO:ay:=aq (V0 w (eS w Q R U V ⟨1013,8,1013,27⟩)) (CN w) fr (.call (.ref 194) ⟨.ref S::iv (W::z),[]⟩) pos [(S,cp A),(A,cn w.params s D (.ref r) po u)] [] N t G
abbrev Nm:dK:=⟨(CO w Q R U V S A D r s po u W z fr pos N t G),(uB w (N+1) (N+2)),⟨[(S,cp A),(A,cn w.params s D (.ref r) po u)],[(N,⟨(.type "tuple"),none,(.seq ⟨iv (W::z)⟩ 0),⟨[]⟩⟩),((N+1),fx [dE w.params [115,101,108,102] t (.ref S),dE w.params [110,111,100,101,115] (t+1) (.ref N),dE w.params [110,50,105] (t+4) (.ref D)] 3),((N+2),⟨(.type "tuple_iterator"),none,(.fields ⟨[(.ref N),(.int 0 0)]⟩),⟨[]⟩⟩)],[]⟩,(N+3),(t+5)⟩
theorem Nn(T:z.length<=3):(Nm w Q R U V S A D r s po u W z fr pos N t G).ok (V0 w (eS w Q R U V ⟨1013,8,1013,27⟩)) (CN w) pos (r6 w (N+1) ⟨167,20,167,25⟩::(eS w Q R U V ⟨1013,8,1013,27⟩)) 2 [2,3,4] G:=by apply c5 T;apply aC w;kernel_rfl
def CP:ZH w:=jn [dz 0xc0,[(0,.ai (qd 1 2 (.int n P)))],dz 0x230908c1d1,[(0,.ai (kU 3 l 4 (some (.ref I))))],dz 0x46261740c513e0212fbc29c513db,[(0,.stop)]]
def CQ:ay:=aq (V0 w (r6 w F ⟨167,20,167,25⟩::(eS w Q R U V ⟨1013,8,1013,27⟩))) (CP w l n P I) fr (uB w F O) pos [(F,gH w.params S T D K L M X Z),(O,gy T i),(T,bK vs 0),(D,a9 l 4),(I,c8 C v E (-1) B J),(J,ae H Y)] [] N t G
abbrev Np:dK:=⟨(CQ w Q R U V S D T F O K L M X Z l vs i n P I C J v E B H Y fr pos N t G),(Al w F N),⟨[(F,gH w.params S T D K L M (aN X t (.int n P,.ref I,.int (-1) B)) Z),(O,gy T (i+1)),(T,bK vs 0),(D,a9 l 4),(I,c8 C v E (-2) 1939 J),(J,ae H Y)],[(N,⟨(.type "list_iterator"),none,(.fields ⟨[(.ref J),(.int 0 0)]⟩),⟨[]⟩⟩)],[aG l n=some (.ref I),vs[i]?=some (.int n P)]⟩,(N+1),(t+7)⟩
theorem Nq(hq:X.isSome=true\/Z=none):(Np w Q R U V S D T F O K L M X Z l vs i n P I C J v E B H Y fr pos N t G).ok (V0 w (r6 w F ⟨167,20,167,25⟩::(eS w Q R U V ⟨1013,8,1013,27⟩))) (CP w l n P I) pos ((uB w F O,⟨179,29,179,48⟩)::(r6 w F ⟨167,20,167,25⟩::(eS w Q R U V ⟨1013,8,1013,27⟩))) 6 [6] G:=by
 rcases X with _|⟨⟨a1,a2,g⟩,h,j,k⟩
 .obtain rfl:Z=none:=hq.resolve_left (by simp)
  (apply aC w;kernel_rfl)
 .rcases Z with _|⟨⟨m,o⟩,p,s⟩<;>(apply aC w;kernel_rfl)
def CR:ZH w:=jn [dz 0xc0,[(0,.ai (vx 1 2))],dz 0x14,[(1,.fin)]]
abbrev Nr:dp:=⟨(aq (V0 w (r6 w F ⟨167,20,167,25⟩::(eS w Q R U V ⟨1013,8,1013,27⟩))) (CR w) fr (uB w F O) pos [(F,gH w.params S T D K L M X Z),(O,gy T i),(T,bK vs 0)] [] N t G),(.ok .next),⟨[(F,gH w.params S T D K L M X Z),(O,jO "tuple_iterator" i),(T,bK vs 0)],[],[vs[i]?=none]⟩,(N+2),t⟩
theorem Nt(hq:X.isSome=true\/Z=none):(Nr w Q R U V S D T F O K L M X Z vs i fr pos N t G).ok (CR w) pos 3 [] G:=by apply aC w;kernel_rfl
def CS:ZH w:=jn [dz 0xc0,[(0,.ai (fu 1 2 (.int n P)))],dz 0x1ac1f3,[(0,.ai (jQ 3 l 4 (.ref I)))],dz 0xc513e078c5d1,[(6,.ai (oEq false))],[(0,.tail)]]
abbrev Nu:c7:=⟨(aq (V0 w ((uB w F O,⟨179,29,179,48⟩)::(r6 w F ⟨167,20,167,25⟩::(eS w Q R U V ⟨1013,8,1013,27⟩)))) (CS w l n P I) fr (Al w F y) pos [(F,gH w.params S T D K L M X Z),(y,bx J i),(J,ae H Y),(D,a9 l 4),(I,c8 C v E x B q)] [] N t G),(Al w F y),⟨182,19,182,52⟩,⟨[(F,gH w.params S T D K L M X (bN Z t (.int n P,.ref I))),(y,bx J (i+1)),(J,ae H Y),(D,a9 l 4),(I,c8 C v E (x-1) (t+5) q)],[],[((x-1)==0)=false,aG l n=some (.ref I),H[i]?=some (.int n P)]⟩,N,(t+9)⟩
theorem Nv:(Nu w Q R U V S D T F O K L M X Z l i n P I C J v E B H Y y q x fr pos N t G).ok (CS w l n P I) pos 5 [] G:=by apply cm X;apply cm Z;apply aC w;kernel_rfl
end
section
variable(w:ZW)(x z A B S D T F u:Nat)(R U V:Tok)(W:Option ((Tok×Tok×Tok)×(ZV×ZV×ZV)))(Y:Option ((Tok×Tok)×(ZV×ZV)))(l:List IE)(L J:Addr)(Q:ZY)(Z i:Nat)(n:Int)(M:Tok)(I e b:Addr)(v c:Int)(f d:Tok)(O g E:Addr)(s:ZT)(po q:Int)(rs:ZY)(K:Nat)(vs:ZY)(h j k:Tok)(m o p:ZV)(H:Option ((Tok×Tok)×(ZV×ZV)))(P:ZL)(X:Pos)(y C:Nat)(r:ZG)(fr:ZL)(pos:Pos)(N t:Nat)(G:ZG)
def CT:ZH w:=jn [dz 0xc0,[(0,.ai (fu 1 2 (.int n M)))],dz 0x1ac1f3,[(0,.ai (jQ 3 l 4 (.ref I)))],dz 0xc513e078c5d1,[(6,.ai (oEq true))],dz 0x2a0922222247101740522609,[(0,.ai (eJ 7))],[(1,.tail)]]
def Nw:ay:=aq (V0 w ((uB w F u,⟨179,29,179,48⟩)::(r6 w F ⟨167,20,167,25⟩::(eS w x z A B ⟨1013,8,1013,27⟩)))) (CT w l n M I) fr (Al w F L) pos [(F,gH w.params S T D R U V W Y),(L,bx J i),(J,ae Q Z),(D,a9 l 4),(I,c8 e v f c d b),(S,cp O),(O,cn w.params s g (.ref E) po q),(E,ae rs K)] [] N t G
abbrev Nx:c7:=⟨(Nw w x z A B S D T F u R U V W Y l L J Q Z i n M I e b v c f d O g E s po q rs K fr pos N t G),(Al w F L),⟨183,20,183,55⟩,⟨[(F,gH w.params S T D R U V W (bN Y t (.int n M,.ref I))),(L,bx J (i+1)),(J,ae Q Z),(D,a9 l 4),(I,c8 e v f (c-1) (t+5) b),(S,cp O),(O,cn w.params s g (.ref E) po q),(E,ae (rs++[.int n M]) (K+1))],[],[rs.length<=16777216,((c-1)==0)=true,aG l n=some (.ref I),Q[i]?=some (.int n M)]⟩,N,(t+10)⟩
theorem Ny:(Nx w x z A B S D T F u R U V W Y l L J Q Z i n M I e b v c f d O g E s po q rs K fr pos N t G).ok (CT w l n M I) pos 8 [] G:=by apply cm W;apply cm Y;apply aC w;kernel_rfl
def CU:ZH w:=jn [dz 0xc0,[(0,.ai (qf 1 2))],dz 0x14,[(1,.fin)]]
abbrev Nz:dp:=⟨(aq (V0 w ((uB w F u,⟨179,29,179,48⟩)::(r6 w F ⟨167,20,167,25⟩::(eS w x z A B ⟨1013,8,1013,27⟩)))) (CU w) fr (Al w F L) pos [(F,gH w.params S T D R U V W Y),(L,bx J i),(J,ae Q Z)] [] N t G),(.ok .next),⟨[(F,gH w.params S T D R U V W Y),(L,jO "list_iterator" i),(J,ae Q Z)],[],[Q[i]?=none]⟩,(N+2),t⟩
theorem NA:(Nz w x z A B S D T F u R U V W Y L J Q Z i fr pos N t G).ok (CU w) pos 3 [] G:=by apply aC w;kernel_rfl
def CV:ZH w:=jn [dz 0xb88fb209,[(1,.tail)]]
abbrev NB:c7:=⟨(bo (V0 w (r6 w F ⟨167,20,167,25⟩::(eS w x z A B ⟨1013,8,1013,27⟩))) (CV w) fr (CQ w x z A B S D T F u R U V W Y l vs i n M I e J v f d Q Z P X y C r) (.ok .next) [(F,gH w.params S T D R U V (some ((h,j,k),(m,o,p))) H),(S,cp O),(O,cn w.params s g (.ref E) po q)] [] N t G),(uB w F u),⟨184,12,184,27⟩,⟨[(F,gH w.params S T D R U V (some ((h,j,k),(m,o,p))) H),(S,cp O),(O,cn w.params (aW s 5 (t+2)) g (.ref E) po (q+1))],[],[]⟩,N,(t+5)⟩
theorem NC(hq:W.isSome=true\/Y=none):(NB w x z A B S D T F u R U V W Y l J Q Z i n M I e v f d O g E s po q vs h j k m o p H P X y C r fr N t G).ok (CV w) ⟨0,0,0,0⟩ 3 [] G:=by
 rcases H with _|⟨⟨YN,YO⟩,YP,a⟩<;>rcases W with _|⟨⟨a1,a2,a3⟩,b1,b2,b3⟩
 .obtain rfl:Y=none:=hq.resolve_left (by simp)
  (apply aC w;kernel_rfl)
 .rcases Y with _|⟨⟨c1,c2⟩,d1,d2⟩<;>(apply aC w;kernel_rfl)
 .obtain rfl:Y=none:=hq.resolve_left (by simp)
  (apply aC w;kernel_rfl)
 .rcases Y with _|⟨⟨c1,c2⟩,d1,d2⟩<;>(apply aC w;kernel_rfl)
end
section
variable(w:ZW)(O P Q R S L D K:Nat)(s:ZT)(po M:Int)(W:Nat×Tok)(T:List (Nat×Tok))(Y:ZL)(Z:Pos)(V X:Nat)(U:ZG)(fr:ZL)(N t:Nat)(G:ZG)
def CW:ZH w:=jn [[(0,.fin)]]
abbrev ND:dp:=⟨(bo (V0 w (eS w O P Q R ⟨1013,8,1013,27⟩)) (CW w) fr (CO w O P Q R S L D K s po M W T Y Z V X U) (.ok .next) [] [] N t G),(.ok (.ret .none)),⟨[],[],[]⟩,N,t⟩
theorem NF(J:T.length<=3):(ND w O P Q R S L D K s po M W T Y Z V X U fr N t G).ok (CW w) ⟨0,0,0,0⟩ 0 [] G:=by apply c5 J;apply aC w;kernel_rfl
end
end
section
set_option tactic.hygienic false
noncomputable def CX(x:Sx.NS)(v:Nat):Addr×Obj:=(x.ia v,c8 (x.da v) v (x.tv v) (x.np v) (x.tn v) (x.ja v))
noncomputable def JE(x:Sx.NS)(v:Nat):Addr×Obj:=(x.ja v,ae (x.sc v) (x.ep v))
noncomputable def r7(x:Sx.NS)(Z:ZN):ZA:=Z.map (CX x)
noncomputable def CY(x:Sx.NS)(Z:ZN):ZA:=Z.map (JE x)
theorem kb(x:Sx.NS):∀Z:ZN,(aT x Z).Perm (r7 x Z++CY x Z)
 |[]=>List.Perm.refl _
 |v::Z=>List.Perm.cons (CX x v) ((List.Perm.cons (JE x v) (kb x Z)).trans List.perm_middle.symm)
theorem xO{α:Type}(f:Sx.NS->Nat->α)(x:Sx.NS){Z:ZN}{u:Nat}(Y:Z.Nodup)(V:u∈Z):∃R,∀y:Sx.NS,(∀v,v≠u->f y v=f x v)->(Z.map (f y)).Perm (f y u::R):=by
 obtain⟨a,b,rfl⟩:=sr V;rw[eG]at Y;refine⟨a.map (f x)++b.map (f x),fun y W=>?_⟩
 rw[aL,dw];have T:a.map (f y)=a.map (f x):=jA fun v X=>W v fun e=>Y.2.2 v X u (.head _) e
 have U:b.map (f y)=b.map (f x):=jA fun v X=>W v fun e=>by subst e;exact(cy.mp Y.2.1).1 X
 rw[T,U];exact List.perm_middle
theorem Bi(x:Sx.NS)(Y:Nat->Int)(Z:ZT)(m:Nat)(a:Int)(t:Tok){v:Nat}(X:v≠m):CX (x.upd (aW Y m a) (aW Z m t)) v=CX (x.upd Y Z) v:=by
 show(x.ia v,c8 (x.da v) v (x.tv v) (aW Y m a v) (aW Z m t v) (x.ja v))=(x.ia v,c8 (x.da v) v (x.tv v) (Y v) (Z v) (x.ja v))
 rw[bI _ _ X,bI _ _ X]
theorem Gl(x:Sx.NS)(Y:Nat->Int)(Z:ZT)(m:Nat)(a:Int)(t:Tok):CX (x.upd (aW Y m a) (aW Z m t)) m=(x.ia m,c8 (x.da m) m (x.tv m) a t (x.ja m)):=by
 show(x.ia m,c8 (x.da m) m (x.tv m) (aW Y m a m) (aW Z m t m) (x.ja m))=_
 rw[bj,bj]
theorem CZ(x:Sx.NS)(Y:Nat->Int)(Z:ZT){X:ZN}{m:Nat}(V:X.Nodup)(T:m∈X):∃R,(r7 (x.upd Y Z) X).Perm ((x.ia m,c8 (x.da m) m (x.tv m) (Y m) (Z m) (x.ja m))::R)/\
  ∀a t,List.Perm ((x.ia m,c8 (x.da m) m (x.tv m) a t (x.ja m))::R) (r7 (x.upd (aW Y m a) (aW Z m t)) X):=by
 obtain⟨R,W⟩:=xO CX (x.upd Y Z) V T;refine⟨R,W _ fun b b=>rfl,fun a t=>?_⟩
 have:=W _ fun v U=>Bi x Y Z m a t U
 rw[Gl]at this;exact this.symm
noncomputable def iL(a:(Nat->Int)×ZN)(w:Nat):(Nat->Int)×ZN:=(aW a.1 w (a.1 w-1),if a.1 w-1==0 then a.2++[w]else a.2)
noncomputable def gq(Z:Nat->ZN)(a:(Nat->Int)×ZN)(n:Nat):(Nat->Int)×ZN:=(Z n).foldl iL (aW a.1 n (-2),a.2)
theorem lW(a b:List (Nat×Tok)):iv (a++b)=iv a++iv b:=aL ..
section
variable(w:ZW)(C G I L S X D T F V W:Addr)(O P U:Tok)(x:Sx.NS)(p:Nat->Nat)(bg:List aQ)(Z:Nat->ZN)(Y:(p4 p).Nodup)(hx:∀u∈p4 p,bW (x.sc u) (Z u))(M:∀u∈p4 p,∀w∈Z u,w∈p4 p)(N:∀u∈p4 p,(Z u).length<=1000)
include Y hx M N in
theorem zf[ZI]{Q:ZR}(E:List Bk)(s:ZT)(po fi:Int)(qa:Option ((Tok×Tok×Tok)×(ZV×ZV×ZV)))(n:Nat)(hn:n∈p4 p)(IJ J:Addr)(Gm:Nat)(a0:(Nat->Int)×ZN)(c:Nat)(hc:c<=1000)(B:aS)(b:Bt ((uB w F V,⟨179,29,179,48⟩)::(r6 w F ⟨167,20,167,25⟩::eS w C G I L ⟨1013,8,1013,27⟩)) none B)(K:∀s' qb tn np c9 rep,(np,c9.map (·.1))=(Z n).foldl iL a0->c9.length<=c+(Z n).length->Hq w s' ([.o F (gH w.params S T D O P U qa qb),.o J (ae (x.sc n) Gm),.o D (a9 (dl x (p4 p)) 4),.o S (cp X),.o X (cn w.params s D (.ref W) po fi),.o W (ae (iv c9) rep),.l (r7 (x.upd np tn) (p4 p))]++E) bg->Q (.ok .next) s'):∀(k i:Nat),i+k=(Z n).length->∀(st:ZS)(pos:Pos)(qb:Option ((Tok×Tok)×(ZV×ZV)))(tn:ZT)(np:Nat->Int)(c9:List (Nat×Tok))(rep:Nat),
  (np,c9.map (·.1))=((Z n).take i).foldl iL a0->c9.length<=c+i->
  Hq w st ([.o F (gH w.params S T D O P U qa qb),.o IJ (bx J i),.o J (ae (x.sc n) Gm),.o D (a9 (dl x (p4 p)) 4),.o S (cp X),.o X (cn w.params s D (.ref W) po fi),.o W (ae (iv c9) rep),.l (r7 (x.upd np tn) (p4 p))]++E) bg->
  Rn w B st (Al w F IJ) pos Q:=by
 intro k;induction k with
 |zero=>
  intro i hi st pos qb tn np c9 rep ha hr H;obtain rfl:i=(Z n).length:=hi;rw[gZ]at ha;exact kF [0,1,2] b H (fun fr=>NA w C G I L S D T F V O P U qa qb IJ J (x.sc n) Gm (Z n).length fr pos (zN st) st.toks st.gens:) (fun _=>aa (List.getElem?_eq_none (by rw[(hx n hn).len];exact aM _)) aj) fun fr s' H'=>K s' qb tn np c9 rep ha hr (H'.p [0,2,3,4,5,6,7] 8)
 |succ k ih=>
  intro i hi st pos qb tn np c9 rep ha hr H;have jW:i<(x.sc n).length:=by rw[(hx n hn).len];exact lA hi
  obtain⟨m,te,hm,hk⟩:=(hx n hn).get (List.getElem?_eq_getElem jW);have JF:(x.sc n)[i]?=some (.int m te):=by rw[List.getElem?_eq_getElem jW,hm]
  have Rp:m∈p4 p:=M n hn m (List.mem_of_getElem? hk)
  obtain⟨R,hR,hy⟩:=CZ x np tn Y Rp;have H1:=H.ch [7] hR [.o _ _,.l R]
  have step:∀(vX:List (Nat×Tok)),vX.map (·.1)=(if np m-1==0 then c9.map (·.1)++[m]else c9.map (·.1))->(aW np m (np m-1),vX.map (·.1))=((Z n).take (i+1)).foldl iL a0:=fun vX e=>by
   rw[gf,hk,List.foldl_append,←ha,e];rfl
  cases hz:(np m-1==0)with
  |false=>
   exact kT [2,3,4,5,0] b H1 (fun fr=>Nv w C G I L S D T F V O P U qa qb (dl x (p4 p)) i m te (x.ia m) (x.da m) J m (x.tv m) (tn m) (x.sc n) Gm IJ (x.ja m) (np m) fr pos (zN st) st.toks st.gens:) (fun _=>aa hz (aa (d5 Rp) (aa JF aj))) fun fr s' H'=>
    ih (i+1) (lB hi) s' _ (bN qb st.toks (.int (m:Nat) te,.ref (x.ia m))) (aW tn m (st.toks+5)) (aW np m (np m-1)) c9 rep (step c9 (by rw[hz];rfl)) (j2 hr) ((H'.ch [4,5] (hy (np m-1) (st.toks+5)) [.l (r7 _ _)]).p [1,2,3,4,5,6,7,0] 8)
  |true=>
   refine kT [2,3,4,5,0,6,7,8] b H1 (fun fr=>Ny w C G I L S D T F V O P U qa qb (dl x (p4 p)) IJ J (x.sc n) Gm i m te (x.ia m) (x.da m) (x.ja m) m (np m) (x.tv m) (tn m) X D W s po fi (iv c9) rep fr pos (zN st) st.toks st.gens:) (fun _=>aa (by have:(iv c9).length=c9.length:=aB ..;have:=N n hn;lia) (aa hz (aa (d5 Rp) (aa JF aj)))) fun fr s' H'=>?_
   refine ih (i+1) (lB hi) s' _ (bN qb st.toks (.int (m:Nat) te,.ref (x.ia m))) (aW tn m (st.toks+5)) (aW np m (np m-1)) (c9++[(m,te)]) (rep+1) (step _ (by rw[hz];simp)) (by simp;exact su hr 1) ?_
   rw[lW];exact(H'.ch [4,8] (hy (np m-1) (st.toks+5)) [.l (r7 _ _)]).p [1,2,3,4,5,6,7,0] 8
include Y hx M N in
theorem zg[ZI]{Q:ZR}(es:List (Nat×Tok))(JG:∀e∈es,e.1∈p4 p)(po FI:Int)(E:List Bk)(a0:(Nat->Int)×ZN)(Fc:∀i e,es[i]?=some e->(((es.take i).map (·.1)).foldl (gq Z) a0).1 e.1=-1)(h7:∀u∈p4 p,(Z u).length<=7)(B:aS)(b:Bt (r6 w F ⟨167,20,167,25⟩::eS w C G I L ⟨1013,8,1013,27⟩) none B)(K:∀s' s tn np c9 rep,(np,c9.map (·.1))=(es.map (·.1)).foldl (gq Z) a0->Hq w s' ([.o D (a9 (dl x (p4 p)) 4),.o S (cp X),.o X (cn w.params s D (.ref W) po FI),.o W (ae (iv c9) rep),.l (r7 (x.upd np tn) (p4 p)),.l (CY x (p4 p))]++E) bg->Q (.ok .next) s'):∀(k i:Nat),i+k=es.length->∀(st:ZS)(pos:Pos)(qa:Option ((Tok×Tok×Tok)×(ZV×ZV×ZV)))(qb:Option ((Tok×Tok)×(ZV×ZV)))(s:ZT)(fi:Int)(tn:ZT)(np:Nat->Int)(c9:List (Nat×Tok))(rep c:Nat),fi+(k:Int)=FI->(qa.isSome=true\/qb=none)->
  (np,c9.map (·.1))=((es.take i).map (·.1)).foldl (gq Z) a0->c9.length<=c->c+k*7<=1000->
  Hq w st ([.o F (gH w.params S T D O P U qa qb),.o V (gy T i),.o T (bK (iv es) 0),.o D (a9 (dl x (p4 p)) 4),.o S (cp X),.o X (cn w.params s D (.ref W) po fi),.o W (ae (iv c9) rep),.l (r7 (x.upd np tn) (p4 p)),.l (CY x (p4 p))]++E) bg->
  Rn w B st (uB w F V) pos Q:=by
 intro k;induction k with
 |zero=>
  intro i hi st pos qa qb s fi tn np c9 rep c Rq hq ha hr hc H;obtain rfl:i=es.length:=hi;obtain rfl:fi=FI:=by simpa using Rq
  rw[gZ]at ha;exact kF [0,1,2] b H (fun fr=>Nt w C G I L S D T F V O P U qa qb (iv es) es.length fr pos (zN st) st.toks st.gens hq:) (fun _=>aa (by rw[gz];simp) aj) fun fr s' H'=>K s' s tn np c9 rep ha (H'.p [3,4,5,6,7,8] 9)
 |succ k ih=>
  intro i hi st pos qa qb s fi tn np c9 rep c Rq hq ha hr hc H;have jW:i<es.length:=by exact lA hi
  obtain⟨⟨n,te⟩,he⟩:∃e,es[i]?=some e:=⟨_,List.getElem?_eq_getElem jW⟩;have hn:n∈p4 p:=JG _ (List.mem_of_getElem? he)
  have JH:np n=-1:=by
   have:=Fc i _ he
   rwa [←ha]at this
  obtain⟨R,hR,hy⟩:=CZ x np tn Y hn;rw[JH]at hR;obtain⟨J,hJ⟩:=xO JE x Y hn
  replace hJ:(CY x (p4 p)).Perm (JE x n::J):=hJ x fun _ _=>rfl
  obtain⟨⟨a1,a2,a3⟩,Xb⟩:∃kk,aN qa st.toks (.int (n:Nat) te,.ref (x.ia n),.int (-1) (tn n))=some (kk,(.int (n:Nat) te,.ref (x.ia n),.int (-1) (tn n))):=by
   cases qa with
   |none=>exact⟨_,rfl⟩
   |some v=>exact⟨v.1,rfl⟩
  have YQ:=h7 n hn
  have H1:=(H.ch [7] hR [.o _ _,.l R]).ch [9] hJ [.o _ _,.l J]
  exact kS [4,5,6,7,2,0] b H1 (fun fr=>Nq w C G I L S D T F V O P U qa qb (dl x (p4 p)) (iv es) i n te (x.ia n) (x.da n) (x.ja n) n (x.tv n) (tn n) (x.sc n) (x.ep n) fr pos (zN st) st.toks st.gens hq:) (fun _=>aa (d5 hn) (aa (by rw[gz,he];rfl) aj)) fun fr s1 H2 B' b'=>
   zf w C G I L S X D T F V W O P U x p bg Z Y hx M N ([.o V (gy T (i+1)),.o T (bK (iv es) 0),.l J]++E) s po fi (some ((a1,a2,a3),(.int (n:Nat) te,.ref (x.ia n),.int (-1) (tn n)))) n hn st.heap.objs.size (x.ja n) (x.ep n) (aW np n (-2),c9.map (·.1)) c (pd hc) B' b' (fun s2 Vf Ra Xc vX Fd Xd vY H4=>
    qG [0,3,4] b H4 (fun iQ=>NC w C G I L S D T F V O P U qa qb (dl x (p4 p)) (x.ja n) (x.sc n) (x.ep n) i n te (x.ia n) (x.da n) n (x.tv n) (tn n) X D W s po fi (iv es) a1 a2 a3 (.int (n:Nat) te) (.ref (x.ia n)) (.int (-1) (tn n)) Vf fr pos (zN st) st.toks st.gens iQ (zN s2) s2.toks s2.gens hq:) (fun _=>aj) fun iQ s3 H6=>
     ih (i+1) (lB hi) s3 ⟨184,12,184,27⟩ (some ((a1,a2,a3),(.int (n:Nat) te,.ref (x.ia n),.int (-1) (tn n)))) Vf (aW s 5 (s2.toks+2)) (fi+1) Ra Xc vX Fd (c+7) (by push_cast at Rq⊢;lia) (.inl rfl) (by
      rw[Xd,gf,he];simp only[Option.toList_some,List.map_append,List.map_cons,List.map_nil,List.foldl_append,List.foldl_cons,List.foldl_nil];rw[←ha];rfl) (by lia) (by lia) ((H6.ch [3,9] hJ.symm [.l (CY _ _)]).p [1,7,8,4,2,3,5,6,0] 9))
    (Z n).length 0 (fM _) s1 _ qb (aW tn n 1939) (aW np n (-2)) c9 rep rfl (kZ hr) ((H2.ch [4,8] (hy (-2) 1939) [.l (r7 _ _)]).p [1,6,5,4,8,9,10,0,2,3,7] 11 (by rw[←Xb];kernel_rfl))
end
theorem zh[ZI]{Q:ZR}(w:ZW)(F G I J S V D U:Addr)(s:ZT)(po N:Int)(x:Sx.NS)(p:Nat->Nat)(E:List Bk)(bg:List aQ)(T:Nat->ZN)(C:(p4 p).Nodup)(hx:∀u∈p4 p,bW (x.sc u) (T u))(z:∀u∈p4 p,∀w∈T u,w∈p4 p)(v:∀u∈p4 p,(T u).length<=7)(Z:Nat×Tok)(Y:List (Nat×Tok))(y:Y.length<=3)(A:∀e∈Z::Y,e.1∈p4 p)(P:∀i e,(Z::Y)[i]?=some e->((((Z::Y).take i).map (·.1)).foldl (gq T) (x.np,[])).1 e.1=-1)(ep:Nat)(B:aS)(st:ZS)(pos:Pos)(b:Bt (eS w F G I J ⟨1013,8,1013,27⟩) none B)(H:Hq w st ([.o S (cp V),.o V (cn w.params s D (.ref U) po N),.o D (a9 (dl x (p4 p)) 4),.o U (ae [] ep),.l (aT x (p4 p))]++E) bg)(K:∀L s2 M R X W,(R,X.map (·.1))=((Z::Y).map (·.1)).foldl (gq T) (x.np,[])->Hq w L ([.o S (cp V),.o V (cn w.params s2 D (.ref U) po (N+((Z::Y).length:Nat))),.o D (a9 (dl x (p4 p)) 4),.o U (ae (iv X) W),.l (aT (x.upd R M) (p4 p))]++E) bg->Q (.ok (.ret .none)) L):Rn w B st (.call (.ref 194) ⟨.ref S::iv (Z::Y),[]⟩) pos Q:=kS [0,1] b H (fun fr=>Nn w F G I J S V D U s po N Z Y fr pos (zN st) st.toks st.gens y:) (fun a=>aj) fun fr s1 H1 m r=>
  zg w F G I J S V D st.heap.objs.size (st.heap.objs.size+1) (st.heap.objs.size+2) U st.toks (st.toks+1) (st.toks+4) x p bg T C hx z (fun u t=>au (v u t) (dc rfl)) (Z::Y) A po _ E (x.np,[]) P v m r (fun s2 L M R X W g1 n=>
   pE [] b n (fun O=>NF w F G I J S V D U s po N Z Y fr pos (zN st) st.toks st.gens O (zN s2) s2.toks s2.gens y:) (fun a=>aj) fun O s3 q=>K s3 L M R X W g1 ((q.ch [4,5] (kb (x.upd R M) (p4 p)).symm [.l (aT _ _)]).p [2,3,1,4,0] 5))
   (Z::Y).length 0 (fM _) s1 _ none none s N x.tn x.np [] ep 0 rfl (.inr rfl) rfl (by simp) (by simp;lia) ((H1.ch [7] (kb x (p4 p)) [.l (r7 _ _),.l (CY _ _)]).p [5,6,4,7,2,3,8,0,1] 9)
end
section
set_option tactic.hygienic false
noncomputable def bZ(w:ZW)(k:ZT)(R S T Q W V U:Addr)(Y:Bool)(Z:ZV)(X:List DictEntry)(n:Nat):Obj:=nD ⟨[dE w.params u9 (k 0) (.ref R),dE w.params Iy (k 1) (.ref S),dE w.params [118] (k 2) Z,dE w.params [114,101,102,117,115,101,100] (k 3) (.bool Y),dE w.params [116,101,120,116,115] (k 4) (.ref T),dE w.params [114,111,117,110,100,115] (k 5) (.ref Q)]++X⟩ n (lx W V U true)
def Vg(w:ZW)(S W D V:Addr)(s:ZT)(po X:Int)(Z:ZY)(ep:Nat)(iS Y U:Nat):aX pg w (kp w):=Ct.ai (fun _:Unit=>EZ w S W D V s po X Z ep) (fun a=>FP w S W D V s po X Z ep) (fun a a a a a=>()) [iS,Y,U] []
def Vh(w:ZW):Stmt:=(Cs (eK w 7)).getD 1 default
def Xe(w:ZW):Stmt:=(rS (Vh w)).getD 1 default
def Am(w:ZW)(W X Y Z V:Addr):Code:=f6 (Vh w) V (bz w W X Y Z)
def vZ(w:ZW)(W X Y Z V:Addr):Code:=f6 (Xe w) V (bz w W X Y Z)
def C0(w:ZW)(W X Y Z V:Addr):ZC:=(Am w W X Y Z V,⟨1006,35,1006,43⟩)::eS w W X Y Z ⟨1004,17,1004,22⟩
inductive LX where
 |x0
 |x1 (tg:Tok) (vg:ZV)
 |x2 (tg:Tok) (vg:ZV) (tw:Tok) (vw:ZV)
 |x5 (tg:Tok) (vg:ZV) (tw:Tok) (vw:ZV) (tu ta td:Tok) (vu va vd:ZV)
 |x6 (tg:Tok) (vg:ZV) (tw:Tok) (vw:ZV) (tu ta td:Tok) (vu va vd:ZV) (tt:Tok) (vt:ZV)
section
universe u
variable{β:Type u}
def xF(f:LX->β):β×(Tok->ZV->β)×(Tok->ZV->Tok->ZV->β)×(Tok->ZV->Tok->ZV->Tok->Tok->Tok->ZV->ZV->ZV->β)×(Tok->ZV->Tok->ZV->Tok->Tok->Tok->ZV->ZV->ZV->Tok->ZV->β):=(f .x0,fun(tg:Tok) (vg:ZV)=>f (.x1 tg vg),fun(tg:Tok) (vg:ZV) (tw:Tok) (vw:ZV)=>f (.x2 tg vg tw vw),fun(tg:Tok) (vg:ZV) (tw:Tok) (vw:ZV) (tu:Tok) (ta:Tok) (td:Tok) (vu:ZV) (va:ZV) (vd:ZV)=>f (.x5 tg vg tw vw tu ta td vu va vd),fun(tg:Tok) (vg:ZV) (tw:Tok) (vw:ZV) (tu:Tok) (ta:Tok) (td:Tok) (vu:ZV) (va:ZV) (vd:ZV) (tt:Tok) (vt:ZV)=>f (.x6 tg vg tw vw tu ta td vu va vd tt vt))
def xG(f:LX->β):β×(Tok->ZV->β)×(Tok->ZV->Tok->ZV->β)×(Tok->ZV->Tok->ZV->Tok->Tok->Tok->ZV->ZV->ZV->β)×(Tok->ZV->Tok->ZV->Tok->Tok->Tok->ZV->ZV->ZV->Tok->ZV->β):=(f .x0,fun(tg:Tok) (vg:ZV)=>f (.x1 tg vg),fun(tg:Tok) (vg:ZV) (tw:Tok) (vw:ZV)=>f (.x2 tg vg tw vw),fun(tg:Tok) (vg:ZV) (tw:Tok) (vw:ZV) (tu:Tok) (ta:Tok) (td:Tok) (vu:ZV) (va:ZV) (vd:ZV)=>f (.x5 tg vg tw vw tu ta td vu va vd),fun(tg:Tok) (vg:ZV) (tw:Tok) (vw:ZV) (tu:Tok) (ta:Tok) (td:Tok) (vu:ZV) (va:ZV) (vd:ZV) (tt:Tok) (vt:ZV)=>f (.x6 tg vg tw vw tu ta td vu va vd tt vt))
theorem gA{f g:LX->β}(a:LX)(h:xF f=xG g):f a=g a:=by
 cases a with
 |x0=>exact congrArg (·.1) h
 |x1 tg vg=>exact congrFun (congrFun (congrArg (·.2.1) h) tg) vg
 |x2 tg vg tw vw=>exact congrFun (congrFun (congrFun (congrFun (congrArg (·.2.2.1) h) tg) vg) tw) vw
 |x5 tg vg tw vw tu ta td vu va vd=>exact congrFun (congrFun (congrFun (congrFun (congrFun (congrFun (congrFun (congrFun (congrFun (congrFun (congrArg (·.2.2.2.1) h) tg) vg) tw) vw) tu) ta) td) vu) va) vd
 |x6 tg vg tw vw tu ta td vu va vd tt vt=>exact congrFun (congrFun (congrFun (congrFun (congrFun (congrFun (congrFun (congrFun (congrFun (congrFun (congrFun (congrFun (congrArg (·.2.2.2.2) h) tg) vg) tw) vw) tu) ta) td) vu) va) vd) tt) vt
end
noncomputable def LX.l(P:Params):LX->List DictEntry
 |.x0=>[]
 |.x1 tg vg=>[dE P [103,114,111,117,112] tg vg]
 |.x2 tg vg tw vw=>[dE P [103,114,111,117,112] tg vg,dE P [119,111,114,100,115] tw vw]
 |.x5 tg vg tw vw tu ta td vu va vd=>[dE P [103,114,111,117,112] tg vg,dE P [119,111,114,100,115] tw vw,dE P [117,110,100,101,114] tu vu,dE P QL ta va,dE P [119,111,114,100] td vd]
 |.x6 tg vg tw vw tu ta td vu va vd tt vt=>[dE P [103,114,111,117,112] tg vg,dE P [119,111,114,100,115] tw vw,dE P [117,110,100,101,114] tu vu,dE P QL ta va,dE P [119,111,114,100] td vd,dE P [116,117,114,110] tt vt]
noncomputable def LX.n:LX->Nat
 |.x0=>0|.x1 ..=>1|.x2 ..=>2|.x5 ..=>5|.x6 ..=>6
noncomputable def LX.setG(x:LX)(t:Tok)(v:ZV):LX:=match x with
 |.x0=>.x1 t v
 |.x1 tg _=>.x1 tg v
 |.x2 tg _ a b=>.x2 tg v a b
 |.x5 tg _ a b c d e f q h=>.x5 tg v a b c d e f q h
 |.x6 tg _ a b c d e f q h i j=>.x6 tg v a b c d e f q h i j
noncomputable def LX.eW(x:LX)(t:Tok)(v:ZV):LX:=match x with
 |.x0=>.x0
 |.x1 tg q=>.x2 tg q t v
 |.x2 tg q a _=>.x2 tg q a v
 |.x5 tg q a _ c d e f Z h=>.x5 tg q a v c d e f Z h
 |.x6 tg q a _ c d e f Z h i j=>.x6 tg q a v c d e f Z h i j
noncomputable def LX.v5:LX->Bool
 |.x0=>false|_=>true
noncomputable def LX.kd(x:LX)(tu ta td:Tok)(vu va vd:ZV):LX:=match x with
 |.x0=>.x0
 |.x1 tg q=>.x1 tg q
 |.x2 tg q a b=>.x5 tg q a b tu ta td vu va vd
 |.x5 tg q a b c d e _ _ _=>.x5 tg q a b c d e vu va vd
 |.x6 tg q a b c d e _ _ _ i j=>.x6 tg q a b c d e vu va vd i j
noncomputable def LX.nL(x:LX)(t:Tok)(v:ZV):LX:=match x with
 |.x0=>.x0
 |.x1 tg q=>.x1 tg q
 |.x2 tg q a b=>.x2 tg q a b
 |.x5 tg q a b c d e f g h=>.x6 tg q a b c d e f g h t v
 |.x6 tg q a b c d e f g h i _=>.x6 tg q a b c d e f g h i v
noncomputable def LX.ke:LX->Bool
 |.x0=>false|.x1 ..=>false|_=>true
section
variable(w:ZW)(Q R T U K S L J Y D W:Nat)(k s:ZT)(po V:Int)(O:Bool)(P:ZV)(X:List DictEntry)(n ep:Nat)(Z:Nat×Tok)(M:List (Nat×Tok))(fr:ZL)(pos:Pos)(N t:Nat)(G:ZG)
def C1:ZH w:=jn [dz 0xea05,[(3,.ai (Vg w S Y D W s po V (iv (Z::M)) ep 1 2 3))],dz 0xea13,[(3,.stop)]]
def tf:ay:=aq (V0 w (cA w Q R T U ⟨1002,4,1013,27⟩)) (C1 w S Y D W s po V ep Z M) fr (vW w Q R T U) pos [(Q,bZ w k K S L J U T R O P X n),(S,cp Y),(Y,cn w.params s D (.ref W) po V),(W,ae (iv (Z::M)) ep)] [] N t G
abbrev NH:dK:=⟨(tf w Q R T U K S L J Y D W k s po V O P X n ep Z M fr pos N t G),(.call (.ref 173) ⟨[(.ref S)],[]⟩),⟨[(Q,bZ w k K S L J U T R O P X n),(S,cp Y),(Y,cn w.params s D (.ref W) po V),(W,ae (iv (Z::M)) ep)],[],[(iv (Z::M)).length<=4,decide (V<po)=false]⟩,(Nf fr 0),(Tf fr 0)⟩
theorem NI:(NH w Q R T U K S L J Y D W k s po V O P X n ep Z M fr pos N t G).ok (V0 w (cA w Q R T U ⟨1002,4,1013,27⟩)) (C1 w S Y D W s po V ep Z M) pos (eS w Q R T U ⟨1003,16,1003,34⟩) 4 [] G:=by apply aC w;kernel_rfl
def C2:ZH w:=jn [dz 0xea05,[(3,.ai (Vg w S Y D W s po V [] ep 1 2 3))],[(2,.fin)]]
def NJ:ay:=aq (V0 w (cA w Q R T U ⟨1002,4,1013,27⟩)) (C2 w S Y D W s po V ep) fr (vW w Q R T U) pos [(Q,bZ w k K S L J U T R O P X n),(S,cp Y),(Y,cn w.params s D (.ref W) po V),(W,ae [] ep)] [] N t G
abbrev NK:dp:=⟨(NJ w Q R T U K S L J Y D W k s po V O P X n ep fr pos N t G),(.ok .next),⟨[(Q,bZ w k K S L J U T R O P X n),(S,cp Y),(Y,cn w.params s D (.ref W) po V),(W,ae [] ep)],[],[([]:ZY).length<=4,decide (V<po)=false]⟩,(Nf fr 0),(Tf fr 0)⟩
theorem NL:(NK w Q R T U K S L J Y D W k s po V O P X n ep fr pos N t G).ok (C2 w S Y D W s po V ep) pos 4 [] G:=by apply aC w;kernel_rfl
end
theorem NM(w:ZW)(J Q R T O S P K M D L:Nat)(k s:ZT)(po V:Int)(W:Bool)(Y:ZV)(X H:List DictEntry)(n I ep:Nat)(Z:Nat×Tok)(U:List (Nat×Tok))(fr:ZL)(pos:Pos)(N t:Nat)(G:ZG):bp (tf w J Q R T O S P K M D L k s po V W Y X n ep Z U fr pos N t G)=bp (tf w J Q R T O S P K M D L k s po V W Y H I ep Z U fr pos N t G):=by apply aC w;kernel_rfl
section
variable(w:ZW)(M O P Q I S J H C D B:Nat)(k s:ZT)(po F:Int)(K:Bool)(L:ZV)(X:List DictEntry)(n ep:Nat)(V:Nat×Tok)(E:List (Nat×Tok))(a:LX)(T:Nat)(vs:ZY)(Y:ZL)(Z:Pos)(U W:Nat)(R:ZG)(fr:ZL)(N t:Nat)(G:ZG)
def C3:ZH w:=jn [dz 0x19060103c9,[(0,.stop)]]
def th:ay:=bo (V0 w (cA w M O P Q ⟨1002,4,1013,27⟩)) (C3 w) fr (tf w M O P Q I S J H C D B k s po F K L X n ep V E Y Z U W R) (.ok (.ret (.ref T))) [(M,bZ w k I S J H Q P O K L (a.l w.params) (n+a.n)),(T,bK vs 0)] [] N t G
abbrev NN:dK:=⟨(th w M O P Q I S J H C D B k s po F K L X n ep V E a T vs Y Z U W R fr N t G),(Am w M O P Q N),⟨[(M,bZ w k I S J H Q P O K L ((a.setG t (.ref T)).l w.params) (n+(a.setG t (.ref T)).n)),(T,bK vs 0)],[(N,⟨(.type "tuple_iterator"),none,(.fields ⟨[(.ref T),(.int 0 0)]⟩),⟨[]⟩⟩)],[]⟩,(N+1),(t+1)⟩
theorem NO:(NN w M O P Q I S J H C D B k s po F K L X n ep V E a T vs Y Z U W R fr N t G).ok (V0 w (cA w M O P Q ⟨1002,4,1013,27⟩)) (C3 w) ⟨0,0,0,0⟩ (eS w M O P Q ⟨1004,17,1004,22⟩) 2 [2] G:=by apply gA a;apply aC w;kernel_rfl
end
theorem NP(w:ZW)(B J K L H S I C F D E:Nat)(k s:ZT)(po O:Int)(P:Bool)(Q:ZV)(X:List DictEntry)(n ep:Nat)(V:Nat×Tok)(M:List (Nat×Tok))(a:LX)(T:Nat)(vs:ZY)(Y:ZL)(Z:Pos)(U W:Nat)(R:ZG)(fr:ZL)(N t:Nat)(G:ZG):bp (th w B J K L H S I C F D E k s po O P Q X n ep V M a T vs Y Z U W R fr N t G)=bp (th w B J K L H S I C F D E k s po O P Q X n ep V M .x0 T vs Y Z U W R fr N t G):=by apply gA a;apply aC w;kernel_rfl
section
variable(w:ZW)(W Z X Y M S O L U T J:Nat)(k:ZT)(P:Bool)(K:ZV)(a:LX)(ne:Nat)(vs:ZY)(i n:Nat)(Q:Tok)(V:Nat->Nat)(R:Nat)(rs:ZY)(ep:Nat)(fr:ZL)(pos:Pos)(N t:Nat)(G:ZG)
def C4:ZH w:=jn [dz 0xc0,[(0,.ai (qd 1 2 (.int n Q)))],dz 0x47261726f4e1052c071dd5,[(0,.stop)]]
def pM:ay:=aq (V0 w (eS w W Z X Y ⟨1004,17,1004,22⟩)) (C4 w n Q) fr (Am w W Z X Y U) pos [(W,bZ w k M S O L Y X Z P K (a.l w.params) (ne+a.n)),(U,gy T i),(T,bK vs 0),(Z,aP (some (.ref J))),(J,ae [.ref (V 0),.ref (V 1),.ref (V 2),.ref (V 3)] R),((V n),ae rs ep)] [] N t G
abbrev NQ:dK:=⟨(pM w W Z X Y M S O L U T J k P K a ne vs i n Q V R rs ep fr pos N t G),(vZ w W Z X Y (N+1)),⟨[(W,bZ w k M S O L Y X Z P (.int n Q) ((a.eW (t+1) (.ref N)).l w.params) (ne+(a.eW (t+1) (.ref N)).n)),(U,gy T (i+1)),(T,bK vs 0),(Z,aP (some (.ref J))),(J,ae [.ref (V 0),.ref (V 1),.ref (V 2),.ref (V 3)] R),((V n),ae rs ep)],[(N,⟨(.type "list"),none,(.seq ⟨[]⟩ 0),⟨[]⟩⟩),((N+1),⟨(.type "list_iterator"),none,(.fields ⟨[(.ref (V n)),(.int 0 0)]⟩),⟨[]⟩⟩)],[vs[i]?=some (.int n Q)]⟩,(N+2),(t+2)⟩
theorem NR(I:a.v5=true)(hn:n<4):(NQ w W Z X Y M S O L U T J k P K a ne vs i n Q V R rs ep fr pos N t G).ok (V0 w (eS w W Z X Y ⟨1004,17,1004,22⟩)) (C4 w n Q) pos (C0 w W Z X Y U) 6 [6,7] G:=by apply rR (cY hn);apply mj I;apply gA a;apply aC w;kernel_rfl
def C5:ZH w:=jn [dz 0xc0,[(0,.ai (vx 1 2))],dz 0x14,[(1,.fin)]]
abbrev NT:dp:=⟨(aq (V0 w (eS w W Z X Y ⟨1004,17,1004,22⟩)) (C5 w) fr (Am w W Z X Y U) pos [(W,bZ w k M S O L Y X Z P K (a.l w.params) (ne+a.n)),(U,gy T i),(T,bK vs 0)] [] N t G),(.ok .next),⟨[(W,bZ w k M S O L Y X Z P K (a.l w.params) (ne+a.n)),(U,jO "tuple_iterator" i),(T,bK vs 0)],[],[vs[i]?=none]⟩,(N+2),t⟩
theorem NU(I:a.v5=true)(hn:n<4):(NT w W Z X Y M S O L U T k P K a ne vs i fr pos N t G).ok (C5 w) pos 3 [] G:=by apply aC w;kernel_rfl
end
theorem NV(w:ZW)(K Q R U O S P M J T L:Nat)(k:ZT)(W:Bool)(Y:ZV)(a:LX)(ne:Nat)(vs:ZY)(i:Nat)(n:Nat)(X:Tok)(V:Nat->Nat)(Z:Nat)(rs:ZY)(ep:Nat)(I:a.v5=true)(hn:n<4)(fr:ZL)(pos:Pos)(N t:Nat)(G:ZG):bp (pM w K Q R U O S P M J T L k W Y a ne vs i n X V Z rs ep fr pos N t G)=bp (pM w K Q R U O S P M J T L k W Y (.x1 0 .none) ne vs i 0 X V Z rs ep fr pos N t G):=by apply mj I;apply rR (cY hn);apply gA a;apply aC w;kernel_rfl
end
section
set_option tactic.hygienic false
section
variable(w:ZW)(V W X Y K S O J I Q T R P:Nat)(k:ZT)(L:Bool)(M:ZV)(a:LX)(ne:Nat)(vs:ZY)(ep i u:Nat)(tu tw:Tok)(l:List IE)(Z:Nat)(x:ZN)(tx:Tok)(ws:ZY)(U:Nat)(fr:ZL)(pos:Pos)(N t:Nat)(G:ZG)
def Gn:ZH w:=jn [dz 0xc0,[(0,.ai (fu 1 2 (.ref R)))],dz 0xce,[(0,.ai (rU 4 l Z (some (ar x tx))))],dz 0xedc2,[(0,.ai (eJ 5))],[(1,.tail)]]
def Gp:ay:=aq (V0 w (C0 w V W X Y I)) (Gn w R l Z x tx) fr (vZ w V W X Y Q) pos [(V,bZ w k K S O J Y X W L M ((a.eW 0 (.ref P)).l w.params) (ne+a.n)),(Q,bx T i),(T,ae vs ep),(R,bK [.int u tu,.int 0 tw] 0),(O,a9 l Z),(P,ae ws U)] [] N t G
noncomputable abbrev xP:Rs:=⟨[(V,bZ w k K S O J Y X W L M ((((a.eW 0 (.ref P)).kd t (t+1) (t+4) (.int u tu) (.int 0 tw) (ar x tx))).l w.params) (ne+(((a.eW 0 (.ref P)).kd t (t+1) (t+4) (.int u tu) (.int 0 tw) (ar x tx))).n)),(Q,bx T (i+1)),(T,ae vs ep),(R,bK [.int u tu,.int 0 tw] 0),(O,a9 l Z),(P,ae (ws++[(ar x tx)]) (U+1))],[],[ws.length<=16777216,aG l u=some (ar x tx),vs[i]?=some (.ref R)]⟩
theorem Gq(H:a.ke=true):vA 6 [] (Gp w V W X Y K S O J I Q T R P k L M a ne vs ep i u tu tw l Z x tx ws U fr pos N t G) (vZ w V W X Y Q) ⟨1010,16,1010,34⟩ (xP w V W X Y K S O J Q T R P k L M a ne vs ep i u tu tw l Z x tx ws U t) (N+7) (t+7) G 0:=by apply mj H;apply gA a;apply aC w;kernel_rfl
def Gr:ZH w:=jn [dz 0xc0,[(0,.ai (fu 1 2 (.ref R)))],dz 0xce,[(0,.ai (rU 4 l Z (some (ar x tx))))],dz 0xe4c2,[(3,.ai (Rg w))],dz 0xed1bee45db,[(0,.ai (eJ 5))],[(1,.tail)]]
def Gs:ay:=aq (V0 w (C0 w V W X Y I)) (Gr w R l Z x tx) fr (vZ w V W X Y Q) pos [(V,bZ w k K S O J Y X W L M ((a.eW 0 (.ref P)).l w.params) (ne+a.n)),(Q,bx T i),(T,ae vs ep),(R,bK [.int u tu,.int 1 tw] 0),(O,a9 l Z),(P,ae ws U)] [] N t G
noncomputable abbrev xQ:Rs:=⟨[(V,bZ w k K S O J Y X W L M ((((a.eW 0 (.ref P)).kd t (t+1) (t+4) (.int u tu) (.int 1 tw) (ar (aV x) (Gf fr 2 0))).nL (t+8) (.int 0 (t+7))).l w.params) (ne+(((a.eW 0 (.ref P)).kd t (t+1) (t+4) (.int u tu) (.int 1 tw) (ar (aV x) (Gf fr 2 0))).nL (t+8) (.int 0 (t+7))).n)),(Q,bx T (i+1)),(T,ae vs ep),(R,bK [.int u tu,.int 1 tw] 0),(O,a9 l Z),(P,ae (ws++[(ar (aV x) (Gf fr 2 0))]) (U+1))],[],[ws.length<=16777216,iK x/\(aV x).length<=4000,aG l u=some (ar x tx),vs[i]?=some (.ref R)]⟩
theorem Gu(H:a.ke=true):vA 6 [] (Gs w V W X Y K S O J I Q T R P k L M a ne vs ep i u tu tw l Z x tx ws U fr pos N t G) (vZ w V W X Y Q) ⟨1010,16,1010,34⟩ (xQ w V W X Y K S O J Q T R P k L M a ne vs ep i u tu tw l Z x tx ws U fr t) ((Nf fr 2)+2) ((Tf fr 2)+1) G 0:=by apply mj H;apply gA a;apply aC w;kernel_rfl
def Gv:ZH w:=jn [dz 0xc0,[(0,.ai (fu 1 2 (.ref R)))],dz 0xce,[(0,.ai (rU 4 l Z (some (ar x tx))))],dz 0xe4c2,[(3,.ai (Rg w))],dz 0xe41bee45db,[(3,.ai (Rg w))],dz 0xed1bee45db,[(0,.ai (eJ 5))],[(1,.tail)]]
def Gw:ay:=aq (V0 w (C0 w V W X Y I)) (Gv w R l Z x tx) fr (vZ w V W X Y Q) pos [(V,bZ w k K S O J Y X W L M ((a.eW 0 (.ref P)).l w.params) (ne+a.n)),(Q,bx T i),(T,ae vs ep),(R,bK [.int u tu,.int 2 tw] 0),(O,a9 l Z),(P,ae ws U)] [] N t G
noncomputable abbrev xR:Rs:=⟨[(V,bZ w k K S O J Y X W L M ((((a.eW 0 (.ref P)).kd t (t+1) (t+4) (.int u tu) (.int 2 tw) (ar (aV (aV x)) (Gf fr 3 0))).nL (t+8) (.int 1 ((Tf fr 2)+1))).l w.params) (ne+(((a.eW 0 (.ref P)).kd t (t+1) (t+4) (.int u tu) (.int 2 tw) (ar (aV (aV x)) (Gf fr 3 0))).nL (t+8) (.int 1 ((Tf fr 2)+1))).n)),(Q,bx T (i+1)),(T,ae vs ep),(R,bK [.int u tu,.int 2 tw] 0),(O,a9 l Z),(P,ae (ws++[(ar (aV (aV x)) (Gf fr 3 0))]) (U+1))],[],[ws.length<=16777216,iK (aV x)/\(aV (aV x)).length<=4000,iK x/\(aV x).length<=4000,aG l u=some (ar x tx),vs[i]?=some (.ref R)]⟩
theorem Gx(H:a.ke=true):vA 6 [] (Gw w V W X Y K S O J I Q T R P k L M a ne vs ep i u tu tw l Z x tx ws U fr pos N t G) (vZ w V W X Y Q) ⟨1010,16,1010,34⟩ (xR w V W X Y K S O J Q T R P k L M a ne vs ep i u tu tw l Z x tx ws U fr t) ((Nf fr 3)+2) ((Tf fr 3)+1) G 0:=by apply mj H;apply gA a;apply aC w;kernel_rfl
def C6:ZH w:=jn [dz 0xc0,[(0,.ai (qf 1 2))],dz 0x14,[(1,.fin)]]
abbrev NW:dp:=⟨(aq (V0 w (C0 w V W X Y I)) (C6 w) fr (vZ w V W X Y Q) pos [(V,bZ w k K S O J Y X W L M (a.l w.params) (ne+a.n)),(Q,bx T i),(T,ae vs ep)] [] N t G),(.ok .next),⟨[(V,bZ w k K S O J Y X W L M (a.l w.params) (ne+a.n)),(Q,jO "list_iterator" i),(T,ae vs ep)],[],[vs[i]?=none]⟩,(N+2),t⟩
theorem NX(R:a.ke=true):(NW w V W X Y K S O J I Q T k L M a ne vs ep i fr pos N t G).ok (C6 w) pos 3 [] G:=by apply aC w;kernel_rfl
end
section
variable(w:ZW)(M Q R U H S P F B T v:Nat)(k:ZT)(I:Bool)(A:ZV)(ne:Nat)(vs:ZY)(i n:Nat)(K:Tok)(z:Nat->Nat)(E:Nat)(rs:ZY)(ep:Nat)(b:LX)(C J:Nat)(y:Wd)(D:List Wd)(W:Nat)(l:List IE)(Z:Nat)(x:Option Addr)(X:ZL)(Y:Pos)(O V:Nat)(L:ZG)(fr:ZL)(N t:Nat)(G:ZG)
def NY:ZH w:=jn [dz 0x291408162308142e09,[(2,.ai (oJ w (y::D) x 3 2))],dz 0x30103d7,[(0,.ai (mX 1 l Z))],[(0,.tail)]]
def NZ:ay:=bo (V0 w (eS w M Q R U ⟨1004,17,1004,22⟩)) (NY w y D l Z x) fr (pM w M Q R U H S P F B T v k I A (.x1 0 .none) ne vs i 0 K z E rs ep X Y O V L) (.ok .next) [(M,bZ w k H S P F U R Q I (.int n K) ((b.eW 0 (.ref J)).l w.params) (C+b.n)),(P,a9 l Z),(917,gw x),(J,ae ((y::D).map cj) W)] [] N t G
noncomputable abbrev C7:Rs:=⟨[(M,bZ w k H S P F U R Q I (.int n K) ((b.eW 0 (.ref J)).l w.params) (C+b.n)),(P,a9 (l++[((n:Int),K,.str ⟨⟨j9 ((y::D).map r5)⟩⟩ (Gf fr 0 0))]) (Z+1)),(917,gw (some (Gf fr 0 1))),(J,ae ((y::D).map cj) W)],[],[aG l n=none,l.length<=1000,Ju (y::D)]⟩
theorem N0(hn:n<4)(u:b.ke=true):vA 4 [] (NZ w M Q R U H S P F B T v k I A ne vs i n K z E rs ep b C J y D W l Z x X Y O V L fr N t G) (Am w M Q R U B) ⟨1011,12,1011,20⟩ (C7 w M Q R U H S P F k I n K b C J y D W l Z fr) (Nf fr 0) ((Tf fr 0)+1) G 1:=by apply rR (cY hn);apply mj u;apply gA b;apply aC w;kernel_rfl
def N1:ZH w:=jn [dz 0x30103057713080b0802e709,[(0,.ai (mX 1 l Z))],[(0,.tail)]]
def N2:ay:=bo (V0 w (eS w M Q R U ⟨1004,17,1004,22⟩)) (N1 w l Z) fr (pM w M Q R U H S P F B T v k I A (.x1 0 .none) ne vs i 0 K z E rs ep X Y O V L) (.ok .next) [(M,bZ w k H S P F U R Q I (.int n K) ((b.eW 0 (.ref J)).l w.params) (C+b.n)),(P,a9 l Z),(J,ae [] W)] [] N t G
noncomputable abbrev C8:Rs:=⟨[(M,bZ w k H S P F U R Q I (.int n K) ((b.eW 0 (.ref J)).l w.params) (C+b.n)),(P,a9 (l++[((n:Int),K,.str ⟨⟨[97+n,61,122]⟩⟩ (t+3))]) (Z+1)),(J,ae [] W)],[],[aG l n=none,l.length<=1000]⟩
theorem N3(hn:n<4)(y:b.ke=true):vA 3 [] (N2 w M Q R U H S P F B T v k I A ne vs i n K z E rs ep b C J W l Z X Y O V L fr N t G) (Am w M Q R U B) ⟨1011,12,1011,20⟩ (C8 w M Q R U H S P F k I n K b C J W l Z t) (N+1) (t+5) G 0:=by apply rR (cY hn);apply mj y;apply gA b;apply aC w;kernel_rfl
end
end
section
set_option tactic.hygienic false
section
variable(w:ZW)(B C E F o S p x y D m:Nat)(k s:ZT)(po h:Int)(q:Bool)(i:ZV)(X:List DictEntry)(n ep:Nat)(Z:Nat×Tok)(U:List (Nat×Tok))(T:Nat)(b:LX)(j:Nat)(v2:ZV)(R:ZY)(J:Nat)(z:List Int)(s2:ZT)(I H:Int)(V:ZL)(Y:Pos)(M P:Nat)(K:ZG)(W:ZL)(O Q:Nat)(L:ZG)(A:ZL)(u v:Nat)(r:ZG)(fr:ZL)(N t:Nat)(G:ZG)
def N4:ZH w:=jn [dz 0xd01d40309,[(5,.ai (xr 5 4))],dz 0x3217,[(0,.ai (lT 6 ((Z::U).map fun e=>(e.1:Int)) z))],dz 0xa,[(0,.ai (eJ 1))],dz 0x162f1a0b561f0e0c,[(2,.ai (xr 8 4))],dz 0x2a2b27,[(0,.stop)]]
def C9:ay:=bo (V0 w (cA w B C E F ⟨1002,4,1013,27⟩)) (N4 w Z U z) fr (th w B C E F o S p x y D m k s po h q i X n ep Z U .x0 T (iv (Z::U)) V Y M P K W O Q L) (.ok .next) [(B,bZ w k o S p x F E C q v2 ((b.setG 0 (.ref T)).l w.params) (j+b.n)),(x,ae R J),(S,cp y),(y,cn w.params s2 D (.ref m) I H),(T,bK (iv (Z::U)) 0)] [] N t G
noncomputable abbrev Dc:Rs:=⟨[(B,bZ w k o S p x F E C q v2 ((b.setG 0 (.ref T)).l w.params) (j+b.n)),(x,ae (R++[.ref (N+1)]) (J+1)),(S,cp y),(y,cn w.params s2 D (.ref m) I H),(T,bK (iv (Z::U)) 0)],[((N+1),ae (ib z (Fr fr 1)) 2)],[([]:ZY).length+(iv (Z::U)).length<=16777216,R.length<=16777216,PyProof.Rows.IntsAre (iv (Z::U)) ((Z::U).map fun e=>(e.1:Int)),(iv (Z::U)).length<64,z.Perm ((Z::U).map fun e=>(e.1:Int))/\z.Pairwise (·<=·),([]:ZY).length+(iv (Z::U)).length<=16777216]⟩
theorem N5(g:b.ke=true)(l:U.length<=3):I7 (V0 w (cA w B C E F ⟨1002,4,1013,27⟩)) 5 [6] (C9 w B C E F o S p x y D m k s po h q i X n ep Z U T b j v2 R J z s2 I H V Y M P K W O Q L fr N t G) (.call (.ref 194) ⟨.ref S::iv (Z::U),[]⟩) (eS w B C E F ⟨1013,8,1013,27⟩) none (Dc w B C E F o S p x y D m k q Z U T b j v2 R J z s2 I H fr N) (N+6) (t+1) G 0:=by apply c5 l;apply mj g;apply gA b;apply aC w;kernel_rfl
def Dd:ZH w:=jn [[(1,.tail)]]
abbrev N6:c7:=⟨(bo (V0 w (cA w B C E F ⟨1002,4,1013,27⟩)) (Dd w) fr (C9 w B C E F o S p x y D m k s po h q i X n ep Z U T b j v2 R J z s2 I H V Y M P K W O Q L A u v r) (.ok (.ret .none)) [] [] N t G),(vW w B C E F),⟨1013,8,1013,27⟩,⟨[],[],[]⟩,N,t⟩
theorem N7(g:b.ke=true)(l:U.length<=3):(N6 w B C E F o S p x y D m k s po h q i X n ep Z U T b j v2 R J z s2 I H V Y M P K W O Q L A u v r fr N t G).ok (Dd w) ⟨0,0,0,0⟩ 0 [] G:=by apply c5 l;apply mj g;apply gA b;apply aC w;kernel_rfl
end
end
section
set_option tactic.hygienic false
theorem fH{α:Type}{x:α}{l:List α}(h:x∈l):∃R,l.Perm (x::R):=by obtain⟨a,b,rfl⟩:=sr h;exact⟨a++b,List.perm_middle⟩
structure LX.v7(a:LX)(WL:Addr):Prop where
 has:a.ke=true
 eq:a.eW 0 (.ref WL)=a
theorem LX.v7.u{a:LX}{Z:Addr}(h:a.v7 Z)(t1 X t3:Tok)(v1 v2 Y:ZV):(a.kd t1 X t3 v1 v2 Y).v7 Z:=by obtain⟨W,h2⟩:=h;cases a<;>first|exact Bool.noConfusion W|(cases h2;exact⟨rfl,rfl⟩)
theorem LX.v7.t{a:LX}{Z:Addr}(h:a.v7 Z)(t:Tok)(v:ZV):(a.nL t v).v7 Z:=by obtain⟨Y,h2⟩:=h;cases a<;>first|exact Bool.noConfusion Y|(cases h2;exact⟨rfl,rfl⟩)
structure LX.nM(a:LX)(T:Addr):Prop where
 has:a.v5=true
 eq:a.setG 0 (.ref T)=a
theorem LX.nM.u{a:LX}{T:Addr}(h:a.nM T)(t1 Y t3:Tok)(v1 v2 Z:ZV):(a.kd t1 Y t3 v1 v2 Z).nM T:=by obtain⟨X,h2⟩:=h;cases a<;>first|exact Bool.noConfusion X|(cases h2;exact⟨rfl,rfl⟩)
theorem LX.nM.t{a:LX}{T:Addr}(h:a.nM T)(t:Tok)(v:ZV):(a.nL t v).nM T:=by obtain⟨Z,h2⟩:=h;cases a<;>first|exact Bool.noConfusion Z|(cases h2;exact⟨rfl,rfl⟩)
theorem LX.nM.w{a:LX}{T:Addr}(h:a.nM T)(t:Tok)(v:ZV):(a.eW t v).nM T:=by obtain⟨Z,h2⟩:=h;cases a<;>first|exact Bool.noConfusion Z|(cases h2;exact⟨rfl,rfl⟩)
theorem LX.Bj{a:LX}(h:a.v5=true)(t:Tok)(Z:Addr):(a.eW t (.ref Z)).v7 Z:=by cases a<;>first|exact Bool.noConfusion h|exact⟨rfl,rfl⟩
theorem LX.Bl(a:LX)(t:Tok)(T:Addr):(a.setG t (.ref T)).nM T:=by cases a<;>exact⟨rfl,rfl⟩
noncomputable def mC:Nat->ZN->ZN
 |0,x=>x
 |n+1,x=>aV (mC n x)
def Rr(n:Nat)(x:ZN):Prop:=n<=2/\(1<=n->iK x/\(aV x).length<=4000)/\(2<=n->iK (aV x)/\(aV (aV x)).length<=4000)
section
variable(w:ZW)(P V W X J S U I F G N O:Addr)(k:ZT)(L:Bool)(M:ZV)(rs:List aK)(Z:Nat)(l:List IE)(Y:Nat)(tx:Nat->ZN)(E:List Bk)(bg:List aQ)(hT:∀r∈rs,(∃t,aG l r.u=some (ar (tx r.u) t))/\Rr r.w (tx r.u))(D:rs.length<=7)
include hT D in
theorem Bm[ZI]{Q:ZR}(FW:ZL)(T:Addr)(B:aS)(b:Bt (C0 w P V W X F) none B)(K:∀s' (a:LX) nb (ws:List Wd) m8,a.v7 O->a.nM T->ws.map (·.1)=FW->Hq w s' ([.o P (bZ w k J S U I X W V L M (a.l w.params) (nb+a.n)),.o N (ae (bh rs) Z),.o U (a9 l Y),.o O (ae (ws.map cj) m8),.l (rs.map aK.led)]++E) bg->Q (.ok .next) s'):∀(m i:Nat),i+m=rs.length->∀(st:ZS)(pos:Pos)(a:LX)(nb:Nat)(ws:List Wd)(m8:Nat),a.v7 O->a.nM T->ws.length<=7+i->ws.map (·.1)++(rs.drop i).map (fun r=>mC r.w (tx r.u))=FW->
  Hq w st ([.o P (bZ w k J S U I X W V L M (a.l w.params) (nb+a.n)),.o G (bx N i),.o N (ae (bh rs) Z),.o U (a9 l Y),.o O (ae (ws.map cj) m8),.l (rs.map aK.led)]++E) bg->
  Rn w B st (vZ w P V W X G) pos Q:=by
 intro m;induction m with
 |zero=>
  intro i hi st pos a nb ws m8 ha hg pN Rt H;obtain rfl:i=rs.length:=hi;exact kF [0,1,2] b H (fun fr=>NX w P V W X J S U I F G N k L M a nb (bh rs) Z rs.length fr pos (zN st) st.toks st.gens ha.has:) (fun _=>aa (by simp[bh]) aj) fun fr s' H'=>K s' a nb ws m8 ha hg (by simpa using Rt) (H'.p [0,2,3,4,5] 6)
 |succ m ih=>
  intro i hi st pos a nb ws m8 ha hg pN Rt H;have jW:i<rs.length:=by exact lA hi
  obtain⟨r,hr⟩:∃r,rs[i]?=some r:=⟨_,List.getElem?_eq_getElem jW⟩;have Vi:r∈rs:=List.mem_of_getElem? hr
  obtain⟨⟨tu,Gy⟩,Xf,Vj,Xg⟩:=hT r Vi;have kA:(bh rs)[i]?=some (.ref r.a):=by simp[bh,hr]
  have N8:rs.drop i=r::rs.drop (i+1):=by
   rw[List.drop_eq_getElem_cons jW];rw[List.getElem?_eq_getElem jW]at hr;cases hr;rfl
  have hlen:(ws.map cj).length<=16777216:=by rw[aB];lia
  obtain⟨R,hR⟩:=fH (b7 (f:=aK.led) Vi);have Ru:∀(x:ZN)(t:Tok),x=mC r.w (tx r.u)->(ws++[(x,t)]).map (·.1)++(rs.drop (i+1)).map (fun r=>mC r.w (tx r.u))=FW:=fun x t hx=>by rw[←Rt,N8,hx];simp
  have H1:=H.ch [5] hR [.o _ _,.l R]
  obtain⟨ra,ru,De,JI,Df⟩:=r;have hq:JI=0\/JI=1\/JI=2:=by have:JI<=2:=Xf;lia
  have xS:∀x:Wd,(ws++[x]).length<=7+(i+1):=fun x=>by simp;exact su pN 1
  rcases hq with rfl|rfl|rfl
  .exact Sx.hT (hL:=by rw[ha.eq];kernel_rfl) [2,3,4,0,5,6] b H1 (fun fr=>Gq w P V W X J S U I F G N ra O k L M a nb (bh rs) Z i ru De Df l Y (tx ru) tu (ws.map cj) m8 fr pos (zN st) st.toks st.gens ha.has:) (fun _=>rfl) (fun _=>aa hlen (aa Gy (aa kA aj))) fun fr s' H'=>
    ih (i+1) (lB hi) s' _ (a.kd st.toks (st.toks+1) (st.toks+4) (.int ru De) (.int (0:Nat) Df) (ar (tx ru) tu)) nb (ws++[(tx ru,tu)]) (m8+1) (ha.u _ _ _ _ _ _) (hg.u _ _ _ _ _ _) (xS _) (Ru _ _ rfl) ((H'.ch [3,6] hR.symm [.l (rs.map aK.led)]).p [1,2,3,4,5,0] 6 (by dsimp only[xP];rw[ha.eq,aL];kernel_rfl))
  .exact Sx.hT (hL:=by rw[ha.eq];kernel_rfl) [2,3,4,0,5,6] b H1 (fun fr=>Gu w P V W X J S U I F G N ra O k L M a nb (bh rs) Z i ru De Df l Y (tx ru) tu (ws.map cj) m8 fr pos (zN st) st.toks st.gens ha.has:) (fun _=>rfl) (fun _=>aa hlen (aa (Vj (aM _)) (aa Gy (aa kA aj)))) fun fr s' H'=>
    ih (i+1) (lB hi) s' _ ((a.kd st.toks (st.toks+1) (st.toks+4) (.int ru De) (.int (1:Nat) Df) (ar (aV (tx ru)) (Gf fr 2 0))).nL (st.toks+8) (.int 0 (st.toks+7))) nb (ws++[(aV (tx ru),Gf fr 2 0)]) (m8+1) ((ha.u _ _ _ _ _ _).t _ _) ((hg.u _ _ _ _ _ _).t _ _) (xS _) (Ru _ _ rfl) ((H'.ch [3,6] hR.symm [.l (rs.map aK.led)]).p [1,2,3,4,5,0] 6 (by dsimp only[xQ];rw[ha.eq,aL];kernel_rfl))
  .exact Sx.hT (hL:=by rw[ha.eq];kernel_rfl) [2,3,4,0,5,6] b H1 (fun fr=>Gx w P V W X J S U I F G N ra O k L M a nb (bh rs) Z i ru De Df l Y (tx ru) tu (ws.map cj) m8 fr pos (zN st) st.toks st.gens ha.has:) (fun _=>rfl) (fun _=>aa hlen (aa (Xg (aM _)) (aa (Vj (iA 1)) (aa Gy (aa kA aj))))) fun fr s' H'=>
    ih (i+1) (lB hi) s' _ ((a.kd st.toks (st.toks+1) (st.toks+4) (.int ru De) (.int (2:Nat) Df) (ar (aV (aV (tx ru))) (Gf fr 3 0))).nL (st.toks+8) (.int 1 (Tf fr 2+1))) nb (ws++[(aV (aV (tx ru)),Gf fr 3 0)]) (m8+1) ((ha.u _ _ _ _ _ _).t _ _) ((hg.u _ _ _ _ _ _).t _ _) (xS _) (Ru _ _ rfl) ((H'.ch [3,6] hR.symm [.l (rs.map aK.led)]).p [1,2,3,4,5,0] 6 (by dsimp only[xR];rw[ha.eq,aL];kernel_rfl))
end
end
section
set_option tactic.hygienic false
theorem mq(l:List IE)(x:IE)(k:Int):aG (l++[x]) k=(aG l k).or (if x.1=k then some x.2.2 else none):=by
 induction l with
 |nil=>show aG [x] k=_;unfold aG;by_cases h:x.1=k<;>simp[h,aG]
 |cons y l Z=>
  show aG (y::(l++[x])) k=_
  unfold aG
  by_cases h:y.1=k
  .simp [h]
  .simp only[h,if_false];exact Z
noncomputable def eM(Y ne:Nat->Nat)(Z:Nat->List aK)(n:Nat):ZA:=(Y n,ae (bh (Z n)) (ne n))::(Z n).map aK.led
noncomputable def ba(Y ne:Nat->Nat)(Z:Nat->List aK):ZA:=eM Y ne Z 0++(eM Y ne Z 1++(eM Y ne Z 2++eM Y ne Z 3))
theorem jX(Y ne:Nat->Nat)(Z:Nat->List aK){n:Nat}(h:n<4):∃R,(ba Y ne Z).Perm (eM Y ne Z n++R):=by
 have hn:n=0\/n=1\/n=2\/n=3:=by lia
 have z:=fun(X:ZN)=>lq (oO X [.l (eM Y ne Z 0),.l (eM Y ne Z 1),.l (eM Y ne Z 2),.l (eM Y ne Z 3)])
 rcases hn with rfl|rfl|rfl|rfl
 .exact⟨_,List.Perm.refl _⟩
 .exact⟨_,z [1]⟩
 .exact⟨_,z [2]⟩
 .exact⟨_,z [3]⟩
noncomputable def c3(rs:List aK)(tx:Nat->ZN):ZL:=rs.map fun r=>mC r.w (tx r.u)
def JJ(xs:ZL):Prop:=xs≠[]/\xs.length<=7/\(∀x∈xs,x≠[]/\x.length<=10000)/\((xs.map ct).map fun l=>l.length+1).sum<=100000
theorem Gz{ws:List Wd}{xs:ZL}(e:ws.map (·.1)=xs)(h:JJ xs):Ju ws/\ws.map r5=xs.map ct:=by
 subst e;have eq:ws.map r5=(ws.map (·.1)).map ct:=by rw[dY];rfl
 refine⟨⟨fun z=>h.1 (by rw[z];rfl),by simpa using h.2.1,fun z Z=>h.2.2.1 _ (List.mem_map_of_mem Z),by rw[eq];exact h.2.2.2⟩,eq⟩
noncomputable def ie(Z:Nat->List aK)(tx:Nat->ZN)(n:Nat):ZN:=match Z n with
 |[]=>[97+n,61,122]
 |r::rs=>j9 ((c3 (r::rs) tx).map ct)
structure TL(l:List IE)(tx:Nat->ZN)(D:ZN):Prop where
 yes:∀u∈D,∃t,aG l u=some (ar (tx u) t)
 no:∀u,u∉D->aG l u=none
 len:l.length=D.length
noncomputable def pO(Z:Nat->List aK)(tx:Nat->ZN)(L:ZN)(u:Nat):ZN:=if u∈L then ie Z tx u else tx u
theorem TL.snoc{l:List IE}{tx Y:Nat->ZN}{D:ZN}{n:Nat}{x:ZN}{W t:Tok}(h:TL l tx D)(hn:n∉D)(hx:∀u∈D,Y u=tx u)(X:Y n=x):TL (l++[((n:Int),W,.str ⟨⟨x⟩⟩ t)]) Y (D++[n]):=by
 refine⟨fun u Z=>?_,fun u Z=>?_,by simp[h.len]⟩
 .rw [mq];rcases bJ.mp Z with Z|Z
  .obtain⟨t,e⟩:=h.yes u Z;exact⟨t,by rw[e,hx u Z];rfl⟩
  .rcases bQ.mp Z with rfl
   rw[h.no _ hn,X];exact⟨t,by simp⟩
 .rw [mq];simp only[List.mem_append,List.mem_singleton,not_or]at Z;rw[h.no u Z.1,if_neg (by simp;lia)]
  rfl
structure v8(rv:Nat->List aK)(tx:Nat->ZN)(D:ZN)(n:Nat):Prop where
 rows:∀r∈rv n,r.u∈D/\Rr r.w (tx r.u)
 len:(rv n).length<=7
 jn:rv n≠[]->JJ (c3 (rv n) tx)
section
variable(w:ZW)(M V P U I S O G L T N:Addr)(k:ZT)(J:Bool)(X ne:Nat->Nat)(W:Nat)(Y:Nat->List aK)(tx:Nat->ZN)(D:ZN)(E:List Bk)(bg:List aQ)(Z:List (Nat×Tok))(s:∀e∈Z,e.1<4)(C:(Z.map (·.1)).Nodup)(v:∀e∈Z,e.1∉D)(F:∀e∈Z,v8 Y tx D e.1)(A:D.length+Z.length<=900)
include s C v F A in
theorem Bn[ZI]{Q:ZR}(B:aS)(b:Bt (eS w M V P U ⟨1004,17,1004,22⟩) none B)(K:∀s' (a:LX) nb vv l gB cb,a.nM T->a.ke=true->TL l (pO Y tx (Z.map (·.1))) (D++Z.map (·.1))->Hq w s' ([.o M (bZ w k I S O G U P V J vv (a.l w.params) (nb+a.n)),.o T (bK (iv Z) 0),.o V (aP (some (.ref N))),.o N (ae [.ref (X 0),.ref (X 1),.ref (X 2),.ref (X 3)] W),.o O (a9 l gB),.o 917 (gw cb),.l (ba X ne Y)]++E) bg->Q (.ok .next) s'):∀(m i:Nat),i+m=Z.length->∀(st:ZS)(pos:Pos)(a:LX)(nb:Nat)(vv:ZV)(l:List IE)(gB:Nat)(cb:Option Addr),a.nM T->(i<Z.length\/a.ke=true)->TL l (pO Y tx ((Z.take i).map (·.1))) (D++(Z.take i).map (·.1))->
  Hq w st ([.o M (bZ w k I S O G U P V J vv (a.l w.params) (nb+a.n)),.o L (gy T i),.o T (bK (iv Z) 0),.o V (aP (some (.ref N))),.o N (ae [.ref (X 0),.ref (X 1),.ref (X 2),.ref (X 3)] W),.o O (a9 l gB),.o 917 (gw cb),.l (ba X ne Y)]++E) bg->
  Rn w B st (Am w M V P U L) pos Q:=by
 intro m;induction m with
 |zero=>
  intro i hi st pos a nb vv l gB cb ha hw hl H;obtain rfl:i=Z.length:=hi;rw[gZ]at hl;exact kF [0,1,2] b H (fun fr=>NU w M V P U I S O G L T k J vv a nb (iv Z) Z.length 0 fr pos (zN st) st.toks st.gens ha.has (mP 3):) (fun _=>aa (by rw[gz];simp) aj) fun fr s' H'=>K s' a nb vv l gB cb ha (hw.resolve_left (Nat.lt_irrefl _)) hl (H'.p [0,2,3,4,5,6,7] 8)
 |succ m ih=>
  intro i hi st pos a nb vv l gB cb ha hw hl H;have jW:i<Z.length:=by exact lA hi
  obtain⟨e,he⟩:∃e,Z[i]?=some e:=⟨_,List.getElem?_eq_getElem jW⟩;obtain⟨n,te⟩:=e;have Rv:=List.mem_of_getElem? he
  have hn:n<4:=s _ Rv
  obtain⟨Xh,Xi,Xj⟩:=F _ Rv;obtain⟨R,hR⟩:=jX X ne Y hn;have Xk:n∉(Z.take i).map (·.1):=by
   intro hm;obtain⟨e',Rw,q⟩:=aZ.mp hm;obtain⟨j,hj,ej⟩:=List.getElem_of_mem Rw;have Xl:j<i:=by have:=sD i Z;exact jD hj this
   rw[List.getElem_take]at ej;have Vk:j<Z.length:=by exact Nat.lt_trans Xl jW
   have e1:(Z.map (·.1))[j]?=some n:=by rw[List.getElem?_map,List.getElem?_eq_getElem Vk,ej];simp[q]
   have e2:(Z.map (·.1))[i]?=some n:=by rw[List.getElem?_map,he];rfl
   have:=(List.getElem?_inj (by rw[aB];exact Vk) C).mp (e1.trans e2.symm)
   lia
  have Dg:n∉D++(Z.take i).map (·.1):=by
   simp only[List.mem_append,not_or];exact⟨v _ Rv,Xk⟩
  have Xm:(Z.take (i+1)).map (·.1)=(Z.take i).map (·.1)++[n]:=by rw[gf,he];simp
  have Vl:l.length<=1000:=by
   rw[hl.len,cJ,aB,List.length_take];lia
  have hT:∀r∈Y n,(∃t,aG l r.u=some (ar (tx r.u) t))/\Rr r.w (tx r.u):=fun r hr=>by
   obtain⟨hu,hp⟩:=Xh r hr;obtain⟨t,e⟩:=hl.yes r.u (dN _ hu);refine⟨⟨t,?_⟩,hp⟩;rw[e];have:r.u∉(Z.take i).map (·.1):=fun q=>by
    obtain⟨e',Rw,q'⟩:=aZ.mp q;exact v e' (List.mem_of_mem_take Rw) (q'▸hu)
   rw[pO,if_neg this]
  have Vm:∀(x:ZN)(t:Tok),x=ie Y tx n->TL (l++[((n:Int),te,.str ⟨⟨x⟩⟩ t)]) (pO Y tx ((Z.take (i+1)).map (·.1))) (D++(Z.take (i+1)).map (·.1)):=fun x t hx=>by
   rw[Xm,←br];refine hl.snoc Dg (fun u hu=>?_) ?_
   .have:u≠n:=fun e=>Dg (e▸hu)
    unfold pO
    by_cases h:u∈(Z.take i).map (·.1)
    .rw [if_pos h,if_pos (dN _ h)]
    .rw [if_neg h,if_neg];simp only[List.mem_append,List.mem_singleton,not_or];exact⟨h,this⟩
   .unfold pO;rw[if_pos (by simp),hx]
  have H1:=H.ch [7] hR [.o _ _,.l ((Y n).map aK.led),.l R]
  refine kS [3,4,5,6,7,0] b H1 (fun fr=>NR w M V P U I S O G L T N k J vv a nb (iv Z) i n te X W (bh (Y n)) (ne n) fr pos (zN st) st.toks st.gens ha.has hn:) (fun _=>aa (by rw[gz,he];rfl) aj) fun fr s1 H2 B' b'=>
   Bm w M V P U I S O G L (st.heap.objs.size+1) (X n) st.heap.objs.size k J (.int n te) (Y n) (ne n) l gB tx ([.o L (gy T (i+1)),.o T (bK (iv Z) 0),.o V (aP (some (.ref N))),.o N (ae [.ref (X 0),.ref (X 1),.ref (X 2),.ref (X 3)] W),.o 917 (gw cb),.l R]++E) bg hT Xi (c3 (Y n) tx) T B' b' (fun s2 a' r8 ws m8 g1 g2 g3 H4=>?_) (Y n).length 0 (fM _) s1 _ (a.eW (st.toks+1) (.ref st.heap.objs.size)) nb [] 0 (LX.Bj ha.has _ _) (ha.w _ _) (b9 _) rfl (H2.p [0,7,5,10,6,8,1,2,3,4,11,9] 12)
  refine Rk.z (NV w M V P U I S O G L T N k J vv a nb (iv Z) i n te X W (bh (Y n)) (ne n) ha.has hn fr pos (zN st) st.toks st.gens) ?_;have ew:=g1.eq
  have Xn:Y n=[]\/∃r0 GA,Y n=r0::GA:=by
   cases Y n with
   |nil=>exact .inl rfl
   |cons a b=>exact .inr ⟨a,b,rfl⟩
  rcases Xn with GB|⟨r0,GA,GB⟩
  .obtain rfl:ws=[]:=by
    rw[GB]at g3;simpa[c3]using g3
   exact Cp (hL:=by rw[ew];kernel_rfl) [0,2,3] b H4 (fun iQ=>N3 w M V P U I S O G L T N k J vv nb (iv Z) i n te X W (bh (Y n)) (ne n) a' r8 st.heap.objs.size m8 l gB fr pos (zN st) st.toks st.gens iQ (zN s2) s2.toks s2.gens hn g1.has:) (fun _=>rfl) (fun _=>aa (hl.no n Dg) (aa Vl aj)) fun iQ s3 H6=>
    ih (i+1) (lB hi) s3 _ a' r8 (.int n te) (l++[((n:Int),te,.str ⟨⟨[97+n,61,122]⟩⟩ (s2.toks+3))]) (gB+1) cb g2 (.inr g1.has) (Vm _ _ (by unfold ie;rw[GB])) ((H6.ch [3,4,10] hR.symm [.l (ba _ _ _)]).p [1,4,5,6,7,2,8,0] 9 (by dsimp only[C8];rw[ew];kernel_rfl))
  .have jd:Y n≠[]:=by rw[GB];exact fun h=>nomatch h
   obtain⟨jp,jq⟩:=Gz g3 (Xj jd);obtain⟨y,ys,rfl⟩:∃y ys,ws=y::ys:=by
    cases ws with
    |nil=>exact absurd rfl jp.1
    |cons y ys=>exact⟨y,ys,rfl⟩
   exact Cp (hL:=by rw[ew];kernel_rfl) [0,2,9,3] b H4 (fun iQ=>N0 w M V P U I S O G L T N k J vv nb (iv Z) i n te X W (bh (Y n)) (ne n) a' r8 st.heap.objs.size y ys m8 l gB cb fr pos (zN st) st.toks st.gens iQ (zN s2) s2.toks s2.gens hn g1.has:) (fun _=>rfl) (fun _=>aa (hl.no n Dg) (aa Vl (aa jp aj))) fun iQ s3 H6=>
    ih (i+1) (lB hi) s3 _ a' r8 (.int n te) (l++[((n:Int),te,.str ⟨⟨j9 ((y::ys).map r5)⟩⟩ (Gf iQ 0 0))]) (gB+1) (some (Gf iQ 0 1)) g2 (.inr g1.has) (Vm _ _ (by rw[jq];unfold ie;rw[GB])) ((H6.ch [4,5,10] hR.symm [.l (ba _ _ _)]).p [1,5,6,7,8,2,3,0] 9 (by dsimp only[C7];rw[ew];kernel_rfl))
end
end
set_option tactic.hygienic true
structure dy(A:Nat->Prop)(c:Nat->Nat)(a:(Nat->Int)×ZN):Prop where
 np:∀v,A v->a.1 v=c v
 nd:a.2.Nodup
 act:∀v∈a.2,A v
 z:∀v,A v->(v∈a.2↔c v=0)
theorem dy.congr{A:Nat->Prop}{c Y:Nat->Nat}{a:(Nat->Int)×ZN}(h:dy A c a)(e:∀v,A v->Y v=c v):dy A Y a:=⟨fun v Z=>by rw[h.np v Z,e v Z],h.nd,h.act,fun v Z=>by rw[h.z v Z,e v Z]⟩
theorem dy.iL{A:Nat->Prop}{c:Nat->Nat}{a:(Nat->Int)×ZN}(h:dy A c a){w:Nat}(W:A w)(S:1<=c w):dy A (fun v=>c v-if v=w then 1 else 0) (Sx.iL a w)/\∀v,¬A v->(Sx.iL a w).1 v=a.1 v:=by
 have X:=h.np w W
 have Y:w∉a.2:=fun q=>by have:=(h.z w W).mp q;lia
 have U:∀v,(Sx.iL a w).1 v=if v=w then a.1 w-1 else a.1 v:=fun v=>xN _ _ _ _
 have V:(Sx.iL a w).2=if c w=1 then a.2++[w]else a.2:=by
  show(if a.1 w-1==0 then a.2++[w]else a.2)=_
  rw[X]
  by_cases q:c w=1
  .rw [if_pos q,if_pos (by simp[q])]
  .rw [if_neg q,if_neg (by simp;lia)]
 refine⟨⟨fun v Z=>?_,?_,fun v Z=>?_,fun v Z=>?_⟩,fun v Z=>?_⟩
 .rw [U]
  by_cases q:v=w
  .subst q;rw[if_pos rfl,X];simp only[if_true];lia
  .rw [if_neg q,h.np v Z];simp[q]
 .rw [V];split
  .rw [eG];exact⟨h.nd,by simp,fun x hx y T e=>by rcases bQ.mp T with rfl;exact Y (e▸hx)⟩
  .exact h.nd
 .rw [V]at Z;split at Z
  .rcases bJ.mp Z with Z|Z
   .exact h.act v Z
   .rcases bQ.mp Z with rfl;exact W
  .exact h.act v Z
 .rw [V]
  by_cases q:v=w
  .subst q;simp only[if_true]
   by_cases q1:c v=1
   .rw [if_pos q1];simp[q1]
   .rw [if_neg q1];constructor
    .intro z;exact absurd z Y
    .intro z;lia
  .have:=h.z v Z
   by_cases q1:c w=1
   .rw [if_pos q1];simp[q,this]
   .rw [if_neg q1];simp[q,this]
 .rw [U];have:v≠w:=fun q=>Z (q▸W)
  rw[if_neg this]
theorem dy.fold{A:Nat->Prop}:∀(Q:ZN){c:Nat->Nat}{a:(Nat->Int)×ZN},dy A c a->(∀v∈Q,A v)->(∀v,A v->Q.count v<=c v)->
  dy A (fun v=>c v-Q.count v) (Q.foldl Sx.iL a)/\∀v,¬A v->(Q.foldl Sx.iL a).1 v=a.1 v
 |[],c,a,h,_,_=>⟨h.congr fun v b=>by simp,fun b b=>rfl⟩
 |w::Q,c,a,h,hA,W=>by
  have X:=hA w (.head _)
  have V:1<=c w:=by have:=W w X;rw[List.count_cons_self]at this;exact Nat.one_le_of_lt this
  obtain⟨g1,g2⟩:=h.iL X V;obtain⟨g3,U⟩:=dy.fold Q g1 (fun v Z=>hA v (.tail _ Z)) (fun v Z=>by
   have:=W v Z
   rw[List.count_cons]at this
   by_cases q:v=w
   .subst q;simp at this;simp only[if_true];exact(Nat.le_sub_one_iff_lt V).mpr this
   .have Y:(w==v)=false:=by simp[Ne.symm q]
    simp[Y]at this;simp[q];exact this)
  refine⟨g3.congr fun v b=>?_,fun v Z=>(U v Z).trans (g2 v Z)⟩
  rw[List.count_cons]
  by_cases q:v=w
  .subst q;simp only[beq_self_eq_true,if_true];lia
  .have Y:(w==v)=false:=by simp[Ne.symm q]
   simp[Y,q]
theorem dy.done{A:Nat->Prop}{Z:Nat->ZN}:∀(L:ZN){c:Nat->Nat}{a:(Nat->Int)×ZN},dy A c a->(∀n∈L,¬A n/\∀v∈Z n,A v)->(∀v,A v->(L.flatMap Z).count v<=c v)->
  dy A (fun v=>c v-(L.flatMap Z).count v) (L.foldl (gq Z) a)/\∀v,¬A v->v∉L->(L.foldl (gq Z) a).1 v=a.1 v
 |[],c,a,h,_,_=>⟨h.congr fun v b=>by simp,fun b b b=>rfl⟩
 |n::L,c,a,h,hA,W=>by
  obtain⟨hn,V⟩:=hA n (.head _);have h0:dy A c (aW a.1 n (-2),a.2):=⟨fun v Y=>by
   have:v≠n:=fun q=>hn (q▸Y)
   show aW a.1 n (-2) v=_
   rw[bI _ _ this,h.np v Y],h.nd,h.act,h.z⟩
  obtain⟨g1,g2⟩:=dy.fold (Z n) h0 V (fun v Y=>by
   have:=W v Y;rw[fm,sE]at this;exact pd this)
  obtain⟨g3,T⟩:=dy.done L g1 (fun m U=>hA m (.tail _ U)) (fun v Y=>by
   have:=W v Y;rw[fm,sE]at this
   show _<=c v-(Z n).count v
   exact Nat.le_sub_of_add_le' this)
  refine⟨g3.congr fun v b=>?_,fun v Y X=>?_⟩
  .rw [fm,sE];lia
  .have q:v≠n:=fun e=>X (e▸.head _)
   show(L.foldl (gq Z) ((Z n).foldl Sx.iL (aW a.1 n (-2),a.2))).1 v=_
   rw[T v Y (fun z=>X (.tail _ z)),g2 v Y]
   show aW a.1 n (-2) v=_
   rw[bI _ _ q]
theorem gC(n:Nat)(L:ZN)(X:n∉L):∀l:ZN,l.count n+(l.filter fun u=>decide (u∈L)).length=(l.filter fun u=>decide (u∈n::L)).length
 |[]=>rfl
 |u::l=>by
  have Y:=gC n L X l
  rw[List.count_cons,gY,gY]
  by_cases q:u=n
  .subst q;rw[if_pos (beq_self_eq_true u),if_neg (by simp[X]),if_pos (by simp),cX,←Y];lia
  .rw [if_neg (by simp[q])]
   by_cases Z:u∈L
   .rw [if_pos (by simp[Z]),if_pos (by simp[Z]),cX,cX,←Y];lia
   .rw [if_neg (by simp[Z]),if_neg (by simp[q,Z]),←Y];exact Nat.add_left_inj.mpr rfl
theorem f7{Y Z:Nat->ZN}(X:∀n v,(Y n).count v=(Z v).count n):∀(L:ZN)(v:Nat),L.Nodup->(L.flatMap Y).count v=((Z v).filter fun u=>decide (u∈L)).length
 |[],v,_=>by rw[List.filter_eq_nil_iff.mpr (by simp)];rfl
 |n::L,v,h=>by
  obtain⟨W,h2⟩:=cy.mp h;rw[fm,sE,f7 X L v h2,X,gC n L W]
theorem gr(l:ZN)(D L:ZN)(V:∀u∈L,u∉D):(l.filter fun u=>decide (u∉D)).length-(l.filter fun u=>decide (u∈L)).length=(l.filter fun u=>decide (u∉D++L)).length/\(l.filter fun u=>decide (u∈L)).length<=(l.filter fun u=>decide (u∉D)).length:=by
 induction l with
 |nil=>exact⟨rfl,aM _⟩
 |cons u l X=>
  rw[gY,gY,gY];obtain⟨Y,W⟩:=X
  by_cases q:u∈D
  .have Z:u∉L:=fun z=>V u z q
   simp only[q,Z,List.mem_append,not_true,decide_false,true_or,if_false,Bool.false_eq_true];simp only[List.mem_append]at Y;exact⟨Y,W⟩
  .by_cases Z:u∈L
   .simp only[q,Z,List.mem_append,not_false_eq_true,decide_true,or_true,not_true,decide_false,if_true,List.length_cons,Bool.false_eq_true,if_false];simp only[List.mem_append]at Y
    lia
   .simp only[q,Z,List.mem_append,not_false_eq_true,decide_true,or_false,decide_false,if_true,List.length_cons,Bool.false_eq_true,if_false];simp only[List.mem_append]at Y
    lia
noncomputable def cI(Z:Nat->ZN):Nat->Nat->Bool
 |0,_=>true
 |k+1,v=>(Z v).any (cI Z k)
theorem oU(Z:Nat->ZN):∀k v,cI Z (k+1) v=true->cI Z k v=true
 |0,_,_=>rfl
 |k+1,v,h=>by
  obtain⟨u,Y,h⟩:=kL.mp h;exact kL.mpr ⟨u,Y,oU Z k u h⟩
structure Kn(us:Nat->ZN)(D:ZN)(np:Nat->Int)(c9:ZN):Prop where
 nd:c9.Nodup
 ok:∀v∈c9,v<4/\v∉D
 np:∀v,v<4->v∉D->np v=((us v).filter fun u=>decide (u∉D)).length
 z:∀v,v<4->v∉D->(v∈c9↔((us v).filter fun u=>decide (u∉D)).length=0)
 cl:∀v∈D,∀u∈us v,u∈D
theorem Kn.kW{Y:Nat->ZN}{D:ZN}{W:Nat->Int}{Z:ZN}(h:Kn Y D W Z){v:Nat}(X:v∈Z):∀u∈Y v,u∈D:=fun u V=>by
 obtain⟨U,h2⟩:=h.ok v X;have:=(h.z v U h2).mp X
 have e:=jF this
 by_cases q:u∈D
 .exact q
 .have:u∈(Y v).filter fun u=>decide (u∉D):=iE.mpr ⟨V,by simp[q]⟩
  rw[e]at this;cases this
theorem Kn.round{V sc:Nat->ZN}{D:ZN}{S:Nat->Int}{Z:ZN}(h:Kn V D S Z)(O:∀n v,(sc n).count v=(V v).count n)(G:∀n,∀v∈sc n,v<4)(i:Nat):(∀m,Z[i]?=some m->((Z.take i).foldl (gq sc) (cg S Z,[])).1 m=-1)/\
  (∀T X,(T,X)=Z.foldl (gq sc) (cg S Z,[])->Kn V (D++Z) T X):=by
 let A:Nat->Prop:=fun v=>v<4/\v∉D/\v∉Z
 have g0:dy A (fun v=>((V v).filter fun u=>decide (u∉D)).length) (cg S Z,[]):=⟨fun v Y=>by show cg S Z v=_;unfold cg;rw[if_neg Y.2.2,h.np v Y.1 Y.2.1],cW,(fun d q=>nomatch q),fun v Y=>by
   constructor
   .intro q;cases q
   .intro q;exact absurd ((h.z v Y.1 Y.2.1).mpr q) Y.2.2⟩
 have U:∀{n v},v∈sc n->n∈V v:=fun{n v} q=>by
  have:=mU.mpr q
  rw[O]at this;exact mU.mp this
 have hA:∀n∈Z,¬A n/\∀v∈sc n,A v:=fun n hn=>⟨fun q=>q.2.2 hn,fun v Y=>by
  have W:=U Y
  have R:=(h.ok n hn).2
  refine⟨G n v Y,fun q=>R (h.cl v q n W),fun q=>R (h.kW q n W)⟩⟩
 constructor
 .intro m K;have Q:=List.mem_of_getElem? K
  have M:m∉Z.take i:=by
   intro q;obtain⟨j,J,I⟩:=List.getElem_of_mem q;have F:j<i:=by have:=sD i Z;exact jD J this
   have P:j<Z.length:=by have:=ph i Z;exact jD J this
   rw[List.getElem_take]at I;have:=(List.getElem?_inj P h.nd).mp ((List.getElem?_eq_getElem P).trans (by rw[I,K]))
   lia
  have N:(Z.take i).Nodup:=(List.take_sublist i Z).nodup h.nd
  have g:=dy.done (Z.take i) g0 (fun n hn=>hA n (List.mem_of_mem_take hn)) (fun v Y=>by
   rw[f7 O _ _ N];exact(gr (V v) D (Z.take i) (fun u W=>(h.ok u (List.mem_of_mem_take W)).2)).2)
  rw[g.2 m (fun q=>q.2.2 Q) M]
  show cg S Z m=-1
  unfold cg;rw[if_pos Q]
 .intro T X e;have g:=(dy.done Z g0 hA (fun v Y=>by
   rw[f7 O _ _ h.nd];exact(gr (V v) D Z (fun u W=>(h.ok u W).2)).2)).1
  rw[←e]at g;have H:∀v,((V v).filter fun u=>decide (u∉D++Z)).length=((V v).filter fun u=>decide (u∉D)).length-(Z.flatMap sc).count v:=fun v=>by
   rw[f7 O _ _ h.nd];exact(gr (V v) D Z (fun u W=>(h.ok u W).2)).1.symm
  refine⟨g.nd,fun v Y=>?_,fun v L h2=>?_,fun v L h2=>?_,fun v Y u W=>?_⟩
  .obtain⟨a,b,c⟩:=g.act v Y;exact⟨a,by simp only[List.mem_append,not_or];exact⟨b,c⟩⟩
  .simp only[List.mem_append,not_or]at h2;rw[H];exact g.np v ⟨L,h2⟩
  .simp only[List.mem_append,not_or]at h2;rw[H];exact g.z v ⟨L,h2⟩
  .rcases bJ.mp Y with Y|Y
   .exact dN _ (h.cl v Y u W)
   .exact dN _ (h.kW Y u W)
def kf(Z:Nat->ZN)(k:Nat)(D:ZN):Prop:=∀v,v∈D↔v<4/\cI Z k v=false
theorem kf.next{Z:Nat->ZN}{k:Nat}{D:ZN}{T:Nat->Int}{Y:ZN}(h:Kn Z D T Y)(W:kf Z k D)(S:∀v,∀u∈Z v,u<4):kf Z (k+1) (D++Y)/\∀v,v∈Y↔v<4/\cI Z k v=true/\cI Z (k+1) v=false:=by
 have key:∀v,v<4->(cI Z (k+1) v=false↔∀u∈Z v,u∈D):=fun v V=>by
  show(Z v).any (cI Z k)=false↔_
  rw[sk];refine forall_congr' fun u=>?_
  constructor
  .intro q X;exact(W u).mpr ⟨S v u X,by simpa using q X⟩
  .intro q X;have:=((W u).mp (q X)).2;simp[this]
 have r:∀v,v∈Y↔v<4/\cI Z k v=true/\cI Z (k+1) v=false:=fun v=>by
  constructor
  .intro V;obtain⟨a,b⟩:=h.ok v V;refine⟨a,?_,(key v a).mpr (h.kW V)⟩;cases q:cI Z k v with
   |true=>rfl
   |false=>exact absurd ((W v).mpr ⟨a,q⟩) b
  .rintro ⟨a,b,c⟩
   have U:v∉D:=fun q=>by have:=((W v).mp q).2;rw[b]at this;cases this
   refine(h.z v a U).mpr ?_;rw[List.length_eq_zero_iff,List.filter_eq_nil_iff];intro u X;simp[(key v a).mp c u X]
 refine⟨fun v=>?_,r⟩
 rw[bJ,W v,r v];constructor
 .rintro (⟨a,b⟩|⟨a,_,c⟩)
  .refine⟨a,?_⟩;cases q:cI Z (k+1) v with
   |false=>rfl
   |true=>rw[oU Z k v q]at b;cases b
  .exact⟨a,c⟩
 .rintro ⟨a,b⟩
  cases q:cI Z k v with
  |false=>exact .inl ⟨a,rfl⟩
  |true=>exact .inr ⟨a,rfl,b⟩
section
set_option tactic.hygienic true
noncomputable def bS(Z:Nat->ZN)(j:Nat):ZN:=(List.range 4).filter fun v=>cI Z j v&&!cI Z (j+1) v
noncomputable def bw(l:ZN):List Int:=l.map fun(v:Nat)=>(v:Int)
theorem gN(Z:Nat->ZN)(j v:Nat):v∈bS Z j↔v<4/\cI Z j v=true/\cI Z (j+1) v=false:=by unfold bS;rw[iE,fj];simp
theorem Bo{Z:Nat->ZN}{j:Nat}{l:List (Nat×Tok)}(Y:(l.map (·.1)).Nodup)(h:∀v,v∈l.map (·.1)↔v<4/\cI Z j v=true/\cI Z (j+1) v=false):(bw (bS Z j)).Perm (l.map fun e=>(e.1:Int))/\(bw (bS Z j)).Pairwise (·<=·):=by
 constructor
 .have p:(bS Z j).Perm (l.map (·.1)):=(List.perm_ext_iff_of_nodup (List.nodup_range.filter _) Y).mpr fun v=>(gN Z j v).trans (h v).symm
  have:=p.map (fun(v:Nat)=>(v:Int))
  rw[dY]at this;exact this
 .unfold bw;rw[List.pairwise_map];refine List.Pairwise.imp (R:=(·<·)) (fun h=>by lia) ?_
  exact List.Pairwise.sublist List.filter_sublist List.pairwise_lt_range
theorem oV:∀l:List (Nat×Tok),PyProof.Rows.IntsAre (iv l) (l.map fun e=>(e.1:Int))
 |[]=>.nil
 |e::l=>.cons _ _ (oV l)
abbrev xT:=List (Addr×List Int×ZN)
noncomputable def b0(R:xT):ZY:=R.map fun z=>.ref z.1
noncomputable def c6(R:xT):ZA:=R.map fun z=>(z.1,ae (ib z.2.1 z.2.2) 2)
theorem kg{l:ZN}(Z:l.Nodup)(h:∀v∈l,v<4):l.Perm ((List.range 4).filter fun v=>decide (v∈l)):=(List.perm_ext_iff_of_nodup Z (List.nodup_range.filter _)).mpr fun v=>by
  rw[iE,fj,decide_eq_true_eq];exact⟨fun q=>⟨h v q,q⟩,fun q=>q.2⟩
theorem jv{l:ZN}(Z:l.Nodup)(h:∀v∈l,v<4):l.length<=4:=by rw[(kg Z h).length_eq];exact kK _ (List.range 4)
theorem xU{p:Nat->Nat}(Z:(p4 p).Nodup)(hp:∀u∈p4 p,u<4){v:Nat}(Y:v<4):v∈p4 p:=by
 have e:=(kg Z hp).length_eq
 have X:((List.range 4).filter fun v=>decide (v∈p4 p)).length=(List.range 4).length:=e.symm
 have:=(List.length_filter_eq_length_iff.mp X) v (fj.mpr Y)
 simpa using this
theorem v9{Y:Nat->List aK}{tx Z:Nat->ZN}{n:Nat}(h:∀r∈Y n,Z r.u=tx r.u):ie Y Z n=ie Y tx n:=by
 unfold ie;cases X:Y n with
 |nil=>rfl
 |cons r rs=>
  show j9 ((c3 (r::rs) Z).map ct)=j9 ((c3 (r::rs) tx).map ct)
  have e:c3 (r::rs) Z=c3 (r::rs) tx:=jA fun q hq=>by rw[h q (X▸hq)]
  rw[e]
section
variable(w:ZW)(K X O P N S W V M J L U:Addr)(k:ZT)(Q:Bool)(x:Sx.NS)(p:Nat->Nat)(Z ne:Nat->Nat)(Y:Nat)(T:Nat->List aK)
def Rx(s:ZT)(po G:Int)(I:ZY)(ep:Nat)(H:Nat->Int)(R:ZT):List Bk:=[.o S (cp M),.o M (cn w.params s J (.ref L) po G),.o J (a9 (dl x (p4 p)) 4),.o L (ae I ep),.l (aT (x.upd H R) (p4 p))]
def Vn(H:ZV)(al:List DictEntry)(an:Nat)(l:List IE)(I:Nat)(F:Option Addr)(G:ZY)(R:Nat):List Bk:=[.o K (bZ w k N S W V P O X Q H al an),.o X (aP (some (.ref U))),.o U (ae [.ref (Z 0),.ref (Z 1),.ref (Z 2),.ref (Z 3)] Y),.o W (a9 l I),.o 917 (gw F),.o V (ae G R),.l (ba Z ne T)]
def Dh(a:LX)(F:Nat)(G:ZV)(l:List IE)(H:Nat)(E:Option Addr)(R:xT)(I:Nat):List Bk:=Vn w K X O P N S W V U k Q Z ne Y T G (a.l w.params) (F+a.n) l H E (b0 R) I++[.l (c6 R)]
end
section
variable(w:ZW)(U V W X L S M O J G I y:Addr)(k:ZT)(N:Bool)(x:Sx.NS)(p:Nat->Nat)(t:Nat->ZN)(A ne:Nat->Nat)(P:Nat)(Z:Nat->List aK)(E:List Bk)(bg:List aQ)(C:(p4 p).Nodup)(hp:∀u∈p4 p,u<4)(hx:∀u∈p4 p,bW (x.sc u) (t u))(h:∀n,∀v∈t n,v<4)(g:∀n v,(t n).count v=(ax Z v).count n)(d:∀n,(t n).length<=7)(F:∀v,∀u∈ax Z v,u<4)(f:∀(Y:Nat) (D:ZN) (tx:Nat->ZN),Y<=3->kf (ax Z) Y D->(∀v∈D,tx v=ie Z tx v)->(∀v∈D,∀u∈ax Z v,u∈D)->∀n,(∀u∈ax Z n,u∈D)->v8 Z tx D n){Q:ZR}(B:aS)(b:Bt (cA w U V W X ⟨1002,4,1013,27⟩) none B)
include F b in
theorem xV[ZI](K:∀s' (Y:Nat) (D:ZN) (tx:Nat->ZN) a nb vv l gB cb R rep,kf (ax Z) Y D->(∀v,v<4->v∉D->cI (ax Z) (Y+1) v=true)->TL l tx D->(∀v∈D,tx v=ie Z tx v)->R.map (·.2.1)=(List.range Y).map (fun j=>bw (bS (ax Z) j))->(∀j,j<Y->bS (ax Z) j≠[])->
   Hq w s' (Dh w U V W X L S M O y k N A ne P Z a nb vv l gB cb R rep++E) bg->Q (.ok .next) s')(Y:Nat)(D:ZN)(st:ZS)(pos:Pos)(np:Nat->Int)(tn:ZT)(s:ZT)(tx:Nat->ZN)(a:LX)(nb:Nat)(vv:ZV)(l:List IE)(gB:Nat)(cb:Option Addr)(R:xT)(rep ep:Nat)(hK:Kn (ax Z) D np [])(uC:kf (ax Z) Y D)(hl:TL l tx D)(iR:∀v∈D,tx v=ie Z tx v)(hR:R.map (·.2.1)=(List.range Y).map (fun j=>bw (bS (ax Z) j)))(ly:∀j,j<Y->bS (ax Z) j≠[])(H:Hq w st (Rx w S J G I x p s D.length D.length (iv []) ep np tn++(Dh w U V W X L S M O y k N A ne P Z a nb vv l gB cb R rep++E)) bg):Rn w B st (vW w U V W X) pos Q:=kF [5,0,1,3] b H (fun fr=>NL w U V W X L S M O J G I k s D.length D.length N vv (a.l w.params) (nb+a.n) ep fr pos (zN st) st.toks st.gens:) (fun _=>aa (b9 _) (aa (by simp) aj)) fun fr s' H'=>K s' Y D tx a nb vv l gB cb R rep uC (fun v hv Dg=>by
  obtain⟨Ry,Fe⟩:=kf.next hK uC F
  cases q:cI (ax Z) (Y+1) v with
  |true=>rfl
  |false=>
   have h1:v∈D++[]:=(Ry v).mpr ⟨hv,q⟩
   rw[bY]at h1;exact absurd h1 Dg) hl iR hR ly (H'.p [0,6,7,8,9,10,11,12] 13)
include C hp hx h g d F f b in
theorem Bp[ZI](K:∀s' (Y:Nat) (D:ZN) (tx:Nat->ZN) a nb vv l gB cb R rep,kf (ax Z) Y D->(∀v,v<4->v∉D->cI (ax Z) (Y+1) v=true)->TL l tx D->(∀v∈D,tx v=ie Z tx v)->R.map (·.2.1)=(List.range Y).map (fun j=>bw (bS (ax Z) j))->(∀j,j<Y->bS (ax Z) j≠[])->
   Hq w s' (Dh w U V W X L S M O y k N A ne P Z a nb vv l gB cb R rep++E) bg->Q (.ok .next) s'):∀(m Y:Nat)(D:ZN),4<=D.length+m->∀(st:ZS)(pos:Pos)(np:Nat->Int)(tn:ZT)(c9:List (Nat×Tok))(s:ZT)(tx:Nat->ZN)(a:LX)(nb:Nat)(vv:ZV)(l:List IE)(gB:Nat)(cb:Option Addr)(R:xT)(rep ep:Nat),
  D.Nodup->(∀v∈D,v<4)->Y<=D.length->Kn (ax Z) D np (c9.map (·.1))->kf (ax Z) Y D->TL l tx D->(∀v∈D,tx v=ie Z tx v)->R.map (·.2.1)=(List.range Y).map (fun j=>bw (bS (ax Z) j))->(∀j,j<Y->bS (ax Z) j≠[])->
  Hq w st (Rx w S J G I x p s D.length D.length (iv c9) ep np tn++(Dh w U V W X L S M O y k N A ne P Z a nb vv l gB cb R rep++E)) bg->
  Rn w B st (vW w U V W X) pos Q:=by
 intro m;induction m with
 |zero=>
  intro Y D hm st pos np tn c9 s tx a nb vv l gB cb R rep ep Rz RA Xo hK uC hl iR hR ly H;have e0:c9=[]:=by
   cases c9 with
   |nil=>rfl
   |cons e es=>
    exfalso;have JK:(D++(e::es).map (·.1)).Nodup:=eG.mpr ⟨Rz,hK.nd,fun u h1 v h2 e=>by subst e;exact(hK.ok _ h2).2 h1⟩
    have:=jv JK (fun v hv=>(bJ.mp hv).elim (RA v) fun q=>(hK.ok v q).1)
    simp at this;lia
  subst e0;exact xV w U V W X L S M O J G I y k N x p A ne P Z E bg F B b K Y D st pos np tn s tx a nb vv l gB cb R rep ep hK uC hl iR hR ly H
 |succ m ih=>
  intro Y D hm st pos np tn c9 s tx a nb vv l gB cb R rep ep Rz RA Xo hK uC hl iR hR ly H;cases c9 with
  |nil=>exact xV w U V W X L S M O J G I y k N x p A ne P Z E bg F B b K Y D st pos np tn s tx a nb vv l gB cb R rep ep hK uC hl iR hR ly H
  |cons bM es=>
  have JK:(D++(bM::es).map (·.1)).Nodup:=eG.mpr ⟨Rz,hK.nd,fun u h1 v h2 e=>by subst e;exact(hK.ok _ h2).2 h1⟩
  have JL:∀v∈D++(bM::es).map (·.1),v<4:=fun v hv=>(bJ.mp hv).elim (RA v) fun q=>(hK.ok v q).1
  have hlen:D.length+(es.length+1)<=4:=by
   have:=jv JK JL
   simpa using this
  have JM:es.length<=3:=by lia
  have Xq:Y<=3:=by lia
  have tj:∀e∈bM::es,e.1<4/\e.1∉D:=fun e he=>hK.ok _ (b7 he)
  have JG:∀e∈bM::es,e.1∈p4 p:=fun e he=>xU C hp (tj e he).1
  obtain⟨Ry,Fe⟩:=kf.next hK uC F
  obtain⟨Xr,Xs⟩:=Bo hK.nd Fe;have Xu:∀e∈bM::es,v8 Z tx D e.1:=fun e he=>f Y D tx Xq uC iR hK.cl e.1 (hK.kW (b7 he))
  have YR:(iv (bM::es)).length<=4:=by simp[iv];lia
  have TC:(b0 R).length<=16777216:=by
   have e1:R.length=Y:=by have:=congrArg List.length hR;simpa using this
   simp[b0,e1];lia
  have Vo:=fun i=>Kn.round (sc:=t) hK g h i
  have Fc:∀i e,(bM::es)[i]?=some e->((((bM::es).take i).map (·.1)).foldl (gq t) (cg np ((bM::es).map (·.1)),[])).1 e.1=-1:=fun i e he=>by
   have:=(Vo i).1 e.1 (by rw[List.getElem?_map,he];rfl)
   rw[←List.map_take]at this;exact this
  have qi:(D++(bM::es).map (·.1)).length=D.length+(bM::es).length:=by simp
  have TF:bS (ax Z) Y≠[]:=fun q=>by
   have:bM.1∈bS (ax Z) Y:=(gN _ _ _).mpr ((Fe bM.1).mp (by simp))
   rw[q]at this;cases this
  have e3:(((D++(bM::es).map (·.1)).length:Nat):Int)=(D.length:Int)+(bM::es).length:=by rw[qi];lia
  have TG:∀v∈D++(bM::es).map (·.1),pO Z tx ((bM::es).map (·.1)) v=ie Z (pO Z tx ((bM::es).map (·.1))) v:=by
   intro v hv;have agree:∀u∈D,pO Z tx ((bM::es).map (·.1)) u=tx u:=fun u hu=>if_neg fun q=>(hK.ok u q).2 hu
   have kW:∀u∈ax Z v,u∈D:=fun u hu=>by
    rcases bJ.mp hv with q|q
    .exact hK.cl v q u hu
    .exact hK.kW q u hu
   have ef:ie Z (pO Z tx ((bM::es).map (·.1))) v=ie Z tx v:=v9 fun r hr=>agree _ (kW _ (b7 hr))
   rw[ef]
   by_cases q:v∈(bM::es).map (·.1)
   .exact if_pos q
   .rw [show pO Z tx ((bM::es).map (·.1)) v=tx v from if_neg q]
    rcases bJ.mp hv with q'|q'
    .exact iR v q'
    .exact absurd q' q
  refine kS [5,0,1,3] b H (fun fr=>NI w U V W X L S M O J G I k s D.length D.length N vv (a.l w.params) (nb+a.n) ep bM es fr pos (zN st) st.toks st.gens:) (fun _=>aa (by simp[iv];lia) (aa (by simp) aj)) fun fr s1 H1 B' b'=>
   nf w U V W X S J G I s D.length D.length (x.upd np tn) p (Dh w U V W X L S M O y k N A ne P Z a nb vv l gB cb R rep++E) bg bM es JM ep C JG B' s1 _ b' (H1.p [1,2,4,3,5,0,6,7,8,9,10,11,12] 13) fun s2 T s' Vp H3=>?_
  refine Rk.z (NM w U V W X L S M O J G I k s D.length D.length N vv (a.l w.params) [] (nb+a.n) nb ep bM es fr pos (zN st) st.toks st.gens) ?_;refine m5 [6,4] b H3 (fun iQ=>NO w U V W X L S M O J G I k s D.length D.length N vv [] nb ep bM es a T (iv (bM::es)) fr pos (zN st) st.toks st.gens iQ (zN s2) s2.toks s2.gens:) (fun _=>aj) fun iQ s3 H5 B' b'=>?_
  refine Bn w U V W X L S M O s2.heap.objs.size T y k N A ne P Z tx D (Rx w S J G I x p s' ((D.length:Int)+(bM::es).length) D.length [] (ep+1) (cg np ((bM::es).map (·.1))) Vp++([.o O (ae (b0 R) rep),.l (c6 R)]++E)) bg (bM::es) (fun e he=>(tj e he).1) hK.nd (fun e he=>(tj e he).2) Xu (by simp;lia) B' b' (fun s4 a' r8 Di l' zZ Dj g1 hW g4 H7=>?_) (bM::es).length 0 (Nat.zero_add _) s3 _ (a.setG s2.toks (.ref T)) nb vv l gB cb (LX.Bl a _ T) (.inl (Nat.succ_pos _)) ⟨fun u hu=>by rw[show pO Z tx (((bM::es).take 0).map (·.1)) u=tx u from if_neg (fun q=>nomatch q)];exact hl.yes u (by simpa using hu),fun u hu=>hl.no u (by simpa using hu),by rw[hl.len];simp⟩ (H5.p [0,2,1,8,9,10,11,13,3,4,5,6,7,12,14] 15)
  refine Rk.z (NP w U V W X L S M O J G I k s D.length D.length N vv [] nb ep bM es a T (iv (bM::es)) fr pos (zN st) st.toks st.gens iQ (zN s2) s2.toks s2.gens) ?_;refine WA [0,12,7,8,1] b H7 (fun bV=>N5 w U V W X L S M O J G I k s D.length D.length N vv [] nb ep bM es T a' r8 Di (b0 R) rep (bw (bS (ax Z) Y)) s' ((D.length:Int)+(bM::es).length) D.length fr pos (zN st) st.toks st.gens iQ (zN s2) s2.toks s2.gens bV (zN s4) s4.toks s4.gens hW JM:) (fun _=>rfl) (fun _=>aa (by simp;lia) (aa TC (aa (oV _) (aa (by lia) (aa ⟨Xr,Xs⟩ (aa (by simp;lia) aj)))))) (fun bV s5 H9 B' b'=>?_) (hL:=by rw[g1.eq];kernel_rfl)
  refine zh w U V W X S J G I s' ((D.length:Int)+(bM::es).length) D.length (x.upd (cg np ((bM::es).map (·.1))) Vp) p ([.o (s4.heap.objs.size+1) (ae (ib (bw (bS (ax Z) Y)) (Fr bV 1)) 2),.o T (bK (iv (bM::es)) 0)]++(Vn w U V W X L S M O y k N A ne P Z Di (a'.l w.params) (r8+a'.n) l' zZ Dj (b0 R++[.ref (s4.heap.objs.size+1)]) (rep+1)++([.l (c6 R)]++E))) bg t C hx (fun u hu v hv=>xU C hp (h u v hv)) (fun u hu=>d u) bM es JM JG Fc (ep+1) B' s5 _ b' (H9.p [2,3,11,12,13,5,4,0,6,7,8,9,1,10,14] 15 (by dsimp only[Dc];rw[g1.eq];kernel_rfl)) fun s6 s7 Xv Vq JN rep2 hf wa=>?_
  refine qG [] b wa (fun ig=>N7 w U V W X L S M O J G I k s D.length D.length N vv [] nb ep bM es T a' r8 Di (b0 R) rep (bw (bS (ax Z) Y)) s' ((D.length:Int)+(bM::es).length) D.length fr pos (zN st) st.toks st.gens iQ (zN s2) s2.toks s2.gens bV (zN s4) s4.toks s4.gens ig (zN s6) s6.toks s6.gens hW JM:) (fun _=>aj) fun ig s8 Xw=>?_
  have e1:b0 (R++[(s4.heap.objs.size+1,bw (bS (ax Z) Y),Fr bV 1)])=b0 R++[.ref (s4.heap.objs.size+1)]:=by simp[b0]
  have e2:c6 (R++[(s4.heap.objs.size+1,bw (bS (ax Z) Y),Fr bV 1)])=c6 R++[(s4.heap.objs.size+1,ae (ib (bw (bS (ax Z) Y)) (Fr bV 1)) 2)]:=by simp[c6]
  refine ih (Y+1) (D++(bM::es).map (·.1)) (by rw[qi];simp;lia) s8 _ Vq Xv JN s7 (pO Z tx ((bM::es).map (·.1))) a' r8 Di l' zZ Dj (R++[(s4.heap.objs.size+1,bw (bS (ax Z) Y),Fr bV 1)]) (rep+1) rep2 JK JL (by rw[qi];simp;lia) ((Vo 0).2 Vq (JN.map (·.1)) hf) Ry g4 TG ?_ ?_ ?_
  .rw [aL,hR,mV,aL];rfl
  .intro j hj
   by_cases q:j=Y
   .subst q;exact TF
   .exact ly j (by lia)
  .rw [e3];exact(Xw.ch [14,5] (List.Perm.of_eq e2.symm) [.l (c6 _)]).p [1,2,3,4,5,7,8,9,10,11,12,13,0] 14 (by unfold Dh;rw[e1];kernel_rfl)
end
end
end
section
open PySem.F PySem.Builtin PySem.Builtin.Str
section
set_option tactic.hygienic false
section
variable{prog:Program}{w:ZW}{kt:KT}
noncomputable def tq(b:Bool):aX prog w kt:=dg (vn "str.__ne__") (fun c=>[((ag (v0 c)).cps.toList !=(ag (v1 c)).cps.toList)=b]) (fun a a=>.bool b) 0
 fun a a a a hp hB a=>bf hB (by decide+kernel) PySem.F.entry_str_ne (gives_str_ne _ _ _ _) (dr (congrArg Value.bool (hp _ (.head _))))
noncomputable def TH:aX prog w kt:=dg (fun c=>.builtin "str.rstrip" ⟨[.str (ag (v0 c)) (ao (v0 c))],[]⟩) (fun c=>[stripSame Unicode.isSpace false true (ag (v0 c))=true]) (fun c a=>.str (ag (v0 c)) (ao (v0 c))) 0
 fun c a a a hp hB a=>bf hB (by decide+kernel) PySem.F.entry_str_rstrip (gives_str_rstrip _ _) (by
  rw[if_pos (show stripSame Unicode.isSpace false true (ag (v0 c))=true from hp _ (.head _))]
  exact⟨rfl,rfl⟩)
noncomputable def N9(b:Bool):aX prog w kt:=dg (vn "str.endswith") (fun c=>[(0+(ag (v1 c)).length<=(ag (v0 c)).length&&Builtin.Str.subAt (ag (v0 c)) (ag (v1 c)) ((ag (v0 c)).length-(ag (v1 c)).length))=b]) (fun a a=>.bool b) 0
 fun a a a a hp hB a=>bf hB (by decide+kernel) PySem.F.entry_str_endswith (gives_str_endswith _ _ _ _) (dr (congrArg Value.bool (hp _ (.head _))))
end
def Vr(w:ZW):Stmt:=(aH (zD w.params)).getD 2 default
def Xx(w:ZW):Stmt:=(rS (Vr w)).getD 4 default
def wY(w:ZW)(L:Addr):Env:=eB 95 (zD w.params) L []
def m9(w:ZW)(L:Addr):Code:=Jh (Xx w) (wY w L)
noncomputable def fw(P:Params)(k:ZT)(x:ZN)(tx:Tok)(d:Str)(td:Tok)(i:Nat)(Y:Tok)(n:Nat)(Z:Tok)(c:Option (Tok×Nat×Tok)):Obj:=fx ([dE P [101,110,99,111,100,101,100] (k 0) (ar x tx),dE P [101,111,108] (k 1) (ar [10] 333),dE P [100,101,99,111,100,101,100] (k 2) (.str d td),dE P [108,105,110,101] (k 3) (ar x tx),dE P [105] (k 4) (.int i Y),dE P [110] (k 5) (.int n Z)]++
  (match c with|none=>[]|some (W,c,X)=>[dE P [99] W (ar [c] X)])) (match c with|none=>6|some _=>7)
def GC(w:ZW)(W X Y Z V:Addr):ZC:=(f6 (eK w 15) V (bz w W X Y Z),⟨1024,15,1024,27⟩)::cA w W X Y Z ⟨1023,16,1023,28⟩
def TJ(w:ZW)(V X Y Z W L:Addr)(p:Pos):ZC:=(.func (aH (zD w.params)) (wY w L),p)::GC w V X Y Z W
def mD(w:ZW)(V X Y Z W L U:Addr):ZC:=(f6 (Vr w) U (wY w L),⟨80,8,95,30⟩)::TJ w V X Y Z W L ⟨73,16,73,36⟩
def tA(c:Nat)(b:Bool):Prop:=([c] !=[61])=b
section
variable(w:ZW)(R T U V S Z:Nat)(x:ZN)(tx:Tok)(L K:Nat)(k:ZT)(d:Str)(td:Tok)(i:Nat)(Q:Tok)(n:Nat)(X W:Tok)(O:Nat)(P:Tok)(ch z:Nat)(y:ZN)(J:ZL)(M:Pos)(Y I:Nat)(H:ZG)(fr:ZL)(pos:Pos)(N t:Nat)(G:ZG)
def Oa:ZH w:=jn [dz 0x29f629,[(1,.ai (iH))],dz 0xbc29,[(4,.ai (xH))],dz 0xc9110b010bf20e19060106,[(4,.ai (TH))],dz 0xc9,[(1,.ai (iH))],dz 0x290729,[(2,.ai (iH))],dz 0xdb,[(2,.stop)]]
def Dk:ay:=aq (V0 w (GC w R T U V S)) (Oa w) fr (.call (.ref 95) ⟨[.str ⟨⟨Z::x⟩⟩ tx],[]⟩) pos [] [] N t G
noncomputable abbrev wZ:Rs:=⟨[],[(N,fx [dE w.params [101,110,99,111,100,101,100] t (ar (Z::x) tx),dE w.params [101,111,108] (t+1) (ar [10] 333),dE w.params [100,101,99,111,100,101,100] (t+5) (ar [] (t+4)),dE w.params [108,105,110,101] (t+6) (ar (Z::x) tx),dE w.params [105] (t+11) (.int 0 (t+10)),dE w.params [110] (t+14) (.int ((Z::x).length:Nat) (t+13))] 6),((N+1),⟨(.type "list"),none,(.seq ⟨[(ar (Z::x) tx)]⟩ 0),⟨[]⟩⟩),((N+2),⟨(.type "list_iterator"),none,(.fields ⟨[(.ref (N+1)),(.int 1 0)]⟩),⟨[]⟩⟩)],[(⟨⟨Z::x⟩⟩:Str).length<=16777216,(⟨⟨Z::x⟩⟩:Str).length<=16777216,stripSame Unicode.isSpace false true ⟨⟨Z::x⟩⟩=true,(⟨⟨Z::x⟩⟩:Str).length<=16777216/\lineCuts ⟨⟨Z::x⟩⟩=[(0,(⟨⟨Z::x⟩⟩:Str).length)],(⟨⟨Z::x⟩⟩:Str).length<=16777216]⟩
theorem Oc:I7 (V0 w (GC w R T U V S)) 0 [0,1,2] (Dk w R T U V S Z x tx fr pos N t G) (m9 w N) (mD w R T U V S N (N+2)) none (wZ w Z x tx N t) (N+3) (t+15) G 0:=by apply aC w;kernel_rfl
def Dl:ZH w:=jn [dz 0xbd,[(3,.ai (oLt true))],dz 0xd7,[(2,.ai (eb ch))],dz 0xd1,[(4,.ai (tq true))],dz 0xbd,[(3,.ai (hZ))],dz 0x9d5,[(3,.ai (eu))],dz 0xf3,[(3,.ai (oEq false))],[(0,.tail)]]
abbrev Od:c7:=⟨(aq (V0 w (mD w R T U V S L K)) (Dl w ch) fr (m9 w L) pos [(L,fw w.params k x tx d td i Q n X (some (W,O,P)))] [] N t G),(m9 w L),⟨94,15,94,21⟩,⟨[(L,fw w.params k x tx (d++(⟨⟨[ch]⟩⟩:Str)) (t+3) (i+1) (t+6) n X (some (W,ch,t)))],[],[((i:Int)+1==(n:Int))=false,(d.length==0)=false,((⟨⟨[ch]⟩⟩:Str).length==0)=false,(d++(⟨⟨[ch]⟩⟩:Str)).length<=16777216,tA ch true,(decide ((i:Int)< -(2^63:Int))||decide ((i:Int)>=2^63))=false,(seqIndex? ((i:Int)) (⟨⟨x⟩⟩:Str).length).bind ((⟨⟨x⟩⟩:Str).cps[·]?)=some ch,decide ((i:Int)<(n:Int))=true]⟩,N,(t+8)⟩
theorem Oe:(Od w R T U V S x tx L K k d td i Q n X W O P ch fr pos N t G).ok (Dl w ch) pos 1 [] G:=by apply aC w;kernel_rfl
def Dm:ZH w:=jn [dz 0xbd,[(3,.ai (oLt true))],dz 0xd7,[(2,.ai (eb 61))],dz 0xd1,[(4,.ai (tq false))],dz 0x9,[(3,.ai (eu))],dz 0x5,[(3,.ai (oEq false))],dz 0x9,[(3,.ai (eu))],dz 0x5,[(3,.ai (oLt true))],dz 0xbd,[(3,.ai (eu))],[(2,.ai (eb 51))],dz 0x53c,[(3,.ai (eu))],[(2,.ai (eb 68))],dz 0xbd0c3c,[(3,.ai (eu))],[(3,.ai (zE 1 ⟨⟨[61,51,68]⟩⟩))],dz 0x808083a661190,[(26,.ai (hZ))],dz 0x9d5,[(3,.ai (eu))],dz 0xf3,[(3,.ai (oEq false))],[(0,.tail)]]
abbrev Of:c7:=⟨(aq (V0 w (mD w R T U V S L K)) (Dm w) fr (m9 w L) pos [(L,fw w.params k x tx d td i Q n X (some (W,O,P)))] [] N t G),(m9 w L),⟨94,15,94,21⟩,⟨[(L,fw w.params k x tx (d++(⟨⟨[61]⟩⟩:Str)) (t+23) (i+3) (t+26) n X (some (W,61,t)))],[],[((i:Int)+3==(n:Int))=false,(d.length==0)=false,((⟨⟨[61]⟩⟩:Str).length==0)=false,(d++(⟨⟨[61]⟩⟩:Str)).length<=16777216,(1==(0:Int))=false,sliceMade ⟨⟨x⟩⟩ tx (some ((i:Int),Q)) (some ((i:Int)+3,t+14)) none=.str ⟨⟨[61,51,68]⟩⟩,(⟨⟨[61,51,68]⟩⟩:Str).length<=16777216,(decide ((i:Int)+2< -(2^63:Int))||decide ((i:Int)+2>=2^63))=false,(seqIndex? ((i:Int)+2) (⟨⟨x⟩⟩:Str).length).bind ((⟨⟨x⟩⟩:Str).cps[·]?)=some 68,(decide ((i:Int)+1< -(2^63:Int))||decide ((i:Int)+1>=2^63))=false,(seqIndex? ((i:Int)+1) (⟨⟨x⟩⟩:Str).length).bind ((⟨⟨x⟩⟩:Str).cps[·]?)=some 51,decide ((i:Int)+2<(n:Int))=true,((i:Int)+1==(n:Int))=false,tA 61 false,(decide ((i:Int)< -(2^63:Int))||decide ((i:Int)>=2^63))=false,(seqIndex? ((i:Int)) (⟨⟨x⟩⟩:Str).length).bind ((⟨⟨x⟩⟩:Str).cps[·]?)=some 61,decide ((i:Int)<(n:Int))=true]⟩,(N+3),(t+28)⟩
theorem Og:(Of w R T U V S x tx L K k d td i Q n X W O P fr pos N t G).ok (Dm w) pos 1 [] G:=by apply aC w;kernel_rfl
def Dn:ZH w:=jn [dz 0xbd,[(3,.ai (oLt true))],dz 0xd7,[(2,.ai (eb 61))],dz 0xd1,[(4,.ai (tq false))],dz 0x9,[(3,.ai (eu))],dz 0x5,[(3,.ai (oEq false))],dz 0x9,[(3,.ai (eu))],dz 0x5,[(3,.ai (oLt true))],dz 0xbd,[(3,.ai (eu))],[(2,.ai (eb 122))],dz 0x53c,[(3,.ai (hZ))],dz 0x9d5,[(3,.ai (eu))],dz 0xf3,[(3,.ai (oEq false))],[(0,.tail)]]
abbrev Oh:c7:=⟨(aq (V0 w (mD w R T U V S L K)) (Dn w) fr (m9 w L) pos [(L,fw w.params k x tx d td i Q n X (some (W,O,P)))] [] N t G),(m9 w L),⟨94,15,94,21⟩,⟨[(L,fw w.params k x tx (d++(⟨⟨[61]⟩⟩:Str)) (t+10) (i+1) (t+13) n X (some (W,61,t)))],[],[((i:Int)+1==(n:Int))=false,(d.length==0)=false,((⟨⟨[61]⟩⟩:Str).length==0)=false,(d++(⟨⟨[61]⟩⟩:Str)).length<=16777216,(decide ((i:Int)+1< -(2^63:Int))||decide ((i:Int)+1>=2^63))=false,(seqIndex? ((i:Int)+1) (⟨⟨x⟩⟩:Str).length).bind ((⟨⟨x⟩⟩:Str).cps[·]?)=some 122,decide ((i:Int)+2<(n:Int))=true,((i:Int)+1==(n:Int))=false,tA 61 false,(decide ((i:Int)< -(2^63:Int))||decide ((i:Int)>=2^63))=false,(seqIndex? ((i:Int)) (⟨⟨x⟩⟩:Str).length).bind ((⟨⟨x⟩⟩:Str).cps[·]?)=some 61,decide ((i:Int)<(n:Int))=true]⟩,N,(t+15)⟩
theorem Oi:(Oh w R T U V S x tx L K k d td i Q n X W O P fr pos N t G).ok (Dn w) pos 1 [] G:=by apply aC w;kernel_rfl
def Dq:ZH w:=jn [dz 0xbd,[(3,.ai (oLt true))],dz 0xd7,[(2,.ai (eb 61))],dz 0xd1,[(4,.ai (tq false))],dz 0x9,[(3,.ai (eu))],dz 0x5,[(3,.ai (oEq false))],dz 0x9,[(3,.ai (eu))],dz 0x5,[(3,.ai (oLt false))],dz 0xbd,[(3,.ai (hZ))],dz 0x9d5,[(3,.ai (eu))],dz 0xf3,[(3,.ai (oEq false))],[(0,.tail)]]
abbrev Oj:c7:=⟨(aq (V0 w (mD w R T U V S L K)) (Dq w) fr (m9 w L) pos [(L,fw w.params k x tx d td i Q n X (some (W,O,P)))] [] N t G),(m9 w L),⟨94,15,94,21⟩,⟨[(L,fw w.params k x tx (d++(⟨⟨[61]⟩⟩:Str)) (t+7) (i+1) (t+10) n X (some (W,61,t)))],[],[((i:Int)+1==(n:Int))=false,(d.length==0)=false,((⟨⟨[61]⟩⟩:Str).length==0)=false,(d++(⟨⟨[61]⟩⟩:Str)).length<=16777216,decide ((i:Int)+2<(n:Int))=false,((i:Int)+1==(n:Int))=false,tA 61 false,(decide ((i:Int)< -(2^63:Int))||decide ((i:Int)>=2^63))=false,(seqIndex? ((i:Int)) (⟨⟨x⟩⟩:Str).length).bind ((⟨⟨x⟩⟩:Str).cps[·]?)=some 61,decide ((i:Int)<(n:Int))=true]⟩,N,(t+12)⟩
theorem Ol:(Oj w R T U V S x tx L K k d td i Q n X W O P fr pos N t G).ok (Dq w) pos 1 [] G:=by apply aC w;kernel_rfl
def Dr:ZH w:=jn [dz 0xbd,[(3,.ai (oLt true))],dz 0xd7,[(2,.ai (eb ch))],dz 0xd1,[(4,.ai (tq true))],dz 0xbd,[(3,.ai (hZ))],dz 0x9d5,[(3,.ai (eu))],dz 0xf3,[(3,.ai (oEq true))],dz 0xbd,[(3,.ai (hZ))],dz 0xd5,[(1,.tail)]]
abbrev Om:c7:=⟨(aq (V0 w (mD w R T U V S L K)) (Dr w ch) fr (m9 w L) pos [(L,fw w.params k x tx d td i Q n X (some (W,O,P)))] [] N t G),(m9 w L),⟨95,16,95,23⟩,⟨[(L,fw w.params k x tx (d++(⟨⟨[ch]⟩⟩:Str)++(⟨⟨[10]⟩⟩:Str)) (t+8) (i+1) (t+6) n X (some (W,ch,t)))],[],[((d++(⟨⟨[ch]⟩⟩:Str)).length==0)=false,((⟨⟨[10]⟩⟩:Str).length==0)=false,((d++(⟨⟨[ch]⟩⟩:Str))++(⟨⟨[10]⟩⟩:Str)).length<=16777216,((i:Int)+1==(n:Int))=true,(d.length==0)=false,((⟨⟨[ch]⟩⟩:Str).length==0)=false,(d++(⟨⟨[ch]⟩⟩:Str)).length<=16777216,tA ch true,(decide ((i:Int)< -(2^63:Int))||decide ((i:Int)>=2^63))=false,(seqIndex? ((i:Int)) (⟨⟨x⟩⟩:Str).length).bind ((⟨⟨x⟩⟩:Str).cps[·]?)=some ch,decide ((i:Int)<(n:Int))=true]⟩,N,(t+10)⟩
theorem Oo:(Om w R T U V S x tx L K k d td i Q n X W O P ch fr pos N t G).ok (Dr w ch) pos 1 [] G:=by apply aC w;kernel_rfl
def Ds:ZH w:=jn [dz 0xbd,[(3,.ai (oLt true))],dz 0xd7,[(2,.ai (eb ch))],dz 0xd1,[(4,.ai (tq true))],dz 0x90724bd,[(3,.ai (eu))],dz 0xf3,[(3,.ai (oEq false))],[(0,.tail)]]
abbrev Oq:c7:=⟨(aq (V0 w (mD w R T U V S L K)) (Ds w ch) fr (m9 w L) pos [(L,fw w.params k x tx ⟨⟨[]⟩⟩ td 0 Q n X none)] [] N t G),(m9 w L),⟨94,15,94,21⟩,⟨[(L,fw w.params k x tx ⟨⟨[ch]⟩⟩ t 1 (t+5) n X (some (t+1,ch,t)))],[],([(((0:Int)+1==(n:Int))=false)]++([tA ch true]++(F7 0 ⟨⟨x⟩⟩ ch++[decide ((0:Int)<(n:Int))=true])))⟩,N,(t+7)⟩
theorem Ot:(Oq w R T U V S x tx L K k td Q n X ch fr pos N t G).ok (Ds w ch) pos 1 [] G:=by apply aC w;kernel_rfl
def Dt:ZH w:=jn [dz 0xbd,[(3,.ai (oLt false))],[(0,.fin)]]
abbrev Ou:dp:=⟨(aq (V0 w (mD w R T U V S L K)) (Dt w) fr (m9 w L) pos [(L,fw w.params k x tx d td i Q n X (some (W,O,P)))] [] N t G),(.ok .next),⟨[(L,fw w.params k x tx d td i Q n X (some (W,O,P)))],[],[decide ((i:Int)<(n:Int))=false]⟩,N,t⟩
theorem Ov:(Ou w R T U V S x tx L K k d td i Q n X W O P fr pos N t G).ok (Dt w) pos 1 [] G:=by apply aC w;kernel_rfl
def Du:ZH w:=jn [dz 0x132d1102010bf20e,[(8,.ai (eb z))],[(3,.ai (i5 false))],dz 0xc05,[(2,.ai (N9 true))],dz 0x1313,[(19,.ai (zE 5 ⟨⟨y⟩⟩))],dz 0xd1,[(0,.fin)]]
abbrev Ow:dp:=⟨(bo (V0 w (GC w R T U V S)) (Du w z y) fr (Dk w R T U V S Z x tx J M Y I H) (.ok .next) [(Y,fw w.params k (Z::x) tx d td i Q n X (some (W,O,P))),((Y+1),ae [.str ⟨⟨Z::x⟩⟩ tx] 0),((Y+2),bx (Y+1) 1)] [] N t G),(.ok (.ret (ar y (t+7)))),⟨[(Y,fw w.params k (Z::x) tx ⟨⟨y⟩⟩ (t+7) i Q n X (some (W,O,P))),((Y+1),ae [.str ⟨⟨Z::x⟩⟩ tx] 0),((Y+2),jO "list_iterator" 1)],[],([(1==(0:Int))=false,sliceMade d td none (some (-1,t+6)) none=.str ⟨⟨y⟩⟩,(⟨⟨y⟩⟩:Str).length<=16777216,(0+(⟨⟨[10]⟩⟩:Str).length<=d.length&&subAt d ⟨⟨[10]⟩⟩ (d.length-(⟨⟨[10]⟩⟩:Str).length))=true,F8 false ⟨⟨[13,10]⟩⟩ ⟨#[z]⟩]++F7 (-1) ⟨⟨Z::x⟩⟩ z)⟩,(N+3),(t+9)⟩
theorem Ox:(Ow w R T U V S Z x tx k d td i Q n X W O P z y J M Y I H fr N t G).ok (Du w z y) ⟨0,0,0,0⟩ 3 [] G:=by apply aC w;kernel_rfl
end
end
end
section
open PySem.F PySem.Builtin PySem.Builtin.Str PySem.StrLaws
section
set_option tactic.hygienic true
noncomputable def Vs(r:ZN):Bool:=Nat.beq (r.getD 0 0) 51&&Nat.beq (r.getD 1 0) 68
noncomputable def wb:ZN->Nat->ZN
 |[],_=>[]
 |c::r,k=>match k with
  |0=>c::wb r (cond (Nat.beq c 61&&Vs r) 2 0)
  |k+1=>wb r k
noncomputable def dI(l:ZN):ZN:=wb l 0
theorem qQ(r:ZN):dI (61::51::68::r)=61::dI r:=rfl
theorem fc{c:Nat}(h:c≠61)(r:ZN):dI (c::r)=c::dI r:=by
 show c::wb r (cond (Nat.beq c 61&&Vs r) 2 0)=_
 rw[vM h];rfl
theorem xW(r:ZN):dI (61::122::r)=61::dI (122::r):=rfl
inductive eX:ZN->Prop
 |one {c:Nat} (h:c≠61):eX [c]
 |cons {c:Nat} {r:ZN} (h:c≠61) (k:eX r):eX (c::r)
 |hex {r:ZN} (k:eX r):eX (61::51::68::r)
 |Vt {r:ZN} (k:eX (122::r)):eX (61::122::r)
theorem eX.ne{l:ZN}(h:eX l):l≠[]:=by cases h<;>exact fun h=>nomatch h
theorem fZ(a b:ZN):((⟨⟨a⟩⟩:Str)++(⟨⟨b⟩⟩:Str))=⟨⟨a++b⟩⟩:=by
 show(⟨(⟨a⟩:Array Nat)++⟨b⟩⟩:Str)=_
 congr 1
 simp
theorem Bq{l:ZN}:(dI l).length<=l.length:=by
 have h:∀k,(wb l k).length<=l.length:=by
  induction l with
  |nil=>exact fun a=>aM _
  |cons c r Z=>exact fun k=>k.casesOn (gX (Z _)) fun k=>j2 (Z k)
 exact h 0
theorem m1{x:ZN}{i c:Nat}(h:x[i]?=some c)(Y:x.length<=16777216):(decide ((i:Int)< -(2^63:Int))||decide ((i:Int)>=2^63))=false/\(seqIndex? i (⟨⟨x⟩⟩:Str).length).bind ((⟨⟨x⟩⟩:Str).cps[·]?)=some c:=by
 have X:i<x.length:=(List.getElem?_eq_some_iff.mp h).1
 refine⟨?_,?_⟩
 .rw [Bool.or_eq_false_iff,decide_eq_false_iff_not,decide_eq_false_iff_not];constructor
  .have:(0:Int)<=(i:Int):=by exact mQ i
   exact of_decide_eq_false rfl
  .have:(i:Int)<16777216:=by lia
   lia
 .have e:seqIndex? (i:Int) (⟨⟨x⟩⟩:Str).length=some i:=by
   unfold seqIndex?;have Z:¬((i:Int)<0):=by exact sl i
   simp only[Z,if_false];rw[dM,if_pos (by simp;exact PyProof.Rows.place_lt h)]
   simp
  rw[e];show(⟨x⟩:Array Nat)[i]?=some c
  simpa using h
theorem r9{x:ZN}{i c j:Nat}(h:x[i+j]?=some c)(Z:x.length<=16777216):(decide ((i:Int)+j< -(2^63:Int))||decide ((i:Int)+j>=2^63))=false/\(seqIndex? ((i:Int)+j) (⟨⟨x⟩⟩:Str).length).bind ((⟨⟨x⟩⟩:Str).cps[·]?)=some c:=by
 have:=m1 h Z
 rwa [Int.natCast_add]at this
theorem Oy{x:ZN}{i a b c:Nat}{tx:Tok}{p q:Tok}(h0:x[i]?=some a)(X:x[i+1]?=some b)(h2:x[i+2]?=some c)(Y:i+3<x.length):sliceMade ⟨⟨x⟩⟩ tx (some ((i:Int),p)) (some ((i:Int)+3,q)) none=.str ⟨⟨[a,b,c]⟩⟩:=by
 have e:slicePicked ⟨⟨x⟩⟩ (some ((i:Int),p)) (some ((i:Int)+3,q)) none=[i,i+1,i+2]:=by
  show strSliceIndices (some (i:Int)) (some ((i:Int)+3)) 1 (⟨⟨x⟩⟩:Str).length=_
  have h:=strSliceIndices_plain (a:=i) (b:=i+3) (len:=x.length) (b8 i 3) (jB Y)
  rw[Int.natCast_add]at h;refine h.trans ?_;rw[show i+3-i=3 by exact Nat.add_sub_self_left i 3]
  rfl
 unfold sliceMade;rw[e,if_neg (by rw[dM];simp;lia)]
 have Z:([i,i+1,i+2].filterMap fun k=>(⟨⟨x⟩⟩:Str).cps[k]?)=[a,b,c]:=by
  have g:∀k:Nat,(⟨⟨x⟩⟩:Str).cps[k]?=x[k]?:=fun k=>by show(⟨x⟩:Array Nat)[k]?=_;simp
  simp only[g,List.filterMap_cons,h0,X,h2,List.filterMap_nil]
 rw[Z]
theorem xX{α β:Type}{f:α->Option β}{g:α->β}:∀{l:List α},(∀k∈l,f k=some (g k))->l.filterMap f=l.map g
 |[],_=>rfl
 |k::l,h=>by rw[List.filterMap_cons,h k (.head _),dw,xX fun q hq=>h q (.tail _ hq)]
theorem zi(y:ZN)(z:Nat)(td p:Tok):sliceMade ⟨⟨y++[z]⟩⟩ td none (some (-1,p)) none=.str ⟨⟨y⟩⟩:=by
 have hlen:(⟨⟨y++[z]⟩⟩:Str).length=y.length+1:=by rw[dM];simp
 have e:slicePicked ⟨⟨y++[z]⟩⟩ none (some (-1,p)) none=List.range y.length:=by
  have h:=strSliceIndices_plain (a:=0) (b:=y.length) (len:=y.length+1) (b9 y.length) (b8 y.length 1)
  have U:strSliceIndices none (some (-1)) 1 (y.length+1)=strSliceIndices (some ((0:Nat):Int)) (some ((y.length:Nat):Int)) 1 (y.length+1):=by
   have V:(Max.max (0:Int) (Min.min (if(-1:Int)<0 then(-1:Int)+((y.length+1:Nat):Int)else(-1:Int)) ((y.length+1:Nat):Int)))=(y.length:Int):=by
    rw[if_pos (by decide)];lia
   have h2:(Max.max (0:Int) (Min.min (if(y.length:Int)<0 then(y.length:Int)+((y.length+1:Nat):Int)else(y.length:Int)) ((y.length+1:Nat):Int)))=(y.length:Int):=by
    rw[if_neg (sl y.length)];lia
   have W:(Max.max (0:Int) (Min.min (if((0:Nat):Int)<0 then((0:Nat):Int)+((y.length+1:Nat):Int)else((0:Nat):Int)) ((y.length+1:Nat):Int)))=0:=by
    rw[if_neg (by decide)];exact Int.max_self 0
   unfold strSliceIndices;simp only[show((1:Int)>0)=True from by simp,if_true]
   rw[V,h2,W]
  show strSliceIndices none (some (-1)) 1 (⟨⟨y++[z]⟩⟩:Str).length=_
  rw[hlen,U,h,Nat.sub_zero];simp
 unfold sliceMade;rw[e,if_neg (by rw[hlen];simp)]
 have X:((List.range y.length).filterMap fun k=>(⟨⟨y++[z]⟩⟩:Str).cps[k]?)=y:=by
  have g:∀k:Nat,(⟨⟨y++[z]⟩⟩:Str).cps[k]?=(y++[z])[k]?:=fun k=>by show(⟨y++[z]⟩:Array Nat)[k]?=_;simp
  simp only[g];apply List.ext_getElem?;intro j;have:(List.range y.length).filterMap (fun k=>(y++[z])[k]?)=(List.range y.length).map fun k=>y.getD k 0:=by
   refine xX fun k Z=>?_
   have Z:=fj.mp Z
   rw[List.getElem?_append_left Z,List.getElem?_eq_getElem Z];simp[List.getD,List.getElem?_eq_getElem Z]
  rw[this,List.getElem?_map]
  by_cases Y:j<y.length
  .rw [List.getElem?_range Y];simp[List.getD,List.getElem?_eq_getElem Y]
  .rw [List.getElem?_eq_none (by simp;exact Nat.le_of_not_lt Y),List.getElem?_eq_none (Nat.le_of_not_lt Y)];rfl
 rw[X]
theorem Br(y:ZN):(0+(⟨⟨[10]⟩⟩:Str).length<=(⟨⟨y++[10]⟩⟩:Str).length&&subAt ⟨⟨y++[10]⟩⟩ ⟨⟨[10]⟩⟩ ((⟨⟨y++[10]⟩⟩:Str).length-(⟨⟨[10]⟩⟩:Str).length))=true:=by
 rw[mR];refine⟨by rw[dM,dM];simp,?_⟩
 unfold subAt;rw[dM,dM];show((⟨y++[10]⟩:Array Nat).extract _ _==⟨[10]⟩)=true
 have:(⟨y++[10]⟩:Array Nat).extract ((y++[10]).length-[10].length) ((y++[10]).length-[10].length+[10].length)=⟨[10]⟩:=by
  apply gb.mp;simp
 rw[this];exact beq_self_eq_true _
theorem Bs:((List.range' 33 94).all fun c=>!Unicode.isSpace c)=true:=by decide+kernel
theorem tY{x:ZN}{z:Nat}(h:x.getLast?=some z)(X:33<=z)(h2:z<=126):stripSame Unicode.isSpace false true ⟨⟨x⟩⟩=true:=by
 have Z:Unicode.isSpace z=false:=by
  have:=kE.mp Bs z (by simp only[List.mem_range'_1];lia)
  simpa using this
 have e:x.reverse.takeWhile Unicode.isSpace=[]:=by
  have:x.reverse.head?=some z:=by rw[List.head?_reverse,h]
  cases Y:x.reverse with
  |nil=>rfl
  |cons a l=>rw[Y]at this;cases this;rw[List.takeWhile_cons,Z];rfl
 unfold stripSame stripLo stripHi;rw[dM];simp only[if_true,Bool.false_eq_true,if_false,List.drop_zero];rw[e];simp
theorem An{a b:Nat}(h:a≠b):((a:Int)==(b:Int))=false:=beq_eq_false_iff_ne.mpr fun e=>h (Int.ofNat.inj e)
theorem RB{a b:Nat}(h:a=b):((a:Int)==(b:Int))=true:=by rw[h];exact beq_self_eq_true _
theorem Ao{a b:Nat}(h:a<b):decide ((a:Int)<(b:Int))=true:=decide_eq_true (Int.ofNat_lt.mpr h)
theorem inl{a b:Nat}(h:b<=a):decide ((a:Int)<(b:Int))=false:=decide_eq_false (Int.not_lt.mpr (Int.ofNat_le.mpr h))
section
variable(w:ZW)(U W X Y V L T:Addr)(k:ZT)(x:ZN)(tx:Tok)(Z:Tok)(bg:List aQ)(hx:x.length<=16000000)
include hx in
theorem Bu[ZI]{Q:ZR}(all:ZN)(E:List Bk)(B:aS)(b:Bt (mD w U W X Y V L T) none B)(K:∀s' td ti kc c0 tc D j,D=⟨⟨all⟩⟩->Hq w s' (.o L (fw w.params k x tx D td j ti x.length Z (some (kc,c0,tc)))::E) bg->Q (.ok .next) s'){RC:ZN}(hs:eX RC):∀(pre dl:ZN)(D:Str)(n:Nat),x=pre++RC->D=⟨⟨dl⟩⟩->n=pre.length->dl≠[]->dl.length<=n->dl++dI RC++[10]=all->∀(st:ZS)(pos:Pos)(td ti kc:Tok)(c0:Nat)(tc:Tok),
  Hq w st (.o L (fw w.params k x tx D td n ti x.length Z (some (kc,c0,tc)))::E) bg->Rn w B st (m9 w L) pos Q:=by
 have cat:∀(dl:ZN)(c:Nat),dl≠[]->dl.length<=x.length->((⟨⟨dl⟩⟩:Str).length==0)=false/\((⟨⟨[c]⟩⟩:Str).length==0)=false/\((⟨⟨dl⟩⟩:Str)++(⟨⟨[c]⟩⟩:Str)).length<=16777216:=fun dl c h hl=>by
  refine⟨?_,rfl,?_⟩
  .cases dl with
   |nil=>exact absurd rfl h
   |cons=>rfl
  .rw [fZ,dM,cJ];exact au (jG (au hl hx) (aM 1)) (by decide)
 have Dv:∀(pre r:ZN)(c:Nat),x=pre++c::r->x[pre.length]?=some c:=fun pre r c e=>by rw[e,List.getElem?_append_right (aM _),Nat.sub_self];rfl
 have RE:∀(pre r:ZN)(j:Nat),x=pre++r->x[pre.length+j]?=r[j]?:=fun pre r j e=>by rw[e,List.getElem?_append_right (b8 ..),Nat.add_sub_cancel_left]
 have xl:∀(pre r:ZN),x=pre++r->x.length=pre.length+r.length:=fun pre r e=>by rw[e];exact cJ
 have xb:x.length<=16777216:=au hx (by decide)
 have nn:∀(dl:ZN)(c:Nat),dl++[c]≠[]:=fun dl c=>List.append_ne_nil_of_right_ne_nil _ (kG _ _)
 have sc:∀(dl:ZN)(c:Nat){n:Nat},dl.length<=n->(dl++[c]).length<=n+1:=fun dl c n h=>by rw[cJ];exact gX h
 induction hs with
 |one hc=>
  rename_i c
  rintro pre dl _ _ e rfl rfl hd sa ha st pos td ti kc c0 tc H
  have hl:pre.length+1=x.length:=(xl _ _ e).symm
  obtain⟨g1,g2⟩:=m1 (Dv _ _ _ e) xb;have Xy:dl.length<=x.length:=au sa (hl▸iA _)
  obtain⟨q1,q2,q3⟩:=cat dl c hd Xy;obtain⟨r1,r2,r3⟩:=cat (dl++[c]) 10 (nn _ _) (hl▸sc _ _ sa);rw[←fZ]at r1 r3;refine kT [0] b H (fun fr=>Oo w U W X Y V x tx L T k ⟨⟨dl⟩⟩ td pre.length ti x.length Z kc c0 tc c fr pos (zN st) st.toks st.gens:) (fun _=>aa r1 (aa r2 (aa r3 (aa (RB hl) (aa q1 (aa q2 (aa q3 (aa (by show([c] !=[61])=true;simp[hc]) (aa g1 (aa g2 (aa (Ao (hl▸Nat.lt_succ_self _)) aj))))))))))) fun fr s' H'=>?_
  exact kF [0] b H' (fun iQ=>Ov w U W X Y V x tx L T k ((⟨⟨dl⟩⟩:Str)++(⟨⟨[c]⟩⟩:Str)++(⟨⟨[10]⟩⟩:Str)) (st.toks+8) (pre.length+1) (st.toks+6) x.length Z kc c st.toks iQ _ (zN s') s'.toks s'.gens:) (fun _=>aa (inl (dX hl.symm)) aj) fun iQ s2 H2=>
   K s2 _ _ _ _ _ _ _ (by rw[fZ,fZ,←ha,fc hc];rfl) H2
 |cons hc hk ih=>
  rename_i c r
  rintro pre dl _ _ e rfl rfl hd sa ha st pos td ti kc c0 tc H
  have hl:x.length=pre.length+(r.length+1):=xl _ _ e
  have hr:0<r.length:=kH.mpr hk.ne
  obtain⟨g1,g2⟩:=m1 (Dv _ _ _ e) xb;obtain⟨q1,q2,q3⟩:=cat dl c hd (au sa (hl▸b8 ..));exact kT [0] b H (fun fr=>Oe w U W X Y V x tx L T k ⟨⟨dl⟩⟩ td pre.length ti x.length Z kc c0 tc c fr pos (zN st) st.toks st.gens:) (fun _=>aa (An (by lia:pre.length+1≠x.length)) (aa q1 (aa q2 (aa q3 (aa (by show([c] !=[61])=true;simp[hc]) (aa g1 (aa g2 (aa (Ao (by lia)) aj)))))))) fun fr s' H'=>
   ih (pre++[c]) (dl++[c]) _ _ (by rw[e,br];rfl) (fZ ..) List.length_append.symm (nn _ _) (sc _ _ sa) (by rw[←ha,fc hc,br dl];rfl) s' _ _ _ _ _ _ H'
 |hex hk ih=>
  rename_i r
  rintro pre dl _ _ e rfl rfl hd sa ha st pos td ti kc c0 tc H
  have hl:x.length=pre.length+(r.length+3):=xl _ _ e
  have hr:0<r.length:=kH.mpr hk.ne
  obtain⟨g1,g2⟩:=m1 (Dv _ _ _ e) xb;have a1:x[pre.length+1]?=some 51:=by rw[RE _ _ 1 e];rfl
  have a2:x[pre.length+2]?=some 68:=by rw[RE _ _ 2 e];rfl
  obtain⟨g3,g4⟩:=r9 (j:=1) a1 xb;obtain⟨g5,g6⟩:=r9 (j:=2) a2 xb;obtain⟨q1,q2,q3⟩:=cat dl 61 hd (au sa (hl▸b8 ..));exact kT [0] b H (fun fr=>Og w U W X Y V x tx L T k ⟨⟨dl⟩⟩ td pre.length ti x.length Z kc c0 tc fr pos (zN st) st.toks st.gens:) (fun _=>aa (An (by lia:pre.length+3≠x.length)) (aa q1 (aa q2 (aa q3 (aa rfl (aa (Oy (Dv _ _ _ e) a1 a2 (by lia)) (aa (by decide) (aa g5 (aa g6 (aa g3 (aa g4 (aa (Ao (by lia:pre.length+2<x.length)) (aa (An (by lia:pre.length+1≠x.length)) (aa rfl (aa g1 (aa g2 (aa (Ao (by lia)) aj))))))))))))))))) fun fr s' H'=>
   ih (pre++[61,51,68]) (dl++[61]) _ _ (by rw[e,br];rfl) (fZ ..) List.length_append.symm (nn _ _) (au (sc _ _ sa) (b8 _ 2)) (by rw[←ha,qQ,br dl];rfl) s' _ _ _ _ _ _ H'
 |Vt hk ih=>
  rename_i r
  rintro pre dl _ _ e rfl rfl hd sa ha st pos td ti kc c0 tc H
  have hl:x.length=pre.length+(r.length+2):=xl _ _ e
  obtain⟨g1,g2⟩:=m1 (Dv _ _ _ e) xb;have a1:x[pre.length+1]?=some 122:=by rw[RE _ _ 1 e];rfl
  obtain⟨g3,g4⟩:=r9 (j:=1) a1 xb;obtain⟨q1,q2,q3⟩:=cat dl 61 hd (au sa (hl▸b8 ..));have nx:=ih (pre++[61]) (dl++[61]) _ _ (by rw[e,br];rfl) (fZ ..) List.length_append.symm (nn _ _) (sc _ _ sa) (by rw[←ha,xW,br dl];rfl)
  have i1:=An (by lia:pre.length+1≠x.length)
  have i2:=Ao (by exact PyProof.Rows.place_lt (Dv pre (122::r) 61 e):pre.length<x.length)
  rcases r with _|⟨r0,r⟩
  .exact kT [0] b H (fun fr=>Ol w U W X Y V x tx L T k ⟨⟨dl⟩⟩ td pre.length ti x.length Z kc c0 tc fr pos (zN st) st.toks st.gens:) (fun _=>aa i1 (aa q1 (aa q2 (aa q3 (aa (inl (dX hl:x.length<=pre.length+2)) (aa i1 (aa rfl (aa g1 (aa g2 (aa i2 aj)))))))))) fun fr s' H'=>nx s' _ _ _ _ _ _ H'
  .exact kT [0] b H (fun fr=>Oi w U W X Y V x tx L T k ⟨⟨dl⟩⟩ td pre.length ti x.length Z kc c0 tc fr pos (zN st) st.toks st.gens:) (fun _=>aa i1 (aa q1 (aa q2 (aa q3 (aa g3 (aa g4 (aa (Ao (by rw[hl];exact Nat.add_lt_add_left (Nat.lt_add_of_pos_left (si _)) _:pre.length+2<x.length)) (aa i1 (aa rfl (aa g1 (aa g2 (aa i2 aj)))))))))))) fun fr s' H'=>nx s' _ _ _ _ _ _ H'
end
theorem tZ[ZI]{Q:ZR}(w:ZW)(P S T U R:Addr)(Z:Nat)(x:ZN)(tx:Tok)(E:List Bk)(bg:List aQ)(h0:Z≠61)(J:eX x)(X:iK (Z::x))(L:(Z::x).length<=1000000)(B:aS)(st:ZS)(pos:Pos)(b:Bt (GC w P S T U R) none B)(H:Hq w st E bg)(K:∀M t,Hq w M E bg->Q (.ok (.ret (ar (dI (Z::x)) t))) M):Rn w B st (.call (.ref 95) ⟨[.str ⟨⟨Z::x⟩⟩ tx],[]⟩) pos Q:=by
 obtain⟨z,O,V⟩:=X.last;have W:z<=126:=by
  have:=X.ok z (List.mem_of_getLast? O)
  simp only[jT,Bool.and_eq_true,Nat.ble_eq]at this;exact this.2
 have hlen:(⟨⟨Z::x⟩⟩:Str).length<=16777216:=au L (by decide)
 obtain⟨g1,g2⟩:=m1 (x:=Z::x) (i:=0) rfl hlen;have N:0<x.length:=kH.mpr J.ne
 refine hS [] b H (fun fr=>Oc w P S T U R Z x tx fr pos (zN st) st.toks st.gens:) (fun a=>rfl) (fun a=>aa hlen (aa hlen (aa (tY O V W) (aa ⟨hlen,qO X.ne X.ok⟩ (aa hlen aj))))) fun fr s1 H1 q I=>?_
 refine kT [0] I H1 (fun Y=>Ot w P S T U R (Z::x) tx st.heap.objs.size (st.heap.objs.size+2) (KK [st.toks,st.toks+1,st.toks+5,st.toks+6,st.toks+11,st.toks+14]) (st.toks+4) (st.toks+10) (Z::x).length (st.toks+13) Z Y _ (zN s1) s1.toks s1.gens:) (fun a=>aa (An (mJ (Nat.succ_lt_succ N):1≠(Z::x).length)) (aa (by show([Z] !=[61])=true;simp[h0]) (aa g1 (aa g2 (aa (Ao (si _)) aj))))) fun Y s2 r=>?_
 refine Bu w P S T U R st.heap.objs.size (st.heap.objs.size+2) _ (Z::x) tx _ bg (au L (by decide)) ([Z]++dI x++[10]) (rB [0] (sg (wZ w Z x tx st.heap.objs.size st.toks).A++(sg (wZ w Z x tx st.heap.objs.size st.toks).B++E))) q I (fun s3 td G C v F D j y s=>?_) J [Z] [Z] _ _ rfl rfl rfl (kG _ _) (aM _) rfl s2 _ _ _ _ _ _ r
 rw[fc h0]at K;subst y;exact pE [0,1,2] b s (fun Y=>Ox w P S T U R Z x tx (KK [st.toks,st.toks+1,st.toks+5,st.toks+6,st.toks+11,st.toks+14]) ⟨⟨[Z]++dI x++[10]⟩⟩ td j G (Z::x).length (st.toks+13) C v F z ([Z]++dI x) fr pos (zN st) st.toks st.gens Y (zN s3) s3.toks s3.gens:) (fun a=>aa rfl (aa (zi _ _ _ _) (aa (au (gX Bq) hlen) (aa (Br _) (aa (Cw V W).1 (oT O)))))) fun Y s4 u=>K s4 _ (u.p [] 3)
end
end
section
open PySem.F PySem.Builtin PySem.Builtin.Str
section
set_option tactic.hygienic false
theorem pR{bg:List aQ}{kt:KT}{s R:ZS}{L:ZA}{Y:ZN}{Z:List Obj}{new:ZA}{N t Q:Nat}{r:Result}(F:p8 kt s (L.map (·.1)) 0 (List.range L.length++Y) ((L.map (·.1)).zip Z++new) N t (s.gens++(List.replicate Q GenState.finished).toArray) bg R)(O:Z.length=L.length)(hx:Y.length=new.length)(U:∀x∈Y,L.length<=x)(W:Y.Nodup):cf s R L ⟨r,Z,new,N,t,Q,[]⟩:=by
 have M:(List.range L.length).length=((L.map (·.1)).zip Z).length:=by simp[O]
 have T:(List.range L.length++Y).zip ((L.map (·.1)).zip Z++new)=(List.range L.length).zip ((L.map (·.1)).zip Z)++Y.zip new:=cC M
 have free:∀q∈Y.zip new,s.heap.get? q.2.1=none:=fun q hq=>F.free q (by rw[T];exact cz _ hq) (by rw[aB];exact U _ (List.of_mem_zip hq).1)
 refine⟨F.ext,O,fun p hp=>F.holds p (dN _ hp),fun p hp=>F.holds p (cz _ hp),fun p hp=>?_,?_,F.size,F.toks,F.gens,(fun a hp=>(by cases hp)),(fun a hp=>(by cases hp)),(fun a hp=>(by cases hp)),(fun a hp=>(by cases hp))⟩
 .obtain⟨x,S⟩:=eR hx hp;exact free _ S
 .have inj:∀q∈Y.zip new,∀V∈Y.zip new,q.2.1=V.2.1->q.1=V.1:=fun q hq V X=>F.inj q (by rw[T];exact cz _ hq) V (by rw[T];exact cz _ X)
  clear T free F M U;induction new generalizing Y with
  |nil=>exact cW
  |cons p new K=>
   cases Y with
   |nil=>simp at hx
   |cons x Y=>
    rw[cy]at W;rw[dw,cy];refine⟨fun J=>?_,K (by simpa using hx) W.2 (fun q hq V X=>inj q (.tail _ hq) V (.tail _ X))⟩
    obtain⟨q,hq,eq⟩:=aZ.mp J;obtain⟨y,P⟩:=eR (by simpa using hx) hq
    have:y=x:=inj (y,q) (.tail _ P) (x,p) (.head _) eq
    exact W.1 (this▸(List.of_mem_zip P).1)
section
variable{V:Vw}{B:aS}{s:ZS}
theorem jw{hs:List (Nat×bD V.prog V.w V.kt)}{c:Code}{pos:Pos}{L:ZA}{nx:ZN}{Z:List Obj}{new:ZA}{N t ng:Nat}{r:Result}{ps:List Prop}(O:B.W=V.W)(hB:topHandled B.st=V.hb)(Q:cP V.kt s.heap)(M:aR s.heap L)(hn:(L.map (·.1)).Nodup)(P:∀p∈L,V.kt.get p.1=none)(H:∀fr:ZL,(gg (cU V hs fr c pos L (zN s) s.toks s.gens),dx (List.range L.length++nx) (cU V hs fr c pos L (zN s) s.toks s.gens))=
   (gh (cU V hs fr c pos L (zN s) s.toks s.gens),some (r,((L.map (·.1)).zip Z++new).map some,N,t,s.gens,List.replicate ng GenState.finished,ps)))(hp:aO ps)(T:Z.length=L.length)(hx:nx.length=new.length)(S:∀x∈nx,L.length<=x)(U:nx.Nodup):a8 V.prog V.w B s c pos (denote table c) [] (fun X Y=>X=r/\cf s Y L ⟨r,Z,new,N,t,ng,[]⟩):=k9 (R:=fun X Y=>X=r/\cf s Y L ⟨r,Z,new,N,t,ng,[]⟩) O hB Q M hn P (bg:=[]) (fun a T=>by cases T) fun fr=>jk (H fr) hp fun Y F=>⟨rfl,pR F T hx S U⟩
end
end
set_option tactic.hygienic false
structure Sp where
 fb:Nat->List Stmt
 fe:Nat->Env
 p:Nat->Pos
 xe:Nat->PySem.Expr
 it:Nat->ZV
noncomputable def uE(σ:Sp):Nat->ZC
 |0=>[(.func (σ.fb 0) (σ.fe 0),σ.p 0),(.func (σ.fb 1) (σ.fe 1),σ.p 1),(.builtin "claim.caller" {},σ.p 2)]
 |1=>[(.func (σ.fb 0) (σ.fe 0),σ.p 0),(.forLoop (σ.xe 3) (σ.it 3) (σ.fb 3) (σ.fb 4) (σ.fe 3),σ.p 3),(.func (σ.fb 5) (σ.fe 5),σ.p 5),(.func (σ.fb 1) (σ.fe 1),σ.p 1),(.builtin "claim.caller" {},σ.p 2)]
 |_=>[(.func (σ.fb 0) (σ.fe 0),σ.p 0),(.forLoop (σ.xe 3) (σ.it 3) (σ.fb 3) (σ.fb 4) (σ.fe 3),σ.p 3),(.func (σ.fb 5) (σ.fe 5),σ.p 5),(.forLoop (σ.xe 6) (σ.it 6) (σ.fb 6) (σ.fb 7) (σ.fe 6),σ.p 6),(.func (σ.fb 8) (σ.fe 8),σ.p 8),(.func (σ.fb 1) (σ.fe 1),σ.p 1),(.builtin "claim.caller" {},σ.p 2)]
noncomputable def iu(σ:Sp)(d:Nat)(Z X:Addr):ZC:=(.func (σ.fb 10) (σ.fe 10),σ.p 10)::(.func (σ.fb 11) (σ.fe 11),σ.p 11)::(.func (σ.fb 12) (σ.fe 12),σ.p 12)::(.builtin "list.extend.loop" ⟨[.ref Z,.ref X,.none],[]⟩,σ.p 13)::
 (.builtin "type.__call__" ⟨[.type "list",.ref X],[]⟩,σ.p 14)::(.func (σ.fb 15) (σ.fe 15),σ.p 15)::uE σ d
structure Lp where
 t:PySem.Expr
 b:List Stmt
 o:List Stmt
 e:Env
 p:Pos
noncomputable def xY(σ:Sp)(d:Nat)(Y X:Addr)(Z:Lp):ZC:=(.whileLoop Z.t Z.b Z.o Z.e,Z.p)::iu σ d Y X
noncomputable def a5(D:Addr):Obj:={cls:=.ref 768,dict:=some D}
noncomputable def TK:ZN:=[95,83,116,114,105,110,103,73,79,95,95,110,101,119,108,105,110,101]
noncomputable def Oz:ZN:=[95,83,116,114,105,110,103,73,79,95,95,98,117,102]
noncomputable def OA:ZN:=[95,83,116,114,105,110,103,73,79,95,95,112,111,115]
noncomputable def az(P:Params)(V W k3 Y X Z:Tok)(buf:Str)(p:Int):Obj:={cls:=.type "dict",data:=.dict #[dE P TK V (ar [10] Y),dE P Oz W (.str buf X),dE P OA k3 (.int p Z)] 3}
def OB(w:ZW)(c:Nat):ZH w:=[(6,.ld 2),(0,.up 2),(2,.ld 2),(0,.up 2),(6,.ld 2),(5,.ld 2),(9,.ld 3),(0,.up 3),(2,.ld 3),(0,.up 3),(9,.ld 3),(14,.ld 3),(16,.ld 3),(0,.up 3),(3,.ld 3),(7,.ld 3),(13,.ld 3),(6,.ld 2),(0,.up 2),(3,.ld 2),(1,.ld 0),(7,.ld 0),(7,.ld 0),(4,.ld 0),(0,.ld 1),(9,.ld 4),(0,.up 4),(6,.ld 4),(2,.ld 0),(8,.ld 0),(7,.ld 0),(0,.ld 0),(1,.ld 1),(7,.ld 2),(2,.ld 0),(8,.ld 0),(7,.ld 0),(0,.ld 0),(1,.ld 1),(6,.ld 2),(0,.up 2),(6,.ld 2),(2,.ld 0),(8,.ld 0),(7,.ld 0),(0,.ld 0),(1,.ld 1),(4,.ai iH),(5,.ld 2),(0,.up 2),(3,.ld 2),(1,.ld 2),(3,.ai (QR false)),(2,.ld 2),(7,.ld 2),(1,.ld 2),(2,.ai eu),(1,.ld 2),(3,.ai (oLt true)),(2,.ld 2),(1,.ld 2),(2,.ai eu),(4,.ld 2),(0,.up 2),(3,.ld 2),(1,.ld 2),(2,.ld 0),(8,.ld 0),(2,.ld 0),(1,.ld 0),(7,.ld 0),(3,.ld 1),(0,.up 1),(0,.ld 1),(3,.ld 2),(2,.ld 0),(8,.ld 0),(7,.ld 0),(0,.ld 0),(1,.ld 1),(3,.ld 2),(1,.ld 2),(3,.ai (zE 5 ⟨⟨[c]⟩⟩)),(0,.fin)]
def Ff(w:ZW)(c:Nat)(fr:ZL)(σ:Sp)(d:Nat)(U X:Addr)(V:Lp)(pos:Pos)(S D R T k3 Y W Z t1 N t:Nat)(buf:Str)(p:Nat)(G:ZG):ay:=cU ⟨pg,w,kp w,xY σ d U X V,none⟩ (OB w c) fr (.call (.ref 714) ⟨[.ref S,.int 1 t1],[]⟩) pos [(S,a5 D),(D,az w.params R T k3 Y W Z buf p)] N t G
noncomputable def Xz(c:Nat)(Y Z t:Nat)(buf:Str)(p:Nat):List Prop:=[(((none:Option (Int×Tok)).map (·.1)).getD 1==0)=false,sliceMade buf Y (some ((p:Int),Z)) (some ((p:Int)+1,t+20)) none=.str ⟨⟨[c]⟩⟩,Str.length ⟨⟨[c]⟩⟩<=16777216,
 decide ((p:Int)+1<(buf.length:Int))=true,decide ((p:Int)>=(buf.length:Int))=false,buf.length<=16777216]
theorem OC(w:ZW)(c:Nat)(fr:ZL)(σ:Sp)(d:Nat)(P:d<3)(Q X:Addr)(R:Lp)(pos:Pos)(S D T U k3 V Y W t1 N t:Nat)(buf:Str)(p:Nat)(G:ZG):(gg (Ff w c fr σ d Q X R pos S D T U k3 V Y W t1 N t buf p G),dx (List.range 2++[]) (Ff w c fr σ d Q X R pos S D T U k3 V Y W t1 N t buf p G))=
  (gh (Ff w c fr σ d Q X R pos S D T U k3 V Y W t1 N t buf p G),some (.ok (.ret (ar [c] (t+25))),(([S,D].zip [a5 D,az w.params T U k3 V Y (t+20) buf ((p:Int)+1)])++[]).map some,N+4,t+26,G,[],Xz c Y W t buf p)):=by
 match d,P with
 |0,_=>rcases a4 w with ⟨Z,rfl⟩|⟨Z,rfl⟩<;>kernel_rfl
 |1,_=>rcases a4 w with ⟨Z,rfl⟩|⟨Z,rfl⟩<;>kernel_rfl
 |2,_=>rcases a4 w with ⟨Z,rfl⟩|⟨Z,rfl⟩<;>kernel_rfl
def GD(w:ZW)(c:Nat):ZH w:=[(6,.ld 2),(0,.up 2),(2,.ld 2),(0,.up 2),(6,.ld 2),(5,.ld 2),(9,.ld 3),(0,.up 3),(2,.ld 3),(0,.up 3),(9,.ld 3),(14,.ld 3),(16,.ld 3),(0,.up 3),(3,.ld 3),(7,.ld 3),(13,.ld 3),(6,.ld 2),(0,.up 2),(3,.ld 2),(1,.ld 0),(7,.ld 0),(7,.ld 0),(4,.ld 0),(0,.ld 1),(9,.ld 4),(0,.up 4),(6,.ld 4),(2,.ld 0),(8,.ld 0),(7,.ld 0),(0,.ld 0),(1,.ld 1),(7,.ld 2),(2,.ld 0),(8,.ld 0),(7,.ld 0),(0,.ld 0),(1,.ld 1),(6,.ld 2),(0,.up 2),(6,.ld 2),(2,.ld 0),(8,.ld 0),(7,.ld 0),(0,.ld 0),(1,.ld 1),(4,.ai iH),(5,.ld 2),(0,.up 2),(3,.ld 2),(1,.ld 2),(3,.ai (QR false)),(2,.ld 2),(7,.ld 2),(1,.ld 2),(2,.ai eu),(1,.ld 2),(3,.ai (oLt false)),(2,.ld 2),(1,.ld 2),(2,.ld 0),(8,.ld 0),(2,.ld 0),(1,.ld 0),(7,.ld 0),(3,.ld 1),(0,.up 1),(0,.ld 1),(3,.ld 2),(2,.ld 0),(8,.ld 0),(7,.ld 0),(0,.ld 0),(1,.ld 1),(3,.ld 2),(1,.ld 2),(3,.ai (zE 5 ⟨⟨[c]⟩⟩)),(0,.fin)]
def GF(w:ZW):ZH w:=[(6,.ld 2),(0,.up 2),(2,.ld 2),(0,.up 2),(6,.ld 2),(5,.ld 2),(9,.ld 3),(0,.up 3),(2,.ld 3),(0,.up 3),(9,.ld 3),(14,.ld 3),(16,.ld 3),(0,.up 3),(3,.ld 3),(7,.ld 3),(13,.ld 3),(6,.ld 2),(0,.up 2),(3,.ld 2),(1,.ld 0),(7,.ld 0),(7,.ld 0),(4,.ld 0),(0,.ld 1),(9,.ld 4),(0,.up 4),(6,.ld 4),(2,.ld 0),(8,.ld 0),(7,.ld 0),(0,.ld 0),(1,.ld 1),(7,.ld 2),(2,.ld 0),(8,.ld 0),(7,.ld 0),(0,.ld 0),(1,.ld 1),(6,.ld 2),(0,.up 2),(6,.ld 2),(2,.ld 0),(8,.ld 0),(7,.ld 0),(0,.ld 0),(1,.ld 1),(4,.ai iH),(5,.ld 2),(0,.up 2),(3,.ld 2),(1,.ld 2),(3,.ai (QR true)),(2,.fin)]
def w0(w:ZW)(c:Nat)(fr:ZL)(σ:Sp)(d:Nat)(U X:Addr)(V:Lp)(pos:Pos)(S D R T k3 Y W Z t1 N t:Nat)(buf:Str)(p:Nat)(G:ZG):ay:=cU ⟨pg,w,kp w,xY σ d U X V,none⟩ (GD w c) fr (.call (.ref 714) ⟨[.ref S,.int 1 t1],[]⟩) pos [(S,a5 D),(D,az w.params R T k3 Y W Z buf p)] N t G
def w1(w:ZW)(fr:ZL)(σ:Sp)(d:Nat)(U X:Addr)(V:Lp)(pos:Pos)(S D R T k3 Y W Z t1 N t:Nat)(buf:Str)(p:Nat)(G:ZG):ay:=cU ⟨pg,w,kp w,xY σ d U X V,none⟩ (GF w) fr (.call (.ref 714) ⟨[.ref S,.int 1 t1],[]⟩) pos [(S,a5 D),(D,az w.params R T k3 Y W Z buf p)] N t G
noncomputable def TM(c:Nat)(Y Z t:Nat)(buf:Str)(p:Nat):List Prop:=[(((none:Option (Int×Tok)).map (·.1)).getD 1==0)=false,sliceMade buf Y (some ((p:Int),Z)) (some ((buf.length:Int),t+16)) none=.str ⟨⟨[c]⟩⟩,Str.length ⟨⟨[c]⟩⟩<=16777216,
 decide ((p:Int)+1<(buf.length:Int))=false,decide ((p:Int)>=(buf.length:Int))=false,buf.length<=16777216]
noncomputable def TN(buf:Str)(p:Nat):List Prop:=[decide ((p:Int)>=(buf.length:Int))=true,buf.length<=16777216]
theorem GG(w:ZW)(c:Nat)(fr:ZL)(σ:Sp)(d:Nat)(P:d<3)(Q X:Addr)(R:Lp)(pos:Pos)(S D T U k3 V Y W t1 N t:Nat)(buf:Str)(p:Nat)(G:ZG):(gg (w0 w c fr σ d Q X R pos S D T U k3 V Y W t1 N t buf p G),dx (List.range 2++[]) (w0 w c fr σ d Q X R pos S D T U k3 V Y W t1 N t buf p G))=
  (gh (w0 w c fr σ d Q X R pos S D T U k3 V Y W t1 N t buf p G),some (.ok (.ret (ar [c] (t+23))),(([S,D].zip [a5 D,az w.params T U k3 V Y (t+16) buf (buf.length:Int)])++[]).map some,N+4,t+24,G,[],TM c Y W t buf p)):=by
 match d,P with
 |0,_=>rcases a4 w with ⟨Z,rfl⟩|⟨Z,rfl⟩<;>kernel_rfl
 |1,_=>rcases a4 w with ⟨Z,rfl⟩|⟨Z,rfl⟩<;>kernel_rfl
 |2,_=>rcases a4 w with ⟨Z,rfl⟩|⟨Z,rfl⟩<;>kernel_rfl
theorem GH(w:ZW)(fr:ZL)(σ:Sp)(d:Nat)(P:d<3)(Q X:Addr)(R:Lp)(pos:Pos)(S D T U k3 W V Y t1 N t:Nat)(buf:Str)(p:Nat)(G:ZG):(gg (w1 w fr σ d Q X R pos S D T U k3 W V Y t1 N t buf p G),dx (List.range 2++[]) (w1 w fr σ d Q X R pos S D T U k3 W V Y t1 N t buf p G))=
  (gh (w1 w fr σ d Q X R pos S D T U k3 W V Y t1 N t buf p G),some (.ok (.ret (ar [] (t+18))),(([S,D].zip [a5 D,az w.params T U k3 W V Y buf p])++[]).map some,N+3,t+19,G,[],TN buf p)):=by
 match d,P with
 |0,_=>rcases a4 w with ⟨Z,rfl⟩|⟨Z,rfl⟩<;>kernel_rfl
 |1,_=>rcases a4 w with ⟨Z,rfl⟩|⟨Z,rfl⟩<;>kernel_rfl
 |2,_=>rcases a4 w with ⟨Z,rfl⟩|⟨Z,rfl⟩<;>kernel_rfl
def cQ(c:Nat)(buf:Str)(p:Nat):Prop:=buf.cps[p]?=some c/\2<=buf.length/\buf.length<=16777216
theorem uF{buf:Str}{c p:Nat}{X Z u:Tok}(h:cQ c buf p):sliceMade buf X (some ((p:Int),Z)) (some ((p:Int)+1,u)) none=.str ⟨⟨[c]⟩⟩:=by
 obtain⟨Y,h2,W⟩:=h;have hp:p<buf.length:=by
  obtain⟨q,_⟩:=Array.getElem?_eq_some_iff.mp Y;exact q
 have e:slicePicked buf (some ((p:Int),Z)) (some ((p:Int)+1,u)) none=[p]:=by
  unfold slicePicked;show Builtin.Str.strSliceIndices (some (p:Int)) (some ((p+1:Nat):Int)) 1 buf.length=_
  rw[StrLaws.strSliceIndices_plain (iA p) hp];simp[List.range_succ]
 unfold sliceMade;rw[e];have:((Option.map (fun x=>x.fst) (none:Option (Int×Tok))).getD 1==1&&[p].length==buf.length)=false:=by
  have:([p].length==buf.length)=false:=by simp;exact mJ h2
  rw[this];rfl
 rw[this];simp[Y]
noncomputable def JO(o:Obj)(i:Nat):DictEntry:=match o.data with
 |.dict Z _=>Z.getD i ⟨0,.none,.none⟩
 |_=>⟨0,.none,.none⟩
noncomputable def tB(o:Obj)(i:Nat):Tok:=ao (JO o i).key
noncomputable def vT(o:Obj)(i:Nat):Tok:=ao (JO o i).val
noncomputable def vS(o:Obj)(i:Nat):Str:=ag (JO o i).val
noncomputable def vI(o:Obj)(i:Nat):Nat:=(ak (JO o i).val).toNat
noncomputable def w2(P:Params)(iS iD:Nat)(c:Code)(T:LT):ZA:=[(af (v0 c),a5 (ft T iD)),(ft T iD,az P (tB (ab T iD) 0) (tB (ab T iD) 1) (tB (ab T iD) 2) (vT (ab T iD) 0) (vT (ab T iD) 1) (vT (ab T iD) 2) (vS (ab T iD) 1) (vI (ab T iD) 2))]
noncomputable def nN(c:Code):Code:=.call (.ref 714) ⟨[.ref (af (v0 c)),.int 1 (ao (v1 c))],[]⟩
theorem Dw{a b c d e f:Prop}(W:a)(X:b)(Y:c)(Z:d)(he:e)(hf:f):aO [a,b,c,d,e,f]:=by intro p hp;simp only[List.mem_cons,List.mem_nil_iff,or_false]at hp;rcases hp with rfl|rfl|rfl|rfl|rfl|rfl<;>assumption
theorem Dx{a b:Prop}(Y:a)(Z:b):aO [a,b]:=by intro p hp;simp only[List.mem_cons,List.mem_nil_iff,or_false]at hp;rcases hp with rfl|rfl<;>assumption
theorem dZ{a:Prop}(Z:a):aO [a]:=by intro p hp;simp only[List.mem_cons,List.mem_nil_iff,or_false]at hp;subst hp;exact Z
theorem cf.cast{s Y:ZS}{Z:ZA}{b X:vb}(h:cf s Y Z b)(e:b=X):cf s Y Z X:=e▸h
def fp(w:ZW)(σ:Sp)(d:Nat)(S:d<3)(Y X:Addr)(Z:Lp)(iS iD:Nat)(ch:Nat):aX pg w (kp w)where
 A:=fun a c a a T=>⟨nN c,[iS,iD],w2 w.params iS iD c T,.exact (xY σ d Y X Z),[cQ ch (vS (ab T iD) 1) (vI (ab T iD) 2)],[],[]⟩
 B:=fun a c a a T f=>⟨.ok (.ret (ar [ch] (f.getD 2 0))),[a5 (ft T iD),az w.params (tB (ab T iD) 0) (tB (ab T iD) 1) (tB (ab T iD) 2) (vT (ab T iD) 0) (vT (ab T iD) 1) (f.getD 3 0) (vS (ab T iD) 1) ((vI (ab T iD) 2:Int)+1)],[],
  f.getD 0 0,f.getD 1 0,0,[]⟩
 ok:=fun U c T s B pos e hp W O hn R hB a Q=>by
  have h:cQ ch (vS (ab T iD) 1) (vI (ab T iD) 2):=hp _ (.head _)
  have e:c=nN c:=e
  rw[e];have L:vI (ab T iD) 2<(vS (ab T iD) 1).length:=(Array.getElem?_eq_some_iff.mp h.1).1
  by_cases K:vI (ab T iD) 2+1<(vS (ab T iD) 1).length
  .refine(jw (V:=⟨pg,w,kp w,xY σ d Y X Z,none⟩) (nx:=[]) (new:=[]) (ng:=0) Q hB W O hn R (fun fr=>OC w ch fr σ d S Y X Z pos _ _ _ _ _ _ _ _ _ _ _ _ _ _)
    (Dw rfl (uF h) (by show 1<=16777216;exact dc rfl) (decide_eq_true (Int.lt_of_toNat_lt K)) (decide_eq_false (by lia)) h.2.2) rfl rfl (fun x hx=>nomatch hx) cW).mono ?_
   rintro r M ⟨rfl,P⟩
   exact⟨[s.heap.objs.size+4,s.toks+26,s.toks+25,s.toks+20],rfl,P⟩
  .have N:(((vS (ab T iD) 1).length:Nat):Int)=(vI (ab T iD) 2:Int)+1:=by lia
   refine(jw (V:=⟨pg,w,kp w,xY σ d Y X Z,none⟩) (nx:=[]) (new:=[]) (ng:=0) Q hB W O hn R (fun fr=>GG w ch fr σ d S Y X Z pos _ _ _ _ _ _ _ _ _ _ _ _ _ _)
    (Dw rfl (by rw[N];exact uF h) (by show 1<=16777216;exact dc rfl) (decide_eq_false (by lia)) (decide_eq_false (by lia)) h.2.2) rfl rfl (fun x hx=>nomatch hx) cW).mono ?_
   rintro r M ⟨rfl,P⟩
   refine⟨[s.heap.objs.size+4,s.toks+24,s.toks+23,s.toks+16],rfl,P.cast ?_⟩;rw[N];rfl
def xZ(w:ZW)(σ:Sp)(d:Nat)(S:d<3)(Y X:Addr)(Z:Lp)(iS iD:Nat):aX pg w (kp w)where
 A:=fun a c a a T=>⟨nN c,[iS,iD],w2 w.params iS iD c T,.exact (xY σ d Y X Z),[(vS (ab T iD) 1).length<=vI (ab T iD) 2/\(vS (ab T iD) 1).length<=16777216],[],[]⟩
 B:=fun a c N t T f=>⟨.ok (.ret (ar [] (t+18))),(w2 w.params iS iD c T).map (·.2),[],N+3,t+19,0,[]⟩
 ok:=fun W c T s B pos e hp U O hn R hB a Q=>by
  have h:(vS (ab T iD) 1).length<=vI (ab T iD) 2/\(vS (ab T iD) 1).length<=16777216:=hp _ (.head _)
  have e:c=nN c:=e
  rw[e];refine(jw (V:=⟨pg,w,kp w,xY σ d Y X Z,none⟩) (nx:=[]) (new:=[]) (ng:=0) Q hB U O hn R (fun fr=>GH w fr σ d S Y X Z pos _ _ _ _ _ _ _ _ _ _ _ _ _ _)
   (Dx (decide_eq_true (by lia)) h.2) rfl rfl (fun x hx=>nomatch hx) cW).mono ?_
  rintro r M ⟨rfl,P⟩
  exact⟨[],rfl,P⟩
section
set_option tactic.hygienic false
def Dy(w:ZW):Stmt:=(aH (mW w.params)).getD 2 default
def gI(w:ZW)(L:Addr):Lp:=⟨Q5 (Dy w),Cs (Dy w),Q6 (Dy w),eB 871 (mW w.params) L [],⟨788,27,788,48⟩⟩
def aU(w:ZW)(L:Addr):Code:=.whileLoop (Q5 (Dy w)) (Cs (Dy w)) (Q6 (Dy w)) (eB 871 (mW w.params) L [])
noncomputable def bu(Z:Addr):Obj:=⟨.ref 903,some Z,.plain,#[]⟩
noncomputable def x3:ZN:=[97,98,99,100,102,101,103,104,105,106,107,108,109,110,111,112,113,114,115,116,117,118,119,120,121,122,65,66,67,68,69,70,71,72,73,74,75,76,77,78,79,80,81,82,83,84,85,86,87,88,89,90,48,49,50,51,52,53,54,55,56,57,95,223,224,225,226,227,228,229,230,231,232,233,234,235,236,237,238,239,240,241,242,243,244,245,246,248,249,250,251,252,253,254,255,192,193,194,195,196,197,198,199,200,201,202,203,204,205,206,207,208,209,210,211,212,213,214,216,217,218,219,220,221,222]
noncomputable def aE(P:Params)(k:ZT)(S W X:Addr)(Y Z:ZV):Obj:=⟨(.type "dict"),none,(.dict #[dE P [105,110,115,116,114,101,97,109] (k 6) (.ref S),dE P [105,110,102,105,108,101] (k 7) .none,dE P [112,111,115,105,120] (k 8) (.bool true),dE P [101,111,102] (k 9) .none,dE P [99,111,109,109,101,110,116,101,114,115] (k 10) (ar [] (k 11)),dE P [119,111,114,100,99,104,97,114,115] (k 12) (ar x3 (k 13)),dE P [119,104,105,116,101,115,112,97,99,101] (k 14) (ar [32,9,13,10] (k 15)),dE P [119,104,105,116,101,115,112,97,99,101,95,115,112,108,105,116] (k 16) (.bool true),dE P [113,117,111,116,101,115] (k 17) (ar [39,34] (k 18)),dE P [101,115,99,97,112,101] (k 19) (ar [92] (k 20)),dE P [101,115,99,97,112,101,100,113,117,111,116,101,115] (k 21) (ar [34] (k 22)),dE P [115,116,97,116,101] (k 23) Y,dE P [112,117,115,104,98,97,99,107] (k 25) (.ref W),dE P [108,105,110,101,110,111] (k 26) (.int 1 (k 27)),dE P [100,101,98,117,103] (k 28) (.int 0 (k 29)),dE P [116,111,107,101,110] (k 30) Z,dE P [102,105,108,101,115,116,97,99,107] (k 31) (.ref X),dE P [115,111,117,114,99,101] (k 32) .none,dE P [95,112,117,110,99,116,117,97,116,105,111,110,95,99,104,97,114,115] (k 33) (ar [] (k 34))] 19),#[]⟩
noncomputable def w3(P:Params)(X:Addr)(Y a1 a2 Z:Tok)(q:Bool):Obj:=⟨(.type "frame"),none,(.dict #[dE P [115,101,108,102] Y (.ref X),dE P [113,117,111,116,101,100] a1 (.bool q),dE P [101,115,99,97,112,101,100,115,116,97,116,101] a2 (ar [32] Z)] 3),#[]⟩
noncomputable def cR(P:Params)(X:Addr)(V a1 a2 W Y:Tok)(q:Bool)(Z:ZV):Obj:=⟨(.type "frame"),none,(.dict #[dE P [115,101,108,102] V (.ref X),dE P [113,117,111,116,101,100] a1 (.bool q),dE P [101,115,99,97,112,101,100,115,116,97,116,101] a2 (ar [32] W),dE P [110,101,120,116,99,104,97,114] Y Z] 4),#[]⟩
def je(x y:ZN)(b:Bool):Prop:=(x==y)=b
def dv(x:ZN)(c:Nat)(b:Bool):Prop:=(!(Builtin.Str.occurrences ⟨⟨x⟩⟩ ⟨⟨[c]⟩⟩ 0 (Str.length ⟨⟨x⟩⟩) 1).isEmpty)=b
def mE(x:ZN)(b:Bool):Prop:=(decide ((⟨⟨[97]⟩⟩:Str)=⟨⟨x⟩⟩)||decide ((⟨⟨[99]⟩⟩:Str)=⟨⟨x⟩⟩))=b
universe u
def mF{β:Type u}(f:(i:Nat)->i<3->β):β×β×β:=(f 0 (by decide),f 1 (by decide),f 2 (by decide))
def mG{β:Type u}(f:(i:Nat)->i<3->β):β×β×β:=(f 0 (by decide),f 1 (by decide),f 2 (by decide))
theorem nO{β:Type u}{f g:(i:Nat)->i<3->β}{i:Nat}{h:i<3}(e:mF f=mG g):f i h=g i h:=by
 match i,h with
 |0,_=>exact congrArg (·.1) e
 |1,_=>exact congrArg (·.2.1) e
 |2,_=>exact congrArg (·.2.2) e
def nP(w:ZW)(Z:List (ZH w)):ZH w:=jn (dz 0x142e43432cb279b24b3e910a060c::Z)
abbrev pS(L X Z S Y:Addr)(o:ay)(c:Code)(pos:Pos)(A B C:Obj)(N t:Nat)(G:ZG)(ps:List Prop):Prop:=(gg o,px (List.range 5++[]) o)=(gh o,some (c,pos,([L,X,Z,S,Y].zip [A,bu Z,B,a5 Y,C]++[]).map some,N,t,G,[],ps))
abbrev RG(L X Z S Y:Addr)(o:ay)(r:Result)(A B C:Obj)(N t:Nat)(G:ZG)(ps:List Prop):Prop:=(gg o,dx (List.range 5++[]) o)=(gh o,some (r,([L,X,Z,S,Y].zip [A,bu Z,B,a5 Y,C]++[]).map some,N,t,G,[],ps))
noncomputable def h0(fr:ZL)(i:Nat):Nat:=(fr.headD []).getD i 0
section
variable(w:ZW)(fr:ZL)(σ:Sp)(d:Nat)(R:d<3)(T L X Z S Y I J:Addr)(pos:Pos)(K a1 a2 M:Tok)
section
variable(F:Tok)(W:ZV)(q:Bool)(k:ZT)(E:Tok)(H:ZV)(x0:Nat)(x:ZN)(tx O P Q V U D:Tok)(buf:Str)(p c N t:Nat)(G:ZG)
def XA:ay:=cU ⟨pg,w,kp w,iu σ d T X,none⟩ (nP w [[(4,.ai (fp w σ d R T X (gI w L) 3 4 c))],dz 0xc9,[(4,.ai (nu false))],dz 0xc32f24b20db224b209,[(4,.ai (i5 false))],dz 0xc309,[(4,.ai (i5 false))],dz 0xda09,[(4,.ai (i5 false))],dz 0xc309,[(4,.ai (i5 true))],dz 0xe913e9d7,[(1,.tail)]]) fr (aU w L) pos [(L,w3 w.params X K a1 a2 M q),(X,bu Z),(Z,aE w.params k S I J (ar [32] E) H),(S,a5 Y),(Y,az w.params O P Q V U D buf p)] N t G
theorem XB:pS L X Z S Y (XA w fr σ d R T L X Z S Y I J pos K a1 a2 M q k E H O P Q V U D buf p c N t G) (aU w L) ⟨815,20,815,30⟩ (cR w.params X K a1 a2 M ((h0 fr 1)+0) q (ar [c] (h0 fr 2))) (aE w.params k S I J (ar [97] ((h0 fr 1)+16)) (ar [c] (h0 fr 2))) (az w.params O P Q V U (h0 fr 3) buf ((p:Int)+1)) ((h0 fr 0)+0) ((h0 fr 1)+19) G [dv x3 c true,dv [92] c false,dv [] c false,dv [32,9,13,10] c false,je [c] [10] false,cQ c buf p]:=by apply nO (h:=R);apply aC w;kernel_rfl
def XC:ay:=cU ⟨pg,w,kp w,iu σ d T X,none⟩ (nP w [[(4,.ai (fp w σ d R T X (gI w L) 3 4 39))],dz 0xe9050df024b26b25920a06051dc31dda1dc31dc32f24b20db224b21dc9,[(1,.tail)]]) fr (aU w L) pos [(L,w3 w.params X K a1 a2 M q),(X,bu Z),(Z,aE w.params k S I J (ar [32] E) H),(S,a5 Y),(Y,az w.params O P Q V U D buf p)] N t G
theorem XE:pS L X Z S Y (XC w fr σ d R T L X Z S Y I J pos K a1 a2 M q k E H O P Q V U D buf p N t G) (aU w L) ⟨822,20,822,30⟩ (cR w.params X K a1 a2 M ((h0 fr 1)+0) q (ar [39] (h0 fr 2))) (aE w.params k S I J (ar [39] (h0 fr 2)) H) (az w.params O P Q V U (h0 fr 3) buf ((p:Int)+1)) ((h0 fr 0)+1) ((h0 fr 1)+21) G [cQ 39 buf p]:=by apply nO (h:=R);apply aC w;kernel_rfl
def TO:ay:=cU ⟨pg,w,kp w,iu σ d T X,none⟩ (nP w [[(4,.ai (fp w σ d R T X (gI w L) 3 4 c))],dz 0xc9,[(4,.ai (nu false))],dz 0xbe09,[(0,.ai (jL 6 true))],dz 0xc32f09,[(4,.ai (i5 false))],dz 0xc309,[(4,.ai (i5 false))],dz 0xda24b209,[(4,.ai (i5 false))],dz 0xda09,[(4,.ai (i5 false))],dz 0xc309,[(4,.ai (i5 true))],dz 0xcb209,[(3,.ai hZ)],dz 0xe9,[(1,.tail)]]) fr (aU w L) pos [(L,cR w.params X K a1 a2 M F q W),(X,bu Z),(Z,aE w.params k S I J (ar [97] E) (ar x tx)),(S,a5 Y),(Y,az w.params O P Q V U D buf p)] N t G
theorem TP:pS L X Z S Y (TO w fr σ d R T L X Z S Y I J pos K a1 a2 M F W q k E x tx O P Q V U D buf p c N t G) (aU w L) ⟨894,20,894,30⟩ (cR w.params X K a1 a2 M F q (ar [c] (h0 fr 2))) (aE w.params k S I J (ar [97] E) (.str ((⟨⟨x⟩⟩:Str)++(⟨⟨[c]⟩⟩:Str)) ((h0 fr 1)+26))) (az w.params O P Q V U (h0 fr 3) buf ((p:Int)+1)) ((h0 fr 0)+1) ((h0 fr 1)+29) G [((⟨⟨x⟩⟩:Str).length==0)=false,((⟨⟨[c]⟩⟩:Str).length==0)=false,((⟨⟨x⟩⟩:Str)++(⟨⟨[c]⟩⟩:Str)).length<=16777216,dv x3 c true,dv [92] c false,dv [39,34] c false,dv [] c false,dv [32,9,13,10] c false,mE [97] true,je [c] [10] false,cQ c buf p]:=by apply nO (h:=R);apply aC w;kernel_rfl
def XF:ay:=cU ⟨pg,w,kp w,iu σ d T X,none⟩ (nP w [[(4,.ai (fp w σ d R T X (gI w L) 3 4 61))],dz 0xc9,[(4,.ai (nu false))],dz 0xbe09,[(0,.ai (jL 6 true))],dz 0xc32f09,[(4,.ai (i5 false))],dz 0xc309,[(4,.ai (i5 false))],dz 0xda24b209,[(4,.ai (i5 false))],dz 0xda09,[(4,.ai (i5 false))],dz 0xc309,[(4,.ai (i5 false))],dz 0xb2bd,[(4,.ai (i5 false))],dz 0xb29454930a060513c3,[(6,.ai (i5 false))],dz 0xcb209,[(3,.ai hZ)],dz 0xe9,[(1,.tail)]]) fr (aU w L) pos [(L,cR w.params X K a1 a2 M F q W),(X,bu Z),(Z,aE w.params k S I J (ar [97] E) (ar x tx)),(S,a5 Y),(Y,az w.params O P Q V U D buf p)] N t G
theorem XG:pS L X Z S Y (XF w fr σ d R T L X Z S Y I J pos K a1 a2 M F W q k E x tx O P Q V U D buf p N t G) (aU w L) ⟨894,20,894,30⟩ (cR w.params X K a1 a2 M F q (ar [61] (h0 fr 2))) (aE w.params k S I J (ar [97] E) (.str ((⟨⟨x⟩⟩:Str)++(⟨⟨[61]⟩⟩:Str)) ((h0 fr 1)+31))) (az w.params O P Q V U (h0 fr 3) buf ((p:Int)+1)) ((h0 fr 0)+2) ((h0 fr 1)+34) G [((⟨⟨x⟩⟩:Str).length==0)=false,((⟨⟨[61]⟩⟩:Str).length==0)=false,((⟨⟨x⟩⟩:Str)++(⟨⟨[61]⟩⟩:Str)).length<=16777216,dv [] 61 false,dv [39,34] 61 false,dv x3 61 false,dv [92] 61 false,dv [39,34] 61 false,dv [] 61 false,dv [32,9,13,10] 61 false,mE [97] true,je [61] [10] false,cQ 61 buf p]:=by apply nO (h:=R);apply aC w;kernel_rfl
def XH:ay:=cU ⟨pg,w,kp w,iu σ d T X,none⟩ (nP w [[(4,.ai (fp w σ d R T X (gI w L) 3 4 32))],dz 0xbe1dc9,[(0,.ai (jL 6 true))],dz 0xb20ce92ff02f09,[(3,.ai iH)],[(1,.fin)]]) fr (aU w L) pos [(L,cR w.params X K a1 a2 M F q W),(X,bu Z),(Z,aE w.params k S I J (ar [97] E) (ar (x0::x) tx)),(S,a5 Y),(Y,az w.params O P Q V U D buf p)] N t G
theorem XI:RG L X Z S Y (XH w fr σ d R T L X Z S Y I J pos K a1 a2 M F W q k E x0 x tx O P Q V U D buf p N t G) (.ok .next) (cR w.params X K a1 a2 M F q (ar [32] (h0 fr 2))) (aE w.params k S I J (ar [32] ((h0 fr 1)+19)) (ar (x0::x) tx)) (az w.params O P Q V U (h0 fr 3) buf ((p:Int)+1)) ((h0 fr 0)+1) ((h0 fr 1)+25) G [(⟨⟨x0::x⟩⟩:Str).length<=16777216,mE [97] true,cQ 32 buf p]:=by apply nO (h:=R);apply aC w;kernel_rfl
def XJ:ay:=cU ⟨pg,w,kp w,iu σ d T X,none⟩ (nP w [[(4,.ai (fp w σ d R T X (gI w L) 3 4 39))],dz 0xbe1dc9,[(0,.ai (jL 6 true))],dz 0xe9051dda24f01dc32f09,[(1,.tail)]]) fr (aU w L) pos [(L,cR w.params X K a1 a2 M F q W),(X,bu Z),(Z,aE w.params k S I J (ar [97] E) H),(S,a5 Y),(Y,az w.params O P Q V U D buf p)] N t G
theorem XK:pS L X Z S Y (XJ w fr σ d R T L X Z S Y I J pos K a1 a2 M F W q k E H O P Q V U D buf p N t G) (aU w L) ⟨889,20,889,30⟩ (cR w.params X K a1 a2 M F q (ar [39] (h0 fr 2))) (aE w.params k S I J (ar [39] (h0 fr 2)) H) (az w.params O P Q V U (h0 fr 3) buf ((p:Int)+1)) ((h0 fr 0)+1) ((h0 fr 1)+24) G [mE [97] true,cQ 39 buf p]:=by apply nO (h:=R);apply aC w;kernel_rfl
def XM:ay:=cU ⟨pg,w,kp w,iu σ d T X,none⟩ (nP w [[(4,.ai (fp w σ d R T X (gI w L) 3 4 34))],dz 0xbe1dc9,[(0,.ai (jL 6 true))],dz 0xe9051dda24f01dc32f09,[(1,.tail)]]) fr (aU w L) pos [(L,cR w.params X K a1 a2 M F q W),(X,bu Z),(Z,aE w.params k S I J (ar [97] E) H),(S,a5 Y),(Y,az w.params O P Q V U D buf p)] N t G
theorem XN:pS L X Z S Y (XM w fr σ d R T L X Z S Y I J pos K a1 a2 M F W q k E H O P Q V U D buf p N t G) (aU w L) ⟨889,20,889,30⟩ (cR w.params X K a1 a2 M F q (ar [34] (h0 fr 2))) (aE w.params k S I J (ar [34] (h0 fr 2)) H) (az w.params O P Q V U (h0 fr 3) buf ((p:Int)+1)) ((h0 fr 0)+1) ((h0 fr 1)+24) G [mE [97] true,cQ 34 buf p]:=by apply nO (h:=R);apply aC w;kernel_rfl
def XO:ay:=cU ⟨pg,w,kp w,iu σ d T X,none⟩ (nP w [[(4,.ai (xZ w σ d R T X (gI w L) 3 4))],dz 0xbe1dc9,[(0,.ai (jL 6 true))],dz 0xe92f09,[(2,.fin)]]) fr (aU w L) pos [(L,cR w.params X K a1 a2 M F q W),(X,bu Z),(Z,aE w.params k S I J (ar [97] E) H),(S,a5 Y),(Y,az w.params O P Q V U D buf p)] N t G
theorem XQ:RG L X Z S Y (XO w fr σ d R T L X Z S Y I J pos K a1 a2 M F W q k E H O P Q V U D buf p N t G) (.ok .next) (cR w.params X K a1 a2 M F q (ar [] (t+25))) (aE w.params k S I J .none H) (az w.params O P Q V U D buf (p:Int)) (N+5) (t+44) G [mE [97] true,buf.length<=p/\buf.length<=16777216]:=by apply nO (h:=R);apply aC w;kernel_rfl
def XR:ay:=cU ⟨pg,w,kp w,iu σ d T X,none⟩ (nP w [[(4,.ai (fp w σ d R T X (gI w L) 3 4 39))],dz 0xe929cd,[(1,.tail)]]) fr (aU w L) pos [(L,cR w.params X K a1 a2 M F q W),(X,bu Z),(Z,aE w.params k S I J (ar [39] E) H),(S,a5 Y),(Y,az w.params O P Q V U D buf p)] N t G
theorem XS:pS L X Z S Y (XR w fr σ d R T L X Z S Y I J pos K a1 a2 M F W q k E H O P Q V U D buf p N t G) (aU w L) ⟨844,24,844,34⟩ (cR w.params X K a1 a2 M F true (ar [39] (h0 fr 2))) (aE w.params k S I J (ar [97] ((h0 fr 1)+14)) H) (az w.params O P Q V U (h0 fr 3) buf ((p:Int)+1)) ((h0 fr 0)+0) ((h0 fr 1)+17) G [cQ 39 buf p]:=by apply nO (h:=R);apply aC w;kernel_rfl
def TQ:ay:=cU ⟨pg,w,kp w,iu σ d T X,none⟩ (nP w [[(4,.ai (fp w σ d R T X (gI w L) 3 4 c))],dz 0xc9,[(4,.ai (nu false))],dz 0xc32fbc2fba09,[(5,.ai (nu false))],dz 0xda09,[(4,.ai (i5 false))],dz 0xb86f0cb209,[(1,.tail)]]) fr (aU w L) pos [(L,cR w.params X K a1 a2 M F q W),(X,bu Z),(Z,aE w.params k S I J (ar [39] E) (ar [] tx)),(S,a5 Y),(Y,az w.params O P Q V U D buf p)] N t G
theorem TR:pS L X Z S Y (TQ w fr σ d R T L X Z S Y I J pos K a1 a2 M F W q k E tx O P Q V U D buf p c N t G) (aU w L) ⟨849,20,849,30⟩ (cR w.params X K a1 a2 M F true (ar [c] (h0 fr 2))) (aE w.params k S I J (ar [39] E) (ar [c] (h0 fr 2))) (az w.params O P Q V U (h0 fr 3) buf ((p:Int)+1)) ((h0 fr 0)+0) ((h0 fr 1)+18) G [dv [92] c false,je [c] [39] false,je [c] [10] false,cQ c buf p]:=by apply nO (h:=R);apply aC w;kernel_rfl
def TS:ay:=cU ⟨pg,w,kp w,iu σ d T X,none⟩ (nP w [[(4,.ai (fp w σ d R T X (gI w L) 3 4 c))],dz 0xc9,[(4,.ai (nu false))],dz 0xc32fbc2fba09,[(5,.ai (nu false))],dz 0xda09,[(4,.ai (i5 false))],dz 0xcb209,[(3,.ai hZ)],dz 0xe9,[(1,.tail)]]) fr (aU w L) pos [(L,cR w.params X K a1 a2 M F q W),(X,bu Z),(Z,aE w.params k S I J (ar [39] E) (ar x tx)),(S,a5 Y),(Y,az w.params O P Q V U D buf p)] N t G
theorem TU:pS L X Z S Y (TS w fr σ d R T L X Z S Y I J pos K a1 a2 M F W q k E x tx O P Q V U D buf p c N t G) (aU w L) ⟨849,20,849,30⟩ (cR w.params X K a1 a2 M F true (ar [c] (h0 fr 2))) (aE w.params k S I J (ar [39] E) (.str ((⟨⟨x⟩⟩:Str)++(⟨⟨[c]⟩⟩:Str)) ((h0 fr 1)+16))) (az w.params O P Q V U (h0 fr 3) buf ((p:Int)+1)) ((h0 fr 0)+0) ((h0 fr 1)+19) G [((⟨⟨x⟩⟩:Str).length==0)=false,((⟨⟨[c]⟩⟩:Str).length==0)=false,((⟨⟨x⟩⟩:Str)++(⟨⟨[c]⟩⟩:Str)).length<=16777216,dv [92] c false,je [c] [39] false,je [c] [10] false,cQ c buf p]:=by apply nO (h:=R);apply aC w;kernel_rfl
def XT:ay:=cU ⟨pg,w,kp w,iu σ d T X,none⟩ (nP w [[(4,.ai (fp w σ d R T X (gI w L) 3 4 34))],dz 0xe929cd,[(1,.tail)]]) fr (aU w L) pos [(L,cR w.params X K a1 a2 M F q W),(X,bu Z),(Z,aE w.params k S I J (ar [34] E) H),(S,a5 Y),(Y,az w.params O P Q V U D buf p)] N t G
theorem XU:pS L X Z S Y (XT w fr σ d R T L X Z S Y I J pos K a1 a2 M F W q k E H O P Q V U D buf p N t G) (aU w L) ⟨844,24,844,34⟩ (cR w.params X K a1 a2 M F true (ar [34] (h0 fr 2))) (aE w.params k S I J (ar [97] ((h0 fr 1)+14)) H) (az w.params O P Q V U (h0 fr 3) buf ((p:Int)+1)) ((h0 fr 0)+0) ((h0 fr 1)+17) G [cQ 34 buf p]:=by apply nO (h:=R);apply aC w;kernel_rfl
def TV:ay:=cU ⟨pg,w,kp w,iu σ d T X,none⟩ (nP w [[(4,.ai (fp w σ d R T X (gI w L) 3 4 39))],dz 0xb86f0cf013cd,[(1,.tail)]]) fr (aU w L) pos [(L,cR w.params X K a1 a2 M F q W),(X,bu Z),(Z,aE w.params k S I J (ar [34] E) (ar [] tx)),(S,a5 Y),(Y,az w.params O P Q V U D buf p)] N t G
theorem TY:pS L X Z S Y (TV w fr σ d R T L X Z S Y I J pos K a1 a2 M F W q k E tx O P Q V U D buf p N t G) (aU w L) ⟨849,20,849,30⟩ (cR w.params X K a1 a2 M F true (ar [39] (h0 fr 2))) (aE w.params k S I J (ar [34] E) (ar [39] (h0 fr 2))) (az w.params O P Q V U (h0 fr 3) buf ((p:Int)+1)) ((h0 fr 0)+0) ((h0 fr 1)+18) G [cQ 39 buf p]:=by apply nO (h:=R);apply aC w;kernel_rfl
def TZ:ay:=cU ⟨pg,w,kp w,iu σ d T X,none⟩ (nP w [[(4,.ai (fp w σ d R T X (gI w L) 3 4 39))],dz 0xcf013cd,[(3,.ai hZ)],dz 0xe9,[(1,.tail)]]) fr (aU w L) pos [(L,cR w.params X K a1 a2 M F q W),(X,bu Z),(Z,aE w.params k S I J (ar [34] E) (ar x tx)),(S,a5 Y),(Y,az w.params O P Q V U D buf p)] N t G
theorem T1:pS L X Z S Y (TZ w fr σ d R T L X Z S Y I J pos K a1 a2 M F W q k E x tx O P Q V U D buf p N t G) (aU w L) ⟨849,20,849,30⟩ (cR w.params X K a1 a2 M F true (ar [39] (h0 fr 2))) (aE w.params k S I J (ar [34] E) (.str ((⟨⟨x⟩⟩:Str)++(⟨⟨[39]⟩⟩:Str)) ((h0 fr 1)+16))) (az w.params O P Q V U (h0 fr 3) buf ((p:Int)+1)) ((h0 fr 0)+0) ((h0 fr 1)+19) G [((⟨⟨x⟩⟩:Str).length==0)=false,((⟨⟨[39]⟩⟩:Str).length==0)=false,((⟨⟨x⟩⟩:Str)++(⟨⟨[39]⟩⟩:Str)).length<=16777216,cQ 39 buf p]:=by apply nO (h:=R);apply aC w;kernel_rfl
end
end
end
section
set_option tactic.hygienic false
section
variable{V:Vw}{B:aS}{s:ZS}{R:ZR}
theorem kh{X:List (Nat×bD V.prog V.w V.kt)}{c U:Code}{pos pos':Pos}{L:ZA}{Z:ZL->List Obj}{N t:ZL->Nat}{ps:List Prop}(P:B.W=V.W)(hB:topHandled B.st=V.hb)(S:cP V.kt s.heap)(O:aR s.heap L)(hn:(L.map (·.1)).Nodup)(Q:∀p∈L,V.kt.get p.1=none)(H:∀fr:ZL,(gg (cU V X fr c pos L (zN s) s.toks s.gens),px (List.range L.length++[]) (cU V X fr c pos L (zN s) s.toks s.gens))=
   (gh (cU V X fr c pos L (zN s) s.toks s.gens),some (U,pos',((L.map fun q:Addr×Obj=>q.1).zip (Z fr)++[]).map some,N fr,t fr,s.gens,[],ps)))(hp:aO ps)(K:∀fr Y,Ext s Y (L.map (·.1))->aR Y.heap ((L.map (·.1)).zip (Z fr))->cP V.kt Y.heap->Y.gens=s.gens->a8 V.prog V.w B Y U pos' (denote table U) [] R):a8 V.prog V.w B s c pos (denote table c) [] R:=k9 P hB S O hn Q (bg:=[]) (fun a T=>by cases T) fun fr=>nt (H fr) hp fun Y F=>K fr Y F.ext (fun p hp=>F.holds p (dN _ hp)) F.kt (by rw[F.gens];simp)
theorem qR{X:List (Nat×bD V.prog V.w V.kt)}{c:Code}{pos:Pos}{L:ZA}{Z:ZL->List Obj}{N t:ZL->Nat}{ps:List Prop}{r:ZL->Result}(Q:B.W=V.W)(hB:topHandled B.st=V.hb)(T:cP V.kt s.heap)(P:aR s.heap L)(hn:(L.map (·.1)).Nodup)(S:∀p∈L,V.kt.get p.1=none)(H:∀fr:ZL,(gg (cU V X fr c pos L (zN s) s.toks s.gens),dx (List.range L.length++[]) (cU V X fr c pos L (zN s) s.toks s.gens))=
   (gh (cU V X fr c pos L (zN s) s.toks s.gens),some (r fr,((L.map fun q:Addr×Obj=>q.1).zip (Z fr)++[]).map some,N fr,t fr,s.gens,[],ps)))(hp:aO ps)(K:∀fr Y,Ext s Y (L.map (·.1))->aR Y.heap ((L.map (·.1)).zip (Z fr))->cP V.kt Y.heap->Y.gens=s.gens->R (r fr) Y):a8 V.prog V.w B s c pos (denote table c) [] R:=k9 Q hB T P hn S (bg:=[]) (fun a U=>by cases U) fun fr=>jk (H fr) hp fun Y F=>K fr Y F.ext (fun p hp=>F.holds p (dN _ hp)) F.kt (by rw[F.gens];simp)
end
inductive LS where
 |a|q|d
noncomputable def LS.v:LS->Tok->ZV
 |.a,t=>.str ⟨⟨[97]⟩⟩ t
 |.q,t=>.str ⟨⟨[39]⟩⟩ t
 |.d,t=>.str ⟨⟨[34]⟩⟩ t
noncomputable def pV:ZN:=[97,98,99,100,122,51,68]
noncomputable def m2:ZN:=[97,98,99,100,122,51,68,61,32,34]
noncomputable def bl:LS->Bool->ZN->ZN->Option (ZN×Option ZN×Bool)
 |.a,b,x,[]=>some (x,none,b)
 |.a,b,x,c::r=>
  if c=32 then(match x with|[]=>none|_::_=>some (x,some r,b))
  else if c=39 then bl .q b x r
  else if c=34 then bl .d b x r
  else if c∈pV\/c=61 then(match x with|[]=>none|_::_=>bl .a b (x++[c]) r)
  else none
 |.q,_,_,[]=>none
 |.q,_,x,c::r=>
  if c=39 then bl .a true x r
  else if c∈m2 then bl .q true (x++[c]) r
  else none
 |.d,_,_,[]=>none
 |.d,_,x,c::r=>
  if c=34 then bl .a true x r
  else if c=39 then bl .d true (x++[39]) r
  else none
theorem t5{c:Nat}(h:c∈pV):je [c] [10] false/\dv [32,9,13,10] c false/\dv [] c false/\dv [39,34] c false/\dv [92] c false/\dv x3 c true:=by simp only[pV,List.mem_cons,List.mem_nil_iff,or_false]at h;rcases h with rfl|rfl|rfl|rfl|rfl|rfl|rfl<;>unfold je dv<;>decide+kernel
theorem mr{c:Nat}(h:c∈m2):je [c] [10] false/\je [c] [39] false/\dv [92] c false:=by simp only[m2,List.mem_cons,List.mem_nil_iff,or_false]at h;rcases h with rfl|rfl|rfl|rfl|rfl|rfl|rfl|rfl|rfl|rfl<;>unfold je dv<;>decide+kernel
end
section
set_option tactic.hygienic true
theorem lX(x y:ZN):((⟨⟨x⟩⟩:Str)++(⟨⟨y⟩⟩:Str))=(⟨⟨x++y⟩⟩:Str):=by
 show(⟨(⟨x⟩:Array Nat)++(⟨y⟩:Array Nat)⟩:Str)=_
 simp
structure jf where
 w:ZW
 σ:Sp
 d:Nat
 hd:d<3
 la:Addr
 L:Addr
 X:Addr
 XD:Addr
 S:Addr
 SD:Addr
 Q1:Addr
 Q2:Addr
 a0:Tok
 a1:Tok
 a2:Tok
 a3:Tok
 k:Nat->Tok
 b1:Tok
 b2:Tok
 b3:Tok
 tn:Tok
 tb:Tok
 buf:Str
noncomputable def jf.led(z:jf)(U:Tok)(q:Bool)(W Y Z:ZV)(V:Tok)(p:Nat):ZA:=[(z.L,cR z.w.params z.X z.a0 z.a1 z.a2 z.a3 U q W),(z.X,bu z.XD),(z.XD,aE z.w.params z.k z.S z.Q1 z.Q2 Y Z),(z.S,a5 z.SD),(z.SD,az z.w.params z.b1 z.b2 z.b3 z.tn z.tb V z.buf p)]
noncomputable def jf.as(z:jf):List Addr:=[z.L,z.X,z.XD,z.S,z.SD]
structure jf.Ok(z:jf)(B:aS):Prop where
 W:B.W=iu z.σ z.d z.la z.X
 hB:topHandled B.st=none
 lo:2<=z.buf.length
 hi:z.buf.length<=16777215
 nd:z.as.Nodup
 aw:∀a∈z.as,(kp z.w).get a=none
noncomputable def behind(buf:Str):Option ZN->Nat
 |none=>buf.length
 |some r=>buf.length-r.length
def kX(z:jf)(s:ZS)(Z:ZN×Option ZN×Bool)(Y:ZS):Prop:=∃U nl X W tx V,Ext s Y z.as/\cP (kp z.w) Y.heap/\Y.gens=s.gens/\
  aR Y.heap (z.led U Z.2.2 (ar nl X) (match Z.2.1 with|none=>.none|some _=>.str ⟨⟨[32]⟩⟩ W) (ar (Z.1) tx) V (behind z.buf Z.2.1))
theorem kX.after{z:jf}{s Z W:ZS}{Y:ZN×Option ZN×Bool}(e:Ext s Z z.as)(g:Z.gens=s.gens)(h:kX z Z Y W):kX z s Y W:=by exact Uu h fun T nl X V tx U h=>Ut T nl X V tx U ⟨e.trans h.1,h.2.1,h.2.2.1.trans g,h.2.2.2⟩
theorem qS{z:jf}{B:aS}(O:z.Ok B){V:Tok}{q:Bool}{X Y Z:ZV}{W:Tok}{p:Nat}:∀x∈z.led V q X Y Z W p,(kp z.w).get x.1=none:=fun x hx=>O.aw x.1 (by
 have:x.1∈(z.led V q X Y Z W p).map (·.1):=b7 hx
 exact this)
theorem iY{l:ZN}{p c:Nat}{r:ZN}(h:l.drop p=c::r):l[p]?=some c/\l.drop (p+1)=r/\p<l.length:=by
 have Z:p<l.length:=by
  rcases mM p l.length with q|q
  .exact q
  .rw [List.drop_eq_nil_of_le q]at h;cases h
 rw[List.drop_eq_getElem_cons Z]at h;injection h with Y h2
 exact⟨by rw[List.getElem?_eq_getElem Z,Y],h2,Z⟩
theorem uG{buf:Str}{p c:Nat}{r:ZN}(lo:2<=buf.length)(Z:buf.length<=16777215)(h:buf.cps.toList.drop p=c::r):cQ c buf p:=⟨by have:=(iY h).1;simpa using this,lo,(j2 Z)⟩
theorem len_app(x:ZN)(c:Nat):((⟨⟨x⟩⟩:Str)++(⟨⟨[c]⟩⟩:Str)).length=x.length+1:=by rw[lX];show(x++[c]).length=_;simp
theorem jY:mE [97] true:=by unfold mE;decide
theorem rI{buf:Str}{p:Nat}(Z:cQ 61 buf p):aO [dv [] 61 false,dv [39,34] 61 false,dv x3 61 false,dv [92] 61 false,dv [39,34] 61 false,dv [] 61 false,dv [32,9,13,10] 61 false,mE [97] true,je [61] [10] false,cQ 61 buf p]:=by
 refine aa ?_ (aa ?_ (aa ?_ (aa ?_ (aa ?_ (aa ?_ (aa ?_ (aa jY (aa ?_ (dZ Z)))))))))
 all_goals first|(unfold dv;decide+kernel)|(unfold je;decide+kernel)
def gR(z:jf)(B:aS)(p:Nat)(st:LS)(q:Bool)(x:ZN)(Z:ZN×Option ZN×Bool):Prop:=∀(s:ZS)(pos:Pos)(T:Tok)(Y:ZV)(X tx W:Tok),aR s.heap (z.led T q Y (st.v X) (ar x tx) W p)->cP (kp z.w) s.heap->
  a8 pg z.w B s (aU z.w z.L) pos (denote table (aU z.w z.L)) [] (fun U V=>U=.ok .next/\kX z s Z V)
section
variable{z:jf}{B:aS}{s:ZS}{pos:Pos}{R:Tok}{q:Bool}{T U Y:ZV}{Q:Tok}{p:Nat}{Z:ZN×Option ZN×Bool}{P:List (Nat×bD pg z.w (kp z.w))}{ps:List Prop}
theorem dS(O:z.Ok B)(n:aR s.heap (z.led R q T U Y Q p))(u:cP (kp z.w) s.heap){pos':Pos}{y:Bool}{J:LS}{A:ZN}{I M:ZL->ZV}{F G E N t:ZL->Nat}(K:gR z B (p+1) J y A Z)(H:∀fr,pS z.L z.X z.XD z.S z.SD (cU ⟨pg,z.w,kp z.w,iu z.σ z.d z.la z.X,none⟩ P fr (aU z.w z.L) pos (z.led R q T U Y Q p) (zN s) s.toks s.gens) (aU z.w z.L) pos'
   (cR z.w.params z.X z.a0 z.a1 z.a2 z.a3 R y (I fr)) (aE z.w.params z.k z.S z.Q1 z.Q2 (J.v (F fr)) (M fr)) (az z.w.params z.b1 z.b2 z.b3 z.tn z.tb (E fr) z.buf ((p:Int)+1)) (N fr) (t fr) s.gens ps)(hp:aO ps)(m:∀fr,M fr=.str ⟨⟨A⟩⟩ (G fr)):a8 pg z.w B s (aU z.w z.L) pos (denote table (aU z.w z.L)) [] (fun x D=>x=.ok .next/\kX z s Z D):=kh (V:=⟨pg,z.w,kp z.w,iu z.σ z.d z.la z.X,none⟩) O.W O.hB u n O.nd (qS O) H hp fun fr D he r C o=>(K D _ _ _ _ _ _ (m fr▸r) C).mono fun a a e=>e.imp_right fun e=>e.after he o
theorem uH(O:z.Ok B)(A:aR s.heap (z.led R q T U Y Q p))(E:cP (kp z.w) s.heap){p':Nat}{nl:ZN}{J:ZL->Nat}{M K ts N t:ZL->Nat}(H:∀fr,RG z.L z.X z.XD z.S z.SD (cU ⟨pg,z.w,kp z.w,iu z.σ z.d z.la z.X,none⟩ P fr (aU z.w z.L) pos (z.led R q T U Y Q p) (zN s) s.toks s.gens) (.ok .next)
   (cR z.w.params z.X z.a0 z.a1 z.a2 z.a3 R Z.2.2 (ar nl (J fr))) (aE z.w.params z.k z.S z.Q1 z.Q2 (match Z.2.1 with|none=>.none|some _=>.str ⟨⟨[32]⟩⟩ (ts fr)) (ar (Z.1) (M fr))) (az z.w.params z.b1 z.b2 z.b3 z.tn z.tb (K fr) z.buf p') (N fr) (t fr) s.gens ps)(hp:aO ps)(e:behind z.buf Z.2.1=p'):a8 pg z.w B s (aU z.w z.L) pos (denote table (aU z.w z.L)) [] (fun F G=>F=.ok .next/\kX z s Z G):=qR (V:=⟨pg,z.w,kp z.w,iu z.σ z.d z.la z.X,none⟩) O.W O.hB E A O.nd (qS O) H hp fun fr a he D I C=>⟨rfl,Ut R nl _ (ts fr) _ _ ⟨he,I,C,e▸D⟩⟩
end
section
variable{z:jf}{B:aS}(O:z.Ok B){p:Nat}{q:Bool}{Z:ZN×Option ZN×Bool}{x:ZN}{x0 c:Nat}
include O
theorem T2(U:cQ 39 z.buf p)(K:gR z B (p+1) .q q x Z):gR z B p .a q x Z:=fun s pos Q Y W tx V R T=>dS O R T K (fun fr=>XK z.w fr z.σ z.d z.hd z.la z.L z.X z.XD z.S z.SD z.Q1 z.Q2 pos z.a0 z.a1 z.a2 z.a3 Q Y q z.k W (.str ⟨⟨x⟩⟩ tx) z.b1 z.b2 z.b3 z.tn z.tb V z.buf p _ _ _) (aa jY (dZ U)) fun b=>rfl
theorem T3(U:cQ 34 z.buf p)(K:gR z B (p+1) .d q x Z):gR z B p .a q x Z:=fun s pos Q Y W tx V R T=>dS O R T K (fun fr=>XN z.w fr z.σ z.d z.hd z.la z.L z.X z.XD z.S z.SD z.Q1 z.Q2 pos z.a0 z.a1 z.a2 z.a3 Q Y q z.k W (.str ⟨⟨x⟩⟩ tx) z.b1 z.b2 z.b3 z.tn z.tb V z.buf p _ _ _) (aa jY (dZ U)) fun b=>rfl
theorem T4(U:cQ c z.buf p)(f:je [c] [10] false/\dv [32,9,13,10] c false/\dv [] c false/\dv [39,34] c false/\dv [92] c false/\dv x3 c true)(hx:((⟨⟨x0::x⟩⟩:Str)++(⟨⟨[c]⟩⟩:Str)).length<=16777216)(K:gR z B (p+1) .a q (x0::x++[c]) Z):gR z B p .a q (x0::x) Z:=fun s pos Q Y W tx V R T=>dS O R T K (fun fr=>TP z.w fr z.σ z.d z.hd z.la z.L z.X z.XD z.S z.SD z.Q1 z.Q2 pos z.a0 z.a1 z.a2 z.a3 Q Y q z.k W (x0::x) tx z.b1 z.b2 z.b3 z.tn z.tb V z.buf p c _ _ _) (aa rfl (aa rfl (aa hx (aa f.2.2.2.2.2 (aa f.2.2.2.2.1 (aa f.2.2.2.1 (aa f.2.2.1 (aa f.2.1 (aa jY (aa f.1 (dZ U))))))))))) fun b=>by rw[lX]
theorem T5(U:cQ 61 z.buf p)(hx:((⟨⟨x0::x⟩⟩:Str)++(⟨⟨[61]⟩⟩:Str)).length<=16777216)(K:gR z B (p+1) .a q (x0::x++[61]) Z):gR z B p .a q (x0::x) Z:=fun s pos Q Y W tx V R T=>dS O R T K (fun fr=>XG z.w fr z.σ z.d z.hd z.la z.L z.X z.XD z.S z.SD z.Q1 z.Q2 pos z.a0 z.a1 z.a2 z.a3 Q Y q z.k W (x0::x) tx z.b1 z.b2 z.b3 z.tn z.tb V z.buf p _ _ _) (aa rfl (aa rfl (aa hx (rI U)))) fun b=>by rw[lX]
theorem T6(U:cQ 39 z.buf p)(K:gR z B (p+1) .a true x Z):gR z B p .q q x Z:=fun s pos Q Y W tx V R T=>dS O R T K (fun fr=>XS z.w fr z.σ z.d z.hd z.la z.L z.X z.XD z.S z.SD z.Q1 z.Q2 pos z.a0 z.a1 z.a2 z.a3 Q Y q z.k W (.str ⟨⟨x⟩⟩ tx) z.b1 z.b2 z.b3 z.tn z.tb V z.buf p _ _ _) (dZ U) fun b=>rfl
theorem OD(U:cQ c z.buf p)(f:je [c] [10] false/\je [c] [39] false/\dv [92] c false)(K:gR z B (p+1) .q true [c] Z):gR z B p .q q [] Z:=fun s pos Q Y W tx V R T=>dS O R T K (fun fr=>TR z.w fr z.σ z.d z.hd z.la z.L z.X z.XD z.S z.SD z.Q1 z.Q2 pos z.a0 z.a1 z.a2 z.a3 Q Y q z.k W tx z.b1 z.b2 z.b3 z.tn z.tb V z.buf p c _ _ _) (aa f.2.2 (aa f.2.1 (aa f.1 (dZ U)))) fun a=>rfl
theorem OE(U:cQ c z.buf p)(f:je [c] [10] false/\je [c] [39] false/\dv [92] c false)(hx:((⟨⟨x0::x⟩⟩:Str)++(⟨⟨[c]⟩⟩:Str)).length<=16777216)(K:gR z B (p+1) .q true (x0::x++[c]) Z):gR z B p .q q (x0::x) Z:=fun s pos Q Y W tx V R T=>dS O R T K (fun fr=>TU z.w fr z.σ z.d z.hd z.la z.L z.X z.XD z.S z.SD z.Q1 z.Q2 pos z.a0 z.a1 z.a2 z.a3 Q Y q z.k W (x0::x) tx z.b1 z.b2 z.b3 z.tn z.tb V z.buf p c _ _ _) (aa rfl (aa rfl (aa hx (aa f.2.2 (aa f.2.1 (aa f.1 (dZ U))))))) fun a=>by rw[lX]
theorem T7(U:cQ 34 z.buf p)(K:gR z B (p+1) .a true x Z):gR z B p .d q x Z:=fun s pos Q Y W tx V R T=>dS O R T K (fun fr=>XU z.w fr z.σ z.d z.hd z.la z.L z.X z.XD z.S z.SD z.Q1 z.Q2 pos z.a0 z.a1 z.a2 z.a3 Q Y q z.k W (.str ⟨⟨x⟩⟩ tx) z.b1 z.b2 z.b3 z.tn z.tb V z.buf p _ _ _) (dZ U) fun b=>rfl
theorem OF(U:cQ 39 z.buf p)(K:gR z B (p+1) .d true [39] Z):gR z B p .d q [] Z:=fun s pos Q Y W tx V R T=>dS O R T K (fun fr=>TY z.w fr z.σ z.d z.hd z.la z.L z.X z.XD z.S z.SD z.Q1 z.Q2 pos z.a0 z.a1 z.a2 z.a3 Q Y q z.k W tx z.b1 z.b2 z.b3 z.tn z.tb V z.buf p _ _ _) (dZ U) fun a=>rfl
theorem OG(U:cQ 39 z.buf p)(hx:((⟨⟨x0::x⟩⟩:Str)++(⟨⟨[39]⟩⟩:Str)).length<=16777216)(K:gR z B (p+1) .d true (x0::x++[39]) Z):gR z B p .d q (x0::x) Z:=fun s pos Q Y W tx V R T=>dS O R T K (fun fr=>T1 z.w fr z.σ z.d z.hd z.la z.L z.X z.XD z.S z.SD z.Q1 z.Q2 pos z.a0 z.a1 z.a2 z.a3 Q Y q z.k W (x0::x) tx z.b1 z.b2 z.b3 z.tn z.tb V z.buf p _ _ _) (aa rfl (aa rfl (aa hx (dZ U)))) fun a=>by rw[lX]
theorem T8(h:z.buf.length=p):gR z B p .a q x (x,none,q):=fun s pos R Y W tx V T U=>uH O T U (ts:=fun b=>0) (fun fr=>XQ z.w fr z.σ z.d z.hd z.la z.L z.X z.XD z.S z.SD z.Q1 z.Q2 pos z.a0 z.a1 z.a2 z.a3 R Y q z.k W (.str ⟨⟨x⟩⟩ tx) z.b1 z.b2 z.b3 z.tn z.tb V z.buf p _ _ _) (aa jY (dZ ⟨dX h,j2 (h▸O.hi)⟩)) h
theorem T9(U:cQ 32 z.buf p)(hx:(x0::x).length<=16777216){r:ZN}(h:z.buf.length-r.length=p+1):gR z B p .a q (x0::x) (x0::x,some r,q):=fun s pos Q Y W tx V R T=>uH O R T (p':=p+1) (fun fr=>XI z.w fr z.σ z.d z.hd z.la z.L z.X z.XD z.S z.SD z.Q1 z.Q2 pos z.a0 z.a1 z.a2 z.a3 Q Y q z.k W x0 x tx z.b1 z.b2 z.b3 z.tn z.tb V z.buf p _ _ _) (aa hx (aa jY (dZ U))) h
end
theorem uI(z:jf)(B:aS)(O:z.Ok B):∀(r:ZN)(st:LS)(q:Bool)(x:ZN)(Y:ZN×Option ZN×Bool),bl st q x r=some Y->∀(p:Nat),z.buf.cps.toList.drop p=r->p<=z.buf.length->x.length+r.length<=16777215->
  gR z B p st q x Y:=by
 intro r;have e:z.buf.cps.toList.length=z.buf.length:=by simp[Str.length]
 induction r with
 |nil=>
  intro st q x Y Z p R hp hx;cases st with
  |q=>cases Z
  |d=>cases Z
  |a=>
   cases Z
   exact T8 O (Nat.le_antisymm (e▸List.drop_eq_nil_iff.mp R) hp)
 |cons c r Q=>
  intro st q x Y Z p R hp hx;obtain⟨_,S,T⟩:=iY R;have X:=uG O.lo O.hi R
  rw[e]at T;rw[cX]at hx;have go:∀{st q x},bl st q x r=some Y->x.length+r.length<=16777215->gR z B (p+1) st q x Y:=fun Z hx=>Q _ _ _ _ Z (p+1) S T hx
  have V:∀{y:ZN} {c:Nat},y.length+(r.length+1)<=16777215->(y++[c]).length+r.length<=16777215/\((⟨⟨y⟩⟩:Str)++(⟨⟨[c]⟩⟩:Str)).length<=16777216:=fun h=>by rw[len_app,cJ,List.length_singleton];lia
  have U:x.length+r.length<=16777215:=by exact jB hx
  cases st with
  |a=>
   simp only[bl]at Z;split at Z
   .rename_i W;cases x with
    |nil=>cases Z
    |cons x0 x=>
     cases Z
     refine T9 O (W▸X) (by lia) ?_
     rw[←S,List.length_drop,e];exact Nat.sub_sub_self T
   .split at Z
    .exact T2 O (‹c=39›▸X) (go Z U)
    .split at Z
     .exact T3 O (‹c=34›▸X) (go Z U)
     .split at Z
      .rename_i W;cases x with
       |nil=>cases Z
       |cons x0 x=>
        rcases W with W|rfl
        .exact T4 O X (t5 W) (V hx).2 (go Z (V hx).1)
        .exact T5 O X (V hx).2 (go Z (V hx).1)
      .cases Z
  |q=>
   simp only[bl]at Z;split at Z
   .exact T6 O (‹c=39›▸X) (go Z U)
   .split at Z
    .rename_i W;cases x with
     |nil=>exact OD O X (mr W) (go Z (V hx).1)
     |cons x0 x=>exact OE O X (mr W) (V hx).2 (go Z (V hx).1)
    .cases Z
  |d=>
   simp only[bl]at Z;split at Z
   .exact T7 O (‹c=34›▸X) (go Z U)
   .split at Z
    .rename_i W;subst W;cases x with
     |nil=>exact OF O X (go Z (V hx).1)
     |cons x0 x=>exact OG O X (V hx).2 (go Z (V hx).1)
    .cases Z
end
set_option tactic.hygienic true
noncomputable def nQ:ZN->Option (ZN×Option ZN×Bool)
 |[]=>none
 |c::r=>if c∈[97,98,99,100]then bl .a false [c] r else if c=39 then bl .q false [] r else none
noncomputable def jf.qj(z:jf)(Z tx Y:Tok)(p:Nat):ZA:=[(z.L,w3 z.w.params z.X z.a0 z.a1 z.a2 z.a3 false),(z.X,bu z.XD),(z.XD,aE z.w.params z.k z.S z.Q1 z.Q2 (ar [32] Z) (ar [] tx)),(z.S,a5 z.SD),(z.SD,az z.w.params z.b1 z.b2 z.b3 z.tn z.tb Y z.buf p)]
theorem nR{z:jf}{B:aS}(O:z.Ok B){Z tx Y:Tok}{p:Nat}:∀x∈z.qj Z tx Y p,(kp z.w).get x.1=none:=fun x hx=>O.aw x.1 (by
 have:x.1∈(z.qj Z tx Y p).map (·.1):=b7 hx
 exact this)
theorem pW{c:Nat}(h:c∈[97,98,99,100]):dv x3 c true/\dv [92] c false/\dv [] c false/\dv [32,9,13,10] c false/\je [c] [10] false:=by simp only[List.mem_cons,List.mem_nil_iff,or_false]at h;rcases h with rfl|rfl|rfl|rfl<;>unfold je dv<;>decide+kernel
theorem zj(z:jf)(B:aS)(O:z.Ok B)(Z:ZN×Option ZN×Bool)(p:Nat)(Y:nQ (z.buf.cps.toList.drop p)=some Z)(s:ZS)(pos:Pos)(P tx N:Tok)(F:aR s.heap (z.qj P tx N p))(G:cP (kp z.w) s.heap):a8 pg z.w B s (aU z.w z.L) pos (denote table (aU z.w z.L)) [] (fun E T=>E=.ok .next/\kX z s Z T):=by
 have e:z.buf.cps.toList.length=z.buf.length:=by simp[Str.length]
 cases hd:z.buf.cps.toList.drop p with
 |nil=>rw[hd]at Y;cases Y
 |cons c r=>
  rw[hd]at Y;obtain⟨_,Q,M⟩:=iY hd;have H:=uG O.lo O.hi hd
  have R:p+1<=z.buf.length:=by exact iC M
  have A:r.length+1<=z.buf.length:=by
   have:(c::r).length=z.buf.length-p:=by rw[←hd,List.length_drop,e]
   simp at this;lia
  have:=O.hi
  simp only[nQ]at Y;split at Y
  .rename_i I;obtain⟨f1,f2,C,f4,D⟩:=pW I;exact kh (V:=⟨pg,z.w,kp z.w,iu z.σ z.d z.la z.X,none⟩) O.W O.hB G F O.nd (nR O) (fun fr=>XB z.w fr z.σ z.d z.hd z.la z.L z.X z.XD z.S z.SD z.Q1 z.Q2 pos z.a0 z.a1 z.a2 z.a3 false z.k P (.str ⟨⟨[]⟩⟩ tx) z.b1 z.b2 z.b3 z.tn z.tb N z.buf p c _ _ _)
    (aa f1 (aa f2 (aa C (aa f4 (aa D (dZ H)))))) fun fr T he K U J=>(uI z B O r .a false [c] Z Y (p+1) Q R (by simp;lia) T _ _ _ _ _ _ K U).mono fun b b e=>e.imp_right fun e=>e.after he J
  .split at Y
   .rename_i I;subst I;exact kh (V:=⟨pg,z.w,kp z.w,iu z.σ z.d z.la z.X,none⟩) O.W O.hB G F O.nd (nR O) (fun fr=>XE z.w fr z.σ z.d z.hd z.la z.L z.X z.XD z.S z.SD z.Q1 z.Q2 pos z.a0 z.a1 z.a2 z.a3 false z.k P (.str ⟨⟨[]⟩⟩ tx) z.b1 z.b2 z.b3 z.tn z.tb N z.buf p _ _ _)
     (dZ H) fun fr T he K U J=>(uI z B O r .q false [] Z Y (p+1) Q R (by simp;lia) T _ _ _ _ _ _ K U).mono fun b b e=>e.imp_right fun e=>e.after he J
   .cases Y
def jf.wc(z:jf)(p:Nat)(Z:ZN×Option ZN×Bool):Prop:=nQ (z.buf.cps.toList.drop p)=some Z/\2<=z.buf.length/\z.buf.length<=16777215
noncomputable def JP(Z:ZN×Option ZN×Bool)(Y:Tok):ZV:=match Z.2.1 with
 |none=>.none
 |some _=>.str ⟨⟨[32]⟩⟩ Y
theorem mu{s Y:ZS}{L:ZA}{Z:List Obj}{r:Result}(he:Ext s Y (L.map (·.1)))(V:Y.gens=s.gens)(X:Z.length=L.length)(W:aR Y.heap ((L.map (·.1)).zip Z)):cf s Y L ⟨r,Z,[],Y.heap.objs.size,Y.toks,0,[]⟩:=⟨he,X,W,bH _,(fun a hp=>(nomatch hp)),cW,rfl,rfl,(by rw[V];simp),(fun a hp=>(nomatch hp)),(fun a hp=>(nomatch hp)),(fun a hp=>(nomatch hp)),(fun a hp=>(nomatch hp))⟩
def Bv(z:jf)(P:ZN)(V tx R:Tok)(p:Nat)(Z:ZN×Option ZN×Bool):aX pg z.w (kp z.w)where
 A:=fun b b b b b=>⟨aU z.w z.L,P,z.qj V tx R p,.exact (iu z.σ z.d z.la z.X),[z.wc p Z],[],[]⟩
 B:=fun b b b b b f=>⟨.ok .next,[cR z.w.params z.X z.a0 z.a1 z.a2 z.a3 (f.getD 2 0) Z.2.2 (ar (f.drop 7) (f.getD 3 0)),bu z.XD,aE z.w.params z.k z.S z.Q1 z.Q2 (JP Z (f.getD 4 0)) (ar (Z.1) (f.getD 5 0)),a5 z.SD,
   az z.w.params z.b1 z.b2 z.b3 z.tn z.tb (f.getD 6 0) z.buf (behind z.buf Z.2.1)],[],f.getD 0 0,f.getD 1 0,0,[]⟩
 ok:=fun b c T s B pos e hp J G hn I hB b H=>by
  have e:c=aU z.w z.L:=e
  subst e;have F:z.wc p Z:=hp _ (.head _)
  have O:z.Ok B:=⟨H,hB,F.2.1,F.2.2,hn,fun a h=>by
   obtain⟨x,hx,rfl⟩:∃x∈z.qj V tx R p,x.1=a:=aZ.mp (show a∈(z.qj V tx R p).map (·.1)from h)
   exact I x hx⟩
  refine(zj z B O Z p F.1 s pos V tx R G J).mono fun r M N=>Uu N.2 fun K nl Q W Y U h=>⟨[M.heap.objs.size,M.toks,K,Q,W,Y,U]++nl,N.1,?_⟩
  have E:=h.2.2.2
  exact mu (L:=z.qj V tx R p) h.1 h.2.2.1 rfl (by
   have:(z.led K Z.2.2 (ar nl Q) (match Z.2.1 with|none=>.none|some _=>.str ⟨⟨[32]⟩⟩ W) (ar (Z.1) Y) U (behind z.buf Z.2.1))=_:=rfl
   exact E)
set_option tactic.hygienic false
noncomputable def Sp.at(σ:Sp)(i:Nat)(b:List Stmt)(e:Env)(p:Pos):Sp:={σ with fb:=fun n=>match Nat.beq n i with|true=>b|false=>σ.fb n,fe:=fun n=>match Nat.beq n i with|true=>e|false=>σ.fe n,p:=fun n=>match Nat.beq n i with|true=>p|false=>σ.p n}
noncomputable def Ap(σ:Sp)(d:Nat)(Z X:Addr):ZC:=(.builtin "list.extend.loop" ⟨[.ref Z,.ref X,.none],[]⟩,σ.p 13)::(.builtin "type.__call__" ⟨[.type "list",.ref X],[]⟩,σ.p 14)::(.func (σ.fb 15) (σ.fe 15),σ.p 15)::uE σ d
structure fz where
 w:ZW
 σ:Sp
 d:Nat
 hd:d<3
 la:Addr
 X:Addr
 XD:Addr
 S:Addr
 SD:Addr
 Q1:Addr
 Q2:Addr
 k:Nat->Tok
 b1:Tok
 b2:Tok
 b3:Tok
 tn:Tok
 tb:Tok
 buf:Str
noncomputable def kB:Obj:=⟨.type "collections.deque",none,.fields #[.none,.int 0 0],#[]⟩
noncomputable def fz.led(y:fz)(Y Z:ZV)(W:Tok)(p:Nat):ZA:=[(y.X,bu y.XD),(y.XD,aE y.w.params y.k y.S y.Q1 y.Q2 Y Z),(y.S,a5 y.SD),(y.SD,az y.w.params y.b1 y.b2 y.b3 y.tn y.tb W y.buf p),(y.Q1,kB),(y.Q2,kB)]
def fz.rt(y:fz)(N t:Nat):jf:=⟨y.w,((y.σ.at 10 (aH (mW y.w.params)) (eB 871 (mW y.w.params) (N+2) []) ⟨784,8,906,32⟩).at 11 (aH (wL y.w.params)) (eB 864 (wL y.w.params) (N+1) []) ⟨760,14,760,31⟩).at 12 (aH (pv y.w.params)) (eB 900 (pv y.w.params) N []) ⟨932,16,932,32⟩,
  y.d,y.hd,y.la,N+2,y.X,y.XD,y.S,y.SD,y.Q1,y.Q2,t+5,t+6,t+8,t+7,y.k,y.b1,y.b2,y.b3,y.tn,y.tb,y.buf⟩
def Ua(y:fz)(N t:Nat)(Z tx Y:Tok)(p:Nat)(tok:ZN)(rest:Option ZN)(q:Bool):List (Nat×bD pg y.w (kp y.w)):=[(5,.ld 6),(0,.up 6),(6,.ld 6),(1,.ld 0),(3,.ld 0),(3,.ld 0),(4,.ld 0),(0,.ld 1),(9,.ld 7),(0,.up 7),(6,.ld 7),(2,.ld 0),(4,.ld 0),(3,.ld 0),(0,.ld 0),(1,.ld 1),(3,.ld 4),(0,.ld 4),(1,.ld 4),(1,.ld 4),(1,.ld 4),(7,.ld 7),(1,.ld 0),(3,.ld 0),(3,.ld 0),(4,.ld 0),(0,.ld 1),(9,.ld 8),(0,.up 8),(9,.ld 8),(0,.up 8),(7,.ld 8),(0,.up 8),(2,.ai (Bv (y.rt N t) [8,0,1,2,3] Z tx Y p (tok,rest,q))),(2,.ld 8),(2,.ld 0),(4,.ld 0),(3,.ld 0),(0,.ld 0),(1,.ld 1),(6,.ld 8),(0,.up 8),(4,.ld 8),(2,.ld 0),(4,.ld 0),(2,.ld 0),(1,.ld 0),(3,.ld 0),(3,.ld 1),(0,.up 1),(0,.ld 1),(3,.ld 8),(2,.ld 0),(4,.ld 0),(3,.ld 0),(0,.ld 0),(1,.ld 1),(4,.ld 8)]
def Ub(y:fz):Bool->List (Nat×bD pg y.w (kp y.w))
 |true=>[(3,.ld 8)]
 |false=>[(2,.ld 8),(4,.ai (nu false)),(2,.ld 8)]
def Uc(y:fz):List (Nat×bD pg y.w (kp y.w)):=[(2,.ld 0),(4,.ld 0),(3,.ld 0),(0,.ld 0),(1,.ld 1),(10,.ld 8),(6,.ld 7),(0,.up 7),(3,.ld 7),(2,.ld 0),(4,.ld 0),(3,.ld 0),(0,.ld 0),(1,.ld 1),(6,.ld 7),(1,.ld 7),(2,.ld 0),(4,.ld 0),(3,.ld 0),(0,.ld 0),(1,.ld 1),(16,.ld 7),(2,.ld 0),(4,.ld 0),(3,.ld 0),(0,.ld 0),(1,.ld 1),(10,.ld 7),(6,.ld 6),(0,.up 6),(3,.ld 6),(1,.ld 6),(2,.ld 0),(4,.ld 0),(3,.ld 0),(0,.ld 0),(1,.ld 1),(15,.ld 6),(0,.fin)]
def XW(y:fz)(N t:Nat)(Z tx Y:Tok)(p:Nat)(tok:ZN)(rest:Option ZN)(q:Bool):List (Nat×bD pg y.w (kp y.w)):=(Ua y N t Z tx Y p tok rest q).append ((Ub y q).append (Uc y))
def RH(y:fz)(fr:ZL)(pos:Pos)(Z tx Y:Tok)(p:Nat)(tok:ZN)(rest:Option ZN)(q:Bool)(N t:Nat)(G:ZG):ay:=cU ⟨pg,y.w,kp y.w,Ap y.σ y.d y.la y.X,none⟩ (XW y N t Z tx Y p tok rest q) fr (.call (.ref 900) ⟨[.ref y.X],[]⟩) pos (y.led (ar [32] Z) (ar [] tx) Y p) N t G
noncomputable def Ud(y:fz)(N t:Nat)(p:Nat)(tok:ZN)(rest:Option ZN):Bool->List Prop
 |true=>[(y.rt N t).wc p (tok,rest,true)]
 |false=>[(tok==[])=false,(y.rt N t).wc p (tok,rest,false)]
noncomputable def XX:Bool->Nat
 |true=>15
 |false=>16
theorem XY(w:ZW)(σ:Sp)(d:Nat)(Q:d<3)(L X Z S Y V W:Addr)(k:ZT)(M O P T R:Tok)(buf:Str)(fr:ZL)(pos:Pos)(K tx J:Tok)(p:Nat)(tok:ZN)(rest:Option ZN)(q:Bool)(N t:Nat)(G:ZG):(gg (RH ⟨w,σ,d,Q,L,X,Z,S,Y,V,W,k,M,O,P,T,R,buf⟩ fr pos K tx J p tok rest q N t G),dx (List.range 6++[]) (RH ⟨w,σ,d,Q,L,X,Z,S,Y,V,W,k,M,O,P,T,R,buf⟩ fr pos K tx J p tok rest q N t G))=
  (gh (RH ⟨w,σ,d,Q,L,X,Z,S,Y,V,W,k,M,O,P,T,R,buf⟩ fr pos K tx J p tok rest q N t G),some (.ok (.ret (ar tok ((fr.headD []).getD 5 0))),
   ([X,Z,S,Y,V,W].zip [bu Z,aE w.params k S V W (JP (tok,rest,q) ((fr.headD []).getD 4 0)) (ar [] ((fr.headD []).getD 1 0+2)),a5 Y,az w.params M O P T R ((fr.headD []).getD 6 0) buf (behind buf rest),kB,kB]++[]).map some,
   (fr.headD []).getD 0 0,(fr.headD []).getD 1 0+XX q,G,[],Ud ⟨w,σ,d,Q,L,X,Z,S,Y,V,W,k,M,O,P,T,R,buf⟩ N t p tok rest q)):=by
 match d,Q with
 |0,_=>rcases a4 w with ⟨U,rfl⟩|⟨U,rfl⟩<;>cases q<;>kernel_rfl
 |1,_=>rcases a4 w with ⟨U,rfl⟩|⟨U,rfl⟩<;>cases q<;>kernel_rfl
 |2,_=>rcases a4 w with ⟨U,rfl⟩|⟨U,rfl⟩<;>cases q<;>kernel_rfl
def fz.wc(y:fz)(p:Nat)(Z:ZN×Option ZN×Bool):Prop:=nQ (y.buf.cps.toList.drop p)=some Z/\2<=y.buf.length/\y.buf.length<=16777215/\Z.1≠[]
def OH(y:fz)(U:ZN)(Y tx W:Tok)(p:Nat)(Z:ZN×Option ZN×Bool):aX pg y.w (kp y.w)where
 A:=fun a a a a a=>⟨.call (.ref 900) ⟨[.ref y.X],[]⟩,U,y.led (ar [32] Y) (ar [] tx) W p,.exact (Ap y.σ y.d y.la y.X),[y.wc p Z],[],[]⟩
 B:=fun a a a a a f=>⟨.ok (.ret (ar (Z.1) (f.getD 2 0))),[bu y.XD,aE y.w.params y.k y.S y.Q1 y.Q2 (JP Z (f.getD 3 0)) (ar [] (f.getD 4 0)),a5 y.SD,az y.w.params y.b1 y.b2 y.b3 y.tn y.tb (f.getD 5 0) y.buf (behind y.buf Z.2.1),kB,kB],[],
  f.getD 0 0,f.getD 1 0,0,[]⟩
 ok:=fun a c T s B pos e hp O I hn K hB a J=>by
  have e:c=.call (.ref 900) ⟨[.ref y.X],[]⟩:=e
  subst e;have F:y.wc p Z:=hp _ (.head _)
  obtain⟨tok,rest,q⟩:=Z;refine qR (V:=⟨pg,y.w,kp y.w,Ap y.σ y.d y.la y.X,none⟩) J hB O I hn K (fun fr=>XY y.w y.σ y.d y.hd y.la y.X y.XD y.S y.SD y.Q1 y.Q2 y.k y.b1 y.b2 y.b3 y.tn y.tb y.buf fr pos Y tx W p tok rest q _ _ _) ?_ ?_
  .have Q:(y.rt s.heap.objs.size s.toks).wc p (tok,rest,q):=⟨F.1,F.2.1,F.2.2.1⟩
   cases q with
   |true=>exact dZ Q
   |false=>exact Dx (by have:=F.2.2.2;cases tok with|nil=>exact absurd rfl this|cons=>rfl) Q
  .intro fr R he N P M;exact⟨[R.heap.objs.size,R.toks,(fr.headD []).getD 5 0,(fr.headD []).getD 4 0,(fr.headD []).getD 1 0+2,(fr.headD []).getD 6 0],rfl,mu (L:=y.led (ar [32] Y) (ar [] tx) W p) he M rfl N⟩
set_option tactic.hygienic false
def Sp.qT(σ:Sp)(P:Params)(d Y X Z:Nat):Sp:={σ with fe:=fun n=>match n with
 |15=>eB 915 (pw P) Y []
 |0=>eB 956 (eH P) X []
 |1=>match d with|0=>{σ.fe 1 with frame:=some Z}|_=>σ.fe 1
 |5=>match d with|0=>σ.fe 5|_=>{σ.fe 5 with frame:=some Z}
 |n=>σ.fe n}
noncomputable def Aq(Z:Array DictEntry)(n:Nat):Obj:=⟨.type "frame",none,.dict Z n,#[]⟩
noncomputable def nT(Z:Array DictEntry)(n:Nat)(Y a1 a2:Option ZV)(b:ZV)(rest:List (Option ZV)):Obj:=⟨.type "frame",none,.dict Z n,⟨Y::a1::a2::some b::rest⟩⟩
noncomputable def we(Z:Array DictEntry)(n:Nat)(code back fn:ZV):Obj:=⟨.type "frame",none,.dict Z n,#[some code,some (.ref 3),none,some back,none,some fn,some (.ref 0)]⟩
structure wg where
 fS:Addr
 fR:Addr
 fB:Addr
 e1:Array DictEntry
 n1:Nat
 e2:Array DictEntry
 n2:Nat
 e3:Array DictEntry
 n3:Nat
 a0:Option ZV
 a1:Option ZV
 a2:Option ZV
 b:ZV
 rest:List (Option ZV)
noncomputable def wg.led(u:wg):ZA:=[(u.fS,Aq u.e1 u.n1),(u.fR,Aq u.e2 u.n2),(u.fB,nT u.e3 u.n3 u.a0 u.a1 u.a2 u.b u.rest)]
def fz.in(y:fz)(u:wg):fz:={y with σ:=y.σ.qT y.w.params y.d u.fS u.fR u.fB}
noncomputable def rJ(σ:Sp):Nat->List Env
 |0=>[σ.fe 15,σ.fe 0,σ.fe 1]
 |1=>[σ.fe 15,σ.fe 0,σ.fe 5,σ.fe 1]
 |_=>[σ.fe 15,σ.fe 0,σ.fe 5,σ.fe 8,σ.fe 1]
noncomputable def Ue:List String:=["list.extend.loop","type.__call__","claim.caller"]
theorem Ug(y:fz)(N:Nat)(body:List Stmt)(env:Env)(hf:env.frame=some N)(e:ZV):Lk ((.func body env,⟨934,12,934,31⟩)::Ap y.σ y.d y.la y.X) (p9 e env) (jN true (env::rJ y.σ y.d) (fa ⟨934,12,934,31⟩ Ue) e env):=by
 refine ui hf rfl ?_ ?_ ?_ e
 .obtain⟨_,_,d,hd⟩:=y
  match d,hd with
  |0,_=>rfl
  |1,_=>rfl
  |2,_=>rfl
 .obtain⟨_,_,d,hd⟩:=y
  match d,hd with
  |0,_=>rfl
  |1,_=>rfl
  |2,_=>rfl
 .obtain⟨_,_,d,hd⟩:=y
  match d,hd with
  |0,_=>rfl
  |1,_=>rfl
  |2,_=>rfl
noncomputable def XZ{prog:Program}{w:ZW}{kt:KT}{aJ:ZC}{a b:ZE}(h:Lk aJ a b):bD prog w kt:=.lk aJ (fun c=>(a,b)) (fun c=>h)
def Uh(y:fz):List (Nat×bD pg y.w (kp y.w)):=[(5,.ld 9),(0,.up 9),(6,.ld 9),(1,.ld 0),(3,.ld 0),(3,.ld 0),(4,.ld 0),(0,.ld 1),(9,.ld 10),(0,.up 10),(6,.ld 10),(2,.ld 0),(4,.ld 0),(3,.ld 0),(0,.ld 0),(1,.ld 1),(3,.ld 4),(0,.ld 4),(1,.ld 4),(1,.ld 4),(1,.ld 4),(7,.ld 10),(1,.ld 0),(3,.ld 0),(3,.ld 0),(4,.ld 0),(0,.ld 1),(9,.ld 11),(0,.up 11),(9,.ld 11),(0,.up 11),(7,.ld 11),(0,.up 11),(6,.ld 11),(2,.ld 0),(4,.ld 0),(19,.ld 12),(0,.up 12),(6,.ld 12),(2,.ld 0),(4,.ld 0),(3,.ld 0),(0,.ld 0),(1,.ld 1),(15,.ld 11),(2,.ld 0),(4,.ld 0),(3,.ld 0),(0,.ld 0),(1,.ld 1),(3,.ld 2),(7,.ld 2),(7,.ld 2),(4,.ld 2),(0,.ld 3)]
def Ui(y:fz):List (Nat×bD pg y.w (kp y.w)):=[(5,.ld 11),(0,.up 11),(3,.ld 11),(8,.ld 11),(2,.ld 0),(4,.ld 0),(3,.ld 0),(0,.ld 0),(1,.ld 1),(10,.ld 11),(2,.ld 0),(4,.ld 0),(3,.ld 0),(0,.ld 0),(1,.ld 1),(6,.ld 11),(2,.ld 0),(4,.ld 0),(2,.ld 0),(1,.ld 0),(3,.ld 0),(3,.ld 1),(0,.up 1),(0,.ld 1),(5,.ld 11),(2,.ld 0),(4,.ld 0),(3,.ld 0),(0,.ld 0),(1,.ld 1),(6,.ld 11),(0,.up 11),(4,.ld 11),(2,.ld 0),(4,.ld 0),(2,.ld 0),(1,.ld 0),(3,.ld 0),(3,.ld 1),(0,.up 1),(0,.ld 1),(3,.ld 11),(2,.ld 0),(4,.ld 0),(3,.ld 0),(0,.ld 0),(1,.ld 1),(4,.ld 11),(2,.ld 11),(11,.ld 11),(0,.up 11),(3,.ld 11),(2,.ld 0),(4,.ld 0),(3,.ld 0),(0,.ld 0),(1,.ld 1),(10,.ld 11),(6,.ld 10),(0,.up 10),(3,.ld 10),(2,.ld 0),(4,.ld 0),(3,.ld 0),(0,.ld 0),(1,.ld 1),(6,.ld 10),(1,.ld 10),(2,.ld 0),(4,.ld 0),(3,.ld 0),(0,.ld 0),(1,.ld 1),(9,.ld 10),(2,.ld 0),(4,.ld 0),(3,.ld 0),(0,.ld 0),(1,.ld 1),(3,.ld 5),(0,.ld 5),(1,.ld 5),(1,.ld 5),(1,.ld 5),(7,.ld 10),(2,.ld 0),(4,.ld 0),(3,.ld 0),(0,.ld 0),(1,.ld 1),(9,.ld 9),(0,.up 9),(3,.ld 9),(1,.ld 9),(2,.ld 0),(4,.ld 0),(3,.ld 0),(0,.ld 0),(1,.ld 1),(20,.ld 14),(0,.ld 14),(1,.ld 14),(0,.ld 14),(3,.ld 14),(0,.ld 14),(0,.up 14),(2,.ld 14),(0,.ld 14),(0,.up 14),(0,.ld 14),(0,.up 14),(2,.ld 14),(0,.ld 14),(4,.ld 14)]
def Uj(y:fz):List (Nat×bD pg y.w (kp y.w)):=[(0,.ld 14),(0,.ld 9),(0,.up 9),(0,.ld 6),(0,.up 6),(0,.ld 7),(0,.up 7),(0,.ld 8),(1,.ld 14),(0,.up 14),(0,.ld 14),(0,.ld 16),(0,.up 16),(0,.fin)]
def Vu(y:fz)(N t:Nat):List (Nat×bD pg y.w (kp y.w)):=(Uh y).append ((4,.ai (xZ y.w (y.rt N t).σ y.d y.hd y.la y.X (gI y.w (N+2)) 2 3))::(Ui y).append
 ((1,XZ (Ug y N (aH (pv y.w.params)) (eB 900 (pv y.w.params) N []) rfl (.ref (N+8))))::Uj y))
def RI(y:fz)(u:wg)(fr:ZL)(pos:Pos)(tx Z:Tok)(p:Nat)(N t:Nat)(G:ZG):ay:=cU ⟨pg,y.w,kp y.w,Ap y.σ y.d y.la y.X,none⟩ (Vu y N t) fr (.call (.ref 900) ⟨[.ref y.X],[]⟩) pos (y.led .none (ar [] tx) Z p++u.led) N t G
noncomputable def w4(N:Nat):Obj:=⟨.type "StopIteration",none,.fields #[.ref (N+9),.ref (N+10),.none,.none,.bool false,.none],#[]⟩
def fz.postE(y:fz)(u:wg)(tt Z:Tok)(p:Nat):List Obj:=[bu y.XD,aE y.w.params y.k y.S y.Q1 y.Q2 .none (ar [] tt),a5 y.SD,az y.w.params y.b1 y.b2 y.b3 y.tn y.tb Z y.buf p,kB,kB,we u.e1 u.n1 (.ref 914) (.ref u.fR) (.ref 915),we u.e2 u.n2 (.ref 955) (.ref u.fB) (.ref 956),nT u.e3 u.n3 u.a0 u.a1 u.a2 u.b u.rest]
theorem X0(w:ZW)(σ:Sp)(d:Nat)(Y:d<3)(O X W S V T U:Addr)(k:ZT)(K L M Q P:Tok)(buf:Str)(u:wg)(fr:ZL)(pos:Pos)(tx R:Tok)(p:Nat)(N t:Nat)(G:ZG):(gg (RI (fz.in ⟨w,σ,d,Y,O,X,W,S,V,T,U,k,K,L,M,Q,P,buf⟩ u) u fr pos tx R p N t G),dx (List.range 9++[14]) (RI (fz.in ⟨w,σ,d,Y,O,X,W,S,V,T,U,k,K,L,M,Q,P,buf⟩ u) u fr pos tx R p N t G))=
  (gh (RI (fz.in ⟨w,σ,d,Y,O,X,W,S,V,T,U,k,K,L,M,Q,P,buf⟩ u) u fr pos tx R p N t G),some (.error (.ref (N+8)),
   ([X,W,S,V,T,U,u.fS,u.fR,u.fB].zip (fz.postE ⟨w,σ,d,Y,O,X,W,S,V,T,U,k,K,L,M,Q,P,buf⟩ u (t+45) R p)++[(N+8,w4 N)]).map some,N+11,t+62,G,[],[buf.length<=(p:Int).toNat/\buf.length<=16777216])):=by
 obtain⟨F,E,D,A,H,B,I,C,J,z,a1,a2,b,rest⟩:=u
 match d,Y with
 |0,_=>rcases a4 w with ⟨Z,rfl⟩|⟨Z,rfl⟩<;>kernel_rfl
 |1,_=>rcases a4 w with ⟨Z,rfl⟩|⟨Z,rfl⟩<;>kernel_rfl
 |2,_=>rcases a4 w with ⟨Z,rfl⟩|⟨Z,rfl⟩<;>kernel_rfl
set_option tactic.hygienic false
noncomputable def JQ(σ:Sp)(d:Nat)(X:Addr):ZC:=(.builtin "type.__call__" ⟨[.type "list",.ref X],[]⟩,σ.p 14)::(.func (σ.fb 15) (σ.fe 15),σ.p 15)::uE σ d
def GI(y:fz)(u:wg)(Y:ZN)(tx Z:Tok)(p:Nat):aX pg y.w (kp y.w)where
 A:=fun a a a a a=>⟨.call (.ref 900) ⟨[.ref y.X],[]⟩,Y,y.led .none (ar [] tx) Z p++u.led,.exact (Ap (y.in u).σ y.d y.la y.X),[y.buf.length<=p/\y.buf.length<=16777216],[],[]⟩
 B:=fun a a N t a a=>⟨.error (.ref (N+8)),y.postE u (t+45) Z p,[(N+8,w4 N)],N+11,t+62,0,[]⟩
 ok:=fun a c T s B pos e hp W Q hn U hB a R=>by
  have e:c=.call (.ref 900) ⟨[.ref y.X],[]⟩:=e
  subst e;have F:y.buf.length<=p/\y.buf.length<=16777216:=hp _ (.head _)
  have z:=jw (V:=⟨pg,y.w,kp y.w,Ap (y.in u).σ y.d y.la y.X,none⟩) (hs:=Vu (y.in u) s.heap.objs.size s.toks) (pos:=pos) (nx:=[14]) (new:=[(s.heap.objs.size+8,w4 s.heap.objs.size)]) (ng:=0) R hB W Q hn U
   (fun fr=>X0 y.w y.σ y.d y.hd y.la y.X y.XD y.S y.SD y.Q1 y.Q2 y.k y.b1 y.b2 y.b3 y.tn y.tb y.buf u fr pos tx Z p _ _ _)
   (dZ F) rfl rfl (fun x hx=>by rcases bQ.mp hx with rfl;show 9<=14;exact dc rfl) (by simp)
  refine z.mono ?_
  rintro r O ⟨rfl,P⟩
  exact⟨[],rfl,P⟩
noncomputable def wi(Z X:Addr):Code:=.builtin "list.extend.loop" ⟨[.ref Z,.ref X,.none],[]⟩
section
set_option tactic.hygienic false
noncomputable def RJ(σ:Sp)(pos:Pos):Sp:={σ with p:=fun n=>match n with|13=>pos|n=>σ.p n}
def Vv(w:ZW)(σ:Sp)(d:Nat)(N:Addr):ZC:=(.builtin "type.__call__" ⟨[.type "list",.ref (N+2)],[]⟩,⟨943,11,943,20⟩)::(.func (aH (pw w.params)) (eB 915 (pw w.params) N []),⟨943,11,943,20⟩)::uE σ d
section
variable(w:ZW)(σ:Sp)(d Z:Nat)(x:ZN)(tx:Tok)(Y:ZY)(ep:Nat)(O X U S T Q R:Addr)(k:ZT)(H I J L K:Tok)(buf:Str)(B F:Tok)(p:Nat)(tok:ZN)(rest:Option ZN)(q:Bool)(u:wg)(E:ZL)(M:Pos)(P D:Nat)(C:ZG)(fr:ZL)(pos:Pos)(N t:Nat)(G:ZG)(V:d<3)
def Dz:ZH w:=jn [dz 0x5772577d7d57a129b5130cb5bca02cb51a2c28432cb52eb52e4e6741414e9fdf37b52e364d4a4a369eb52eb52edf2cb52e010f0419020e1f9d030b191f0e37030b191f0e2cdf2c2cb51a2cb51a2eb51a2c2c285acf717b9c4545307c2b27515d357c303f307b3322395151207171cf4fcf4fcf31705c9b9a33705c995033503350702098754c6b253225322597967a28232823f5740295050d290709f629,[(0,.eq (fun a=>(PySem.W.Fast.tw8938917530802602619 (.ref (N+13)) (.ref (N+2)) .none,zY.1 false (.ref (N+13)) (.ref (N+2)) .none)) (fun a=>uA (fun e=>absurd (Nat.add_left_cancel e) (by decide)) _))],dz 0x577257577268191902a4a3a219cc,[(0,.stop)]]
def DA:ay:=aq (V0 w (uE σ d)) (Dz w N) fr (.call (.ref 915) ⟨[.str ⟨⟨Z::x⟩⟩ tx],[]⟩) pos [] [] N t G
abbrev OI:dK:=⟨(DA w σ d Z x tx fr pos N t G),(wi (N+13) (N+2)),⟨[],[(N,fx [dE w.params [115] t (ar (Z::x) tx),dE w.params [99,111,109,109,101,110,116,115] (t+1) (.bool false),dE w.params [112,111,115,105,120] (t+2) (.bool true),dE w.params [108,101,120] (t+93) (.ref (N+2))] 4),((N+1),⟨(.type "dict"),none,(.dict ⟨[dE w.params [105,110,115,116,114,101,97,109] (t+36) (.ref (N+8)),dE w.params [105,110,102,105,108,101] (t+38) .none,dE w.params [112,111,115,105,120] (t+40) (.bool true),dE w.params [101,111,102] (t+42) .none,dE w.params [99,111,109,109,101,110,116,101,114,115] (t+45) (ar [] (t+96)),dE w.params [119,111,114,100,99,104,97,114,115] (t+48) (ar [97,98,99,100,102,101,103,104,105,106,107,108,109,110,111,112,113,114,115,116,117,118,119,120,121,122,65,66,67,68,69,70,71,72,73,74,75,76,77,78,79,80,81,82,83,84,85,86,87,88,89,90,48,49,50,51,52,53,54,55,56,57,95,223,224,225,226,227,228,229,230,231,232,233,234,235,236,237,238,239,240,241,242,243,244,245,246,248,249,250,251,252,253,254,255,192,193,194,195,196,197,198,199,200,201,202,203,204,205,206,207,208,209,210,211,212,213,214,216,217,218,219,220,221,222] (t+52)),dE w.params [119,104,105,116,101,115,112,97,99,101] (t+57) (ar [32,9,13,10] (t+55)),dE w.params [119,104,105,116,101,115,112,97,99,101,95,115,112,108,105,116] (t+59) (.bool true),dE w.params [113,117,111,116,101,115] (t+62) (ar [39,34] (t+60)),dE w.params [101,115,99,97,112,101] (t+65) (ar [92] (t+63)),dE w.params [101,115,99,97,112,101,100,113,117,111,116,101,115] (t+68) (ar [34] (t+66)),dE w.params [115,116,97,116,101] (t+71) (ar [32] (t+69)),dE w.params [112,117,115,104,98,97,99,107] (t+73) (.ref (N+11)),dE w.params [108,105,110,101,110,111] (t+76) (.int 1 (t+74)),dE w.params [100,101,98,117,103] (t+79) (.int 0 (t+77)),dE w.params [116,111,107,101,110] (t+82) (ar [] (t+80)),dE w.params [102,105,108,101,115,116,97,99,107] (t+84) (.ref (N+12)),dE w.params [115,111,117,114,99,101] (t+86) .none,dE w.params [95,112,117,110,99,116,117,97,116,105,111,110,95,99,104,97,114,115] (t+90) (ar [] (t+87))]⟩ 19),⟨[]⟩⟩),((N+2),⟨(.ref 903),(some (N+1)),.plain,⟨[]⟩⟩),((N+7),⟨(.type "dict"),none,(.dict ⟨[dE w.params [95,83,116,114,105,110,103,73,79,95,95,110,101,119,108,105,110,101] (t+19) (ar [10] 2540),dE w.params [95,83,116,114,105,110,103,73,79,95,95,98,117,102] (t+22) (ar (Z::x) tx),dE w.params [95,83,116,114,105,110,103,73,79,95,95,112,111,115] (t+25) (.int 0 (t+23))]⟩ 3),⟨[]⟩⟩),((N+8),⟨(.ref 768),(some (N+7)),.plain,⟨[]⟩⟩),((N+11),⟨(.type "collections.deque"),none,(.fields ⟨[.none,(.int 0 0)]⟩),⟨[]⟩⟩),((N+12),⟨(.type "collections.deque"),none,(.fields ⟨[.none,(.int 0 0)]⟩),⟨[]⟩⟩),((N+13),⟨(.type "list"),none,(.seq ⟨[]⟩ 2),⟨[]⟩⟩)],[]⟩,(N+15),(t+100)⟩
include V in
theorem OJ:(OI w σ d Z x tx fr pos N t G).ok (V0 w (uE σ d)) (Dz w N) pos (Vv w σ d N) 0 [0,1,2,7,8,11,12,13] G:=by apply rR (cY V);apply aC w;kernel_rfl
def DB:ZH w:=jn [[(2,.fin)]]
abbrev OK:dp:=⟨(bo (V0 w (uE σ d)) (DB w) fr (DA w σ d Z x tx E M P D C) (.ok (.ret .none)) [((P+13),ae Y ep)] [] N t G),(.ok (.ret (.ref (P+13)))),⟨[((P+13),ae Y ep)],[],[]⟩,N,t⟩
include V in
theorem OL:(OK w σ d Z x tx Y ep E M P D C fr N t G).ok (DB w) ⟨0,0,0,0⟩ 1 [] G:=by apply rR (cY V);apply aC w;kernel_rfl
def x4:ZH w:=jn [dz 0x1,[(4,.ai (OH ⟨w,RJ σ pos,d,V,O,X,U,S,T,Q,R,k,H,I,J,L,K,buf⟩ [1,2,3,4,5,6] B tx F p (tok,rest,q)))],dz 0x150715,[(0,.tail)]]
abbrev GJ:c7:=⟨(aq (V0 w (JQ σ d X)) (x4 w σ d tx O X U S T Q R k H I J L K buf B F p tok rest q pos V) fr (wi O X) pos [(O,ae Y ep),(X,bu U),(U,aE w.params k S Q R (ar [32] B) (ar [] tx)),(S,a5 T),(T,az w.params H I J L K F buf p),(Q,kB),(R,kB)] [] N t G),(wi O X),pos,⟨[(O,ae (Y++[.str ⟨⟨tok⟩⟩ ((Fr fr 0).getD 2 0)]) (ep+1)),(X,bu U),(U,aE w.params k S Q R (JP (tok,rest,q) ((Fr fr 0).getD 3 0)) (ar [] ((Fr fr 0).getD 4 0))),(S,a5 T),(T,az w.params H I J L K ((Fr fr 0).getD 5 0) buf (behind buf rest)),(Q,kB),(R,kB)],[],[fz.wc ⟨w,RJ σ pos,d,V,O,X,U,S,T,Q,R,k,H,I,J,L,K,buf⟩ p (tok,rest,q)]⟩,(Nf fr 0),(Tf fr 0)⟩
include V in
theorem x7(hi:Y.length<7):(GJ w σ d tx Y ep O X U S T Q R k H I J L K buf B F p tok rest q fr pos N t G V).ok (x4 w σ d tx O X U S T Q R k H I J L K buf B F p tok rest q pos V) pos 7 [] G:=by (match d,V with|0,_=>(apply c5 (cY hi);apply aC w;kernel_rfl)|1,_=>(apply c5 (cY hi);apply aC w;kernel_rfl)|2,_=>(apply c5 (cY hi);apply aC w;kernel_rfl))
def x8:ZH w:=jn [dz 0x1,[(4,.ai (GI ⟨w,RJ σ pos,d,V,O,X,U,S,T,Q,R,k,H,I,J,L,K,buf⟩ u [1,2,3,4,5,6,7,8,9] tx F p))],dz 0x1b,[(0,.fin)]]
abbrev GK:dp:=⟨(aq (V0 w (JQ (σ.qT w.params d u.fS u.fR u.fB) d X)) (x8 w σ d tx O X U S T Q R k H I J L K buf F p u pos V) fr (wi O X) pos [(O,ae Y ep),(X,bu U),(U,aE w.params k S Q R .none (ar [] tx)),(S,a5 T),(T,az w.params H I J L K F buf p),(Q,kB),(R,kB),(u.fS,Aq u.e1 u.n1),(u.fR,Aq u.e2 u.n2),(u.fB,nT u.e3 u.n3 u.a0 u.a1 u.a2 u.b u.rest)] [] N t G),(.ok (.ret .none)),⟨[(O,ae Y ep),(X,bu U),(U,aE w.params k S Q R .none (ar [] (t+45))),(S,a5 T),(T,az w.params H I J L K F buf p),(Q,kB),(R,kB),(u.fS,we u.e1 u.n1 (.ref 914) (.ref u.fR) (.ref 915)),(u.fR,we u.e2 u.n2 (.ref 955) (.ref u.fB) (.ref 956)),(u.fB,nT u.e3 u.n3 u.a0 u.a1 u.a2 u.b u.rest)],[],[buf.length<=p/\buf.length<=16777216]⟩,(N+11),(t+62)⟩
include V in
theorem GL:(GK w σ d tx Y ep O X U S T Q R k H I J L K buf F p u fr pos N t G V).ok (x8 w σ d tx O X U S T Q R k H I J L K buf F p u pos V) pos 10 [] G:=by (match d,V with|0,_=>(apply aC w;kernel_rfl)|1,_=>(apply aC w;kernel_rfl)|2,_=>(apply aC w;kernel_rfl))
end
end
section
set_option tactic.hygienic true
inductive gD(buf:Str):Nat->ZL->Prop
 |last {p:Nat} {tok:ZN} {q:Bool} (h:nQ (buf.cps.toList.drop p)=some (tok,none,q)) (hn:tok≠[]):gD buf p [tok]
 |more {p:Nat} {tok rest:ZN} {q:Bool} {ws:ZL} (h:nQ (buf.cps.toList.drop p)=some (tok,some rest,q)) (hn:tok≠[]) (k:gD buf (behind buf (some rest)) ws):gD buf p (tok::ws)
section
variable(w:ZW)(σ:Sp)(d:Nat)(N:d<3)(W X V S U R T:Addr)(k:ZT)(J L M P O:Tok)(buf:Str)(u:wg)(bg:List aQ)(Y:2<=buf.length)(Z:buf.length<=16777215)
include N Y Z in
theorem zk[ZI]{Q:ZR}(E:List Bk)(all:ZL)(K:∀s' (JR:List Wd) Jz,JR.map (·.1)=all->Hq w s' ([.o W (ae (JR.map cj) Jz),.o u.fS (we u.e1 u.n1 (.ref 914) (.ref u.fR) (.ref 915)),.o u.fR (we u.e2 u.n2 (.ref 955) (.ref u.fB) (.ref 956)),.o u.fB (nT u.e3 u.n3 u.a0 u.a1 u.a2 u.b u.rest)]++E) bg->Q (.ok (.ret .none)) s'){p:Nat}{ws:ZL}(h:gD buf p ws):∀(gS:List Wd),gS.length+ws.length<=7->gS.map (·.1)++ws=all->∀(B:aS)(st:ZS)(pos:Pos)(ts tx tp:Tok)(ep:Nat),Bt (JQ (σ.qT w.params d u.fS u.fR u.fB) d X) none B->
  Hq w st ([.o W (ae (gS.map cj) ep),.o X (bu V),.o V (aE w.params k S R T (ar [32] ts) (ar [] tx)),.o S (a5 U),.o U (az w.params J L M P O tp buf p),.o R kB,.o T kB,.o u.fS (Aq u.e1 u.n1),.o u.fR (Aq u.e2 u.n2),.o u.fB (nT u.e3 u.n3 u.a0 u.a1 u.a2 u.b u.rest)]++E) bg->
  Rn w B st (wi W X) pos Q:=by
 have e:∀(gS:List Wd)(tok:ZN)(t:Tok),(gS++[(tok,t)]).map cj=gS.map cj++[.str ⟨⟨tok⟩⟩ t]:=fun gS tok t=>by simp[cj]
 induction h with
 |last h hn=>
  rename_i p tok q;intro gS hl ha B st pos ts tx tp ep b H;refine kT [0,1,2,3,4,5,6] b H (fun fr=>x7 w (σ.qT w.params d u.fS u.fR u.fB) d tx (gS.map cj) ep W X V S U R T k J L M P O buf ts tp p tok none q fr pos (zN st) st.toks st.gens N (by rw[aB];exact hl):) (fun _=>aa ⟨h,Y,Z,hn⟩ aj) fun fr s' H'=>?_
  exact kF [0,1,2,3,4,5,6,7,8,9] b H' (fun iQ=>GL w σ d ((Fr fr 0).getD 4 0) (gS.map cj++[.str ⟨⟨tok⟩⟩ ((Fr fr 0).getD 2 0)]) (ep+1) W X V S U R T k J L M P O buf ((Fr fr 0).getD 5 0) (behind buf none) u iQ pos (zN s') s'.toks s'.gens N:) (fun _=>aa ⟨aM _,by lia⟩ aj) fun iQ s2 H3=>
   K s2 (gS++[(tok,(Fr fr 0).getD 2 0)]) (ep+1) (by rw[aL];exact ha) (H3.p [0,7,8,9] 10 (by rw[e];kernel_rfl))
 |more h hn k2 ih=>
  rename_i p tok rest q ws;intro gS hl ha B st pos ts tx tp ep b H;rw[cX]at hl;refine kT [0,1,2,3,4,5,6] b H (fun fr=>x7 w (σ.qT w.params d u.fS u.fR u.fB) d tx (gS.map cj) ep W X V S U R T k J L M P O buf ts tp p tok (some rest) q fr pos (zN st) st.toks st.gens N (by rw[aB];lia):) (fun _=>aa ⟨h,Y,Z,hn⟩ aj) fun fr s' H'=>?_
  exact ih (gS++[(tok,(Fr fr 0).getD 2 0)]) (by rw[cJ];exact au (dX (by simp+arith)) hl) (by rw[List.map_append,List.append_assoc];exact ha) B s' pos ((Fr fr 0).getD 3 0) ((Fr fr 0).getD 4 0) ((Fr fr 0).getD 5 0) (ep+1) b (H'.to (by rw[e];kernel_rfl))
end
noncomputable def X1(t:Nat):Nat->Tok:=KK [0,0,0,0,0,0,t+36,t+38,t+40,t+42,t+45,t+96,t+48,t+52,t+57,t+55,t+59,t+62,t+60,t+65,t+63,t+68,t+66,t+71,0,t+73,t+76,t+74,t+79,t+77,t+82,t+84,t+86,t+90,t+87]
noncomputable def X2(P:Params)(x:ZN)(tx t N:Nat):Array DictEntry:=⟨[dE P [115] t (ar x tx),dE P [99,111,109,109,101,110,116,115] (t+1) (.bool false),dE P [112,111,115,105,120] (t+2) (.bool true),dE P [108,101,120] (t+93) (.ref (N+2))]⟩
def spS(P:Params)(σ:Sp):Sp:={σ with
 p:=fun n=>match n with|14=>⟨943,11,943,20⟩|15=>⟨943,11,943,20⟩|n=>σ.p n
 fb:=fun n=>match n with|15=>aH (pw P)|n=>σ.fb n}
theorem GN(w:ZW)(σ:Sp)(d:Nat)(X:d<3)(Z Y N:Addr):Vv w (σ.qT w.params d 0 Z Y) d N=JQ ((spS w.params σ).qT w.params d N Z Y) d (N+2):=by
 match d,X with
 |0,_=>rfl
 |1,_=>rfl
 |2,_=>rfl
theorem wj[ZI]{Q:ZR}(w:ZW)(σ:Sp)(d:Nat)(U:d<3)(Z:Nat)(x:ZN)(tx:Tok)(ws:ZL)(h:gD ⟨⟨Z::x⟩⟩ 0 ws)(G:ws.length<=7)(R:1<=x.length)(I:x.length<=10000000)(W X:Addr)(M:Array DictEntry)(S:Nat)(N:Array DictEntry)(T:Nat)(L a1 a2:Option ZV)(bv:ZV)(rest:List (Option ZV))(E:List Bk)(bg:List aQ)(B:aS)(st:ZS)(pos:Pos)(b:Bt (uE (σ.qT w.params d 0 W X) d) none B)(H:Hq w st ([.o W (Aq M S),.o X (nT N T L a1 a2 bv rest)]++E) bg)(K:∀J A (Y:List Wd) ep,Y.map (·.1)=ws->Hq w J ([.o A (ae (Y.map cj) ep),.o W (we M S (.ref 955) (.ref X) (.ref 956)),.o X (nT N T L a1 a2 bv rest)]++E) bg->Q (.ok (.ret (.ref A))) J):Rn w B st (.call (.ref 915) ⟨[.str ⟨⟨Z::x⟩⟩ tx],[]⟩) pos Q:=by
 have O:2<=Str.length ⟨⟨Z::x⟩⟩:=by rw[dM,cX];exact Nat.le_add_of_sub_le R
 have P:Str.length ⟨⟨Z::x⟩⟩<=16777215:=by rw[dM,cX];lia
 refine kS [] b H (fun fr=>OJ w (σ.qT w.params d 0 W X) d Z x tx fr pos (zN st) st.toks st.gens U:) (fun a=>aj) fun fr s1 H1 y D=>?_
 refine zk w (spS w.params σ) d U (st.heap.objs.size+13) (st.heap.objs.size+2) (st.heap.objs.size+1) (st.heap.objs.size+8) (st.heap.objs.size+7) (st.heap.objs.size+11) (st.heap.objs.size+12) (X1 st.toks) (st.toks+19) (st.toks+22) (st.toks+25) 2540 tx ⟨⟨Z::x⟩⟩
  ⟨st.heap.objs.size,W,X,X2 w.params (Z::x) tx st.toks st.heap.objs.size,4,M,S,N,T,L,a1,a2,bv,rest⟩ bg O P E ws (fun s2 Y ep F z=>?_) h [] (by rw[List.length_nil,fM];exact G) rfl y s1 _ (st.toks+69) (st.toks+80) (st.toks+23) 2 (by rw[←GN w σ d U];exact D) (H1.p [7,2,1,4,3,5,6,0,8,9] 10)
 exact pE [0] b z (fun V=>OL w (σ.qT w.params d 0 W X) d Z x tx (Y.map cj) ep fr pos (zN st) st.toks st.gens V (zN s2) s2.toks s2.gens U:) (fun a=>aj) fun V s3 C=>K s3 _ Y ep F (C.p [0,2,3] 4)
end
end
section
open PySem.F
section
set_option tactic.hygienic false
section
variable{prog:Program}{w:ZW}{kt:KT}
theorem nU{s:ZS}{a:Addr}{xs:ZY}{ep:Nat}(h:s.heap.get? a=some (ae xs ep)):s.heap.IsList a ⟨xs⟩:=⟨_,h,rfl,ep,rfl⟩
def eN(k:Int)(xs:ZY)(x:ZV):Prop:=0<=k/\k<2^63/\xs[k.toNat]?=some x
noncomputable def d0(ix:Nat)(x:ZV):aX prog w kt:=kR ix (fun c a=>.builtin "list.__getitem__" ⟨[.ref (af (v0 c)),.int (ak (v1 c)) (ao (v1 c))],[]⟩) du (fun c=>af (v0 c)) (fun c o=>[eN (ak (v1 c)) (ah o) x]) (fun a a a=>x) 0
 fun c o s B pos hp X hB a=>by
  obtain⟨h0,Z,hx⟩:=hp _ (.head _);generalize V:ak (v1 c)=k at*;generalize ao (v1 c)=t;generalize af (v0 c)=l at*;have g:Meets (Builtin.«list.__getitem__» ⟨[.ref l,.int k t],[]⟩) (fun a R s=>s.heap.get? l=some (du o)/\R (.ok (.ret x)) s):=by
   refine .of_wp fun prog w A R s h=>?_
   obtain⟨W,h2⟩:=h;show wpAny _ _ (Builtin.List.listSubscript? (.int k t)>>=_) _ _ s
   refine wpAny_bind (wpAny_listSubscript_int (fitsIndex_of h0 Z) ?_);clear Z;obtain⟨j,rfl⟩:=Int.eq_ofNat_of_zero_le h0;have Y:(⟨ah o⟩:Array ZV)[j]?=some x:=by simpa using hx
   show wpAny _ _ ((seqItemAt l j>>=fun r=>pure (r.map (j,·)))>>=_) _ _ s
   refine wpAny_bind (wpAny_bind (wpAny_seqItemAt W rfl (wpAny_pure ?_)));rw[Y]
   first
    |exact wpAny_bind (wpAny_pure (wpAny_pure ⟨x,rfl,h2⟩))
    |exact wpAny_pure ⟨x,rfl,h2⟩
    |exact wpAny_bind (wpAny_pure ⟨x,rfl,h2⟩)
  exact bL hB (by decide+kernel) PySem.entry_list_getitem g ⟨X,rfl,rfl⟩
noncomputable def tC(ix:Nat):aX prog w kt:=kR ix (fun c a=>.builtin "len" ⟨[.ref (af (v0 c))],[]⟩) du (fun c=>af (v0 c)) (fun c o=>[(ah o).length<=16777216]) (fun a o t=>.int (ah o).length (t+1)) 2
 fun c o s B pos hp Y hB a=>by
  have X:(ah o).length<=16777216:=hp _ (.head _)
  refine bL hB (by decide+kernel) entry_len (Meets.of_wp (S:=fun a R s=>s.heap.get? (af (v0 c))=some (du o)/\R (.ok (.ret (.int (ah o).length (s.toks+1)))) {s with toks:=s.toks+1+1}) fun prog w A R s h=>?_) ⟨Y,rfl,rfl⟩
  exact wpAny_mono (wpAny_len_body_list (Q:=fun r Z=>R (.ok (.ret r)) Z) (nU h.1) (by simp;lia) h.2) (fun a a ⟨r,e,q⟩=>⟨r,e,q⟩) fun a a e=>e
noncomputable def Fg(o:Obj):Obj:=⟨.type "range",none,.fields #[.int (ak (aF o 0)) (ao (aF o 0)),.int (ak (aF o 1)) (ao (aF o 1)),.int (ak (aF o 2)) (ao (aF o 2))],#[]⟩
def Fh(o:Obj)(n:Nat):Prop:=ak (aF o 0)=0/\ak (aF o 1)=n/\ak (aF o 2)=1/\n<=16777216
theorem rK(n:Nat):Builtin.Range.rangeSize 0 n 1=n:=by
 unfold Builtin.Range.rangeSize;rw[if_pos (by decide)]
 by_cases h:n=0
 .subst h;rfl
 .rw [if_pos (by lia),Int.ediv_one];exact Int.sub_add_cancel _ _
theorem iZ(n:Nat)(h:n<=16777216):Builtin.Range.rangeFitsLong n=true:=by
 unfold Builtin.Range.rangeFitsLong;simp only[Bool.and_eq_true,decide_eq_true_eq]
 lia
noncomputable def ya(ix:Nat)(n:Nat):aX prog w kt where
 A:=fun a c a a T=>⟨.builtin "range.__iter__" ⟨[.ref (af (v0 c))],[]⟩,[ix],[(af (v0 c),Fg (ab T ix))],.fq,[Fh (ab T ix) n],[],[]⟩
 B:=fun a c N t T a=>⟨.ok (.ret (.ref N)),[Fg (ab T ix)],[(N,b6 0 n)],N+1,t+0,0,[]⟩
 ok:=fun a c T s B pos e hp M S a a hB a O=>by
  obtain⟨h0,Z,h2,hn⟩:=hp _ (.head _);have V:s.heap.get? (af (v0 c))=some (Fg (ab T ix)):=S _ (.head _)
  have e:c=.builtin "range.__iter__" ⟨[.ref (af (v0 c))],[]⟩:=e
  have f0:Builtin.Range.rangeFitsLong (ak (aF (ab T ix) 0))=true:=by rw[h0];decide
  have f1:Builtin.Range.rangeFitsLong (ak (aF (ab T ix) 1))=true:=by rw[Z];exact iZ n hn
  have f2:Builtin.Range.rangeFitsLong (ak (aF (ab T ix) 2))=true:=by rw[h2];decide
  have U:Builtin.Range.rangeSize (ak (aF (ab T ix) 0)) (ak (aF (ab T ix) 1)) (ak (aF (ab T ix) 2))=n:=by rw[h0,Z,h2];exact rK n
  have ok:(Builtin.Range.rangeFitsLong (ak (aF (ab T ix) 0))&&Builtin.Range.rangeFitsLong (ak (aF (ab T ix) 1))&&Builtin.Range.rangeFitsLong (ak (aF (ab T ix) 2))&&Builtin.Range.rangeFitsLong (Builtin.Range.rangeSize (ak (aF (ab T ix) 0)) (ak (aF (ab T ix) 1)) (ak (aF (ab T ix) 2)))&&(Builtin.Range.rangeSize (ak (aF (ab T ix) 0)) (ak (aF (ab T ix) 1)) (ak (aF (ab T ix) 2))==0||if ak (aF (ab T ix) 2)>0 then Builtin.Range.rangeFitsLong (ak (aF (ab T ix) 1)+(ak (aF (ab T ix) 2)-1))else Builtin.Range.rangeFitsLong (ak (aF (ab T ix) 1)+(ak (aF (ab T ix) 2)+1))))=true:=by
   rw[f0,f1,f2,U,Z,h2,iZ n hn];simp[iZ n hn]
  refine bE e hB (by decide+kernel) PySem.F.entry_range_iter (PySem.AutoRange.range___iter___range_1 (af (v0 c)) (ak (aF (ab T ix) 0)) (ak (aF (ab T ix) 1)) (ak (aF (ab T ix) 2)) (ao (aF (ab T ix) 0)) (ao (aF (ab T ix) 1)) (ao (aF (ab T ix) 2)) (by rw[ok];decide)) (R:=fun W X=>W=.ok (.ret (.ref s.heap.objs.size))/\X={s with heap:=s.heap.push (b6 0 n),toks:=s.toks+0}) ⟨V,by
   rw[if_pos ok,U,h0,h2];exact⟨rfl,rfl⟩⟩ fun W X ⟨Z,h2⟩=>⟨[],Z,?_⟩
  subst h2;have P:=iX s (b6 0 n) rfl 0 (.ok .next)
  refine⟨⟨fun b x Q a=>P.ext.frame b x Q (fun q=>nomatch q),P.ext.size,P.ext.toks,P.ext.drawn,P.ext.os⟩,rfl,?_,P.new,P.free,P.nodup,P.size,P.toks,P.gens,P.iF,P.dU,P.d6,P.eo⟩
  intro p Y;rcases bQ.mp Y with rfl
  exact Heap.get?_push_of_some _ V
end
end
end
section
open PySem.F PySem.Builtin PySem.Builtin.Str
section
set_option tactic.hygienic false
def ec(w:ZW)(F:Addr):Env:=eB 956 (eH w.params) F []
def DC(w:ZW):Stmt:=(aH (eH w.params)).getD 4 default
def DE(w:ZW)(F Z:Addr):Code:=f6 (DC w) Z (ec w F)
def jZ(w:ZW)(W X Y Z:Addr):List (Addr×Addr)->ZC
 |[]=>cA w W X Y Z ⟨1026,11,1026,38⟩
 |p::l=>(DE w p.1 p.2,⟨988,20,988,72⟩)::(.func (aH (eH w.params)) (ec w p.1),⟨987,17,987,34⟩)::jZ w W X Y Z l
noncomputable def JS(P:Params)(k:ZT)(Y:Addr)(n:Nat)(Z:Tok)(x:ZN)(tx:Tok)(X:List DictEntry):Array DictEntry:=⟨[dE P [110,101,101,100,115] (k 0) (.ref Y),dE P [116,111,112] (k 1) (.int n Z),dE P [116,101,120,116] (k 2) (ar x tx)]++X⟩
noncomputable def lz(P:Params)(k:ZT)(FB U:Addr)(n:Nat)(X:Tok)(x:ZN)(tx:Tok)(tw:Tok)(A:Addr)(Y:Tok)(V:Addr)(Z:Option (Tok×Nat×Tok)):Obj:=we (JS P k U n X x tx ([dE P [119,111,114,100,115] tw (.ref A),dE P [114,101,97,100] Y (.ref V)]++(match Z with|none=>[]|some (kp,i,W)=>[dE P [112,108,97,99,101] kp (.int i W)]))) (match Z with|none=>5|some _=>6) (.ref 955) (.ref FB) (.ref 956)
noncomputable def JT(Z:Option (Tok×Nat×Tok))(t:Tok):Tok:=match Z with|none=>t|some p=>p.1
section
variable(w:ZW)(M O P Q:Nat)(l:List (Addr×Addr))(U:Nat)(V:Nat->Nat)(nl:ZY)(Y n:Nat)(S:Tok)(ep:Nat)(x:ZN)(tx:Tok)(r:ZV)(rs:ZY)(A:Nat)(it:ZV)(Z:ZY)(L:Nat)(k:ZT)(FB F B R I:Nat)(tw D:Tok)(E:Option (Tok×Nat×Tok))(i m u:Nat)(tu:Tok)(x2:ZV)(y:ZN)(ty:Tok)(v:ZY)(H C:Nat)(cl:ZY)(j:Nat)(o:Option (Tok×Nat×Tok))(T:ZL)(W:Pos)(X K:Nat)(J:ZG)(z:ZL)(q s:Nat)(p:ZG)(fr:ZL)(pos:Pos)(N t:Nat)(G:ZG)
def yb:ZH w:=jn [dz 0xc4,[(0,.ai (d0 0 (.ref (V n))))],dz 0x3408010803d3,[(1,.fin)]]
abbrev GO:dp:=⟨(aq (V0 w (jZ w M O P Q l)) (yb w V n) fr (.call (.ref 956) ⟨[.ref U,.int n S,.str ⟨⟨x⟩⟩ tx],[]⟩) pos [(U,ae nl Y),((V n),ae [] ep)] [] N t G),(.ok (.ret (.ref (N+2)))),⟨[(U,ae nl Y),((V n),ae [] ep)],[((N+2),⟨(.type "list"),none,(.seq ⟨[(ar x tx)]⟩ 0),⟨[]⟩⟩)],[eN n nl (.ref (V n))]⟩,(N+3),(t+3)⟩
theorem GP(R:l.length<=3):(GO w M O P Q l U V nl Y n S ep x tx fr pos N t G).ok (yb w V n) pos 2 [4] G:=by apply c5 R;apply aC w;kernel_rfl
def DF:ZH w:=jn [dz 0xc4,[(0,.ai (d0 0 (.ref (V n))))],dz 0x61d3,[(2,.stop)]]
def DG:ay:=aq (V0 w (jZ w M O P Q l)) (DF w V n) fr (.call (.ref 956) ⟨[.ref U,.int n S,.str ⟨⟨x⟩⟩ tx],[]⟩) pos [(U,ae nl Y),((V n),ae (r::rs) ep)] [] N t G
abbrev OM:dK:=⟨(DG w M O P Q l U V nl Y n S ep x tx r rs fr pos N t G),(.call (.ref 915) ⟨[.str ⟨⟨x⟩⟩ tx],[]⟩),⟨[(U,ae nl Y),((V n),ae (r::rs) ep)],[(N,fx [dE w.params [110,101,101,100,115] t (.ref U),dE w.params [116,111,112] (t+1) (.int n S),dE w.params [116,101,120,116] (t+2) (ar x tx)] 3)],[eN n nl (.ref (V n))]⟩,(N+2),(t+3)⟩
theorem ON(R:l.length<=2):(OM w M O P Q l U V nl Y n S ep x tx r rs fr pos N t G).ok (V0 w (jZ w M O P Q l)) (DF w V n) pos ((.func (aH (eH w.params)) (ec w N),⟨983,12,983,23⟩)::jZ w M O P Q l) 2 [2] G:=by apply c5 R;apply aC w;kernel_rfl
def DH:ZH w:=jn [dz 0x3a2837,[(2,.ai (tC 2))],dz 0x51515051a37,[(0,.ai (d0 0 (.ref (V n))))],[(2,.ai (tC 1))],[(4,.ai (FC false))],dz 0x7a2843,[(2,.ai (tC 2))],dz 0x261752181817a5,[(0,.ai (ya 5 (it::Z).length))],dz 0x12,[(0,.stop)]]
def w5:ay:=bo (V0 w (jZ w M O P Q l)) (DH w V n it Z) fr (DG w M O P Q l U V nl Y n S ep x tx r rs T W X K J) (.ok (.ret (.ref A))) [(U,ae nl Y),((V n),ae (r::rs) ep),(A,ae (it::Z) L),(X,we (JS w.params k U n S x tx []) 3 (.ref 955) (.ref FB) (.ref 956))] [] N t G
abbrev OO:dK:=⟨(w5 w M O P Q l U V nl Y n S ep x tx r rs A it Z L k FB T W X K J fr N t G),(DE w X (N+2)),⟨[(U,ae nl Y),((V n),ae (r::rs) ep),(A,ae (it::Z) L),(X,lz w.params k FB U n S x tx t A (t+5) N none)],[(N,⟨(.type "list"),none,(.seq ⟨[]⟩ 0),⟨[]⟩⟩),((N+2),⟨(.type "range_iterator"),none,(.fields ⟨[(.int 0 0),(.int ((it::Z).length:Nat) 0),(.int 1 0)]⟩),⟨[]⟩⟩)],[Fh ⟨.type "range",none,.fields #[.int 0 0,.int (it::Z).length 0,.int 1 0],#[]⟩ (it::Z).length,(it::Z).length<=16777216,(((it::Z).length:Int) !=((r::rs).length:Int))=false,(r::rs).length<=16777216,eN n nl (.ref (V n)),(it::Z).length<=16777216]⟩,(N+3),(t+10)⟩
theorem OP(R:l.length<=2):(OO w M O P Q l U V nl Y n S ep x tx r rs A it Z L k FB T W X K J fr N t G).ok (V0 w (jZ w M O P Q l)) (DH w V n it Z) ⟨0,0,0,0⟩ ((.func (aH (eH w.params)) (ec w X),⟨987,17,987,34⟩)::jZ w M O P Q l) 4 [4,6] G:=by apply c5 R;apply aC w;kernel_rfl
def DI:ZH w:=jn [dz 0x2cc02bd131212f1bce3,[(0,.ai (d0 2 (.ref (V n))))],dz 0x1ac105,[(0,.ai (d0 3 (.ref R)))],dz 0x18dc0513f4142d,[(0,.ai (d0 5 (ar y ty)))],[(2,.stop)]]
def DJ:ay:=aq (V0 w ((.func (aH (eH w.params)) (ec w F),⟨987,17,987,34⟩)::jZ w M O P Q l)) (DI w V n R y ty) fr (DE w F B) pos [(F,lz w.params k FB U n S x tx tw A D I E),(B,b6 i (m+1:Nat)),(U,ae nl Y),((V n),ae rs ep),(R,bK [.int u tu,x2] 0),(A,ae Z L),(I,ae v H)] [] N t G
abbrev OQ:dK:=⟨(DJ w M O P Q l U V nl Y n S ep x tx rs A Z L k FB F B R I tw D E i m u tu x2 y ty v H fr pos N t G),(.call (.ref 956) ⟨[.ref U,.int u tu,.str ⟨⟨y⟩⟩ ty],[]⟩),⟨[(F,lz w.params k FB U n S x tx tw A D I (some (JT E (t+1),i,t))),(B,b6 (i+1:Nat) (((m+1:Nat):Int)-1)),(U,ae nl Y),((V n),ae rs ep),(R,bK [.int u tu,x2] 0),(A,ae Z L),(I,ae v H)],[],[eN i Z (ar y ty),eN i rs (.ref R),eN n nl (.ref (V n))]⟩,N,(t+3)⟩
theorem OR(C:l.length<=2):(OQ w M O P Q l U V nl Y n S ep x tx rs A Z L k FB F B R I tw D E i m u tu x2 y ty v H fr pos N t G).ok (V0 w ((.func (aH (eH w.params)) (ec w F),⟨987,17,987,34⟩)::jZ w M O P Q l)) (DI w V n R y ty) pos (jZ w M O P Q ((F,B)::l)) 7 [] G:=by apply cm E;apply c5 C;apply aC w;kernel_rfl
def DK:ZH w:=jn [dz 0x4,[(0,.ai (I6 1 2))],[(1,.tail)]]
abbrev OS:c7:=⟨(bo (V0 w ((.func (aH (eH w.params)) (ec w F),⟨987,17,987,34⟩)::jZ w M O P Q l)) (DK w) fr (DJ w M O P Q l U V nl Y n S ep x tx rs A Z L k FB F B R I tw D E i m u tu x2 y ty v H T W X K J) (.ok (.ret (.ref C))) [(F,lz w.params k FB U n S x tx tw A D I o),(I,ae v H),(C,ae cl j)] [] N t G),(DE w F B),⟨988,8,988,73⟩,⟨[(F,lz w.params k FB U n S x tx tw A D I o),(I,ae (v++cl) (uo H cl)),(C,ae cl j)],[],[v.length+cl.length<=16777216]⟩,N,t⟩
theorem OT(r:l.length<=2):(OS w M O P Q l U V nl Y n S ep x tx rs A Z L k FB F B R I tw D E i m u tu x2 y ty v H C cl j o T W X K J fr N t G).ok (DK w) ⟨0,0,0,0⟩ 3 [] G:=by apply cm E;apply c5 r;apply aC w;kernel_rfl
def yc:ZH w:=jn [dz 0x37d403c0,[(1,.fin)]]
abbrev GQ:dp:=⟨(aq (V0 w ((.func (aH (eH w.params)) (ec w F),⟨987,17,987,34⟩)::jZ w M O P Q l)) (yc w) fr (DE w F B) pos [(F,lz w.params k FB U n S x tx tw A D I E),(B,b6 i 0)] [] N t G),(.ok .next),⟨[(F,lz w.params k FB U n S x tx tw A D I E),(B,b6 i 0)],[],[]⟩,(N+2),t⟩
theorem GR(R:l.length<=2):(GQ w M O P Q l U n S x tx A k FB F B I tw D E i fr pos N t G).ok (yc w) pos 2 [] G:=by apply c5 R;apply aC w;kernel_rfl
def DL:ZH w:=jn [dz 0x9,[(0,.fin)]]
abbrev OU:dp:=⟨(bo (V0 w (jZ w M O P Q l)) (DL w) fr (w5 w M O P Q l U V nl Y n S ep x tx r rs A it Z L k FB T W X K J z q s p) (.ok .next) [(X,lz w.params k FB U n S x tx tw A D I E)] [] N t G),(.ok (.ret (.ref I))),⟨[(X,lz w.params k FB U n S x tx tw A D I E)],[],[]⟩,N,t⟩
theorem OV(R:l.length<=2):(OU w M O P Q l U V nl Y n S ep x tx r rs A it Z L k FB I tw D E T W X K J z q s p fr N t G).ok (DL w) ⟨0,0,0,0⟩ 1 [] G:=by apply cm E;apply c5 R;apply aC w;kernel_rfl
end
end
section
set_option tactic.hygienic false
def Rd(Z:Nat->List aK):Nat->Nat->ZN->ZL->Prop
 |0,n,x,o=>Z n=[]/\o=[x]
 |d+1,n,x,o=>(Z n=[]/\o=[x])\/(Z n≠[]/\(Z n).length<=7/\∃(Y:Nat)(X:ZN)(ws:ZL)(outs:List (ZL)),x=Y::X/\1<=X.length/\X.length<=10000000/\gD ⟨⟨x⟩⟩ 0 ws/\ws.length=(Z n).length/\outs.length=ws.length/\
  (∀(i:Nat)(r:aK)(W:ZN)(V:ZL),(Z n)[i]?=some r->ws[i]?=some W->outs[i]?=some V->r.u<4/\Rd Z d r.u W V)/\o=outs.flatten)
theorem uJ(c:Nat):∀(l:List (ZL)),(∀o∈l,o.length<=c)->l.flatten.length<=l.length*c
 |[],_=>by simp
 |o::l,h=>by
  have:=uJ c l fun q hq=>h q (.tail _ hq)
  have Z:=h o (.head _)
  rw[List.flatten_cons,cJ,cX,jI];lia
theorem Rd.len{Y:Nat->List aK}:∀(d n:Nat)(x:ZN)(o:ZL),Rd Y d n x o->o.length<=7^d
 |0,n,x,o,h=>by
  unfold Rd at h;rw[h.2];simp
 |d+1,n,x,o,h=>by
  rcases h with ⟨_,h⟩|⟨_,Q,Z,R,ws,outs,_,_,_,_,S,T,h,rfl⟩
  .rw [h];exact Nat.one_le_pow _ _ (by decide)
  .refine au (uJ (7^d) outs fun o U=>?_) ?_
   .obtain⟨i,W,e⟩:=List.getElem_of_mem U;have X:i<ws.length:=by exact Nat.lt_of_lt_of_eq W T
    have V:i<(Y n).length:=by exact Nat.lt_of_lt_of_eq X S
    exact Rd.len d _ _ _ (h i _ _ o (List.getElem?_eq_getElem V) (List.getElem?_eq_getElem X) (by rw[List.getElem?_eq_getElem W,e])).2
   .rw [Nat.pow_succ,Nat.mul_comm];exact Nat.mul_le_mul_left _ (by lia)
noncomputable def f9(Z:Addr):List (Addr×Addr)->Addr
 |[]=>Z
 |p::_=>p.1
def Fi(w:ZW)(W X Y Z:Addr)(l:List (Addr×Addr)):Sp where
 fb:=fun n=>match n with
  |1=>aH (jJ w.params)
  |3=>rS (DC w)|4=>I5 (DC w)|6=>rS (DC w)|7=>I5 (DC w)
  |_=>aH (eH w.params)
 fe:=fun n=>match n with
  |1=>bz w W X Y Z
  |3=>ec w (l.getD 0 (0,0)).1|5=>ec w (l.getD 0 (0,0)).1
  |6=>ec w (l.getD 1 (0,0)).1|8=>ec w (l.getD 1 (0,0)).1
  |_=>ec w 0
 p:=fun n=>match n with
  |0=>⟨983,12,983,23⟩|1=>⟨1026,11,1026,38⟩|2=>⟨0,0,0,0⟩
  |3=>⟨988,20,988,72⟩|6=>⟨988,20,988,72⟩
  |_=>⟨987,17,987,34⟩
 xe:=fun a=>QZ (DC w)
 it:=fun n=>match n with|3=>.ref (l.getD 0 (0,0)).2|_=>.ref (l.getD 1 (0,0)).2
theorem Bw(w:ZW)(Z W X Y F:Addr)(l:List (Addr×Addr))(V:l.length<=2):uE ((Fi w Z W X Y l).qT w.params l.length 0 F (f9 Z l)) l.length=(.func (aH (eH w.params)) (ec w F),⟨983,12,983,23⟩)::jZ w Z W X Y l:=c5 (f:=fun l=>uE ((Fi w Z W X Y l).qT w.params l.length 0 F (f9 Z l)) l.length) (g:=fun l=>(.func (aH (eH w.params)) (ec w F),⟨983,12,983,23⟩)::jZ w Z W X Y l) V rfl
section
variable(w:ZW)(W S T U V:Addr)(Z ne:Nat->Nat)(Y:Nat)(X:Nat->List aK)(bg:List aQ)(P:∀v,(X v).length<=7)
noncomputable abbrev b5(Z:Nat->Nat):ZY:=[.ref (Z 0),.ref (Z 1),.ref (Z 2),.ref (Z 3)]
theorem dt(Z:Nat->Nat){n:Nat}(h:n<4):eN n (b5 Z) (.ref (Z n)):=by
 refine⟨(mQ n),by lia,?_⟩
 have hn:n=0\/n=1\/n=2\/n=3:=by lia
 rcases hn with rfl|rfl|rfl|rfl<;>rfl
theorem sb{xs:ZY}{i:Nat}{x:ZV}(h:xs[i]?=some x)(R:xs.length<=1000):eN i xs x:=by
 have:=(List.getElem?_eq_some_iff.mp h).1
 exact⟨(mQ i),by lia,by simpa using h⟩
def JU[ZI](L:Nat):Prop:=∀(l:List (Addr×Addr)),l.length+L<=3->∀(n:Nat)(x:ZN)(J tx:Tok)(out:ZL),n<4->Rd X L n x out->∀(Q:ZR)(B:aS)(st:ZS)(pos:Pos)(M:Array DictEntry)(N:Nat)(K a1 a2:Option ZV)(bv:ZV)(rest:List (Option ZV))(E:List Bk),Bt (jZ w W S T U l) none B->
 Hq w st ([.o (f9 W l) (nT M N K a1 a2 bv rest),.o V (ae (b5 Z) Y),.l (ba Z ne X)]++E) bg->
 (∀O C (R:List Wd) ep,R.map (·.1)=out->Hq w O ([.o C (ae (R.map cj) ep),.o (f9 W l) (nT M N K a1 a2 bv rest),.o V (ae (b5 Z) Y),.l (ba Z ne X)]++E) bg->Q (.ok (.ret (.ref C))) O)->
 Rn w B st (.call (.ref 956) ⟨[.ref V,.int n J,.str ⟨⟨x⟩⟩ tx],[]⟩) pos Q
theorem nV[ZI]{Q:ZR}(l:List (Addr×Addr))(G:l.length<=3)(n:Nat)(x:ZN)(L tx:Tok)(hn:n<4)(I:X n=[])(B:aS)(st:ZS)(pos:Pos)(F:Addr)(J:Obj)(E:List Bk)(b:Bt (jZ w W S T U l) none B)(H:Hq w st ([.o F J,.o V (ae (b5 Z) Y),.l (ba Z ne X)]++E) bg)(K:∀N C (O:List Wd) ep,O.map (·.1)=[x]->Hq w N ([.o C (ae (O.map cj) ep),.o F J,.o V (ae (b5 Z) Y),.l (ba Z ne X)]++E) bg->Q (.ok (.ret (.ref C))) N):Rn w B st (.call (.ref 956) ⟨[.ref V,.int n L,.str ⟨⟨x⟩⟩ tx],[]⟩) pos Q:=by
 obtain⟨R,M⟩:=jX Z ne X hn;unfold eM at M;rw[I]at M;exact kF [3,0] b (H.ch [2] M [.o (Z n) (ae [] (ne n)),.l R]) (fun fr=>GP w W S T U l V Z (b5 Z) Y n L (ne n) x tx fr pos (zN st) st.toks st.gens G:) (fun a=>aa (dt Z hn) aj) fun fr N D=>
  K N _ [(x,tx)] 0 rfl ((D.ch [1,3] M.symm [.l (ba Z ne X)]).p [2,3,1,0] 4)
noncomputable def Uk(w:ZW)(FB V:Addr)(Z:Nat->Nat)(Y n:Nat)(J:Tok)(ep:Nat)(x:ZN)(tx:Tok)(rs:ZY)(A:Addr)(O:ZY)(N:Nat)(k:ZT)(F G M:Addr)(tw K:Tok)(H:Option (Tok×Nat×Tok))(i:Nat)(m:Int)(I:ZY)(Q:Nat)(E:Obj)(L R:ZA):List Bk:=[.o F (lz w.params k FB V n J x tx tw A K M H),.o G (b6 i m),.o V (ae (b5 Z) Y),.o (Z n) (ae rs ep),.o A (ae O N),.o M (ae I Q),.o FB E,.l L,.l R]
include P in
theorem wk[ZI](dd:Nat)(ih:JU w W S T U V Z ne Y X bg dd)(l:List (Addr×Addr))(hl:l.length+(dd+1)<=3)(n:Nat)(gJ:Nat)(x:ZN)(tn tx:Tok)(hn:n<4)(hr:X n≠[])(RK:1<=x.length)(RM:x.length<=10000000)(ws:ZL)(outs:List (ZL))(Fj:gD ⟨⟨gJ::x⟩⟩ 0 ws)(pN:ws.length=(X n).length)(Vx:outs.length=ws.length)(Fl:∀(i:Nat) (r:aK) (wd:ZN) (ot:ZL),(X n)[i]?=some r->ws[i]?=some wd->outs[i]?=some ot->r.u<4/\Rd X dd r.u wd ot){Q:ZR}(B:aS)(st:ZS)(pos:Pos)(e3:Array DictEntry)(n3:Nat)(a0 a1 a2:Option ZV)(bv:ZV)(rest:List (Option ZV))(E:List Bk)(b:Bt (jZ w W S T U l) none B)(H:Hq w st ([.o (f9 W l) (nT e3 n3 a0 a1 a2 bv rest),.o V (ae (b5 Z) Y),.l (ba Z ne X)]++E) bg)(K:∀s' C (gS:List Wd) ep,gS.map (·.1)=outs.flatten->Hq w s' ([.o C (ae (gS.map cj) ep),.o (f9 W l) (nT e3 n3 a0 a1 a2 bv rest),.o V (ae (b5 Z) Y),.l (ba Z ne X)]++E) bg->Q (.ok (.ret (.ref C))) s'):Rn w B st (.call (.ref 956) ⟨[.ref V,.int n tn,.str ⟨⟨gJ::x⟩⟩ tx],[]⟩) pos Q:=by
 obtain⟨R,hR⟩:=jX Z ne X hn
 replace hR:(ba Z ne X).Perm ((Z n,ae (bh (X n)) (ne n))::((X n).map aK.led++R)):=hR
 have nW:l.length<=2:=jE (au (gX (b8 _ dd)) hl)
 have xS:=P n
 obtain⟨v0,vs,er⟩:∃v0 vs,bh (X n)=v0::vs:=by
  cases q:X n with
  |nil=>exact absurd q hr
  |cons a b=>exact⟨_,_,rfl⟩
 have RN:(v0::vs).length=(X n).length:=by rw[←er];exact aB ..
 have Fm:∀{i:Nat} {r:aK},(X n)[i]?=some r->(v0::vs)[i]?=some (.ref r.a):=fun{i r} h=>by rw[←er];simp[bh,h]
 rw[er]at hR;refine kS [4,0] b (H.ch [2] hR [.o (Z n) (ae (v0::vs) (ne n)),.l ((X n).map aK.led),.l R]) (fun fr=>ON w W S T U l V Z (b5 Z) Y n tn (ne n) (gJ::x) tx v0 vs fr pos (zN st) st.toks st.gens nW:) (fun _=>aa (dt Z hn) aj) fun fr s1 H2 B1 b1=>?_
 refine wj w (Fi w W S T U l) l.length (Nat.lt_succ_of_le nW) gJ x tx ws Fj (pN▸xS) RK RM st.heap.objs.size (f9 W l) (JS w.params (KK [st.toks,st.toks+1,st.toks+2]) V n tn (gJ::x) tx []) 3 e3 n3 a0 a1 a2 bv rest ([.o V (ae (b5 Z) Y),.o (Z n) (ae (v0::vs) (ne n)),.l ((X n).map aK.led),.l R]++E) bg B1 s1 _ (by rw[Bw w W S T U _ l nW];exact b1) (H2.p [2,5,0,1,3,4] 6) fun s2 A gS aY JV H4=>?_
 generalize hk:KK [st.toks,st.toks+1,st.toks+2]=kk at H4;have qi:gS.length=(X n).length:=by rw[←pN,←JV,aB]
 obtain⟨qU,jx,rfl⟩:∃qU jx,gS=qU::jx:=by
  cases gS with
  |nil=>exact absurd (jF qi.symm) hr
  |cons a b=>exact⟨a,b,rfl⟩
 have Vy:(cj qU::jx.map cj).length=(X n).length:=by rw[←qi];exact aB (as:=qU::jx) ..
 refine m5 [3,4,0,1] b H4 (fun JW=>OP w W S T U l V Z (b5 Z) Y n tn (ne n) (gJ::x) tx v0 vs A (cj qU) (jx.map cj) aY kk (f9 W l) fr pos (zN st) st.toks st.gens JW (zN s2) s2.toks s2.gens nW:) (fun _=>aa ⟨rfl,rfl,rfl,by lia⟩ (aa (by lia) (aa (by rw[Vy,RN];simp) (aa (by lia) (aa (dt Z hn) (aa (by lia) aj)))))) fun JW s3 H6 B2 b2=>?_
 have key:∀(m i:Nat),i+m=(X n).length->∀(s:ZS)(p':Pos)(pl:Option (Tok×Nat×Tok))(rl:List Wd)(rep:Nat),rl.map (·.1)=(outs.take i).flatten->rl.length<=i*7^dd->
   Hq w s (Uk w (f9 W l) V Z Y n tn (ne n) (gJ::x) tx (v0::vs) A ((qU::jx).map cj) aY kk st.heap.objs.size (s2.heap.objs.size+2) s2.heap.objs.size s2.toks (s2.toks+5) pl i m (rl.map cj) rep (nT e3 n3 a0 a1 a2 bv rest) ((X n).map aK.led) R++E) bg->
   Rn w B2 s (DE w st.heap.objs.size (s2.heap.objs.size+2)) p' (fun r s'=>Rk w B s' (w5 w W S T U l V Z (b5 Z) Y n tn (ne n) (gJ::x) tx v0 vs A (cj qU) (jx.map cj) aY kk (f9 W l) fr pos (zN st) st.toks st.gens JW (zN s2) s2.toks s2.gens) r Q):=by
  intro m;induction m with
  |zero=>
   intro i hi s p' pl rl rep e1 e2 H7;exact kF [0,1] b2 H7 (fun bV=>GR w W S T U l V n tn (gJ::x) tx A kk (f9 W l) st.heap.objs.size (s2.heap.objs.size+2) s2.heap.objs.size s2.toks (s2.toks+5) pl i bV p' (zN s) s.toks s.gens nW:) (fun _=>aj) fun bV s' H8=>
    pE [0] b H8 (fun ig=>OV w W S T U l V Z (b5 Z) Y n tn (ne n) (gJ::x) tx v0 vs A (cj qU) (jx.map cj) aY kk (f9 W l) s2.heap.objs.size s2.toks (s2.toks+5) pl fr pos (zN st) st.toks st.gens JW (zN s2) s2.toks s2.gens ig (zN s') s'.toks s'.gens nW:) (fun _=>aj) fun ig s5 H9=>
     K s5 s2.heap.objs.size rl rep (by rw[e1,show i=outs.length by lia,gZ]) ((H9.ch [3,7,8] hR.symm [.l (ba Z ne X)]).p [5,6,3,0] 7)
  |succ m jg=>
   intro i hi s p' pl rl rep e1 e2 H7;have GS:i<(X n).length:=by exact lA hi
   obtain⟨r,kA⟩:∃r,(X n)[i]?=some r:=⟨_,List.getElem?_eq_getElem GS⟩;obtain⟨z,Vz⟩:∃z,(qU::jx)[i]?=some z:=⟨_,List.getElem?_eq_getElem (qi▸GS)⟩;obtain⟨ot,GU⟩:∃ot,outs[i]?=some ot:=⟨_,List.getElem?_eq_getElem (by lia)⟩
   have JX:ws[i]?=some z.1:=by rw[←JV,List.getElem?_map,Vz];rfl
   obtain⟨yd,VA⟩:=Fl i r z.1 ot kA JX GU;obtain⟨R2,GV⟩:=fH (b7 (f:=aK.led) (List.mem_of_getElem? kA));refine kS [2,3,4,5,0,6,7] b2 (H7.ch [7] GV [.o r.a (bK [.int r.u r.tu,.int r.w r.tw] 0),.l R2]) (fun bV=>OR w W S T U l V Z (b5 Z) Y n tn (ne n) (gJ::x) tx (v0::vs) A ((qU::jx).map cj) aY kk (f9 W l) st.heap.objs.size (s2.heap.objs.size+2) r.a s2.heap.objs.size s2.toks (s2.toks+5) pl i m r.u r.tu (.int r.w r.tw) z.1 z.2 (rl.map cj) rep bV p' (zN s) s.toks s.gens nW:)
    (fun _=>aa (sb (by rw[List.getElem?_map,Vz];rfl) (by rw[aB];lia)) (aa (sb (Fm kA) (by lia)) (aa (dt Z hn) aj))) fun bV s4 H9 B3 b3=>?_
   refine ih ((st.heap.objs.size,s2.heap.objs.size+2)::l) (by rw[cX];lia) r.u z.1 r.tu z.2 ot yd VA _ B3 s4 _ (JS w.params kk V n tn (gJ::x) tx [dE w.params [119,111,114,100,115] s2.toks (.ref A),dE w.params [114,101,97,100] (s2.toks+5) (.ref s2.heap.objs.size),dE w.params [112,108,97,99,101] (JT pl (s.toks+1)) (.int i s.toks)]) 6 (some (.ref 955)) (some (.ref 3)) none (.ref (f9 W l)) [none,some (.ref 956),some (.ref 0)]
    ([.o (s2.heap.objs.size+2) (b6 (i+1:Nat) (((m+1:Nat):Int)-1)),.o A (ae ((qU::jx).map cj) aY),.o s2.heap.objs.size (ae (rl.map cj) rep),.o (f9 W l) (nT e3 n3 a0 a1 a2 bv rest)]++E) b3 ((H9.ch [3,4,7,9] ((List.Perm.cons _ (GV.symm.append_right R)).trans hR.symm) [.l (ba Z ne X)]).p [1,3,0,2,4,5,6] 7) fun s5 C cl Ar GW wa=>?_
   have X3:cl.length<=7^dd:=by have:=Rd.len dd _ _ _ VA;rwa [←GW,aB]at this
   have VB:rl.length+cl.length<=(i+1)*7^dd:=by rw[jI];exact jG e2 X3
   have JY:(i+1)*7^dd<=7*7^2:=jH (au GS xS) (Nat.pow_le_pow_right (by decide) (by lia))
   refine qG [1,6,0] b2 wa (fun ig=>OT w W S T U l V Z (b5 Z) Y n tn (ne n) (gJ::x) tx (v0::vs) A ((qU::jx).map cj) aY kk (f9 W l) st.heap.objs.size (s2.heap.objs.size+2) r.a s2.heap.objs.size s2.toks (s2.toks+5) pl i m r.u r.tu (.int r.w r.tw) z.1 z.2 (rl.map cj) rep C (cl.map cj) Ar (some (JT pl (s.toks+1),i,s.toks)) bV p' (zN s) s.toks s.gens ig (zN s5) s5.toks s5.gens nW:) (fun _=>aa (by rw[aB,aB];exact au (au VB JY) (by decide)) aj) fun ig s6 As=>?_
   refine jg (i+1) (lB hi) s6 _ (some (JT pl (s.toks+1),i,s.toks)) (rl++cl) (uo rep (cl.map cj)) ?_ (by rw[cJ];exact VB) ((As.ch [4] hR [.o (Z n) (ae (v0::vs) (ne n)),.l ((X n).map aK.led),.l R]).p [3,7,6,0,8,4,9,1,2] 10 (by rw[aL,xu];kernel_rfl))
   rw[aL,e1,GW,gf,GU];simp
 exact key (X n).length 0 (fM _) s3 _ none [] 0 rfl (b9 _) (H6.p [3,5,0,1,2,4,6,7,8] 9 (by rw[←Vy];kernel_rfl))
include P in
theorem zl[ZI]:∀dd,JU w W S T U V Z ne Y X bg dd:=by
 intro dd;induction dd with
 |zero=>intro l hl n x tn tx out hn ⟨h1,h2⟩ Q B st pos e3 n3 a0 a1 a2 bv rest E b H K;subst h2;exact nV w W S T U V Z ne Y X bg l hl n x tn tx hn h1 B st pos _ _ E b H K
 |succ dd ih=>
  intro l hl n x tn tx out hn h Q B st pos e3 n3 a0 a1 a2 bv rest E b H K;rcases h with ⟨h1,h2⟩|⟨h1,h7,gJ,x',ws,outs,rfl,RK,RM,Fj,pN,Vx,Fl,rfl⟩
  .subst h2;exact nV w W S T U V Z ne Y X bg l (au (b8 ..) hl) n x tn tx hn h1 B st pos _ _ E b H K
  .exact wk w W S T U V Z ne Y X bg P dd ih l hl n gJ x' tn tx hn h1 RK RM ws outs Fj pN Vx Fl B st pos e3 n3 a0 a1 a2 bv rest E b H K
end
end
section
set_option tactic.hygienic false
def kY(w:ZW)(F:Addr):Env:=eB 949 (iG w.params) F []
def X4(w:ZW):Stmt:=(aH (iG w.params)).getD 2 default
def DM(w:ZW)(F Z:Addr):Code:=f6 (X4 w) Z (kY w F)
def nc(w:ZW)(W X Y Z:Addr):List (Addr×Addr)->ZC
 |[]=>cA w W X Y Z ⟨1025,79,1025,103⟩
 |p::l=>(DM w p.1 p.2,⟨978,20,978,60⟩)::(.func (aH (iG w.params)) (kY w p.1),⟨977,27,977,37⟩)::nc w W X Y Z l
noncomputable def lC(P:Params)(k:ZT)(X:Addr)(n:Nat)(Y:Tok)(z:Int)(tz:Tok)(tw:Tok)(W:Addr)(Z:Option (Tok×ZV×Tok×ZV)):Obj:=fx ([dE P [110,101,101,100,115] (k 0) (.ref X),dE P [116,111,112] (k 1) (.int n Y),dE P [108,97,105,100] (k 2) (.int z tz),dE P [119,97,121,115] tw (.ref W)]++(match Z with|none=>[]|some (a,b,c,d)=>[dE P [117,110,100,101,114] a b,dE P QL c d])) (match Z with|none=>4|some _=>6)
noncomputable def z1(Z:Option (Tok×ZV×Tok×ZV))(t:Tok):Tok:=match Z with|none=>t|some p=>p.1
noncomputable def z2(Z:Option (Tok×ZV×Tok×ZV))(t:Tok):Tok:=match Z with|none=>t|some p=>p.2.2.1
section
variable(w:ZW)(O Q S T:Nat)(l:List (Addr×Addr))(Z:Nat)(U:Nat->Nat)(nl:ZY)(M n:Nat)(W:Tok)(ep:Nat)(z:Int)(tz:Tok)(r:ZV)(rs:ZY)(k:ZT)(E F H R V:Nat)(tw:Tok)(K:Option (Tok×ZV×Tok×ZV))(i u:Nat)(tu:Tok)(v:Nat)(D:Tok)(wl:ZY)(X C:Nat)(cl:ZY)(A:Nat)(B:Option (Tok×ZV×Tok×ZV))(L:ZL)(Y:Pos)(P J:Nat)(I:ZG)(fr:ZL)(pos:Pos)(N t:Nat)(G:ZG)
def ye:ZH w:=jn [dz 0xc4,[(0,.ai (d0 0 (.ref (U n))))],dz 0x25608010803d3,[(2,.fin)]]
abbrev GX:dp:=⟨(aq (V0 w (nc w O Q S T l)) (ye w U n) fr (.call (.ref 949) ⟨[.ref Z,.int n W,.int z tz],[]⟩) pos [(Z,ae nl M),((U n),ae [] ep)] [] N t G),(.ok (.ret (.ref (N+3)))),⟨[(Z,ae nl M),((U n),ae [] ep)],[((N+2),⟨(.type "tuple"),none,(.seq ⟨[(.int n W),(.int z tz)]⟩ 0),⟨[]⟩⟩),((N+3),⟨(.type "list"),none,(.seq ⟨[(.ref (N+2))]⟩ 0),⟨[]⟩⟩)],[eN n nl (.ref (U n))]⟩,(N+4),(t+3)⟩
theorem GY(R:l.length<=3):(GX w O Q S T l Z U nl M n W ep z tz fr pos N t G).ok (ye w U n) pos 2 [4,5] G:=by apply c5 R;apply aC w;kernel_rfl
def DN:ZH w:=jn [dz 0xc4,[(0,.ai (d0 0 (.ref (U n))))],dz 0x5151505021911a6d3,[(0,.ai (d0 0 (.ref (U n))))],dz 0x40060103,[(0,.stop)]]
def w6:ay:=aq (V0 w (nc w O Q S T l)) (DN w U n) fr (.call (.ref 949) ⟨[.ref Z,.int n W,.int z tz],[]⟩) pos [(Z,ae nl M),((U n),ae (r::rs) ep)] [] N t G
abbrev OW:dK:=⟨(w6 w O Q S T l Z U nl M n W ep z tz r rs fr pos N t G),(DM w N (N+3)),⟨[(Z,ae nl M),((U n),ae (r::rs) ep)],[(N,fx [dE w.params [110,101,101,100,115] t (.ref Z),dE w.params [116,111,112] (t+1) (.int n W),dE w.params [108,97,105,100] (t+2) (.int z tz),dE w.params [119,97,121,115] (t+3) (.ref (N+2))] 4),((N+2),⟨(.type "list"),none,(.seq ⟨[]⟩ 0),⟨[]⟩⟩),((N+3),⟨(.type "list_iterator"),none,(.fields ⟨[(.ref (U n)),(.int 0 0)]⟩),⟨[]⟩⟩)],[eN n nl (.ref (U n)),eN n nl (.ref (U n))]⟩,(N+4),(t+4)⟩
theorem OX(R:l.length<=2):(OW w O Q S T l Z U nl M n W ep z tz r rs fr pos N t G).ok (V0 w (nc w O Q S T l)) (DN w U n) pos ((.func (aH (iG w.params)) (kY w N),⟨977,27,977,37⟩)::nc w O Q S T l) 2 [2,4,5] G:=by apply c5 R;apply aC w;kernel_rfl
def DO:ZH w:=jn [dz 0xc0,[(0,.ai (fu 1 2 (.ref R)))],dz 0x5bd1308c1c9d5423e1814171818183e1714171818183e171417181817402114e101,[(7,.stop)]]
def DP:ay:=aq (V0 w ((.func (aH (iG w.params)) (kY w F),⟨977,27,977,37⟩)::nc w O Q S T l)) (DO w R) fr (DM w F H) pos [(F,lC w.params k Z n W z tz tw V K),(H,bx E i),(E,ae rs ep),(V,ae wl X),(R,bK [.int u tu,.int v D] 0)] [] N t G
abbrev OY:dK:=⟨(DP w O Q S T l Z n W ep z tz rs k E F H R V tw K i u tu v D wl X fr pos N t G),(.call (.ref 949) ⟨[.ref Z,.int u tu,.int (z+v) (t+2)],[]⟩),⟨[(F,lC w.params k Z n W z tz tw V (some (z1 K t,.int u tu,z2 K (t+1),.int v D))),(H,bx E (i+1)),(E,ae rs ep),(V,ae wl X),(R,bK [.int u tu,.int v D] 0)],[],[rs[i]?=some (.ref R)]⟩,(N+3),(t+3)⟩
theorem OZ(C:l.length<=2):(OY w O Q S T l Z n W ep z tz rs k E F H R V tw K i u tu v D wl X fr pos N t G).ok (V0 w ((.func (aH (iG w.params)) (kY w F),⟨977,27,977,37⟩)::nc w O Q S T l)) (DO w R) pos (nc w O Q S T ((F,H)::l)) 5 [] G:=by apply cm K;apply c5 C;apply aC w;kernel_rfl
def DQ:ZH w:=jn [dz 0x4,[(0,.ai (I6 1 2))],[(1,.tail)]]
abbrev O0:c7:=⟨(bo (V0 w ((.func (aH (iG w.params)) (kY w F),⟨977,27,977,37⟩)::nc w O Q S T l)) (DQ w) fr (DP w O Q S T l Z n W ep z tz rs k E F H R V tw K i u tu v D wl X L Y P J I) (.ok (.ret (.ref C))) [(F,lC w.params k Z n W z tz tw V B),(V,ae wl X),(C,ae cl A)] [] N t G),(DM w F H),⟨978,8,978,61⟩,⟨[(F,lC w.params k Z n W z tz tw V B),(V,ae (wl++cl) (uo X cl)),(C,ae cl A)],[],[wl.length+cl.length<=16777216]⟩,N,t⟩
theorem O1(y:l.length<=2):(O0 w O Q S T l Z n W ep z tz rs k E F H R V tw K i u tu v D wl X C cl A B L Y P J I fr N t G).ok (DQ w) ⟨0,0,0,0⟩ 3 [] G:=by apply cm K;apply c5 y;apply aC w;kernel_rfl
def yf:ZH w:=jn [dz 0xc0,[(0,.ai (qf 1 2))],dz 0x17,[(1,.fin)]]
abbrev GZ:dp:=⟨(aq (V0 w ((.func (aH (iG w.params)) (kY w F),⟨977,27,977,37⟩)::nc w O Q S T l)) (yf w) fr (DM w F H) pos [(F,lC w.params k Z n W z tz tw V K),(H,bx E i),(E,ae rs ep),(V,ae wl X)] [] N t G),(.ok .next),⟨[(F,lC w.params k Z n W z tz tw V K),(H,jO "list_iterator" i),(E,ae rs ep),(V,ae wl X)],[],[rs[i]?=none]⟩,(N+2),t⟩
theorem G1(R:l.length<=2):(GZ w O Q S T l Z n W ep z tz rs k E F H V tw K i wl X fr pos N t G).ok (yf w) pos 4 [] G:=by apply c5 R;apply aC w;kernel_rfl
def DR:ZH w:=jn [dz 0x9,[(0,.fin)]]
abbrev O2:dp:=⟨(bo (V0 w (nc w O Q S T l)) (DR w) fr (w6 w O Q S T l Z U nl M n W ep z tz r rs L Y P J I) (.ok .next) [(P,lC w.params k Z n W z tz tw V K)] [] N t G),(.ok (.ret (.ref V))),⟨[(P,lC w.params k Z n W z tz tw V K)],[],[]⟩,N,t⟩
theorem O3(R:l.length<=2):(O2 w O Q S T l Z U nl M n W ep z tz r rs k V tw K L Y P J I fr N t G).ok (DR w) ⟨0,0,0,0⟩ 1 [] G:=by apply cm K;apply c5 R;apply aC w;kernel_rfl
end
end
section
set_option tactic.hygienic false
noncomputable def gu(Z:Nat->List aK):Nat->Nat->Int->List (Nat×Int)
 |0,n,z=>[(n,z)]
 |d+1,n,z=>match Z n with
  |[]=>[(n,z)]
  |r::rs=>(r::rs).flatMap fun r=>gu Z d r.u (z+r.w)
def Dp(Z:Nat->List aK):Nat->Nat->Prop
 |0,n=>Z n=[]
 |d+1,n=>∀r∈Z n,r.u<4/\Dp Z d r.u
theorem fI{Z:Nat->List aK}{n:Nat}(h:Z n=[])(d:Nat)(z:Int):gu Z d n z=[(n,z)]:=by
 cases d with
 |zero=>rfl
 |succ d=>unfold gu;rw[h]
theorem fJ{Z:Nat->List aK}{n:Nat}(h:Z n≠[])(d:Nat)(z:Int):gu Z (d+1) n z=(Z n).flatMap fun r=>gu Z d r.u (z+r.w):=by
 conv=>lhs;unfold gu
 cases q:Z n with
 |nil=>exact absurd q h
 |cons a b=>rfl
theorem w7{α β:Type}(f:α->List β)(c:Nat):∀(l:List α),(∀x∈l,(f x).length<=c)->(l.flatMap f).length<=l.length*c
 |[],_=>by simp
 |x::l,h=>by
  have:=w7 f c l fun q hq=>h q (.tail _ hq)
  have Z:=h x (.head _)
  rw[fm,cJ,cX,jI];lia
theorem oX{Z:Nat->List aK}(Y:∀v,(Z v).length<=7):∀(d n:Nat)(z:Int),(gu Z d n z).length<=7^d
 |0,n,z=>by simp[gu]
 |d+1,n,z=>by
  by_cases h:Z n=[]
  .rw [fI h];exact Nat.one_le_pow _ _ (by decide)
  .rw [fJ h,Nat.pow_succ,Nat.mul_comm];exact au (w7 _ _ _ fun r a=>oX Y d r.u _) (Nat.mul_le_mul_right _ (Y n))
structure W4 where
 a:Addr
 n:Nat
 tn:Tok
 z:Int
 tz:Tok
noncomputable def W4.led(q:W4):Addr×Obj:=(q.a,bK [.int q.n q.tn,.int q.z q.tz] 0)
noncomputable def W4.ref(q:W4):ZV:=.ref q.a
noncomputable def W4.nz(q:W4):Nat×Int:=(q.n,q.z)
section
variable(w:ZW)(S T U V W:Addr)(Z ne:Nat->Nat)(X:Nat)(Y:Nat->List aK)(bg:List aQ)(P:∀v,(Y v).length<=7)
def JZ[ZI](R:Nat):Prop:=∀(l:List (Addr×Addr)),l.length+R<=3->∀(n:Nat)(z:Int)(N tz:Tok),n<4->Dp Y R n->∀(Q:ZR)(B:aS)(st:ZS)(pos:Pos)(E:List Bk),Bt (nc w S T U V l) none B->
 Hq w st ([.o W (ae (b5 Z) X),.l (ba Z ne Y)]++E) bg->
 (∀O C (ws:List W4) ep,ws.map W4.nz=gu Y R n z->Hq w O ([.o C (ae (ws.map W4.ref) ep),.l (ws.map W4.led),.o W (ae (b5 Z) X),.l (ba Z ne Y)]++E) bg->Q (.ok (.ret (.ref C))) O)->
 Rn w B st (.call (.ref 949) ⟨[.ref W,.int n N,.int z tz],[]⟩) pos Q
theorem nX[ZI]{Q:ZR}(I:Nat)(l:List (Addr×Addr))(J:l.length<=3)(n:Nat)(z:Int)(M tz:Tok)(hn:n<4)(L:Y n=[])(B:aS)(st:ZS)(pos:Pos)(E:List Bk)(b:Bt (nc w S T U V l) none B)(H:Hq w st ([.o W (ae (b5 Z) X),.l (ba Z ne Y)]++E) bg)(K:∀O C (ws:List W4) ep,ws.map W4.nz=gu Y I n z->Hq w O ([.o C (ae (ws.map W4.ref) ep),.l (ws.map W4.led),.o W (ae (b5 Z) X),.l (ba Z ne Y)]++E) bg->Q (.ok (.ret (.ref C))) O):Rn w B st (.call (.ref 949) ⟨[.ref W,.int n M,.int z tz],[]⟩) pos Q:=by
 obtain⟨R,N⟩:=jX Z ne Y hn;unfold eM at N;rw[L]at N;exact kF [2,0] b (H.ch [1] N [.o (Z n) (ae [] (ne n)),.l R]) (fun fr=>GY w S T U V l W Z (b5 Z) X n M (ne n) z tz fr pos (zN st) st.toks st.gens J:) (fun a=>aa (dt Z hn) aj) fun fr O G=>
  K O _ [⟨st.heap.objs.size+2,n,M,z,tz⟩] 0 (fI L _ _).symm ((G.ch [1,4] N.symm [.l (ba Z ne Y)]).p [3,2,1,0] 4)
noncomputable def Ul(w:ZW)(k:ZT)(W:Addr)(nl:ZY)(X n:Nat)(M:Tok)(z:Int)(tz tw:Tok)(F O N:Addr)(rs:ZY)(ep:Nat)(K:Option (Tok×ZV×Tok×ZV))(i:Nat)(wl:ZY)(Q:Nat)(A L R:ZA):List Bk:=[.o F (lC w.params k W n M z tz tw O K),.o (F+3) (bx N i),.o N (ae rs ep),.o O (ae wl Q),.l A,.o W (ae nl X),.l L,.l R]
include P in
theorem wm[ZI]{Q:ZR}(dd:Nat)(ih:JZ w S T U V W Z ne X Y bg dd)(l:List (Addr×Addr))(hl:l.length+(dd+1)<=3)(n:Nat)(z:Int)(tn tz:Tok)(hn:n<4)(hr:Y n≠[])(hd:Dp Y (dd+1) n)(B:aS)(st:ZS)(pos:Pos)(E:List Bk)(b:Bt (nc w S T U V l) none B)(H:Hq w st ([.o W (ae (b5 Z) X),.l (ba Z ne Y)]++E) bg)(K:∀s' C (ws:List W4) ep,ws.map W4.nz=gu Y (dd+1) n z->Hq w s' ([.o C (ae (ws.map W4.ref) ep),.l (ws.map W4.led),.o W (ae (b5 Z) X),.l (ba Z ne Y)]++E) bg->Q (.ok (.ret (.ref C))) s'):Rn w B st (.call (.ref 949) ⟨[.ref W,.int n tn,.int z tz],[]⟩) pos Q:=by
 obtain⟨R,hR⟩:=jX Z ne Y hn
 replace hR:(ba Z ne Y).Perm ((Z n,ae (bh (Y n)) (ne n))::((Y n).map aK.led++R)):=hR
 have nW:l.length<=2:=jE (au (gX (b8 _ dd)) hl)
 have xS:=P n
 obtain⟨v0,vs,er⟩:∃v0 vs,bh (Y n)=v0::vs:=by
  cases q:Y n with
  |nil=>exact absurd q hr
  |cons a b=>exact⟨_,_,rfl⟩
 have RN:(v0::vs).length=(Y n).length:=by rw[←er];exact aB ..
 have Fm:∀{i:Nat} {r:aK},(Y n)[i]?=some r->(v0::vs)[i]?=some (.ref r.a):=fun{i r} h=>by rw[←er];simp[bh,h]
 rw[er]at hR;have JY:7^dd<=49:=Nat.pow_le_pow_right (n:=7) (by decide) (by lia:dd<=2)
 refine kS [3,0] b (H.ch [1] hR [.o (Z n) (ae (v0::vs) (ne n)),.l ((Y n).map aK.led),.l R]) (fun fr=>OX w S T U V l W Z (b5 Z) X n tn (ne n) z tz v0 vs fr pos (zN st) st.toks st.gens nW:) (fun _=>aa (dt Z hn) (aa (dt Z hn) aj)) fun fr s1 H2 B2 b2=>?_
 have key:∀(m i:Nat),i+m=(Y n).length->∀(s:ZS)(p':Pos)(pl:Option (Tok×ZV×Tok×ZV))(acc:List W4)(av:ZY)(al:ZA)(aY:Nat),acc.map W4.ref=av->acc.map W4.led=al->acc.map W4.nz=((Y n).take i).flatMap (fun r=>gu Y dd r.u (z+r.w))->
   Hq w s (Ul w (KK [st.toks,st.toks+1,st.toks+2]) W (b5 Z) X n tn z tz (st.toks+3) st.heap.objs.size (st.heap.objs.size+2) (Z n) (v0::vs) (ne n) pl i av aY al ((Y n).map aK.led) R++E) bg->
   Rn w B2 s (DM w st.heap.objs.size (st.heap.objs.size+3)) p' (fun r s'=>Rk w B s' (w6 w S T U V l W Z (b5 Z) X n tn (ne n) z tz v0 vs fr pos (zN st) st.toks st.gens) r Q):=by
  intro m;induction m with
  |zero=>
   rintro i hi s p' pl acc _ _ aY rfl rfl e1 H7
   obtain rfl:i=(Y n).length:=hi;rw[gZ]at e1;exact kF [0,1,2,3] b2 H7 (fun bV=>G1 w S T U V l W n tn (ne n) z tz (v0::vs) (KK [st.toks,st.toks+1,st.toks+2]) (Z n) st.heap.objs.size (st.heap.objs.size+3) (st.heap.objs.size+2) (st.toks+3) pl (Y n).length (acc.map W4.ref) aY bV p' (zN s) s.toks s.gens nW:) (fun _=>aa (List.getElem?_eq_none (dX RN)) aj) fun bV s' H8=>
    pE [0] b H8 (fun ig=>O3 w S T U V l W Z (b5 Z) X n tn (ne n) z tz v0 vs (KK [st.toks,st.toks+1,st.toks+2]) (st.heap.objs.size+2) (st.toks+3) pl fr pos (zN st) st.toks st.gens ig (zN s') s'.toks s'.gens nW:) (fun _=>aj) fun ig s5 H9=>
     K s5 _ acc aY (e1.trans (fJ hr _ _).symm) ((H9.ch [2,6,7] hR.symm [.l (ba Z ne Y)]).p [3,4,5,0] 6)
  |succ m jg=>
   rintro i hi s p' pl acc _ _ aY rfl rfl e1 H7
   have GS:i<(Y n).length:=lA hi
   obtain⟨r,kA⟩:∃r,(Y n)[i]?=some r:=⟨_,List.getElem?_eq_getElem GS⟩;have tj:=List.mem_of_getElem? kA
   obtain⟨yd,X5⟩:=hd r tj;obtain⟨R2,GV⟩:=fH (b7 (f:=aK.led) tj);have Um:acc.length<=7*49:=by
    rw[←aB,e1];exact au (w7 _ (7^dd) _ fun r _=>oX P dd r.u _) (jH (au (ph ..) xS) JY)
   refine kS [2,3,4,5,0] b2 (H7.ch [6] GV [.o r.a (bK [.int r.u r.tu,.int r.w r.tw] 0),.l R2]) (fun bV=>OZ w S T U V l W n tn (ne n) z tz (v0::vs) (KK [st.toks,st.toks+1,st.toks+2]) (Z n) st.heap.objs.size (st.heap.objs.size+3) r.a (st.heap.objs.size+2) (st.toks+3) pl i r.u r.tu r.w r.tw (acc.map W4.ref) aY bV p' (zN s) s.toks s.gens nW:)
    (fun _=>aa (Fm kA) aj) fun bV s4 H9 B3 b3=>?_
   refine ih ((st.heap.objs.size,st.heap.objs.size+3)::l) (by rw[cX];lia) r.u (z+r.w) r.tu _ yd X5 _ B3 s4 _
    ([.o st.heap.objs.size (lC w.params (KK [st.toks,st.toks+1,st.toks+2]) W n tn z tz (st.toks+3) (st.heap.objs.size+2) (some (z1 pl s.toks,.int r.u r.tu,z2 pl (s.toks+1),.int r.w r.tw))),.o (st.heap.objs.size+3) (bx (Z n) (i+1)),.o (st.heap.objs.size+2) (ae (acc.map W4.ref) aY),.l (acc.map W4.led)]++E) b3 ((H9.ch [2,4,5,8] ((List.Perm.cons _ (GV.symm.append_right R)).trans hR.symm) [.l (ba Z ne Y)]).p [5,0,1,2,3,4] 6) fun s5 C cl Ar GW wa=>?_
   have DS:cl.length<=49:=by
    rw[←aB,GW];exact au (oX P dd r.u _) JY
   exact qG [4,6,0] b2 wa (fun ig=>O1 w S T U V l W n tn (ne n) z tz (v0::vs) (KK [st.toks,st.toks+1,st.toks+2]) (Z n) st.heap.objs.size (st.heap.objs.size+3) r.a (st.heap.objs.size+2) (st.toks+3) pl i r.u r.tu r.w r.tw (acc.map W4.ref) aY C (cl.map W4.ref) Ar (some (z1 pl s.toks,.int r.u r.tu,z2 pl (s.toks+1),.int r.w r.tw)) bV p' (zN s) s.toks s.gens ig (zN s5) s5.toks s5.gens nW:) (fun _=>aa (by rw[aB,aB];exact au (jG Um DS) (by decide)) aj) fun ig s6 As=>
    jg (i+1) (lB hi) s6 _ (some (z1 pl s.toks,.int r.u r.tu,z2 pl (s.toks+1),.int r.w r.tw)) (acc++cl) _ (acc.map W4.led++cl.map W4.led) (uo aY (cl.map W4.ref)) (aL ..) (aL ..) (by rw[aL,e1,GW,gf,kA];simp)
     (((As.ch [7,3] (List.Perm.refl _) [.l (acc.map W4.led++cl.map W4.led)]).ch [5] hR [.o (Z n) (ae (v0::vs) (ne n)),.l ((Y n).map aK.led),.l R]).p [4,8,0,5,3,7,1,2] 9)
 exact key (Y n).length 0 (fM _) s1 _ none [] _ _ 0 rfl rfl rfl (H2.p [2,4,1,3,0,5,6] 7)
include P in
theorem zm[ZI]:∀dd,JZ w S T U V W Z ne X Y bg dd:=by
 intro dd;induction dd with
 |zero=>intro l hl n z tn tz hn h Q B st pos E b H K;exact nX w S T U V W Z ne X Y bg 0 l hl n z tn tz hn h B st pos E b H K
 |succ dd ih=>
  intro l hl n z tn tz hn h Q B st pos E b H K
  by_cases hr:Y n=[]
  .exact nX w S T U V W Z ne X Y bg (dd+1) l (au (b8 ..) hl) n z tn tz hn hr B st pos E b H K
  .exact wm w S T U V W Z ne X Y bg P dd ih l hl n z tn tz hn hr h B st pos E b H K
end
end
end
section
open PySem.F
section
set_option tactic.hygienic false
def gE(xs:ZY):Prop:=∀y∈xs,∃n t,y=.int n t
section
variable{prog:Program}{w:ZW}{kt:KT}
noncomputable def tD(ix:Nat)(b:Bool):aX prog w kt:=kR ix (fun c a=>.builtin "list.__contains__" ⟨[.ref (af (v0 c)),.int (ak (v1 c)) (ao (v1 c))],[]⟩) du (fun c=>af (v0 c)) (fun c o=>[gE (ah o),((ah o).any fun y=>ak y==ak (v1 c))=b]) (fun a a a=>.bool b) 0
 fun c o s B pos hp Y hB a=>by
  have W:gE (ah o):=hp _ (.head _)
  have X:((ah o).any fun y=>ak y==ak (v1 c))=b:=hp _ (.tail _ (.head _))
  have g:=PySem.MeetsSeq.list_contains (af (v0 c)) ⟨ah o⟩ (eU o) (.int (ak (v1 c)) (ao (v1 c))) (fun y=>ak y==ak (v1 c)) (fun y Z=>by
   obtain⟨n,t,rfl⟩:=W y (by simpa using Z)
   exact PySem.MeetsSeq.EqGives.int _ _ _ _)
  refine bL hB (by decide+kernel) F.entry_list_contains g ⟨Y,?_,rfl⟩
  rw[show(⟨ah o⟩:Array ZV).any (fun y=>ak y==ak (v1 c))=(ah o).any fun y=>ak y==ak (v1 c) by simp,X]
end
end
end
section
open PySem.F PySem.Builtin PySem.Builtin.Str
section
set_option tactic.hygienic false
noncomputable def lD(e:PySem.Expr)(L:Addr)(p:Env)(cells:List (Str×Addr)):Env:={scope:={oL e with names:=(oL e).names.map fun(n,k)=>if k==.free&&p.scope.kind==.function&&p.kindOf n==some .cell then(n,.cell)else(n,k)},locals:=L,globals:=p.globals,cells:=cells,qual:=p.qual,func:=none,code:=p.code,frame:=p.frame,builtins:=p.builtins}
structure SC where
 LF:Addr
 cN:Addr
 cS:Addr
 cT:Addr
 IL:Addr
 AL:Addr
 LL:Addr
structure SY where
 F:Addr
 cH:Addr
 cD:Addr
def z3(w:ZW):PySem.Expr:=Ac (eK w 8)
def DT(w:ZW)(z:SC):Code:=.compLoop (z3 w) 0 (.ref z.IL) (.ref z.AL) (lD (z3 w) z.LL (bz w z.LF z.cN z.cS z.cT) [(⟨⟨[110,101,101,100,115]⟩⟩,z.cN)])
def DV(w:ZW)(z:SC):ZC:=(DT w z,⟨1014,13,1014,33⟩)::cA w z.LF z.cN z.cS z.cT ⟨1014,43,1014,51⟩
def m3(w:ZW)(y:SY):Env:=eB 942 (sV w.params) y.F [(⟨⟨[104,101,114,101]⟩⟩,y.cH),(⟨⟨[110,101,101,100,115]⟩⟩,y.cD)]
def yg(w:ZW)(y:SY)(Z:Addr):Code:=f6 (wR w 2) Z (m3 w y)
def nY(w:ZW)(z:SC)(y:SY):ZC:=(.func (aH (sV w.params)) (m3 w y),⟨968,16,968,27⟩)::DV w z
def z4(w:ZW):PySem.Expr:=Ac ((rS (wR w 2)).headD default)
def Fn(w:ZW):PySem.Expr:=UM (EW (z4 w))
def Fo(w:ZW)(y:SY)(Y Z:Addr):Env:=lD (z4 w) Y (m3 w y) [(⟨⟨[118]⟩⟩,Z),(⟨⟨[110,101,101,100,115]⟩⟩,y.cD),(⟨⟨[104,101,114,101]⟩⟩,y.cH)]
def J0(w:ZW)(y:SY)(Y Z:Addr):Env:=lD (Fn w) Y (Fo w y 0 Z) [(⟨⟨[118]⟩⟩,Z),(⟨⟨[110,101,101,100,115]⟩⟩,y.cD)]
def J1(w:ZW)(y:SY)(X W Y Z:Addr):Code:=.compStart (z4 w) 0 (.ref X) (.ref W) (Fo w y Y Z)
def mH(w:ZW)(y:SY)(X W Y Z:Addr):Code:=.compLoop (z4 w) 0 (.ref X) (.ref W) (Fo w y Y Z)
def J2(w:ZW)(y:SY)(X W Y Z:Addr):Code:=.compStart (Fn w) 0 (.ref X) (.ref W) (J0 w y Y Z)
def lE(w:ZW)(y:SY)(X W Y Z:Addr):Code:=.compLoop (Fn w) 0 (.ref X) (.ref W) (J0 w y Y Z)
def lH(w:ZW)(z:SC)(y:SY)(Z:Addr):ZC:=(yg w y Z,⟨969,27,969,35⟩)::nY w z y
def qk(w:ZW)(z:SC)(y:SY)(X W V Y Z:Addr):ZC:=(mH w y W V Y Z,⟨969,51,969,55⟩)::lH w z y X
noncomputable def ij(P:Params)(k:ZT)(n:Nat)(Y:Tok)(m:Int)(X:Tok)(Z:Option (Tok×ZV)):Obj:=fx ([dE P [116,111,112] (k 0) (.int n Y),dE P [109,111,115,116] (k 1) (.int m X)]++(match Z with|none=>[]|some p=>[dE P [115,116,101,112] p.1 p.2])) (match Z with|none=>2|some _=>3)
noncomputable def iT(Z:Option (Tok×ZV))(t:Tok):Tok:=match Z with|none=>t|some p=>p.1
noncomputable def uD(P:Params)(Z:Option (Tok×ZV)):Obj:=match Z with|none=>gj [] 0|some p=>gj [dE P [117] p.1 p.2] 1
noncomputable def VC(Z:Option (Tok×ZV)):Obj:=match Z with|none=>gj [] 0|some _=>gj [] 2
section
variable(w:ZW)(z:SC)(E n:Nat)(J:Tok)(y:SY)(U:Nat)(k:ZT)(m:Int)(s:Tok)(M:Option (Tok×ZV))(i r Q P L W H:Nat)(l:Option ZV)(K:ZY)(V I B C u:Nat)(tu:Tok)(v:Nat)(A:Tok)(p:Nat->Nat)(nl:ZY)(q:Nat)(D:aK)(rs:List aK)(ep:Nat)(as:ZY)(R:Nat)(x:ZV)(xs:ZY)(O:Nat)(j:Tok)(v0:ZV)(ks o:Tok)(h:Option ZV)(X:ZL)(Y:Pos)(Z T:Nat)(S:ZG)(fr:ZL)(pos:Pos)(N t:Nat)(G:ZG)
def DW:ZH w:=jn [dz 0x2614e121142df4a7073c11193c07090f7e,[(0,.stop)]]
def DX:ay:=aq (V0 w (DV w z)) (DW w) fr (.call (.ref 942) ⟨[.ref E,.int n J],[]⟩) pos [] [] N t G
abbrev O4:dK:=⟨(DX w z E n J fr pos N t G),(yg w ⟨N,N+2,N+1⟩ (N+5)),⟨[],[(N,fx [dE w.params [116,111,112] t (.int n J),dE w.params [109,111,115,116] (t+2) (.int 0 (t+1))] 2),((N+1),⟨(.type "cell"),none,(.cell (some (.ref E))),⟨[]⟩⟩),((N+2),⟨(.type "cell"),none,(.cell (some (.ref (N+3)))),⟨[]⟩⟩),((N+3),⟨(.type "list"),none,(.seq ⟨[(.int n J)]⟩ 0),⟨[]⟩⟩),((N+5),⟨(.type "range_iterator"),none,(.fields ⟨[(.int 1 0),(.int 4 0),(.int 1 0)]⟩),⟨[]⟩⟩)],[]⟩,(N+6),(t+6)⟩
theorem O5:(O4 w z E n J fr pos N t G).ok (V0 w (DV w z)) (DW w) pos (nY w z ⟨N,N+2,N+1⟩) 0 [0,1,2,3,5] G:=by apply aC w;kernel_rfl
def DY:ZH w:=jn [dz 0xdd7f07e3,[(3,.stop)]]
def w8:ay:=aq (V0 w (nY w z y)) (DY w) fr (yg w y U) pos [(y.F,ij w.params k n J m s M),(U,b6 i (r+1:Nat))] [] N t G
abbrev O6:dK:=⟨(w8 w z n J y U k m s M i r fr pos N t G),(J1 w y (N+1) (N+2) (N+3) (N+4)),⟨[(y.F,ij w.params k n J m s (some (iT M (t+1),.int i t))),(U,b6 (i+1:Nat) (((r+1:Nat):Int)-1))],[((N+1),⟨(.type "range_iterator"),none,(.fields ⟨[(.int 0 0),(.int 4 0),(.int 1 0)]⟩),⟨[]⟩⟩),((N+2),⟨(.type "list"),none,(.seq ⟨[]⟩ 0),⟨[]⟩⟩),((N+3),⟨(.type "dict"),none,(.dict ⟨[]⟩ 0),⟨[]⟩⟩),((N+4),⟨(.type "cell"),none,(.cell none),⟨[]⟩⟩)],[]⟩,(N+5),(t+5)⟩
theorem O7:(O6 w z n J y U k m s M i r fr pos N t G).ok (V0 w (nY w z y)) (DY w) pos (lH w z y U) 2 [3,4,5,6] G:=by apply cm M;apply aC w;kernel_rfl
def yh:ZH w:=h2 w (jn [dz 0xd6,[(0,.tail)]]) (jn [[(1,.tail)]])
abbrev G2:c7:=⟨(aq (V0 w (lH w z y U)) (yh w) fr (J1 w y Q P L W) pos [(Q,b6 i r)] [] N t G),(mH w y Q P L W),(bif w.params.followText "comprehension-iter-twice" then pos else⟨969,27,969,35⟩),⟨[(Q,b6 i r)],[],[]⟩,N,t⟩
theorem G3:(G2 w z y U i r Q P L W fr pos N t G).ok (yh w) pos 1 [] G:=by apply h9 w;kernel_rfl
def DZ:ZH w:=jn [dz 0x3823081a0e0f0acb,[(2,.stop)]]
def tE:ay:=aq (V0 w (lH w z y U)) (DZ w) fr (mH w y Q P L W) pos [(Q,b6 i (r+1:Nat)),(W,aP l),(y.cH,aP (some (.ref H))),(H,ae K V)] [] N t G
abbrev O8:dK:=⟨(tE w z y U i r Q P L W H l K V fr pos N t G),(J2 w y N (N+1) (N+2) W),⟨[(Q,b6 (i+1:Nat) (((r+1:Nat):Int)-1)),(W,aP (some (.int i t))),(y.cH,aP (some (.ref H))),(H,ae K V)],[(N,⟨(.type "list_iterator"),none,(.fields ⟨[(.ref H),(.int 0 0)]⟩),⟨[]⟩⟩),((N+1),⟨(.type "list"),none,(.seq ⟨[]⟩ 0),⟨[]⟩⟩),((N+2),⟨(.type "dict"),none,(.dict ⟨[]⟩ 0),⟨[]⟩⟩)],[]⟩,(N+3),(t+1)⟩
theorem O9:(O8 w z y U i r Q P L W H l K V fr pos N t G).ok (V0 w (lH w z y U)) (DZ w) pos (qk w z y U Q P L W) 4 [4,5,6] G:=by apply aC w;kernel_rfl
def yi:ZH w:=h2 w (jn [dz 0xd6,[(0,.tail)]]) (jn [[(1,.tail)]])
abbrev G4:c7:=⟨(aq (V0 w (qk w z y U Q P L W)) (yi w) fr (J2 w y I B C W) pos [(I,bx H i)] [] N t G),(lE w y I B C W),(bif w.params.followText "comprehension-iter-twice" then pos else⟨969,51,969,55⟩),⟨[(I,bx H i)],[],[]⟩,N,t⟩
theorem G5:(G4 w z y U i Q P L W H I B C fr pos N t G).ok (yi w) pos 1 [] G:=by apply h9 w;kernel_rfl
def G6:ZH w:=jn [dz 0xbd,[(0,.ai (fu 0 1 (.int u tu)))],dz 0xe8,[(0,.ai (d0 5 (.ref (p u))))],dz 0x4832f1,[(2,.ai (Ad w false (m3 w y) (D::rs) ep 10 8 9 6 0))],dz 0x311e33301c1b,[(0,.ai (tD 9 true))],dz 0x2b02,[(0,.ai (eJ 7))],[(0,.tail)]]
def G7:ay:=aq (V0 w (qk w z y U Q P L W)) (G6 w y u tu p D rs ep) fr (lE w y I B C W) pos [(I,bx H i),(H,ae K V),(C,uD w.params M),(W,aP (some (.int v A))),(y.cD,aP (some (.ref E))),(E,ae nl q),((p u),ae (bh (D::rs)) ep),(B,ae as R)] [(D::rs).map aK.led] N t G
theorem G8:f5 8 [] (G7 w z E y U M i Q P L W H K V I B C u tu v A p nl q D rs ep as R fr pos N t G) (lE w y I B C W) ⟨969,40,969,41⟩ [(I,bx H (i+1)),(H,ae K V),(C,uD w.params (some (iT M t,.int u tu))),(W,aP (some (.int v A))),(y.cD,aP (some (.ref E))),(E,ae nl q),((p u),ae (bh (D::rs)) ep),(B,ae (as++[.int u tu]) (R+1))] [] (Nf fr 2) (Tf fr 2) G 0 [as.length<=16777216,gE (bB (D::rs)),((bB (D::rs)).any fun y=>ak y==(v:Int))=true,(D::rs).length<=7,eN u nl (.ref (p u)),K[i]?=some (.int u tu)] [(D::rs).map aK.led]:=by apply cm M;apply aC w;kernel_rfl
def G9:ZH w:=jn [dz 0xbd,[(0,.ai (fu 0 1 (.int u tu)))],dz 0xe8,[(0,.ai (d0 5 (.ref (p u))))],dz 0x4832f1,[(2,.ai (Ad w false (m3 w y) (D::rs) ep 10 8 9 6 0))],dz 0x311e33301c1b,[(0,.ai (tD 9 false))],[(0,.tail)]]
def Ha:ay:=aq (V0 w (qk w z y U Q P L W)) (G9 w y u tu p D rs ep) fr (lE w y I B C W) pos [(I,bx H i),(H,ae K V),(C,uD w.params M),(W,aP (some (.int v A))),(y.cD,aP (some (.ref E))),(E,ae nl q),((p u),ae (bh (D::rs)) ep),(B,ae as R)] [(D::rs).map aK.led] N t G
theorem Hb:f5 8 [] (Ha w z E y U M i Q P L W H K V I B C u tu v A p nl q D rs ep as R fr pos N t G) (lE w y I B C W) ⟨969,59,969,94⟩ [(I,bx H (i+1)),(H,ae K V),(C,uD w.params (some (iT M t,.int u tu))),(W,aP (some (.int v A))),(y.cD,aP (some (.ref E))),(E,ae nl q),((p u),ae (bh (D::rs)) ep),(B,ae as R)] [] (Nf fr 2) (Tf fr 2) G 0 [gE (bB (D::rs)),((bB (D::rs)).any fun y=>ak y==(v:Int))=false,(D::rs).length<=7,eN u nl (.ref (p u)),K[i]?=some (.int u tu)] [(D::rs).map aK.led]:=by apply cm M;apply aC w;kernel_rfl
def Hc:ZH w:=jn [dz 0xbd,[(0,.ai (fu 0 1 (.int u tu)))],dz 0xe8,[(0,.ai (d0 5 (.ref (p u))))],dz 0x4832f1,[(2,.ai (Ad w false (m3 w y) [] ep 10 8 9 6 0))],dz 0x311e311b,[(0,.ai (tD 9 false))],[(0,.tail)]]
def Hd:ay:=aq (V0 w (qk w z y U Q P L W)) (Hc w y u tu p ep) fr (lE w y I B C W) pos [(I,bx H i),(H,ae K V),(C,uD w.params M),(W,aP (some (.int v A))),(y.cD,aP (some (.ref E))),(E,ae nl q),((p u),ae (bh []) ep),(B,ae as R)] [([]:List aK).map aK.led] N t G
theorem He:f5 8 [] (Hd w z E y U M i Q P L W H K V I B C u tu v A p nl q ep as R fr pos N t G) (lE w y I B C W) ⟨969,59,969,94⟩ [(I,bx H (i+1)),(H,ae K V),(C,uD w.params (some (iT M t,.int u tu))),(W,aP (some (.int v A))),(y.cD,aP (some (.ref E))),(E,ae nl q),((p u),ae (bh []) ep),(B,ae as R)] [] (Nf fr 2) (Tf fr 2) G 0 [gE (bB []),((bB []).any fun y=>ak y==(v:Int))=false,([]:List aK).length<=7,eN u nl (.ref (p u)),K[i]?=some (.int u tu)] [([]:List aK).map aK.led]:=by apply cm M;apply aC w;kernel_rfl
def yj:ZH w:=jn [dz 0xbd,[(0,.ai (qf 0 1))],dz 0x8,[(0,.fin)]]
abbrev Hf:dp:=⟨(aq (V0 w (qk w z y U Q P L W)) (yj w) fr (lE w y I B C W) pos [(I,bx H i),(H,ae K V)] [] N t G),(.ok .next),⟨[(I,jO "list_iterator" i),(H,ae K V)],[],[K[i]?=none]⟩,(N+2),t⟩
theorem Hg:(Hf w z y U i Q P L W H K V I B C fr pos N t G).ok (yj w) pos 2 [] G:=by apply aC w;kernel_rfl
def yk:ZH w:=jn [dz 0x313ef34281a08,[(0,.ai (eJ 1))],[(0,.tail)]]
abbrev Hh:c7:=⟨(bo (V0 w (lH w z y U)) (yk w) fr (tE w z y U i r Q P L W H l K V X Y Z T S) (.ok .next) [(W,aP (some (.int v A))),(P,ae as R),((Z+1),ae (x::xs) O),((Z+2),uD w.params (some (j,v0)))] [] N t G),(mH w y Q P L W),⟨969,16,969,17⟩,⟨[(W,aP (some (.int v A))),(P,ae (as++[.int v A]) (R+1)),((Z+1),ae (x::xs) O),((Z+2),VC (some (j,v0)))],[],[as.length<=16777216]⟩,(N+1),t⟩
theorem Hi:(Hh w z y U i r Q P L W H l K V v A as R x xs O j v0 X Y Z T S fr N t G).ok (yk w) ⟨0,0,0,0⟩ 4 [] G:=by apply aC w;kernel_rfl
def yl:ZH w:=jn [dz 0x140b1402ef34281a08,[(2,.tail)]]
abbrev Hj:c7:=⟨(bo (V0 w (lH w z y U)) (yl w) fr (tE w z y U i r Q P L W H l K V X Y Z T S) (.ok .next) [(W,aP (some (.int v A))),(P,ae as R),((Z+1),ae [] O),((Z+2),uD w.params (some (j,v0)))] [] N t G),(mH w y Q P L W),⟨969,39,969,101⟩,⟨[(W,aP (some (.int v A))),(P,ae as R),((Z+1),ae [] O),((Z+2),VC (some (j,v0)))],[],[]⟩,(N+1),t⟩
theorem Hk:(Hj w z y U i r Q P L W H l K V v A as R O j v0 X Y Z T S fr N t G).ok (yl w) ⟨0,0,0,0⟩ 4 [] G:=by apply aC w;kernel_rfl
def ym:ZH w:=jn [dz 0x140b1402ef1f08,[(2,.tail)]]
abbrev Hl:c7:=⟨(bo (V0 w (lH w z y U)) (ym w) fr (tE w z y U i r Q P L W H l K V X Y Z T S) (.ok .next) [(W,aP (some (.int v A))),(P,ae as R),((Z+1),ae [] O),((Z+2),uD w.params none)] [] N t G),(mH w y Q P L W),⟨969,39,969,101⟩,⟨[(W,aP (some (.int v A))),(P,ae as R),((Z+1),ae [] O),((Z+2),uD w.params none)],[],[]⟩,(N+1),t⟩
theorem Hm:(Hl w z y U i r Q P L W H l K V v A as R O X Y Z T S fr N t G).ok (ym w) ⟨0,0,0,0⟩ 4 [] G:=by apply aC w;kernel_rfl
def yn:ZH w:=jn [dz 0xde,[(0,.fin)]]
abbrev Hn:dp:=⟨(aq (V0 w (lH w z y U)) (yn w) fr (mH w y Q P L W) pos [(Q,b6 i 0)] [] N t G),(.ok .next),⟨[(Q,b6 i 0)],[],[]⟩,(N+2),t⟩
theorem Ho:(Hn w z y U i Q P L W fr pos N t G).ok (yn w) pos 1 [] G:=by apply aC w;kernel_rfl
def yo:ZH w:=jn [dz 0xd50de7040f04,[(1,.tail)]]
abbrev Hr:c7:=⟨(bo (V0 w (nY w z y)) (yo w) fr (w8 w z n J y U k m s M i r X Y Z T S) (.ok .next) [(y.F,ij w.params k n J m s (some (ks,.int i o))),(y.cH,aP h),((Z+2),ae (x::xs) O)] [] N t G),(yg w y U),⟨971,12,971,16⟩,⟨[(y.F,ij w.params k n J i o (some (ks,.int i o))),(y.cH,aP (some (.ref (Z+2)))),((Z+2),ae (x::xs) O)],[],[]⟩,(N+1),(t+1)⟩
theorem Hs:(Hr w z n J y U k m s M i r x xs O ks o h X Y Z T S fr N t G).ok (yo w) ⟨0,0,0,0⟩ 3 [] G:=by apply cm M;apply aC w;kernel_rfl
def yp:ZH w:=jn [dz 0x80b0802e7040f04,[(2,.tail)]]
abbrev Ht:c7:=⟨(bo (V0 w (nY w z y)) (yp w) fr (w8 w z n J y U k m s M i r X Y Z T S) (.ok .next) [(y.F,ij w.params k n J m s (some (ks,.int i o))),(y.cH,aP h),((Z+2),ae [] O)] [] N t G),(yg w y U),⟨970,11,970,21⟩,⟨[(y.F,ij w.params k n J m s (some (ks,.int i o))),(y.cH,aP (some (.ref (Z+2)))),((Z+2),ae [] O)],[],[]⟩,(N+1),t⟩
theorem Hu:(Ht w z n J y U k m s M i r O ks o h X Y Z T S fr N t G).ok (yp w) ⟨0,0,0,0⟩ 3 [] G:=by apply cm M;apply aC w;kernel_rfl
def yq:ZH w:=jn [dz 0x37d403c0,[(1,.fin)]]
abbrev Hv:dp:=⟨(aq (V0 w (nY w z y)) (yq w) fr (yg w y U) pos [(y.F,ij w.params k n J m s M),(U,b6 i 0)] [] N t G),(.ok .next),⟨[(y.F,ij w.params k n J m s M),(U,b6 i 0)],[],[]⟩,(N+2),t⟩
theorem Hw:(Hv w z n J y U k m s M i fr pos N t G).ok (yq w) pos 2 [] G:=by apply aC w;kernel_rfl
def D0:ZH w:=jn [dz 0x9,[(0,.fin)]]
def Pa:ay:=bo (V0 w (DV w z)) (D0 w) fr (DX w z E n J X Y Z T S) (.ok .next) [(Z,ij w.params k n J m s M)] [] N t G
abbrev Pd:dp:=⟨(Pa w z E n J k m s M X Y Z T S fr N t G),(.ok (.ret (.int m s))),⟨[(Z,ij w.params k n J m s M)],[],[]⟩,N,t⟩
theorem Pe:(Pd w z E n J k m s M X Y Z T S fr N t G).ok (D0 w) ⟨0,0,0,0⟩ 1 [] G:=by apply cm M;apply aC w;kernel_rfl
end
end
section
set_option tactic.hygienic false
noncomputable def eE(Z:Nat->List aK)(v u:Nat):Bool:=(Z u).any fun r=>r.u==v
theorem fA(rs:List aK):gE (bB rs):=by intro y Z;obtain⟨r,_,rfl⟩:=aZ.mp Z;exact⟨r.u,r.tu,rfl⟩
theorem t6(rs:List aK)(v:Nat):((bB rs).any fun y=>ak y==(v:Int))=rs.any fun r=>r.u==v:=by
 unfold bB;rw[List.any_map]
 congr 1
 funext r;show((r.u:Int)==(v:Int))=(r.u==v)
 rw[Bool.eq_iff_iff,beq_iff_eq,beq_iff_eq];exact mO
section
variable(w:ZW)(z:SC)(y:SY)(V:Addr)(Z ne:Nat->Nat)(W:Nat)(Y:Nat->List aK)(bg:List aQ)(U:∀v,(Y v).length<=7)
noncomputable def RO(w:ZW)(y:SY)(M L N O H T:Nat)(P:ZY)(v:Nat)(R:Tok)(V:Nat)(nl:ZY)(W i:Nat)(Q:Option (Tok×ZV))(as:ZY)(S:Nat)(X:List Bk):List Bk:=.o M (bx H i)::.o H (ae P T)::.o N (uD w.params Q)::.o O (aP (some (.int v R)))::.o y.cD (aP (some (.ref V)))::.o V (ae nl W)::(X++[.o L (ae as S)])
include U in
theorem zo[ZI]{Q:ZR}(IT I1 A1 L1 cV I2 A2 L2 H jh:Nat)(hs:List (Nat×Tok))(hh:∀e∈hs,e.1<4)(hl:hs.length<=4)(v:Nat)(tv:Tok)(E:List Bk)(B:aS)(b:Bt (qk w z y IT I1 A1 L1 cV) none B)(K:∀s' sv aY,(sv=none↔hs=[])->Hq w s' ([.o H (ae (iv hs) jh),.o L2 (uD w.params sv),.o cV (aP (some (.int v tv))),.o y.cD (aP (some (.ref V))),.o V (ae (b5 Z) W),.o A2 (ae (iv (hs.filter fun e=>eE Y v e.1)) aY),.l (ba Z ne Y)]++E) bg->Q (.ok .next) s'):∀(m i:Nat),i+m=hs.length->∀(s:ZS)(p:Pos)(sv:Option (Tok×ZV))(as:List (Nat×Tok))(aY:Nat),
  as=(hs.take i).filter (fun e=>eE Y v e.1)->(sv=none↔i=0)->
  Hq w s (RO w y I2 A2 L2 cV H jh (iv hs) v tv V (b5 Z) W i sv (iv as) aY []++.l (ba Z ne Y)::E) bg->
  Rn w B s (lE w y I2 A2 L2 cV) p Q:=by
 intro m;induction m with
 |zero=>
  intro i hi s p sv as aY e1 e2 H0;obtain rfl:i=hs.length:=hi;rw[gZ]at e1;subst e1;exact kF [0,1] b H0 (fun fr=>Hg w z y IT hs.length I1 A1 L1 cV H (iv hs) jh I2 A2 L2 fr p (zN s) s.toks s.gens:) (fun _=>aa (List.getElem?_eq_none (dX (aB ..))) aj) fun fr s' H8=>
   K s' sv aY (e2.trans ⟨jF,fun h=>by rw[h];rfl⟩) (H8.p [1,2,3,4,5,6,7] 8)
 |succ m jg=>
  intro i hi s p sv as aY e1 e2 H0;obtain⟨⟨u,tu⟩,hu⟩:∃e,hs[i]?=some e:=⟨_,List.getElem?_eq_getElem (lA hi)⟩;have yd:u<4:=hh _ (List.mem_of_getElem? hu)
  have RP:(iv hs)[i]?=some (.int u tu):=by rw[gz,hu];rfl
  have has:(iv as).length<=16777216:=by
   rw[e1];refine au (dX (aB ..)) (au (kK _ _) ?_);rw[List.length_take];lia
  obtain⟨R,hR⟩:=jX Z ne Y yd
  replace hR:(ba Z ne Y).Perm ((Z u,ae (bh (Y u)) (ne u))::((Y u).map aK.led++R)):=hR
  have ht:(hs.take (i+1)).filter (fun e=>eE Y v e.1)=as++if eE Y v u then[(u,tu)]else[]:=by
   rw[gf,hu,mT,←e1];cases q:eE Y v u<;>simp[q]
  have h7:=U u
  have hf:((bB (Y u)).any fun y=>ak y==(v:Int))=eE Y v u:=t6 (Y u) v
  generalize Y u=rr at hR h7 hf;have H1:Hq w s (RO w y I2 A2 L2 cV H jh (iv hs) v tv V (b5 Z) W i sv (iv as) aY [.o (Z u) (ae (bh rr) (ne u))]++.l (rr.map aK.led)::(.l R::E)) bg:=(H0.ch [7] hR [.o (Z u) (ae (bh rr) (ne u)),.l (rr.map aK.led),.l R]).p [3,4,5,6,7,8,0,9,1,2] 10
  have back:∀(s':ZS)(wo:List (Nat×Tok))(av:ZY)(ki:Nat),iv wo=av->wo=as++(if eE Y v u then[(u,tu)]else[])->Hq w s' (RO w y I2 A2 L2 cV H jh (iv hs) v tv V (b5 Z) W (i+1) (some (iT sv s.toks,.int u tu)) av ki [.o (Z u) (ae (bh rr) (ne u))]++.l (rr.map aK.led)::(.l R::E)) bg->∀p',Rn w B s' (lE w y I2 A2 L2 cV) p' Q:=fun s' wo av ki RQ ea H9 p'=>by
   subst RQ;exact jg (i+1) (lB hi) s' p' (some (iT sv s.toks,.int u tu)) wo ki (by rw[ea,ht]) ⟨(nomatch ·),(nomatch ·)⟩ ((H9.ch [6,8,9] hR.symm [.l (ba Z ne Y)]).p [1,2,3,4,5,6,7,0] 8)
  rcases rr with _|⟨r0,GA⟩
  .exact Q0 b H1 (fun fr=>He w z V y IT sv i I1 A1 L1 cV H (iv hs) jh I2 A2 L2 u tu v tv Z (b5 Z) W (ne u) (iv as) aY fr p (zN s) s.toks s.gens:) (fun _=>rfl) (fun _=>aa (fA []) (aa rfl (aa (by decide) (aa (dt Z yd) (aa RP aj))))) fun fr s' H9=>
    back s' as _ aY rfl (by rw[←hf];exact(bY _).symm) H9 _
  .cases hb:eE Y v u with
   |true=>
    refine Q0 b H1 (fun fr=>G8 w z V y IT sv i I1 A1 L1 cV H (iv hs) jh I2 A2 L2 u tu v tv Z (b5 Z) W r0 GA (ne u) (iv as) aY fr p (zN s) s.toks s.gens:) (fun _=>rfl) (fun _=>aa has (aa (fA _) (aa (hf.trans hb) (aa h7 (aa (dt Z yd) (aa RP aj)))))) fun fr s' H9=>?_
    exact back s' (as++[(u,tu)]) _ (aY+1) (lW ..) (by rw[hb];rfl) H9 _
   |false=>
    exact Q0 b H1 (fun fr=>Hb w z V y IT sv i I1 A1 L1 cV H (iv hs) jh I2 A2 L2 u tu v tv Z (b5 Z) W r0 GA (ne u) (iv as) aY fr p (zN s) s.toks s.gens:) (fun _=>rfl) (fun _=>aa (fA _) (aa (hf.trans hb) (aa h7 (aa (dt Z yd) (aa RP aj))))) fun fr s' H9=>
     back s' as _ aY rfl (by rw[hb];exact(bY _).symm) H9 _
end
end
section
set_option tactic.hygienic false
theorem yr{α:Type}(p:α->Bool):∀l:List α,l.any p=!(l.filter p).isEmpty
 |[]=>rfl
 |a::l=>by
  rw[List.any_cons,gY];cases p a
  .exact yr p l
  .rfl
section
variable(w:ZW)(z:SC)(y:SY)(W:Addr)(X ne:Nat->Nat)(Y:Nat)(Z:Nat->List aK)(bg:List aQ)(V:∀v,(Z v).length<=7)
include V in
theorem zp[ZI]{Q:ZR}(IT I1 A1 L1 cV H jh:Nat)(hs:List (Nat×Tok))(hh:∀e∈hs,e.1<4)(hl:hs.length<=4)(E:List Bk)(B:aS)(b:Bt (lH w z y IT) none B)(K:∀s' (as:List (Nat×Tok)) aY,as.map (·.1)=(List.range 4).filter (fun v=>hs.any fun e=>eE Z v e.1)->Hq w s' ([.o y.cH (aP (some (.ref H))),.o y.cD (aP (some (.ref W))),.o W (ae (b5 X) Y),.o A1 (ae (iv as) aY),.l (ba X ne Z)]++E) bg->Q (.ok .next) s'):∀(m i:Nat),i+m=4->∀(mi:Int),mi=m->∀(s:ZS)(p:Pos)(vv:Option ZV)(as:List (Nat×Tok))(aY:Nat),
  as.map (·.1)=(List.range i).filter (fun v=>hs.any fun e=>eE Z v e.1)->
  Hq w s ([.o I1 (b6 i mi),.o cV (aP vv),.o y.cH (aP (some (.ref H))),.o H (ae (iv hs) jh),.o y.cD (aP (some (.ref W))),.o W (ae (b5 X) Y),.o A1 (ae (iv as) aY),.l (ba X ne Z)]++E) bg->
  Rn w B s (mH w y I1 A1 L1 cV) p Q:=by
 intro m;induction m with
 |zero=>
  rintro i hi _ rfl s p vv as aY e1 H0
  obtain rfl:i=4:=hi;exact kF [0] b H0 (fun fr=>Ho w z y IT 4 I1 A1 L1 cV fr p (zN s) s.toks s.gens:) (fun _=>aj) fun fr s' H8=>K s' as aY e1 (H8.p [2,4,5,6,7] 8)
 |succ m jg=>
  rintro i hi _ rfl s p vv as aY e1 H0
  have Au:(iv as).length<=16777216:=by
   have:=congrArg List.length e1
   rw[aB]at this;refine au (dX ((aB ..).trans this)) (au (kK _ _) ?_);rw[sF];lia
  refine kS [0,1,2,3] b H0 (fun fr=>O9 w z y IT i m I1 A1 L1 cV H vv (iv hs) jh fr p (zN s) s.toks s.gens:) (fun _=>aj) fun fr s1 H1 B' b'=>?_
  refine kT [4] b' H1 (fun bV=>G5 w z y IT 0 I1 A1 L1 cV H s.heap.objs.size (s.heap.objs.size+1) (s.heap.objs.size+2) bV _ (zN s1) s1.toks s1.gens:) (fun _=>aj) fun bV s2 H3=>?_
  refine zo w z y W X ne Y Z bg V IT I1 A1 L1 cV s.heap.objs.size (s.heap.objs.size+1) (s.heap.objs.size+2) H jh hs hh hl i s.toks ([.o I1 (b6 (i+1:Nat) (((m+1:Nat):Int)-1)),.o y.cH (aP (some (.ref H))),.o A1 (ae (iv as) aY)]++E) B' b' (fun s3 sv ki X6 H4=>?_) hs.length 0 (fM _) s2 _ none [] 0 rfl ⟨fun _=>rfl,fun _=>rfl⟩ (H3.p [0,4,6,2,7,8,5,10,1,3,9] 11)
  have ht:((List.range (i+1)).filter fun v=>hs.any fun e=>eE Z v e.1)=as.map (·.1)++if(hs.any fun e=>eE Z i e.1)then[i]else[]:=by
   rw[mV,mT,←e1];cases q:hs.any fun e=>eE Z i e.1<;>simp[q]
  have back:∀(s':ZS)(wo:List (Nat×Tok))(av:ZY)(w9:Nat)(xx uu:Obj),iv wo=av->wo.map (·.1)=as.map (·.1)++(if(hs.any fun e=>eE Z i e.1)then[i]else[])->
    Hq w s' ([.o cV (aP (some (.int i s.toks))),.o A1 (ae av w9),.o (s.heap.objs.size+1) xx,.o (s.heap.objs.size+2) uu,.o H (ae (iv hs) jh),.o y.cD (aP (some (.ref W))),.o W (ae (b5 X) Y),.l (ba X ne Z),.o I1 (b6 (i+1:Nat) (((m+1:Nat):Int)-1)),.o y.cH (aP (some (.ref H)))]++E) bg->
    ∀p',Rn w B s' (mH w y I1 A1 L1 cV) p' Q:=fun s' wo av w9 xx uu RQ ea H9 p'=>by
   subst RQ;exact jg (i+1) (lB hi) _ (xu m) s' p' (some (.int i s.toks)) wo w9 (by rw[ea,ht]) (H9.p [8,0,9,4,5,6,1,7] 10)
  have ha:(hs.any fun e=>eE Z i e.1)=!(hs.filter fun e=>eE Z i e.1).isEmpty:=yr _ hs
  have nZ:sv=none->hs.filter (fun e=>eE Z i e.1)=[]:=fun h=>by rw[X6.mp h];rfl
  rw[ha]at back;generalize hs.filter (fun e=>eE Z i e.1)=ff at H4 nZ back
  rcases ff with _|⟨e0,X7⟩
  .rcases sv with _|⟨k0,v0⟩
   .exact qG [2,9,5,1] b H4 (fun bV=>Hm w z y IT i m I1 A1 L1 cV H vv (iv hs) jh i s.toks (iv as) aY ki fr p (zN s) s.toks s.gens bV (zN s3) s3.toks s3.gens:) (fun _=>aj) fun bV s4 H6=>
     back s4 as _ aY _ _ rfl (bY _).symm H6 _
   .exact qG [2,9,5,1] b H4 (fun bV=>Hk w z y IT i m I1 A1 L1 cV H vv (iv hs) jh i s.toks (iv as) aY ki k0 v0 fr p (zN s) s.toks s.gens bV (zN s3) s3.toks s3.gens:) (fun _=>aj) fun bV s4 H6=>
     back s4 as _ aY _ _ rfl (bY _).symm H6 _
  .rcases sv with _|⟨k0,v0⟩
   .exact nomatch nZ rfl
   .exact qG [2,9,5,1] b H4 (fun bV=>Hi w z y IT i m I1 A1 L1 cV H vv (iv hs) jh i s.toks (iv as) aY (.int e0.1 e0.2) (iv X7) ki k0 v0 fr p (zN s) s.toks s.gens bV (zN s3) s3.toks s3.gens:) (fun _=>aa Au aj) fun bV s4 H6=>
     back s4 (as++[(i,s.toks)]) _ (aY+1) _ _ (lW ..) (aL ..) H6 _
end
end
section
set_option tactic.hygienic false
noncomputable def hG(Z:Nat->List aK)(top:Nat):Nat->ZN
 |0=>[top]
 |j+1=>(List.range 4).filter fun v=>(hG Z top j).any fun u=>eE Z v u
noncomputable def bU(Z:Nat->List aK)(top:Nat):Nat->Nat
 |0=>0
 |j+1=>if hG Z top (j+1)=[]then bU Z top j else j+1
section
variable(w:ZW)(z:SC)(W:Addr)(X ne:Nat->Nat)(Y:Nat)(Z:Nat->List aK)(bg:List aQ)(V:∀v,(Z v).length<=7)
include V in
theorem wq[ZI]{Q:ZR}(y:SY)(IT:Addr)(k:ZT)(n:Nat)(tn:Tok)(E:List Bk)(B:aS)(b:Bt (nY w z y) none B)(K:∀s' tm sv,Hq w s' ([.o y.F (ij w.params k n tn (bU Z n 4:Nat) tm sv),.o W (ae (b5 X) Y),.l (ba X ne Z)]++E) bg->Q (.ok .next) s'):∀(m j:Nat),j+m=4->∀(mi:Int),mi=m->∀(s:ZS)(p:Pos)(sv:Option (Tok×ZV))(mm:Nat)(tm:Tok)(H jh:Nat)(hs:List (Nat×Tok)),
  hs.map (·.1)=hG Z n j->(∀e∈hs,e.1<4)->hs.length<=4->mm=bU Z n j->
  Hq w s ([.o y.F (ij w.params k n tn mm tm sv),.o IT (b6 (j+1:Nat) mi),.o y.cH (aP (some (.ref H))),.o H (ae (iv hs) jh),.o y.cD (aP (some (.ref W))),.o W (ae (b5 X) Y),.l (ba X ne Z)]++E) bg->
  Rn w B s (yg w y IT) p Q:=by
 intro m;induction m with
 |zero=>
  rintro j hj _ rfl s p sv mm tm H jh hs e1 e2 e3 e4 H0
  obtain rfl:j=4:=hj;subst e4;exact kF [0,1] b H0 (fun fr=>Hw w z n tn y IT k (bU Z n 4:Nat) tm sv 5 fr p (zN s) s.toks s.gens:) (fun _=>aj) fun fr s' H8=>K s' tm sv (H8.p [0,5,6] 7)
 |succ m jg=>
  rintro j hj _ rfl s p sv mm tm H jh hs e1 e2 e3 e4 H0
  refine kS [0,1] b H0 (fun fr=>O7 w z n tn y IT k mm tm sv (j+1) m fr p (zN s) s.toks s.gens:) (fun _=>aj) fun fr s1 H1 B' b'=>?_
  refine kT [2] b' H1 (fun bV=>G3 w z y IT 0 4 (s.heap.objs.size+1) (s.heap.objs.size+2) (s.heap.objs.size+3) (s.heap.objs.size+4) bV _ (zN s1) s1.toks s1.gens:) (fun _=>aj) fun bV s2 H3=>?_
  refine zp w z y W X ne Y Z bg V IT (s.heap.objs.size+1) (s.heap.objs.size+2) (s.heap.objs.size+3) (s.heap.objs.size+4) H jh hs e2 e3 ([.o y.F (ij w.params k n tn mm tm (some (iT sv (s.toks+1),.int (j+1:Nat) s.toks))),.o IT (b6 (j+1+1:Nat) (((m+1:Nat):Int)-1))]++E) B' b' (fun s3 as aY mv H4=>?_) 4 0 rfl _ rfl s2 _ none [] 0 rfl (H3.p [0,5,6,7,8,9,3,10,1,2] 11)
  have eh:as.map (·.1)=hG Z n (j+1):=by
   rw[mv];unfold hG;rw[←e1]
   congr 1
   funext v;rw[List.any_map];rfl
  have X8:∀e∈as,e.1<4:=fun e he=>fj.mp (iE.mp (mv▸b7 he:e.1∈(List.range 4).filter _)).1
  have Au:as.length<=4:=by
   have:=congrArg List.length mv
   rw[aB]at this;rw[this];exact kK _ (List.range 4)
  have back:∀s' p' (mm:Nat) tm,mm=bU Z n (j+1)->Hq w s' ([.o y.F (ij w.params k n tn mm tm (some (iT sv (s.toks+1),.int (j+1:Nat) s.toks))),.o y.cH (aP (some (.ref (s.heap.objs.size+2)))),.o (s.heap.objs.size+2) (ae (iv as) aY),.o y.cD (aP (some (.ref W))),.o W (ae (b5 X) Y),.l (ba X ne Z),.o IT (b6 (j+1+1:Nat) (((m+1:Nat):Int)-1))]++E) bg->Rn w B s' (yg w y IT) p' Q:=fun s' p' mm tm e H6=>
   jg (j+1) (lB hj) _ (xu m) s' p' (some (iT sv (s.toks+1),.int (j+1:Nat) s.toks)) mm tm (s.heap.objs.size+2) aY as eh X8 Au e (H6.p [0,6,1,2,3,4,5] 7)
  rcases as with _|⟨a0,X9⟩
  .exact qG [5,0,3] b H4 (fun bV=>Hu w z n tn y IT k mm tm sv (j+1) m aY (iT sv (s.toks+1)) s.toks (some (.ref H)) fr p (zN s) s.toks s.gens bV (zN s3) s3.toks s3.gens:) (fun _=>aj) fun bV s4 H6=>
    back s4 _ mm tm (e4.trans (if_pos eh.symm).symm) H6
  .exact qG [5,0,3] b H4 (fun bV=>Hs w z n tn y IT k mm tm sv (j+1) m (.int a0.1 a0.2) (iv X9) aY (iT sv (s.toks+1)) s.toks (some (.ref H)) fr p (zN s) s.toks s.gens bV (zN s3) s3.toks s3.gens:) (fun _=>aj) fun bV s4 H6=>
    back s4 _ (j+1) s.toks (if_neg (by rw[←eh];exact kG _ _)).symm H6
include V in
theorem wt[ZI]{Q:ZR}(n:Nat)(tn:Tok)(hn:n<4)(B:aS)(st:ZS)(pos:Pos)(E:List Bk)(b:Bt (DV w z) none B)(H:Hq w st ([.o W (ae (b5 X) Y),.l (ba X ne Z)]++E) bg)(K:∀s' t,Hq w s' ([.o W (ae (b5 X) Y),.l (ba X ne Z)]++E) bg->Q (.ok (.ret (.int (bU Z n 4:Nat) t))) s'):Rn w B st (.call (.ref 942) ⟨[.ref W,.int n tn],[]⟩) pos Q:=by
 refine kS [] b H (fun fr=>O5 w z W n tn fr pos (zN st) st.toks st.gens:) (fun _=>aj) fun fr s1 H1 B' b'=>?_
 refine wq w z W X ne Y Z bg V ⟨st.heap.objs.size,st.heap.objs.size+2,st.heap.objs.size+1⟩ (st.heap.objs.size+5) (KK [st.toks,st.toks+2]) n tn E B' b' (fun s2 tm sv H3=>?_) 4 0 rfl _ rfl s1 _ none 0 (st.toks+1) (st.heap.objs.size+3) 0 [(n,tn)] rfl (by intro e he;rcases bQ.mp he with rfl;exact hn) (Nat.le_add_left 1 3) rfl (H1.p [0,4,2,3,1,5,6] 7)
 exact pE [0] b H3 (fun bV=>Pe w z W n tn (KK [st.toks,st.toks+2]) (bU Z n 4:Nat) tm sv fr pos (zN st) st.toks st.gens bV (zN s2) s2.toks s2.gens:) (fun _=>aj) fun bV s3 H4=>K s3 tm (H4.p [1,2] 3)
end
end
end
section
open PySem.F
section
set_option tactic.hygienic false
section
variable{prog:Program}{w:ZW}{kt:KT}
noncomputable def gL(r:Int):aX prog w kt:=dg (k7 "int.__mod__") (fun c=>[(ak (v1 c)==0)=false,(ak (v0 c)).fmod (ak (v1 c))=r]) (fun a t=>.int r t) 1
 fun c a a a hp hB a=>by
  have Z:(ak (v1 c)==0)=false:=hp _ (.head _)
  have h2:(ak (v0 c)).fmod (ak (v1 c))=r:=hp _ (.tail _ (.head _))
  exact bf hB (by decide+kernel) PySem.F.entry_int_mod (PySem.AutoIntG6.int___mod___int_int_1 _ _ _ _ (by rw[Z];decide)) ⟨by rw[h2],rfl⟩
noncomputable def oDiv(r:Int):aX prog w kt:=dg (k7 "int.__floordiv__") (fun c=>[(ak (v1 c)==0)=false,(ak (v1 c)).natAbs<1073741824,(ak (v0 c)).fdiv (ak (v1 c))=r]) (fun a t=>.int r t) 1
 fun c a a a hp hB a=>by
  have Y:(ak (v1 c)==0)=false:=hp _ (.head _)
  have h2:(ak (v1 c)).natAbs<1073741824:=hp _ (.tail _ (.head _))
  have Z:(ak (v0 c)).fdiv (ak (v1 c))=r:=hp _ (.tail _ (.tail _ (.head _)))
  exact bf hB (by decide+kernel) PySem.F.entry_int_floordiv (PySem.AutoIntG4.int___floordiv___int_int_1 _ _ _ _ (by rw[Y];decide) (by rw[PyProof.noPylong_small h2];decide)) ⟨by rw[Z],rfl⟩
noncomputable def J3(o:Obj):Obj:={cls:=.type "slice",data:=.fields #[.none,.int (ak (aF o 1)) (ao (aF o 1)),.none]}
noncomputable def Pf(Z iS:Nat):aX prog w kt where
 A:=fun a c a a T=>⟨.builtin "list.__getitem__" ⟨[.ref (af (v0 c)),.ref (af (v1 c))],[]⟩,[Z,iS],[(af (v0 c),du (ab T Z)),(af (v1 c),J3 (ab T iS))],.fq,[0<=ak (aF (ab T iS) 1),(ah (ab T Z)).length<=16777216],[],[]⟩
 B:=fun a c N t T a=>⟨.ok (.ret (.ref N)),[du (ab T Z),J3 (ab T iS)],[(N,ae ((ah (ab T Z)).take (ak (aF (ab T iS) 1)).toNat) 0)],N+1,t,0,[]⟩
 ok:=fun a c T s B pos e hp a J hn a hB a C=>by
  have Q:s.heap.get? (af (v0 c))=some (du (ab T Z)):=J _ (.head _)
  have K:s.heap.get? (af (v1 c))=some (J3 (ab T iS)):=J _ (.tail _ (.head _))
  have h0:0<=ak (aF (ab T iS) 1):=hp _ (.head _)
  have D:(ah (ab T Z)).length<=16777216:=hp _ (.tail _ (.head _))
  have e:c=.builtin "list.__getitem__" ⟨[.ref (af (v0 c)),.ref (af (v1 c))],[]⟩:=e
  generalize H:ak (aF (ab T iS) 1)=k at*;generalize O:ao (aF (ab T iS) 1)=tk at*;have M:s.heap.IsSliceOf (af (v1 c)) .none (.int k tk) .none:=⟨_,K,rfl,by rw[J3,H,O]⟩
  have I:s.heap.IsList (af (v0 c)) ⟨ah (ab T Z)⟩:=nU Q
  obtain⟨j,rfl⟩:=Int.eq_ofNat_of_zero_le h0;have g:Meets (Builtin.«list.__getitem__» ⟨[.ref (af (v0 c)),.ref (af (v1 c))],[]⟩) (fun a R X=>X=s/\R (.ok (.ret (.ref s.heap.objs.size))) {s with heap:=s.heap.push (ae ((ah (ab T Z)).take j) 0)}):=by
   refine .of_wp fun prog w A R X h=>?_
   obtain⟨rfl,h⟩:=h;obtain⟨o,Q,y,ne,hd⟩:=id I;obtain⟨os,Y,L,V⟩:=id M;have U:X.TypeIs (.ref (af (v1 c))) "slice":=⟨os,Y,L⟩
   show wpAny _ _ (Builtin.List.listSubscript? (.ref (af (v1 c)))>>=_) _ _ X
   refine wpAny_bind ?_;unfold Builtin.List.listSubscript?;refine wpAny_bind (wpAny_specialOf U slice_no_index ?_);simp only[Option.isNone_none,if_true];refine wpAny_pure ?_;show wpAny _ _ (typeOf (.ref (af (v1 c)))>>=_) _ _ X
   refine wpAny_bind (wpAny_typeOf U ?_);rw[if_neg (by decide),listSliceParts_eq]
   refine wpAny_bind (wpAny_bind (wpAny_field Y V (x:=.none) rfl (wpAny_bind (wpAny_listPart .none ?_))));rw[if_neg (by exact fk)]
   refine wpAny_bind (wpAny_field Y V (x:=.none) rfl (wpAny_bind (wpAny_listPart .none ?_)));refine wpAny_bind (wpAny_field Y V (x:=.int j tk) rfl (wpAny_bind (wpAny_listPart (.int j tk) (wpAny_pure ?_))));refine wpAny_bind (m:=Builtin.List.listItems (.ref (af (v0 c)))) ?_;unfold Builtin.List.listItems;refine wpAny_bind (wpAny_seqItems Q hd (wpAny_pure ?_));refine wpAny_bind (wpAny_of_eq (sliceIndices_raw none (some j) none _ (by simp)) ?_)
   refine wpAny_bind (wpAny_newObj_type (wpAny_pure ⟨_,rfl,?_⟩) (au (slicePick_size_le _ none (some (j:Int)) none) (by show(⟨ah (ab T Z)⟩:Array ZV).size<=_;have:sizeLine=16777216:=rfl;simp;lia)))
   have ep:=slicePick_upto' ⟨ah (ab T Z)⟩ j
   have S:(slicePick ⟨ah (ab T Z)⟩ none (some (j:Int)) none)=(⟨(ah (ab T Z)).take j⟩:Array ZV):=by rw[ep]
   unfold slicePick at S;rw[show ae ((ah (ab T Z)).take j) 0={cls:=.type "list",data:=.seq ⟨(ah (ab T Z)).take j⟩}from rfl,←S]at h
   exact h
  have z:=bL (prog:=prog) (w:=w) (s:=s) (pos:=pos) hB (by decide+kernel) PySem.F.entry_list_getitem g (R:=fun r X=>r=.ok (.ret (.ref s.heap.objs.size))/\X={s with heap:=s.heap.push (ae ((ah (ab T Z)).take j) 0)}) ⟨rfl,rfl,rfl⟩
  rw[←(show c=.builtin "list.__getitem__" ⟨[.ref (af (v0 c)),.ref (af (v1 c))],[]⟩from e)]at z
  refine z.mono fun r X ⟨G,h2⟩=>⟨[],G,?_⟩
  subst h2;have P:=iX s (ae ((ah (ab T Z)).take j) 0) rfl 0 (.ok .next)
  refine⟨⟨fun b x E a=>P.ext.frame b x E (fun q=>nomatch q),P.ext.size,P.ext.toks,P.ext.drawn,P.ext.os⟩,rfl,?_,P.new,P.free,P.nodup,P.size,P.toks,P.gens,P.iF,P.dU,P.d6,P.eo⟩
  intro p W;rcases bc.mp W with rfl|W
  .exact Heap.get?_push_of_some _ Q
  .rcases bQ.mp W with rfl
   exact Heap.get?_push_of_some _ K
end
end
end
section
open PySem.F PySem.Builtin PySem.Builtin.Str
section
set_option tactic.hygienic false
def D1(w:ZW)(F:Addr):Env:=eB 937 (sU w.params) F []
def Yb(w:ZW):Stmt:=(aH (sU w.params)).getD 1 default
def qV(w:ZW)(F Z:Addr):Code:=f6 (Yb w) Z (D1 w F)
def D2(w:ZW)(W X Y Z:Addr):ZC:=cA w W X Y Z ⟨991,12,991,29⟩
def qm(w:ZW)(W X Y Z F:Addr):ZC:=(.func (aH (sU w.params)) (D1 w F),⟨958,13,958,23⟩)::D2 w W X Y Z
structure PL where
 kx:Tok
 x:ZV
 ku:Tok
 u:ZV
 ka:Tok
 a:ZV
noncomputable def gK(P:Params)(k:ZT)(Y X:Addr)(Z:Option PL):Obj:=fx ([dE P u9 (k 0) (.ref Y),dE P [110,101,101,100,115] (k 1) (.ref X)]++(match Z with|none=>[]|some p=>[dE P [120] p.kx p.x,dE P [117,110,100,101,114] p.ku p.u,dE P [97,98,111,118,101] p.ka p.a])) (match Z with|none=>2|some _=>5)
noncomputable def n0(Z:Option PL)(t:Tok):Tok:=match Z with|none=>t|some p=>p.kx
noncomputable def n4(Z:Option PL)(t:Tok):Tok:=match Z with|none=>t|some p=>p.ku
noncomputable def n5(Z:Option PL)(t:Tok):Tok:=match Z with|none=>t|some p=>p.ka
section
variable(w:ZW)(Q R S T W:Nat)(xs:ZY)(ep F V XL U:Nat)(k:ZT)(X:Option PL)(i Y:Nat)(x:Int)(tx:Tok)(p q lo Z:Nat)(m d e:Int)(O:Nat->Nat)(nl:ZY)(L wr:Nat)(g:Int)(rs:ZY)(K:ZL)(P:Pos)(M J:Nat)(I:ZG)(fr:ZL)(pos:Pos)(N t:Nat)(G:ZG)
def D3:ZH w:=jn [dz 0x515150c040fa80f7e,[(0,.ai (Pf 0 9))],dz 0x803f1b3f,[(0,.stop)]]
def D5:ay:=aq (V0 w (D2 w Q R S T)) (D3 w) fr (.call (.ref 937) ⟨[.ref W],[]⟩) pos [(W,ae xs ep)] [] N t G
abbrev Pg:dK:=⟨(D5 w Q R S T W xs ep fr pos N t G),(qV w N (N+10)),⟨[(W,ae xs ep)],[(N,fx [dE w.params u9 t (.ref W),dE w.params [110,101,101,100,115] (t+5) (.ref (N+7))] 2),((N+1),⟨(.type "list"),none,(.seq ⟨[]⟩ 0),⟨[]⟩⟩),((N+2),⟨(.type "list"),none,(.seq ⟨[]⟩ 0),⟨[]⟩⟩),((N+3),⟨(.type "list"),none,(.seq ⟨[]⟩ 0),⟨[]⟩⟩),((N+4),⟨(.type "tuple"),none,(.seq ⟨[(.int 0 (t+1)),(.int 1 (t+2))]⟩ 0),⟨[]⟩⟩),((N+5),⟨(.type "tuple"),none,(.seq ⟨[(.int 1 (t+3)),(.int 1 (t+4))]⟩ 0),⟨[]⟩⟩),((N+6),⟨(.type "list"),none,(.seq ⟨[(.ref (N+4)),(.ref (N+5))]⟩ 0),⟨[]⟩⟩),((N+7),⟨(.type "list"),none,(.seq ⟨[(.ref (N+1)),(.ref (N+2)),(.ref (N+3)),(.ref (N+6))]⟩ 0),⟨[]⟩⟩),((N+9),ae (xs.take (5:Int).toNat) 0),((N+10),⟨(.type "list_iterator"),none,(.fields ⟨[(.ref (N+9)),(.int 0 0)]⟩),⟨[]⟩⟩)],[0<=(5:Int),xs.length<=16777216]⟩,(N+11),(t+7)⟩
theorem Ph:(Pg w Q R S T W xs ep fr pos N t G).ok (V0 w (D2 w Q R S T)) (D3 w) pos (qm w Q R S T N) 1 [1,2,3,4,5,6,7,8,10,11] G:=by apply aC w;kernel_rfl
def uK:ZH w:=jn [dz 0xc0,[(0,.ai (fu 1 2 (.int x tx)))],dz 0x3cd5,[(3,.ai (gL ((p:Nat):Int)))],dz 0x5,[(3,.ai (oDiv d))],[(3,.ai (gL ((q:Nat):Int)))],[(6,.ai (iJ 4 3))],dz 0x2614,[(0,.ai (lT 5 [((p:Nat):Int),((q:Nat):Int)] [((lo:Nat):Int),((Z:Nat):Int)]))],dz 0xc9d539251017f110102512c8124626171740,[(3,.ai (oDiv e))],[(3,.ai (gL m))],[(4,.ai (oEq false))],dz 0xd7,[(3,.ai (FC false))],[(0,.tail)]]
abbrev Bx:c7:=⟨(aq (V0 w (qm w Q R S T F)) (uK w x tx p q lo Z m d e) fr (qV w F V) pos [(F,gK w.params k W U X),(V,bx XL i),(XL,ae xs Y)] [] N t G),(qV w F V),⟨962,11,962,25⟩,⟨[(F,gK w.params k W U (some ⟨n0 X t,.int x tx,n4 X (t+7),.int lo ((Fr fr 5).headD 0),n5 X (t+8),.int Z ((Fr fr 5).tail.headD 0)⟩)),(V,bx XL (i+1)),(XL,ae xs Y)],[],[(((lo:Nat):Int) !=((Z:Nat):Int))=false,(m==3)=false,((4:Int)==0)=false,e.fmod 4=m,((48:Int)==0)=false,(48:Int).natAbs<1073741824,x.fdiv 48=e,PyProof.Rows.IntsAre [.int p (t+2),.int q (t+6)] [((p:Nat):Int),((q:Nat):Int)],[Value.int p (t+2),Value.int q (t+6)].length<64,[((lo:Nat):Int),((Z:Nat):Int)].Perm [((p:Nat):Int),((q:Nat):Int)]/\[((lo:Nat):Int),((Z:Nat):Int)].Pairwise (·<=·),([]:ZY).length+[Value.int p (t+2),Value.int q (t+6)].length<=16777216,((4:Int)==0)=false,d.fmod 4=((q:Nat):Int),((4:Int)==0)=false,(4:Int).natAbs<1073741824,x.fdiv 4=d,((4:Int)==0)=false,x.fmod 4=((p:Nat):Int),xs[i]?=some (.int x tx)]⟩,(N+8),(t+14)⟩
theorem By:(Bx w Q R S T W xs F V XL U k X i Y x tx p q lo Z m d e fr pos N t G).ok (uK w x tx p q lo Z m d e) pos 3 [] G:=by apply cm X;apply aC w;kernel_rfl
def uL:ZH w:=jn [dz 0xc0,[(0,.ai (fu 1 2 (.int x tx)))],dz 0x3cd5,[(3,.ai (gL ((p:Nat):Int)))],dz 0x5,[(3,.ai (oDiv d))],[(3,.ai (gL ((q:Nat):Int)))],[(6,.ai (iJ 4 3))],dz 0x2614,[(0,.ai (lT 5 [((p:Nat):Int),((q:Nat):Int)] [((lo:Nat):Int),((Z:Nat):Int)]))],dz 0xc9d539251017f110102512c8124626171740,[(3,.ai (oDiv e))],[(3,.ai (gL m))],[(4,.ai (oEq true))],dz 0xf3070c69301c1eee1c301b1eee1c301b1eee1b45331e1e33050c,[(3,.ai (FC false))],[(0,.tail)]]
abbrev Bz:c7:=⟨(aq (V0 w (qm w Q R S T F)) (uL w x tx p q lo Z m d e) fr (qV w F V) pos [(F,gK w.params k W U X),(V,bx XL i),(XL,ae xs Y)] [] N t G),(qV w F V),⟨962,11,962,25⟩,⟨[(F,gK w.params k W U (some ⟨n0 X t,.int x tx,n4 X (t+7),.int Z ((Fr fr 5).tail.headD 0),n5 X (t+8),.int lo ((Fr fr 5).headD 0)⟩)),(V,bx XL (i+1)),(XL,ae xs Y)],[],[(((Z:Nat):Int) !=((lo:Nat):Int))=false,(m==3)=true,((4:Int)==0)=false,e.fmod 4=m,((48:Int)==0)=false,(48:Int).natAbs<1073741824,x.fdiv 48=e,PyProof.Rows.IntsAre [.int p (t+2),.int q (t+6)] [((p:Nat):Int),((q:Nat):Int)],[Value.int p (t+2),Value.int q (t+6)].length<64,[((lo:Nat):Int),((Z:Nat):Int)].Perm [((p:Nat):Int),((q:Nat):Int)]/\[((lo:Nat):Int),((Z:Nat):Int)].Pairwise (·<=·),([]:ZY).length+[Value.int p (t+2),Value.int q (t+6)].length<=16777216,((4:Int)==0)=false,d.fmod 4=((q:Nat):Int),((4:Int)==0)=false,(4:Int).natAbs<1073741824,x.fdiv 4=d,((4:Int)==0)=false,x.fmod 4=((p:Nat):Int),xs[i]?=some (.int x tx)]⟩,(N+12),(t+16)⟩
theorem BA:(Bz w Q R S T W xs F V XL U k X i Y x tx p q lo Z m d e fr pos N t G).ok (uL w x tx p q lo Z m d e) pos 3 [] G:=by apply cm X;apply aC w;kernel_rfl
def uM:ZH w:=jn [dz 0xc0,[(0,.ai (fu 1 2 (.int x tx)))],dz 0x3cd5,[(3,.ai (gL ((p:Nat):Int)))],dz 0x5,[(3,.ai (oDiv d))],[(3,.ai (gL ((q:Nat):Int)))],[(6,.ai (iJ 6 5))],dz 0x2a12,[(0,.ai (lT 7 [((p:Nat):Int),((q:Nat):Int)] [((lo:Nat):Int),((Z:Nat):Int)]))],dz 0xc9d55f442022272020204427c727482a222247,[(3,.ai (oDiv e))],[(3,.ai (gL m))],[(4,.ai (oEq false))],dz 0xd7,[(3,.ai (FC true))],dz 0x1ac1d7,[(0,.ai (d0 3 (.ref (O Z))))],dz 0x50c1414e1,[(3,.ai (oDiv g))],[(3,.ai (gL ((wr:Nat):Int)))],dz 0x38,[(0,.ai (eJ 4))],[(1,.tail)]]
abbrev BB:c7:=⟨(aq (V0 w (qm w Q R S T F)) (uM w x tx p q lo Z m d e O wr g) fr (qV w F V) pos [(F,gK w.params k W U X),(V,bx XL i),(XL,ae xs Y),(U,ae nl L),((O Z),ae rs ep)] [] N t G),(qV w F V),⟨963,12,963,53⟩,⟨[(F,gK w.params k W U (some ⟨n0 X t,.int x tx,n4 X (t+7),.int lo ((Fr fr 5).headD 0),n5 X (t+8),.int Z ((Fr fr 5).tail.headD 0)⟩)),(V,bx XL (i+1)),(XL,ae xs Y),(U,ae nl L),((O Z),ae (rs++[.ref (N+8)]) (ep+1))],[((N+8),⟨(.type "tuple"),none,(.seq ⟨[(.int lo ((Fr fr 5).headD 0)),(.int wr (t+17))]⟩ 0),⟨[]⟩⟩)],[rs.length<=16777216,((3:Int)==0)=false,g.fmod 3=((wr:Nat):Int),((16:Int)==0)=false,(16:Int).natAbs<1073741824,x.fdiv 16=g,eN Z nl (.ref (O Z)),(((lo:Nat):Int) !=((Z:Nat):Int))=true,(m==3)=false,((4:Int)==0)=false,e.fmod 4=m,((48:Int)==0)=false,(48:Int).natAbs<1073741824,x.fdiv 48=e,PyProof.Rows.IntsAre [.int p (t+2),.int q (t+6)] [((p:Nat):Int),((q:Nat):Int)],[Value.int p (t+2),Value.int q (t+6)].length<64,[((lo:Nat):Int),((Z:Nat):Int)].Perm [((p:Nat):Int),((q:Nat):Int)]/\[((lo:Nat):Int),((Z:Nat):Int)].Pairwise (·<=·),([]:ZY).length+[Value.int p (t+2),Value.int q (t+6)].length<=16777216,((4:Int)==0)=false,d.fmod 4=((q:Nat):Int),((4:Int)==0)=false,(4:Int).natAbs<1073741824,x.fdiv 4=d,((4:Int)==0)=false,x.fmod 4=((p:Nat):Int),xs[i]?=some (.int x tx)]⟩,(N+9),(t+18)⟩
theorem BC:(BB w Q R S T W xs ep F V XL U k X i Y x tx p q lo Z m d e O nl L wr g rs fr pos N t G).ok (uM w x tx p q lo Z m d e O wr g) pos 5 [11] G:=by apply cm X;apply aC w;kernel_rfl
def uN:ZH w:=jn [dz 0xc0,[(0,.ai (fu 1 2 (.int x tx)))],dz 0x3cd5,[(3,.ai (gL ((p:Nat):Int)))],dz 0x5,[(3,.ai (oDiv d))],[(3,.ai (gL ((q:Nat):Int)))],[(6,.ai (iJ 6 5))],dz 0x2a12,[(0,.ai (lT 7 [((p:Nat):Int),((q:Nat):Int)] [((lo:Nat):Int),((Z:Nat):Int)]))],dz 0xc9d55f442022272020204427c727482a222247,[(3,.ai (oDiv e))],[(3,.ai (gL m))],[(4,.ai (oEq true))],dz 0xf3070caa6741364e414141674e364e414141674e364e41414ea95e36365e050c,[(3,.ai (FC true))],dz 0x1ac1d7,[(0,.ai (d0 3 (.ref (O lo))))],dz 0x50c1414e1,[(3,.ai (oDiv g))],[(3,.ai (gL ((wr:Nat):Int)))],dz 0x38,[(0,.ai (eJ 4))],[(1,.tail)]]
abbrev BD:c7:=⟨(aq (V0 w (qm w Q R S T F)) (uN w x tx p q lo Z m d e O wr g) fr (qV w F V) pos [(F,gK w.params k W U X),(V,bx XL i),(XL,ae xs Y),(U,ae nl L),((O lo),ae rs ep)] [] N t G),(qV w F V),⟨963,12,963,53⟩,⟨[(F,gK w.params k W U (some ⟨n0 X t,.int x tx,n4 X (t+7),.int Z ((Fr fr 5).tail.headD 0),n5 X (t+8),.int lo ((Fr fr 5).headD 0)⟩)),(V,bx XL (i+1)),(XL,ae xs Y),(U,ae nl L),((O lo),ae (rs++[.ref (N+12)]) (ep+1))],[((N+12),⟨(.type "tuple"),none,(.seq ⟨[(.int Z ((Fr fr 5).tail.headD 0)),(.int wr (t+19))]⟩ 0),⟨[]⟩⟩)],[rs.length<=16777216,((3:Int)==0)=false,g.fmod 3=((wr:Nat):Int),((16:Int)==0)=false,(16:Int).natAbs<1073741824,x.fdiv 16=g,eN lo nl (.ref (O lo)),(((Z:Nat):Int) !=((lo:Nat):Int))=true,(m==3)=true,((4:Int)==0)=false,e.fmod 4=m,((48:Int)==0)=false,(48:Int).natAbs<1073741824,x.fdiv 48=e,PyProof.Rows.IntsAre [.int p (t+2),.int q (t+6)] [((p:Nat):Int),((q:Nat):Int)],[Value.int p (t+2),Value.int q (t+6)].length<64,[((lo:Nat):Int),((Z:Nat):Int)].Perm [((p:Nat):Int),((q:Nat):Int)]/\[((lo:Nat):Int),((Z:Nat):Int)].Pairwise (·<=·),([]:ZY).length+[Value.int p (t+2),Value.int q (t+6)].length<=16777216,((4:Int)==0)=false,d.fmod 4=((q:Nat):Int),((4:Int)==0)=false,(4:Int).natAbs<1073741824,x.fdiv 4=d,((4:Int)==0)=false,x.fmod 4=((p:Nat):Int),xs[i]?=some (.int x tx)]⟩,(N+13),(t+20)⟩
theorem BE:(BD w Q R S T W xs ep F V XL U k X i Y x tx p q lo Z m d e O nl L wr g rs fr pos N t G).ok (uN w x tx p q lo Z m d e O wr g) pos 5 [15] G:=by apply cm X;apply aC w;kernel_rfl
def D6:ZH w:=jn [dz 0xc0,[(0,.ai (qf 1 2))],dz 0x14,[(1,.fin)]]
abbrev Pj:dp:=⟨(aq (V0 w (qm w Q R S T F)) (D6 w) fr (qV w F V) pos [(F,gK w.params k W U X),(V,bx XL i),(XL,ae xs Y)] [] N t G),(.ok .next),⟨[(F,gK w.params k W U X),(V,jO "list_iterator" i),(XL,ae xs Y)],[],[xs[i]?=none]⟩,(N+2),t⟩
theorem Pk:(Pj w Q R S T W xs F V XL U k X i Y fr pos N t G).ok (D6 w) pos 3 [] G:=by apply aC w;kernel_rfl
def D7:ZH w:=jn [dz 0x9,[(0,.fin)]]
abbrev Pl:dp:=⟨(bo (V0 w (D2 w Q R S T)) (D7 w) fr (D5 w Q R S T W xs ep K P M J I) (.ok .next) [(M,gK w.params k W U X)] [] N t G),(.ok (.ret (.ref U))),⟨[(M,gK w.params k W U X)],[],[]⟩,N,t⟩
theorem Pn:(Pl w Q R S T W xs ep U k X K P M J I fr N t G).ok (D7 w) ⟨0,0,0,0⟩ 1 [] G:=by apply cm X;apply aC w;kernel_rfl
end
end
section
set_option tactic.hygienic false
noncomputable def pP(x:Int):Nat:=(x.fmod 4).toNat
noncomputable def pQ(x:Int):Nat:=((x.fdiv 4).fmod 4).toNat
noncomputable def lY(x:Int):Nat:=((x.fdiv 16).fmod 3).toNat
noncomputable def J4(x:Int):Bool:=(x.fdiv 48).fmod 4==3
noncomputable def fX(x:Int):Nat:=min (pP x) (pQ x)
noncomputable def fY(x:Int):Nat:=max (pP x) (pQ x)
noncomputable def pU(x:Int):Nat:=if J4 x then fY x else fX x
noncomputable def pA(x:Int):Nat:=if J4 x then fX x else fY x
noncomputable def d3(P:Nat->List (Nat×Nat))(x:Int):Nat->List (Nat×Nat):=if fX x=fY x then P else fun v=>if v=pA x then P v++[(pU x,lY x)]else P v
noncomputable def ed:Nat->List (Nat×Nat):=fun v=>if v=3 then[(0,1),(1,1)]else[]
noncomputable def fg(xs:List Int):Nat->List (Nat×Nat):=(xs.take 5).foldl d3 ed
noncomputable def iM(r:aK):Nat×Nat:=(r.u,r.w)
noncomputable def iw(xs:List (Int×Tok)):ZY:=xs.map fun e=>.int e.1 e.2
theorem fK(x:Int){b:Int}(Z:0<b):x.fmod b=((x.fmod b).toNat:Int)/\((x.fmod b).toNat:Int)<b:=by
 have h:x.fmod b=x%b:=Int.fmod_eq_emod_of_nonneg x (by exact Int.le_of_lt Z)
 have Y:=Int.emod_nonneg x (show b≠0 by exact Ne.symm (Int.ne_of_lt Z))
 have h2:=Int.emod_lt_of_pos x Z
 rw[h];lia
theorem Po(x:Int):x.fmod 4=(pP x:Int):=(fK x (by decide)).1
theorem Pp(x:Int):(x.fdiv 4).fmod 4=(pQ x:Int):=(fK _ (by decide)).1
theorem yt(x:Int):(x.fdiv 16).fmod 3=(lY x:Int):=(fK _ (by decide)).1
theorem D8(x:Int):pP x<4:=by have:=(fK x (b:=4) (by decide)).2;unfold pP;exact Int.ofNat_lt.mp this
theorem D9(x:Int):pQ x<4:=by have:=(fK (x.fdiv 4) (b:=4) (by decide)).2;unfold pQ;exact Int.ofNat_lt.mp this
theorem Hx(x:Int):lY x<3:=by have:=(fK (x.fdiv 16) (b:=3) (by decide)).2;unfold lY;exact Int.ofNat_lt.mp this
theorem n6(x:Int):fX x<4:=by have:=D8 x;have:=D9 x;unfold fX;lia
theorem n7(x:Int):fY x<4:=by have:=D8 x;have:=D9 x;unfold fY;lia
theorem Pq(x:Int):[((fX x:Nat):Int),((fY x:Nat):Int)].Perm [((pP x:Nat):Int),((pQ x:Nat):Int)]:=by
 unfold fX fY;rcases Nat.le_total (pP x) (pQ x)with h|h
 .rw [Nat.min_eq_left h,Nat.max_eq_right h]
 .rw [Nat.min_eq_right h,Nat.max_eq_left h];exact List.Perm.swap _ _ _
theorem pPair(x:Int):[((fX x:Nat):Int),((fY x:Nat):Int)].Pairwise (·<=·):=by
 have:fX x<=fY x:=by unfold fX fY;lia
 simp;exact String.Pos.Raw.mk_le_mk.mp this
theorem BF(X ne:Nat->Nat)(Y:Nat->List aK){a:Nat}(h:a<4):∃R,(ba X ne Y).Perm (eM X ne Y a++R)/\∀(ne':Nat->Nat)(Z:Nat->List aK),(∀v,v≠a->Z v=Y v/\ne' v=ne v)->(ba X ne' Z).Perm (eM X ne' Z a++R):=by
 have hn:a=0\/a=1\/a=2\/a=3:=by lia
 have W:∀(ne':Nat->Nat)(Z:Nat->List aK),(∀v,v≠a->Z v=Y v/\ne' v=ne v)->∀v,v≠a->eM X ne' Z v=eM X ne Y v:=by
  intro ne' Z h v U;unfold eM;rw[(h v U).1,(h v U).2]
 have z:=fun(ne:Nat->Nat) (Y:Nat->List aK) (V:ZN)=>lq (oO V [.l (eM X ne Y 0),.l (eM X ne Y 1),.l (eM X ne Y 2),.l (eM X ne Y 3)])
 rcases hn with rfl|rfl|rfl|rfl
 .exact⟨eM X ne Y 1++(eM X ne Y 2++eM X ne Y 3),z ne Y [0],fun ne' Z h=>by rw[←W ne' Z h 1 (by decide),←W ne' Z h 2 (by decide),←W ne' Z h 3 (by decide)];exact z ne' Z [0]⟩
 .exact⟨eM X ne Y 0++(eM X ne Y 2++eM X ne Y 3),z ne Y [1],fun ne' Z h=>by rw[←W ne' Z h 0 (by decide),←W ne' Z h 2 (by decide),←W ne' Z h 3 (by decide)];exact z ne' Z [1]⟩
 .exact⟨eM X ne Y 0++(eM X ne Y 1++eM X ne Y 3),z ne Y [2],fun ne' Z h=>by rw[←W ne' Z h 0 (by decide),←W ne' Z h 1 (by decide),←W ne' Z h 3 (by decide)];exact z ne' Z [2]⟩
 .exact⟨eM X ne Y 0++(eM X ne Y 1++eM X ne Y 2),z ne Y [3],fun ne' Z h=>by rw[←W ne' Z h 0 (by decide),←W ne' Z h 1 (by decide),←W ne' Z h 2 (by decide)];exact z ne' Z [3]⟩
theorem wu(P:Nat->List (Nat×Nat))(x:Int)(v:Nat):(d3 P x v).length<=(P v).length+1:=by
 unfold d3;split
 .exact b8 (P v).length 1
 .show (if v=pA x then P v++[(pU x,lY x)]else P v).length<=_
  split<;>simp
theorem l9:∀(l:List Int)(P:Nat->List (Nat×Nat))(v:Nat),((l.foldl d3 P) v).length<=(P v).length+l.length
 |[],P,v=>by simp
 |x::l,P,v=>by
  have:=l9 l (d3 P x) v
  have:=wu P x v
  simp only[List.foldl_cons,List.length_cons];lia
theorem t7(xs:List Int)(v:Nat):(fg xs v).length<=7:=by
 have Y:=l9 (xs.take 5) ed v
 have h2:(xs.take 5).length<=5:=by rw[List.length_take];exact Nat.min_le_left 5 xs.length
 have Z:(ed v).length<=2:=by unfold ed;split<;>simp
 unfold fg;lia
theorem z5{x:Int}{tx t1 Z:Tok}{vs:ZY}{i:Nat}(h:vs[i]?=some (.int x tx)):aO [((4:Int)==0)=false,(x.fdiv 48).fmod 4=(x.fdiv 48).fmod 4,((48:Int)==0)=false,(48:Int).natAbs<1073741824,x.fdiv 48=x.fdiv 48,PyProof.Rows.IntsAre [.int (pP x) t1,.int (pQ x) Z] [((pP x:Nat):Int),((pQ x:Nat):Int)],[Value.int (pP x) t1,Value.int (pQ x) Z].length<64,[((fX x:Nat):Int),((fY x:Nat):Int)].Perm [((pP x:Nat):Int),((pQ x:Nat):Int)]/\[((fX x:Nat):Int),((fY x:Nat):Int)].Pairwise (·<=·),([]:ZY).length+[Value.int (pP x) t1,Value.int (pQ x) Z].length<=16777216,((4:Int)==0)=false,(x.fdiv 4).fmod 4=((pQ x:Nat):Int),((4:Int)==0)=false,(4:Int).natAbs<1073741824,x.fdiv 4=x.fdiv 4,((4:Int)==0)=false,x.fmod 4=((pP x:Nat):Int),vs[i]?=some (.int x tx)]:=aa rfl (aa rfl (aa rfl (aa (by decide) (aa rfl (aa (.cons _ _ (.cons _ _ .nil)) (aa (Nat.le_add_left 3 61) (aa ⟨Pq x,pPair x⟩ (aa (Nat.le_add_left 2 16777214) (aa rfl (aa (Pp x) (aa rfl (aa (by decide) (aa rfl (aa rfl (aa (Po x) (aa h aj))))))))))))))))
section
variable(w:ZW)(V W X Y Z:Addr)(bg:List aQ)
theorem wx[ZI]{Q:ZR}(F D XL N:Nat)(k:ZT)(H:Nat)(S:Nat->Nat)(J:Nat)(xs:List (Int×Tok))(vs:ZY)(n:vs=iw xs)(hx:xs.length<=5)(E:List Bk)(B:aS)(b:Bt (qm w V W X Y F) none B)(K:∀O T ne (U:Nat->List aK),(∀v,(U v).map iM=(xs.map (·.1)).foldl d3 ed v)->Hq w O ([.o F (gK w.params k Z H T),.o H (ae (b5 S) J),.l (ba S ne U)]++E) bg->Q (.ok .next) O):∀(m i:Nat),i+m=xs.length->∀(s:ZS)(p:Pos)(T:Option PL)(ne:Nat->Nat)(U:Nat->List aK),
  (∀v,(U v).map iM=((xs.take i).map (·.1)).foldl d3 ed v)->
  Hq w s ([.o F (gK w.params k Z H T),.o D (bx XL i),.o XL (ae vs N),.o H (ae (b5 S) J),.l (ba S ne U)]++E) bg->
  Rn w B s (qV w F D) p Q:=by
 intro m;induction m with
 |zero=>
  intro i t s p T ne U d r;obtain rfl:i=xs.length:=t;rw[gZ]at d;exact kF [0,1,2] b r (fun fr=>Pk w V W X Y Z vs F D XL H k T xs.length N fr p (zN s) s.toks s.gens:) (fun c=>aa (List.getElem?_eq_none (by rw[n];exact dX (aB ..))) aj) fun fr O H8=>K O T ne U d (H8.p [0,3,4] 5)
 |succ m y=>
  intro i t s p T ne U d r;obtain⟨⟨x,tx⟩,q⟩:∃e,xs[i]?=some e:=⟨_,List.getElem?_eq_getElem (lA t)⟩;have G:vs[i]?=some (.int x tx):=by rw[n];unfold iw;rw[List.getElem?_map,q];rfl
  have I:∀v,((xs.take (i+1)).map (·.1)).foldl d3 ed v=d3 (fun v=>(U v).map iM) x v:=fun v=>by
   rw[show(fun v=>(U v).map iM)=((xs.take i).map (·.1)).foldl d3 ed from funext d,gf,q,aL,List.foldl_append];rfl
  have hlen:∀v,(bh (U v)).length<=16777216:=fun v=>by
   have h2:=l9 ((xs.take i).map (·.1)) ed v
   have h3:(ed v).length<=2:=by unfold ed;split<;>simp
   rw[←d v,aB,aB]at h2;unfold bh;rw[aB];exact au h2 (au (jG h3 (au (ph ..) hx)) (by decide))
  by_cases M:fX x=fY x
  .have hs:∀v,(U v).map iM=((xs.take (i+1)).map (·.1)).foldl d3 ed v:=fun v=>by
    rw[I];unfold d3;rw[if_pos M]
   have e0:∀a b:Nat,a=b->((a:Int) !=(b:Int))=false:=fun a b h=>by rw[h];exact bne_self_eq_false _
   cases P:J4 x with
   |true=>
    exact kT [0,1,2] b r (fun fr=>BA w V W X Y Z vs F D XL H k T i N x tx (pP x) (pQ x) (fX x) (fY x) ((x.fdiv 48).fmod 4) (x.fdiv 4) (x.fdiv 48) fr p (zN s) s.toks s.gens:)
     (fun fr=>aa (e0 _ _ M.symm) (aa P (z5 G))) fun fr O C=>y (i+1) (lB t) O _ (some ⟨n0 T s.toks,.int x tx,n4 T (s.toks+7),.int (fY x) ((Fr fr 5).tail.headD 0),n5 T (s.toks+8),.int (fX x) ((Fr fr 5).headD 0)⟩) ne U hs C
   |false=>
    exact kT [0,1,2] b r (fun fr=>By w V W X Y Z vs F D XL H k T i N x tx (pP x) (pQ x) (fX x) (fY x) ((x.fdiv 48).fmod 4) (x.fdiv 4) (x.fdiv 48) fr p (zN s) s.toks s.gens:)
     (fun fr=>aa (e0 _ _ M) (aa P (z5 G))) fun fr O C=>y (i+1) (lB t) O _ (some ⟨n0 T s.toks,.int x tx,n4 T (s.toks+7),.int (fX x) ((Fr fr 5).headD 0),n5 T (s.toks+8),.int (fY x) ((Fr fr 5).tail.headD 0)⟩) ne U hs C
  .have j:∀a b:Nat,a≠b->((a:Int) !=(b:Int))=true:=fun a b h=>bne_iff_ne.mpr fun e=>h (Int.ofNat.inj e)
   have key:∀a u:Nat,pA x=a->pU x=u->a<4->∃R,(ba S ne U).Perm ((S a,ae (bh (U a)) (ne a))::((U a).map aK.led++R))/\
     ∀(O:ZS)(z:Option PL)(A tu tw:Nat),Hq w O ([.o F (gK w.params k Z H z),.o D (bx XL (i+1)),.o XL (ae vs N),.o H (ae (b5 S) J),.o (S a) (ae (bh (U a)++[.ref A]) (ne a+1)),.o A (bK [.int u tu,.int (lY x) tw] 0),.l ((U a).map aK.led),.l R]++E) bg->
     ∀p',Rn w B O (qV w F D) p' Q:=by
    rintro _ _ rfl rfl h4
    obtain⟨R,f,hU⟩:=BF S ne U h4;refine⟨R,f,fun O z A tu tw C p'=>?_⟩
    let L:Nat->List aK:=fun v=>if v=pA x then U v++[⟨A,pU x,tu,lY x,tw⟩]else U v
    let ne':Nat->Nat:=fun v=>if v=pA x then ne v+1 else ne v
    have g:=hU ne' L fun v hv=>⟨if_neg hv,if_neg hv⟩
    have e2:eM S ne' L (pA x)++R=(S (pA x),ae (bh (U (pA x))++[.ref A]) (ne (pA x)+1))::((U (pA x)).map aK.led++((A,bK [.int (pU x) tu,.int (lY x) tw] 0)::R)):=by
     unfold eM;rw[show L (pA x)=U (pA x)++[⟨A,pU x,tu,lY x,tw⟩]from if_pos rfl,show ne' (pA x)=ne (pA x)+1 from if_pos rfl,aL,pe,br]
     unfold bh;rw[aL];rfl
    rw[e2]at g;refine y (i+1) (lB t) O p' z ne' L (fun v=>?_) ((C.ch [4,6,5,7] g.symm [.l (ba S ne' L)]).p [1,2,3,4,0] 5)
    rw[I];unfold d3;rw[if_neg M];show(if v=pA x then U v++[⟨A,pU x,tu,lY x,tw⟩]else U v).map iM=if v=pA x then(U v).map iM++[(pU x,lY x)]else(U v).map iM
    split
    .exact aL ..
    .rfl
   cases P:J4 x with
   |true=>
    obtain⟨R,f,back⟩:=key (fX x) (fY x) (if_pos P) (if_pos P) (n6 x);exact kT [3,4,5,6,0] b (r.ch [4] f [.o (S (fX x)) (ae (bh (U (fX x))) (ne (fX x))),.l ((U (fX x)).map aK.led),.l R]) (fun fr=>BE w V W X Y Z vs (ne (fX x)) F D XL H k T i N x tx (pP x) (pQ x) (fX x) (fY x) ((x.fdiv 48).fmod 4) (x.fdiv 4) (x.fdiv 48) S (b5 S) J (lY x) (x.fdiv 16) (bh (U (fX x))) fr p (zN s) s.toks s.gens:)
     (fun fr=>aa (hlen _) (aa rfl (aa (yt x) (aa rfl (aa (by decide) (aa rfl (aa (dt S (n6 x)) (aa (j _ _ (Ne.symm M)) (aa P (z5 G))))))))))
     fun fr O C=>back O (some ⟨n0 T s.toks,.int x tx,n4 T (s.toks+7),.int (fY x) ((Fr fr 5).tail.headD 0),n5 T (s.toks+8),.int (fX x) ((Fr fr 5).headD 0)⟩) (s.heap.objs.size+12) ((Fr fr 5).tail.headD 0) (s.toks+19) C _
   |false=>
    obtain⟨R,f,back⟩:=key (fY x) (fX x) (if_neg (by rw[P];exact fk)) (if_neg (by rw[P];exact fk)) (n7 x)
    exact kT [3,4,5,6,0] b (r.ch [4] f [.o (S (fY x)) (ae (bh (U (fY x))) (ne (fY x))),.l ((U (fY x)).map aK.led),.l R]) (fun fr=>BC w V W X Y Z vs (ne (fY x)) F D XL H k T i N x tx (pP x) (pQ x) (fX x) (fY x) ((x.fdiv 48).fmod 4) (x.fdiv 4) (x.fdiv 48) S (b5 S) J (lY x) (x.fdiv 16) (bh (U (fY x))) fr p (zN s) s.toks s.gens:)
     (fun fr=>aa (hlen _) (aa rfl (aa (yt x) (aa rfl (aa (by decide) (aa rfl (aa (dt S (n7 x)) (aa (j _ _ M) (aa P (z5 G))))))))))
     fun fr O C=>back O (some ⟨n0 T s.toks,.int x tx,n4 T (s.toks+7),.int (fX x) ((Fr fr 5).headD 0),n5 T (s.toks+8),.int (fY x) ((Fr fr 5).tail.headD 0)⟩) (s.heap.objs.size+8) ((Fr fr 5).headD 0) (s.toks+17) C _
theorem zq[ZI]{Q:ZR}(xs:List (Int×Tok))(hx:xs.length<=63)(ep:Nat)(B:aS)(st:ZS)(pos:Pos)(E:List Bk)(b:Bt (D2 w V W X Y) none B)(H:Hq w st (.o Z (ae (iw xs) ep)::E) bg)(K:∀P O U ne (S:Nat->List aK),(∀v,(S v).map iM=fg (xs.map (·.1)) v)->Hq w P ([.o O (ae (b5 U) 0),.l (ba U ne S),.o Z (ae (iw xs) ep)]++E) bg->Q (.ok (.ret (.ref O))) P):Rn w B st (.call (.ref 937) ⟨[.ref Z],[]⟩) pos Q:=by
 refine kS [0] b H (fun fr=>Ph w V W X Y Z (iw xs) ep fr pos (zN st) st.toks st.gens:) (fun a=>aa (by decide) (aa (au (dX (aB ..)) (au hx (by decide))) aj)) fun fr s1 H1 G L=>?_
 let U:Nat->Nat:=fun v=>match v with|0=>st.heap.objs.size+1|1=>st.heap.objs.size+2|2=>st.heap.objs.size+3|_=>st.heap.objs.size+6
 let S:Nat->List aK:=fun v=>if v=3 then[⟨st.heap.objs.size+4,0,st.toks+1,1,st.toks+2⟩,⟨st.heap.objs.size+5,1,st.toks+3,1,st.toks+4⟩]else[]
 refine wx w V W X Y Z bg st.heap.objs.size (st.heap.objs.size+10) (st.heap.objs.size+9) 0 (KK [st.toks,st.toks+5]) (st.heap.objs.size+7) U 0 (xs.take 5) ((iw xs).take (5:Int).toNat) List.map_take.symm (sD ..) (.o Z (ae (iw xs) ep)::E) G L (fun s2 N ne' R M I=>?_) (xs.take 5).length 0 (fM _) s1 _ none (fun a=>0) S (fun v=>?_) (H1.p [1,10,9,8,2,3,4,7,5,6,0] 11)
 .exact pE [0] b I (fun T=>Pn w V W X Y Z (iw xs) ep (st.heap.objs.size+7) (KK [st.toks,st.toks+5]) N fr pos (zN st) st.toks st.gens T (zN s2) s2.toks s2.gens:) (fun a=>aj) fun T s3 J=>K s3 _ U ne' R (fun v=>by rw[M v];unfold fg;rw[List.map_take]) (J.p [1,2,3] 4)
 .show (if v=3 then _ else _:List aK).map iM=if v=3 then _ else _
  split<;>rfl
end
end
section
set_option tactic.hygienic false
def ee(w:ZW):ZC:=[(.builtin "claim.caller" ⟨[],[]⟩,⟨0,0,0,0⟩)]
def Yc(w:ZW)(V X Y Z W:Addr):Code:=f6 (eK w 2) W (bz w V X Y Z)
noncomputable def J5(P:Params)(k:ZT)(V S Y X W:Addr)(Z:ZV)(n:Nat)(b:Bool):Obj:=nD ⟨[dE P u9 (k 0) (.ref V),dE P Iy (k 1) (.ref S),dE P [118] (k 2) Z,dE P [114,101,102,117,115,101,100] (k 3) (.bool false)]⟩ n (lx Y X W b)
section
variable(w:ZW)(P J:Nat)(k k' s:ZT)(q:Int×Tok)(K:ZT)(I:ZV)(n F A H E:Nat)(W:ZL)(X:Pos)(Z U:Nat)(T:ZG)(V:ZL)(Y S:Nat)(R:ZG)(Q:ZL)(M O:Nat)(L:ZG)(fr:ZL)(pos:Pos)(N t:Nat)(G:ZG)
def Ea:ZH w:=jn [dz 0x1d071d,[(2,.stop)]]
def Eb:ay:=aq (V0 w (ee w)) (Ea w) fr (.call (.ref 961) ⟨[.ref P],[]⟩) pos [] [] N t G
abbrev Pr:dK:=⟨(Eb w P fr pos N t G),(.call (.ref 937) ⟨[.ref P],[]⟩),⟨[],[(N,fx [dE w.params u9 t (.ref P)] 1),((N+1),⟨(.type "cell"),none,(.cell none),⟨[]⟩⟩),((N+2),⟨(.type "cell"),none,(.cell none),⟨[]⟩⟩),((N+3),⟨(.type "cell"),none,(.cell none),⟨[]⟩⟩)],[]⟩,(N+4),(t+1)⟩
theorem Pt:(Pr w P fr pos N t G).ok (V0 w (ee w)) (Ea w) pos (D2 w N (N+1) (N+2) (N+3)) 0 [0,1,2,3] G:=by apply aC w;kernel_rfl
def Ec:ZH w:=jn [dz 0x2a12f1321258101012ad071d38c62dc6ac3b213b5b1aab0f04,[(0,.stop)]]
def Ed:ay:=bo (V0 w (ee w)) (Ec w) fr (Eb w P W X Z U T) (.ok (.ret (.ref J))) [(Z,fx [dE w.params u9 (k 0) (.ref P)] 1),((Z+1),aP none)] [] N t G
abbrev Pu:dK:=⟨(Ed w P J k W X Z U T fr N t G),(Yc w Z (Z+1) (Z+2) (Z+3) (N+5)),⟨[(Z,fx [dE w.params u9 (k 0) (.ref P),dE w.params Iy (t+12) (.ref (N+1))] 2),((Z+1),aP (some (.ref J)))],[(N,⟨(.type "dict"),none,(.dict ⟨[dE w.params [95,110,111,100,101,50,105,110,102,111] (t+3) (.ref (N+3)),dE w.params [95,114,101,97,100,121,95,110,111,100,101,115] (t+5) .none,dE w.params [95,110,112,97,115,115,101,100,111,117,116] (t+8) (.int 0 (t+6)),dE w.params [95,110,102,105,110,105,115,104,101,100] (t+11) (.int 0 (t+9))]⟩ 4),⟨[]⟩⟩),((N+1),⟨(.ref 211),(some N),.plain,⟨[]⟩⟩),((N+3),⟨(.type "dict"),none,(.dict ⟨[]⟩ 0),⟨[]⟩⟩),((N+5),⟨(.type "range_iterator"),none,(.fields ⟨[(.int 0 0),(.int 4 0),(.int 1 0)]⟩),⟨[]⟩⟩)],[]⟩,(N+6),(t+16)⟩
theorem Pw:(Pu w P J k W X Z U T fr N t G).ok (V0 w (ee w)) (Ec w) ⟨0,0,0,0⟩ ((.func (aH (jJ w.params)) (bz w Z (Z+1) (Z+2) (Z+3)),⟨993,13,993,21⟩)::ee w) 2 [2,3,5,7] G:=by apply aC w;kernel_rfl
def Ee:ZH w:=jn [dz 0xea13db,[(3,.stop)]]
def xa:ay:=bo (V0 w (ee w)) (Ee w) fr (Ed w P J k W X Z U T V Y S R) (.ok .next) [(Z,Q3 w.params k' P (Y+1) (some q)),((Y+1),cp Y),(Y,cn w.params s (Y+3) .none 0 0)] [] N t G
abbrev Px:dK:=⟨(xa w P J k k' s q W X Z U T V Y S R fr N t G),(.call (.ref 166) ⟨[.ref (Y+1)],[]⟩),⟨[(Z,J5 w.params (KK [k' 0,k' 1,k' 2,t]) P (Y+1) (Z+3) (Z+2) (Z+1) (.int q.1 q.2) (k' 3+1+1) false),((Y+1),cp Y),(Y,cn w.params s (Y+3) .none 0 0)],[],[]⟩,N,(t+1)⟩
theorem Py:(Px w P J k k' s q W X Z U T V Y S R fr N t G).ok (V0 w (ee w)) (Ee w) ⟨0,0,0,0⟩ (cA w Z (Z+1) (Z+2) (Z+3) ⟨997,8,997,24⟩) 3 [] G:=by apply aC w;kernel_rfl
def Ef:ZH w:=jn [dz 0x71d071d,[(2,.stop)]]
def xc:ay:=bo (V0 w (ee w)) (Ef w) fr (xa w P J k k' s q W X Z U T V Y S R Q M O L) (.ok (.ret .none)) [(Z,J5 w.params K P (Y+1) (Z+3) (Z+2) (Z+1) I n true)] [] N t G
abbrev Pz:dK:=⟨(xc w P J k k' s q K I n W X Z U T V Y S R Q M O L fr N t G),(vW w Z (Z+1) (Z+2) (Z+3)),⟨[(Z,bZ w (KK [K 0,K 1,K 2,K 3,t,t+1]) P (Y+1) N (N+1) (Z+3) (Z+2) (Z+1) false I [] (n+2))],[(N,⟨(.type "dict"),none,(.dict ⟨[]⟩ 0),⟨[]⟩⟩),((N+1),⟨(.type "list"),none,(.seq ⟨[]⟩ 0),⟨[]⟩⟩)],[]⟩,(N+2),(t+2)⟩
theorem PA:(Pz w P J k k' s q K I n W X Z U T V Y S R Q M O L fr N t G).ok (V0 w (ee w)) (Ef w) ⟨0,0,0,0⟩ (cA w Z (Z+1) (Z+2) (Z+3) ⟨1002,4,1013,27⟩) 1 [1,2] G:=by apply aC w;kernel_rfl
def yu:ZH w:=jn [dz 0x71d0755db28080a6f2808010f060511cc01,[(2,.stop)]]
def yv:ay:=bo (V0 w (ee w)) (yu w) fr (xa w P J k k' s q W X 963 U T V Y S R Q M O L) (.error (.ref F)) [(963,J5 w.params K P (Y+1) 966 965 964 I n true),(F,JA A H),(H,JB E)] [] N t G
abbrev Hy:dK:=⟨(yv w P J k k' s q K I n F A H E W X U T V Y S R Q M O L fr N t G),(vW w 963 964 965 966),⟨[(963,bZ w (KK [K 0,K 1,K 2,K 3,t+1,t+2]) P (Y+1) (N+1) (N+2) 966 965 964 true I [] (n+2)),(F,JA A N),(H,JB E)],[(N,⟨(.type "traceback"),none,(.fields ⟨[(.ref H),(.ref 963),.none,.none,.none,(.int 997 0),(.int 997 0),(.int 8 0),(.int 24 0),(ar Fx 0),(.bool true)]⟩),⟨[]⟩⟩),((N+1),⟨(.type "dict"),none,(.dict ⟨[]⟩ 0),⟨[]⟩⟩),((N+2),⟨(.type "list"),none,(.seq ⟨[]⟩ 0),⟨[]⟩⟩)],[]⟩,(N+3),(t+3)⟩
theorem Hz:(Hy w P J k k' s q K I n F A H E W X U T V Y S R Q M O L fr N t G).ok (V0 w (ee w)) (yu w) ⟨0,0,0,0⟩ (cA w 963 964 965 966 ⟨1002,4,1013,27⟩) 3 [3,4,5] G:=by apply aC w;kernel_rfl
end
end
section
set_option tactic.hygienic false
def oW(w:ZW):ay:=xc w 0 0 (fun a=>0) (fun a=>0) (fun a=>0) (0,0) (fun a=>0) .none 0 [] ⟨0,0,0,0⟩ 963 0 #[] [] 0 0 #[] [] 0 0 #[] [] 0 0 #[]
theorem PB(w:ZW)(K J:Nat)(k k' s L:ZT)(q:Int×Tok)(M:ZV)(n:Nat)(W:ZL)(Z:Pos)(T:Nat)(O:ZG)(X:ZL)(R U:Nat)(P:ZG)(Y:ZL)(S V:Nat)(Q:ZG)(fr:ZL)(N t:Nat)(G:ZG):bp (xc w K J k k' s q L M n W Z 963 T O X R U P Y S V Q fr N t G)=bp (oW w):=by delta oW;apply aC w;kernel_rfl
theorem HA(w:ZW)(J H:Nat)(k k' s L:ZT)(q:Int×Tok)(M:ZV)(n F A K I:Nat)(W:ZL)(Z:Pos)(T:Nat)(O:ZG)(X:ZL)(R U:Nat)(P:ZG)(Y:ZL)(S V:Nat)(Q:ZG)(fr:ZL)(N t:Nat)(G:ZG):bp (yv w J H k k' s q L M n F A K I W Z T O X R U P Y S V Q fr N t G)=bp (oW w):=by delta oW;apply aC w;kernel_rfl
def VD(w:ZW)(z:SC):Code:=.compStart (z3 w) 0 (.ref z.IL) (.ref z.AL) (lD (z3 w) z.LL (bz w z.LF z.cN z.cS z.cT) [(⟨⟨[110,101,101,100,115]⟩⟩,z.cN)])
noncomputable def vD(P:Params)(Z:Option (Tok×ZV)):Obj:=match Z with|none=>gj [] 0|some p=>gj [dE P [118] p.1 p.2] 1
section
variable(w:ZW)(z:SC)(i r S:Nat)(U:Option (Tok×ZV))(Q:Int)(R:Tok)(as:ZY)(T:Nat)(Y:ZL)(Z:Pos)(W X:Nat)(V:ZG)(fr:ZL)(pos:Pos)(N t:Nat)(G:ZG)
def Eg:ZH w:=jn [dz 0x61515d71513bd1579,[(2,.stop)]]
def Eh:ay:=bo (V0 w (ee w)) (Eg w) fr (oW w) (.ok .next) [] [] N t G
abbrev PC:dK:=⟨(Eh w fr N t G),(VD w ⟨963,964,965,966,N+1,N+2,N+3⟩),⟨[],[((N+1),⟨(.type "range_iterator"),none,(.fields ⟨[(.int 0 0),(.int 4 0),(.int 1 0)]⟩),⟨[]⟩⟩),((N+2),⟨(.type "list"),none,(.seq ⟨[]⟩ 0),⟨[]⟩⟩),((N+3),⟨(.type "dict"),none,(.dict ⟨[]⟩ 0),⟨[]⟩⟩)],[]⟩,(N+4),(t+3)⟩
theorem PD:(PC w fr N t G).ok (V0 w (ee w)) (Eg w) ⟨0,0,0,0⟩ (cA w 963 964 965 966 ⟨1014,43,1014,51⟩) 0 [1,2,3] G:=by apply aC w;kernel_rfl
def Ei:ZH w:=h2 w (jn [dz 0xd6,[(0,.tail)]]) (jn [[(1,.tail)]])
def PE:ay:=aq (V0 w (cA w z.LF z.cN z.cS z.cT ⟨1014,43,1014,51⟩)) (Ei w) fr (VD w z) pos [(z.IL,b6 i r)] [] N t G
abbrev PH:c7:=⟨(PE w z i r fr pos N t G),(DT w z),(bif w.params.followText "comprehension-iter-twice" then pos else⟨1014,43,1014,51⟩),⟨[(z.IL,b6 i r)],[],[]⟩,N,t⟩
theorem PI:(PH w z i r fr pos N t G).ok (Ei w) pos 1 [] G:=by apply h9 w;kernel_rfl
def Ej:ZH w:=jn [dz 0x31f0f73cb,[(2,.stop)]]
def Ek:ay:=aq (V0 w (cA w z.LF z.cN z.cS z.cT ⟨1014,43,1014,51⟩)) (Ej w) fr (DT w z) pos [(z.IL,b6 i (r+1:Nat)),(z.LL,vD w.params U),(z.cN,aP (some (.ref S)))] [] N t G
abbrev PJ:dK:=⟨(Ek w z i r S U fr pos N t G),(.call (.ref 942) ⟨[.ref S,.int i t],[]⟩),⟨[(z.IL,b6 (i+1:Nat) (((r+1:Nat):Int)-1)),(z.LL,vD w.params (some (iT U (t+1),.int i t))),(z.cN,aP (some (.ref S)))],[],[]⟩,N,(t+2)⟩
theorem PK:(PJ w z i r S U fr pos N t G).ok (V0 w (cA w z.LF z.cN z.cS z.cT ⟨1014,43,1014,51⟩)) (Ej w) pos (DV w z) 3 [] G:=by apply cm U;apply aC w;kernel_rfl
def El:ZH w:=jn [dz 0x9,[(0,.ai (eJ 0))],[(0,.tail)]]
def PM:ay:=bo (V0 w (cA w z.LF z.cN z.cS z.cT ⟨1014,43,1014,51⟩)) (El w) fr (Ek w z i r S U Y Z W X V) (.ok (.ret (.int Q R))) [(z.AL,ae as T)] [] N t G
abbrev PN:c7:=⟨(PM w z i r S U Q R as T Y Z W X V fr N t G),(DT w z),⟨1014,13,1014,33⟩,⟨[(z.AL,ae (as++[.int Q R]) (T+1))],[],[as.length<=16777216]⟩,N,t⟩
theorem PO:(PN w z i r S U Q R as T Y Z W X V fr N t G).ok (El w) ⟨0,0,0,0⟩ 1 [] G:=by apply cm U;apply aC w;kernel_rfl
def Em:ZH w:=jn [dz 0xde,[(0,.fin)]]
def PQ:ay:=aq (V0 w (cA w z.LF z.cN z.cS z.cT ⟨1014,43,1014,51⟩)) (Em w) fr (DT w z) pos [(z.IL,b6 i 0)] [] N t G
abbrev PR:dp:=⟨(PQ w z i fr pos N t G),(.ok .next),⟨[(z.IL,b6 i 0)],[],[]⟩,(N+2),t⟩
theorem PS:(PR w z i fr pos N t G).ok (Em w) pos 1 [] G:=by apply aC w;kernel_rfl
end
end
section
set_option tactic.hygienic false
section
variable(w:ZW)(z:SC)(Y:Addr)(W ne:Nat->Nat)(X:Nat)(Z:Nat->List aK)(bg:List aQ)(V:∀v,(Z v).length<=7)
include V in
theorem BG[ZI]{Q:ZR}(E:List Bk)(B:aS)(b:Bt (cA w z.LF z.cN z.cS z.cT ⟨1014,43,1014,51⟩) none B)(K:∀s' kv v (as:List (Nat×Tok)) aY,as.map (·.1)=(List.range 4).map (fun v=>bU Z v 4)->Hq w s' ([.o z.LL (vD w.params (some (kv,v))),.o z.cN (aP (some (.ref Y))),.o z.AL (ae (iv as) aY),.o Y (ae (b5 W) X),.l (ba W ne Z)]++E) bg->Q (.ok .next) s'):∀(m i:Nat),i+m=4->∀(mi:Int),mi=m->∀(s:ZS)(p:Pos)(sv:Option (Tok×ZV))(as:List (Nat×Tok))(av:ZY)(aY:Nat),iv as=av->
  as.map (·.1)=(List.range i).map (fun v=>bU Z v 4)->(m=0->sv≠none)->
  Hq w s ([.o z.IL (b6 i mi),.o z.LL (vD w.params sv),.o z.cN (aP (some (.ref Y))),.o z.AL (ae av aY),.o Y (ae (b5 W) X),.l (ba W ne Z)]++E) bg->
  Rn w B s (DT w z) p Q:=by
 intro m;induction m with
 |zero=>
  rintro i hi _ rfl s p sv as _ aY rfl e1 nZ H0
  obtain⟨⟨kv,v⟩,rfl⟩:=sG.mp (nZ rfl);obtain rfl:i=4:=hi;exact kF [0] b H0 (fun fr=>PS w z 4 fr p (zN s) s.toks s.gens:) (fun _=>aj) fun fr s' H8=>K s' kv v as aY e1 (H8.p [1,2,3,4,5] 6)
 |succ m jg=>
  rintro i hi _ rfl s p sv as _ aY rfl e1 nZ H0
  have Au:(iv as).length<=16777216:=by
   have:=congrArg List.length e1
   rw[aB,aB,sF]at this;unfold iv;rw[aB];lia
  exact kS [0,1,2] b H0 (fun fr=>PK w z i m Y sv fr p (zN s) s.toks s.gens:) (fun _=>aj) fun fr s1 H1 B' b'=>
   wt w z Y W ne X Z bg V i s.toks (lA hi) B' s1 _ ([.o z.IL (b6 (i+1:Nat) (((m+1:Nat):Int)-1)),.o z.LL (vD w.params (some (iT sv (s.toks+1),.int i s.toks))),.o z.cN (aP (some (.ref Y))),.o z.AL (ae (iv as) aY)]++E) b' (H1.p [4,5,0,1,2,3] 6) fun s2 tr H3=>
    qG [5] b H3 (fun bV=>PO w z i m Y sv (bU Z i 4:Nat) tr (iv as) aY fr p (zN s) s.toks s.gens bV (zN s2) s2.toks s2.gens:) (fun _=>aa Au aj) fun bV s3 H5=>
     jg (i+1) (lB hi) _ (xu m) s3 _ (some (iT sv (s.toks+1),.int i s.toks)) (as++[(bU Z i 4,tr)]) _ (aY+1) (lW ..) (by rw[aL,e1,mV,aL];rfl) (fun _=>(nomatch ·)) (H5.p [3,4,5,0,1,2] 6)
end
end
section
set_option tactic.hygienic false
structure DU where
 LF:Addr
 cN:Addr
 cS:Addr
 cT:Addr
 I1:Addr
 A1:Addr
 L1:Addr
 cK:Addr
def J6(w:ZW):PySem.Expr:=Ac (eK w 9)
def Fp(w:ZW):PySem.Expr:=L8 (J6 w)
def Fq(w:ZW)(z:DU):Env:=lD (J6 w) z.L1 (bz w z.LF z.cN z.cS z.cT) [(⟨⟨[107]⟩⟩,z.cK),(⟨⟨[115,116,101,112,115]⟩⟩,z.cS)]
def J7(w:ZW)(z:DU)(Z:Addr):Env:=lD (Fp w) Z (Fq w z) [(⟨⟨[115,116,101,112,115]⟩⟩,z.cS),(⟨⟨[107]⟩⟩,z.cK)]
def J8(w:ZW)(z:DU):Code:=.compStart (J6 w) 0 (.ref z.I1) (.ref z.A1) (Fq w z)
def tF(w:ZW)(z:DU):Code:=.compLoop (J6 w) 0 (.ref z.I1) (.ref z.A1) (Fq w z)
def J9(w:ZW)(z:DU)(Y X Z:Addr):Code:=.compStart (Fp w) 0 (.ref Y) (.ref X) (J7 w z Z)
def qn(w:ZW)(z:DU)(Y X Z:Addr):Code:=.compLoop (Fp w) 0 (.ref Y) (.ref X) (J7 w z Z)
def qo(w:ZW)(z:DU):ZC:=cA w z.LF z.cN z.cS z.cT ⟨1015,10,1015,68⟩
def tG(w:ZW)(z:DU):ZC:=(tF w z,⟨1015,23,1015,31⟩)::qo w z
noncomputable def HB(Z:Option (Tok×ZV)):Obj:=match Z with|none=>gj [] 0|some _=>gj [] 2
section
variable(w:ZW)(K:Tok)(L:ZV)(z:DU)(i r:Nat)(J:Option ZV)(W P T O:Nat)(M:Option (Tok×ZV))(xs:ZY)(R k:Nat)(tk:Tok)(st:Nat)(X:Tok)(as:ZY)(Q:Nat)(Y:ZL)(S:Pos)(Z V:Nat)(U:ZG)(fr:ZL)(pos:Pos)(N t:Nat)(G:ZG)
def En:ZH w:=jn [dz 0xdd7f070c0f0301,[(4,.stop)]]
def Eo:ay:=bo (V0 w (ee w)) (En w) fr (Eh w Y Z V U) (.ok .next) [(965,aP none),((Z+3),vD w.params (some (K,L)))] [] N t G
abbrev PT:dK:=⟨(Eo w K L Y Z V U fr N t G),(J8 w ⟨963,964,965,966,N+1,N+2,N+3,N+4⟩),⟨[(965,aP (some (.ref (Z+2)))),((Z+3),HB (some (K,L)))],[((N+1),⟨(.type "range_iterator"),none,(.fields ⟨[(.int 0 0),(.int 4 0),(.int 1 0)]⟩),⟨[]⟩⟩),((N+2),⟨(.type "list"),none,(.seq ⟨[]⟩ 0),⟨[]⟩⟩),((N+3),⟨(.type "dict"),none,(.dict ⟨[]⟩ 0),⟨[]⟩⟩),((N+4),⟨(.type "cell"),none,(.cell none),⟨[]⟩⟩)],[]⟩,(N+5),(t+3)⟩
theorem PU:(PT w K L Y Z V U fr N t G).ok (V0 w (ee w)) (En w) ⟨0,0,0,0⟩ (cA w 963 964 965 966 ⟨1015,10,1015,68⟩) 2 [3,4,5,6] G:=by apply aC w;kernel_rfl
def yw:ZH w:=h2 w (jn [dz 0xd6,[(0,.tail)]]) (jn [[(1,.tail)]])
def HC:ay:=aq (V0 w (qo w z)) (yw w) fr (J8 w z) pos [(z.I1,b6 i r)] [] N t G
abbrev HD:c7:=⟨(HC w z i r fr pos N t G),(tF w z),(bif w.params.followText "comprehension-iter-twice" then pos else⟨1015,59,1015,67⟩),⟨[(z.I1,b6 i r)],[],[]⟩,N,t⟩
theorem HE:(HD w z i r fr pos N t G).ok (yw w) pos 1 [] G:=by apply h9 w;kernel_rfl
def Ep:ZH w:=jn [dz 0xddae0f0acb,[(2,.stop)]]
def Er:ay:=aq (V0 w (qo w z)) (Ep w) fr (tF w z) pos [(z.I1,b6 i (r+1:Nat)),(z.cK,aP J)] [] N t G
abbrev PV:dK:=⟨(Er w z i r J fr pos N t G),(J9 w z (N+1) (N+2) (N+3)),⟨[(z.I1,b6 (i+1:Nat) (((r+1:Nat):Int)-1)),(z.cK,aP (some (.int i t)))],[((N+1),⟨(.type "range_iterator"),none,(.fields ⟨[(.int 0 0),(.int 4 0),(.int 1 0)]⟩),⟨[]⟩⟩),((N+2),⟨(.type "list"),none,(.seq ⟨[]⟩ 0),⟨[]⟩⟩),((N+3),⟨(.type "dict"),none,(.dict ⟨[]⟩ 0),⟨[]⟩⟩)],[]⟩,(N+4),(t+4)⟩
theorem PW:(PV w z i r J fr pos N t G).ok (V0 w (qo w z)) (Ep w) pos (tG w z) 2 [3,4,5] G:=by apply aC w;kernel_rfl
def yx:ZH w:=h2 w (jn [dz 0xd6,[(0,.tail)]]) (jn [[(1,.tail)]])
abbrev HF:c7:=⟨(aq (V0 w (tG w z)) (yx w) fr (J9 w z W P T) pos [(W,b6 i r)] [] N t G),(qn w z W P T),(bif w.params.followText "comprehension-iter-twice" then pos else⟨1015,23,1015,31⟩),⟨[(W,b6 i r)],[],[]⟩,N,t⟩
theorem HG:(HF w z i r W P T fr pos N t G).ok (yx w) pos 1 [] G:=by apply h9 w;kernel_rfl
def yy:ZH w:=jn [dz 0x1ac1030e0f73cb,[(0,.ai (d0 3 (.int st X)))],dz 0x16,[(3,.ai (oEq true))],dz 0x1803,[(0,.ai (eJ 5))],[(0,.tail)]]
abbrev HH:c7:=⟨(aq (V0 w (tG w z)) (yy w st X) fr (qn w z W P T) pos [(W,b6 i (r+1:Nat)),(T,vD w.params M),(z.cS,aP (some (.ref O))),(O,ae xs R),(z.cK,aP (some (.int k tk))),(P,ae as Q)] [] N t G),(qn w z W P T),⟨1015,12,1015,13⟩,⟨[(W,b6 (i+1:Nat) (((r+1:Nat):Int)-1)),(T,vD w.params (some (iT M (t+1),.int i t))),(z.cS,aP (some (.ref O))),(O,ae xs R),(z.cK,aP (some (.int k tk))),(P,ae (as++[.int i t]) (Q+1))],[],[as.length<=16777216,(((st:Nat):Int)==((k:Nat):Int))=true,eN i xs (.int st X)]⟩,N,(t+2)⟩
theorem HI:(HH w z i r W P T O M xs R k tk st X as Q fr pos N t G).ok (yy w st X) pos 6 [] G:=by apply cm M;apply aC w;kernel_rfl
def yz:ZH w:=jn [dz 0x1ac1030e0f73cb,[(0,.ai (d0 3 (.int st X)))],dz 0x16,[(3,.ai (oEq false))],[(0,.tail)]]
abbrev HJ:c7:=⟨(aq (V0 w (tG w z)) (yz w st X) fr (qn w z W P T) pos [(W,b6 i (r+1:Nat)),(T,vD w.params M),(z.cS,aP (some (.ref O))),(O,ae xs R),(z.cK,aP (some (.int k tk)))] [] N t G),(qn w z W P T),⟨1015,35,1015,48⟩,⟨[(W,b6 (i+1:Nat) (((r+1:Nat):Int)-1)),(T,vD w.params (some (iT M (t+1),.int i t))),(z.cS,aP (some (.ref O))),(O,ae xs R),(z.cK,aP (some (.int k tk)))],[],[(((st:Nat):Int)==((k:Nat):Int))=false,eN i xs (.int st X)]⟩,N,(t+2)⟩
theorem HK:(HJ w z i r W P T O M xs R k tk st X fr pos N t G).ok (yz w st X) pos 5 [] G:=by apply cm M;apply aC w;kernel_rfl
def yA:ZH w:=jn [dz 0xde,[(0,.fin)]]
abbrev HL:dp:=⟨(aq (V0 w (tG w z)) (yA w) fr (qn w z W P T) pos [(W,b6 i 0)] [] N t G),(.ok .next),⟨[(W,b6 i 0)],[],[]⟩,(N+2),t⟩
theorem HM:(HL w z i W P T fr pos N t G).ok (yA w) pos 1 [] G:=by apply aC w;kernel_rfl
def Es:ZH w:=jn [dz 0x90f0301,[(0,.ai (eJ 0))],[(0,.tail)]]
abbrev PX:c7:=⟨(bo (V0 w (qo w z)) (Es w) fr (Er w z i r J Y S Z V U) (.ok .next) [(z.A1,ae as Q),((Z+3),vD w.params (some (K,L)))] [] N t G),(tF w z),⟨1015,23,1015,31⟩,⟨[(z.A1,ae (as++[.ref (Z+2)]) (Q+1)),((Z+3),HB (some (K,L)))],[],[as.length<=16777216]⟩,N,t⟩
theorem PY:(PX w K L z i r J as Q Y S Z V U fr N t G).ok (Es w) ⟨0,0,0,0⟩ 2 [] G:=by apply aC w;kernel_rfl
def yB:ZH w:=jn [dz 0xde,[(0,.fin)]]
def HN:ay:=aq (V0 w (qo w z)) (yB w) fr (tF w z) pos [(z.I1,b6 i 0)] [] N t G
abbrev HO:dp:=⟨(HN w z i fr pos N t G),(.ok .next),⟨[(z.I1,b6 i 0)],[],[]⟩,(N+2),t⟩
theorem HP:(HO w z i fr pos N t G).ok (yB w) pos 1 [] G:=by apply aC w;kernel_rfl
end
end
section
set_option tactic.hygienic false
abbrev yC:=List (Addr×List (Nat×Tok)×Nat)
noncomputable def bA(R:yC):ZY:=R.map fun q=>.ref q.1
noncomputable def dq(R:yC):ZA:=R.map fun q=>(q.1,ae (iv q.2.1) q.2.2)
noncomputable def iN(f:Nat->Nat)(k:Nat):ZN:=(List.range 4).filter fun v=>f v==k
section
variable(w:ZW)(z:DU)(bg:List aQ)(f:Nat->Nat)(Y sep:Nat)(ss:List (Nat×Tok))(Z:ss.map (·.1)=(List.range 4).map f)
include Z in
theorem PZ[ZI]{Q:ZR}(I2 A2 L2 k:Nat)(tk:Tok)(E:List Bk)(B:aS)(b:Bt (tG w z) none B)(K:∀s' kv v (as:List (Nat×Tok)) aY,as.map (·.1)=iN f k->Hq w s' ([.o L2 (vD w.params (some (kv,v))),.o z.cS (aP (some (.ref Y))),.o Y (ae (iv ss) sep),.o z.cK (aP (some (.int k tk))),.o A2 (ae (iv as) aY)]++E) bg->Q (.ok .next) s'):∀(m i:Nat),i+m=4->∀(mi:Int),mi=m->∀(s:ZS)(p:Pos)(sv:Option (Tok×ZV))(as:List (Nat×Tok))(av:ZY)(aY:Nat),iv as=av->
  as.map (·.1)=(List.range i).filter (fun v=>f v==k)->(m=0->sv≠none)->
  Hq w s ([.o I2 (b6 i mi),.o L2 (vD w.params sv),.o z.cS (aP (some (.ref Y))),.o Y (ae (iv ss) sep),.o z.cK (aP (some (.int k tk))),.o A2 (ae av aY)]++E) bg->
  Rn w B s (qn w z I2 A2 L2) p Q:=by
 intro m;induction m with
 |zero=>
  rintro i hi _ rfl s p sv as _ aY rfl e1 nZ H0
  obtain⟨⟨kv,v⟩,rfl⟩:=sG.mp (nZ rfl);obtain rfl:i=4:=hi;exact kF [0] b H0 (fun fr=>HM w z 4 I2 A2 L2 fr p (zN s) s.toks s.gens:) (fun _=>aj) fun fr s' H8=>K s' kv v as aY e1 (H8.p [1,2,3,4,5] 6)
 |succ m jg=>
  rintro i hi _ rfl s p sv as _ aY rfl e1 nZ H0
  have Ak:i<4:=by exact lA hi
  have Au:(iv as).length<=16777216:=by
   unfold iv;rw[aB,←aB,e1];exact au (kK _ _) (by rw[sF];lia)
  have VE:ss.length=4:=by rw[←aB,Z];rfl
  obtain⟨⟨st,RR⟩,VF⟩:∃e,ss[i]?=some e:=⟨_,List.getElem?_eq_getElem (VE▸Ak)⟩;obtain rfl:st=f i:=by
   have:=congrArg (fun l:ZN=>l[i]?) Z
   rw[List.getElem?_map,VF,List.getElem?_map,List.getElem?_range Ak]at this;exact Option.some.inj this
  have hg:eN i (iv ss) (.int (f i) RR):=sb (by rw[gz,VF];rfl) (by unfold iv;rw[aB,VE];decide)
  by_cases hk:f i=k
  .exact kT [0,1,2,3,4,5] b H0 (fun fr=>HI w z i m I2 A2 L2 Y sv (iv ss) sep k tk (f i) RR (iv as) aY fr p (zN s) s.toks s.gens:) (fun _=>aa Au (aa (RB hk) (aa hg aj))) fun fr s' H8=>
    jg (i+1) (lB hi) _ (xu m) s' _ (some (iT sv (s.toks+1),.int i s.toks)) (as++[(i,s.toks)]) _ (aY+1) (lW ..) (by rw[aL,e1,mV,mT];simp[hk]) (fun _=>(nomatch ·)) H8
  .exact kT [0,1,2,3,4] b H0 (fun fr=>HK w z i m I2 A2 L2 Y sv (iv ss) sep k tk (f i) RR fr p (zN s) s.toks s.gens:) (fun _=>aa (An hk) (aa hg aj)) fun fr s' H8=>
    jg (i+1) (lB hi) _ (xu m) s' _ (some (iT sv (s.toks+1),.int i s.toks)) as _ aY rfl (by rw[e1,mV,mT];simp[hk]) (fun _=>(nomatch ·)) H8
include Z in
theorem BH[ZI]{Q:ZR}(E:List Bk)(B:aS)(b:Bt (qo w z) none B)(K:∀s' (R:yC) aY,R.map (fun q=>q.2.1.map (·.1))=(List.range 4).map (iN f)->Hq w s' ([.o z.A1 (ae (bA R) aY),.o z.cS (aP (some (.ref Y))),.o Y (ae (iv ss) sep),.l (dq R)]++E) bg->Q (.ok .next) s'):∀(m i:Nat),i+m=4->∀(mi:Int),mi=m->∀(s:ZS)(p:Pos)(kk:Option ZV)(R:yC)(rv:ZY)(L:ZA)(aY:Nat),bA R=rv->dq R=L->
  R.map (fun q=>q.2.1.map (·.1))=(List.range i).map (iN f)->
  Hq w s ([.o z.I1 (b6 i mi),.o z.cK (aP kk),.o z.A1 (ae rv aY),.o z.cS (aP (some (.ref Y))),.o Y (ae (iv ss) sep),.l L]++E) bg->
  Rn w B s (tF w z) p Q:=by
 intro m;induction m with
 |zero=>
  rintro i hi _ rfl s p kk R _ _ aY rfl rfl e1 H0
  obtain rfl:i=4:=hi;exact kF [0] b H0 (fun fr=>HP w z 4 fr p (zN s) s.toks s.gens:) (fun _=>aj) fun fr s' H8=>K s' R aY e1 (H8.p [2,3,4,5] 6)
 |succ m jg=>
  rintro i hi _ rfl s p kk R _ _ aY rfl rfl e1 H0
  have Yd:(bA R).length<=16777216:=by
   have:=congrArg List.length e1
   rw[aB,aB,sF]at this;unfold bA;rw[aB];lia
  refine kS [0,1] b H0 (fun fr=>PW w z i m kk fr p (zN s) s.toks s.gens:) (fun _=>aj) fun fr s1 H1 B' b'=>?_
  refine kT [2] b' H1 (fun bV=>HG w z 0 4 (s.heap.objs.size+1) (s.heap.objs.size+2) (s.heap.objs.size+3) bV _ (zN s1) s1.toks s1.gens:) (fun _=>aj) fun bV s2 H3=>?_
  refine PZ w z bg f Y sep ss Z (s.heap.objs.size+1) (s.heap.objs.size+2) (s.heap.objs.size+3) i s.toks ([.o z.I1 (b6 (i+1:Nat) (((m+1:Nat):Int)-1)),.o z.A1 (ae (bA R) aY),.l (dq R)]++E) B' b' (fun s3 kv v as ki mv H4=>?_) 4 0 rfl _ rfl s2 _ none [] _ 0 rfl rfl (nomatch ·) (H3.p [0,4,6,7,2,3,1,5,8] 9)
  exact qG [6,0] b H4 (fun ig=>PY w kv v z i m kk (bA R) aY fr p (zN s) s.toks s.gens ig (zN s3) s3.toks s3.gens:) (fun _=>aa Yd aj) fun ig s4 H6=>
   jg (i+1) (lB hi) _ (xu m) s4 _ (some (.int i s.toks)) (R++[(s.heap.objs.size+2,as,ki)]) _ (dq R++[(s.heap.objs.size+2,ae (iv as) ki)]) (aY+1) (aL ..) (aL ..) (by
    rw[aL,e1,mV,aL];show _++[as.map (·.1)]=_
    rw[mv];rfl) ((H6.ch [7,5] (List.Perm.refl _) [.l (dq R++[(s.heap.objs.size+2,ae (iv as) ki)])]).p [6,5,1,3,4,0] 7)
end
end
end
section
open PySem.F
section
set_option tactic.hygienic false
inductive lI(M:ZA):ZY->List (List Int)->Prop
 |nil:lI M [] []
 |cons {a:Addr} {xs:ZY} {ep:Nat} {ns:List Int} {vs:ZY} {ds:List (List Int)}:(a,ae xs ep)∈M->PyProof.Rows.IntsAre xs ns->lI M vs ds->lI M (.ref a::vs) (ns::ds)
noncomputable def iD(ns:List Int):PyData:=.list (ns.map .int)
theorem t8{h:Heap}:∀{vs:ZY} {ns:List Int},PyProof.Rows.IntsAre vs ns->∃as,ReadsAll h vs (ns.map .int) as:=by
 intro vs ns Y;induction Y with
 |nil=>exact⟨_,.nil⟩
 |cons n t _ Z=>obtain⟨as,z⟩:=Z;exact⟨_,.cons (.int n t) z⟩
theorem mw{h:Heap}{M:ZA}(X:∀p∈M,h.get? p.1=some p.2){vs:ZY}{ds:List (List Int)}(R:lI M vs ds):∃as,ReadsAll h vs (ds.map iD) as:=by
 induction R with
 |nil=>exact⟨_,.nil⟩
 |cons hm Y _ Z=>
  obtain⟨as,z⟩:=Z;obtain⟨bs,y⟩:=t8 (h:=h) Y;exact⟨_,.cons (.list (X _ hm) rfl rfl y) z⟩
theorem ro:∀ns:List Int,PyData.canLayAll0 (ns.map .int)=true/\PyData.depthAll (ns.map .int)=0
 |[]=>⟨rfl,rfl⟩
 |n::ns=>by
  obtain⟨Z,h2⟩:=ro ns;refine⟨?_,?_⟩
  .show (PyData.canLay0 (.int n)&&PyData.canLayAll0 (ns.map .int))=true
   rw[Z];rfl
  .show max (PyData.depth (.int n)) (PyData.depthAll (ns.map .int))=0
   rw[h2];rfl
theorem qW:∀ds:List (List Int),PyData.canLayAll0 (ds.map iD)=true/\PyData.depthAll (ds.map iD)<=1
 |[]=>⟨rfl,b9 _⟩
 |n::ns=>by
  obtain⟨X,h2⟩:=qW ns;obtain⟨Y,Z⟩:=ro n;refine⟨?_,?_⟩
  .show (PyData.canLayAll0 (n.map .int)&&PyData.canLayAll0 (ns.map iD))=true
   rw[X,Y];rfl
  .show max (PyData.depthAll (n.map .int)+1) (PyData.depthAll (ns.map iD))<=1
   rw[Z];lia
def n8(xs Z:ZY):Prop:=(∀v∈xs,∃x t,v=.str x t)/\(∀v∈Z,∃x t,v=.str x t)/\xs.map (fun v=>(ag v).cps.toList)=Z.map (fun v=>(ag v).cps.toList)
section
variable{prog:Program}{w:ZW}{kt:KT}
noncomputable def xd(e:Int):aX prog w kt:=dg (k7 "int.__sub__") (fun c=>[ak (v0 c)-ak (v1 c)=e]) (fun a t=>.int e t) 1
 fun c a a a hp hB a=>by
  have Z:ak (v0 c)-ak (v1 c)=e:=hp _ (.head _)
  exact bf hB (by decide+kernel) PySem.F.entry_int_sub (PySem.AutoIntG9.int___sub___int_int_0 _ _ _ _) ⟨by rw[Z],rfl⟩
noncomputable def yD(ix:Nat)(x:ZV):aX prog w kt:=kR ix (fun c d=>.builtin "list.__getitem__" ⟨[.ref (af (v0 c)),.int (-1) (ao (v1 c))],[]⟩) du (fun c=>af (v0 c)) (fun c o=>[(ah o).getLast?=some x]) (fun d d d=>x) 0
 fun c o s B pos hp Y hB d=>by
  have hx:(ah o).getLast?=some x:=hp _ (.head _)
  generalize ao (v1 c)=t;generalize af (v0 c)=l at*;have g:Meets (Builtin.«list.__getitem__» ⟨[.ref l,.int (-1) t],[]⟩) (fun d R s=>s.heap.get? l=some (du o)/\R (.ok (.ret x)) s):=by
   refine .of_wp fun prog w A R s h=>?_
   obtain⟨X,h2⟩:=h;have Z:0<(ah o).length:=by
    cases e:ah o with
    |nil=>rw[e]at hx;cases hx
    |cons a b=>simp
   show wpAny _ _ (Builtin.List.listSubscript? (.int (-1) t)>>=_) _ _ s
   refine wpAny_bind (wpAny_listSubscript_int (fitsIndex_neg (by decide) (by decide)) ?_)
   show wpAny _ _ ((Builtin.List.listItems (.ref l)>>=fun xs=>pure ((seqIndex? (-1) xs.size).bind fun i=>xs[i]?.map (i,·)))>>=_) _ _ s
   refine wpAny_bind (wpAny_bind ?_);show wpAny _ _ (seqItems? (.ref l)>>=_) _ _ s
   refine wpAny_bind (wpAny_seqItems X rfl (wpAny_pure (wpAny_pure ?_)));have V:seqIndex? (-1) (⟨ah o⟩:Array ZV).size=some ((ah o).length-1):=by
    rw[seqIndex_neg (by decide) (by simp;exact Int.toNat_le.mp Z)]
    congr 1
    simp;lia
   rw[V];have W:(⟨ah o⟩:Array ZV)[(ah o).length-1]?=some x:=by
    rw[List.getLast?_eq_getElem?]at hx;simpa using hx
   simp only[Option.bind_some,W,Option.map_some]
   first
    |exact wpAny_bind (wpAny_pure (wpAny_pure ⟨x,rfl,h2⟩))
    |exact wpAny_pure ⟨x,rfl,h2⟩
  exact bL hB (by decide+kernel) PySem.entry_list_getitem g ⟨Y,rfl,rfl⟩
theorem BI[ZI]{w:ZW}{W:ZC}{B:aS}{s:ZS}{pos:Pos}(b:Bt W none B)(N:z9 W=true){l m:Addr}{xs Y:ZY}{Z X:Nat}{M E:ZA}{bg:List aQ}(ds:List (List Int))(P:lI M xs ds)(Q:lI M Y ds)(H:Hp w s ([(l,ae xs Z),(m,ae Y X)]++(M++E)) bg):a8 pg w B s (.builtin "list.__ne__" ⟨[.ref l,.ref m],[]⟩) pos (denote table (.builtin "list.__ne__" ⟨[.ref l,.ref m],[]⟩)) [] (fun r V=>r=.ok (.ret (.bool false))/\Hp w V ([(l,ae xs Z),(m,ae Y X)]++(M++E)) bg):=by
 have L:s.heap.get? l=some (ae xs Z):=H.holds (l,ae xs Z) (.head _)
 have K:s.heap.get? m=some (ae Y X):=H.holds (m,ae Y X) (.tail _ (.head _))
 have S:∀p∈M,s.heap.get? p.1=some p.2:=fun p hp=>H.holds p (cz _ (dN _ hp))
 obtain⟨as,q1⟩:=mw S P;obtain⟨bs,T⟩:=mw S Q;obtain⟨U,G⟩:=qW ds;have O:=SeqAt.ReadsAll.length _ _ _ q1
 have I:=SeqAt.ReadsAll.length _ _ _ T
 have D:unitsOf B.W<=600:=by rw[b.W];exact vk N
 refine(bL (prog:=pg) (w:=w) (s:=s) (pos:=pos) b.hB (by decide+kernel) PySem.F.entry_list_ne (SeqAt.list_neAt l m ⟨xs⟩ ⟨Y⟩ Z X none none #[] #[] (by simp only[List.size_toArray];lia) (SeqAt.pairEq (ds.map iD) (ds.map iD)))
  (R:=fun r V=>r=.ok (.ret (.bool false))/\V=s) ⟨L,K,fun j J h2=>by
   have:=SeqAt.eqAt_readsAll (ds.map iD) (ds.map iD) (xo B).in1 s _ _ _ _ q1 T U U (by
    show unitsOf B.W+1+min _ _<cLine
    simp only[Nat.min_self];unfold cLine;lia) j (by simpa using J) (by simpa using h2)
   simpa using this,by
   have Z:(⟨xs⟩:Array ZV).size=(ds.map iD).length:=by simp only[List.size_toArray];exact O
   rw[Z,SeqAt.eqvAll_same_length rfl,SeqAt.eqvAll_refl _ U];exact⟨rfl,rfl⟩⟩).mono ?_
 rintro r V ⟨rfl,rfl⟩
 exact⟨rfl,H⟩
theorem P0[ZI]{w:ZW}{W:ZC}{B:aS}{s:ZS}{pos:Pos}{Q:ZR}(b:Bt W none B)(U:z9 W=true){l m:Addr}{xs Z:ZY}{e1 e2:Nat}{M:ZA}{F:List Bk}{bg:List aQ}(ds:List (List Int))(V:lI M xs ds)(X:lI M Z ds)(H:Hq w s (.o l (ae xs e1)::.o m (ae Z e2)::.l M::F) bg)(K:∀Y,Hq w Y (.o l (ae xs e1)::.o m (ae Z e2)::.l M::F) bg->Q (.ok (.ret (.bool false))) Y):Rn w B s (.builtin "list.__ne__" ⟨[.ref l,.ref m],[]⟩) pos Q:=by
 have e:fl (.o l (ae xs e1)::.o m (ae Z e2)::.l M::F)=[(l,ae xs e1),(m,ae Z e2)]++(M++fl F):=congrArg (fun z=>(l,ae xs e1)::(m,ae Z e2)::z) (cZ _ _)
 unfold Hq at H K;rw[e]at H K;exact Rn.of ((BI b U ds V X H).mono fun r Y ⟨e,h⟩=>e▸K Y h)
noncomputable def P1(Z Y:Nat):aX prog w kt where
 A:=fun a c a a T=>⟨.builtin "list.__eq__" ⟨[.ref (af (v0 c)),.ref (af (v1 c))],[]⟩,[Z,Y],[(af (v0 c),du (ab T Z)),(af (v1 c),du (ab T Y))],.fq,[n8 (ah (ab T Z)) (ah (ab T Y))],[],[]⟩
 B:=fun a c N t T a=>⟨.ok (.ret (.bool true)),[du (ab T Z),du (ab T Y)],[],N,t,0,[]⟩
 ok:=fun a c T s B pos e hp a Q hn a hB M O=>by
  have U:s.heap.get? (af (v0 c))=some (du (ab T Z)):=Q _ (.head _)
  have S:s.heap.get? (af (v1 c))=some (du (ab T Y)):=Q _ (.tail _ (.head _))
  obtain⟨s1,s2,s3⟩:n8 (ah (ab T Z)) (ah (ab T Y)):=hp _ (.head _);have hlen:(ah (ab T Z)).length=(ah (ab T Y)).length:=by
   have:=congrArg List.length s3;simpa using this
  have e:c=.builtin "list.__eq__" ⟨[.ref (af (v0 c)),.ref (af (v1 c))],[]⟩:=e
  refine bE e hB (by decide+kernel) PySem.F.entry_list_eq (SeqAt.list_eqAt (af (v0 c)) (af (v1 c)) ⟨ah (ab T Z)⟩ ⟨ah (ab T Y)⟩ (eU (ab T Z)) (eU (ab T Y)) none none #[] #[] (by simp only[List.size_toArray];exact Nat.add_right_cancel (congrFun (congrArg HAdd.hAdd hlen) Z)) (fun a=>true))
   (R:=fun r V=>r=.ok (.ret (.bool true))/\V=s) ⟨U,S,fun j W h2=>by
    have g1:j<(ah (ab T Z)).length:=by simpa using W
    have g2:j<(ah (ab T Y)).length:=by simpa using h2
    obtain⟨x,t,ex⟩:=s1 _ (List.getElem_mem g1);obtain⟨y,u,P⟩:=s2 _ (List.getElem_mem g2);have X:=congrArg (fun l=>l[j]?) s3
    simp only[List.getElem?_map,List.getElem?_eq_getElem g1,List.getElem?_eq_getElem g2,Option.map_some,Option.some.injEq,ex,P]at X;have X:x.cps.toList=y.cps.toList:=X
    have k:=(SeqRoads2.EqGives.str x y t u).at (xo B).in1 s
    rw[show(x.cps.toList==y.cps.toList)=true by rw[X];simp]at k
    have a1:(⟨ah (ab T Z)⟩:Array ZV)[j]=.str x t:=by simpa using ex
    have a2:(⟨ah (ab T Y)⟩:Array ZV)[j]=.str y u:=by simpa using P
    rw[a1,a2];exact k,by
    have:(List.range (⟨ah (ab T Z)⟩:Array ZV).size).all (fun a=>true)=true:=kE.mpr fun a a=>rfl
    rw[this];exact⟨rfl,rfl⟩⟩ fun r V ⟨W,h2⟩=>⟨[],W,?_⟩
  subst h2;refine⟨Ext.refl ..,by simp,?_,bH _,(fun a hp=>nomatch hp),cW,rfl,rfl,by simp,(fun a hp=>nomatch hp),(fun a hp=>nomatch hp),(fun a hp=>nomatch hp),(fun a hp=>nomatch hp)⟩
  intro p hp;rcases bc.mp hp with rfl|hp
  .exact U
  .rcases bQ.mp hp with rfl;exact S
end
end
end
section
open PySem.F PySem.Builtin PySem.Builtin.Str
section
set_option tactic.hygienic false
noncomputable def Ye(x:Stmt):PySem.Expr:=if h:x.ctorIdx=12 then Stmt.If.elim x h fun t a a a=>t else default
noncomputable def Yg(x:PySem.Expr):List PySem.Expr:=if h:x.ctorIdx=0 then PySem.Expr.BoolOp.elim x h fun a l a=>l else[]
noncomputable def Yh(x:PySem.Expr):PySem.Expr:=if h:x.ctorIdx=15 then PySem.Expr.Compare.elim x h fun a a r a=>r.headD default else default
def Ka(w:ZW):PySem.Expr:=Yh ((Yg (Ye (eK w 10))).getD 1 default)
def VG(w:ZW)(Y X Z:Addr):Code:=.compStart (Ka w) 0 (.ref Y) (.ref X) (lD (Ka w) Z (bz w 963 964 965 966) [])
def Av(w:ZW)(Y X Z:Addr):Code:=.compLoop (Ka w) 0 (.ref Y) (.ref X) (lD (Ka w) Z (bz w 963 964 965 966) [])
def HQ(w:ZW):ZC:=cA w 963 964 965 966 ⟨1016,60,1016,63⟩
noncomputable def yE(P:Params)(Z:Option (Tok×ZV)):Obj:=match Z with|none=>gj [] 0|some p=>gj [dE P [114,111,119] p.1 p.2] 1
section
variable(w:ZW)(I:Tok)(J:ZV)(k:ZT)(SC S L K O:Nat)(Q:Bool)(M:ZV)(a:LX)(n:Nat)(ss:ZY)(sep:Nat)(ds:ZY)(P:Nat)(X:ZL)(U V:Nat)(R:ZG)(Y:ZL)(Z W:Nat)(T:ZG)(fr:ZL)(N t:Nat)(G:ZG)
def Et:ZH w:=jn [dz 0x20b020613db,[(0,.ai (tD 2 Q))],dz 0x3823081a0529,[(2,.stop)]]
def xf:ay:=bo (V0 w (ee w)) (Et w Q) fr (Eo w I J X U V R Y Z W T) (.ok .next) [(963,bZ w k SC S L K 966 965 964 Q M (a.l w.params) n),(965,aP (some (.ref O))),(O,ae ss sep),((Z+2),ae ds P)] [] N t G
abbrev P2:dK:=⟨(xf w I J k SC S L K O Q M a n ss sep ds P X U V R Y Z W T fr N t G),(VG w N (N+1) (N+2)),⟨[(963,bZ w k SC S L K 966 965 964 Q M (a.l w.params++[dE w.params [100,117,101] t (.ref (Z+2))]) (n+1)),(965,aP (some (.ref O))),(O,ae ss sep),((Z+2),ae ds P)],[(N,⟨(.type "list_iterator"),none,(.fields ⟨[(.ref (Z+2)),(.int 0 0)]⟩),⟨[]⟩⟩),((N+1),⟨(.type "list"),none,(.seq ⟨[]⟩ 0),⟨[]⟩⟩),((N+2),⟨(.type "dict"),none,(.dict ⟨[]⟩ 0),⟨[]⟩⟩)],[gE ss,(ss.any fun y=>ak y==4)=Q]⟩,(N+3),(t+2)⟩
theorem P4:(P2 w I J k SC S L K O Q M a n ss sep ds P X U V R Y Z W T fr N t G).ok (V0 w (ee w)) (Et w Q) ⟨0,0,0,0⟩ (cA w 963 964 965 966 ⟨1016,60,1016,63⟩) 4 [4,5,6] G:=by apply uk Q;apply gA a;apply aC w;kernel_rfl
end
def Kb(w:ZW)(Z N:Nat):ay:=xf w 0 .none (fun a=>0) 0 0 0 Z 0 false .none .x0 0 [] 0 [] 0 [] 0 0 #[] [] 0 0 #[] [] N 0 #[]
theorem P5(w:ZW)(K:Tok)(M:ZV)(k:ZT)(SC S J O I:Nat)(P:Bool)(L:ZV)(a:LX)(n:Nat)(ss:ZY)(sep:Nat)(ds:ZY)(Q:Nat)(Y:ZL)(U W:Nat)(R:ZG)(Z:ZL)(V X:Nat)(T:ZG)(fr:ZL)(N t:Nat)(G:ZG):bp (xf w K M k SC S J O I P L a n ss sep ds Q Y U W R Z V X T fr N t G)=bp (Kb w O N):=by delta Kb;apply uk P;apply gA a;apply aC w;kernel_rfl
section
variable(w:ZW)(Y W X DU i R:Nat)(vs:ZY)(Z V:Nat)(U:Option (Tok×ZV))(x:ZV)(xs as:ZY)(T:Nat)(fr:ZL)(pos:Pos)(N t:Nat)(G:ZG)
def Eu:ZH w:=h2 w (jn [dz 0xd6,[(0,.tail)]]) (jn [[(1,.tail)]])
def P6:ay:=aq (V0 w (HQ w)) (Eu w) fr (VG w Y W X) pos [(Y,bx DU i)] [] N t G
abbrev P7:c7:=⟨(P6 w Y W X DU i fr pos N t G),(Av w Y W X),(bif w.params.followText "comprehension-iter-twice" then pos else⟨1016,60,1016,63⟩),⟨[(Y,bx DU i)],[],[]⟩,N,t⟩
theorem P8:(P7 w Y W X DU i fr pos N t G).ok (Eu w) pos 1 [] G:=by apply h9 w;kernel_rfl
def Ew:ZH w:=jn [dz 0xbd,[(0,.ai (fu 0 1 (.ref R)))],dz 0x1408141a1408162308142e0e111f,[(2,.tail)]]
abbrev P9:c7:=⟨(aq (V0 w (HQ w)) (Ew w R) fr (Av w Y W X) pos [(Y,bx DU i),(DU,ae vs Z),(X,yE w.params U),(R,ae [] V)] [] N t G),(Av w Y W X),⟨1016,67,1016,76⟩,⟨[(Y,bx DU (i+1)),(DU,ae vs Z),(X,yE w.params (some (iT U t,.ref R))),(R,ae [] V)],[],[vs[i]?=some (.ref R)]⟩,(N+1),(t+1)⟩
theorem Qa:(P9 w Y W X DU i R vs Z V U fr pos N t G).ok (Ew w R) pos 4 [] G:=by apply cm U;apply aC w;kernel_rfl
def Ex:ZH w:=jn [dz 0xbd,[(0,.ai (fu 0 1 (.ref R)))],dz 0x161f1708182308172e0e111f,[(0,.ai (eJ 4))],[(0,.tail)]]
abbrev Qb:c7:=⟨(aq (V0 w (HQ w)) (Ex w R) fr (Av w Y W X) pos [(Y,bx DU i),(DU,ae vs Z),(X,yE w.params U),(R,ae (x::xs) V),(W,ae as T)] [] N t G),(Av w Y W X),⟨1016,45,1016,48⟩,⟨[(Y,bx DU (i+1)),(DU,ae vs Z),(X,yE w.params (some (iT U t,.ref R))),(R,ae (x::xs) V),(W,ae (as++[.ref R]) (T+1))],[],[as.length<=16777216,vs[i]?=some (.ref R)]⟩,(N+1),(t+1)⟩
theorem Qc:(Qb w Y W X DU i R vs Z V U x xs as T fr pos N t G).ok (Ex w R) pos 5 [] G:=by apply cm U;apply aC w;kernel_rfl
def Ey:ZH w:=jn [dz 0xbd,[(0,.ai (qf 0 1))],dz 0x8,[(0,.fin)]]
def Qd:ay:=aq (V0 w (HQ w)) (Ey w) fr (Av w Y W X) pos [(Y,bx DU i),(DU,ae vs Z)] [] N t G
abbrev Qe:dp:=⟨(Qd w Y W X DU i vs Z fr pos N t G),(.ok .next),⟨[(Y,jO "list_iterator" i),(DU,ae vs Z)],[],[vs[i]?=none]⟩,(N+2),t⟩
theorem Qf:(Qe w Y W X DU i vs Z fr pos N t G).ok (Ey w) pos 2 [] G:=by apply aC w;kernel_rfl
end
noncomputable def RS:Obj:=gj [] 2
section
variable(w:ZW)(k:ZT)(SC S Q W DU:Nat)(V:Bool)(U:ZV)(a:LX)(n:Nat)(T P:Tok)(v1:ZV)(R:ZY)(Y:Nat)(al:ZY)(X Z:Nat)(fr:ZL)(N t:Nat)(G:ZG)
def Ez:ZH w:=jn [dz 0x6010b04281a08,[(0,.stop)]]
def xg:ay:=bo (V0 w (ee w)) (Ez w) fr (Kb w W Z) (.ok .next) [(963,bZ w k SC S Q W 966 965 964 V U (a.l w.params++[dE w.params [100,117,101] T (.ref DU)]) n),(W,ae R Y),((Z+1),ae al X),((Z+2),yE w.params (some (P,v1)))] [] N t G
abbrev Qg:dK:=⟨(xg w k SC S Q W DU V U a n T P v1 R Y al X Z fr N t G),(.builtin "list.__ne__" ⟨[.ref W,.ref (Z+1)],[]⟩),⟨[(963,bZ w k SC S Q W 966 965 964 V U (a.l w.params++[dE w.params [100,117,101] T (.ref DU)]) n),(W,ae R Y),((Z+1),ae al X),((Z+2),RS)],[],[]⟩,N,t⟩
theorem Qh:(Qg w k SC S Q W DU V U a n T P v1 R Y al X Z fr N t G).ok (V0 w (ee w)) (Ez w) ⟨0,0,0,0⟩ (cA w 963 964 965 966 ⟨1016,34,1016,77⟩) 4 [] G:=by apply uk V;apply gA a;apply aC w;kernel_rfl
end
def Kc(w:ZW)(Z N:Nat):ay:=xg w (fun a=>0) 0 0 0 Z 0 false .none .x0 0 0 0 .none [] 0 [] 0 N [] 0 0 #[]
theorem Qi(w:ZW)(k:ZT)(SC S P V DU:Nat)(W:Bool)(U:ZV)(a:LX)(n:Nat)(T:Tok)(Q:Tok)(v1:ZV)(R:ZY)(Y:Nat)(al:ZY)(X:Nat)(Z:Nat)(fr:ZL)(N t:Nat)(G:ZG):bp (xg w k SC S P V DU W U a n T Q v1 R Y al X Z fr N t G)=bp (Kc w V Z):=by delta Kc;apply uk W;apply gA a;apply aC w;kernel_rfl
end
section
set_option tactic.hygienic false
def tH(w:ZW)(Z:Addr):Code:=f6 (eK w 15) Z (bz w 963 964 965 966)
section
variable(w:ZW)(k:ZT)(SC S U V DU:Nat)(P:Bool)(R:ZV)(a:LX)(n:Nat)(Q:Tok)(e:ZV)(K:ZY)(Y O:Nat)(L:ZY)(T u:Nat)(tu:Tok)(r:Nat)(M:ZY)(W:Nat)(l:List IE)(X:Nat)(x:ZN)(tx:Tok)(Z:Nat)(fr:ZL)(N t:Nat)(G:ZG)
def EA:ZH w:=jn [dz 0x3d4af0d1201100601120a0c,[(0,.ai (yD 1 (.ref O)))],dz 0x2cc61,[(0,.ai (yD 2 (.int u tu)))],dz 0x290729,[(2,.ai (tC 3))],[(4,.ai (gL r))],dz 0x18dc050c3b21,[(0,.ai (jQ 5 l X (ar x tx)))],dz 0x2a22422b2b22b059d5,[(0,.ai (ya 7 r))],dz 0x27,[(0,.stop)]]
def xh:ay:=bo (V0 w (ee w)) (EA w O u tu r l X x tx) fr (Kc w V Z) (.ok (.ret (.bool false))) [(963,bZ w k SC S U V 966 965 964 P R (a.l w.params++[dE w.params [100,117,101] Q (.ref DU)]) n),(V,ae (e::K) Y),(O,ae L T),(SC,ae M W),(966,aP none),(U,a9 l X)] [] N t G
abbrev Qj:dK:=⟨(xh w k SC S U V DU P R a n Q e K Y O L T u tu r M W l X x tx Z fr N t G),(tH w (N+2)),⟨[(963,bZ w k SC S U V 966 965 964 P R (a.l w.params++[dE w.params [100,117,101] Q (.ref DU),dE w.params [116,111,112] (t+4) (.int u tu),dE w.params [108,105,110,101] (t+10) (ar x tx)]) (n+2)),(V,ae (e::K) Y),(O,ae L T),(SC,ae M W),(966,aP (some (.int r (t+8)))),(U,a9 l X)],[((N+2),⟨(.type "range_iterator"),none,(.fields ⟨[(.int 0 0),(.int r 0),(.int 1 0)]⟩),⟨[]⟩⟩)],[Fh ⟨.type "range",none,.fields #[.int 0 0,.int r 0,.int 1 0],#[]⟩ r,aG l u=some (ar x tx),((3:Int)==0)=false,(M.length:Int).fmod 3=r,M.length<=16777216,L.getLast?=some (.int u tu),(e::K).getLast?=some (.ref O)]⟩,(N+3),(t+13)⟩
theorem Qk:(Qj w k SC S U V DU P R a n Q e K Y O L T u tu r M W l X x tx Z fr N t G).ok (V0 w (ee w)) (EA w O u tu r l X x tx) ⟨0,0,0,0⟩ (cA w 963 964 965 966 ⟨1023,16,1023,28⟩) 6 [8] G:=by apply gA a;apply aC w;kernel_rfl
def yF:ZH w:=jn [dz 0xb010b030b010206010b0a0c,[(3,.fin)]]
def HR:ay:=bo (V0 w (ee w)) (yF w) fr (Kc w V Z) (.ok (.ret (.bool false))) [(963,bZ w k SC S U V 966 965 964 P R (a.l w.params++[dE w.params [100,117,101] Q (.ref DU)]) n),(V,ae [] Y)] [] N t G
abbrev HS:dp:=⟨(HR w k SC S U V DU P R a n Q Y Z fr N t G),(.ok (.ret (.bool true))),⟨[(963,bZ w k SC S U V 966 965 964 P R (a.l w.params++[dE w.params [100,117,101] Q (.ref DU)]) n),(V,ae [] Y)],[],[]⟩,(N+1),t⟩
theorem HT:(HS w k SC S U V DU P R a n Q Y Z fr N t G).ok (yF w) ⟨0,0,0,0⟩ 2 [] G:=by apply gA a;apply aC w;kernel_rfl
end
noncomputable def x9(P:Params)(a:LX)(Y:Tok)(DU:Nat)(t3:Tok)(u:Nat)(tu Z:Tok)(x:ZN)(tx:Tok)(p:Option (Tok×ZV)):List DictEntry:=a.l P++(dE P [100,117,101] Y (.ref DU)::dE P [116,111,112] t3 (.int u tu)::dE P [108,105,110,101] Z (ar x tx)::(match p with|none=>[]|some q=>[dE P [116,117,114,110] q.1 q.2]))
noncomputable def Kd(a:LX)(v:ZV):LX:=match a with
 |.x6 tg q a b c d e f g h i _=>.x6 tg q a b c d e f g h i v
 |a=>a
noncomputable def Ke(a:LX)(p:Option (Tok×ZV))(t:Tok)(v:ZV):Option (Tok×ZV):=match a with
 |.x6 ..=>p
 |_=>match p with|none=>some (t,v)|some q=>some (q.1,v)
noncomputable def RT(a:LX)(p:Option (Tok×ZV))(n:Nat):Nat:=match a with
 |.x6 ..=>n
 |_=>match p with|none=>n+1|some _=>n
noncomputable def jy(a:LX)(p:Option (Tok×ZV)):Bool:=match a,p with
 |.x6 ..,some _=>false
 |_,_=>true
section
variable(w:ZW)(k:ZT)(SC S U T DU:Nat)(V:Bool)(Y:ZV)(a:LX)(n:Nat)(W t3:Tok)(u:Nat)(tu X:Tok)(x:ZN)(tx:Tok)(p:Option (Tok×ZV))(Z i m:Nat)(fr:ZL)(pos:Pos)(N t:Nat)(G:ZG)
def yG:ZH w:=jn [dz 0xd07e3,[(2,.stop)]]
def sd:ay:=aq (V0 w (cA w 963 964 965 966 ⟨1023,16,1023,28⟩)) (yG w) fr (tH w Z) pos [(963,bZ w k SC S U T 966 965 964 V Y (x9 w.params a W DU t3 u tu X x tx p) n),(Z,b6 i (m+1:Nat))] [] N t G
abbrev HU:dK:=⟨(sd w k SC S U T DU V Y a n W t3 u tu X x tx p Z i m fr pos N t G),(.call (.ref 95) ⟨[.str ⟨⟨x⟩⟩ tx],[]⟩),⟨[(963,bZ w k SC S U T 966 965 964 V Y (x9 w.params (Kd a (.int i t)) W DU t3 u tu X x tx (Ke a p (t+1) (.int i t))) (RT a p n)),(Z,b6 (i+1:Nat) (((m+1:Nat):Int)-1))],[],[]⟩,N,(t+2)⟩
theorem HV(hp:jy a p=true):(HU w k SC S U T DU V Y a n W t3 u tu X x tx p Z i m fr pos N t G).ok (V0 w (cA w 963 964 965 966 ⟨1023,16,1023,28⟩)) (yG w) pos ((tH w Z,⟨1024,15,1024,27⟩)::cA w 963 964 965 966 ⟨1023,16,1023,28⟩) 2 [] G:=by apply mj hp;apply gA a;apply cm p;apply aC w;kernel_rfl
end
def Fs(w:ZW)(Z:Nat)(x:ZN)(tx:Tok):ay:=sd w (fun a=>0) 0 0 0 0 0 false .none .x0 0 0 0 0 0 0 x tx none Z 0 0 [] ⟨0,0,0,0⟩ 0 0 #[]
theorem HW(w:ZW)(k:ZT)(SC S U T DU:Nat)(V:Bool)(Y:ZV)(a:LX)(n:Nat)(W t3:Tok)(u:Nat)(tu X:Tok)(x:ZN)(tx:Tok)(p:Option (Tok×ZV))(Z i m:Nat)(hp:jy a p=true)(fr:ZL)(pos:Pos)(N t:Nat)(G:ZG):bp (sd w k SC S U T DU V Y a n W t3 u tu X x tx p Z i m fr pos N t G)=bp (Fs w Z x tx):=by delta Fs;apply mj hp;apply cm p;apply gA a;apply aC w;kernel_rfl
section
variable(w:ZW)(k:ZT)(SC S U T DU:Nat)(V:Bool)(Y:ZV)(a:LX)(n:Nat)(W t3:Tok)(u:Nat)(tu X:Tok)(x:ZN)(tx:Tok)(p:Option (Tok×ZV))(Z:Nat)(y:ZN)(ty:Tok)(i:Nat)(fr:ZL)(pos:Pos)(N t:Nat)(G:ZG)
def uO:ZH w:=jn [dz 0xdb,[(1,.tail)]]
def BJ:ay:=bo (V0 w (cA w 963 964 965 966 ⟨1023,16,1023,28⟩)) (uO w) fr (Fs w Z x tx) (.ok (.ret (ar y ty))) [(963,bZ w k SC S U T 966 965 964 V Y (x9 w.params a W DU t3 u tu X x tx p) n)] [] N t G
abbrev BK:c7:=⟨(BJ w k SC S U T DU V Y a n W t3 u tu X x tx p Z y ty fr N t G),(tH w Z),⟨1024,8,1024,12⟩,⟨[(963,bZ w k SC S U T 966 965 964 V Y (x9 w.params a W DU t3 u tu X y ty p) n)],[],[]⟩,N,(t+1)⟩
theorem BL:(BK w k SC S U T DU V Y a n W t3 u tu X x tx p Z y ty fr N t G).ok (uO w) ⟨0,0,0,0⟩ 1 [] G:=by apply gA a;apply cm p;apply aC w;kernel_rfl
def uP:ZH w:=jn [dz 0xde,[(1,.fin)]]
def BM:ay:=aq (V0 w (cA w 963 964 965 966 ⟨1023,16,1023,28⟩)) (uP w) fr (tH w Z) pos [(Z,b6 i 0)] [] N t G
abbrev BN:dp:=⟨(BM w Z i fr pos N t G),(.ok .next),⟨[(Z,b6 i 0)],[],[]⟩,(N+2),t⟩
theorem BO:(BN w Z i fr pos N t G).ok (uP w) pos 1 [] G:=by apply aC w;kernel_rfl
end
end
section
set_option tactic.hygienic false
def Kf(w:ZW)(N:Nat):ay:=xh w (fun a=>0) 0 0 0 0 0 false .none .x0 0 0 .none [] 0 0 [] 0 0 0 0 [] 0 [] 0 [] 0 0 [] N 0 #[]
theorem Ql(w:ZW)(k:ZT)(SC S M K DU:Nat)(O:Bool)(U:ZV)(a:LX)(n:Nat)(R:Tok)(e:ZV)(P:ZY)(W L:Nat)(T:ZY)(X u:Nat)(tu:Tok)(r:Nat)(Q:ZY)(Z:Nat)(l:List IE)(V:Nat)(x:ZN)(tx:Tok)(Y:Nat)(fr:ZL)(N t:Nat)(G:ZG):bp (xh w k SC S M K DU O U a n R e P W L T X u tu r Q Z l V x tx Y fr N t G)=bp (Kf w N):=by delta Kf;apply gA a;apply aC w;kernel_rfl
section
variable(w:ZW)(k:ZT)(SC S T R DU:Nat)(U:Bool)(X:ZV)(a:LX)(n:Nat)(V t3:Tok)(u:Nat)(tu W:Tok)(x:ZN)(tx:Tok)(p:Option (Tok×ZV))(Y Z:Nat)(fr:ZL)(N t:Nat)(G:ZG)
def EB:ZH w:=jn [dz 0x50a,[(3,.stop)]]
def xi:ay:=bo (V0 w (ee w)) (EB w) fr (Kf w Z) (.ok .next) [(963,bZ w k SC S T R 966 965 964 U X (x9 w.params a V DU t3 u tu W x tx p) n),(964,aP (some (.ref Y)))] [] N t G
abbrev Qm:dK:=⟨(xi w k SC S T R DU U X a n V t3 u tu W x tx p Y Z fr N t G),(.call (.ref 949) ⟨[.ref Y,.int u tu,.int 0 t],[]⟩),⟨[(963,bZ w k SC S T R 966 965 964 U X (x9 w.params a V DU t3 u tu W x tx p) n),(964,aP (some (.ref Y)))],[],[]⟩,N,(t+1)⟩
theorem Qn(hp:jy a p=true):(Qm w k SC S T R DU U X a n V t3 u tu W x tx p Y Z fr N t G).ok (V0 w (ee w)) (EB w) ⟨0,0,0,0⟩ (nc w 963 964 965 966 []) 2 [] G:=by apply mj hp;apply gA a;apply cm p;apply aC w;kernel_rfl
end
def RU(w:ZW)(Z u:Nat)(tu t:Tok):ay:=xi w (fun a=>0) 0 0 0 0 0 false .none .x0 0 0 0 u tu 0 [] 0 none Z 0 [] 0 t #[]
theorem Qo(w:ZW)(k:ZT)(SC S T R DU:Nat)(U:Bool)(X:ZV)(a:LX)(n:Nat)(V t3:Tok)(u:Nat)(tu W:Tok)(x:ZN)(tx:Tok)(p:Option (Tok×ZV))(Y:Nat)(hp:jy a p=true)(Z:Nat)(fr:ZL)(N t:Nat)(G:ZG):bp (xi w k SC S T R DU U X a n V t3 u tu W x tx p Y Z fr N t G)=bp (RU w Y u tu t):=by delta RU;apply mj hp;apply cm p;apply gA a;apply aC w;kernel_rfl
def Kg(w:ZW):PySem.Expr:=Ac (eK w 16)
def VH(w:ZW)(Y X Z:Addr):Code:=.compStart (Kg w) 0 (.ref Y) (.ref X) (lD (Kg w) Z (bz w 963 964 965 966) [(⟨⟨[116,97,107,101,110]⟩⟩,966)])
def uQ(w:ZW)(Y X Z:Addr):Code:=.compLoop (Kg w) 0 (.ref Y) (.ref X) (lD (Kg w) Z (bz w 963 964 965 966) [(⟨⟨[116,97,107,101,110]⟩⟩,966)])
def Aw(w:ZW):ZC:=cA w 963 964 965 966 ⟨1025,11,1025,104⟩
noncomputable def uR(P:Params)(Z:Option (Tok×ZV×Tok×ZV)):Obj:=match Z with|none=>gj [] 0|some p=>gj [dE P [118] p.1 p.2.1,dE P [108,97,105,100] p.2.2.1 p.2.2.2] 2
noncomputable def RV(Z:Option (Tok×ZV×Tok×ZV))(t:Tok):Tok:=match Z with|none=>t|some p=>p.1
noncomputable def RW(Z:Option (Tok×ZV×Tok×ZV))(t:Tok):Tok:=match Z with|none=>t|some p=>p.2.2.1
noncomputable def bt:Nat->ZN
 |0=>[]
 |n+1=>51::68::bt n
noncomputable def m4(v e:Nat):ZN:=(97+v)::61::(bt e++[122])
noncomputable def VI:Nat->Nat
 |0=>11
 |_=>12
section
variable(w:ZW)(C:Nat)(cl:ZY)(Y X u:Nat)(tu Z:Tok)(fr:ZL)(N t:Nat)(G:ZG)
def yH:ZH w:=jn [dz 0x4091509,[(3,.stop)]]
def se:ay:=bo (V0 w (ee w)) (yH w) fr (RU w X u tu Z) (.ok (.ret (.ref C))) [(C,ae cl Y)] [] N t G
abbrev HX:dK:=⟨(se w C cl Y X u tu Z fr N t G),(VH w N (N+1) (N+2)),⟨[(C,ae cl Y)],[(N,⟨(.type "list_iterator"),none,(.fields ⟨[(.ref C),(.int 0 0)]⟩),⟨[]⟩⟩),((N+1),⟨(.type "list"),none,(.seq ⟨[]⟩ 0),⟨[]⟩⟩),((N+2),⟨(.type "dict"),none,(.dict ⟨[]⟩ 0),⟨[]⟩⟩)],[]⟩,(N+3),t⟩
theorem HY:(HX w C cl Y X u tu Z fr N t G).ok (V0 w (ee w)) (yH w) ⟨0,0,0,0⟩ (Aw w) 1 [1,2,3] G:=by apply aC w;kernel_rfl
end
def Ft(w:ZW)(N:Nat):ay:=se w 0 [] 0 0 0 0 0 [] N 0 #[]
theorem HZ(w:ZW)(C:Nat)(cl:ZY)(Y:Nat)(X u:Nat)(tu Z:Tok)(fr:ZL)(N t:Nat)(G:ZG):bp (se w C cl Y X u tu Z fr N t G)=bp (Ft w N):=by delta Ft;apply aC w;kernel_rfl
section
variable(w:ZW)(Z X Y C i R:Nat)(vs:ZY)(W:Nat)(U:Option (Tok×ZV×Tok×ZV))(v:Nat)(T:Tok)(ld:Int)(S:Tok)(r:Nat)(Q:Tok)(as:ZY)(V e:Nat)(fr:ZL)(pos:Pos)(N t:Nat)(G:ZG)
def EC:ZH w:=h2 w (jn [dz 0xd6,[(0,.tail)]]) (jn [[(1,.tail)]])
def Qp:ay:=aq (V0 w (Aw w)) (EC w) fr (VH w Z X Y) pos [(Z,bx C i)] [] N t G
abbrev Qq:c7:=⟨(Qp w Z X Y C i fr pos N t G),(uQ w Z X Y),(bif w.params.followText "comprehension-iter-twice" then pos else⟨1025,79,1025,103⟩),⟨[(Z,bx C i)],[],[]⟩,N,t⟩
theorem Qr:(Qq w Z X Y C i fr pos N t G).ok (EC w) pos 1 [] G:=by apply h9 w;kernel_rfl
def ED:ZH w:=jn [dz 0xbd,[(0,.ai (fu 0 1 (.ref R)))],dz 0xe2,[(2,.ai (eb (97+v)))],dz 0x1866,[(2,.ai (xd (e+1:Nat)))],dz 0xbf,[(3,.ai (QS false))],dz 0xb1d060,[(0,.ai (eJ 4))],[(0,.tail)]]
abbrev Qs:c7:=⟨(aq (V0 w (Aw w)) (ED w R v e) fr (uQ w Z X Y) pos [(Z,bx C i),(C,ae vs W),(Y,uR w.params U),(R,bK [.int v T,.int ld S] 0),(X,ae as V),(966,aP (some (.int r Q)))] [] N t G),(uQ w Z X Y),⟨1025,12,1025,63⟩,⟨[(Z,bx C (i+1)),(C,ae vs W),(Y,uR w.params (some (RV U t,.int v T,RW U (t+1),.int ld S))),(R,bK [.int v T,.int ld S] 0),(X,ae (as++[.str ⟨⟨m4 v (e+1)⟩⟩ (t+VI e)]) (V+1)),(966,aP (some (.int r Q)))],[],[as.length<=16777216,decide ((0:Int)>((e+1:Nat):Int))=false,ld-(r:Int)=((e+1:Nat):Int),(decide ((v:Int)< -(2^63:Int))||decide ((v:Int)>=2^63))=false,(seqIndex? (v:Int) 4).bind ((⟨[97,98,99,100]⟩:Array Nat)[·]?)=some (97+v),vs[i]?=some (.ref R)]⟩,(N+8),(t+VI e+1)⟩
theorem Qt(he:e<6):(Qs w Z X Y C i R vs W U v T ld S r Q as V e fr pos N t G).ok (ED w R v e) pos 6 [] G:=by apply cm U;apply rR (cY he);apply aC w;kernel_rfl
def EE:ZH w:=jn [dz 0xbd,[(0,.ai (fu 0 1 (.ref R)))],dz 0xe2,[(2,.ai (eb (97+v)))],dz 0x1866,[(2,.ai (xd 0))],dz 0xbf,[(3,.ai (QS false))],dz 0x81d060,[(0,.ai (eJ 4))],[(0,.tail)]]
abbrev Qu:c7:=⟨(aq (V0 w (Aw w)) (EE w R v) fr (uQ w Z X Y) pos [(Z,bx C i),(C,ae vs W),(Y,uR w.params U),(R,bK [.int v T,.int ld S] 0),(X,ae as V),(966,aP (some (.int r Q)))] [] N t G),(uQ w Z X Y),⟨1025,12,1025,63⟩,⟨[(Z,bx C (i+1)),(C,ae vs W),(Y,uR w.params (some (RV U t,.int v T,RW U (t+1),.int ld S))),(R,bK [.int v T,.int ld S] 0),(X,ae (as++[.str ⟨⟨m4 v 0⟩⟩ (t+11)]) (V+1)),(966,aP (some (.int r Q)))],[],[as.length<=16777216,decide ((0:Int)>0)=false,ld-(r:Int)=0,(decide ((v:Int)< -(2^63:Int))||decide ((v:Int)>=2^63))=false,(seqIndex? (v:Int) 4).bind ((⟨[97,98,99,100]⟩:Array Nat)[·]?)=some (97+v),vs[i]?=some (.ref R)]⟩,(N+8),(t+12)⟩
theorem Qv:(Qu w Z X Y C i R vs W U v T ld S r Q as V fr pos N t G).ok (EE w R v) pos 6 [] G:=by apply cm U;apply aC w;kernel_rfl
end
section
variable(w:ZW)(Y V W C R i:Nat)(vs:ZY)(Z:Nat)(U:Option (Tok×ZV×Tok×ZV))(v:Nat)(T:Tok)(ld:Int)(S:Tok)(r:Nat)(Q:Tok)(as:ZY)(X:Nat)(e:Int)(fr:ZL)(pos:Pos)(N t:Nat)(G:ZG)
def EF:ZH w:=jn [dz 0xbd,[(0,.ai (fu 0 1 (.ref R)))],dz 0xe2,[(2,.ai (eb (97+v)))],dz 0x1866,[(2,.ai (xd e))],dz 0xbf,[(3,.ai (QS true))],dz 0x81d080364d4a,[(0,.ai (eJ 4))],[(0,.tail)]]
def Qw:ay:=aq (V0 w (Aw w)) (EF w R v e) fr (uQ w Y V W) pos [(Y,bx C i),(C,ae vs Z),(W,uR w.params U),(R,bK [.int v T,.int ld S] 0),(V,ae as X),(966,aP (some (.int r Q)))] [] N t G
abbrev Qx:c7:=⟨(Qw w Y V W C R i vs Z U v T ld S r Q as X e fr pos N t G),(uQ w Y V W),⟨1025,12,1025,63⟩,⟨[(Y,bx C (i+1)),(C,ae vs Z),(W,uR w.params (some (RV U t,.int v T,RW U (t+1),.int ld S))),(R,bK [.int v T,.int ld S] 0),(V,ae (as++[.str ⟨⟨m4 v 0⟩⟩ (t+11)]) (X+1)),(966,aP (some (.int r Q)))],[],[as.length<=16777216,decide ((0:Int)>e)=true,ld-(r:Int)=e,(decide ((v:Int)< -(2^63:Int))||decide ((v:Int)>=2^63))=false,(seqIndex? (v:Int) 4).bind ((⟨[97,98,99,100]⟩:Array Nat)[·]?)=some (97+v),vs[i]?=some (.ref R)]⟩,(N+8),(t+12)⟩
theorem Qy:(Qx w Y V W C R i vs Z U v T ld S r Q as X e fr pos N t G).ok (EF w R v e) pos 6 [] G:=by apply cm U;apply aC w;kernel_rfl
def EG:ZH w:=jn [dz 0xbd,[(0,.ai (qf 0 1))],dz 0x8,[(0,.fin)]]
def Qz:ay:=aq (V0 w (Aw w)) (EG w) fr (uQ w Y V W) pos [(Y,bx C i),(C,ae vs Z)] [] N t G
abbrev QA:dp:=⟨(Qz w Y V W C i vs Z fr pos N t G),(.ok .next),⟨[(Y,jO "list_iterator" i),(C,ae vs Z)],[],[vs[i]?=none]⟩,(N+2),t⟩
theorem QB:(QA w Y V W C i vs Z fr pos N t G).ok (EG w) pos 2 [] G:=by apply aC w;kernel_rfl
end
end
section
set_option tactic.hygienic false
section
variable(w:ZW)(k:ZT)(SC S T R DU:Nat)(U:Bool)(X:ZV)(a:LX)(n:Nat)(V t3:Tok)(u:Nat)(tu W:Tok)(x:ZN)(tx:Tok)(p:Option (Tok×ZV))(Y:Nat)(q:Tok×ZV×Tok×ZV)(Z:Nat)(fr:ZL)(N t:Nat)(G:ZG)
def yI:ZH w:=jn [dz 0xbd340fc00fc0db,[(2,.stop)]]
def sf:ay:=bo (V0 w (ee w)) (yI w) fr (Ft w Z) (.ok .next) [(963,bZ w k SC S T R 966 965 964 U X (x9 w.params a V DU t3 u tu W x tx p) n),((Z+2),uR w.params (some q)),(964,aP (some (.ref Y)))] [] N t G
abbrev Ia:dK:=⟨(sf w k SC S T R DU U X a n V t3 u tu W x tx p Y q Z fr N t G),(.call (.ref 956) ⟨[.ref Y,.int u tu,.str ⟨⟨x⟩⟩ tx],[]⟩),⟨[(963,bZ w k SC S T R 966 965 964 U X (x9 w.params a V DU t3 u tu W x tx p++[dE w.params [116,111,108,100] t (.ref (Z+1))]) (n+1)),((Z+2),gj [] 4),(964,aP (some (.ref Y)))],[],[]⟩,N,(t+1)⟩
theorem Ib(hp:jy a p=true):(Ia w k SC S T R DU U X a n V t3 u tu W x tx p Y q Z fr N t G).ok (V0 w (ee w)) (yI w) ⟨0,0,0,0⟩ (jZ w 963 964 965 966 []) 3 [] G:=by apply mj hp;apply gA a;apply cm p;apply aC w;kernel_rfl
end
def Fu(w:ZW)(Z u:Nat)(tu:Tok)(x:ZN)(tx:Tok):ay:=sf w (fun a=>0) 0 0 0 0 0 false .none .x0 0 0 0 u tu 0 x tx none Z (0,.none,0,.none) 0 [] 0 0 #[]
theorem Ic(w:ZW)(k:ZT)(SC S T R DU:Nat)(U:Bool)(X:ZV)(a:LX)(n:Nat)(V t3:Tok)(u:Nat)(tu W:Tok)(x:ZN)(tx:Tok)(p:Option (Tok×ZV))(Y:Nat)(hp:jy a p=true)(q:Tok×ZV×Tok×ZV)(Z:Nat)(fr:ZL)(N t:Nat)(G:ZG):bp (sf w k SC S T R DU U X a n V t3 u tu W x tx p Y q Z fr N t G)=bp (Fu w Y u tu x tx):=by delta Fu;apply mj hp;apply cm p;apply gA a;apply aC w;kernel_rfl
section
variable(w:ZW)(k:ZT)(SC S Q P DU:Nat)(R:Bool)(W:ZV)(a:LX)(n:Nat)(T t3:Tok)(u:Nat)(tu U:Tok)(x:ZN)(tx:Tok)(p:Option (Tok×ZV))(V:Tok)(A TL:Nat)(al:ZY)(Y:Nat)(X:ZY)(Z O:Nat)(fr:ZL)(N t:Nat)(G:ZG)
def yJ:ZH w:=jn [dz 0x6010b0609,[(0,.ai (P1 1 2))],[(1,.fin)]]
abbrev Ie:dp:=⟨(bo (V0 w (ee w)) (yJ w) fr (Fu w O u tu x tx) (.ok (.ret (.ref A))) [(963,bZ w k SC S Q P 966 965 964 R W (x9 w.params a T DU t3 u tu U x tx p++[dE w.params [116,111,108,100] V (.ref TL)]) n),(A,ae al Y),(TL,ae X Z)] [] N t G),(.ok (.ret (.bool true))),⟨[(963,bZ w k SC S Q P 966 965 964 R W (x9 w.params a T DU t3 u tu U x tx p++[dE w.params [116,111,108,100] V (.ref TL)]) n),(A,ae al Y),(TL,ae X Z)],[],[n8 al X]⟩,N,t⟩
theorem Ig(hp:jy a p=true):(Ie w k SC S Q P DU R W a n T t3 u tu U x tx p V A TL al Y X Z O fr N t G).ok (yJ w) ⟨0,0,0,0⟩ 3 [] G:=by apply mj hp;apply gA a;apply cm p;apply aC w;kernel_rfl
end
end
section
set_option tactic.hygienic false
noncomputable def kC:Addr×List (Nat×Tok)×Nat->Bool:=fun q=>q.2.1.length !=0
section
variable(w:ZW)(bg:List aQ)(D:yC)(DU Z:Nat)(Y:D.length<=4)
include Y in
theorem BP[ZI]{Q:ZR}(IL AL LL:Addr)(E:List Bk)(B:aS)(b:Bt (HQ w) none B)(K:∀s' q aY,Hq w s' ([.o DU (ae (bA D) Z),.o LL (yE w.params (some q)),.o AL (ae (bA (D.filter kC)) aY),.l (dq D)]++E) bg->Q (.ok .next) s'):∀(m i:Nat),i+m=D.length->∀(s:ZS)(p:Pos)(sv:Option (Tok×ZV))(av:ZY)(aY:Nat),bA ((D.take i).filter kC)=av->(m=0->sv≠none)->
  Hq w s ([.o IL (bx DU i),.o DU (ae (bA D) Z),.o LL (yE w.params sv),.o AL (ae av aY),.l (dq D)]++E) bg->
  Rn w B s (Av w IL AL LL) p Q:=by
 intro m;induction m with
 |zero=>
  rintro i hi s p sv _ aY rfl nZ H0
  obtain⟨q,rfl⟩:=sG.mp (nZ rfl);obtain rfl:i=D.length:=hi;rw[gZ]at H0;exact kF [0,1] b H0 (fun fr=>Qf w IL AL LL DU D.length (bA D) Z fr p (zN s) s.toks s.gens:) (fun _=>aa (List.getElem?_eq_none (dX (aB ..))) aj) fun fr s' H8=>K s' q aY (H8.p [1,2,3,4] 5)
 |succ m jg=>
  rintro i hi s p sv _ aY rfl nZ H0
  have jW:i<D.length:=lA hi
  obtain⟨q,hq⟩:∃q,D[i]?=some q:=⟨_,List.getElem?_eq_getElem jW⟩;have Yi:D.take (i+1)=D.take i++[q]:=by rw[gf,hq];rfl
  have kA:(bA D)[i]?=some (.ref q.1):=by unfold bA;rw[List.getElem?_map,hq];rfl
  obtain⟨R,hR⟩:=fH (b7 (f:=fun q:Addr×List (Nat×Tok)×Nat=>(q.1,ae (iv q.2.1) q.2.2)) (List.mem_of_getElem? hq))
  have hlen:(bA ((D.take i).filter kC)).length<=16777216:=by
   unfold bA;rw[aB];exact au (au (kK _ _) (ph ..)) (au Y (by decide))
  have hf:∀n,kC q=n->(D.take (i+1)).filter kC=(D.take i).filter kC++bif n then[q]else[]:=fun n h=>by
   rw[Yi,mT,gY,h];cases n<;>rfl
  obtain⟨qa,ql,qe⟩:=q;cases ql with
  |nil=>
   exact kT [2,3,4,0] b (H0.ch [4] hR [.o qa (ae [] qe),.l R]) (fun fr=>Qa w IL AL LL DU i qa (bA D) Z qe sv fr p (zN s) s.toks s.gens:) (fun _=>aa kA aj) fun fr s' H8=>
    jg (i+1) (lB hi) s' _ (some (iT sv s.toks,.ref qa)) (bA ((D.take i).filter kC)) aY (by rw[hf false rfl];exact congrArg bA (bY _)) (fun _=>(nomatch ·)) ((H8.ch [3,4] hR.symm [.l (dq D)]).p [1,2,3,4,0] 5)
  |cons e es=>
   exact kT [2,3,4,0,5] b (H0.ch [4] hR [.o qa (ae (iv (e::es)) qe),.l R]) (fun fr=>Qc w IL AL LL DU i qa (bA D) Z qe sv (.int e.1 e.2) (iv es) (bA ((D.take i).filter kC)) aY fr p (zN s) s.toks s.gens:) (fun _=>aa hlen (aa kA aj)) fun fr s' H8=>
    jg (i+1) (lB hi) s' _ (some (iT sv s.toks,.ref qa)) (bA ((D.take i).filter kC)++[.ref qa]) (aY+1) (by rw[hf true rfl];exact aL ..) (fun _=>(nomatch ·)) ((H8.ch [3,5] hR.symm [.l (dq D)]).p [1,2,3,4,0] 5)
end
def tI:Nat->ZN->Prop
 |0,_=>True
 |n+1,x=>(∃c r,x=c::r/\c≠61/\eX r)/\iK x/\x.length<=1000000/\tI n (dI x)
noncomputable def n9:Nat->ZN->ZN
 |0,x=>x
 |n+1,x=>n9 n (dI x)
theorem wy(a:LX)(p:Option (Tok×ZV))(t:Tok)(v:ZV)(h:jy a p=true):jy (Kd a v) (Ke a p t v)=true:=by rcases a<;>rcases p with _|⟨Z,v0⟩<;>first|rfl|exact Bool.noConfusion h
section
variable(w:ZW)(k:ZT)(SC S V U DU:Nat)(W:Bool)(Z:ZV)(X t3:Tok)(u:Nat)(tu Y:Tok)(bg:List aQ)
theorem BQ[ZI]{Q:ZR}(P:Addr)(E:List Bk)(M:Nat)(T:ZN)(B:aS)(b:Bt (cA w 963 964 965 966 ⟨1023,16,1023,28⟩) none B)(K:∀N a n tx p,jy a p=true->Hq w N (.o 963 (bZ w k SC S V U 966 965 964 W Z (x9 w.params a X DU t3 u tu Y (n9 M T) tx p) n)::E) bg->Q (.ok .next) N):∀(m i:Nat)(I:Int),I=m->∀(s:ZS)(pos:Pos)(a:LX)(n:Nat)(x:ZN)(tx:Tok)(p:Option (Tok×ZV)),n9 m x=n9 M T->jy a p=true->tI m x->
  Hq w s (.o 963 (bZ w k SC S V U 966 965 964 W Z (x9 w.params a X DU t3 u tu Y x tx p) n)::.o P (b6 i I)::E) bg->
  Rn w B s (tH w P) pos Q:=by
 intro m;induction m with
 |zero=>
  rintro i _ rfl s pos a n x tx p J hp hx H
  exact kF [1] b H (fun fr=>BO w P i fr pos (zN s) s.toks s.gens:) (fun d=>aj) fun fr N A=>K N a n tx p hp (J▸A.p [1] 2)
 |succ m G=>
  rintro i _ rfl s pos a n x tx p J hp hx H
  obtain⟨⟨c,r,rfl,D,F⟩,L,hle,R⟩:=hx;exact kS [0,1] b H (fun fr=>HV w k SC S V U DU W Z a n X t3 u tu Y (c::r) tx p P i m fr pos (zN s) s.toks s.gens hp:) (fun d=>aj) fun fr s1 H1 t C=>
   tZ w 963 964 965 966 P c r tx _ bg D F L hle t s1 _ C H1 fun s2 ty v=>Rk.z (HW (hp:=hp) (pos:=pos) ..)
    (qG [0] b v (fun O=>BL w k SC S V U DU W Z (Kd a (.int i s.toks)) (RT a p n) X t3 u tu Y (c::r) tx (Ke a p (s.toks+1) (.int i s.toks)) P (dI (c::r)) ty O (zN s2) s2.toks s2.gens:) (fun d=>aj) fun O s3 y=>
     G (i+1) _ (xu m) s3 _ (Kd a (.int i s.toks)) (RT a p n) (dI (c::r)) ty (Ke a p (s.toks+1) (.int i s.toks)) J (wy a p _ _ hp) R y)
end
noncomputable def lJ(r:Nat)(q:Nat×Int):ZN:=m4 q.1 (q.2-r).toNat
theorem BR{v:Nat}(Z:v<4):(decide ((v:Int)< -(2^63:Int))||decide ((v:Int)>=2^63))=false/\(seqIndex? (v:Int) 4).bind ((⟨[97,98,99,100]⟩:Array Nat)[·]?)=some (97+v):=by
 have h:v=0\/v=1\/v=2\/v=3:=by lia
 rcases h with rfl|rfl|rfl|rfl<;>exact⟨by decide,by decide⟩
section
variable(w:ZW)(bg:List aQ)(ws:List W4)(C Z r:Nat)(Y:Tok)(X:∀q∈ws,q.n<4/\q.z-r<=6)(W:ws.length<=16777216)
include X W in
theorem BS[ZI]{Q:ZR}(IL AL LL:Addr)(E:List Bk)(B:aS)(b:Bt (Aw w) none B)(K:∀s' q (as:List Wd) aY,as.map (·.1)=ws.map (fun q=>lJ r q.nz)->Hq w s' ([.o C (ae (ws.map W4.ref) Z),.o LL (uR w.params (some q)),.o AL (ae (as.map cj) aY),.o 966 (aP (some (.int r Y))),.l (ws.map W4.led)]++E) bg->Q (.ok .next) s'):∀(m i:Nat),i+m=ws.length->∀(s:ZS)(p:Pos)(sv:Option (Tok×ZV×Tok×ZV))(as:List Wd)(av:ZY)(aY:Nat),as.map cj=av->
  as.map (·.1)=(ws.take i).map (fun q=>lJ r q.nz)->(m=0->sv≠none)->
  Hq w s ([.o IL (bx C i),.o C (ae (ws.map W4.ref) Z),.o LL (uR w.params sv),.o AL (ae av aY),.o 966 (aP (some (.int r Y))),.l (ws.map W4.led)]++E) bg->
  Rn w B s (uQ w IL AL LL) p Q:=by
 intro m;induction m with
 |zero=>
  rintro i hi s p sv as _ aY rfl mv nZ H0
  obtain⟨q,rfl⟩:=sG.mp (nZ rfl);obtain rfl:i=ws.length:=hi;rw[gZ]at mv;exact kF [0,1] b H0 (fun fr=>QB w IL AL LL C ws.length (ws.map W4.ref) Z fr p (zN s) s.toks s.gens:) (fun _=>aa (List.getElem?_eq_none (dX (aB ..))) aj) fun fr s' H8=>K s' q as aY mv (H8.p [1,2,3,4,5] 6)
 |succ m jg=>
  rintro i hi s p sv as _ aY rfl mv nZ H0
  have jW:i<ws.length:=lA hi
  obtain⟨q,hq⟩:∃q,ws[i]?=some q:=⟨_,List.getElem?_eq_getElem jW⟩;have VJ:q∈ws:=List.mem_of_getElem? hq
  obtain⟨hn,hz⟩:=X q VJ;obtain⟨g1,g2⟩:=BR hn;have kA:(ws.map W4.ref)[i]?=some (.ref q.a):=by rw[List.getElem?_map,hq];rfl
  obtain⟨R,hR⟩:=fH (b7 (f:=W4.led) VJ);have hlen:(as.map cj).length<=16777216:=by
   have h1:=congrArg List.length mv
   rw[aB,aB]at h1;rw[aB,h1];exact au (ph ..) W
  have H1:=H0.ch [5] hR [.o q.a (bK [.int q.n q.tn,.int q.z q.tz] 0),.l R]
  have nx:∀(j:Nat),(q.z-r).toNat=j->∀(t:Tok)(s':ZS)(p':Pos)(RX:Tok×ZV×Tok×ZV),
    Hq w s' ([.o IL (bx C (i+1)),.o C (ae (ws.map W4.ref) Z),.o LL (uR w.params (some RX)),.o q.a (bK [.int q.n q.tn,.int q.z q.tz] 0),.o AL (ae (as.map cj++[.str ⟨⟨m4 q.n j⟩⟩ t]) (aY+1)),.o 966 (aP (some (.int r Y))),.l R]++E) bg->Rn w B s' (uQ w IL AL LL) p' Q:=by
   rintro _ rfl t s' p' RX H'
   exact jg (i+1) (lB hi) s' p' (some RX) (as++[(lJ r q.nz,t)]) _ (aY+1) (aL ..) (by rw[gf,hq,aL,mv,aL];rfl) (fun _=>(nomatch ·)) ((H'.ch [3,6] hR.symm [.l (ws.map W4.led)]).p [1,2,3,4,5,0] 6)
  have hc:q.z-r<0\/q.z-r=0\/∃e:Nat,e<6/\q.z-r=((e+1:Nat):Int):=by
   match h:q.z-r with
   |.negSucc n=>exact .inl (Int.negSucc_lt_zero n)
   |.ofNat 0=>exact .inr (.inl rfl)
   |.ofNat (e+1)=>exact .inr (.inr ⟨e,by rw[h]at hz;exact Int.ofNat_le.mp hz,rfl⟩)
  rcases hc with hc|hc|⟨e,he,hc⟩
  .exact kT [2,3,4,0,5,6] b H1 (fun fr=>Qy w IL AL LL C q.a i (ws.map W4.ref) Z sv q.n q.tn q.z q.tz r Y (as.map cj) aY (q.z-r) fr p (zN s) s.toks s.gens:) (fun _=>aa hlen (aa (decide_eq_true hc) (aa rfl (aa g1 (aa g2 (aa kA aj)))))) fun fr s' H8=>
    nx 0 (Int.toNat_of_nonpos (Int.le_of_lt hc)) _ s' _ _ H8
  .exact kT [2,3,4,0,5,6] b H1 (fun fr=>Qv w IL AL LL C i q.a (ws.map W4.ref) Z sv q.n q.tn q.z q.tz r Y (as.map cj) aY fr p (zN s) s.toks s.gens:) (fun _=>aa hlen (aa rfl (aa hc (aa g1 (aa g2 (aa kA aj)))))) fun fr s' H8=>
    nx 0 (by rw[hc];rfl) _ s' _ _ H8
  .exact kT [2,3,4,0,5,6] b H1 (fun fr=>Qt w IL AL LL C i q.a (ws.map W4.ref) Z sv q.n q.tn q.z q.tz r Y (as.map cj) aY e fr p (zN s) s.toks s.gens he:) (fun _=>aa hlen (aa (decide_eq_false (Int.not_lt.mpr (mQ _))) (aa hc (aa g1 (aa g2 (aa kA aj)))))) fun fr s' H8=>
    nx (e+1) (by rw[hc];rfl) _ s' _ _ H8
end
end
section
set_option tactic.hygienic false
def QT[ZI](w:ZW)(Y:ZA):Result->ZS->Prop:=fun r s=>r=.ok (.ret (.bool true))/\(∀p∈Y,s.heap.get? p.1=some p.2)/\cP (kp w) s.heap/\(∃Z,s.heap.get? 917=some (gw Z))/\Ci s
structure Kp(E0:ZA)(E:List Bk):Prop where
 all:∀p∈E0,p∈fl E
 tb:∃cb,(917,gw cb)∈fl E
theorem Kp.app{Z:ZA}{E:List Bk}(h:Kp Z E)(A:List Bk):Kp Z (A++E):=by
 have g:∀p,p∈fl E->p∈fl (A++E):=fun p hp=>by rw[cE];exact cz _ hp
 exact⟨fun p hp=>g p (h.all p hp),h.tb.elim fun Y h=>⟨Y,g _ h⟩⟩
theorem Kp.mid{Z:ZA}{E:List Bk}{a:Addr}{x:Obj}(h:Kp Z (.o a x::E))(A:List Bk):Kp Z (.o a x::(A++E)):=by
 have g:∀p,p∈fl (.o a x::E)->p∈fl (.o a x::(A++E)):=fun p hp=>by
  show p∈(a,x)::fl (A++E)
  rw[cE];rcases bc.mp hp with h|h
  .exact h▸.head _
  .exact .tail _ (cz _ h)
 exact⟨fun p hp=>g p (h.all p hp),h.tb.elim fun Y h=>⟨Y,g _ h⟩⟩
theorem EH[ZI]{w:ZW}{s:ZS}{Z:ZA}{E:List Bk}{bg:List aQ}(H:Hq w s E bg)(h:Kp Z E):QT w Z (.ok (.ret (.bool true))) s:=⟨rfl,fun p hp=>H.holds p (h.all p hp),H.kt,h.tb.elim fun Y h=>⟨Y,H.holds _ h⟩,H.oo⟩
theorem qX:∀(ns:List Int)(g:ZN)(u:Int),ns.getLast?=some u->∃t,(ib ns g).getLast?=some (.int u t)
 |[],_,_,h=>nomatch h
 |[n],g,u,h=>by cases h;exact⟨_,rfl⟩
 |n::m::ns,g,u,h=>by
  obtain⟨t,Z⟩:=qX (m::ns) g.tail u (by rw[List.getLast?_cons_cons]at h;exact h)
  refine⟨t,?_⟩;show(Value.int n _::ib (m::ns) g.tail).getLast?=_
  rw[show ib (m::ns) g.tail=Value.int m (g.tail.headD 0)::ib ns g.tail.tail from rfl]at Z⊢
  rw[List.getLast?_cons_cons];exact Z
theorem uS(M:ZA):∀R:xT,(∀p∈c6 R,p∈M)->lI M (b0 R) (R.map (·.2.1))
 |[],_=>.nil
 |q::R,h=>.cons (h _ (.head _)) (hM _ _) (uS M R fun p hp=>h p (.tail _ hp))
theorem uT(M:ZA):∀D:yC,(∀p∈dq D,p∈M)->lI M (bA D) (D.map fun q=>bw (q.2.1.map (·.1)))
 |[],_=>.nil
 |q::D,h=>.cons (h _ (.head _)) (by
  have:=oV q.2.1
  have e:bw (q.2.1.map (·.1))=q.2.1.map (fun e=>(e.1:Int)):=by unfold bw;rw[dY];rfl
  show PyProof.Rows.IntsAre (iv q.2.1) (bw (q.2.1.map (·.1)))
  rw[e];exact this) (uT M D fun p hp=>h p (.tail _ hp))
def tJ(Z:Nat->List aK)(r:Nat)(u:Nat)(x:ZN):Prop:=u<4/\tI r x/\Dp Z 3 u/\gu Z 3 u 0≠[]/\(∀q∈gu Z 3 u 0,q.1<4/\q.2-r<=6)/\(gu Z 3 u 0).length<=16777216/\Rd Z 3 u (n9 r x) ((gu Z 3 u 0).map (lJ r))
section
variable(w:ZW)(X:Addr)(Q ne:Nat->Nat)(Y:Nat)(W:Nat->List aK)(bg:List aQ)(L:∀v,(W v).length<=7)(k:ZT)(SC S V U:Nat)(P:Bool)(O:ZV)(T:ZY)(Z:Nat)(l:List IE)(N:Nat)(M:T.length<=16777216)(K:ZA)
include L in
theorem zt[ZI](DU:Nat)(a:LX)(n:Nat)(t2 t3:Tok)(u:Nat)(tu t4:Tok)(x:ZN)(tx:Tok)(p:Option (Tok×ZV))(r:Nat)(tr:Tok)(Kh:Nat)(hp:jy a p=true)(h4:u<4)(hD:Dp W 3 u)(jd:gu W 3 u 0≠[])(pN:∀q∈gu W 3 u 0,q.1<4/\q.2-r<=6)(RY:(gu W 3 u 0).length<=16777216)(RZ:Rd W 3 u x ((gu W 3 u 0).map (lJ r)))(E:List Bk)(hE:Kp K E)(B:aS)(s:ZS)(b:Bt (ee w) none B)(H:Hq w s ([.o 963 (bZ w k SC S V U 966 965 964 P O (x9 w.params a t2 DU t3 u tu t4 x tx p) n),.o 964 (aP (some (.ref X))),.o 966 (aP (some (.int r tr))),.o X (ae (b5 Q) Y),.l (ba Q ne W)]++E) bg):Rk w B s (Kf w Kh) (.ok .next) (QT w K):=by
 refine m5 [0,1] b H (fun fr=>Qn w k SC S V U DU P O a n t2 t3 u tu t4 x tx p X Kh fr (zN s) s.toks s.gens hp:) (fun _=>aj) fun fr s1 H1 B1 b1=>?_
 refine zm w 963 964 965 966 X Q ne Y W bg L 3 [] (aM _) u 0 tu s.toks h4 hD _ B1 s1 _ ([.o 963 (bZ w k SC S V U 966 965 964 P O (x9 w.params a t2 DU t3 u tu t4 x tx p) n),.o 964 (aP (some (.ref X))),.o 966 (aP (some (.int r tr)))]++E) b1 (H1.p [3,4,0,1,2] 5) fun s2 C ws Ar F4 H3=>Rk.z (Qo (hp:=hp) ..) ?_
 refine m5 [0] b H3 (fun bV=>HY w C (ws.map W4.ref) Ar X u tu s.toks bV (zN s2) s2.toks s2.gens:) (fun _=>aj) fun bV s3 H4 B2 b2=>?_
 refine kT [1] b2 H4 (fun ig=>Qr w s2.heap.objs.size (s2.heap.objs.size+1) (s2.heap.objs.size+2) C 0 ig _ (zN s3) s3.toks s3.gens:) (fun _=>aj) fun ig s4 H6=>?_
 have hlen:ws.length=(gu W 3 u 0).length:=by rw[←F4,aB]
 refine BS w bg ws C Ar r tr (fun q hq=>pN q.nz (F4▸b7 hq)) (hlen▸RY) s2.heap.objs.size (s2.heap.objs.size+1) (s2.heap.objs.size+2) ([.o X (ae (b5 Q) Y),.l (ba Q ne W),.o 963 (bZ w k SC S V U 966 965 964 P O (x9 w.params a t2 DU t3 u tu t4 x tx p) n),.o 964 (aP (some (.ref X)))]++E) B2 b2 (fun s5 q as aY mv H7=>Rk.z (HZ ..) ?_) ws.length 0 (fM _) s4 _ none [] _ 0 rfl rfl (fun h=>absurd (jF (hlen▸h)) jd) (H6.p [0,1,3,2,9,4,5,6,7,8] 10)
 refine m5 [7,1,8] b H7 (fun Ih=>Ib w k SC S V U DU P O a n t2 t3 u tu t4 x tx p X q s2.heap.objs.size Ih (zN s5) s5.toks s5.gens hp:) (fun _=>aj) fun Ih s6 H9 B3 b3=>?_
 have Yj:Hq w s6 ([.o 963 (bZ w k SC S V U 966 965 964 P O (x9 w.params a t2 DU t3 u tu t4 x tx p++[dE w.params [116,111,108,100] s5.toks (.ref (s2.heap.objs.size+1))]) (n+1)),.o X (ae (b5 Q) Y),.l (ba Q ne W)]++([.o (s2.heap.objs.size+1) (ae (as.map cj) aY),.o (s2.heap.objs.size+2) (gj [] 4),.o 964 (aP (some (.ref X))),.o C (ae (ws.map W4.ref) Ar),.o 966 (aP (some (.int r tr))),.l (ws.map W4.led)]++E)) bg:=H9.p [0,7,8,4,1,2,3,5,6] 9
 refine zl w 963 964 965 966 X Q ne Y W bg L 3 [] (aM _) u x tu tx _ h4 RZ _ B3 s6 _ _ _ _ _ _ _ _ _ b3 Yj fun s7 A gS Yk hits wa=>Rk.z (Ic (hp:=hp) ..) ?_
 have Yl:n8 (gS.map cj) (as.map cj):=by
  have g:∀l:List Wd,∀v∈l.map cj,∃x t,v=.str x t:=fun l v hv=>by
   obtain⟨z,_,rfl⟩:=aZ.mp hv;exact⟨_,_,rfl⟩
  have e1:∀l:List Wd,(l.map cj).map (fun v=>(ag v).cps.toList)=l.map (·.1):=fun l=>by rw[dY];rfl
  refine⟨g gS,g as,?_⟩;rw[e1,e1,hits,mv,←F4,dY];rfl
 exact pE [1,0,4] b wa (fun Ii=>Ig w k SC S V U DU P O a (n+1) t2 t3 u tu t4 x tx p s5.toks A (s2.heap.objs.size+1) (gS.map cj) Yk (as.map cj) aY X Ii (zN s7) s7.toks s7.gens hp:) (fun _=>aa Yl aj) fun Ii s8 As=>EH (As.p [] 10) hE
include L M in
theorem t9[ZI](a:LX)(n:Nat)(D:yC)(DU:Nat)(t2:Tok)(R:xT)(rep:Nat)(E:List Bk)(hE:Kp K (.o SC (ae T Z)::E))(mI:Nat)(q:Tok×ZV)(aY:Nat)(R1:R.map (·.2.1)=(D.filter kC).map fun q=>bw (q.2.1.map (·.1)))(Fv:∀z,R.getLast?=some z->∃(u:Nat) (x:ZN) (tx:Tok),z.2.1.getLast?=some (u:Int)/\aG l u=some (ar x tx)/\tJ W (T.length%3) u x)(B:aS)(s:ZS)(b:Bt (ee w) none B)(H:Hq w s ([.o 963 (bZ w k SC S V U 966 965 964 P O (a.l w.params++[dE w.params [100,117,101] t2 (.ref DU)]) n),.o U (ae (b0 R) rep),.o (mI+1) (ae (bA (D.filter kC)) aY),.o (mI+2) (yE w.params (some q)),.o 966 (aP none),.o V (a9 l N),.o 964 (aP (some (.ref X))),.o X (ae (b5 Q) Y),.l (c6 R),.l (dq D),.l (ba Q ne W),.o SC (ae T Z)]++E) bg):Rk w B s (Kb w U mI) (.ok .next) (QT w K):=by
 refine m5 [0,1,2,3] b H (fun fr=>Qh w k SC S V U DU P O a n t2 q.1 q.2 (b0 R) rep (bA (D.filter kC)) aY mI fr (zN s) s.toks s.gens:) (fun _=>aj) fun fr s1 H1 B1 b1=>?_
 refine P0 (e1:=rep) (e2:=aY) (F:=[.o 963 (bZ w k SC S V U 966 965 964 P O (a.l w.params++[dE w.params [100,117,101] t2 (.ref DU)]) n),.o (mI+2) RS,.o 966 (aP none),.o V (a9 l N),.o 964 (aP (some (.ref X))),.o X (ae (b5 Q) Y),.l (ba Q ne W),.o SC (ae T Z)]++E) b1 rfl (R.map (·.2.1)) (uS _ R fun p hp=>dN _ hp) (by rw[R1];exact uT _ _ fun p hp=>cz _ (by
  obtain⟨z,hz,rfl⟩:=aZ.mp hp;exact b7 (iE.mp hz).1)) ((H1.ch [8,9] (List.Perm.refl _) [.l (c6 R++dq D)]).p [2,3,0,1,4,5,6,7,8,9,10] 11) fun s2 H3=>Rk.z (Qi ..) ?_
 have H4:=H3.ch [2] (List.Perm.refl (c6 R++dq D)) [.l (c6 R),.l (dq D)]
 rcases R with _|⟨z0,R0⟩
 .exact pE [4,2] b H4 (fun bV=>HT w k SC S V U DU P O a n t2 rep mI bV (zN s2) s2.toks s2.gens:) (fun _=>aj) fun bV s3 H5=>EH (H5.p [] 11) hE
 .obtain⟨z,hz⟩:∃z,(z0::R0).getLast?=some z:=⟨_,List.getLast?_eq_some_getLast (kG _ _)⟩;obtain⟨u,x,tx,hu,hl,h4,Ym,hD,jd,pN,RY,RZ⟩:=Fv z hz;obtain⟨tu,Gy⟩:=qX z.2.1 z.2.2 u hu;obtain⟨R',Yn⟩:=fH (b7 (f:=fun z:Addr×List Int×ZN=>(z.1,ae (ib z.2.1 z.2.2) 2)) (List.mem_of_getLast? hz))
  have QC:(b0 (z0::R0)).getLast?=some (.ref z.1):=by
   show((z0::R0).map _).getLast?=_
   rw[List.getLast?_map,hz];rfl
  have Yo:(T.length:Int).fmod 3=((T.length%3:Nat):Int):=by
   rw[Int.fmod_eq_emod_of_nonneg _ (by decide)];rfl
  have h3:=Nat.mod_lt T.length (by decide:3>0)
  refine m5 [5,3,0,12,7,8] b (H4.ch [0] Yn [.o z.1 (ae (ib z.2.1 z.2.2) 2),.l R']) (fun bV=>Qk w k SC S V U DU P O a n t2 (.ref z0.1) (b0 R0) rep z.1 (ib z.2.1 z.2.2) 2 u tu (T.length%3) T Z l N x tx mI bV (zN s2) s2.toks s2.gens:) (fun _=>aa ⟨rfl,rfl,rfl,au (Nat.le_of_lt h3) (by decide)⟩ (aa hl (aa (by decide) (aa Yo (aa M (aa Gy (aa QC aj))))))) fun bV s3 H6 B3 b3=>?_
  exact BQ w k SC S V U DU P O t2 (s2.toks+4) u tu (s2.toks+10) bg (s2.heap.objs.size+2) ([.o 964 (aP (some (.ref X))),.o 966 (aP (some (.int (T.length%3:Nat) (s2.toks+8)))),.o X (ae (b5 Q) Y),.l (ba Q ne W)]++([.o (mI+1) (ae (bA (D.filter kC)) aY),.o (mI+2) RS,.o U (ae (b0 (z0::R0)) rep),.o z.1 (ae (ib z.2.1 z.2.2) 2),.o V (a9 l N),.l R',.l (dq D)]++.o SC (ae T Z)::E)) (T.length%3) x B3 b3 (fun s4 a' n' Yp p' Yq H8=>Rk.z (Ql ..) (zt w X Q ne Y W bg L k SC S V U P O K DU a' n' t2 (s2.toks+4) u tu (s2.toks+10) (n9 (T.length%3) x) Yp p' (T.length%3) (s2.toks+8) s2.heap.objs.size Yq h4 hD jd pN RY RZ _ (hE.app _) B s4 b H8))
   (T.length%3) 0 _ rfl s3 _ a (n+2) x tx none rfl (by rcases a<;>rfl) Ym (H6.p [0,6,11,4,12,13,9,10,1,2,5,7,8,3] 14)
include L M in
theorem wz[ZI](a:LX)(n:Nat)(R:xT)(rep:Nat)(E:List Bk)(hE:Kp K (.o SC (ae T Z)::E))(R3:((List.range 4).any fun v=>bU W v 4==4)=P)(R1:R.map (·.2.1)=(((List.range 4).map (iN fun v=>bU W v 4)).filter fun l=>l.length !=0).map bw)(Fv:∀z,R.getLast?=some z->∃(u:Nat) (x:ZN) (tx:Tok),z.2.1.getLast?=some (u:Int)/\aG l u=some (ar x tx)/\tJ W (T.length%3) u x)(B:aS)(s:ZS)(b:Bt (ee w) none B)(H:Hq w s ([.o 963 (bZ w k SC S V U 966 965 964 P O (a.l w.params) n),.o U (ae (b0 R) rep),.o 965 (aP none),.o 966 (aP none),.o V (a9 l N),.o 964 (aP (some (.ref X))),.o X (ae (b5 Q) Y),.l (c6 R),.l (ba Q ne W),.o SC (ae T Z)]++E) bg):Rk w B s (oW w) (.ok .next) (QT w K):=by
 refine m5 [] b H (fun fr=>PD w fr (zN s) s.toks s.gens:) (fun _=>aj) fun fr s1 H1 B1 b1=>?_
 refine kT [0] b1 H1 (fun bV=>PI w ⟨963,964,965,966,s.heap.objs.size+1,s.heap.objs.size+2,s.heap.objs.size+3⟩ 0 4 bV _ (zN s1) s1.toks s1.gens:) (fun _=>aj) fun bV s2 H3=>?_
 refine BG w ⟨963,964,965,966,s.heap.objs.size+1,s.heap.objs.size+2,s.heap.objs.size+3⟩ X Q ne Y W bg L ([.o 963 (bZ w k SC S V U 966 965 964 P O (a.l w.params) n),.o U (ae (b0 R) rep),.o 965 (aP none),.o 966 (aP none),.o V (a9 l N),.l (c6 R),.o SC (ae T Z)]++E) B1 b1 (fun s3 kv vv as aY mv H4=>?_) 4 0 rfl _ rfl s2 _ none [] _ 0 rfl rfl (nomatch ·) (H3.p [0,2,8,1,9,11,3,4,5,6,7,10,12] 13)
 refine m5 [7,0] b H4 (fun ig=>PU w kv vv fr (zN s) s.toks s.gens ig (zN s3) s3.toks s3.gens:) (fun _=>aj) fun ig s4 H6 B2 b2=>?_
 let z:DU:=⟨963,964,965,966,s3.heap.objs.size+1,s3.heap.objs.size+2,s3.heap.objs.size+3,s3.heap.objs.size+4⟩
 refine kT [2] b2 H6 (fun Ih=>HE w z 0 4 Ih _ (zN s4) s4.toks s4.gens:) (fun _=>aj) fun Ih s5 H8=>?_
 refine BH w z bg (fun v=>bU W v 4) (s.heap.objs.size+2) aY as mv ([.o 964 (aP (some (.ref X))),.o X (ae (b5 Q) Y),.l (ba Q ne W),.o 963 (bZ w k SC S V U 966 965 964 P O (a.l w.params) n),.o U (ae (b0 R) rep),.o 966 (aP none),.o V (a9 l N),.l (c6 R),.o SC (ae T Z),.o (s.heap.objs.size+3) (HB (some (kv,vv))),.o (s3.heap.objs.size+3) (gj [] 0)]++E) B2 b2 (fun s6 D dep eD H9=>?_) 4 0 rfl _ rfl s5 _ none [] _ _ 0 rfl rfl rfl (H8.p [0,5,3,1,7,6,8,9,10,11,12,13,14,15,2,4] 16)
 have Yr:gE (iv as):=fun y hy=>by
  obtain⟨e,_,rfl⟩:=aZ.mp hy;exact⟨e.1,e.2,rfl⟩
 have Un:((iv as).any fun y=>ak y==4)=P:=by
  rw[←R3];have e1:(iv as).any (fun y=>ak y==4)=(as.map (·.1)).any (fun v=>v==4):=by
   unfold iv;rw[List.any_map,List.any_map]
   congr 1;funext e
   show((e.1:Int)==((4:Nat):Int))=(e.1==4)
   by_cases h:e.1=4
   .rw [RB h,h];rfl
   .rw [An h];exact(beq_eq_false_iff_ne.mpr h).symm
  rw[e1,mv,List.any_map];rfl
 refine m5 [7,1,2,0] b H9 (fun Ii=>P4 w kv vv k SC S V U (s.heap.objs.size+2) P O a n (iv as) aY (bA D) dep fr (zN s) s.toks s.gens ig (zN s3) s3.toks s3.gens Ii (zN s6) s6.toks s6.gens:) (fun _=>aa Yr (aa Un aj)) fun Ii s7 wa B3 b3=>?_
 refine kT [4] b3 wa (fun VK=>P8 w s6.heap.objs.size (s6.heap.objs.size+1) (s6.heap.objs.size+2) (s3.heap.objs.size+2) 0 VK _ (zN s7) s7.toks s7.gens:) (fun _=>aj) fun VK s8 As=>?_
 have VL:D.length=4:=by have:=congrArg List.length eD;rwa [aB,aB]at this
 have Uo:R.map (·.2.1)=(D.filter kC).map fun q=>bw (q.2.1.map (·.1)):=by
  rw[R1,←eD];have:∀l:yC,((l.map fun q=>q.2.1.map (·.1)).filter fun l=>l.length !=0).map bw=(l.filter kC).map fun q=>bw (q.2.1.map (·.1)):=fun l=>by
   induction l with
   |nil=>rfl
   |cons q l ih=>
    rw[dw,gY,gY];have:((q.2.1.map (·.1)).length !=0)=kC q:=by unfold kC;rw[aB]
    rw[this];cases kC q
    .exact ih
    .exact congrArg _ ih
  exact this D
 refine BP w bg D (s3.heap.objs.size+2) dep (dX VL) s6.heap.objs.size (s6.heap.objs.size+1) (s6.heap.objs.size+2) ([.o 963 (bZ w k SC S V U 966 965 964 P O (a.l w.params++[dE w.params [100,117,101] s6.toks (.ref (s3.heap.objs.size+2))]) (n+1)),.o 965 (aP (some (.ref (s.heap.objs.size+2)))),.o (s.heap.objs.size+2) (ae (iv as) aY),.o 964 (aP (some (.ref X))),.o X (ae (b5 Q) Y),.l (ba Q ne W),.o U (ae (b0 R) rep),.o 966 (aP none),.o V (a9 l N),.l (c6 R),.o SC (ae T Z),.o (s.heap.objs.size+3) (HB (some (kv,vv))),.o (s3.heap.objs.size+3) (gj [] 0)]++E) B3 b3 (fun s9 q Up Ys=>Rk.z (P5 ..) ?_) D.length 0 (fM _) s8 _ none _ 0 rfl (fun h=>nomatch VL.symm.trans h) (As.p [0,4,6,5,7,1,2,3,8,9,10,11,12,13,14,15,16,17] 18)
 exact t9 w X Q ne Y W bg L k SC S V U P O T Z l N M K a (n+1) D (s3.heap.objs.size+2) s6.toks R rep _ (hE.mid [.o (s3.heap.objs.size+2) (ae (bA D) dep),.o 965 (aP (some (.ref (s.heap.objs.size+2)))),.o (s.heap.objs.size+2) (ae (iv as) aY),.o (s.heap.objs.size+3) (HB (some (kv,vv))),.o (s3.heap.objs.size+3) (gj [] 0)]) s6.heap.objs.size q Up Uo Fv B s9 b (Ys.p [4,10,2,1,11,12,7,8,13,3,9,14,0,5,6,15,16] 17)
end
end
end
section
open PySem.F
set_option tactic.hygienic true
theorem qY(Z:ZN)(u v:Nat):v∈dj Z u↔v∈Z\/v=u:=by
 unfold dj;split
 .rename_i h;exact⟨.inl,fun q=>q.elim id fun e=>e▸h⟩
 .simp
theorem qZ(v m:Nat):∀(Z:ZN)(g:PG),(Z.foldl (PG.eC v) g).sc m=g.sc m++List.replicate (Z.count m) v
 |[],g=>by simp
 |u::Z,g=>by
  rw[pf,qZ v m Z (g.eC v u),List.count_cons];show aW g.sc u (g.sc u++[v]) m++_=_
  by_cases e:m=u
  .subst e;rw[bj,br]
   congr 1
   simp[List.replicate_succ]
  .rw [bI _ _ e];have:(u==m)=false:=by simp;exact fun q=>e q.symm
   simp[this]
theorem q0(v m:Nat):∀(Z:ZN)(g:PG),(Z.foldl (PG.eC v) g).np m=g.np m
 |[],g=>rfl
 |u::Z,g=>by rw[pf,q0 v m Z (g.eC v u)];rfl
theorem oa(v m:Nat):∀(Z:ZN)(g:PG),m∈(Z.foldl (PG.eC v) g).π↔m∈g.π\/m∈Z
 |[],g=>by simp
 |u::Z,g=>by
  rw[pf,oa v m Z (g.eC v u)];show m∈dj g.π u\/_↔_
  rw[qY,bc,or_assoc]
theorem oc(g:PG)(v m:Nat)(Z:ZN):(g.add v Z).sc m=g.sc m++List.replicate (Z.count m) v:=qZ v m Z _
theorem od(g:PG)(v m:Nat)(Z:ZN):(g.add v Z).np m=if m=v then g.np m+Z.length else g.np m:=by
 unfold PG.add;rw[q0];show aW g.np v _ m=_
 split
 .rename_i h;subst h;rw[bj]
 .rename_i h;rw[bI _ _ h]
theorem lK(g:PG)(v m:Nat)(Z:ZN):m∈(g.add v Z).π↔m∈g.π\/m=v\/m∈Z:=by
 unfold PG.add;rw[oa];show m∈dj g.π v\/_↔_
 rw[qY,or_assoc]
theorem oY(Z:Nat->ZN)(m:Nat):(eV Z).sc m=List.replicate ((Z 0).count m) 0++(List.replicate ((Z 1).count m) 1++(List.replicate ((Z 2).count m) 2++List.replicate ((Z 3).count m) 3)):=by
 unfold eV;rw[oc,oc,oc,oc];show(([]++_)++_++_)++_=_
 simp only[List.nil_append,List.append_assoc]
theorem i0(Y:Nat->ZN)(X:∀v,4<=v->Y v=[])(n v:Nat):((eV Y).sc n).count v=(Y v).count n:=by
 rw[oY];simp only[List.count_append,List.count_replicate];have Z:v=0\/v=1\/v=2\/v=3\/4<=v:=by lia
 rcases Z with rfl|rfl|rfl|rfl|Z
 .simp
 .simp
 .simp
 .simp
 .rw [X v Z];have T:((0:Nat)==v)=false:=by simp;lia
  have U:((1:Nat)==v)=false:=by simp;lia
  have V:((2:Nat)==v)=false:=by simp;lia
  have W:((3:Nat)==v)=false:=by simp;exact mJ Z
  simp[T,U,V,W]
theorem q4(Y:Nat->ZN)(n:Nat):∀v∈(eV Y).sc n,v<4:=fun v Z=>by
 rw[oY]at Z;simp only[List.mem_append,List.mem_replicate]at Z
 lia
theorem zu(Z:Nat->ZN)(h:(Z 0).length+(Z 1).length+(Z 2).length+(Z 3).length<=7)(n:Nat):((eV Z).sc n).length<=7:=by
 rw[oY];simp only[List.length_append,List.length_replicate];have c:∀v,(Z v).count n<=(Z v).length:=fun v=>List.count_le_length
 have:=c 0;have:=c 1;have:=c 2;have:=c 3
 lia
theorem uU(Z:Nat->ZN){v:Nat}(Y:v<4):(eV Z).np v=(Z v).length:=by
 unfold eV;rw[od,od,od,od];have:v=0\/v=1\/v=2\/v=3:=by lia
 rcases this with rfl|rfl|rfl|rfl<;>simp[g0]
theorem q5(Z:Nat->ZN)(Y:∀v,∀u∈Z v,u<4)(m:Nat):m∈(eV Z).π↔m<4:=by
 unfold eV;rw[lK,lK,lK,lK];constructor
 .intro h;rcases h with (((h|h|h)|h|h)|h|h)|h|h
  .cases h
  all_goals first|lia|exact Y _ _ h
 .intro h;have:m=0\/m=1\/m=2\/m=3:=by lia
  rcases this with rfl|rfl|rfl|rfl
  .exact .inl (.inl (.inl (.inr (.inl rfl))))
  .exact .inl (.inl (.inr (.inl rfl)))
  .exact .inl (.inr (.inl rfl))
  .exact .inr (.inl rfl)
theorem QD{Z:ZN}(hn:Z.Nodup)(X:∀m,m∈Z↔m<4):∃p:Nat->Nat,Z=p4 p/\(∀u∈p4 p,u<4):=by
 have V:Z.length=4:=by
  have:=(kg hn fun v Y=>(X v).mp Y).length_eq
  rw[this];have e:((List.range 4).filter fun v=>decide (v∈Z))=List.range 4:=List.filter_eq_self.mpr fun v Y=>by
   simp only[decide_eq_true_eq];exact(X v).mpr (fj.mp Y)
  rw[e];rfl
 have s:∀{l:ZN} {n:Nat},l.length=n+1->∃a m,l=a::m/\m.length=n:=fun{l n} h=>by
  cases l with
  |nil=>cases h
  |cons a m=>exact⟨a,m,rfl,Nat.succ.inj h⟩
 obtain⟨a,x,rfl,S⟩:=s V;obtain⟨b,y,rfl,h2⟩:=s S;obtain⟨c,x,rfl,T⟩:=s h2;obtain⟨d,y,rfl,U⟩:=s T;cases jF U;exact⟨fun i=>[a,b,c,d].getD i 0,rfl,fun u W=>(X u).mp W⟩
end
section
open PySem.F PySem.Builtin PySem.Builtin.Str
section
set_option tactic.hygienic false
structure R4(rv:Nat->List aK)(r:Nat):Prop where
 h7:∀v,(rv v).length<=7
 hu:∀v,∀u∈ax rv v,u<4
 h0:∀v,4<=v->rv v=[]
 sum:(ax rv 0).length+(ax rv 1).length+(ax rv 2).length+(ax rv 3).length<=7
 hN:∀(kk:Nat)(D:ZN)(tx:Nat->ZN),kk<=3->kf (ax rv) kk D->(∀v∈D,tx v=ie rv tx v)->(∀v∈D,∀u∈ax rv v,u∈D)->∀n,(∀u∈ax rv n,u∈D)->v8 rv tx D n
 ok:(∃rk:Nat->Nat,∀v,∀u∈ax rv v,rk v<rk u)->((List.range 4).any fun v=>bU rv v 4==4)=false
 ring:(∃S:ZN,S≠[]/\∀u∈S,∃v∈S,u∈ax rv v)->((List.range 4).any fun v=>bU rv v 4==4)=true
 Yt:∀(kk:Nat)(D:ZN),kf (ax rv) kk D->(∀v,v<4->v∉D->cI (ax rv) (kk+1) v=true)->(∀j,j<kk->bS (ax rv) j≠[])->
  (List.range kk).map (fun j=>bw (bS (ax rv) j))=(((List.range 4).map (iN fun v=>bU rv v 4)).filter fun l=>l.length !=0).map bw
 fin:∀(kk:Nat)(D:ZN)(tx:Nat->ZN),kf (ax rv) (kk+1) D->(∀j,j<kk+1->bS (ax rv) j≠[])->(∀v∈D,tx v=ie rv tx v)->∀u,(bS (ax rv) kk).getLast?=some u->u∈D/\tJ rv r u (tx u)
theorem BU(Z:Nat->List aK)(h0:∀v,4<=v->Z v=[])(h:Ring (eV (ax Z)).sc):∃S:ZN,S≠[]/\∀u∈S,∃v∈S,u∈ax Z v:=by
 obtain⟨S,V,h2⟩:=h;refine⟨S,V,fun u X=>?_⟩
 obtain⟨v,Y,hm⟩:=h2 u X;refine⟨v,Y,?_⟩;have W:∀v,4<=v->ax Z v=[]:=fun v Y=>by unfold ax;rw[h0 v Y];rfl
 have:=mU.mpr hm
 rw[i0 _ W]at this;exact mU.mp this
section
variable(w:ZW)(xs:List (Int×Tok))(hx:xs.length<=63)(ep:Nat)(U:Option Addr)(Z:Nat->List aK)(Y:R4 Z (xs.length%3))(V:Addr)(W ne:Nat->Nat)(X:Nat)
include hx Y in
theorem uV[ZI](k:ZT)(S SD DD RL TX RD:Addr)(rb:Bool)(R3:((List.range 4).any fun v=>bU Z v 4==4)=rb)(v3:ZV)(n:Nat)(x:Sx.NS)(p:Nat->Nat)(Ij:(eV (ax Z)).π=p4 p)(R5:NG x (eV (ax Z)))(s:ZT)(rep:Nat)(E E0:ZA)(hE:∀p∈E0,p=(962,ae (iw xs) ep)\/p∈E)(o:ay)(ho:bp o=bp (oW w))(B B':aS)(st:ZS)(pos:Pos)(b:Bt (ee w) none B)(b':Bt (cA w 963 964 965 966 ⟨1002,4,1013,27⟩) none B')(H:Hq w st [.o 963 (bZ w k 962 S TX RD 966 965 964 rb v3 [] n),.o S (cp SD),.o SD (cn w.params s DD (.ref RL) 0 0),.o RL (ae (zr x (p4 p)) rep),.o DD (a9 (dl x (p4 p)) 4),.o 964 (aP (some (.ref V))),.o V (ae (b5 W) X),.o TX (a9 [] 0),.o 917 (gw U),.o RD (ae [] 0),.o 962 (ae (iw xs) ep),.o 965 (aP none),.o 966 (aP none),.l (aT x (p4 p)),.l (ba W ne Z),.l E] []):Rn w B' st (vW w 963 964 965 966) pos (fun r Yu=>Rk w B Yu o r (QT w E0)):=by
 have Yv:∀v,4<=v->ax Z v=[]:=fun v hv=>by unfold ax;rw[Y.h0 v hv];rfl
 have hm:=q5 (ax Z) Y.hu
 have IM:(p4 p).Nodup:=Ij▸R5.nd
 have VM:∀u∈p4 p,u<4:=fun u hu=>(hm u).mp (Ij▸hu)
 have Ki:∀v,v<4->v∈p4 p:=fun v hv=>Ij▸(hm v).mpr hv
 let c9:List (Nat×Tok):=((p4 p).filter fun v=>x.np v==0).map fun v=>(v,x.tv v)
 have ez:zr x (p4 p)=iv c9:=by unfold zr;simp only[c9,iv,List.map_map];rfl
 have e1:c9.map (·.1)=(p4 p).filter fun v=>x.np v==0:=by
  simp only[c9,List.map_map];exact List.map_id _
 have JH:∀v,v<4->x.np v=((ax Z v).length:Int):=fun v hv=>by rw[R5.np v (Ij▸Ki v hv),uU _ hv]
 have hK:Kn (ax Z) [] x.np (c9.map (·.1)):=by
  rw[e1];have ef:∀v,((ax Z v).filter fun u=>decide (u∉([]:ZN)))=ax Z v:=fun v=>List.filter_eq_self.mpr fun u _=>by simp
  refine⟨IM.filter _,fun v hv=>⟨VM v (iE.mp hv).1,fun h=>(nomatch h)⟩,fun v hv _=>by rw[ef];exact JH v hv,fun v hv _=>?_,fun v hv=>nomatch hv⟩
  rw[ef,iE,JH v hv];constructor
  .rintro ⟨_,h⟩;have:=eq_of_beq h;exact Int.ofNat_eq_zero.mp this
  .intro h;exact⟨Ki v hv,by rw[h];rfl⟩
 have uC:kf (ax Z) 0 []:=fun v=>⟨fun h=>(nomatch h),fun h=>Bool.noConfusion h.2⟩
 rw[ez]at H;refine Bp w 963 964 965 966 962 S TX RD SD DD RL V k rb x p (eV (ax Z)).sc W ne X Z [.o 962 (ae (iw xs) ep),.o 965 (aP none),.o 966 (aP none),.l E] [] IM VM (fun u hu=>R5.sc u (Ij▸hu)) (q4 _) (i0 _ Yv) (zu _ Y.sum) Y.hu Y.hN B' b' (fun s2 kk D tx a' r8 Di l' zZ Dj R' Fd VN Yw Yx iR hR ly H2=>?_) 4 0 [] (by simp) st pos x.np x.tn c9 s (fun _=>[]) .x0 n v3 [] 0 U [] 0 rep cW (fun v h=>nomatch h) (aM _) hK uC ⟨fun u h=>(nomatch h),fun u _=>rfl,rfl⟩ (fun v h=>nomatch h) rfl (fun j h=>absurd h (p5 _)) (H.p [1,2,4,3,13,0,5,6,7,8,9,14,10,11,12,15])
 have jW:(iw xs).length=xs.length:=aB ..
 have Yy:Kp E0 [.o 962 (ae (iw xs) ep),.o 917 (gw Dj),.l E]:=⟨fun p hp=>(hE p hp).elim (fun e=>e▸.head _) fun h=>.tail _ (.tail _ h),Dj,.tail _ (.head _)⟩
 refine Rk.z ho (wz w V W ne X Z [] Y.h7 k 962 S TX RD rb Di (iw xs) ep l' zZ (by rw[jW];lia) E0 a' (r8+a'.n) R' Fd [.o 917 (gw Dj),.l E] Yy R3 (hR.trans (Y.Yt kk D VN Yw ly)) (fun z hz=>?_) B s2 b (H2.p [0,5,9,10,3,1,2,7,6,8,4,11]))
 rw[jW];have hlen:R'.length=kk:=by have:=congrArg List.length hR;simpa using this
 cases kk with
 |zero=>
  have:R'=[]:=jF hlen
  rw[this]at hz;cases hz
 |succ j=>
  have h1:(R'.map (·.2.1)).getLast?=some z.2.1:=by rw[List.getLast?_map,hz];rfl
  rw[hR,List.getLast?_map,List.getLast?_range]at h1;simp only[Nat.add_one_ne_zero,if_false,Option.map_some,Option.some.injEq,Nat.add_sub_cancel]at h1;obtain⟨u,hu⟩:∃u,(bS (ax Z) j).getLast?=some u:=⟨_,List.getLast?_eq_some_getLast (ly j (mS j))⟩;obtain⟨Yz,hE⟩:=Y.fin j D tx VN ly iR u hu;obtain⟨t,ht⟩:=Yx.yes u Yz;refine⟨u,tx u,t,?_,ht,hE⟩;rw[←h1];unfold bw;rw[List.getLast?_map,hu];rfl
end
theorem q6(Y ne:Nat->Nat)(Z:Nat->List aK):(ba Y ne Z).Perm (fl [.o (Y 0) (ae (bh (Z 0)) (ne 0)),.o (Y 1) (ae (bh (Z 1)) (ne 1)),.o (Y 2) (ae (bh (Z 2)) (ne 2)),.o (Y 3) (ae (bh (Z 3)) (ne 3)),.l ((Z 0).map aK.led),.l ((Z 1).map aK.led),.l ((Z 2).map aK.led),.l ((Z 3).map aK.led)]):=(List.Perm.of_eq (show ba Y ne Z=fl [.o (Y 0) (ae (bh (Z 0)) (ne 0)),.l ((Z 0).map aK.led),.o (Y 1) (ae (bh (Z 1)) (ne 1)),.l ((Z 1).map aK.led),.o (Y 2) (ae (bh (Z 2)) (ne 2)),.l ((Z 2).map aK.led),.o (Y 3) (ae (bh (Z 3)) (ne 3)),.l ((Z 3).map aK.led)] by kernel_rfl)).trans ((jR [0,2,4,6,1,3,5,7] _).trans (List.Perm.of_eq (bY _)))
theorem BV[ZI](w:ZW)(xs:List (Int×Tok))(hx:xs.length<=63)(ep:Nat)(C:Option Addr)(PL:∀Y:Nat->List aK,(∀v,(Y v).map iM=fg (xs.map (·.1)) v)->R4 Y (xs.length%3))(E q:ZA)(hE:∀p∈q,p=(962,ae (iw xs) ep)\/p∈E)(B:aS)(s:ZS)(pos:Pos)(b:Bt (ee w) none B)(hN:s.heap.objs.size=963)(H:Hq w s [.o 962 (ae (iw xs) ep),.o 917 (gw C),.l E] []):Rn w B s (.call (.ref 961) ⟨[.ref 962],[]⟩) pos (QT w q):=by
 refine kS [] b H (fun fr=>Pt w 962 fr pos s.heap.objs.size s.toks s.gens:) (fun a=>aj) fun fr s1 H1 B1 b1=>?_
 rw[hN]at H1 b1⊢;refine zq w 963 964 965 966 962 [] xs hx ep B1 s1 _ [.o 963 (fx [dE w.params u9 s.toks (.ref 962)] 1),.o 964 (aP none),.o 965 (aP none),.o 966 (aP none),.o 917 (gw C),.l E] b1 (H1.p [4,0,1,2,3,5,6]) fun s2 O M ne Y k H3=>?_
 have U:=PL Y k
 refine m5 [3,4] b H3 (fun Q=>Pw w 962 O (KK [s.toks]) fr pos 963 s.toks s.gens Q s2.heap.objs.size s2.toks s2.gens:) (fun a=>aj) fun Q s3 H5 B2 b2=>?_
 let Z:=s2.heap.objs.size
 let X:=s2.toks
 let N:Nat->Tok:=KK [X+3,X+5,X+8,X+6,X+11,X+9,4]
 let n:Nat->Tok:=KK [s.toks,X+12,0,2]
 obtain⟨σ,m⟩:=l3 (W:=(.func (aH (jJ w.params)) (bz w 963 964 965 966),⟨993,13,993,21⟩)::ee w) (ks:=mn) rfl rfl;refine FZ w 962 963 964 965 966 O M ne 0 N (Z+5) (Z+1) Z (Z+3) σ [] [.o 962 (ae (iw xs) ep),.o 965 (aP none),.o 966 (aP none),.o 917 (gw C),.l E] B2 (m▸b2) (Y 0) (Y 1) (Y 2) (Y 3) (U.h7 0) (U.h7 1) (U.h7 2) (U.h7 3) n ⟨fun a=>0,fun a=>0,fun a=>0,fun a=>0,fun a=>0,fun a=>0,fun a=>[],fun a=>0⟩ s3 _
  ((H5.ch [7] (q6 M ne Y) [.o _ _,.o _ _,.o _ _,.o _ _,.l _,.l _,.l _,.l _]).p [8,13,9,14,0,1,2,3,11,10,4,5,6,7,12,15,16,17,18,19]) fun s4 k' t' x S H8=>?_
 have j:=q5 (ax Y) U.hu
 obtain⟨p,V,t⟩:=QD S.nd j;have i:∀v,4<=v->ax Y v=[]:=fun v hv=>by unfold ax;rw[U.h0 v hv];rfl
 have y:∀u∈p4 p,∀z∈(eV (ax Y)).sc u,z∈p4 p:=fun u a z hz=>V▸(j z).mpr (q4 _ u z hz)
 rw[show(eV (ax (gk (Y 0) (Y 1) (Y 2) (Y 3)))).π=p4 p from V]at H8
 refine m5 [1,5,6] b (H8.ch [4,5,6,7,10,11,12,13] (q6 M ne Y).symm [.l (ba M ne Y)]) (fun P=>Py w 962 O (KK [s.toks]) k' N (3,t') fr pos 963 s.toks s.gens Q s2.heap.objs.size s2.toks s2.gens P s4.heap.objs.size s4.toks s4.gens:) (fun a=>aj) fun P s5 c B3 b3=>?_
 let T:Nat->Tok:=KK [k' 0,k' 1,k' 2,s4.toks]
 have d:Hq w s5 ([.o (Z+1) (cp Z),.o Z (cn w.params N (Z+1+2) .none 0 0),.o (Z+1+2) (a9 (d4 x p).l 4),.o 963 (J5 w.params T 962 (Z+1) 966 965 964 (.int 3 t') (k' 3+1+1) false),.l (aT x (p4 p))]++[.l (ba M ne Y),.o (Z+5) (b6 4 0),.o 964 (aP (some (.ref O))),.o O (ae (b5 M) 0),.o 962 (ae (iw xs) ep),.o 965 (aP none),.o 966 (aP none),.o 917 (gw C),.l E]) []:=c.p [1,2,7,0,8,3,4,5,6,9,10,11,12,13]
 refine rH w 963 964 965 966 (Z+1) (Z+1) Z N x p _ _ _ [] (eV (ax Y)).sc (fun u K=>by rw[S.np u (V▸K)];show(0:Int)<=(eV (ax Y)).np u;rw[uU _ (t u K)];exact mQ _) (fun u K=>S.sc u (V▸K)) t y B3 s5 _ b3 d (fun s6 e L J D=>?_) (fun s6 EX A f r e L I D=>?_)
 .obtain⟨rk,J⟩:=J;have G:=U.ok ⟨rk,fun v u K=>J u (V▸(j u).mpr (U.hu v u K)) v (by
   have:=mU.mpr K
   rw[←i0 _ i]at this;exact mU.mp this)⟩
  refine m5 [3] b D (fun R=>PA w 962 O (KK [s.toks]) k' N (3,t') T (.int 3 t') (k' 3+1+1) fr pos 963 s.toks s.gens Q s2.heap.objs.size s2.toks s2.gens P s4.heap.objs.size s4.toks s4.gens R s6.heap.objs.size s6.toks s6.gens:) (fun a=>aj) fun R s7 F B4 g=>?_
  exact uV w xs hx ep C Y U O M ne 0 (KK [T 0,T 1,T 2,T 3,s6.toks,s6.toks+1]) (Z+1) Z (Z+1+2) e s6.heap.objs.size (s6.heap.objs.size+1) false G (.int 3 t') (k' 3+1+1+2) x p V S N L ([(Z+5,b6 4 0)]++E) q (fun p hp=>(hE p hp).imp id (.tail _)) _ (PB ..) B B4 s7 _ b g (F.p [0,3,4,6,5,10,11,1,15,2,12,13,14,7,8,9,16])
 .have G:=U.ring (BU Y U.h0 I)
  refine m5 [3,5,6] b D (fun R=>Hz w 962 O (KK [s.toks]) k' N (3,t') T (.int 3 t') (k' 3+1+1) EX A f r fr pos s.toks s.gens Q s2.heap.objs.size s2.toks s2.gens P s4.heap.objs.size s4.toks s4.gens R s6.heap.objs.size s6.toks s6.gens:) (fun a=>aj) fun R s7 F B4 g=>?_
  exact uV w xs hx ep C Y U O M ne 0 (KK [T 0,T 1,T 2,T 3,s6.toks+1,s6.toks+2]) (Z+1) Z (Z+1+2) e (s6.heap.objs.size+1) (s6.heap.objs.size+2) true G (.int 3 t') (k' 3+1+1+2) x p V S N L ((Z+5,b6 4 0)::(EX,JA A s6.heap.objs.size)::(f,JB r)::(s6.heap.objs.size,⟨.type "traceback",none,.fields ⟨[.ref f,.ref 963,.none,.none,.none,.int 997 0,.int 997 0,.int 8 0,.int 24 0,.str ⟨⟨Fx⟩⟩ 0,.bool true]⟩,⟨[]⟩⟩)::E) q (fun p hp=>(hE p hp).imp id fun h=>.tail _ (.tail _ (.tail _ (.tail _ h)))) _ (HA ..) B B4 s7 _ b g (F.p [0,6,7,9,8,13,14,4,18,5,15,16,17,10,11,12,1,2,3,19])
end
end
section
open PySem.F
set_option tactic.hygienic false
inductive Tk where
 |c (n:Nat)
 |e (j:Nat)
noncomputable def Tk.f:Tk->ZN
 |.c n=>[n]
 |.e j=>61::(bt j++[122])
noncomputable def a7(T:List Tk):ZN:=T.flatMap Tk.f
noncomputable def Tk.up(w r:Nat):Tk->Tk
 |.c n=>.c n
 |.e j=>.e (j+w-r)
noncomputable def bC(w r:Nat)(T:List Tk):List Tk:=T.map (Tk.up w r)
noncomputable def Tk.ok:Tk->Bool
 |.c n=>n==97||n==98||n==99||n==100||n==32||n==39||n==34
 |.e _=>true
theorem BW:a7 []=[]:=rfl
theorem cx(t:Tk)(T:List Tk):a7 (t::T)=t.f++a7 T:=rfl
theorem fh(A B:List Tk):a7 (A++B)=a7 A++a7 B:=by unfold a7;rw[sz]
theorem q7(a b:ZN):aV (a++b)=aV a++aV b:=by unfold aV;rw[sz]
theorem q8:∀j,aV (bt j)=bt j
 |0=>rfl
 |j+1=>by
  show dQ 51++(dQ 68++aV (bt j))=_
  rw[q8 j];rfl
theorem lL{n:Nat}(h:(Tk.c n).ok=true):n≠61:=by rintro rfl;exact absurd h (by decide)
theorem lM:∀T:List Tk,(∀t∈T,t.ok=true)->aV (a7 T)=a7 (bC 1 0 T)
 |[],_=>rfl
 |t::T,h=>by
  rw[cx,q7,lM T fun t Z=>h t (.tail _ Z)]
  show _=(Tk.up 1 0 t).f++a7 (bC 1 0 T)
  congr 1
  cases t with
  |c n=>
   have:=lL (h _ (.head _))
   show aV [n]=[n]
   unfold aV dQ;simp[this]
  |e j=>
   show dQ 61++aV (bt j++[122])=61::(bt (j+1)++[122])
   rw[q7,q8];rfl
theorem oe:∀(j:Nat)(x:ZN),dI (bt j++x)=bt j++dI x
 |0,_=>rfl
 |j+1,x=>by
  show dI (51::68::(bt j++x))=51::68::(bt j++dI x)
  rw[fc (by decide),fc (by decide),oe j x]
theorem oZ:∀T:List Tk,(∀t∈T,t.ok=true)->dI (a7 T)=a7 (bC 0 1 T)
 |[],_=>rfl
 |t::T,h=>by
  have Z:=oZ T fun t Y=>h t (.tail _ Y)
  rw[cx];show _=(Tk.up 0 1 t).f++a7 (bC 0 1 T)
  cases t with
  |c n=>
   show dI (n::a7 T)=n::_
   rw[fc (lL (h _ (.head _))),Z];rfl
  |e j=>
   cases j with
   |zero=>
    show dI (61::122::a7 T)=61::122::a7 (bC 0 1 T)
    rw[xW,fc (by decide),Z]
   |succ j=>
    show dI (61::51::68::(bt j++[122]++a7 T))=61::(bt (j+1+0-1)++[122]++a7 (bC 0 1 T))
    rw[qQ,br,oe];show 61::(bt j++dI (122::a7 T))=_
    rw[fc (by decide),Z]
    show _=61::(bt j++[122]++a7 (bC 0 1 T))
    rw[br];rfl
theorem EI(w r Z:Nat)(T:List Tk)(h:True):bC w r (bC Z 0 T)=bC (Z+w) r T:=by
 unfold bC;rw[dY]
 congr 1;funext t
 cases t with
 |c n=>rfl
 |e j=>show Tk.e (j+Z-0+w-r)=Tk.e (j+(Z+w)-r);congr 1;lia
theorem up_down(r:Nat)(T:List Tk):bC 0 1 (bC 0 r T)=bC 0 (r+1) T:=by
 unfold bC;rw[dY]
 congr 1;funext t
 cases t with
 |c n=>rfl
 |e j=>exact congrArg Tk.e (show j+0-r+0-1=j+0-(r+1) by exact Eq.symm (Nat.add_sub_add_right j 0 (r+1)))
theorem o2(T:List Tk):bC 0 0 T=T:=by
 unfold bC
 conv=>rhs;rw[←List.map_id T]
 congr 1;funext t
 cases t<;>rfl
theorem pX{w r:Nat}{T:List Tk}(h:∀t∈T,t.ok=true):∀t∈bC w r T,t.ok=true:=fun t Z=>by
 obtain⟨s,Y,rfl⟩:=aZ.mp Z;have:=h s Y
 cases s<;>exact this
theorem o3:∀(w:Nat)(T:List Tk),(∀t∈T,t.ok=true)->mC w (a7 T)=a7 (bC w 0 T)
 |0,T,_=>by rw[o2];rfl
 |w+1,T,h=>by
  show aV (mC w (a7 T))=_
  rw[o3 w T h,lM _ (pX h),EI 1 0 w T trivial]
theorem uW:∀(r s:Nat)(T:List Tk),(∀t∈T,t.ok=true)->n9 r (a7 (bC 0 s T))=a7 (bC 0 (s+r) T)
 |0,s,T,_=>rfl
 |r+1,s,T,h=>by
  show n9 r (dI (a7 (bC 0 s T)))=_
  rw[oZ _ (pX h),up_down,uW r (s+1) T h]
  congr 2;exact pa s r
noncomputable def Tk.safe:Tk->Bool
 |.c n=>n==97||n==98||n==99||n==100
 |.e _=>true
noncomputable def iy:Tk->List Tk
 |.c n=>if n=39 then[.c 39,.c 34,.c 39,.c 34,.c 39]else[.c n]
 |.e j=>[.e j]
noncomputable def ek(T:List Tk):List Tk:=if T.all Tk.safe then T else .c 39::(T.flatMap iy++[.c 39])
noncomputable def gT:List (List Tk)->List Tk
 |[]=>[]
 |l::r=>match r with
  |[]=>l
  |_::_=>l++.c 32::gT r
theorem ik(a b:ZN):fF (a++b)=(fF a&&fF b):=by unfold fF;rw[List.all_append]
theorem og:∀j,fF (bt j)=true
 |0=>rfl
 |j+1=>by
  have e:bt (j+1)=[51,68]++bt j:=rfl
  rw[e,ik,og j];decide+kernel
theorem Ik{t:Tk}(h:t.ok=true):fF t.f=t.safe:=by
 cases t with
 |c n=>
  have h:(n==97||n==98||n==99||n==100||n==32||n==39||n==34)=true:=h
  simp only[Bool.or_eq_true,beq_iff_eq]at h;rcases h with (((((rfl|rfl)|rfl)|rfl)|rfl)|rfl)|rfl<;>decide+kernel
 |e j=>
  show fF ([61]++(bt j++[122]))=true
  rw[ik,ik,og];decide+kernel
theorem uX:∀T:List Tk,(∀t∈T,t.ok=true)->fF (a7 T)=T.all Tk.safe
 |[],_=>rfl
 |t::T,h=>by rw[cx,ik,Ik (h t (.head _)),uX T fun t Z=>h t (.tail _ Z)];rfl
theorem jz(q:Nat)(z a b:ZN):dk q z (a++b)=dk q z a++dk q z b:=by unfold dk;rw[sz]
theorem oh:∀j,dk 39 [39,34,39,34,39] (bt j)=bt j
 |0=>rfl
 |j+1=>by
  have e:bt (j+1)=[51,68]++bt j:=rfl
  rw[e,jz,oh j];rfl
theorem uY:∀T:List Tk,dk 39 [39,34,39,34,39] (a7 T)=a7 (T.flatMap iy)
 |[]=>rfl
 |t::T=>by
  rw[cx,jz,uY T,fm,fh]
  congr 1
  cases t with
  |c n=>
   show(if n=39 then _ else _)++[]=a7 (if n=39 then _ else _)
   split<;>rfl
  |e j=>
   show dk 39 [39,34,39,34,39] ([61]++(bt j++[122]))=61::(bt j++[122])++[]
   rw[jz,jz,oh,bY];rfl
theorem oi{T:List Tk}(h:∀t∈T,t.ok=true):ct (a7 T)=a7 (ek T):=by
 unfold ct ek;rw[uX T h];split
 .rfl
 .rw [uY,cx,fh];rfl
theorem yK:∀Z:List (List Tk),j9 (Z.map a7)=a7 (gT Z)
 |[]=>rfl
 |[l]=>rfl
 |l::m::r=>by
  show a7 l++32::j9 ((m::r).map a7)=a7 (l++.c 32::gT (m::r))
  rw[yK (m::r),fh,cx];rfl
theorem Il(w r:Nat)(T:List Tk):bC w r (ek T)=ek (bC w r T):=by
 have Z:(bC w r T).all Tk.safe=T.all Tk.safe:=by
  unfold bC;rw[List.all_map]
  congr 1;funext t;cases t<;>rfl
 unfold ek;rw[Z];split
 .rfl
 .have:∀T:List Tk,bC w r (T.flatMap iy)=(bC w r T).flatMap iy:=fun T=>by
   induction T with
   |nil=>rfl
   |cons t T Y=>
    show(iy t++T.flatMap iy).map _=iy (t.up w r)++(bC w r T).flatMap iy
    rw[aL]
    congr 1
    cases t with
    |c n=>show(if n=39 then _ else _:List Tk).map _=(if n=39 then _ else _:List Tk);split<;>rfl
    |e j=>rfl
  show Tk.c 39::(T.flatMap iy++[Tk.c 39]).map _=_
  rw[aL];show Tk.c 39::(bC w r (T.flatMap iy)++_)=_
  rw[this];rfl
theorem yL(w r:Nat):∀Z:List (List Tk),bC w r (gT Z)=gT (Z.map (bC w r))
 |[]=>rfl
 |[l]=>rfl
 |l::m::rs=>by
  show(l++.c 32::gT (m::rs)).map _=bC w r l++.c 32::gT ((m::rs).map (bC w r))
  rw[←yL w r (m::rs),aL];rfl
theorem Im{T:List Tk}(h:∀t∈T,t.ok=true):∀t∈ek T,t.ok=true:=fun t Z=>by
 unfold ek at Z;split at Z
 .exact h t Z
 .simp only[List.mem_cons,List.mem_append,List.mem_flatMap,List.mem_nil_iff,or_false]at Z;rcases Z with rfl|⟨s,Y,Z⟩|rfl
  .rfl
  .cases s with
   |c n=>
    have Z:t∈(if n=39 then _ else _:List Tk):=Z
    split at Z
    .simp only[List.mem_cons,List.mem_nil_iff,or_false]at Z;rcases Z with rfl|rfl|rfl|rfl|rfl<;>rfl
    .rcases bQ.mp Z with rfl;exact h _ Y
   |e j=>rcases bQ.mp Z with rfl;rfl
  .rfl
theorem yM:∀{Y:List (List Tk)},(∀l∈Y,∀t∈l,t.ok=true)->∀t∈gT Y,t.ok=true
 |[],_,_,Z=>nomatch Z
 |[l],h,t,Z=>h l (.head _) t Z
 |l::m::r,h,t,Z=>by
  have Z:t∈l++.c 32::gT (m::r):=Z
  rcases bJ.mp Z with Z|Z
  .exact h l (.head _) t Z
  .rcases bc.mp Z with rfl|Z
   .rfl
   .exact yM (fun l X=>h l (.tail _ X)) t Z
set_option tactic.hygienic true
theorem kD{n:Nat}(h:(Tk.c n).safe=true):n∈[97,98,99,100]/\n∈pV/\n∈m2/\n≠32/\n≠39/\n≠34:=by
 have h:(n==97||n==98||n==99||n==100)=true:=h
 simp only[Bool.or_eq_true,beq_iff_eq]at h;rcases h with ((rfl|rfl)|rfl)|rfl<;>decide
theorem pY{b:Bool}{x:ZN}{n:Nat}{r:ZN}(hx:x≠[])(h:n∈pV\/n=61)(Y:n≠32)(h2:n≠39)(Z:n≠34):bl .a b x (n::r)=bl .a b (x++[n]) r:=by
 conv=>lhs;unfold bl
 rw[if_neg Y,if_neg h2,if_neg Z,if_pos h];cases x with
 |nil=>exact absurd rfl hx
 |cons a x=>rfl
theorem oj{b:Bool}{r:ZN}:∀(j:Nat){x:ZN},x≠[]->bl .a b x (bt j++r)=bl .a b (x++bt j) r
 |0,x,_=>by rw[show bt 0=[]from rfl,bY];rfl
 |j+1,x,hx=>by
  show bl .a b x (51::68::(bt j++r))=_
  rw[pY hx (.inl (by decide)) (by decide) (by decide) (by decide),pY (by simp) (.inl (by decide)) (by decide) (by decide) (by decide),oj j (by simp)]
  show bl .a b (x++[51]++[68]++bt j) r=bl .a b (x++(51::68::bt j)) r
  simp
theorem Fw{b:Bool}{r:ZN}:∀(T:List Tk){x:ZN},x≠[]->T.all Tk.safe=true->bl .a b x (a7 T++r)=bl .a b (x++a7 T) r
 |[],x,_,_=>by rw[BW,bY];rfl
 |t::T,x,hx,h=>by
  rw[List.all_cons,mR]at h;rw[cx,br];cases t with
  |c n=>
   obtain⟨V,h2,W,X,Y,Z⟩:=kD h.1;show bl .a b x (n::(a7 T++r))=_
   rw[pY hx (.inl h2) X Y Z,Fw T (by simp) h.2,br]
   rfl
  |e j=>
   show bl .a b x (61::(bt j++[122]++(a7 T++r)))=_
   rw[pY hx (.inr rfl) (by decide) (by decide) (by decide),br,oj j (by simp)]
   show bl .a b _ (122::(a7 T++r))=_
   rw[pY (by simp) (.inl (by decide)) (by decide) (by decide) (by decide),Fw T (by simp) h.2]
   show bl .a b (x++[61]++bt j++[122]++a7 T) r=bl .a b (x++(61::(bt j++[122])++a7 T)) r
   simp
theorem pZ{b:Bool}{x:ZN}{n:Nat}{r:ZN}(h:n∈m2)(h2:n≠39):bl .q b x (n::r)=bl .q true (x++[n]) r:=by
 conv=>lhs;unfold bl
 rw[if_neg h2,if_pos h]
theorem om{r:ZN}:∀(j:Nat){x:ZN},bl .q true x (bt j++r)=bl .q true (x++bt j) r
 |0,x=>by rw[show bt 0=[]from rfl,bY];rfl
 |j+1,x=>by
  show bl .q true x (51::68::(bt j++r))=_
  rw[pZ (by decide) (by decide),pZ (by decide) (by decide),om j]
  show bl .q true (x++[51]++[68]++bt j) r=bl .q true (x++(51::68::bt j)) r
  simp
theorem Kj{r:ZN}:∀(T:List Tk){b:Bool}{x:ZN},(∀t∈T,t.ok=true)->bl .q b x (a7 (T.flatMap iy)++39::r)=bl .a true (x++a7 T) r
 |[],b,x,_=>by
  show bl .q b x (39::r)=bl .a true (x++[]) r
  rw[bY]
  conv=>lhs;unfold bl
  rw[if_pos rfl]
 |t::T,b,x,h=>by
  have Z:=fun(b:Bool) (x:ZN)=>Kj (r:=r) T (b:=b) (x:=x) fun t Y=>h t (.tail _ Y)
  rw[fm,fh,br,cx];cases t with
  |c n=>
   by_cases hn:n=39
   .subst hn;show bl .q b x (39::34::39::34::39::(a7 (T.flatMap iy)++39::r))=_
    have e:bl .q b x (39::34::39::34::39::(a7 (T.flatMap iy)++39::r))=bl .q true (x++[39]) (a7 (T.flatMap iy)++39::r):=by
     simp[bl]
    rw[e,Z,br];rfl
   .have hq:n∈m2:=by
     have h:(n==97||n==98||n==99||n==100||n==32||n==39||n==34)=true:=h _ (.head _)
     simp only[Bool.or_eq_true,beq_iff_eq]at h;rcases h with (((((rfl|rfl)|rfl)|rfl)|rfl)|rfl)|rfl
     all_goals first|exact absurd rfl hn|decide
    have e:iy (Tk.c n)=[.c n]:=if_neg hn
    rw[e];show bl .q b x (n::(a7 (T.flatMap iy)++39::r))=_
    rw[pZ hq hn,Z,br];rfl
  |e j=>
   show bl .q b x (61::(bt j++[122]++[]++(a7 (T.flatMap iy)++39::r)))=_
   rw[pZ (by decide) (by decide),bY,br,om]
   show bl .q true _ (122::(a7 (T.flatMap iy)++39::r))=_
   rw[pZ (by decide) (by decide),Z]
   show bl .a true (x++[61]++bt j++[122]++a7 T) r=bl .a true (x++(61::(bt j++[122])++a7 T)) r
   simp
structure j0(T:List Tk):Prop where
 ok:∀t∈T,t.ok=true
 hd:∃n T',T=.c n::T'/\T'≠[]
 last:∃t,T.getLast?=some t/\∀n,t=.c n->n≠32
theorem oq{T:List Tk}(h:T≠[]):a7 T≠[]:=by
 cases T with
 |nil=>exact absurd rfl h
 |cons t T=>rw[cx];cases t<;>exact fun q=>nomatch q
theorem q9{W:List Tk}(h:j0 W)(r:ZN):∃b,nQ (a7 (ek W)++r)=bl .a b (a7 W) r:=by
 obtain⟨n,Z,rfl,hT⟩:=h.hd;unfold ek;split
 .rename_i Y;rw[List.all_cons,mR]at Y;obtain⟨X,h2,S,T,U,V⟩:=kD Y.1;refine⟨false,?_⟩;show(if n∈[97,98,99,100]then bl .a false [n] (a7 Z++r)else if n=39 then bl .q false [] (a7 Z++r)else none)=_
  rw[if_pos X,Fw Z (by simp) Y.2];rfl
 .refine⟨true,?_⟩;show bl .q false [] (a7 ((.c n::Z).flatMap iy++[.c 39])++r)=_
  rw[fh,br];exact Kj (.c n::Z) h.ok
theorem uZ(buf:Str):∀(W:List (List Tk)),W≠[]->(∀l∈W,j0 l)->∀Z:ZN,buf.cps.toList=Z++a7 (gT (W.map ek))->gD buf Z.length (W.map a7)
 |[],h,_,_,_=>absurd rfl h
 |[l],_,h,Z,e=>by
  obtain⟨b,X⟩:=q9 (h l (.head _)) [];have Y:a7 l≠[]:=oq (by obtain⟨n,S,rfl,_⟩:=(h l (.head _)).hd;exact fun q=>nomatch q)
  refine .last (q:=b) ?_ Y;rw[e,List.drop_left];show nQ (a7 (ek l))=_
  rw[bY]at X;rw[X]
  conv=>lhs;unfold bl
 |l::m::rs,_,h,Z,e=>by
  have T:a7 (gT ((l::m::rs).map ek))=a7 (ek l)++32::a7 (gT ((m::rs).map ek)):=by
   show a7 (ek l++.c 32::gT ((m::rs).map ek))=_
   rw[fh,cx];rfl
  rw[T]at e;obtain⟨b,X⟩:=q9 (h l (.head _)) (32::a7 (gT ((m::rs).map ek)));have Y:a7 l≠[]:=oq (by obtain⟨n,S,rfl,_⟩:=(h l (.head _)).hd;exact fun q=>nomatch q)
  have hlen:buf.length=buf.cps.toList.length:=by simp[Str.length]
  refine .more (q:=b) (rest:=a7 (gT ((m::rs).map ek))) ?_ Y ?_
  .rw [e,List.drop_left,X]
   conv=>lhs;unfold bl
   rw[if_pos rfl];cases hx:a7 l with
   |nil=>exact absurd hx Y
   |cons a x=>rfl
  .have:=uZ buf (m::rs) (fun q=>nomatch q) (fun l V=>h l (.tail _ V)) (Z++(a7 (ek l)++[32])) (by rw[e];simp)
   have U:behind buf (some (a7 (gT ((m::rs).map ek))))=(Z++(a7 (ek l)++[32])).length:=by
    show buf.length-_=_
    rw[hlen,e];simp only[List.length_append,List.length_cons,List.length_nil];lia
   rw[U];exact this
theorem j0.up{T:List Tk}(h:j0 T)(w r:Nat):j0 (bC w r T):=by
 obtain⟨n,Y,rfl,hT⟩:=h.hd;refine⟨pX h.ok,⟨n,bC w r Y,rfl,fun q=>hT (sH.mp q)⟩,?_⟩
 obtain⟨t,Z,hn⟩:=h.last;refine⟨t.up w r,by unfold bC;rw[List.getLast?_map,Z];rfl,fun n e=>?_⟩
 cases t with
 |c m=>cases e;exact hn _ rfl
 |e j=>cases e
theorem j0.qu{T:List Tk}(h:j0 T):j0 (ek T):=by
 refine⟨Im h.ok,?_,?_⟩
 .unfold ek;split
  .exact h.hd
  .exact⟨39,_,rfl,by simp⟩
 .unfold ek;split
  .exact h.last
  .refine⟨.c 39,by rw[←pe,List.getLast?_concat],fun n e=>by cases e;decide⟩
theorem j0.jo:∀{Ls:List (List Tk)},Ls≠[]->(∀l∈Ls,j0 l)->j0 (gT Ls)
 |[],h,_=>absurd rfl h
 |[l],_,h=>h l (.head _)
 |l::m::rs,_,h=>by
  have Z:=h l (.head _)
  have X:=j0.jo (Ls:=m::rs) (fun q=>nomatch q) fun l Z=>h l (.tail _ Z)
  refine⟨yM fun l Z=>(h l Z).ok,?_,?_⟩
  .obtain⟨n,W,rfl,hT⟩:=Z.hd;exact⟨n,W++.c 32::gT (m::rs),rfl,by simp⟩
  .obtain⟨t,Y,hn⟩:=X.last;refine⟨t,?_,hn⟩;show(l++.c 32::gT (m::rs)).getLast?=_
   rw[List.getLast?_append,List.getLast?_cons,Y];rfl
theorem Uq{t:Tk}(h:t.ok=true):∀c∈t.f,jT c=true:=by
 cases t with
 |c n=>
  intro c Z;rcases bQ.mp Z with rfl
  have h:(c==97||c==98||c==99||c==100||c==32||c==39||c==34)=true:=h
  simp only[Bool.or_eq_true,beq_iff_eq]at h;rcases h with (((((rfl|rfl)|rfl)|rfl)|rfl)|rfl)|rfl<;>rfl
 |e j=>
  have X:∀j,∀c∈bt j,jT c=true:=by
   intro j;induction j with
   |zero=>exact fun a h=>nomatch h
   |succ j Y=>
    intro c Z;rcases bc.mp Z with rfl|Z
    .rfl
    .rcases bc.mp Z with rfl|Z
     .rfl
     .exact Y c Z
  intro c Z;rcases bc.mp Z with rfl|Z
  .rfl
  .rcases bJ.mp Z with Z|Z
   .exact X j c Z
   .rcases bQ.mp Z with rfl;rfl
theorem j0.tx{T:List Tk}(h:j0 T):iK (a7 T):=by
 refine⟨oq (by obtain⟨n,Y,rfl,_⟩:=h.hd;exact fun q=>nomatch q),fun c W=>?_,?_⟩
 .obtain⟨t,X,W⟩:=List.mem_flatMap.mp W;exact Uq (h.ok t X) c W
 .obtain⟨t,X,hn⟩:=h.last;obtain⟨Y,rfl⟩:∃Y,T=Y++[t]:=by
   obtain⟨Y,e⟩:=List.getLast?_eq_some_iff.mp X;exact⟨Y,e⟩
  rw[fh];have Z:=h.ok t (by simp)
  cases t with
  |c n=>
   refine⟨n,by show(a7 Y++[n]).getLast?=some n;rw[List.getLast?_concat],?_⟩
   have h2:=hn n rfl
   have Z:(n==97||n==98||n==99||n==100||n==32||n==39||n==34)=true:=Z
   simp only[Bool.or_eq_true,beq_iff_eq]at Z
   lia
  |e j=>
   refine⟨122,?_,by decide⟩
   show(a7 Y++(61::(bt j++[122])++[])).getLast?=_
   rw[bY,←pe,←br,List.getLast?_concat]
theorem u0:∀(j:Nat){r:ZN},eX r->eX (bt j++r)
 |0,_,h=>h
 |j+1,_,h=>.cons (by decide) (.cons (by decide) (u0 j h))
theorem EJ:∀(T:List Tk),T≠[]->(∀t∈T,t.ok=true)->eX (a7 T)
 |[],h,_=>absurd rfl h
 |t::T,_,h=>by
  have Y:T≠[]->eX (a7 T):=fun hT=>EJ T hT fun t X=>h t (.tail _ X)
  have Z:eX (122::a7 T):=by
   cases T with
   |nil=>exact .one (by decide)
   |cons s T=>exact .cons (by decide) (Y fun q=>nomatch q)
  rw[cx];cases t with
  |c n=>
   have hn:=lL (h _ (.head _))
   show eX (n::a7 T)
   cases T with
   |nil=>exact .one hn
   |cons s T=>exact .cons hn (Y fun q=>nomatch q)
  |e j=>
   cases j with
   |zero=>exact .Vt Z
   |succ j=>
    show eX (61::51::68::(bt j++[122]++a7 T))
    rw[br];exact .hex (u0 j Z)
theorem rd:∀(n s:Nat){T:List Tk},j0 T->(a7 T).length<=1000000->(∀s,(a7 (bC 0 s T)).length<=(a7 T).length)->tI n (a7 (bC 0 s T))
 |0,_,_,_,_,_=>trivial
 |n+1,s,T,h,X,Y=>by
  have Z:=h.up 0 s
  refine⟨?_,Z.tx,au (Y s) X,?_⟩
  .obtain⟨m,W,e,hT⟩:=Z.hd;rw[e];exact⟨m,a7 W,rfl,lL (Z.ok _ (e▸.head _)),EJ W hT fun t V=>Z.ok t (e▸.tail _ V)⟩
  .rw [oZ _ Z.ok,up_down];exact rd n (s+1) h X Y
section
set_option tactic.hygienic false
noncomputable def Tk.ne:Tk->Nat
 |.c _=>0
 |.e _=>1
noncomputable def Tk.nq:Tk->Nat
 |.c n=>if n=39 then 1 else 0
 |.e _=>0
noncomputable def lZ(T:List Tk):Nat:=(T.map Tk.ne).sum
noncomputable def mx(T:List Tk):Nat:=(T.map Tk.nq).sum
noncomputable def j1(T:List Tk):Nat:=(a7 T).length
theorem rf:∀j,(bt j).length=2*j
 |0=>rfl
 |j+1=>by show(bt j).length+1+1=_;rw[rf j];exact Nat.succ_add (2*j) 1
theorem f_len(t:Tk):t.f.length=(match t with|.c _=>1|.e j=>2*j+2):=by
 cases t with
 |c n=>rfl
 |e j=>
  show(bt j++[122]).length+1=_
  rw[cJ,rf];rfl
theorem gU(t:Tk)(T:List Tk):lZ (t::T)=t.ne+lZ T:=by simp[lZ]
theorem gV(t:Tk)(T:List Tk):mx (t::T)=t.nq+mx T:=by simp[mx]
theorem fL(t:Tk)(T:List Tk):j1 (t::T)=t.f.length+j1 T:=by simp[j1,cx]
theorem o4(a b:List Tk):lZ (a++b)=lZ a+lZ b:=by simp[lZ]
theorem o5(a b:List Tk):mx (a++b)=mx a+mx b:=by simp[mx]
theorem o6(a b:List Tk):j1 (a++b)=j1 a+j1 b:=by simp[j1,fh]
structure Bd(T:List Tk)(a b c:Nat):Prop where
 l:j1 T<=a
 e:lZ T<=b
 q:mx T<=c
theorem tK(w r:Nat):∀T:List Tk,j1 (bC w r T)<=j1 T+2*w*lZ T/\lZ (bC w r T)=lZ T/\mx (bC w r T)=mx T
 |[]=>⟨b9 _,rfl,rfl⟩
 |t::T=>by
  obtain⟨Y,h2,Z⟩:=tK w r T;show j1 (t.up w r::bC w r T)<=_/\lZ (t.up w r::bC w r T)=_/\mx (t.up w r::bC w r T)=_
  rw[fL,gU,gV,fL,gU,gV,h2,Z,f_len,f_len];cases t with
  |c n=>exact⟨by show 1+_<=1+_+2*w*(0+_);rw[fM];lia,rfl,rfl⟩
  |e j=>
   refine⟨?_,rfl,rfl⟩;show 2*(j+w-r)+2+_<=2*j+2+_+2*w*(1+_)
   rw[Nat.mul_add]
   lia
theorem BX(s:Nat)(T:List Tk):(a7 (bC 0 s T)).length<=(a7 T).length:=by
 have:=(tK 0 s T).1
 show j1 _<=j1 _
 lia
theorem EK:∀T:List Tk,j1 (T.flatMap iy)=j1 T+4*mx T/\lZ (T.flatMap iy)=lZ T/\mx (T.flatMap iy)=3*mx T
 |[]=>⟨rfl,rfl,rfl⟩
 |t::T=>by
  obtain⟨Y,h2,Z⟩:=EK T;rw[fm,o6,o4,o5,Y,h2,Z,fL,gU,gV,f_len];cases t with
  |c n=>
   by_cases h:n=39
   .subst h;refine⟨?_,?_,?_⟩
    .show 5+_=1+_+4*(1+_);lia
    .rfl
    .show 3+_=3*(1+_);lia
   .have e:iy (Tk.c n)=[.c n]:=if_neg h
    have X:(Tk.c n).nq=0:=if_neg h
    rw[e,X];refine⟨?_,rfl,?_⟩
    .show 1+_=1+_+4*(0+_);lia
    .show (if n=39 then 1 else 0)+0+_=3*(0+_);rw[if_neg h];lia
  |e j=>
   refine⟨?_,rfl,?_⟩
   .show j1 [Tk.e j]+_=_
    rw[fL,f_len];show 2*j+2+0+_=2*j+2+_+4*(0+_);lia
   .show 0+_=3*(0+_);lia
theorem EL{T:List Tk}{a b c:Nat}(h:Bd T a b c):Bd (ek T) (a+4*c+2) b (3*c+2):=by
 unfold ek;split
 .exact⟨by have:=h.l;lia,h.e,by have:=h.q;lia⟩
 .obtain⟨Y,h2,Z⟩:=EK T;obtain⟨g1,g2,g3⟩:=h;refine⟨?_,?_,?_⟩
  .rw [fL,o6,Y];show 1+(_+1)<=_;lia
  .rw [gU,o4,h2];show 0+(_+0)<=_;lia
  .rw [gV,o5,Z];show 1+(_+1)<=_;lia
theorem EM{a b c:Nat}:∀Z:List (List Tk),(∀l∈Z,Bd l a b c)->Bd (gT Z) (Z.length*(a+1)) (Z.length*b) (Z.length*c)
 |[],_=>⟨b9 _,b9 _,b9 _⟩
 |[l],h=>by
  obtain⟨g1,g2,g3⟩:=h l (.head _);exact⟨by show j1 l<=1*(a+1);lia,by show lZ l<=1*b;lia,by show mx l<=1*c;lia⟩
 |l::m::rs,h=>by
  obtain⟨g1,g2,g3⟩:=h l (.head _);obtain⟨V,h2,W⟩:=EM (m::rs) fun l Y=>h l (.tail _ Y)
  have e:gT (l::m::rs)=l++.c 32::gT (m::rs):=rfl
  rw[e];have X:(l::m::rs).length=(m::rs).length+1:=rfl
  rw[X,jI,jI,jI];refine⟨?_,?_,?_⟩
  .rw [o6,fL];show _+(1+_)<=_;lia
  .rw [o4,gU];show _+(0+_)<=_;lia
  .rw [o5,gV];show _+(0+_)<=_;lia
theorem Bd.mono{T:List Tk}{a b c X Y Z:Nat}(h:Bd T a b c)(V:a<=X)(h2:b<=Y)(W:c<=Z):Bd T X Y Z:=⟨au h.l V,au h.e h2,au h.q W⟩
theorem yN{T:List Tk}{a b c w r:Nat}(Y:w<=2)(h:Bd T a b c):Bd (bC w r T) (a+4*b) b c:=by
 obtain⟨X,h2,Z⟩:=tK w r T;obtain⟨g1,g2,g3⟩:=h;refine⟨?_,h2▸g2,Z▸g3⟩;have:2*w*lZ T<=4*b:=jH (by lia) g2
 lia
section
variable(Z:Nat->List aK)
noncomputable def TT:Nat->Nat->List Tk
 |0,n=>[.c (97+n),.e 0]
 |d+1,n=>match Z n with
  |[]=>[.c (97+n),.e 0]
  |r::rs=>gT ((r::rs).map fun r=>ek (bC r.w 0 (TT d r.u)))
theorem hH{n:Nat}(h:Z n=[])(d:Nat):TT Z d n=[.c (97+n),.e 0]:=by
 cases d with
 |zero=>rfl
 |succ d=>unfold TT;rw[h]
theorem lN{n:Nat}(h:Z n≠[])(d:Nat):TT Z (d+1) n=gT ((Z n).map fun r=>ek (bC r.w 0 (TT Z d r.u))):=by
 conv=>lhs;unfold TT
 cases e:Z n with
 |nil=>exact absurd e h
 |cons r rs=>rfl
theorem rg{n:Nat}(hn:n<4):j0 [.c (97+n),.e 0]:=by
 have:n=0\/n=1\/n=2\/n=3:=by lia
 refine⟨fun t W=>?_,⟨97+n,_,rfl,by simp⟩,⟨.e 0,rfl,fun a e=>nomatch e⟩⟩
 simp only[List.mem_cons,List.mem_nil_iff,or_false]at W;rcases W with rfl|rfl
 .rcases this with rfl|rfl|rfl|rfl<;>rfl
 .rfl
theorem iz:∀(d n:Nat),n<4->Dp Z d n->j0 (TT Z d n)
 |0,n,hn,_=>rg hn
 |d+1,n,hn,h=>by
  by_cases V:Z n=[]
  .rw [hH Z V];exact rg hn
  .rw [lN Z V];refine j0.jo (fun q=>V (sH.mp q)) fun l U=>?_
   obtain⟨r,W,rfl⟩:=aZ.mp U;obtain⟨T,h2⟩:=h r W;exact((iz d r.u T h2).up _ _).qu
variable(X:∀v,(Z v).length<=7)(Y:∀v,∀r∈Z v,r.w<=2)
theorem lO(n:Nat):Bd [.c (97+n),.e 0] 3 1 1:=by
 refine⟨by show 3<=3;exact dc rfl,by show 1<=1;exact dc rfl,?_⟩
 show(if 97+n=39 then 1 else 0)+0+0<=1
 split<;>exact dc rfl
include X Y in
theorem o7{d n a b c:Nat}(hr:Z n≠[])(h:∀r∈Z n,Bd (TT Z d r.u) a b c):Bd (TT Z (d+1) n) (7*(a+4*b+4*c+3)) (7*b) (7*(3*c+2)):=by
 rw[lN Z hr];have hl:((Z n).map fun r=>ek (bC r.w 0 (TT Z d r.u))).length<=7:=by rw[aB];exact X n
 have:=EM (a:=a+4*b+4*c+2) (b:=b) (c:=3*c+2) ((Z n).map fun r=>ek (bC r.w 0 (TT Z d r.u))) fun l hl=>by
  obtain⟨r,vY,rfl⟩:=aZ.mp hl;exact EL (yN (Y n r vY) (h r vY))
 exact this.mono (jH hl (aM (a+4*b+4*c+2+1))) (jH hl (aM _)) (jH hl (aM _))
include X Y in
theorem yO(n:Nat):Bd (TT Z 0 n) 3 1 1:=lO n
include X Y in
theorem yP(n:Nat):Bd (TT Z 1 n) 98 7 35:=by
 by_cases hr:Z n=[]
 .rw [hH Z hr];exact(lO n).mono (by decide) (by decide) (by decide)
 .exact o7 Z X Y hr fun r _=>yO Z X Y r.u
include X Y in
theorem sh(n:Nat):Bd (TT Z 2 n) 1883 49 749:=by
 by_cases hr:Z n=[]
 .rw [hH Z hr];exact(lO n).mono (by decide) (by decide) (by decide)
 .exact(o7 Z X Y hr fun r _=>yP Z X Y r.u).mono (by decide) (by decide) (by decide)
include X Y in
theorem yQ(n:Nat):Bd (TT Z 3 n) 36000 343 20000:=by
 by_cases hr:Z n=[]
 .rw [hH Z hr];exact(lO n).mono (by decide) (by decide) (by decide)
 .exact(o7 Z X Y hr fun r _=>sh Z X Y r.u).mono (by decide) (by decide) (by decide)
theorem u1(l r w:Nat)(T:List Tk):bC l r (bC w 0 T)=bC (w+l) r T:=EI l r w T trivial
theorem u2:∀(d n:Nat)(z:Int),gu Z d n z≠[]
 |0,_,_=>fun h=>nomatch h
 |d+1,n,z=>by
  by_cases W:Z n=[]
  .rw [fI W];exact fun h=>nomatch h
  .rw [fJ W];cases e:Z n with
   |nil=>exact absurd e W
   |cons r rs=>
    rw[fm];exact fun h=>u2 d r.u _ (List.append_eq_nil_iff.mp h).1
include X in
theorem ri:∀(d n:Nat)(z:Int),(gu Z d n z).length<=7^d
 |0,_,_=>aM _
 |d+1,n,z=>by
  by_cases hr:Z n=[]
  .rw [fI hr];exact iC (Nat.pow_pos (by decide))
  .rw [fJ hr];have:∀l:List aK,(l.flatMap fun r=>gu Z d r.u (z+r.w)).length<=l.length*7^d:=fun l=>by
    induction l with
    |nil=>exact b9 _
    |cons r l ih=>
     have:=ri d r.u (z+r.w)
     rw[fm,cJ,cX,jI];lia
   refine au (this _) ?_;rw[Nat.pow_succ,Nat.mul_comm (7^d)];exact Nat.mul_le_mul_right _ (X n)
include Y in
theorem yR:∀(d n:Nat)(z:Int),n<4->Dp Z d n->∀q∈gu Z d n z,q.1<4/\q.2<=z+2*d
 |0,n,z,hn,_,q,hq=>by rcases bQ.mp hq with rfl;exact⟨hn,by show z<=_;exact Int.le.intro (2*0) rfl⟩
 |d+1,n,z,hn,h,q,hq=>by
  by_cases hr:Z n=[]
  .rw [fI hr]at hq;rcases bQ.mp hq with rfl;exact⟨hn,by show z<=_;exact Int.le.intro (2*(d+1)) rfl⟩
  .rw [fJ hr]at hq;obtain⟨r,vY,hq⟩:=List.mem_flatMap.mp hq;obtain⟨h1,h2⟩:=h r vY;have h3:=Y n r vY
   obtain⟨g1,g2⟩:=yR d r.u _ h1 h2 q hq;exact⟨g1,by lia⟩
include X Y in
theorem Io(d n:Nat)(hd:d<=3):Bd (TT Z d n) 36000 343 20000:=by
 have:d=0\/d=1\/d=2\/d=3:=by lia
 rcases this with rfl|rfl|rfl|rfl
 .exact(yO Z X Y n).mono (by decide) (by decide) (by decide)
 .exact(yP Z X Y n).mono (by decide) (by decide) (by decide)
 .exact(sh Z X Y n).mono (by decide) (by decide) (by decide)
 .exact yQ Z X Y n
theorem u3(r n l:Nat):[(n,(l:Int))].map (lJ r)=[a7 (bC l r [.c (97+n),.e 0])]:=by
 show[lJ r (n,(l:Int))]=[(97+n)::(61::(bt (0+l-r)++[122])++[])]
 unfold lJ m4;rw[bY];have:((l:Int)-(r:Int)).toNat=0+l-r:=by lia
 rw[this]
include X Y in
theorem yS(r:Nat):∀(d n l:Nat),d<=3->n<4->Dp Z d n->l+2*d<=6->Rd Z d n (a7 (bC l r (TT Z d n))) ((gu Z d n l).map (lJ r))
 |0,n,l,_,hn,h,hl=>⟨h,u3 r n l⟩
 |d+1,n,l,hd,hn,h,hl=>by
  by_cases hr:Z n=[]
  .left;refine⟨hr,?_⟩;rw[fI hr,hH Z hr];exact u3 r n l
  .right;have iR:=(iz Z (d+1) n hn h).up l r
   obtain⟨m,T',eT,YA⟩:=iR.hd;have e1:bC l r (TT Z (d+1) n)=gT (((Z n).map fun q=>bC (q.w+l) r (TT Z d q.u)).map ek):=by
    rw[lN Z hr,yL,dY,dY]
    congr 1
    refine jA fun q _=>?_
    show bC l r (ek (bC q.w 0 (TT Z d q.u)))=ek (bC (q.w+l) r (TT Z d q.u))
    rw[Il,u1]
   have pN:∀l'∈(Z n).map fun q=>bC (q.w+l) r (TT Z d q.u),j0 l':=fun l' Rc=>by
    obtain⟨q,hq,rfl⟩:=aZ.mp Rc;exact(iz Z d q.u (h q hq).1 (h q hq).2).up _ _
   have hle:=uZ ⟨⟨a7 (bC l r (TT Z (d+1) n))⟩⟩ ((Z n).map fun q=>bC (q.w+l) r (TT Z d q.u)) (fun q=>hr (sH.mp q)) pN [] (by rw[←e1];rfl)
   rw[dY]at hle;refine⟨hr,X n,m,a7 T',(Z n).map (a7∘fun q=>bC (q.w+l) r (TT Z d q.u)),(Z n).map (fun q=>(gu Z d q.u (l+q.w:Nat)).map (lJ r)),by rw[eT];rfl,?_,?_,hle,aB _,by rw[aB,aB],?_,?_⟩
   .exact kH.mpr (oq YA)
   .have h1:=(tK l r (TT Z (d+1) n)).1
    have h2:=Io Z X Y (d+1) n hd
    have h3:j1 (bC l r (TT Z (d+1) n))=(a7 T').length+1:=by rw[eT];rfl
    have h4:2*l*lZ (TT Z (d+1) n)<=12*343:=jH (by lia) h2.e
    have:=h2.l
    lia
   .intro i q wd ot hi JX GU;have hq:=List.mem_of_getElem? hi
    rw[List.getElem?_map,hi]at JX GU;cases JX;cases GU;have YS:=Y n q hq
    refine⟨(h q hq).1,?_⟩;have:=yS r d q.u (l+q.w) (jB hd) (h q hq).1 (h q hq).2 (by lia)
    show Rd Z d q.u (a7 (bC (q.w+l) r (TT Z d q.u))) _
    rw[Nat.add_comm q.w l];exact this
   .rw [fJ hr,List.map_flatMap,List.flatMap_def]
    congr 1
end
end
section
set_option tactic.hygienic false
structure wA(P:Nat->List (Nat×Nat))(m:Nat):Prop where
 at_:∀v,∀p∈P v,p.1<4/\p.2<=2
 z:∀v,4<=v->P v=[]
 n:(P 0).length+(P 1).length+(P 2).length+(P 3).length<=m
theorem wA.step{P:Nat->List (Nat×Nat)}{m:Nat}(h:wA P m)(x:Int):wA (d3 P x) (m+1):=by
 unfold d3;split
 .exact⟨h.at_,h.z,by have:=h.n;exact kZ this⟩
 .have hA:pA x<4:=by unfold pA;split;exact n6 x;exact n7 x
  have Y:pU x<4:=by unfold pU;split;exact n7 x;exact n6 x
  refine⟨fun v p hp=>?_,fun v Z=>?_,?_⟩
  .have hp:p∈(if v=pA x then P v++[(pU x,lY x)]else P v):=hp
   split at hp
   .rcases bJ.mp hp with hp|hp
    .exact h.at_ v p hp
    .rcases bQ.mp hp with rfl
     exact⟨Y,by have:=Hx x;show lY x<=2;exact cY this⟩
   .exact h.at_ v p hp
  .show (if v=pA x then P v++[(pU x,lY x)]else P v)=[]
   rw[if_neg (by lia),h.z v Z]
  .have e:∀v,(if v=pA x then P v++[(pU x,lY x)]else P v).length=(P v).length+if v=pA x then 1 else 0:=fun v=>by split<;>simp
   show(if 0=pA x then _ else _:List (Nat×Nat)).length+(if 1=pA x then _ else _:List (Nat×Nat)).length+(if 2=pA x then _ else _:List (Nat×Nat)).length+(if 3=pA x then _ else _:List (Nat×Nat)).length<=_
   rw[e,e,e,e];have:=h.n
   have:(if 0=pA x then 1 else 0)+(if 1=pA x then 1 else 0)+(if 2=pA x then 1 else 0)+(if 3=pA x then 1 else 0)<=1:=by
    have:pA x=0\/pA x=1\/pA x=2\/pA x=3:=by lia
    rcases this with h|h|h|h<;>rw[h]<;>decide
   lia
theorem wA.fold:∀(l:List Int){P:Nat->List (Nat×Nat)}{m:Nat},wA P m->wA (l.foldl d3 P) (m+l.length)
 |[],_,_,h=>h
 |x::l,P,m,h=>by
  have:=wA.fold l (h.step x)
  rw[pf,cX,show m+(l.length+1)=m+1+l.length by exact Eq.symm (pa m l.length)]
  exact this
theorem QE(xs:List Int):wA (fg xs) 7:=by
 have Z:∀v,∀p∈ed v,p.1<4/\p.2<=2:=fun v p hp=>by
  unfold ed at hp;split at hp
  .simp only[List.mem_cons,List.mem_nil_iff,or_false]at hp;rcases hp with rfl|rfl<;>decide
  .cases hp
 have h0:wA ed 2:=⟨Z,fun v X=>if_neg (Nat.ne_of_lt' X),by decide⟩
 have Y:=h0.fold (xs.take 5)
 have h2:(xs.take 5).length<=5:=by rw[List.length_take];exact Nat.min_le_left 5 xs.length
 exact⟨Y.at_,Y.z,by have:=Y.n;unfold fg;lia⟩
section
variable{Z:Nat->ZN}
theorem zv(k m v:Nat)(h:cI Z k v=false):cI Z (k+m) v=false:=by
 induction m with
 |zero=>exact h
 |succ m Y=>
  cases e:cI Z (k+(m+1)) v with
  |false=>rfl
  |true=>rw[oU Z (k+m) v e]at Y;cases Y
theorem p1{k m v:Nat}(Y:k<=m)(h:cI Z k v=false):cI Z m v=false:=by
 have:=zv k (m-k) v h
 rwa [show k+(m-k)=m by exact pb Y]at this
theorem dT{k v:Nat}:cI Z (k+1) v=true↔∃u∈Z v,cI Z k u=true:=kL
theorem kj{k v:Nat}:cI Z (k+1) v=false↔∀u∈Z v,cI Z k u=false:=by
 show(Z v).any (cI Z k)=false↔_
 rw[sk];exact forall_congr' fun u=>forall_congr' fun a=>by simp
theorem kf.cl{Y:Nat}{D:ZN}(h:kf Z Y D)(V:∀v,∀u∈Z v,u<4):∀v∈D,∀u∈Z v,u∈D:=fun v W u X=>by
 obtain⟨U,h2⟩:=(h v).mp W;cases Y with
 |zero=>cases h2
 |succ k=>exact(h u).mpr ⟨V v u X,p1 (iA k) (kj.mp h2 u X)⟩
theorem BY(Y:Nat->Nat)(X:∀v,∀u∈Z v,u<4)(h:∀v,∀u∈Z v,Y v<Y u){v:Nat}(T:v<4):cI Z 4 v=false:=by
 cases e:cI Z 4 v with
 |false=>rfl
 |true=>
  exfalso;obtain⟨a,U,e⟩:=dT.mp e;obtain⟨b,V,e⟩:=dT.mp e;obtain⟨c,W,e⟩:=dT.mp e;obtain⟨d,hd,e⟩:=dT.mp e;have Q:=h _ _ U;have h2:=h _ _ V;have R:=h _ _ W;have S:=h _ _ hd
  have hn:[v,a,b,c,d].Nodup:=by
   have ne:∀{x y:Nat},Y x<Y y->x≠y:=fun h e=>by rw[e]at h;lia
   simp only[List.nodup_cons,List.mem_cons,List.mem_nil_iff,or_false,not_or,List.nodup_nil,and_true,not_false_eq_true];exact⟨⟨ne Q,ne (Nat.lt_trans (h v a U) (h a b V)),ne (by lia),ne (by lia)⟩,⟨ne h2,ne (Nat.lt_trans (h a b V) (h b c W)),ne (by lia)⟩,⟨ne R,ne (Nat.lt_trans (h b c W) (h c d hd))⟩,ne S⟩
  have:=jv hn (by
   intro x hx;simp only[List.mem_cons,List.mem_nil_iff,or_false]at hx;rcases hx with rfl|rfl|rfl|rfl|rfl
   .exact T
   .exact X _ _ U
   .exact X _ _ V
   .exact X _ _ W
   .exact X _ _ hd)
  simp at this
theorem u4{S:ZN}(h0:S≠[])(h:∀u∈S,∃v∈S,u∈Z v):∀k,∃v∈S,cI Z k v=true
 |0=>by
  cases S with
  |nil=>exact absurd rfl h0
  |cons a S=>exact⟨a,.head _,rfl⟩
 |k+1=>by
  obtain⟨u,X,e⟩:=u4 h0 h k;obtain⟨v,Y,hm⟩:=h u X;exact⟨v,Y,dT.mpr ⟨u,hm,e⟩⟩
theorem rj{X:Nat}(h:∀j,j<X->bS Z j≠[]):X<=4:=by
 rcases mM 4 X with Y|Y
 .exfalso;have hx:∀j,j<X->∃v,v<4/\cI Z j v=true/\cI Z (j+1) v=false:=fun j P=>by
   obtain⟨v,Q⟩:=List.exists_mem_of_ne_nil _ (h j P);exact⟨v,(gN Z j v).mp Q⟩
  have ne:∀{i j x y:Nat},i<j->cI Z (i+1) x=false->cI Z j y=true->x≠y:=fun V O h2 e=>by
   subst e;rw[p1 (iC V) O]at h2;cases h2
  obtain⟨a,H,a1,a2⟩:=hx 0 (Nat.zero_lt_of_lt Y);obtain⟨b,I,M,T⟩:=hx 1 (Nat.lt_of_add_left_lt Y);obtain⟨c,J,R,S⟩:=hx 2 (Nat.lt_of_add_left_lt Y);obtain⟨d,d4,U,N⟩:=hx 3 (Nat.lt_of_add_left_lt Y);obtain⟨e,L,W,K⟩:=hx 4 (Nat.lt_of_succ_le Y);have hn:[a,b,c,d,e].Nodup:=by
   simp only[List.nodup_cons,List.mem_cons,List.mem_nil_iff,or_false,not_or,List.nodup_nil,and_true,not_false_eq_true];exact⟨⟨ne (Nat.one_pos) a2 M,ne (Nat.zero_lt_two) a2 R,ne (mP 2) a2 U,ne (mP 3) a2 W⟩,⟨ne (Nat.one_lt_two) T R,ne (sI 1) T U,ne (sI 2) T W⟩,⟨ne (mS 2) S U,ne (sC rfl) S W⟩,ne (mS 3) N W⟩
  have:=jv hn (by
   intro x hx;simp only[List.mem_cons,List.mem_nil_iff,or_false]at hx;rcases hx with rfl|rfl|rfl|rfl|rfl<;>assumption)
  simp at this
 .exact Y
end
section
variable(Z:Nat->List aK)(Y:∀v,∀u∈ax Z v,u<4)
theorem rm(v u:Nat):eE Z v u=true↔v∈ax Z u:=by unfold eE ax;rw[kL,aZ];exact exists_congr fun r=>and_congr_right fun a=>by simp
include Y in
theorem u5(top:Nat):∀(j m:Nat),cI (ax Z) (j+m) top=true↔∃u∈hG Z top j,cI (ax Z) m u=true
 |0,m=>by
  rw[fM];exact⟨fun h=>⟨top,.head _,h⟩,fun⟨u,Y,h⟩=>by rcases bQ.mp Y with rfl;exact h⟩
 |j+1,m=>by
  rw[show j+1+m=j+(m+1) by exact pa j m,u5 top j (m+1)]
  constructor
  .rintro ⟨u,h1,h2⟩
   obtain⟨v,hv,h3⟩:=dT.mp h2;refine⟨v,iE.mpr ⟨fj.mpr (Y u v hv),kL.mpr ⟨u,h1,(rm Z v u).mpr hv⟩⟩,h3⟩
  .rintro ⟨v,h1,h3⟩
   obtain⟨_,h1⟩:=iE.mp h1;obtain⟨u,h1,h2⟩:=kL.mp h1;exact⟨u,h1,dT.mpr ⟨v,(rm Z v u).mp h2,h3⟩⟩
include Y in
theorem rn(top j:Nat):hG Z top j=[]↔cI (ax Z) j top=false:=by
 have h:=u5 Z Y top j 0
 rw[Nat.add_zero]at h;constructor
 .intro e;cases q:cI (ax Z) j top with
  |false=>rfl
  |true=>
   obtain⟨u,Y,_⟩:=h.mp q;rw[e]at Y;cases Y
 .intro e;cases q:hG Z top j with
  |nil=>rfl
  |cons u l=>
   have:=h.mpr ⟨u,by rw[q];exact .head _,rfl⟩
   rw[e]at this;cases this
include Y in
theorem o8(top:Nat):∀(j k:Nat),k<=j->(bU Z top j=k↔cI (ax Z) k top=true/\(k<j->cI (ax Z) (k+1) top=false))
 |0,k,hk=>by
  obtain rfl:k=0:=by exact Nat.eq_zero_of_le_zero hk
  exact⟨fun _=>⟨rfl,fun h=>absurd h (p6 _)⟩,fun _=>rfl⟩
 |j+1,k,hk=>by
  have e:bU Z top (j+1)=if hG Z top (j+1)=[]then bU Z top j else j+1:=rfl
  rw[e];cases q:cI (ax Z) (j+1) top with
  |false=>
   rw[if_pos ((rn Z Y top (j+1)).mpr q)]
   by_cases YB:k<=j
   .rw [o8 top j k YB];refine and_congr_right fun h1=>⟨fun h2 _=>?_,fun h2 h3=>h2 (Nat.lt_add_right 1 h3)⟩
    by_cases Kk:k<j
    .exact h2 Kk
    .obtain rfl:k=j:=by lia
     exact q
   .obtain rfl:k=j+1:=by lia
    constructor
    .intro h;exfalso;have:∀j,bU Z top j<=j:=fun j=>by
      induction j with
      |zero=>exact aM _
      |succ j ih=>
       show(if hG Z top (j+1)=[]then bU Z top j else j+1)<=j+1
       split<;>lia
     have:=this j
     lia
    .intro h;rw[q]at h;cases h.1
  |true=>
   rw[if_neg (fun h=>by rw[(rn Z Y top (j+1)).mp h]at q;cases q)]
   constructor
   .rintro rfl;exact⟨q,fun h=>absurd h (p6 _)⟩
   .rintro ⟨h1,h2⟩
    by_cases Kk:k<j+1
    .have:=h2 Kk
     rw[p1 (iC Kk) this]at q;cases q
    .lia
include Y in
theorem QF(v:Nat):(bU Z v 4==4)=cI (ax Z) 4 v:=by rw[Bool.eq_iff_iff,beq_iff_eq,o8 Z Y v 4 4 (aM _)];exact⟨fun h=>h.1,fun h=>⟨h,fun h=>absurd h (p6 _)⟩⟩
include Y in
theorem zw{k:Nat}(hk:k<4):iN (fun v=>bU Z v 4) k=bS (ax Z) k:=by
 unfold iN bS;refine List.filter_congr fun v _=>?_
 rw[Bool.eq_iff_iff,beq_iff_eq,o8 Z Y v 4 k (jB hk)];simp only[Bool.and_eq_true,Bool.not_eq_true'];exact and_congr_right fun _=>⟨fun h=>h hk,fun h _=>h⟩
include Y in
theorem xj:∀(d n:Nat),cI (ax Z) (d+1) n=false->Dp Z d n
 |0,n,h=>by
  have:=kj.mp h
  show Z n=[]
  cases e:Z n with
  |nil=>rfl
  |cons r rs=>
   have:=this r.u (by unfold ax;rw[e];exact .head _)
   cases this
 |d+1,n,h=>fun r hr=>by
  have hm:r.u∈ax Z n:=b7 hr
  exact⟨Y n r.u hm,xj d r.u (kj.mp h r.u hm)⟩
end
end
section
set_option tactic.hygienic false
section
variable(Z:Nat->List aK)(Y:∀v,∀u∈ax Z v,u<4)(W:∀v,(Z v).length<=7)(X:∀v,∀r∈Z v,r.w<=2)
include Y in
theorem xk{D:ZN}{tx:Nat->ZN}(h4:∀v∈D,v<4)(DS:∀v∈D,∀u∈ax Z v,u∈D)(iR:∀v∈D,tx v=ie Z tx v):∀(d v:Nat),v∈D->Dp Z d v->tx v=a7 (TT Z d v)
 |0,v,hv,h=>by
  have h:Z v=[]:=h
  rw[iR v hv];unfold ie;rw[h];rfl
 |d+1,v,hv,h=>by
  rw[iR v hv]
  by_cases hr:Z v=[]
  .rw [hH Z hr];unfold ie;rw[hr];rfl
  .have e1:ie Z tx v=j9 ((c3 (Z v) tx).map ct):=by
    unfold ie;cases e:Z v with
    |nil=>exact absurd e hr
    |cons r rs=>rfl
   rw[e1,lN Z hr,←yK]
   congr 1
   unfold c3;rw[dY,dY];refine jA fun r vY=>?_
   obtain⟨g1,g2⟩:=h r vY;have hm:r.u∈ax Z v:=b7 vY
   have ht:=iz Z d r.u g1 g2
   show ct (mC r.w (tx r.u))=a7 (ek (bC r.w 0 (TT Z d r.u)))
   rw[xk h4 DS iR d r.u (DS v hv r.u hm) g2,o3 _ _ ht.ok,oi (pX ht.ok)]
theorem yT(c:Nat):∀l:ZN,(∀x∈l,x<=c)->l.sum<=l.length*c
 |[],_=>by simp
 |x::l,h=>by
  have:=yT c l fun x hx=>h x (.tail _ hx)
  have:=h x (.head _)
  rw[List.sum_cons,cX,jI];lia
include Y W X in
theorem QG(kk:Nat)(D:ZN)(tx:Nat->ZN)(hk:kk<=3)(hD:kf (ax Z) kk D)(iR:∀v∈D,tx v=ie Z tx v)(DS:∀v∈D,∀u∈ax Z v,u∈D)(n:Nat)(hn:∀u∈ax Z n,u∈D):v8 Z tx D n:=by
 have key:∀r∈Z n,r.u∈D/\r.u<4/\Dp Z 2 r.u/\tx r.u=a7 (TT Z 2 r.u):=fun r hr=>by
  have hm:=hn r.u (b7 hr)
  obtain⟨g1,g2⟩:=(hD r.u).mp hm;have g3:=xj Z Y 2 r.u (p1 hk g2)
  exact⟨hm,g1,g3,xk Z Y (fun v hv=>((hD v).mp hv).1) DS iR 2 r.u hm g3⟩
 have ub:∀(w:Nat)(u:Nat),w<=2->(a7 (bC w 0 (TT Z 2 u))).length<=2079/\mx (bC w 0 (TT Z 2 u))<=749:=fun w u YC=>by
  have:=yN (r:=0) YC (sh Z W X u)
  exact⟨this.l,this.q⟩
 refine⟨fun r hr=>?_,W n,fun jd=>?_⟩
 .obtain⟨g1,g2,g3,g4⟩:=key r hr;have ht:=iz Z 2 r.u g2 g3
  have e1:aV (tx r.u)=a7 (bC 1 0 (TT Z 2 r.u)):=by rw[g4,lM _ ht.ok]
  have e2:aV (aV (tx r.u))=a7 (bC 2 0 (TT Z 2 r.u)):=by rw[e1,lM _ (pX ht.ok),u1]
  refine⟨g1,X n r hr,fun _=>⟨by rw[g4];exact ht.tx,?_⟩,fun _=>⟨by rw[e1];exact(ht.up 1 0).tx,?_⟩⟩
  .rw [e1];have:=(ub 1 r.u (by decide)).1;lia
  .rw [e2];have:=(ub 2 r.u (by decide)).1;lia
 .have el:(c3 (Z n) tx).length=(Z n).length:=by unfold c3;rw[aB]
  have hx:∀x∈c3 (Z n) tx,∃r∈Z n,j0 (bC r.w 0 (TT Z 2 r.u))/\x=a7 (bC r.w 0 (TT Z 2 r.u)):=fun x hx=>by
   obtain⟨r,hr,rfl⟩:=aZ.mp hx;obtain⟨g1,g2,g3,g4⟩:=key r hr;have ht:=iz Z 2 r.u g2 g3
   exact⟨r,hr,ht.up _ _,by show mC r.w (tx r.u)=_;rw[g4,o3 _ _ ht.ok]⟩
  refine⟨fun q=>jd (sH.mp q),by rw[el];exact W n,fun x R6=>?_,?_⟩
  .obtain⟨r,hr,ht,rfl⟩:=hx x R6;exact⟨ht.tx.ne,by have:=(ub r.w r.u (X n r hr)).1;lia⟩
  .refine au (yT 6000 _ fun y hy=>?_) ?_
   .obtain⟨z,hz,rfl⟩:=aZ.mp hy;obtain⟨x,R6,rfl⟩:=aZ.mp hz;obtain⟨r,hr,ht,rfl⟩:=hx x R6;rw[oi ht.ok];have:=ub r.w r.u (X n r hr)
    have:=(EL (T:=bC r.w 0 (TT Z 2 r.u)) ⟨aM _,aM _,aM _⟩).l
    have e:j1 (ek (bC r.w 0 (TT Z 2 r.u)))=(a7 (ek (bC r.w 0 (TT Z 2 r.u)))).length:=rfl
    have e2:j1 (bC r.w 0 (TT Z 2 r.u))=(a7 (bC r.w 0 (TT Z 2 r.u))).length:=rfl
    lia
   .rw [aB,aB,el];have:=W n
    lia
include Y in
theorem Ip(kk:Nat)(D:ZN)(hD:kf (ax Z) kk D)(QH:∀v,v<4->v∉D->cI (ax Z) (kk+1) v=true)(jd:∀j,j<kk->bS (ax Z) j≠[]):(List.range kk).map (fun j=>bw (bS (ax Z) j))=(((List.range 4).map (iN fun v=>bU Z v 4)).filter fun l=>l.length !=0).map bw:=by
 have hk:=rj jd
 have YD:∀m v,v<4->cI (ax Z) (kk+m) v=true->cI (ax Z) (kk+m+1) v=true:=fun m=>by
  induction m with
  |zero=>
   intro v hv h;refine QH v hv fun hm=>?_
   have:=((hD v).mp hm).2
   rw[show kk+0=kk from rfl,this]at h;cases h
  |succ m ih=>
   intro v hv h;obtain⟨u,hm,h⟩:=dT.mp h;exact dT.mpr ⟨u,hm,ih u (Y v u hm) h⟩
 have lP:∀j,kk<=j->bS (ax Z) j=[]:=fun j hj=>by
  cases e:bS (ax Z) j with
  |nil=>rfl
  |cons v l=>
   exfalso;have hm:v∈bS (ax Z) j:=by rw[e];exact .head _
   obtain⟨g1,g2,g3⟩:=(gN _ _ _).mp hm;have:=YD (j-kk) v g1 (by rw[show kk+(j-kk)=j by exact pb hj];exact g2)
   rw[show kk+(j-kk)=j by exact pb hj,g3]at this;cases this
 have e4:(List.range 4).map (iN fun v=>bU Z v 4)=(List.range 4).map (bS (ax Z)):=jA fun k hk=>zw Z Y (fj.mp hk)
 rw[e4];have hp:∀{l:ZN},l≠[]->(l.length !=0)=true:=fun{l} h=>by
  cases l with
  |nil=>exact absurd rfl h
  |cons a l=>rfl
 have key:((List.range 4).map (bS (ax Z))).filter (fun l=>l.length !=0)=(List.range kk).map (bS (ax Z)):=by
  have e:List.range 4=[0,1,2,3]:=rfl
  rw[e];have hc:kk=0\/kk=1\/kk=2\/kk=3\/kk=4:=by lia
  simp only[List.map_cons,List.map_nil];rcases hc with rfl|rfl|rfl|rfl|rfl
  .rw [lP 0 (b9 0),lP 1 (b9 1),lP 2 (b9 2),lP 3 (b9 3)];rfl
  .rw [lP 1 (dc rfl),lP 2 (dc rfl),lP 3 (dc rfl),gd (by exact hp (jd 0 (Nat.one_pos)))];rfl
  .rw [lP 2 (dc rfl),lP 3 (dc rfl),gd (by exact hp (jd 0 (Nat.zero_lt_two))),gd (by exact hp (jd 1 (Nat.one_lt_two)))];rfl
  .rw [lP 3 (dc rfl),gd (by exact hp (jd 0 (mP 2))),gd (by exact hp (jd 1 (sI 1))),gd (by exact hp (jd 2 (mS 2)))];rfl
  .rw [gd (by exact hp (jd 0 (mP 3))),gd (by exact hp (jd 1 (sI 2))),gd (by exact hp (jd 2 (sC rfl))),gd (by exact hp (jd 3 (mS 3)))];rfl
 rw[key,dY];rfl
include Y W X in
theorem Iq(r:Nat)(hr:r<=2)(kk:Nat)(D:ZN)(tx:Nat->ZN)(hD:kf (ax Z) (kk+1) D)(jd:∀j,j<kk+1->bS (ax Z) j≠[])(iR:∀v∈D,tx v=ie Z tx v)(u:Nat)(hl:(bS (ax Z) kk).getLast?=some u):u∈D/\tJ Z r u (tx u):=by
 have hk:=rj jd
 obtain⟨g1,g2,g3⟩:=(gN _ _ _).mp (List.mem_of_getLast? hl);have hm:u∈D:=(hD u).mpr ⟨g1,g3⟩
 have hd:=xj Z Y 3 u (p1 hk g3)
 have ht:=xk Z Y (fun v hv=>((hD v).mp hv).1) (hD.cl Y) iR 3 u hm hd
 have iR:=iz Z 3 u g1 hd
 have hb:=yQ Z W X u
 have hlen:(a7 (TT Z 3 u)).length<=36000:=hb.l
 refine⟨hm,g1,?_,hd,u2 Z 3 u 0,fun q hq=>?_,au (ri Z W 3 u 0) (by decide),?_⟩
 .rw [ht];have:=rd r 0 iR (by lia) (fun s=>BX s _)
  rw[o2]at this;exact this
 .obtain⟨q1,q2⟩:=yR Z X 3 u 0 g1 hd q hq;exact⟨q1,by lia⟩
 .have h1:=yS Z W X r 3 u 0 (aM _) g1 hd (dc rfl)
  have h2:=uW r 0 (TT Z 3 u) iR.ok
  rw[o2,fM]at h2;rw[ht,h2];exact h1
end
theorem wB(xs:List Int)(n:Nat)(Z:Nat->List aK)(h:∀v,(Z v).map iM=fg xs v):R4 Z (n%3):=by
 have I:=QE xs
 have X:∀v,∀r∈Z v,r.u<4/\r.w<=2:=fun v r W=>I.at_ v (iM r) (by rw[←h v];exact b7 W)
 have hlen:∀v,(Z v).length=(fg xs v).length:=fun v=>by rw[←h v,aB]
 have R:∀v,(Z v).length<=7:=fun v=>by rw[hlen];exact t7 xs v
 have Q:∀v,∀r∈Z v,r.w<=2:=fun v r W=>(X v r W).2
 have Y:∀v,∀u∈ax Z v,u<4:=fun v u Y=>by
  obtain⟨r,W,rfl⟩:=aZ.mp Y;exact(X v r W).1
 have h0:∀v,4<=v->Z v=[]:=fun v U=>by
  have:=hlen v
  rw[I.z v U]at this;exact jF this
 have V:∀v,(ax Z v).length=(fg xs v).length:=fun v=>by unfold ax;rw[aB,hlen]
 have O:((List.range 4).any fun v=>bU Z v 4==4)=(List.range 4).any fun v=>cI (ax Z) 4 v:=by
  congr 1;funext v;exact QF Z Y v
 refine⟨R,Y,h0,by rw[V,V,V,V];exact I.n,QG Z Y R Q,fun⟨N,T⟩=>?_,fun⟨S,hS,M⟩=>?_,Ip Z Y,Iq Z Y R Q (n%3) (by lia)⟩
 .rw [O,sk];intro v U;rw[BY N Y T (fj.mp U)];decide
 .rw [O,kL];obtain⟨v,U,P⟩:=u4 hS M 4;refine⟨v,fj.mpr ?_,P⟩;rcases mM v 4 with q|q
  .exact q
  .exfalso;obtain⟨u,X,_⟩:=dT.mp P;have:=h0 v q
   unfold ax at X;rw[this]at X;cases X
end
end
section
open PySem.F PySem.Calls PySem.Spec PyProof.Rows
set_option tactic.hygienic true
noncomputable def p2(vs:ZY):ZE:=do
 match←nsGet mainNs (PySem.Str.ofString "law")with
 |some f=>do ret (←PySem.call f vs)
 |none=>unsupported "claim.caller:no-such-global"
noncomputable def R7:ZE->Obj->ZE
 |.load _ _ k=>k
 |_=>fun a=>.raise .none
noncomputable def u6:ZE->Option ZV×Bool×ZY×(Result->ZE)
 |.call _ h g l k=>(h,g,l,k)
 |_=>(none,false,[],fun a=>.raise .none)
noncomputable def Ir:ZE:=p2 [.ref 962]
def p3(w:ZW):ZE:=R7 Ir (Ab w.params)
theorem It:Ir=.load 3 (some (.str (PySem.Str.ofString "law") 0)) (R7 Ir):=by kernel_rfl
theorem Iu(w:ZW):p3 w=.call (.call (.ref 961) ⟨[.ref 962],[]⟩) (u6 (p3 w)).1 (u6 (p3 w)).2.1 (u6 (p3 w)).2.2.1 (u6 (p3 w)).2.2.2:=by kernel_rfl
theorem Iv(w:ZW):(u6 (p3 w)).2.2.2 (.ok (.ret (.bool true)))=.pure (.done (.ret (.bool true))):=by kernel_rfl
def z6(w:ZW):aS:=⟨(u6 (p3 w)).2.2.2,(u6 (p3 w)).1,(u6 (p3 w)).2.1,(u6 (p3 w)).2.2.1,.builtin "claim.caller" ⟨[],[]⟩,⟨0,0,0,0⟩,[],[]⟩
theorem BZ(w:ZW):Bt (ee w) none (z6 w):=⟨rfl,by kernel_rfl⟩
theorem ua{w:ZW}{s:ZS}{R:ZR}(P:s.heap.get? 3=some (Ab w.params))(h:a8 pg w (z6 w) s (.call (.ref 961) ⟨[.ref 962],[]⟩) ⟨0,0,0,0⟩ (denote table (.call (.ref 961) ⟨[.ref 962],[]⟩)) [] R)(Q:∀r Z,R r Z->r=.ok (.ret (.bool true))/\AllBare Z.gens):∃n Z,runNI (denote table) pg w n s ⟨p2 [.ref 962],.builtin "claim.caller" {},default,[]⟩=.halted (outcomeOf (.ok (.ret (.bool true)))) Z/\R (.ok (.ret (.bool true))) Z:=by
 obtain⟨r,Z,K,L,W,h⟩:=h;obtain⟨rfl,T⟩:=Q r Z W;have M:stepI (denote table) pg w s ⟨p2 [.ref 962],.builtin "claim.caller" {},default,[]⟩=.go s ⟨p3 w,.builtin "claim.caller" {},default,[]⟩:=by
  show stepI (denote table) pg w s ⟨Ir,.builtin "claim.caller" {},default,[]⟩=_
  rw[It];show(match s.heap.get? 3 with|some o=>Step.go s ⟨R7 Ir o,.builtin "claim.caller" {},default,[]⟩|none=>_)=_
  rw[P];rfl
 have N:stepI (denote table) pg w s ⟨p3 w,.builtin "claim.caller" {},default,[]⟩=.go s ⟨denote table (.call (.ref 961) ⟨[.ref 962],[]⟩),.call (.ref 961) ⟨[.ref 962],[]⟩,default,(z6 w).st⟩:=by
  rw[Iu];rfl
 have U:ma pg w s ⟨p2 [.ref 962],.builtin "claim.caller" {},default,[]⟩ Z ⟨.pure (.done (.ret (.bool true))),.builtin "claim.caller" {},default,[]⟩:=by
  refine .step M (.step N (.trans h (.step l1 ?_)));show ma pg w Z ⟨(u6 (p3 w)).2.2.2 (.ok (.ret (.bool true))),.builtin "claim.caller" {},default,[]⟩ Z _
  rw[Iv];exact .refl _ _
 obtain⟨n,hn⟩:=U;have O:stepI (denote table) pg w Z ⟨.pure (.done (.ret (.bool true))),.builtin "claim.caller" {},default,[]⟩=.halt (.done (.ret (.bool true))) Z:=by
  show finish (.done (.ret (.bool true))) Z=_
  unfold finish;rw[leftWithCleanup_false_of_bare T];rfl
 have S:∀(n:Nat)(s:ZS)(t:Thread),runNI (denote table) pg w n s t=.running Z ⟨.pure (.done (.ret (.bool true))),.builtin "claim.caller" {},default,[]⟩->runNI (denote table) pg w (n+1) s t=.halted (.done (.ret (.bool true))) Z:=by
  intro n;induction n with
  |zero=>
   intro s t e;simp only[runNI,Run.running.injEq]at e;obtain⟨rfl,rfl⟩:=e;simp only[runNI,O]
  |succ n V=>
   intro s t e;rw[runNI]at e⊢;cases q:stepI (denote table) pg w s t with
   |go Y X=>rw[q]at e;exact V Y X e
   |halt o Y=>rw[q]at e;cases e
 exact⟨n+1,Z,S n _ _ hn,W⟩
theorem wC(w:ZW)(xs:List (Int×Tok))(hx:xs.length<=63)(s:ZS)(S:cP (kp w) s.heap)(O:s.heap.objs.size=963)(W:s.heap.get? 962=some (ae (iw xs) 0))(V:s.heap.get? 917=some (gw none))(y:s.gens=#[])(G:s.heap.get? 3=some (Ab w.params))(x:isCodeTable s.heap 917):∃n X,runNI (denote table) pg w n s ⟨p2 [.ref 962],.builtin "claim.caller" {},default,[]⟩=.halted (outcomeOf (.ok (.ret (.bool true)))) X/\OldK s.heap X.heap/\X.os=s.os/\AllBare X.gens:=by
 letI:Zero OsState:=⟨s.os⟩
 let E:ZA:=(List.range 962).filterMap fun a=>if a=917 then none else match (kp w).get a with|some _=>none|none=>(s.heap.get? a).map fun o=>(a,o)
 have hE:∀p∈E,p.1<962/\p.1≠917/\(kp w).get p.1=none/\s.heap.get? p.1=some p.2:=fun p hp=>by
  obtain⟨a,R,e⟩:=List.mem_filterMap.mp hp;have R:=fj.mp R
  by_cases q:a=917
  .rw [if_pos q]at e;cases e
  .rw [if_neg q]at e;cases S:(kp w).get a with
   |some o=>rw[S]at e;cases e
   |none=>
    rw[S]at e;obtain⟨o,M,rfl⟩:=mK.mp e;exact⟨R,q,S,M⟩
 have J:(E.map (·.1)).Nodup:=by
  have:(E.map (·.1)).Sublist (List.range 962):=by
   have gen:∀l:ZN,((l.filterMap fun a=>if a=917 then none else match (kp w).get a with|some _=>none|none=>(s.heap.get? a).map fun o=>(a,o)).map (·.1)).Sublist l:=fun l=>by
    induction l with
    |nil=>exact List.Sublist.refl _
    |cons a l D=>
     rw[List.filterMap_cons];split
     .exact D.cons a
     .rename_i b Y;have:b.1=a:=by
       split at Y
       .cases Y
       .split at Y
        .cases Y
        .obtain⟨o,_,rfl⟩:=mK.mp Y;rfl
      rw[dw,this];exact D.cons₂ a
   exact gen _
  exact this.nodup List.nodup_range
 have T:∀a o,a<962->a≠917->(kp w).get a=none->s.heap.get? a=some o->(a,o)∈E:=fun a o u h2 G v=>
  List.mem_filterMap.mpr ⟨a,fj.mpr u,by rw[if_neg h2,G,v];rfl⟩
 have Q:(kp w).get 962=none:=by kernel_rfl
 have P:(kp w).get 917=none:=by kernel_rfl
 have H:Hp w s ([(962,ae (iw xs) 0),(917,gw none)]++([]++E)) []:=by
  refine⟨S,fun p hp=>?_,?_,fun p hp=>?_,(fun l C=>nomatch C),rfl,AllBare.of_eq y⟩
  .rcases bJ.mp hp with hp|hp
   .simp only[List.mem_cons,List.mem_nil_iff,or_false]at hp;rcases hp with rfl|rfl
    .exact W
    .exact V
   .exact(hE p hp).2.2.2
  .rw [List.nil_append,aL];refine eG.mpr ⟨show([962,917]:ZN).Nodup by decide,J,fun a R b Y e=>?_⟩
   subst e;obtain⟨p,hp,rfl⟩:=aZ.mp Y;obtain⟨g1,g2,_,_⟩:=hE p hp;simp only[List.map_cons,List.map_nil,List.mem_cons,List.mem_nil_iff,or_false]at R;rcases R with h|h
   .exact absurd (h▸g1) (p6 _)
   .exact g2 h
  .rcases bJ.mp hp with hp|hp
   .simp only[List.mem_cons,List.mem_nil_iff,or_false]at hp;rcases hp with rfl|rfl
    .exact Q
    .exact P
   .exact(hE p hp).2.2.1
 have C:((xs.map (·.1)).length)=xs.length:=aB _
 have z:=(BV w xs hx 0 none (fun B h=>wB (xs.map (·.1)) xs.length B h) E ((962,ae (iw xs) 0)::E) (fun p hp=>(bc.mp hp)) (z6 w) s ⟨0,0,0,0⟩ (BZ w) O H.q).to
 obtain⟨n,X,hn,hq⟩:=ua G z fun r X h=>⟨h.1,h.2.2.2.2.2⟩
 obtain⟨_,N,K,⟨t,I⟩,M,Y⟩:=hq;have keep:∀b o,s.heap.get? b=some o->(b=917/\o=gw none)\/X.heap.get? b=some o:=fun b o Z=>by
  have L:b<963:=O▸i4 Z
  by_cases q:b=917
  .subst q;rw[V]at Z;cases Z;exact .inl ⟨rfl,rfl⟩
  right
  by_cases F:b=962
  .subst F;rw[W]at Z;cases Z;exact N (962,ae (iw xs) 0) (.head _)
  cases U:(kp w).get b with
  |some A=>
   have:=S b A U
   rw[Z]at this;cases this;exact K b o U
  |none=>exact N (b,o) (.tail _ (T b o (Nat.lt_of_le_of_ne (cY L) F) q U Z))
 refine⟨n,X,hn,⟨fun b o Z=>?_,fun b o Z=>?_⟩,M,Y⟩
 .rcases keep b o Z with ⟨rfl,rfl⟩|h
  .cases t with
   |none=>exact .inl I
   |some a=>exact .inr (.inl ⟨x,rfl,#[],#[.int 945 0,.int 20 0,.ref a],rfl,I⟩)
  .exact .inl h
 .rcases keep b o Z with ⟨rfl,rfl⟩|h
  .exact⟨_,I⟩
  .exact⟨o,h⟩
set_option tactic.hygienic false
theorem nh{c:ClaimW}{tree:ZY->ZE}{w:ZW}{s:ZS}{free:Addr->Prop}{gens:Prop}{kept:Heap->Prop}(F:s.asleep)(Q:s.gens=#[])(h:∀Z,c.pre Z=true->WData.layableAll Z=true->∀ord:List DictEntry->List DictEntry,(∀l,(ord l).Perm l)->∃vs Y,layAllW c.records (classAt s.heap) w.params ord Z s=some (vs,Y)/\
   ∃n r V,runNI (denote table) c.prog w n Y ⟨tree vs,.builtin "claim.caller" {},default,[]⟩=.halted (outcomeOf r) V/\c.Ends s Z vs Y r V/\V.os=s.os/\kept V.heap):c.CallFrom (fun vs=>⟨tree vs,.builtin "claim.caller" {},default,[]⟩) w free gens kept s:=by
 intro Z N L ord M;refine B0 fun P G=>?_
 obtain⟨vs,Y,W,n,r,I,hn,X,T,R⟩:=h Z N L ord M;have K:=layAllW_rest _ _ _ W
 obtain⟨V,U,O,J⟩:=runNI_full (denote table) c.prog w hn (outcomeOf_ends r) (Shared.asleep_of_life K.2.2.2 F);obtain⟨H,_,_,E,_⟩:=Shared.forget_eq J;have X:c.Ends s Z vs Y r V:=X.congr H
 have R:kept V.heap:=by rw[H];exact R
 have T:V.os=s.os:=E.trans T
 have S:V.heap.life=s.heap.life:=(runN_life _ _ _ O).trans K.2.2.2
 exact G (QM vs Y ⟨W,Fy n _ V ⟨U,X.imp (fun h=>h.elim fun v h=>⟨v,congrArg outcomeOf h.1,h.2.1,h.2.2.1,h.2.2.2.1,fun b o y a=>h.2.2.2.2.1 b o y,h.2.2.2.2.2⟩) fun h=>Us h fun e ob cls h=>Fy e ob cls ⟨congrArg outcomeOf h.1,h.2.1,h.2.2.1,h.2.2.2.1,h.2.2.2.2.1,fun b o y a=>h.2.2.2.2.2 b o y⟩,(fun a i x hx=>by rw[Q]at hx;simp at hx),R,by rw[S],Shared.rest_eq T⟩⟩)
theorem zx{r:OpenRow}{q:Program}{loose:List Str}{Xt:ZS->Bool}{XP:(Str->Option ZV)->Heap->Prop}{α:Type}{Yf:ZS->α}{Ya:ZW->α}{d:DefRec}{F:List (Str×PySem.Expr)}{N:Nat}(left:LeftO r.prog q loose Xt Yf Ya N)(hX:∀s,Xt s=true->XP (s.heap.nsMap mainGlobals) s.heap)(YE:∀H h h',XP H h->(∀b o,h.get? b=some o->h'.get? b=some o)->XP H h')(C:defOf q r.name=some (d,F))(hp:r.prog.theDef r.name=some (d.params,d.body,d.scope))(hk:kwWritten? d.params.kwonlyargs d.params.kw_defaults=some F)(YF:∀s,Xt s=true->RecFacts r.records s.heap)(l:(!r.writes||r.records.isEmpty)=true)(k1:r.wellSaid=true)(ok:(chainsOk q&&opensWell r.prog&&(frees r.toRowW&&r.within.isEmpty))=true)(hb:r.prog.bare)(hw:r.toRowW.promised)(call:∀(w:ZW) (U Z:ZS) (H mb:Str->Option ZV),Ground q loose r.records XP w U H mb Z.heap->Yf U=Ya w->Z.gens=#[]->∀(Y:List WData) (vals:ZY) (as:List Addr),Laid r.records w U Z Y vals as->r.toRowW.claim.pre Y=true->WData.layableAll Y=true->
   ReadsAllW r.records (classAt U.heap) Z.heap vals Y as->WellAll w.params Z.heap vals Y->(∀a∈as,(a==sysModules)=false)->
   ∃n t u,runNI (denote table) r.prog w n Z ⟨(do match←nsGet mainNs r.name with
    |some f=>do ret (←PySem.call f vals)
    |none=>unsupported "claim.caller:no-such-global"),.builtin "claim.caller" {},default,[]⟩=.halted (outcomeOf t) u/\GoodWG r.toRowW.claim (classAt U.heap) (ExcName.means U.heap) Y Z t u):r.Holds:=by
 refine B0 fun P E=>?_
 obtain⟨p,m⟩:=iB.mp ok;obtain⟨A,o1⟩:=iB.mp p;obtain⟨m,k6⟩:=iB.mp m;obtain⟨I,hu,ha,YG,hm⟩:=frees_parts m;refine E ⟨k1,hw,⟨hb,o1,by show r.toRowW.makers.map _=[];rw[hm];rfl⟩,hw.witness,fun w=>⟨(left.behind hX A w).1,fun u j=>B0 fun P E=>?_⟩⟩
 obtain⟨U,hf,YH,s,hT,hz,R,hg,V,y⟩:=(left.behind (XP:=fun H h=>XP H h/\RecFacts r.records h) (fun s hs=>⟨hX s hs,YF s hs⟩) A w).2 u j
 have G0:Ground q loose [] XP w s (s.heap.nsMap mainGlobals) (s.heap.nsMap builtinsNs) s.heap:=⟨V.T,V.B,V.D,V.TE,V.TD,V.W,V.X.1,V.cls,V.has,V.apart,V.once,V.K⟩
 have RF:=V.X.2
 refine E ⟨U,hf,YH,s,hT,fun n hn=>?_,RF.1,RF.2.1,?_⟩
 .obtain rfl:n=r.name:=by split at hn<;>simp_all
  exact pinned_of_view hg G0 C hp hk
 have R:s.gens=#[]:=Array.eq_empty_of_size_eq_zero (beq_iff_eq.mp R)
 have G:Ground q loose r.records XP w s _ _ s.heap:=RF.ground G0
 refine nh (c:=r.toRowW.claim) hz R fun Y O J ord M=>B0 fun P E=>?_
 obtain⟨⟨vs,Z⟩,S⟩:=wD.mp (layAllW_isSome (P:=w.params) (ord:=ord) G.has Y r.args s (pre_splitW O).1);have keeps:=layAllW_keeps _ _ _ S
 have x:=layAllW_rest _ _ _ S
 obtain⟨as,i,YI,hold⟩:=reads_layAllW M _ _ _ S J Z.heap (fun g g e=>e)
 have L:Laid r.records w s Z Y vs as:=⟨⟨ord,M,S⟩,i,YI,hold,keeps,x.1.trans R,x.2.2.1⟩
 have v:=G.keeps YE keeps
 obtain⟨n,t,s2,hn,Q⟩:=call w s Z _ _ v y L.gens Y vs as L O J L.reads L.well (L.low G.low);have hi:=ident_freeW hu ha YG
 have k:r.toRowW.claim.within=[]:=mL.mp k6
 have z:=Q.laid (c:=r.toRowW.claim) I k hi L
 exact E (QM vs Z ⟨S,Fy n t s2 ⟨hn,z.1,z.2.1,fun q=>⟨namesKept_of hT hg _ keeps Q.2.1.old,noTable l q⟩⟩⟩)
set_option tactic.hygienic false
theorem Iw{vs:ZY}{ns:List Int}(h:IntsAre vs ns):∃xs:List (Int×Tok),vs=iw xs/\xs.length=ns.length:=by
 induction h with
 |nil=>exact⟨[],rfl,rfl⟩
 |cons n t _ Z=>obtain⟨xs,rfl,h⟩:=Z;exact⟨(n,t)::xs,rfl,by simp[h]⟩
noncomputable abbrev EN:OpenRow:=PySem.Challenge.rw_op0292_01.row
theorem zy{w:ZW}{X Z:ZS}{Y:List WData}{vals:ZY}{as:List Addr}(L:Laid EN.records w X Z Y vals as)(V:EN.toRowW.claim.pre Y=true)(U:WData.layableAll Y=true)(O:ReadsAllW EN.records (classAt X.heap) Z.heap vals Y as)(Q:WellAll w.params Z.heap vals Y)(M:∀a∈as,(a==sysModules)=false)(C:X.heap.objs.size=962)(F:Z.gens=#[])(G:cP (kp w) Z.heap)(S:Z.heap.get? 917=some (gw none))(y:Z.heap.get? 3=some (Ab w.params))(E:isCodeTable Z.heap 917):∃n K R,runNI (denote table) EN.prog w n Z ⟨(do match←nsGet mainNs EN.name with
   |some f=>do ret (←PySem.call f vals)
   |none=>unsupported "claim.caller:no-such-global"),.builtin "claim.caller" {},default,[]⟩=.halted (outcomeOf K) R/\GoodWG EN.toRowW.claim (classAt X.heap) (ExcName.means X.heap) Y Z K R:=by
 refine B0 fun P I=>?_
 wrow_args V U O Q M
 rename List Int=>ns
 rename IntsAre _ _=>A
 rename Heap.IsList _ _ _=>B
 rename¬_<_=>z
 obtain⟨J,W⟩:=script_at L;rw[C]at J W;subst J;obtain⟨xs,rfl,H⟩:=Iw A;have T:=script_obj L B
 have hx:xs.length<=63:=by rw[H];lia
 obtain⟨n,R,hn,hold,N,D⟩:=wC w xs hx Z G W T S F y E;refine I (Fy n _ R ⟨hn,.inl ⟨.bool true,.bool true,[],rfl,fun cls=>?_,.bool true,?_,fun b=>⟨cW,fun b h=>nomatch h⟩⟩,hold,N,D⟩)
 .rfl
 .first|rfl|kernel_rfl|decide+kernel
end
section
open PySem.W.ZRun PySem.F PySem.Calls PySem.Spec PyProof.Rows
set_option tactic.hygienic false
def VO:Look:={strict:=false,foot:=none,bare:=[]}
theorem QI:({strict:=!(importedModules pg.main.body).all cThrough.contains,foot:=none,bare:=(["vars","dir","locals"]:List Str).filter (readsOut pg pg.main.body)}:Look)=VO:=by kernel_rfl
theorem QJ:noRoadLSs VO pg.main.body=true:=by kernel_rfl
theorem lo1:sreFenced pg.main=true:=by kernel_rfl
theorem YJ:((moduleNames pg.main.body).isEmpty||lookedIntoSs (moduleNames pg.main.body) pg.main.body)=true:=by kernel_rfl
theorem YK:namesResolve pg=true:=by kernel_rfl
theorem YL:pg.boundNames.all (fun n=>!worldNames.contains n)=true:=by kernel_rfl
theorem YM:(namesMeet pg pg.main.body fun a n=>attrL n)=true:=by kernel_rfl
theorem QK:looksOpen pg=true:=by unfold looksOpen;rw[QI];exact look_both (look_both (look_both (look_both (look_both lo1 YJ) YK) YL) QJ) YM
abbrev VP:OpenLaw:=PySem.Challenge.rw_op0292_01
theorem part:VP.row.partSaid=true:=by
 unfold OpenRow.partSaid
 iterate 13 (refine look_both ?_ (by kernel_rfl))
 exact QK
theorem Ur:VP.wellSaid=true:=by
 unfold OpenLaw.wellSaid
 iterate 18 (refine look_both ?_ (by kernel_rfl))
 unfold OpenRow.wellSaid
 iterate 2 (refine look_both ?_ (by kernel_rfl))
 exact part
theorem main:PySem.Challenge.rw_op0292_01.Holds:=by
 w_on
 refine holds_law Ur fun P=>?_
 refine zx (q:=hq) (loose:=ip) (Xt:=IW) (XP:=XL hq []) (Yf:=FH) (Ya:=Cd) (N:=60000) left (fun s e=>xl_of s (iB.mp e).1) XL.keeps (by rfl) (by rfl) (by rfl) (fun s e=>recFacts_of (iB.mp e).2) (by rfl) P (look_both (look_both (by kernel_rfl) (by kernel_rfl)) (by kernel_rfl)) ⟨rfl,rfl,rfl,rfl,rfl,by decide+kernel⟩ ?hw ?T
 case hw=>w_witness2
 case T=>
  intro w R S I H G y M Q vals as L Z Y V W U;obtain⟨K,O,X,J,T⟩:=LQ y (Laid.keeps L);exact zy L Z Y V W U K M O X J T
end
end
end Sx
theorem PySem.Challenge.cw_op0292_01_holds : PySem.Challenge.rw_op0292_01.Holds := by
  exact Sx.main
