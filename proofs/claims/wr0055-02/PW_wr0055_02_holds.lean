import PyProof.Rows.All
import Wide.All
import OpenK.AllK
import Wide.FinOn
import PySem.Challenge.RW_wr0055_02
set_option Elab.async false
set_option linter.all false
set_option genSizeOf false
set_option genInjectivity false
set_option maxRecDepth 100000
set_option maxHeartbeats 8000000
open PySem PySem.W PyProof.Rows PySem.Calls
noncomputable section
namespace Mine
theorem nD(a b:Nat):b*(a/b)+a%b=a:=Nat.div_add_mod a b
theorem nM(a:Nat){b:Nat}(h:0<b):a%b<b:=Nat.mod_lt a h
theorem nB{a b:Nat}(h:Nat.ble a b=true:=by rfl):a≤b:=Nat.le_of_ble_eq_true h
local macro_rules | `(tactic| trivial)=> `(tactic| (repeat first | exact List.Mem.head _ | apply List.Mem.tail);done)
namespace Mine.LA
inductive E | v (i:Nat) | z (i:Nat) | k (n:Nat) | a (a b:E) | s (a b:E) | m (n:Nat) (a:E) | r (a:E) (n:Nat) | l (a b:E) | g (a b:E) | j (a:E) | c (a:E) | t (a:E) | h (a:E)
noncomputable def E.ev (c:List Nat) (d:List Int):E→Nat×Int
 | v i=>(c.getD i 0,0) | z i=>(0,d.getD i 0) | k n=>(n,n)
 | a x y=>((x.ev c d).1+(y.ev c d).1,(x.ev c d).2+(y.ev c d).2)
 | s x y=>((x.ev c d).1-(y.ev c d).1,(x.ev c d).2-(y.ev c d).2)
 | m n x=>(n*(x.ev c d).1,n*(x.ev c d).2)
 | r x n=>((x.ev c d).1*n,(x.ev c d).2*n)
 | l x y=>(min (x.ev c d).1 (y.ev c d).1,min (x.ev c d).2 (y.ev c d).2)
 | g x y=>(max (x.ev c d).1 (y.ev c d).1,max (x.ev c d).2 (y.ev c d).2)
 | j x=>(0, -(x.ev c d).2) | E.c x=>(0,((x.ev c d).1:Int)) | t x=>((x.ev c d).2.toNat,0) | h x=>((x.ev c d).2.natAbs,0)
inductive Z | v (i:Nat) | z (i:Nat) | k (n:Int) | a (x y:Z) | m (n:Int) (x:Z) | p (x:Z)
noncomputable def Z.ev (c:List Nat) (d:List Int):Z→Int
 | v i=>(c.getD i 0:Nat) | z i=>d.getD i 0 | k n=>n | a x y=>x.ev c d+y.ev c d | m n x=>n*x.ev c d | p x=>((x.ev c d).toNat:Int)
noncomputable def Z.s (x y:Z):Z:=.a x (.m (-1) y)
noncomputable def E.tr:E→Z×Z
 | v i=>(.v i,.k 0) | z i=>(.k 0,.z i) | k n=>(.k n,.k n)
 | a x y=>(.a x.tr.1 y.tr.1,.a x.tr.2 y.tr.2)
 | s x y=>(.p (.s x.tr.1 y.tr.1),.s x.tr.2 y.tr.2)
 | m n x=>(.m n x.tr.1,.m n x.tr.2) | r x n=>(.m n x.tr.1,.m n x.tr.2)
 | l x y=>(.s x.tr.1 (.p (.s x.tr.1 y.tr.1)),.s x.tr.2 (.p (.s x.tr.2 y.tr.2)))
 | g x y=>(.a x.tr.1 (.p (.s y.tr.1 x.tr.1)),.a x.tr.2 (.p (.s y.tr.2 x.tr.2)))
 | j x=>(.k 0,.m (-1) x.tr.2) | c x=>(.k 0,x.tr.1) | t x=>(.p x.tr.2,.k 0) | h x=>(.a (.p x.tr.2) (.p (.m (-1) x.tr.2)),.k 0)
section
variable {c:List Nat}{d:List Int}
theorem Z.oT (x y:Z):(Z.s x y).ev c d=x.ev c d-y.ev c d:=congrArg _ (Int.neg_one_mul _)
theorem FA (a b:Int):a+ -1*((a+ -1*b).toNat:Int)=min a b:=by
 rw[Int.neg_one_mul,Int.neg_one_mul,←Int.sub_eq_add_neg,←Int.sub_eq_add_neg];by_cases h:a≤b
 ·rw[Int.toNat_of_nonpos (Int.sub_nonpos_of_le h),Int.min_eq_left h];exact Int.add_zero a
 ·rw[Int.toNat_of_nonneg (Int.sub_nonneg_of_le (Int.le_of_not_le h)),Int.min_eq_right (Int.le_of_not_le h)];exact Int.sub_sub_self a b
theorem Fz (a b:Int):a+((b+ -1*a).toNat:Int)=max a b:=by
 rw[Int.neg_one_mul,←Int.sub_eq_add_neg];by_cases h:a≤b
 ·rw[Int.toNat_of_nonneg (Int.sub_nonneg_of_le h),Int.max_eq_right h];rw[Int.add_comm];exact Int.sub_add_cancel b a
 ·rw[Int.toNat_of_nonpos (Int.sub_nonpos_of_le (Int.le_of_not_le h)),Int.max_eq_left (Int.le_of_not_le h)];exact Int.add_zero a
theorem mnN (a b:Nat):min (a:Int) (b:Int)=((min a b:Nat):Int):=by
 by_cases h:a≤b
 ·rw[Nat.min_eq_left h,Int.min_eq_left (Int.ofNat_le.mpr h)]
 ·rw[Nat.min_eq_right (Nat.le_of_not_le h),Int.min_eq_right (Int.ofNat_le.mpr (Nat.le_of_not_le h))]
theorem mxN (a b:Nat):max (a:Int) (b:Int)=((max a b:Nat):Int):=by
 by_cases h:a≤b
 ·rw[Nat.max_eq_right h,Int.max_eq_right (Int.ofNat_le.mpr h)]
 ·rw[Nat.max_eq_left (Nat.le_of_not_le h),Int.max_eq_left (Int.ofNat_le.mpr (Nat.le_of_not_le h))]
theorem OU (a:Int):(a.natAbs:Int)=(a.toNat:Int)+((-1*a).toNat:Int):=by
 rw[Int.neg_one_mul];by_cases h:0≤a
 ·rw[Int.toNat_of_nonpos (Int.neg_nonpos_of_nonneg h),Int.toNat_of_nonneg h,Int.natAbs_of_nonneg h];exact(Int.add_zero a).symm
 ·have h:=Int.le_of_not_le h;rw[Int.toNat_of_nonpos h,Int.toNat_of_nonneg (Int.neg_nonneg_of_nonpos h),←Int.natAbs_neg,Int.natAbs_of_nonneg (Int.neg_nonneg_of_nonpos h)];exact(Int.zero_add _).symm
theorem E.hV (e:E):e.tr.1.ev c d=((e.ev c d).1:Int)∧e.tr.2.ev c d=(e.ev c d).2:=by
 induction e with
 | v i=>exact⟨rfl,rfl⟩
 | z i=>exact⟨rfl,rfl⟩
 | k n=>exact⟨rfl,rfl⟩
 | a x y h g=>exact⟨congr (congrArg _ h.1) g.1,congr (congrArg _ h.2) g.2⟩
 | s x y h g=>exact⟨congrArg Int.ofNat ((congrArg Int.toNat ((Z.oT _ _).trans (congr (congrArg _ h.1) g.1))).trans (Int.toNat_sub _ _)),(Z.oT _ _).trans (congr (congrArg _ h.2) g.2)⟩
 | m n x h=>exact⟨congrArg _ h.1,congrArg _ h.2⟩
 | r x n h=>exact⟨(congrArg _ h.1).trans (Int.mul_comm _ _),(congrArg _ h.2).trans (Int.mul_comm _ _)⟩
 | l x y h g=>exact⟨(FA _ _).trans ((congr (congrArg _ h.1) g.1).trans (mnN _ _)),(FA _ _).trans (congr (congrArg _ h.2) g.2)⟩
 | g x y h g=>exact⟨(Fz _ _).trans ((congr (congrArg _ h.1) g.1).trans (mxN _ _)),(Fz _ _).trans (congr (congrArg _ h.2) g.2)⟩
 | j x h=>exact⟨rfl,(congrArg _ h.2).trans (Int.neg_one_mul _)⟩
 | c x h=>exact⟨rfl,h.1⟩
 | h x f=>exact⟨by show (((x.tr.2.ev c d).toNat:Nat):Int)+(((-1*x.tr.2.ev c d).toNat:Nat):Int)=_;rw[f.2];exact(OU _).symm,rfl⟩
 | t x h=>exact⟨congrArg (fun i:Int=>((i.toNat:Nat):Int)) h.2,rfl⟩
inductive F | l (a b:E) | t (a b:E) | e (a b:E) | L (a b:E) | T (a b:E) | Q (a b:E) | f | i (p q:F) | a (p q:F) | o (p q:F) | n (p:F) | B (p q:F)
noncomputable def F.den (c:List Nat) (d:List Int):F→Prop
 | l x y=>(x.ev c d).1≤(y.ev c d).1 | t x y=>(x.ev c d).1<(y.ev c d).1 | e x y=>(x.ev c d).1=(y.ev c d).1
 | L x y=>(x.ev c d).2≤(y.ev c d).2 | T x y=>(x.ev c d).2<(y.ev c d).2 | Q x y=>(x.ev c d).2=(y.ev c d).2
 | f=>False | i p q=>p.den c d→q.den c d | a p q=>p.den c d∧q.den c d | o p q=>p.den c d∨q.den c d | n p=> ¬p.den c d | B p q=>(p.den c d↔q.den c d)
noncomputable def tF (a b:List (List Z)):List (List Z):=a.flatMap fun x=>b.map fun y=>x++y
noncomputable def cL (x y:Z):Bool→List (List Z) | true=>[[.s y x]] | false=>[[.a (.s x y) (.k (-1))]]
noncomputable def cT (x y:Z):Bool→List (List Z) | true=>[[.a (.s y x) (.k (-1))]] | false=>[[.s x y]]
noncomputable def cE (x y:Z):Bool→List (List Z) | true=>[[.s x y,.s y x]] | false=>[[.a (.s x y) (.k (-1))],[.a (.s y x) (.k (-1))]]
def F.dn:F→Bool→List (List Z)
 | l x y,b=>cL x.tr.1 y.tr.1 b | t x y,b=>cT x.tr.1 y.tr.1 b | e x y,b=>cE x.tr.1 y.tr.1 b
 | L x y,b=>cL x.tr.2 y.tr.2 b | T x y,b=>cT x.tr.2 y.tr.2 b | Q x y,b=>cE x.tr.2 y.tr.2 b
 | f,true=>[] | f,false=>[[]]
 | i p q,true=>p.dn false++q.dn true | i p q,false=>tF (p.dn true) (q.dn false)
 | a p q,false=>p.dn false++q.dn false | a p q,true=>tF (p.dn true) (q.dn true)
 | o p q,true=>p.dn true++q.dn true | o p q,false=>tF (p.dn false) (q.dn false)
 | B p q,true=>tF (p.dn true) (q.dn true)++tF (p.dn false) (q.dn false) | B p q,false=>tF (p.dn true) (q.dn false)++tF (p.dn false) (q.dn true)
 | n p,b=>p.dn !b
def Pos (c:List Nat) (d:List Int) (l:List Z):Prop:= ∀z∈l,0≤z.ev c d
def qL (c:List Nat) (d:List Int) (l:List (List Z)):Prop:= ∃x∈l,Pos c d x
theorem Pos.app {x y:List Z}(h:Pos c d x) (g:Pos c d y):Pos c d (x++y):=fun z m=>(List.mem_append.mp m).elim (h z) (g z)
theorem Pos.one {x:Z}(h:0≤x.ev c d):Pos c d [x]:=fun z m=>List.mem_singleton.mp m ▸ h
theorem qL.app {x y:List (List Z)}(h:qL c d x∨qL c d y):qL c d (x++y):=
 h.elim (fun ⟨l,m,p⟩=>⟨l,List.mem_append_left _ m,p⟩) fun ⟨l,m,p⟩=>⟨l,List.mem_append_right _ m,p⟩
theorem qL.tF {x y:List (List Z)}:qL c d x→qL c d y→qL c d (tF x y)
 | ⟨l,m,p⟩,⟨l',m',p'⟩=>⟨_,List.mem_flatMap.mpr ⟨l,m,List.mem_map.mpr ⟨l',m',rfl⟩⟩,p.app p'⟩
theorem qL.one {x:Z}(h:0≤x.ev c d):qL c d [[x]]:=⟨_,.head _,.one h⟩
theorem Z.vQ (x y:Z):(Z.a (Z.s x y) (.k (-1))).ev c d=x.ev c d-y.ev c d-1:=congrArg (· +(-1)) (Z.oT x y)
theorem sub_pos {a b:Int}(h:a<b):0≤b-a-1:=Int.le_sub_one_of_lt (Int.sub_pos_of_lt h)
theorem Gf {x y:Z}{i j:Int}(hx:x.ev c d=i) (hy:y.ev c d=j):(i≤j→qL c d (cL x y true))∧(¬i≤j→qL c d (cL x y false)):=by
 subst hx;subst hy;exact⟨fun h=>.one (Z.oT y x ▸ Int.sub_nonneg_of_le h),fun h=>.one (Z.vQ x y ▸ sub_pos (Int.not_le.mp h))⟩
theorem Ge {x y:Z}{i j:Int}(hx:x.ev c d=i) (hy:y.ev c d=j):(i<j→qL c d (cT x y true))∧(¬i<j→qL c d (cT x y false)):=by
 subst hx;subst hy;exact⟨fun h=>.one (Z.vQ y x ▸ sub_pos h),fun h=>.one (Z.oT x y ▸ Int.sub_nonneg_of_le (Int.not_lt.mp h))⟩
theorem Gg {x y:Z}{i j:Int}(hx:x.ev c d=i) (hy:y.ev c d=j):(i=j→qL c d (cE x y true))∧(¬i=j→qL c d (cE x y false)):=by
 subst hx;subst hy;refine⟨fun h=>⟨_,.head _,.app (x:=[_]) (.one (Z.oT x y ▸ Int.sub_nonneg_of_le (Int.le_of_eq h.symm))) (.one (Z.oT y x ▸ Int.sub_nonneg_of_le (Int.le_of_eq h)))⟩,fun h=>.app (x:=[_]) ?_⟩
 exact(Int.lt_or_gt_of_ne h).symm.imp (fun h=>.one (Z.vQ x y ▸ sub_pos h)) fun h=>.one (Z.vQ y x ▸ sub_pos h)
theorem F.MH (p:F):(p.den c d→qL c d (p.dn true))∧(¬p.den c d→qL c d (p.dn false)):=by
 induction p with
 | l x y=>exact(Gf x.hV.1 y.hV.1).imp (fun k h=>k (Int.ofNat_le.mpr h)) fun k h=>k fun e=>h (Int.ofNat_le.mp e)
 | t x y=>exact(Ge x.hV.1 y.hV.1).imp (fun k h=>k (Int.ofNat_lt.mpr h)) fun k h=>k fun e=>h (Int.ofNat_lt.mp e)
 | e x y=>exact(Gg x.hV.1 y.hV.1).imp (fun k h=>k (congrArg Int.ofNat h)) fun k h=>k fun e=>h (Int.ofNat.inj e)
 | L x y=>exact Gf x.hV.2 y.hV.2
 | T x y=>exact Ge x.hV.2 y.hV.2
 | Q x y=>exact Gg x.hV.2 y.hV.2
 | f=>exact⟨fun h=>h.elim,fun U=>⟨_,.head _,fun U m=>nomatch m⟩⟩
 | i p q h g=>exact⟨fun k=>.app ((Classical.em (p.den c d)).symm.imp h.2 fun e=>g.1 (k e)),fun k=>.tF (h.1 (Classical.not_imp.mp k).1) (g.2 (Classical.not_imp.mp k).2)⟩
 | a p q h g=>exact⟨fun k=>.tF (h.1 k.1) (g.1 k.2),fun k=>.app ((Classical.em (p.den c d)).symm.imp h.2 fun e=>g.2 fun e'=>k ⟨e,e'⟩)⟩
 | o p q h g=>exact⟨fun k=>.app (k.imp h.1 g.1),fun k=>.tF (h.2 fun e=>k (.inl e)) (g.2 fun e=>k (.inr e))⟩
 | B p q h g=>
  refine⟨fun k=>.app ?_,fun k=>.app ?_⟩
  ·exact(Classical.em (p.den c d)).imp (fun e=>.tF (h.1 e) (g.1 (k.1 e))) fun e=>.tF (h.2 e) (g.2 fun e'=>e (k.2 e'))
  ·exact(Classical.em (p.den c d)).imp (fun e=>.tF (h.1 e) (g.2 fun e'=>k ⟨fun U=>e',fun U=>e⟩)) fun e=>.tF (h.2 e) (g.1 (Classical.byContradiction fun e'=>k ⟨fun x=>(e x).elim,fun x=>(e' x).elim⟩))
 | n p h=>exact⟨h.2,fun k=>h.1 (Classical.not_not.mp k)⟩
noncomputable def iq:Int→Int→Bool
 | .ofNat a,.ofNat b=>Nat.beq a b | .negSucc a,.negSucc b=>Nat.beq a b | _,_=>false
def Z.q:Z→Z→Bool
 | v i,v j=>Nat.beq i j | z i,z j=>Nat.beq i j | k i,k j=>iq i j | a x y,a x' y'=>x.q x'&&y.q y' | m n x,m n' x'=>iq n n'&&x.q x' | p x,p x'=>x.q x' | _,_=>false
noncomputable def ins (x:Z) (k:Int):List (Z×Int)→List (Z×Int)
 | []=>[(x,k)]
 | (y,m)::l=>cond (x.q y) ((y,m+k)::l) ((y,m)::ins x k l)
def Kg (z:Z) (k:Int) (n:Int) (l:List (Z×Int)) (K:Int→List (Z×Int)→Bool):Bool:=match z with
 | .v i=>K n (ins (.v i) k l) | .z i=>K n (ins (.z i) k l) | .p x=>K n (ins (.p x) k l)
 | .k i=>K (n+k*i) l | .a x y=>Kg x k n l fun n l=>Kg y k n l K | .m i x=>Kg x (k*i) n l K
noncomputable def Z.nn:Z→Bool | v _=>true | p _=>true | _=>false
noncomputable def ends (n:Int):List (Z×Int)→Bool
 | []=>match n with | .negSucc _=>true | _=>false
 | (x,k)::l=>(match k with | .ofNat 0=>true | .negSucc _=>x.nn | _=>false)&&ends n l
def comb (fs:List Z):List (Nat×Nat)→Int→List (Z×Int)→Bool
 | [],n,l=>ends n l
 | (i,m)::cs,n,l=>Kg (fs.getD i (.k 0)) m n l (comb fs cs)
noncomputable def Z.ps:Z→List Z
 | a x y=>x.ps++y.ps | m _ x=>x.ps | p x=>x::x.ps | _=>[]
inductive C | f (l:List (Nat×Nat)) | s (z:Z) (a b:C) | p (i:Nat) (a b:C)
def C.run:C→List Z→Bool
 | f l,fs=>comb fs l 0 []
 | s z a b,fs=>a.run (fs++[z])&&b.run (fs++[.a (.m (-1) z) (.k (-1))])
 | p i a b,fs=>let z:=(fs.flatMap Z.ps).getD i (.k 0)
  a.run (fs++[z,.s z (.p z),.s (.p z) z])&&b.run (fs++[.a (.m (-1) z) (.k (-1)),.m (-1) (.p z)])
noncomputable def runs:List (List Z)→List C→Bool
 | [],_=>true | x::xs,c::cs=>c.run x&&runs xs cs | _,_=>false
noncomputable def sum (c:List Nat) (d:List Int):List (Z×Int)→Int
 | []=>0 | (z,k)::l=>z.ev c d*k+sum c d l
theorem FE {a b:Int}(h:iq a b=true):a=b:=by
 cases a<;>cases b
 ·exact congrArg _ (Nat.eq_of_beq_eq_true h)
 ·exact absurd h Bool.false_ne_true
 ·exact absurd h Bool.false_ne_true
 ·exact congrArg _ (Nat.eq_of_beq_eq_true h)
theorem kW {a b:Bool}(h:(a&&b)=true):a=true∧b=true:=by cases a;exact nomatch h;exact⟨rfl,h⟩
theorem Z.QI {x y:Z}(h:x.q y=true):x=y:=by
 induction x generalizing y with
 | v i=>cases y<;>first | exact absurd h Bool.false_ne_true | exact congrArg _ (Nat.eq_of_beq_eq_true h)
 | z i=>cases y<;>first | exact absurd h Bool.false_ne_true | exact congrArg _ (Nat.eq_of_beq_eq_true h)
 | k i=>cases y<;>first | exact absurd h Bool.false_ne_true | exact congrArg _ (FE h)
 | a x x' f g=>cases y<;>first | exact absurd h Bool.false_ne_true | exact congr (congrArg _ (f (kW h).1)) (g (kW h).2)
 | m n x g=>cases y<;>first | exact absurd h Bool.false_ne_true | exact congr (congrArg _ (FE (kW h).1)) (g (kW h).2)
 | p x g=>cases y<;>first | exact absurd h Bool.false_ne_true | exact congrArg _ (g h)
theorem DZ (x:Z) (k:Int) (l:List (Z×Int)):sum c d (ins x k l)=x.ev c d*k+sum c d l:=by
 induction l with
 | nil=>rfl
 | cons a l ih=>
  obtain⟨y,m⟩:=a;show sum c d (cond (x.q y) _ _)=_;cases h:x.q y
  ·show _+_ =_+(_+_);rw[ih];exact Int.add_left_comm _ _ _
  ·rw[Z.QI h];show _*(m+k)+_ =_+(_*m+_);rw[Int.mul_add,Int.add_comm (_*m),Int.add_assoc]
theorem Ho (z:Z): ∀{k n:Int}{l:List (Z×Int)}{K:Int→List (Z×Int)→Bool},Kg z k n l K=true→ ∃n' l',K n' l'=true∧n'+sum c d l'=n+sum c d l+z.ev c d*k:=by
 have ho: ∀{x:Z}{k n:Int}{l:List (Z×Int)}{K:Int→List (Z×Int)→Bool},K n (ins x k l)=true→ ∃n' l',K n' l'=true∧n'+sum c d l'=n+sum c d l+x.ev c d*k:=
  fun h=>⟨_,_,h,by rw[DZ,Int.add_assoc,Int.add_comm (_*_)]⟩
 induction z with
 | v i=>exact ho
 | z i=>exact ho
 | p x _=>exact ho
 | k i=>exact fun {k n l K} h=>⟨_,_,h,by rw[Int.mul_comm];exact Int.add_right_comm _ _ _⟩
 | a x y f g=>
  intro k n l K h;obtain⟨n',l',h,e⟩:=f (K:=fun n l=>Kg y k n l K) h;obtain⟨n'',l'',h,e'⟩:=g h;exact⟨n'',l'',h,by rw[e',e,Int.add_assoc];exact congrArg _ (Int.add_mul _ _ _).symm⟩
 | m i x f=>
  intro k n l K h;obtain⟨n',l',h,e⟩:=f (k:=k*i) h;exact⟨n',l',h,by rw[e];exact congrArg _ (by show _ =i*_*k;rw[Int.mul_comm i,Int.mul_assoc,Int.mul_comm k])⟩
theorem Es {n:Int}{l:List (Z×Int)}(h:ends n l=true):n+sum c d l<0:=by
 induction l with
 | nil=>
  cases n
  ·exact absurd h Bool.false_ne_true
  ·exact(Int.add_zero _).symm ▸ Int.negSucc_lt_zero _
 | cons a l f=>
  have ih:=f (kW h).2;have hk:a.1.ev c d*a.2≤0:=by
   have h:=(kW h).1;generalize a.1=z,a.2=k at h
   rcases k with (_ | _) | _
   ·exact Int.le_of_eq (Int.mul_zero _)
   ·exact absurd h Bool.false_ne_true
   ·refine Int.mul_nonpos_of_nonneg_of_nonpos ?_ (Int.le_of_lt (Int.negSucc_lt_zero _));cases z<;>first | exact absurd h Bool.false_ne_true | exact Int.natCast_nonneg _ | exact Int.natCast_nonneg (Int.toNat _)
  show n+(_+_)<0;rw[Int.add_left_comm];exact Int.lt_of_le_of_lt (Int.add_le_add_right hk _) ((Int.zero_add _).symm ▸ ih)
theorem zy {fs:List Z}(hf:Pos c d fs) (i:Nat):0≤(fs.getD i (.k 0)).ev c d:=by
 rw[List.getD_eq_getElem?_getD];cases h:fs[i]? with
 | none=>exact Int.le_refl 0
 | some z=>exact hf z (List.mem_of_getElem? h)
theorem EA {fs:List Z}(hf:Pos c d fs) {cs:List (Nat×Nat)}: ∀{n:Int}{l:List (Z×Int)},comb fs cs n l=true→n+sum c d l<0:=by
 induction cs with
 | nil=>exact Es
 | cons a cs f=>
  intro n l h;obtain⟨n',l',h,e⟩:=Ho (c:=c) (d:=d) _ h;exact Int.lt_of_le_of_lt (Int.le_add_of_nonneg_right (Int.mul_nonneg (zy hf a.1) (Int.natCast_nonneg a.2))) (e ▸ f h)
theorem neg_pos {x:Z}(h: ¬0≤x.ev c d):0≤(Z.a (.m (-1) x) (.k (-1))).ev c d:=by show 0≤ -1*_+ -1;omega
theorem C.G6 (t:C): ∀{fs:List Z},Pos c d fs→t.run fs=true→False:=by
 induction t with
 | f l=>intro fs hf h;exact absurd (EA hf h) (by show ¬(0:Int)+0<0;decide)
 | s z a b f g=>
  intro fs hf h;by_cases hz:0≤z.ev c d
  ·exact f (hf.app (.one hz)) (kW h).1
  ·exact g (hf.app (.one (neg_pos hz))) (kW h).2
 | p i a b f g=>
  intro fs hf h;by_cases hz:0≤((fs.flatMap Z.ps).getD i (.k 0)).ev c d
  ·refine f (hf.app (.app (x:=[_]) (.one hz) (.app (x:=[_]) (.one ?_) (.one ?_)))) (kW h).1
   ·exact Z.oT _ _ ▸ Int.sub_nonneg_of_le (Int.le_of_eq (Int.toNat_of_nonneg hz))
   ·exact Z.oT _ _ ▸ Int.sub_nonneg_of_le (Int.le_of_eq (Int.toNat_of_nonneg hz).symm)
  ·refine g (hf.app (.app (x:=[_]) (.one (neg_pos hz)) (.one ?_))) (kW h).2;show 0≤ -1*((Int.toNat _:Nat):Int);rw[Int.toNat_of_nonpos (Int.le_of_not_le hz)];decide
theorem Dk {xs:List (List Z)}: ∀{cs:List C},qL c d xs→runs xs cs=true→False:=by
 induction xs with
 | nil=>exact fun ⟨_,m,_⟩ _=>nomatch m
 | cons x xs f=>
  intro cs ⟨l,m,p⟩ h;cases cs with
  | nil=>exact absurd h Bool.false_ne_true
  | cons t ts=>exact(List.mem_cons.mp m).elim (fun e=>t.G6 (e ▸ p) (kW h).1) fun m=>f ⟨l,m,p⟩ (kW h).2
end
theorem _root_.Mine.la (c:List Nat) (d:List Int) (p:F) (ts:List C) (h:runs (p.dn false) ts=true):p.den c d:=
 Classical.byContradiction fun k=>Dk (p.MH.2 k) h
abbrev Cn:=Nat→List E→List F→List (Nat×Nat)→List C→F×List C
noncomputable def e1 (o:E→E):Cn→Cn:=fun K U e f p c=>match e with | x::e=>K 0 (o x::e) f p c | _=>K 0 e f p c
noncomputable def e2 (o:E→E→E):Cn→Cn:=fun K U e f p c=>match e with | y::x::e=>K 0 (o x y::e) f p c | _=>K 0 e f p c
noncomputable def en (o:Nat→E→E):Cn→Cn:=fun K n e f p c=>match e with | x::e=>K 0 (o n x::e) f p c | _=>K 0 e f p c
noncomputable def ee (o:E→E→F):Cn→Cn:=fun K U e f p c=>match e with | y::x::e=>K 0 e (o x y::f) p c | _=>K 0 e f p c
noncomputable def ff (o:F→F→F):Cn→Cn:=fun K U e f p c=>match f with | y::x::f=>K 0 e (o x y::f) p c | _=>K 0 e f p c
def ops:List (Cn→Cn):=[fun K n e f p c=>K 0 (.v n::e) f p c,fun K n e f p c=>K 0 (.z n::e) f p c,fun K n e f p c=>K 0 (.k n::e) f p c,
 e2 .a,e2 .s,e2 .l,e2 .g,en .m,en fun n x=>.r x n,e1 .j,e1 .c,e1 .t,
 ee .l,ee .t,ee .e,ee .L,ee .T,ee .Q,fun K U e f p c=>K 0 e (.f::f) p c,ff .i,ff .a,ff .o,fun K U e f p c=>match f with | x::f=>K 0 e (.n x::f) p c | _=>K 0 e f p c,
 fun K n e f p c=>match e with | .k i::e=>K 0 e f ((i,n)::p) c | _=>K 0 e f p c,
 fun K U e f p c=>K 0 e f [] (.f p::c),
 fun K n e f p c=>match c with | b::a::c=>K 0 e f p (.p n a b::c) | _=>K 0 e f p c,
 fun K U e f p c=>match c,e with | b::a::c,x::e=>K 0 e f p (.s x.tr.2 a b::c) | _,_=>K 0 e f p c,
 e1 .h,ff .B]
def go:Nat→Nat→Cn
 | 0,_=>fun U U f U c=>(f.headD .f,c)
 | k+1,m=>fun n e f p c=>cond (Nat.beq m 0) (f.headD .f,c) (cond (Nat.blt (m%64) 32) ((ops.getD (m%64) id) (go k (m/64)) n e f p c) (go k (m/64) (n*32+(m%64-32)) e f p c))
def lk (c:List Nat) (d:List Int) (m:Nat):Prop×Bool:=((go 999 m 0 [] [] [] []).1.den c d,runs ((go 999 m 0 [] [] [] []).1.dn false) (go 999 m 0 [] [] [] []).2)
theorem _root_.Mine.lb {P:Prop}(c:List Nat) (d:List Int) (m:Nat) (h:(P,true)=lk c d m:=by kernel_rfl):P:=
 (congrArg Prod.fst h).mpr (Mine.la c d _ _ (congrArg Prod.snd h).symm)
end Mine.LA
theorem len0 {α:Type}{l:List α}(h:l.length=0):l=[]:=List.length_eq_zero_iff.mp h
theorem wH {α:Type}{l:List α}{n:Nat}(h:l.length=n+1): ∃a t,l=a::t∧t.length=n:=by cases l with | nil=>exact nomatch h | cons a t=>exact⟨a,t,rfl,Nat.succ.inj h⟩
theorem kf {α:Type}{l:List α}(h:l.length=1): ∃a0,l=[a0]:=by
 obtain⟨a,t,rfl,g⟩:=wH h;obtain rfl:=len0 g;exact⟨a,rfl⟩
theorem rS {α:Type}{l:List α}(h:l.length=2): ∃a0 a1,l=[a0,a1]:=by
 obtain⟨a,t,rfl,g⟩:=wH h;obtain⟨b1,rfl⟩:=kf g;exact⟨a,b1,rfl⟩
theorem Hq {α:Type}{l:List α}(h:l.length=3): ∃a0 a1 a2,l=[a0,a1,a2]:=by
 obtain⟨a,t,rfl,g⟩:=wH h;obtain⟨b1,b2,rfl⟩:=rS g;exact⟨a,b1,b2,rfl⟩
theorem Rl {α:Type}{l:List α}(h:l.length=4): ∃a0 a1 a2 a3,l=[a0,a1,a2,a3]:=by
 obtain⟨a,t,rfl,g⟩:=wH h;obtain⟨b1,b2,b3,rfl⟩:=Hq g;exact⟨a,b1,b2,b3,rfl⟩
theorem Lh {α:Type}{l:List α}(h:l.length=5): ∃a0 a1 a2 a3 a4,l=[a0,a1,a2,a3,a4]:=by
 obtain⟨a,t,rfl,g⟩:=wH h;obtain⟨b1,b2,b3,b4,rfl⟩:=Rl g;exact⟨a,b1,b2,b3,b4,rfl⟩
theorem Lg {α:Type}{l:List α}(h:l.length=6): ∃a0 a1 a2 a3 a4 a5,l=[a0,a1,a2,a3,a4,a5]:=by
 obtain⟨a,t,rfl,g⟩:=wH h;obtain⟨b1,b2,b3,b4,b5,rfl⟩:=Lh g;exact⟨a,b1,b2,b3,b4,b5,rfl⟩
@[elab_as_elim] theorem Rh {P:Nat→Prop}(i:Nat) (h:i<3) (a:P 0) (b:P 1) (c:P 2):P i:=match i,h with | 0,_=>a | 1,_=>b | 2,_=>c
@[elab_as_elim] theorem lt8 {P:Nat→Prop}(i:Nat) (h:i<8) (a:P 0) (b:P 1) (c:P 2) (d:P 3) (e:P 4) (f:P 5) (g:P 6) (k:P 7):P i:=match i,h with | 0,_=>a | 1,_=>b | 2,_=>c | 3,_=>d | 4,_=>e | 5,_=>f | 6,_=>g | 7,_=>k
theorem dC {p:Prop} [Decidable p] (h:decide p=true:=by rfl):p:=of_decide_eq_true h
theorem wC {ks:List Nat}{L p q:Nat}(hp:p<L) (hq:q<L) (hn:p≠q) (hk:ks.Nodup):(ks.map (L+ ·)++[p,q]).Nodup:=by
 have h: ∀x,x<L→x∉ks.map (L+ ·):=fun x hx hm=>by
  obtain⟨k,_,e⟩:=List.mem_map.mp hm;exact absurd (e ▸ hx) (Nat.not_lt.mpr (Nat.le_add_right _ _))
 refine List.nodup_append.mpr ⟨?_,?_,?_⟩
 ·exact List.Pairwise.map _ (fun U U h e=>h (Nat.add_left_cancel e)) hk
 ·exact .cons (fun y hy e=>hn (e.trans (List.mem_singleton.mp hy))) (.cons (fun U h=>nomatch h) .nil)
 ·intro a ha b hb e;rw[e] at ha
  rcases List.mem_cons.mp hb with e | hb
  ·exact h p hp (e ▸ ha)
  ·exact h q hq (List.mem_singleton.mp hb ▸ ha)
theorem ar1:-(10000000:Int)≤-(1:Int):=Int.natCast_nonneg _
theorem ar2:-(10000000:Int)≤(1:Int):=Int.natCast_nonneg _
theorem ar3:-(10000000:Int)≤(2:Int):=Int.natCast_nonneg _
theorem OD:-(1000000:Int)≤(0:Int):=Int.natCast_nonneg _
theorem ar7:-(1000000:Int)≤(4:Int):=Int.natCast_nonneg _
theorem ar8:-(1000000:Int)≤(65024:Int):=Int.natCast_nonneg _
theorem ar9:-(1000000:Int)≤(65040:Int):=Int.natCast_nonneg _
theorem ara:-(1000000:Int)≤(8:Int):=Int.natCast_nonneg _
theorem arc:-(1:Int)<(0:Int):=Int.natCast_nonneg _
theorem ard:-(1:Int)≤(10000000:Int):=Int.natCast_nonneg _
theorem NR:(0:Int)≤(1000000:Int):=Int.natCast_nonneg _
theorem arg:(0:Int)≤(16:Int):=Int.natCast_nonneg _
theorem arh:(1:Int)≤(10000000:Int):=Int.natCast_nonneg _
theorem ari:(2:Int)≤(10000000:Int):=Int.natCast_nonneg _
theorem arl:(4:Int)≤(1000000:Int):=Int.natCast_nonneg _
theorem arm:(65024:Int)≤(1000000:Int):=Int.natCast_nonneg _
theorem arn:(65040:Int)≤(1000000:Int):=Int.natCast_nonneg _
theorem aro:(8:Int)=(0:Int)+((8:Nat):Int):=by intros;rfl
theorem arp:(8:Int)≤(1000000:Int):=Int.natCast_nonneg _
theorem arr:(9:Int)≤(1000000:Int):=Int.natCast_nonneg _
theorem ars:0<1:=Nat.le_add_left _ _
theorem art:0≤1:=Nat.le_add_left _ _
theorem arv:1≤1:=Nat.le_add_left _ _
theorem ary:3≤4:=Nat.le_add_left _ _
theorem arz:4≤4-0:=Nat.le_add_left _ _
theorem Am:4≤4:=Nat.le_add_left _ _
theorem ż:6≤16777216:=Nat.le_add_left _ _
theorem OS:97≤46→False:=by intros;simp_all
theorem Ż{a:Int}:a%(12:Int)%(2:Int)=a%(2:Int):=by intros;simp_all
theorem ź{a:Int}:-(10000000:Int)≤a→a≤(10000000:Int)→-(2:Int)^63≤a∧a<(2:Int)^63:=lb [] [a] 0x6178425e10a26178428578428934d4402820820820820820820a013c1242820820820820820820a0f0a0d25c6904f0490a0d25c69
theorem Ź{a:Int}:-(1000000:Int)≤a→-(10000000:Int)≤a+(-(1:Int)+(1:Int)):=lb [] [a] 0x185e10978428533c30c28490a10490a0d25c693c1242832c3e
theorem Ÿ{a:Int}:-(1000000:Int)≤a→-(10000000:Int)≤a+((1:Int)-(1:Int)):=lb [] [a] 0x6178425e10a14cf0c40a10a10490a0d25c693c1242832c3e
theorem ŷ{a:Int}:-(1000000:Int)≤a→-(10000000:Int)≤a+((2:Int)-(1:Int)):=lb [] [a] 0x6178425e10a14cf0c40a10a20490a0d25c693c1242832c3e
theorem xx{a:Int}:-(1000000:Int)≤a→-(10000000:Int)≤a:=fun h=>Int.le_trans (by decide) h
theorem Ŷ{a:Int}:-(9223372036854775808:Int)≤a→a<(9223372036854775808:Int)→-(2:Int)^63≤a∧a<(2:Int)^63:=by intros;simp_all
theorem ŵ{a:Int}:(0:Int)≤a→((Int.toNat a:Nat):Int)=a:=lb [] [a] 0x196178425e10a26178428578428d96178425e10a261784285784291344128b04f042
theorem OQ{a:Int}:(0:Int)≤a→-((27:Nat):Int)≤a:=fun h=>Int.le_trans (by decide) h
theorem Ŵ{a:Int}:(0:Int)≤a→-(10:Int)≤a:=fun h=>Int.le_trans (by decide) h
theorem E7{a:Int}:(0:Int)≤a→¬a<(0:Int):=fun h=>Int.not_lt.mpr h
theorem ų{a:Int}:Int.toNat (max (0:Int) a)=Int.toNat a:=lb [] [a] 0x196178428598585e10978428978429598985e10a45e10a76178425e10a25e10a55e10a96585e10978428998985e10a15e10a46616178428578429978429d85e1097842897842997842a4e2c12c6042
theorem Ų{a:Int}:a<(2:Int)^63→¬a≥(2:Int)^63:=by intros;simp_all
theorem ű{a:Int}:a<(12:Int)→Int.toNat a<12:=by intros;simp_all
theorem Ű{a:Int}:a<(1:Int)→Int.toNat a=0:=lb [] [a] 0x6585e10a15e10a36178425e10a15e10a36178428533822c1402841
theorem OO{a:Int}:a<(27:Int)→a<((27:Nat):Int):=by intros;assumption
theorem ů{a:Int}:a≤(1000000:Int)→a+(-(1:Int)+(1:Int))≤(10000000:Int):=lb [] [a] 0x185e10978428533c2834971a430c28490a104f0a0cb0f81
theorem Ů{a:Int}:a≤(1000000:Int)→a+((1:Int)-(1:Int))≤(10000000:Int):=by lia
theorem ŭ{a:Int}:a≤(1000000:Int)→a+((2:Int)-(1:Int))≤(10000000:Int):=lb [] [a] 0x6178425e10a14cf0a0d25c690c40a10a204f0a0cb0f81
theorem xv{a:Int}:a≤(1000000:Int)→a≤(10000000:Int):=fun h=>Int.le_trans h (by decide)
theorem Ŭ{a:Int}:a≤(1048576:Int)→a≤((1048576:Nat):Int):=by intros;assumption
theorem ū{a:Int}:¬(9:Int)<a→Int.toNat a<10:=lb [] [a] 0x196178428578428d85e10978428578428d3342a8b0564010a9
theorem Ū{a:Int}:¬(9:Int)<a→a<(10:Int):=lb [] [a] 0x6178425e10a14d00aa0564010a9
theorem OM{a:Int}:¬a<(0:Int)→(0:Int)≤a:=by intros;simp_all
theorem ũ{a:Int}:¬a<(0:Int)→a=((Int.toNat a:Nat):Int):=lb [] [a] 0x6585e10978428985e10a15e10a46585e10978428985e10a15e10a34d128b041590081
theorem Ũ{a:Nat}{b:Int}:(0:Int)≤b→-(a:Int)≤b:=lb [a] [b] 0x185e10978428533c124a00f042
theorem ŧ{a:Nat}{b:Int}:97≤a→(0:Int)≤b→(0:Int)≤(a:Int)-(32:Int)+b*(32:Int):=lb [a] [b] 0x6178425e08428578428934cf0c88210440a084a0023c108c002863
theorem Ŧ{a:Nat}{b:Int}:a≤122→b<(2:Int)→(a:Int)-(32:Int)+b*(32:Int)≤(1114111:Int):=lb [a] [b] 0x6178425e08428578428934cf0bffff8610c88210440a084a0100a204c0ba8c0
theorem Jl{a:Nat}{b:Int}:b<(1000000:Int)→(a:Int)=b→a<1000000:=lb [a] [b] 0x6178425e10a25e10a34d3342832c3e01104a0100a0cb0f81
theorem Jk{a:Nat}{b:Int}:b=(a:Int)→(a:Int)-(a:Int)≤(0:Int):=by intros;simp_all
section
variable{a b c d e f g h:Nat}
theorem ť:(((a+1)%2:Nat):Int)=(0:Int)→¬(a+1)%2=1:=la [(a+1)/2,(a+1)%2,a] [] (.i (.e (.a (.m 2 (.v 0)) (.v 1)) (.a (.v 2) (.k 1))) (.i (.t (.v 1) (.k 2)) (.i (.Q (.c (.v 1)) (.k 0)) (.n (.e (.v 1) (.k 1)))))) [.f [(4,1),(5,1)]] (by kernel_rfl) (nD _ _) (nM _ nB)
theorem Ť:(((a+1)%2:Nat):Int)≠(0:Int)→(a+1)%2=1:=la [(a+1)/2,(a+1)%2,a] [] (.i (.e (.a (.m 2 (.v 0)) (.v 1)) (.a (.v 2) (.k 1))) (.i (.t (.v 1) (.k 2)) (.i (.n (.Q (.c (.v 1)) (.k 0))) (.e (.v 1) (.k 1))))) [.f [(2,1),(4,1)],.f [(3,1),(4,1)],.f [(2,1),(4,1)],.f [(3,1)]] (by kernel_rfl) (nD _ _) (nM _ nB)
theorem ţ:((1+a%2:Nat):Int)≤(1000000:Int):=la [a/2,a%2,a] [] (.i (.e (.a (.m 2 (.v 0)) (.v 1)) (.v 2)) (.i (.t (.v 1) (.k 2)) (.L (.c (.a (.k 1) (.v 1))) (.k 1000000)))) [.f [(2,1),(3,1)]] (by kernel_rfl) (nD _ _) (nM _ nB)
theorem Ţ:((a+1:Nat):Int)=(a:Int)+(1:Int):=by intros;rfl
theorem š:a/16*16+a%16=a:=la [a/16,a%16,a] [] (.i (.e (.a (.m 16 (.v 0)) (.v 1)) (.v 2)) (.i (.t (.v 1) (.k 16)) (.e (.a (.r (.v 0) 16) (.v 1)) (.v 2)))) [.f [(1,1),(3,1)],.f [(0,1),(3,1)]] (by kernel_rfl) (nD _ _) (nM _ nB)
theorem Š:1+30+(1+30+(0+(1+(1+(1+(6*a+0))))))≤70+6*a:=lb [a] [] 0x6178423031e60029a20c30c30c30c21e60028428428420c2f828430be0a1
theorem ş:2000*(a+1)+2000≤2000*(a+2):=lb [a] [] 0x617842307c3e8430a20030b0fa11f0fa10c2840
theorem Ş:4*a-a=3*a:=lb [a] [] 0x6585e10a16178425e10a26585e10978428585e10978428ce1e3004007900
theorem ŝ:a+2+3≤a+7:=by intros;simp_all
theorem Ŝ:a+3+2≤a+5:=by intros;simp_all
theorem ś:a+5+2≤a+7:=by intros;simp_all
theorem OL:a-1=0→(0:Int)=((a-1:Nat):Int):=fun h=>h ▸ rfl
theorem Ś:a/16%27=(a/16+1+a/432%26)%27→False:=by lia
theorem ř:(a:Int)%(16:Int)=((a%16:Nat):Int):=by intros;rfl
theorem Ř:(a:Int)+(1:Int)=((a+1:Nat):Int):=by intros;rfl
theorem ŗ:(a:Int)+(1:Int)≠(0:Int):=lb [a] [] 0x185e10a15910830a1280
theorem Ŗ:(a:Int)/(16:Int)=((a/16:Nat):Int):=by intros;rfl
theorem OJ:-(2:Int)^63≤(a:Int):=Int.natCast_nonneg _
theorem ŕ:-(1000000:Int)≤((1+a%2:Nat):Int):=Int.natCast_nonneg _
theorem Ŕ:-(1000000:Int)≤((3*a:Nat):Int):=Int.natCast_nonneg _
theorem œ:-(1000000:Int)≤((a-1:Nat):Int):=Int.natCast_nonneg _
theorem Œ:-(1000000:Int)≤(a:Int)+(1:Int):=lb [a] [] 0x6178423c30a1280242832c3e
theorem E6:-(1000000:Int)≤(a:Int):=Int.natCast_nonneg _
theorem ő:-(1:Int)<(a:Int)+(1:Int):=Int.natCast_nonneg _
theorem Al:-(1:Int)<(a:Int):=Int.natCast_nonneg _
theorem Ak:-(a:Int)≤(0:Int):=Int.neg_nonpos_of_nonneg (Int.natCast_nonneg _)
theorem OI:-(a:Int)≤(3:Int):=by intros;simp_all
theorem sI:0+1≤a+9:=Nat.le_add_left _ _
theorem Ő:0+a=a:=by intros;simp_all
theorem ŏ:0+a≤a:=by intros;simp_all
theorem Ŏ:(0:Int)<(a:Int)→0<a:=fun h=>(Int.ofNat_lt.mp h)
theorem ō:(0:Int)≤(a:Int)+(32:Int):=lb [a] [] 0x6178423c30a084a002
theorem sH:(0:Int)≤(a:Int):=Int.natCast_nonneg _
theorem Ō:1≤a+1∧a+1≤a+1:=by intros;simp_all
theorem ŋ:1+(3*a+90*a+0)≤100*a+2:=lb [a] [] 0x185e108c0c28879230030c20c7ea20078c00a1
theorem Ŋ:1+(1+90*a+0)≤90*a+2:=lb [a] [] 0x6178423030a21fa8800c30831fa8800a10a1
theorem ŉ:1+(2+(3*a+0))≤3*(a+1):=lb [a] [] 0x6178423078c30a10030c30878c00a20a1
theorem ň:1+a=a+1:=by lia
theorem Ň:1600+(2000*a+0)≤2000*(a+1):=lb [a] [] 0x185e108c1f0fa10c28400c3087c3e8400a0ca1
theorem ņ:16^1≤a→0<a-1:=lb [a] [] 0x6585e10978428985e10978428578429133440a10023000b0
theorem OH:17*(a+1)=17+17*a:=lb [a] [] 0x185e10985e108e0c7c400b11f10c2840
theorem Jj:17+17*a=17*(a+1):=lb [a] [] 0x185e10985e108e1f10c28400c7c400b1
theorem Ņ:(1:Int)≤(a:Int)+(1:Int):=lb [a] [] 0x6178423c30a12800a1
theorem Ji:4-a≤4-a:=by intros;simp_all
theorem ń:6+6*a≤6*(a+1):=lb [a] [] 0x185e108c1e60c28400c79800a6
theorem Ń:85+90*a≤90*(a+1):=lb [a] [] 0x617842307ea20c28400c7ea2002d62
theorem ł:88+90*a≤90*(a+1):=lb [a] [] 0x617842307ea20c28400c7ea2002e22
theorem Ł:Int.toNat ((a:Int)-(32:Int)+(0:Int)*(32:Int))=a-32:=lb [a] [] 0x6585e10978428998585e10a15e10a46178425e10a25e10a66585e10978428998585e10a15e10a46178425e10a25e10a63840a08402c31c2821102821280
theorem ŀ:Int.toNat (-(1:Int)+((a:Int)+(1:Int)))=a:=lb [a] [] 0x196178428585e10978428996178425e10a16178425e10a33802c30c284a0090a1
theorem OG:Int.toNat (-(1:Int)+(a:Int))=a-1:=lb [a] [] 0x6585e10978428998585e10a15e10a46178425e10a25e10a66585e10978428998585e10a15e10a46178425e10a25e10a63840a100b0ca0090a1
theorem Ŀ:min a 3≤16777216:=lb [a] [] 0x6585e10978428585e10978428cc0a08208301428c0
theorem ľ:a=3∨a=5∨a=7→3≤a:=lb [a] [] 0x185e10978428985e10978428985e10978428933000a35553829c03829403828c0
theorem Ľ:a=3∨a=5∨a=7→a≤7:=lb [a] [] 0x6178428578428985e10a15e10a26178428578428933029c05553829c03829403828c0
theorem ļ:a+1<17→¬a=16:=lb [a] [] 0x185e109784285358e0b000d0b10c2840
theorem Ļ:a+1=17→a=16:=by simp
theorem ĺ:a+1≤a+1:=by intros;simp_all
theorem OC:a+1≤a+5:=by intros;simp_all
theorem Aj:a+1≤a+7:=by intros;simp_all
theorem Ĺ:a+1≤100000→a+1≤100000:=Nat.succ_le_of_lt
theorem ĸ:a+1≤100000→a≤16777216:=fun h=>Nat.le_trans (Nat.le_of_lt h) nB
theorem ķ:a+1≤4→a<4:=Nat.succ_le_of_lt
theorem Ķ:a+1≤4→a≤4:=fun h=>Nat.le_of_lt h
theorem ĵ:a+2≤a+5:=by intros;simp_all
theorem Ĵ:a+2≤a+7:=by intros;simp_all
theorem ĳ:a+4≤a+5:=by intros;simp_all
theorem Ĳ:a+6≤a+6:=by intros;simp_all
theorem ı:a+6≤a+7:=by intros;simp_all
theorem İ:a+7≤a+9:=by intros;simp_all
theorem į:a+8≤a+9:=by intros;simp_all
theorem Į:a-(a-2)≤a-(a-2):=by intros;simp_all
theorem ĭ:a-(a-2)≤28:=lb [a] [] 0x6585e10978428998585e10978428978429185e109784289784298c0bc1040a2000
theorem OB:(a:Int)=(0:Int)+(a:Int):=(Int.zero_add _).symm
theorem Ĭ:(a:Int)=(0:Int)→a=0:=by simp
theorem ī:(a:Int)≠(0:Int)→¬a=0:=by simp
theorem Jh:0<a+1:=Nat.le_add_left _ _
theorem OA:0<a-1→(0:Int)<((a-1:Nat):Int):=fun h=>Int.ofNat_lt.mpr h
theorem Oz:0<a→(a:Int)-(1:Int)=((a-1:Nat):Int):=lb [a] [] 0x196178425e10a26178428578429196178425e10a26178428578428d344a10284010284a00d002
theorem Ī:0<a→-(a:Int)≤-(1:Int):=lb [a] [] 0x185e10978428533c90a124a00d002
theorem ĩ:0<a→(0:Int)≤(a:Int):=by intros;simp_all
theorem Ĩ:0<a→Int.toNat (-(1:Int)+(a:Int))=a-1:=lb [a] [] 0x6585e10978428998585e10978429585e10a15e10a35e10a76585e10978428998585e10978429585e10a15e10a35e10a74ce1028402c328024284d002
theorem ħ:0<a→a-1<a:=fun h=>Nat.sub_lt_sub_left h (Nat.lt_succ_self _)
theorem Ai:0<a→(a:Int)≠(0:Int):=lb [a] [] 0x185e109784289359108a00d002
theorem Oy:0<a→a≠0:=lb [a] [] 0x6178425e10a24d638200d002
theorem Ħ:0<a→a≤a-1+1:=fun h=>Nat.le_of_eq (Nat.sub_add_cancel h).symm
theorem ĥ:0=4*a→3≤a→False:=lb [a] [] 0x6178425e40a24d348c0028ce1e4002
theorem Ĥ:0=4-a→a<4→False:=lb [a] [] 0x196178428978428d85e10978428978429534d2342900384002902
theorem ģ:0=a→3≤a→False:=lb [a] [] 0x6178425e10a24d348c0028ce002
theorem E5:0≤3*a:=Nat.le_add_left _ _
theorem E4:0≤4*a:=Nat.le_add_left _ _
theorem Ģ:0≤a+1:=Nat.le_add_left _ _
theorem ġ:0≤a-1:=Nat.le_add_left _ _
theorem E3:0≤a:=Nat.le_add_left _ _
theorem Ġ:1<a+1→(1:Int)<(a:Int)+(1:Int):=fun h=>Int.ofNat_lt.mpr h
theorem E2:1≤a+1:=Nat.le_add_left _ _
theorem ğ:1≤a+4:=Nat.le_add_left _ _
theorem Ah:1≤a+9:=Nat.le_add_left _ _
theorem Ğ:1≤a→((a-1:Nat):Int)=(a:Int)-(1:Int):=fun h=>Int.ofNat_sub h
theorem ĝ:1≤a→0≠a:=lb [a] [] 0x185e109784285358e0023000a1
theorem Ĝ:15<a→¬a≤15:=by intros;simp_all
theorem ě:2≤a+3:=Nat.le_add_left _ _
theorem Ox:2≤a+4:=Nat.le_add_left _ _
theorem Jg:2≤a→a-1<a:=fun h=>Nat.sub_one_lt_of_lt h
theorem xu:2≤a→0<a:=fun h=>Nat.le_of_lt h
theorem Ě:3≤a+3:=Nat.le_add_left _ _
theorem ę:3≤a→(3:Int)*(a:Int)≠(0:Int):=lb [a] [] 0x6178c25e10a24d64421e32803000a3
theorem Ow:3≤a→0<3*a:=lb [a] [] 0x6178c25e10a14cd1e30023000a3
theorem Ę:3≤a→0<a:=fun h=>Nat.lt_of_lt_of_le nB h
theorem ė:3≤a→1≤a:=fun h=>Nat.lt_of_lt_of_le nB h
theorem Ė:4095≤a→15<a:=fun h=>Nat.lt_of_lt_of_le nB h
theorem Jf:97≤a→97+(a-97)=a:=fun h=>Nat.add_sub_cancel' h
theorem ĕ:97≤a→a-32=a→False:=lb [a] [] 0x196178425e10a36178428578429134d238010282100c002863
theorem Ĕ:97≤a→46=a-32→False:=lb [a] [] 0x6585e10978428d85e10978428578429534d23840a08400ae84c002863
theorem Ov:97≤a→97≤a:=Nat.succ_le_of_lt
theorem ē:a<16^8→Int.natAbs (-(a:Int))<16^8:=lb [a] [] 0x198585e10a26585e10978428578428d78429985e10a15e10a35e10a64cd0a08208208246c9280342820820820900
theorem Ē:a<16^8→a/16<16^8:=la [a,a/16,a%16] [] (.i (.e (.a (.m 16 (.v 1)) (.v 2)) (.v 0)) (.i (.t (.v 2) (.k 16)) (.i (.t (.v 0) (.k 4294967296)) (.t (.v 1) (.k 4294967296))))) [.f [(1,1),(3,1),(4,16)]] (by kernel_rfl) (nD _ _) (nM _ nB)
theorem đ:a<16^8→a<2^64:=fun h=>Nat.le_trans h nB
theorem Je:a<2^63→¬(a:Int)≥(2:Int)^63:=lb [a] [] 0x185e109784285358f2800a0820820820820820828342820820820820820820a00
theorem Đ:a<2^8→(a:Int)+(32:Int)≤(1114111:Int):=lb [a] [] 0x185e10978428533c2ffffe18430a084a00d0a0a00
theorem ď:a<a+1:=by intros;simp_all
theorem Ď:a<16→(65024:Int)+(a:Int)≤(1114111:Int):=lb [a] [] 0x6178425e10a14cf0bffff8610ca002830fe1342c00
theorem č:a<16→(0:Int)≤(65024:Int)+(a:Int):=lb [a] [] 0x6178428533c32800a0c3f842342c00
theorem Č:a<16→97≤97+a∧97+a≤112:=lb [a] [] 0x185e10a16178425e10a14d4302c230c00a18cc0c00a18c2863342c00
theorem E1:a<2→a=0∨a=1:=lb [a] [] 0x185e10978428985e10a15e10a26178425e10a261784285354e0a100e080342880
theorem Ou:a<2→(a:Int)<(2:Int):=fun h=>Int.ofNat_lt.mpr h
theorem ċ:a<3→min (a+1) 3=a+1:=lb [a] [] 0x6178428596178428578428d85e10978428578428d33830a10050a30c28403428c0
theorem Ċ:a<4→4-a=3-a+1:=lb [a] [] 0x196178425e10a26616178425e10a56178428578428d78429d98585e10978428996178425e10a56178428578429178429933830a11000a31000a4342900
theorem ĉ:a<4→a+(3-a)=3:=fun h=>Nat.add_sub_cancel' (Nat.le_of_lt_succ h)
theorem Jd:a<4→(a:Int)≤(1000000:Int):=lb [a] [] 0x185e10978428533c2832c3e280342900
theorem Ĉ:a<4→a<8:=fun h=>Nat.le_trans h nB
theorem Ot:a<4→a≤16777216:=fun h=>Nat.le_trans (Nat.le_of_lt h) nB
theorem ć:a<4→a≤4:=fun h=>Nat.le_of_lt h
theorem Ć:a<8→a≤7:=lb [a] [] 0x185e10978428533029c0342a00
theorem ą:a<9800→a+1<9900:=fun h=>Nat.lt_of_le_of_lt h nB
theorem Ą:a<a→False:=Nat.lt_irrefl _
theorem ă:a=97+a-97:=by intros;simp_all
theorem Ă:a=0-0→a=0:=by intros;assumption
theorem ā:a=15→a≠0:=lb [a] [] 0x185e10978428d358e080382bc0
theorem Oq:a=17→15<a:=fun h=>h ▸ Nat.le_of_ble_eq_true rfl
theorem Ā:a=17→a≤100000:=fun h=>h ▸ Nat.le_of_ble_eq_true rfl
theorem ÿ:a=3→-(1000000:Int)≤(0:Int):=by intros;simp_all
theorem þ:a=3→-(1000000:Int)≤(4:Int):=by intros;simp_all
theorem ý:a=3→(0:Int)≤(1000000:Int):=by intros;simp_all
theorem ü:a=3→(4:Int)≤(1000000:Int):=by intros;simp_all
theorem û:a=3→a≤16777216:=lb [a] [] 0x617842857842893302820820c003828c0
theorem E0:a=4→(0:Int)<(a:Int):=by intros;simp_all
theorem Oo:a=4→(3:Int)<(a:Int):=by intros;simp_all
theorem Om:a=4→0<a:=by intros;simp_all
theorem Ol:a=4→a≤10:=fun h=>h ▸ Nat.le_of_ble_eq_true rfl
theorem ky:a=4→a≤16777216:=fun h=>h ▸ Nat.le_of_ble_eq_true rfl
theorem ú:a=8→a≤16777216:=fun h=>h ▸ Nat.le_of_ble_eq_true rfl
theorem ù:a≠0→a/16<a:=fun h=>Nat.div_lt_self (Nat.pos_of_ne_zero h) nB
theorem ø:a≠0→a/16=0→a%16≠0:=la [a,a/16,a%16] [] (.i (.e (.a (.m 16 (.v 1)) (.v 2)) (.v 0)) (.i (.t (.v 2) (.k 16)) (.i (.n (.e (.v 0) (.k 0))) (.i (.e (.v 1) (.k 0)) (.n (.e (.v 2) (.k 0))))))) [.f [(0,1),(3,1),(5,16),(7,1)],.f [(1,1),(3,1),(4,16),(6,1)]] (by kernel_rfl) (nD _ _) (nM _ nB)
theorem ö:a≤3*a:=by grind
theorem Jc:a≤4*a:=by grind
theorem Jb:a≤0→a=0:=by simp
theorem õ:a≤0→a≤1:=Nat.le_succ_of_le
theorem Ja:a≤10→3+a+3≤16777216:=by lia
theorem EZ:a≤10→3+a≤16777216:=lb [a] [] 0x6178425e10a14cc0a08208300c00a3302a80
theorem Oj:a≤10→a*20≤200:=lb [a] [] 0x617d025e10a14cc0a8988d00302a80
theorem ô:a≤10→a+1≤11:=Nat.lt_succ_of_le
theorem I9:a≤10→a+3≤16777216:=by lia
theorem ó:a≤10→a≤10:=by intros;assumption
theorem ò:a≤10→a≤1000:=fun h=>Nat.le_trans h nB
theorem ñ:a≤10→a≤100000:=fun h=>Nat.le_trans h nB
theorem Oi:a≤10→a≤11:=Nat.le_succ_of_le
theorem ð:a≤10→a≤16777215:=fun h=>Nat.le_trans h nB
theorem I8:a≤10→a≤16777216:=fun h=>Nat.le_trans h nB
theorem ï:a≤100→a≤100:=by intros;assumption
theorem î:a≤100→a≤1000:=fun h=>Nat.le_trans h nB
theorem í:a≤100→a≤10000:=fun h=>Nat.le_trans h nB
theorem ì:a≤100→a≤900:=lb [a] [] 0x185e109784285330293c00c0a48c0
theorem ë:a≤1000→((a-1:Nat):Int)≤(1000000:Int):=fun h=>Int.ofNat_le.mpr (Nat.le_trans (Nat.sub_le _ _) (Nat.le_trans h nB))
theorem Oh:a≤1000→-(1000000:Int)≤(0:Int):=by intros;simp_all
theorem ê:a≤1000→-(1000000:Int)≤(4:Int):=by intros;simp_all
theorem é:a≤1000→-(1000000:Int)≤(a:Int):=by intros;simp_all
theorem Og:a≤1000→(0:Int)≤(1000000:Int):=by intros;simp_all
theorem è:a≤1000→(4:Int)=(0:Int)+((4:Nat):Int):=by intros;rfl
theorem ç:a≤1000→(4:Int)≤(1000000:Int):=by intros;simp_all
theorem Of:a≤1000→a-1≤1000:=fun h=>Nat.le_trans (Nat.sub_le _ _) h
theorem æ:a≤1000→(a:Int)=(0:Int)+(a:Int):=by intros;simp_all
theorem Oe:a≤1000→(a:Int)≤(1000000:Int):=fun h=>Int.le_trans (Int.ofNat_le.mpr h) (by decide)
theorem å:a≤1000→a<2^63:=fun h=>Nat.lt_of_le_of_lt h nB
theorem I7:a≤1000→a≤100000:=fun h=>Nat.le_trans h nB
theorem ä:a≤1000→a≤1001:=Nat.le_succ_of_le
theorem ã:a≤1000→a≤1003:=fun h=>Nat.le_trans h nB
theorem I6:a≤1000→a≤16000000:=fun h=>Nat.le_trans h nB
theorem xt:a≤1000→a≤16777216:=fun h=>Nat.le_trans h nB
theorem â:a≤100000→1+a≤16777216:=lb [a] [] 0x185e1097842853302820820c0300284c0a0d618c0
theorem á:a≤100000→17+(a-17)≤100000:=lb [a] [] 0x196178428578428d85e10978428578428d33028358630c40b1002c4c0a0d618c0
theorem xr:a≤100000→a<2^63:=fun h=>Nat.lt_of_le_of_lt h nB
theorem à:a≤100000→a≤16777000:=fun h=>Nat.le_trans h nB
theorem Od:a≤100000→a≤16777216:=fun h=>Nat.le_trans h nB
theorem Oc:a≤1000000→-(2:Int)^63≤(a:Int)∧(a:Int)<(2:Int)^63:=lb [a] [] 0x185e10a16178425e10a14d4402820820820820820820a0a00f280242820820820820820820a0c0a0cb0f80
theorem Ag:a≤1000000→a<2^63:=fun h=>Nat.lt_of_le_of_lt h nB
theorem EY:a≤1000000→a≤16777216:=fun h=>Nat.le_trans h nB
theorem Ob:a≤11→a≤20:=fun h=>Nat.le_trans h nB
theorem ß:a≤112→a-97<16:=fun h=>Nat.lt_succ_of_le (Nat.sub_le_sub_right h 97)
theorem Oa:a≤112→a≤122:=fun h=>Nat.le_trans h nB
theorem Þ:a≤128→Int.natAbs (a:Int)<1073741824:=fun h=>Nat.lt_of_le_of_lt h nB
theorem Ý:a≤16000000→a≤16777216+1:=lb [a] [] 0x6178425e10a14cc0c2842820820c00302820a68bc0
theorem Ü:a≤16000000→a≤16000000:=by intros;assumption
theorem Û:a≤16000000→a≤16000001:=Nat.le_succ_of_le
theorem Ú:a≤16000000→a≤16777216:=fun h=>Nat.le_trans h nB
theorem Ù:a≤16777000→a+2≤16777216:=lb [a] [] 0x6178425e10a14cc0a08208300c2880302a39fffbc0
theorem Ø:a≤16777216→a+1≤16777216+1:=Nat.lt_succ_of_le
theorem Ö:a≤16777216→(a:Int)<(2:Int)^63:=lb [a] [] 0x6178425e10a14d00a0820820820820820828280302820820c00
theorem Õ:a≤16777216→¬a>16777216:=fun h=>Nat.not_lt.mpr h
theorem Ô:a≤20→1+a≤16777216:=lb [a] [] 0x6178425e10a14cc0a08208300c00a1302d00
theorem Ó:a≤200→a<2^63:=fun h=>Nat.lt_of_le_of_lt h nB
theorem Ò:a≤27→Int.natAbs (a:Int)<1073741824:=fun h=>Nat.lt_of_le_of_lt h nB
theorem Ñ:a≤28→3+a+3+1≤16777216:=lb [a] [] 0x6178425e10a14cc0a08208300c28430a30c00a3302f00
theorem Ð:a≤28→3+a+3≤16777216:=lb [a] [] 0x185e1097842853302820820c030a30c00a3302f00
theorem Ï:a≤28→3+a≤16777216:=lb [a] [] 0x6178425e10a14cc0a08208300c00a3302f00
theorem Î:a≤28→a+3≤16777216:=lb [a] [] 0x6178425e10a14cc0a08208300c28c0302f00
theorem EX:a≤28→a≤1000:=fun h=>Nat.le_trans h nB
theorem Í:a≤3→a≤1000:=fun h=>Nat.le_trans h nB
theorem Ì:a≤4→a*20≤80:=lb [a] [] 0x617d025e10a14cc0b0888d00302900
theorem Ë:a≤4→(a:Int)≤(1000000:Int):=fun h=>Int.le_trans (Int.ofNat_le.mpr h) (by decide)
theorem Ê:a≤4→a<5:=Nat.lt_succ_of_le
theorem É:a≤4→a≤10:=fun h=>Nat.le_trans h nB
theorem È:a≤4→a≤100:=fun h=>Nat.le_trans h nB
theorem I5:a≤44→a≤1000:=fun h=>Nat.le_trans h nB
theorem Ç:a≤5→a≤1000:=fun h=>Nat.le_trans h nB
theorem Æ:a≤7→((3*a:Nat):Int)≤(1000000:Int):=lb [a] [] 0x185e30978428533c2832c3e2878c03029c0
theorem Å:a≤7→4*a-1+1≤1000:=fun h=>Nat.le_trans (Nat.add_le_add_right (Nat.le_trans (Nat.sub_le _ _) (Nat.mul_le_mul_left 4 h)) 1) nB
theorem Ä:a≤7→4*a-1+1≤16777216:=lb [a] [] 0x196178428578428d85e40978428578428d3302820820c030a11028479003029c0
theorem Ã:a≤7→3+(4*a-1)+3≤16777216:=fun h=>Nat.le_trans (Nat.add_le_add_right (Nat.add_le_add_left (Nat.le_trans (Nat.sub_le _ _) (Nat.mul_le_mul_left 4 h)) 3) 3) nB
theorem Â:a≤7→-(1000000:Int)≤(0:Int):=by intros;simp_all
theorem Á:a≤7→-(1000000:Int)≤(4:Int):=by intros;simp_all
theorem À:a≤7→(0:Int)≤(1000000:Int):=by intros;simp_all
theorem Z9:a≤7→3+(4*a-1)≤16777216:=fun h=>Nat.le_trans (Nat.add_le_add_left (Nat.le_trans (Nat.sub_le _ _) (Nat.mul_le_mul_left 4 h)) 3) nB
theorem Z8:a≤7→(4:Int)=(0:Int)+((4:Nat):Int):=by intros;rfl
theorem Z7:a≤7→(4:Int)≤(1000000:Int):=by intros;simp_all
theorem Z6:a≤7→(a:Int)≤(1000000:Int):=fun h=>Int.le_trans (Int.ofNat_le.mpr h) (by decide)
theorem N9:a≤7→a≤1000:=fun h=>Nat.le_trans h nB
theorem N8:a≤7→a≤16777216:=fun h=>Nat.le_trans h nB
theorem Z5:a≤8→a≤1099511627776:=fun h=>Nat.le_trans h nB
theorem I4:a≤8→a≤16777216:=fun h=>Nat.le_trans h nB
theorem Z4:a≤80→a≤1000:=fun h=>Nat.le_trans h nB
theorem N7:a≤800→a≤1000:=fun h=>Nat.le_trans h nB
theorem Z3:a≤800→a≤899:=fun h=>Nat.le_trans h nB
theorem N6:a≤800→a≤999:=fun h=>Nat.le_trans h nB
theorem Z2:a≤899→a≤1000:=fun h=>Nat.le_trans h nB
theorem Z1:a≤899→a≤900:=Nat.le_succ_of_le
theorem Z0:a≤899→a≤999:=fun h=>Nat.le_trans h nB
theorem ZZ:a≤900→a≤1000:=fun h=>Nat.le_trans h nB
theorem Af:a≤a:=by intros;simp_all
theorem ZY:¬((63:Nat):Int)<(a:Int)→a≤1000:=lb [a] [] 0x185e1097842853302a3f01640a002fe1
theorem ZX:¬(0:Int)<(a:Int)→a=0:=lb [a] [] 0x6178425e10a161784285338201640a002
theorem ZW:¬a-1<0:=by intros;simp_all
theorem ZV:¬a/16=0→a/16<a:=la [a/16,a%16,a] [] (.i (.e (.a (.m 16 (.v 0)) (.v 1)) (.v 2)) (.i (.t (.v 1) (.k 16)) (.i (.n (.e (.v 0) (.k 0))) (.t (.v 0) (.v 2))))) [.f [(1,1),(3,15),(4,1)],.f [(3,1)]] (by kernel_rfl) (nD _ _) (nM _ nB)
theorem Ae:¬(a:Int)<(0:Int):=Int.not_lt.mpr (Int.natCast_nonneg _)
theorem ZU:¬1<a+1→¬(1:Int)<(a:Int)+(1:Int):=lb [a] [] 0x6178425e10a14d64030a12800a158d0c28400a1
theorem ZT:¬a<0:=by intros;simp_all
theorem ZS:¬a<2→(2:Int)≤(a:Int):=lb [a] [] 0x185e10978428533ca002896342880
theorem ZR:¬a<2→a-1=0→False:=lb [a] [] 0x196178425e10a36178425e10a25e10a54d348e0840a1016342880
theorem ZQ:¬a<2→0<a:=lb [a] [] 0x185e1097842853340096342880
theorem ZP:¬a<2→¬(a:Int)<(2:Int):=lb [a] [] 0x6178425e10a14d640288a016342880
theorem ZO:¬a<a:=Nat.lt_irrefl _
theorem ZN:¬a=0→a/16<a:=la [a,a/16,a%16] [] (.i (.e (.a (.m 16 (.v 1)) (.v 2)) (.v 0)) (.i (.t (.v 2) (.k 16)) (.i (.n (.e (.v 0) (.k 0))) (.t (.v 1) (.v 0))))) [.f [(1,1),(3,15),(4,16)],.f [(3,1)]] (by kernel_rfl) (nD _ _) (nM _ nB)
theorem ZM{a b:Nat}{c:Int}:(0:Int)≤c→c<((b-1:Nat):Int)→Int.toNat c=a→a<b-1:=lb [b,a] [c] 0x6616178425e10a56178428578428978429178429934d33440a100084e0212c140a10284004f042
theorem ZL{a b:Nat}{c:Int}:(a:Int)=max (0:Int) (min c (b:Int))→a≤b:=lb [a,b] [c] 0x196178428578428978429198585e10a15e10a25e10a45e10a6617842857842897842917842a1330084044614a021042280
theorem ZK{a b:Nat}{c:Int}:c<((a+b:Nat):Int)→¬((a+b:Nat):Int)≤c:=by intros;simp_all
theorem ZJ{a b:Nat}{c:Int}:c<((b-1:Nat):Int)→(a:Int)=c→a<b-1:=lb [b,a] [c] 0x185e10978428978428d34cd1028400214412808502840a1001
theorem N5{a b:Nat}{c:Int}:¬c<((a+b:Nat):Int)→((a+b:Nat):Int)≤c:=by intros;simp_all
theorem ZI:(((a/16+b)%27:Nat):Int)<((27:Nat):Int):=Int.ofNat_lt.mpr (nM _ nB)
theorem ZH:(((a/432+b)%3:Nat):Int)≤(1048576:Int):=la [(a/432+b)/3,(a/432+b)%3,a/432,a%432,a,b] [] (.i (.e (.a (.m 432 (.v 2)) (.v 3)) (.v 4)) (.i (.t (.v 3) (.k 432)) (.i (.e (.a (.m 3 (.v 0)) (.v 1)) (.a (.v 2) (.v 5))) (.i (.t (.v 1) (.k 3)) (.L (.c (.v 1)) (.k 1048576)))))) [.f [(5,1),(6,1)]] (by kernel_rfl) (nD _ _) (nM _ nB) (nD _ _) (nM _ nB)
theorem ZG:((1+a%2:Nat):Int)+(b:Int)*(2:Int)=((1+a%2+2*b:Nat):Int):=la [a/2,a%2,a,b] [] (.i (.e (.a (.m 2 (.v 0)) (.v 1)) (.v 2)) (.i (.t (.v 1) (.k 2)) (.Q (.a (.c (.a (.k 1) (.v 1))) (.r (.c (.v 3)) 2)) (.c (.a (.a (.k 1) (.v 1)) (.m 2 (.v 3))))))) [.f [(3,1)],.f [(3,1)]] (by kernel_rfl) (nD _ _) (nM _ nB)
theorem ZF:90*17+2+(70+6*17)+(2000*a+b)≤2000*(a+1)+b:=lb [a,b] [] 0x6178423030211f0fa10c28400c30211f0fa10030c7982c429a20c2887ea20b1
theorem N4:a+1+b-1=a+b:=by intros;simp_all
theorem ZE:a+3+b+1=a+(1+(2+(b+1))):=lb [a,b] [] 0x6178426178423830c30c28408428828400c28430210c28c0
theorem ZD:((a+b:Nat):Int)=((a+1+b:Nat):Int)-(1:Int):=lb [a,b] [] 0x185e10985e109110284a0c08430a100a0c0840
theorem ZC:(a:Int)+(1:Int)+(b:Int)=((a+1+b:Nat):Int):=by intros;rfl
theorem ZA:(a:Int)+(b:Int)=(0:Int)↔a=0∧b=0:=lb [a,b] [] 0x185e10a15e10a26178428985e10a15e10a26178428985e10978428978429185e10978428578428dc50e08084e0804420ca021280
theorem Zz:a+2*b+b=a+3*b:=lb [a,b] [] 0x6178426178423831e30210030210c7880840
theorem Zy:a+(b+1)+1=17→a+1+b=16:=lb [a,b] [] 0x185e10a15e10a26178425e10a24ce0b00c08430a100e0b10c28430c2840840
theorem Zx:a+(b+1)+1=17→a+1<17:=lb [a,b] [] 0x617842857842893342c430a100e0b10c28430c2840840
theorem Zw:a+(b-a)-a=b-a:=by intros;simp_all
theorem Zv:a+1+b=a+b+1:=Nat.succ_add_eq_add_succ _ _
theorem xq:a+1+b=a+(b+1):=Nat.succ_add_eq_add_succ _ _
theorem Zu:a+17+17*b=a+17*(b+1):=lb [a,b] [] 0x185e10985e108e0c7c430a10210031f10210c2c40
theorem Zt:a+2+2*b=a+2*(b+1):=lb [a,b] [] 0x185e10985e108e0c78830a10210031e20210c2880
theorem Zr:a+3+3*b=a+3*(b+1):=lb [a,b] [] 0x185e10985e108e0c78c30a10210031e30210c28c0
theorem N3:a+51+51*b=a+51*(b+1):=lb [a,b] [] 0x6178426178423831f38430a10210031f38408430b3840
theorem N2:a+b-1=Int.toNat ((a:Int)-(1:Int)+(b:Int)):=lb [a,b] [] 0x6585e10978428998585e10a15e10a46178425e10a25e10a66585e10978428998585e10a15e10a46178425e10a25e10a638b0ca02110284a0040a10c0840
theorem Zq:a+b-2=Int.toNat ((a:Int)-(2:Int)+(b:Int)):=lb [a,b] [] 0x6585e10978428998585e10a15e10a46178425e10a25e10a66585e10978428998585e10a15e10a46178425e10a25e10a638b0ca02110288a0040a20c0840
theorem Zo:a+b-97=Int.toNat ((a:Int)+(b:Int)-(97:Int)):=lb [a,b] [] 0x61784261784238b1028630ca0212801028630c0840
theorem I3:a+b-a=b:=by intros;simp_all
theorem N1:a-b+min b a=a:=lb [a,b] [] 0x196616178428578428d85e10978428978429585e10978428998596178428578428d85e10978428978429585e109784288e003140021100840
theorem xo:(a:Int)+(b:Int)=((a+b:Nat):Int):=by intros;rfl
theorem Zn:-(2:Int)^63≤(((a/432+b)%3:Nat):Int):=Int.natCast_nonneg _
theorem Zm:-(1000000:Int)≤(a:Int)+(1:Int)+(b:Int):=Int.natCast_nonneg _
theorem kU:-(a:Int)≤(b:Int):=by intros;simp_all
theorem Zk:(0:Int)≤((a+b:Nat):Int):=Int.natCast_nonneg _
theorem Zj:(0:Int)≤(a:Int)+(b:Int):=Int.natCast_nonneg _
theorem Zi:1+(1+2000*(a+2)+(1+(b+0)))≤2000*(a+2)+b+3:=lb [a,b] [] 0x185e108c0c28c30211f0fa10c28800c30c30808428431f0fa10c28800a10a1
theorem Zh:17*(a+1)<b→17*(a+1)+(b-17*(a+1))=b:=fun h=>Nat.add_sub_cancel' (Nat.le_of_lt h)
theorem Zg:17*(a+1)<b→17*a≤b-17:=fun h=>Nat.le_sub_of_add_le (Nat.le_of_lt h)
theorem Zf:17*(a+1)<b→min (17*(a+1)) b=0→False:=lb [a,b] [] 0x196178428978429185e10978428d34d2382140847c430a100d0211f10c2840
theorem Ze:17*(a+1)<b→b-17*(a+1)=0→False:=fun h1 h3=>Nat.ne_of_gt (Nat.sub_pos_of_lt h1) h3
theorem Zd:17*(a+1)≤b→17*a≤b-17:=fun h=>Nat.le_sub_of_add_le h
theorem N0:17*(b+1)<a→min 17 a=17:=lb [b,a] [] 0x185e10a16585e10a15e10a36178425e10a24ce0b1140842c4d0211f10c2840
theorem Zc:17*(b+1)≤a→min 17 a=17:=lb [b,a] [] 0x185e10a16585e10a15e10a36178425e10a15e10a34ce0b1140842c4c0211f10c2840
theorem Zb:Int.toNat ((a:Int)+(b:Int))=a+b:=by intros;rfl
theorem Za:Int.toNat ((a:Int)-(b:Int))=a-b:=by intros;simp_all
theorem Y9:a=0∨b<a→¬b<a→a=0:=lb [a,b] [] 0x185e10a15e10a36178425e10a36178425e10a16178425e10a14d338201634002154d00084e080
theorem Y8:a+(b+1+1+1)=a+3+b:=lb [a,b] [] 0x185e10985e108e0c08430a30030c28430a10c2840840
theorem NZ:a+10*(b+1)<9000→a+1+10*b<9000:=lb [a,b] [] 0x185e1097842853342a39a031ea0210c2840342a39a031ea0c2840840
theorem NY:a+10*(b+1)<9000→a+3+10*b<9000:=lb [a,b] [] 0x185e1097842853342a39a031ea0210c28c0342a39a031ea0c2840840
theorem Y7:a+10*(b+2)<9000→a+1+1<9900:=lb [a,b] [] 0x185e1097842853342b35a430a10c2840342a39a031ea0c2880840
theorem Y6:a+10*b<9000→a+64<9900:=lb [a,b] [] 0x6178425e10a14cd0acd690c282200d0a8e680c7a80840
theorem Y5:a+10*b<9000→a<9800:=lb [a,b] [] 0x6178425e10a14cd0a8ca900d0a8e680c7a80840
theorem Y4:a+10*b<9000→a<9900:=lb [a,b] [] 0x6178425e10a14cd0acd6900d0a8e680c7a80840
theorem Y3:a+b*a=b*a+1*a:=lb [a,b*a] [] 0x185e10985e108e0c78400210c0840
theorem Y2:a+(b+1)<17→a+1+b<17:=lb [a,b] [] 0x185e1097842853342c430210c2840342c430c2840840
theorem Y1:a+(b+1)<17→a+1<17:=lb [a,b] [] 0x6178425e10a14cd0b10c2840342c430c2840840
theorem I1:a+(b+1)<900→a+1+b<900:=lb [a,b] [] 0x185e109784285334293c0c08430a100d0a4f030c2840840
theorem Y0:a+(b+1)<900→a+b<900:=fun h=>Nat.le_of_lt h
theorem NX:a+(b+1)<900→a<1000:=lb [a,b] [] 0x185e1097842853342a3f00d0a4f030c2840840
theorem YZ:a+(b+1)=a+b+1:=by intros;rfl
theorem I0:a+(b+1)≤100000→a+1+b≤100000:=lb [a,b] [] 0x185e10978428533028358630c08430a100c0a0d618c30c2840840
theorem IZ:a+(b+1)≤100000→a+1≤100000:=lb [a,b] [] 0x6178425e10a14cc0a0d618c30a100c0a0d618c30c2840840
theorem NW:a+1<b→a+1<b:=Nat.succ_le_of_lt
theorem YY:a+1<b→0=4*b→False:=lb [a,b] [] 0x6179025e10a14d348e1e402108d0210c2840
theorem NV:a+1<b→a<b-1:=fun h=>Nat.lt_sub_of_add_lt h
theorem Ad:a+1<b→a<b:=fun h=>Nat.le_of_lt h
theorem YX:a+1≤b→0<a+1:=by intros;simp_all
theorem YW:a+1≤b→a<a+1:=by intros;simp_all
theorem YV:a+1≤b→a<b:=Nat.succ_le_of_lt
theorem NU:a+1≤b→a≤b-1:=fun h=>Nat.le_sub_one_of_lt h
theorem IY:a+1≤b→a≤b:=fun h=>Nat.le_of_lt h
theorem YT:a+3≤a+3+b:=Nat.le_add_right _ _
theorem YS:a+b<900→a<1000:=lb [a,b] [] 0x6178425e10a14cd0a8fc034293c0c0840
theorem NT:a+b≤16000000→a+b≤16777216:=fun h=>Nat.le_trans h nB
theorem YR:a+b≤16000000→a≤16777216:=lb [a,b] [] 0x6178425e10a14cc0a082083000c0a0829a2f0c0840
theorem NS:a-b=a-(b+1)+1→-(a:Int)≤(b:Int)-(1:Int):=lb [a,b] [] 0x196178425e10a46178425e10a25e10a44cf10284a02124a00e0c28440c2840840100840
theorem YQ:a-b=a-(b+1)+1→0<a:=fun h=>Nat.lt_of_le_of_lt (Nat.zero_le _) (Nat.lt_of_sub_eq_succ h)
theorem YN:a-b≤a:=by intros;simp_all
theorem YM:(a:Int)<(b:Int)→a<b:=fun h=>(Int.ofNat_lt.mp h)
theorem YL:b*1000≤101*1000→a≤b*1000→a+b*1≤16777216:=lb [b,a] [] 0x617a7f097a3f0a15e8fc28934cc0a08208300c8840021308a3f00084c1e58c2a3f228fc0
theorem YK:b*1000≤11*1000→a≤b*1000→a+b*1≤16777216:=lb [b,a] [] 0x185e9fc25e8fc2857a3f0a24d3302820820c0322100084c228fc0021307ac2a3f228fc0
theorem YJ:b+(0+1)=a→-(a:Int)≤-(1:Int):=lb [b,a] [] 0x185e10a15e10a24cf24284928084e0210c30a1080
theorem YH:b+(0+1)=a→Int.toNat (-(1:Int)+(a:Int))=b:=lb [b,a] [] 0x196178428578428d85e10978428978429196178428578428978428d85e10a15e10a25e10a54ce00b0ca02124284e0210c30a1080
theorem YG:b+0=a→a≤b:=fun h=>h ▸ Nat.le_refl _
theorem NQ:b+1≤a→0<a:=fun h=>Nat.lt_of_lt_of_le nB h
theorem YF:b+a≤16000000→a≤16000000:=lb [b,a] [] 0x185e1097842853302820a68bc084c0a0829a2f0c0840
theorem YD:b+a≤8→a≤99999:=lb [b,a] [] 0x6178425e10a14cc0bfd218c084c0a80c0840
theorem YC:b-0=a→a≤b-0:=fun h=>h ▸ Nat.le_refl _
theorem NP:b-a=b-(a+1)+1→(a:Int)-(1:Int)<(b:Int):=lb [b,a] [] 0x196178425e10a46178428978428d340a0040a128084e0c28440c2840840100840
theorem YB:b-a=b-(a+1)+1→(a:Int)-(2:Int)<(b:Int):=lb [b,a] [] 0x196178425e10a46178428978428d340a0040a228084e0c28440c2840840100840
theorem Yz:b-a=b-(a+1)+1→(a:Int)<(b:Int):=lb [b,a] [] 0x196178425e10a46178425e10a25e10a44d028028084e0c28440c2840840100840
theorem NN:b-a=0→a≤b→a=b:=lb [b,a] [] 0x6178428978428d96178428d78429185e10a15e10a35e10a64d3380021300021382100840
theorem Yy:0<a+b→a+b≠0:=lb [a,b] [] 0x6178425e10a24d63820c0840343021002
theorem Yx:0<b-a→a<b:=lb [b,a] [] 0x6585e10978428d85e10978428578428d3340021344021002
theorem Yw:0<a→0<a+b:=lb [a,b] [] 0x6178425e10a14cd0c084008d002
theorem Yv:0<b→0<a+b:=lb [b,a] [] 0x6178425e10a14cd0c002108d002
theorem Yu:0<b→a=b→-(a:Int)≤-(1:Int):=lb [b,a] [] 0x185e10978428578428d34cf24284928084e00084d002
theorem Yt:1≤1+a%2+2*b:=la [a/2,a%2,a,b] [] (.i (.e (.a (.m 2 (.v 0)) (.v 1)) (.v 2)) (.i (.t (.v 1) (.k 2)) (.l (.k 1) (.a (.a (.k 1) (.v 1)) (.m 2 (.v 3)))))) [.f [(3,1)]] (by kernel_rfl) (nD _ _) (nM _ nB)
theorem Ys:1≤a→a≤b→1≤a∧a≤b+1:=lb [a,b] [] 0x185e10978428985e10a15e10a24d350c0c28408403000a13008403000a1
theorem Yr:119808≤a→(0:Int)≤(a:Int)+(b:Int)-(97:Int):=lb [a,b] [] 0x6178425e10a14cf1028630ca02128008c002820d63
theorem Yq:2≤a→-(a:Int)≤(b:Int)-(2:Int):=lb [a,b] [] 0x185e10978428533c40a22808492803000a2
theorem Yp:2≤b→a+b-1+b-1=a+b-2+b:=lb [b,a] [] 0x196178425e10a26616178428578428d78429998985e10a15e10a35e10a65e10a86178428578428d7842997842a998985e10978428998585e10978428978429178429596178425e10a86178428578429178429d7842a533830040a20c00211028430040a10c00213000a2
theorem NM:3≤b→a=b→2≤a:=lb [b,a] [] 0x185e10978428578428d34cc0210a23800213000a3
theorem NK:a<a+1+b:=Nat.le_add_right _ _
theorem Yo:a<b+1+2→a<b+3:=Nat.succ_le_of_lt
theorem NI:a<0+b→a<b:=by intros;simp_all
theorem IX:a<b-1→a+1<b:=fun h=>Nat.add_lt_of_lt_sub h
theorem o4:a<b-1→a<b:=fun h=>Nat.lt_of_lt_of_le h (Nat.sub_le _ _)
theorem Yn:a<4→a-b≤16777216:=lb [a,b] [] 0x6585e10a15e10a36178425e10a15e10a34cc0a0820830100840342900
theorem Ym:a<4→a≤4+b:=lb [a,b] [] 0x6178425e10a14cc0c0842900342900
theorem NF:a<4→b=4→(a:Int)<(b:Int):=fun h1 h2=>h2 ▸ Int.ofNat_lt.mpr h1
theorem ND:a<4→b=4→a<b:=by intros;simp_all
theorem Yl:a<8→b=8→(a:Int)<(b:Int):=fun h1 h2=>h2 ▸ Int.ofNat_lt.mpr h1
theorem Yk:a<b→a+(b-a)=b:=lb [a,b] [] 0x6585e10978428985e10a15e10a36585e10978428985e10a15e10a44ce0210c4000840340840
theorem IW:a<b→a+1≤b:=Nat.succ_le_of_lt
theorem Yj:a<b→a+1≥b→a+1=b:=lb [a,b] [] 0x185e10978428985e10a15e10a24d33808430a100c0c2840021340840
theorem Yi:a<b→a-1<b:=lb [a,b] [] 0x196178425e10a15e10a36178425e10a15e10a34cd021102840340840
theorem EW:a<b→(a:Int)<(b:Int):=fun h=>Int.ofNat_lt.mpr h
theorem Yh:a<b→b-1<a+1→a+1=b:=fun h1 h2=>Nat.le_antisymm h1 (Nat.le_of_pred_lt h2)
theorem NC:a<b→b-a=0→False:=lb [a,b] [] 0x6585e10978428d85e10978428978429534d2382100021340840
theorem NB:a<b→a<b+1:=Nat.le_succ_of_le
theorem Yg:a<b→a<b:=Nat.succ_le_of_lt
theorem Yf:a<b→a=b→False:=by intros;simp_all
theorem Ye:a<b→a≤b-1:=fun h=>Nat.le_sub_one_of_lt h
theorem IV:a<b→a≤b:=fun h=>Nat.le_of_lt h
theorem Yd:a<b→b<4→a<4:=fun h1 h2=>Nat.lt_trans h1 h2
theorem args:a<b→b<a→False:=lb [a,b] [] 0x185e10978428534d2340021340840
theorem Yc:a<b→b≤a→False:=by simp
theorem NA:a<b→¬(a:Int)<(0:Int):=by intros;simp_all
theorem Yb:a=3+b%3*2→a=3∨a=5∨a=7:=la [a,b/3,b%3,b] [] (.i (.e (.a (.m 3 (.v 1)) (.v 2)) (.v 3)) (.i (.t (.v 2) (.k 3)) (.i (.e (.v 0) (.a (.k 3) (.r (.v 2) 2))) (.o (.e (.v 0) (.k 3)) (.o (.e (.v 0) (.k 5)) (.e (.v 0) (.k 7))))))) [.f [(2,2),(4,1),(7,1)],.s (.a (.v 2) (.m (-1) (.k 2))) (.f [(3,1),(7,1),(8,2)]) (.f [(4,1),(6,1),(8,2)]),.f [(2,2),(4,1),(7,1)],.s (.a (.v 2) (.m (-1) (.k 1))) (.f [(3,1),(6,1),(8,2)]) (.f [(4,1),(5,1),(8,2)]),.f [(5,1),(6,1)],.f [(5,1),(6,1)],.f [(2,2),(4,1),(7,1)],.f [(3,1),(5,1)]] (by kernel_rfl) (nD _ _) (nM _ nB)
theorem Ya:a=3+b%3*2→(a:Int)≤(1000000:Int):=la [a,b/3,b%3,b] [] (.i (.e (.a (.m 3 (.v 1)) (.v 2)) (.v 3)) (.i (.t (.v 2) (.k 3)) (.i (.e (.v 0) (.a (.k 3) (.r (.v 2) 2))) (.L (.c (.v 0)) (.k 1000000))))) [.f [(2,2),(4,1),(5,1)]] (by kernel_rfl) (nD _ _) (nM _ nB)
theorem X9:a=4*b→a-1=4*b-1:=fun h=>h ▸ rfl
theorem IU:a=4*b→3≤b→-(a:Int)≤-(1:Int):=lb [a,b] [] 0x6178425e40a25e10a34d33c90a124a00c0210a3387900840
theorem X8:a=4*b→3≤b→a-1<a:=lb [a,b] [] 0x196178425e40a25e10a46178428d78429534cd0040a100c0210a3387900840
theorem X7:a=4*b→3≤b→2≤a:=lb [a,b] [] 0x185e10979028978428d34cc00288c0210a3387900840
theorem X6:a=4*b→b≤7→a+3+1≤16777216:=lb [a,b] [] 0x6178428579028978428d34cc0a08208300c28430a300c0a7021387900840
theorem X5:a=4*b→b≤7→a+3≤16777216:=lb [a,b] [] 0x185e10a15e40a25e10a34d3302820820c030a300c0a7021387900840
theorem X4:a=4*b→b≤7→a-1≤28:=fun h1 h2=>h1 ▸ Nat.le_trans (Nat.sub_le _ _) (Nat.mul_le_mul_left 4 h2)
theorem X3:a=4*b→b≤7→a-b≤28:=lb [a,b] [] 0x196178428d78429585e10a15e30a25e10a35e10a54d3302f0402100c0a7021387900840
theorem oZ:a=4*b→b≤7→a≤1000:=lb [a,b] [] 0x185e10a15e40a25e10a34d3302a3f00c0a7021387900840
theorem iT:a=4*b→b≤7→a≤16777216:=lb [a,b] [] 0x6178428579028978428d34cc0a082083000c0a7021387900840
theorem X2:a=4-b→a≤100:=lb [a,b] [] 0x6585e10a15e10a25e10a461784285784289784291330292300e100842900
theorem X0:a=4-b→a≤1000:=fun h=>h ▸ Nat.le_trans (Nat.sub_le _ _) nB
theorem XZ:a=b+1→-(a:Int)≤-(1:Int):=lb [a,b] [] 0x185e10978428933c90a124a00e0c2840840
theorem XY:a=4→a-b≤4:=by intros;simp_all
theorem XX:a=b→0<b→(0:Int)<(a:Int):=fun h1 h2=>h1 ▸ Int.ofNat_lt.mpr h2
theorem Nz:a=b→a≤b:=fun h=>Nat.le_of_eq h
theorem XW:a≤17*(b+1)+15→100*(a-17*(b+1))+2+(70+6*(a-17*(b+1)))+0≤2000:=lb [a,b] [] 0x6585e10a15ea8c28d85ea8c25e10a15ea8c28d3302c3e8430830c79841f10c28408400a68830a21e48c41f10c28408403030af1f10c2840840
theorem XU:a≤a+1+b:=by grind
theorem XT:a≤10000*1000→b≤1000→a+b≤16777216:=lb [a,b] [] 0x6178425e10a15e10a24d3302820820c0302100c0a8fc084c1f0e290a8fc0
theorem EV:a≤a+b:=Nat.le_add_right _ _
theorem XS:a≤b*1000→a≤b*1000+1000:=lb [a,b] [] 0x185e10978428533030a8fc8a3f02100c228fc0840
theorem Ny:a≤b*11→b≤4→a≤44:=lb [a,b] [] 0x6178425eb0a15e10a24d3302b2100c0a4021308ac0840
theorem XR:a≤b+1→b<a→a=b+1:=lb [a,b] [] 0x185e10978428985e10a15e10a24d33830a102100d00084c0c2840840
theorem XQ:a≤10→b≤10→3+a+3+b+3≤16777216:=lb [a,b] [] 0x185e10978428578428934cc0a08208300c28c30210c28c30028cc0aa021302a80
theorem Nw:a≤10→b≤10→3+a+3+b≤16777216:=lb [a,b] [] 0x6178425e10a15e10a24d3302820820c030210c28c30028cc0aa021302a80
theorem XO:a≤10→b≤10→a+3+b+3≤16777216:=lb [a,b] [] 0x6178425e10a15e10a24d3302820820c030a30c08430a300c0aa021302a80
theorem Nv:a≤10→b≤10→a+3+b≤16777216:=lb [a,b] [] 0x185e10978428578428934cc0a08208300c08430a300c0aa021302a80
theorem XN:a≤1000→(a:Int)-(b:Int)≤(1048576:Int):=lb [a,b] [] 0x185e10978428533c282082084428084a00c0a8fc0
theorem XM:a≤1000→a≤1000+b:=lb [a,b] [] 0x6178425e10a14cc0c0842a3f00c0a8fc0
theorem XJ:a≤1000→b≤1000→a+b≤16000000:=lb [a,b] [] 0x6178425e10a15e10a24d3302820a68bc302100c0a8fc084c0a8fc0
theorem XH:a≤1000→b≤8→a-b+b≤16777216:=lb [a,b] [] 0x6585e10a15e10a25e10a46178425e10a25e10a44d3302820820c03021100840302a0084c0a8fc0
theorem XG:a≤1000000→b≤1000000→a+b≤16000000:=lb [a,b] [] 0x6178425e10a15e10a24d3302820a68bc302100c0a0cb0f8084c0a0cb0f80
theorem XF:a≤28→b≤28→a+3+b≤16777216:=lb [a,b] [] 0x185e10978428578428934cc0a08208300c08430a300c0bc021302f00
theorem XD:a≤28→b≤28→a+b≤16777216:=lb [a,b] [] 0x6178425e10a15e10a24d3302820820c0302100c0bc021302f00
theorem XC:a≤7→min a b≤28:=lb [a,b] [] 0x6178425e10a14cc0bc1408403029c0
theorem XB:a≤7→a+b*0≤16777216:=fun h=>Nat.le_trans h nB
theorem XA:a≤7→b<3*a→a+b≤1000:=lb [a,b] [] 0x6179025e10a15e10a24d3302a3f0c08403478c00213029c0
theorem Xz:a≤7→b≤28→3+(4*a-1)+3+b+3≤16777216:=lb [a,b] [] 0x6585e10a15e10a25e10a46179025e10a15e10a25e10a44d3302820820c030a30c08430a30c40a11e40028cc0bc0213029c0
theorem Xy:a≤7→b≤28→3+(4*a-1)+3+b≤16777216:=fun h1 h2=>Nat.le_trans (Nat.add_le_add (Nat.add_le_add_right (Nat.add_le_add_left (Nat.le_trans (Nat.sub_le _ _) (Nat.mul_le_mul_left 4 h1)) 3) 3) h2) nB
theorem IT:a≤b→a+(b-a)=b:=fun h=>Nat.add_sub_cancel' h
theorem Xx:a≤b→a+1≤b+1:=Nat.lt_succ_of_le
theorem Xw:a≤b→(a:Int)≤(b:Int):=fun h=>Int.ofNat_le.mpr h
theorem Nu:a≤b→a<b+1:=Nat.lt_succ_of_le
theorem ER:a≤b→a≤b+1:=Nat.le_succ_of_le
theorem Ab:a≤b→a≤b:=by intros;assumption
theorem Xv:a≤b→b<a→False:=fun h=>Nat.not_lt.mpr h
theorem Xu:a≤b→¬(a:Int)<(0:Int):=by intros;simp_all
theorem EP:a≤b→¬a<b→a=b:=lb [a,b] [] 0x6178425e10a26178428578428934ce021016340840300840
theorem Xs:b<3*a→min a (4*a-b)=a:=lb [b,a] [] 0x6178428596178428578428d98585e10978428978429585e10978428978429d33808451001e40210213478c0840
theorem Xr:b<3*a→a+b<4*a:=lb [b,a] [] 0x6178425e10a14cd1e40210c00213478c0840
theorem IQ:b<a-1→((a-1:Nat):Int)≠(0:Int):=lb [b,a] [] 0x185e109784289359108a10284084d102840840
theorem Xq:b<3→a=b+1→a≤16777216:=fun h1 h2=>h2 ▸ Nat.le_trans h1 nB
theorem Xp:b<4→a=b+1→a≤16777216:=fun h1 h2=>h2 ▸ Nat.le_trans h1 nB
theorem Nt:b<4→a≤b→a≤10:=lb [b,a] [] 0x185e10978428578428934cc0aa021300021342900
theorem Xo:b<4→a≤b→a≤4:=lb [b,a] [] 0x185e10978428578428934cc0a4021300021342900
theorem Xn:b<8→a≤b→a≤1000000:=lb [b,a] [] 0x6178425e10a15e10a24d3302832c3e021300021342a00
theorem Xm:b<a→a-b+1=a+1-b:=fun h=>(Nat.sub_add_comm (Nat.le_of_lt h)).symm
theorem IP:b<a→(0:Int)<(a:Int)-(b:Int):=by intros;simp_all
theorem sF:b<a→a-(b+1)<a-b:=fun h=>Nat.sub_lt_sub_left h (Nat.lt_succ_self _)
theorem Xl:b<a→a-1<a:=fun h=>Nat.sub_one_lt_of_lt h
theorem Nr:b<a→a-b=a-(b+1)+1:=fun h=>(Nat.sub_add_cancel (Nat.sub_pos_of_lt h) ▸ rfl:a-b=(a-b-1)+1)
theorem Xk:b<a→0<a-b:=fun h=>Nat.sub_pos_of_lt h
theorem Xj:b<a→a=b+(a-b):=lb [b,a] [] 0x6585e10978428985e10a15e10a46585e10978428985e10a15e10a34ce0c4000840021340840
theorem Xi:b=3+a%3*2→(3:Int)+((a%3:Nat):Int)*(2:Int)=(b:Int):=la [b,a/3,a%3,a] [] (.i (.e (.a (.m 3 (.v 1)) (.v 2)) (.v 3)) (.i (.t (.v 2) (.k 3)) (.i (.e (.v 0) (.a (.k 3) (.r (.v 2) 2))) (.Q (.a (.k 3) (.r (.c (.v 2)) 2)) (.c (.v 0)))))) [.f [(3,1),(5,1)],.f [(4,1),(5,1)]] (by kernel_rfl) (nD _ _) (nM _ nB)
theorem Xh:b=a+1→(a:Int)<(b:Int):=lb [b,a] [] 0x6178425e10a24d028028084e0c2840840
theorem Xg:b=17→b=a→a≤100000:=lb [b,a] [] 0x185e10a15e10a25e10a44d3302835863021380840382c40
theorem Xf:b=27→(a/16+1+a/432%26)%27<b:=la [b,(a/16+1+a/432%26)/27,(a/16+1+a/432%26)%27,a/16,a%16,a,a/432/26,a/432%26,a/432,a%432] [] (.i (.e (.a (.m 16 (.v 3)) (.v 4)) (.v 5)) (.i (.t (.v 4) (.k 16)) (.i (.e (.a (.m 432 (.v 8)) (.v 9)) (.v 5)) (.i (.t (.v 9) (.k 432)) (.i (.e (.a (.m 26 (.v 6)) (.v 7)) (.v 8)) (.i (.t (.v 7) (.k 26)) (.i (.e (.a (.m 27 (.v 1)) (.v 2)) (.a (.a (.v 3) (.k 1)) (.v 7))) (.i (.t (.v 2) (.k 27)) (.i (.e (.v 0) (.k 27)) (.t (.v 2) (.v 0))))))))))) [.f [(11,1),(12,1),(14,1)]] (by kernel_rfl) (nD _ _) (nM _ nB) (nD _ _) (nM _ nB) (nD _ _) (nM _ nB) (nD _ _) (nM _ nB)
theorem Xe:b=27→a/16%27<b:=la [b,a/16/27,a/16%27,a/16,a%16,a] [] (.i (.e (.a (.m 16 (.v 3)) (.v 4)) (.v 5)) (.i (.t (.v 4) (.k 16)) (.i (.e (.a (.m 27 (.v 1)) (.v 2)) (.v 3)) (.i (.t (.v 2) (.k 27)) (.i (.e (.v 0) (.k 27)) (.t (.v 2) (.v 0))))))) [.f [(5,1),(6,1),(8,1)]] (by kernel_rfl) (nD _ _) (nM _ nB) (nD _ _) (nM _ nB)
theorem Xd:b=3→a<3→(a:Int)<(b:Int):=fun h1 h2=>h1 ▸ Int.ofNat_lt.mpr h2
theorem Xc:b=3→a<3→a<b:=by intros;simp_all
theorem Xb:b=4→a<4→(a:Int)<(b:Int):=fun h1 h2=>h1 ▸ Int.ofNat_lt.mpr h2
theorem Xa:b=4→a≤b*7→a+b*0≤16777216:=lb [b,a] [] 0x185e70a15e10a25e10a34d3302820820c032000213089c0021382900
theorem W9:b=6→a%6<b:=la [b,a/6,a%6,a] [] (.i (.e (.a (.m 6 (.v 1)) (.v 2)) (.v 3)) (.i (.t (.v 2) (.k 6)) (.i (.e (.v 0) (.k 6)) (.t (.v 2) (.v 0))))) [.f [(2,1),(3,1),(5,1)]] (by kernel_rfl) (nD _ _) (nM _ nB)
theorem Nq:b=a→a≤b:=fun h=>h ▸ Nat.le_refl _
theorem W8:b≤16^7→a<b-1→Int.natAbs (a:Int)<16^8:=fun h1 h2=>Nat.lt_of_lt_of_le h2 (Nat.le_trans (Nat.sub_le _ _) (Nat.le_trans h1 nB))
theorem W7:b≤16^7→a<b-1→a<16^8:=fun h1 h2=>Nat.lt_of_lt_of_le h2 (Nat.le_trans (Nat.sub_le _ _) (Nat.le_trans h1 nB))
theorem W6:b≤16^7→a<b-1→a<2^64:=fun h1 h2=>Nat.lt_of_lt_of_le h2 (Nat.le_trans (Nat.sub_le _ _) (Nat.le_trans h1 nB))
theorem W5:b≤3*a→¬3*a<b:=fun h=>Nat.not_lt.mpr h
theorem W4:b≤4*a→¬4*a<b:=fun h=>Nat.not_lt.mpr h
theorem W3:b≤10→a≤b*20→a≤16777216:=lb [b,a] [] 0x185f40978428578428934cc0a0820830021308d00021302a80
theorem Np:b≤1000→min a b≤1000:=lb [b,a] [] 0x196178425e10a15e10a26178425e10a15e10a44cc0a8fc500084c0a8fc0
theorem W2:b≤1000→a<b→(a:Int)+(1:Int)+(b:Int)≤(1000000:Int):=lb [b,a] [] 0x6178825e10a15e10a24d33c2832c3e0ca0030a128084d00084c0a8fc0
theorem W0:b≤1000→a<b→(a:Int)+(1:Int)≤(1000000:Int):=lb [b,a] [] 0x185e10978428578428934cf0a0cb0f830a128084d00084c0a8fc0
theorem Aa:b≤1000→a=b→a≤16777216:=fun h1 h2=>h2 ▸ Nat.le_trans h1 nB
theorem WZ:b≤1000→a≤b+1→a≤16777216+1:=lb [b,a] [] 0x6178425e10a15e10a24d33030a10a08208300213030a100084c0a8fc0
theorem WY:b≤10000→min a b*1000≤10000*1000:=fun h=>Nat.mul_le_mul_right _ (Nat.le_trans (Nat.min_le_right _ _) h)
theorem WX:b≤100000→min (17*(a+1)) b+(b-17*(a+1))≤100000:=lb [b,a] [] 0x198596178428978429185e10978428578428d78429985e10978428578428d33028358630c41f10c28408401401f10c284084c0a0d618c0
theorem WW:b≤1000000→a≤1000000→((a+b:Nat):Int)<(2:Int)^63:=lb [b,a] [] 0x185e10978428578428934d00a082082082082082082828300084c0a0cb0f8084c0a0cb0f80
theorem WV:b≤1000000→a≤1000000→(a:Int)+(b:Int)<(2:Int)^63:=lb [b,a] [] 0x6178425e10a15e10a24d3402820820820820820820a0328028084c0a0cb0f8084c0a0cb0f80
theorem WU:b≤1000000→a≤b→a≤1000000:=fun h1 h2=>Nat.le_trans h2 h1
theorem WT:b≤122→a≤120432→(a:Int)+(b:Int)-(97:Int)≤(1114111:Int):=lb [b,a] [] 0x6178425e10a15e10a24d33c2ffffe18440a18c328028084c0b0cf58c084c0ba8c0
theorem WR:b≤15→b=a→a≤100000:=fun h1 h2=>h2 ▸ Nat.le_trans h1 nB
theorem WQ:b≤16000000→min a b≤16000000:=lb [b,a] [] 0x196178425e10a15e10a26178425e10a15e10a44cc0a0829a2f140021302820a68bc0
theorem WO:b≤16000000→b+(0+1)=a→a≤16777216:=lb [b,a] [] 0x6178425e10a15e10a34d3302820820c0084e0210c30a1080302820a68bc0
theorem Nn:b≤16777216→a<b→(a:Int)<(2:Int)^63:=lb [b,a] [] 0x6178425e10a15e10a24d3402820820820820820820a0a021340021302820820c00
theorem Nm:b≤16777216→a≤b→a≤16777216:=fun h1 h2=>Nat.le_trans h2 h1
theorem WN:b≤4→a<b→a<4:=fun h1 h2=>Nat.lt_of_lt_of_le h2 h1
theorem WM:b≤4→a≤b*20→a≤16777216:=lb [b,a] [] 0x185f40978428578428934cc0a0820830021308d00021302900
theorem WL:b≤4→a≤b→a≤16777216:=fun h1 h2=>Nat.le_trans h2 (Nat.le_trans h1 nB)
theorem Nk:b≤44→a=b→a≤1000000:=fun h1 h2=>h2 ▸ Nat.le_trans h1 nB
theorem WK:b≤5→a≤b*1003→a≤100000:=lb [b,a] [] 0x617aff0978428578428934cc0a0d618c084c22bfc0021302940
theorem WH:b≤7→a<b→(a:Int)≤(1000000:Int):=lb [b,a] [] 0x185e10978428578428934cf0a0cb0f8a0213400213029c0
theorem WG:b≤7→a<b→a≤7:=lb [b,a] [] 0x185e10978428578428934cc0a70213400213029c0
theorem WD:b≤7→a=4*b-1→a≤1000:=lb [b,a] [] 0x196178428978428d78429585e40978428978428d78429534cc0a8fc084e1028479000213029c0
theorem WC:b≤7→a=b→a≤10:=fun h1 h2=>h2 ▸ Nat.le_trans h1 nB
theorem Nj:b≤7→a=b→a≤1000:=fun h1 h2=>h2 ▸ Nat.le_trans h1 nB
theorem z9:b≤7→a=b→a≤16777216:=fun h1 h2=>h2 ▸ Nat.le_trans h1 nB
theorem WB:b≤7→a=b→a≤7:=by intros;simp_all
theorem Wz:b≤7→a≤b→a≤1000000:=fun h1 h2=>Nat.le_trans h2 (Nat.le_trans h1 nB)
theorem Wy:b≤7→a≤b→a≤7:=fun h1 h2=>Nat.le_trans h2 h1
theorem Wx:b≤8→-(2:Int)^63≤(a:Int)-(b:Int):=lb [b,a] [] 0x185e10978428533c42802808490a0820820820820820828302a00
theorem Ni:b≤a→a+1-b=a-b+1:=fun h=>Nat.succ_sub h
theorem Ww:b≤a→a-b+1=a+1-b:=fun h=>(Nat.sub_add_comm h).symm
theorem Wv:b≤a→a-b+b=a:=fun h=>Nat.sub_add_cancel h
theorem Wu:b≤a→(a:Int)-(b:Int)=((a-b:Nat):Int):=fun h=>(Int.ofNat_sub h).symm
theorem Wt:b≤a→a-(a-(a-b))=a-b:=fun h=>by rw[Nat.sub_sub_self h]
theorem Ws:b≤a→a-(a-b)≤b:=by intros;simp_all
theorem Wr:b≤a→a=b+(a-b):=by intros;simp_all
theorem Wq:b≤a→b≥a→a=b:=lb [b,a] [] 0x185e10a15e10a26178425e10a24d3380021300021300840
theorem Wo:¬((a*b:Nat):Int)<(0:Int):=Int.not_lt.mpr (Int.natCast_nonneg _)
theorem Wn:¬a-(a-b)<min b a:=lb [a,b] [] 0x6598985e10a15e10a36616178425e10a45e10a66178425e10a45e10a86616626178425e10a35e10a45e10a76178425e10a15e10a35e10a45e10a76626178425e10a35e10a65e10a86178425e10a15e10a35e10a65e10a858d140021104021000
theorem Wm:¬(a:Int)<(b:Int)→¬a<b:=by intros;simp_all
theorem Wl:¬a<b→¬(a:Int)<(b:Int):=by intros;simp_all
theorem EL:¬b<a→a≤b:=fun h=>Nat.not_lt.mp h
theorem Wk{a b c:Int}:a+b+c=a+(b+c):=lb [] [a,b,c] 0x185e10985e10910c30620610430620c1841
theorem Wj{a b c:Nat}{d:Int}:d=(c:Int)→((a+b:Nat):Int)+(c:Int)=((a+b+c:Nat):Int):=by intros;simp_all
theorem Wi:a+1+b+c-1=a+b+c:=lb [a,b,c] [] 0x6585e10a16178425e10a26585e10978428585e10978428ce0c08830210040a10c08830210c2840
theorem Wh:a+b+1+c-1=a+b+c:=lb [a,b,c] [] 0x6585e10a16178425e10a26585e10978428585e10978428ce0c08830210040a10c08830a10c0840
theorem Wg:((a-1:Nat):Int)-(b:Int)=(c:Int)→a-1-(b+1)=c-1:=lb [a,b,c] [] 0x6626178428978429199185e10a15e10a35e10a6617842857842897842917842a198985e10a25e10a46636178425e10a35e10a66178425e10a25e10a45e10a84ce1028408840c28408440a101128088428084a102840
theorem Wf:((b-1:Nat):Int)-(c:Int)=(a:Int)→1≤a→a<b:=lb [b,c,a] [] 0x196178425e10a25e10a56178425e10a35e10a54d334002230088285128088428084a102840
theorem We:(16*(a*b)+c)%16=c%16:=by intros;simp_all
theorem Wc:(16*(a*b)+c)/16=a*b+c/16:=la [(16*(a*b)+c)/16,(16*(a*b)+c)%16,a*b,c,c/16,c%16] [] (.i (.e (.a (.m 16 (.v 0)) (.v 1)) (.a (.m 16 (.v 2)) (.v 3))) (.i (.t (.v 1) (.k 16)) (.i (.e (.a (.m 16 (.v 4)) (.v 5)) (.v 3)) (.i (.t (.v 5) (.k 16)) (.e (.v 0) (.a (.v 2) (.v 4))))))) [.f [(1,1),(3,1),(5,1),(6,16)],.f [(0,1),(2,1),(4,1),(6,16)]] (by kernel_rfl) (nD _ _) (nM _ nB) (nD _ _) (nM _ nB)
theorem arms:a*15+(b-97)=(b-97)*c→a*15=(b-97)*c-(b-97):=lb [a,b,(b-97)*c] [] 0x6626178428578428978428d85e10a15e10a25e10a56626178428578428d85e109784289784291338410286302102222f00e0220c40a18c0848bc0
theorem Wb:a*15+b=b*c→(a*16+b)*15+b=(a*15+b)*16:=lb [a,b,b*c] [] 0x6178428985e10a24ce2300c0848bc00c0848bc302123000e0220c0848bc0
theorem Wa:a*b+1*b≤c→a*b+b≤c:=by intros;simp_all
theorem V9:a+b+b*c=a+(b*c+b*1):=lb [a,b,b*c] [] 0x185e10985e108e0c32210210220030220c0840
theorem V8:a+b+c=a+(b+c):=lb [a,b,c] [] 0x185e10985e108e0c30220210030220c0840
theorem V7:a+b-(a+c)=b-c:=lb [a,b,c] [] 0x196178425e10a26616178428578429185e10978428978429996178425e10a26616178428578429185e109784289784298e1008808440c08800c0840
theorem V6:-(a:Int)≤(((b/16+c)%27:Nat):Int):=Int.le_trans (Int.neg_nonpos_of_nonneg (Int.natCast_nonneg _)) (Int.natCast_nonneg _)
theorem V5:-(a:Int)≤((b+c:Nat):Int):=Int.le_trans (Int.neg_nonpos_of_nonneg (Int.natCast_nonneg _)) (Int.natCast_nonneg _)
theorem V4:17*(a+1)<b→c=b→c-17*(a+1)=0→False:=lb [a,b,c] [] 0x6585e10978428578429585e10978428578429178429d34d348e0841f10c284002238084088d0211f10c2840
theorem Nh:17*(b+1)<c→a=c→min 17 a=17:=lb [b,c,a] [] 0x185e10a36585e10a35e10a56178425e10a15e10a44d3382c450220b138084088d0211f10c2840
theorem V3:17*(b+1)≤c→a+c≤100000→a+17≤100000:=lb [b,c,a] [] 0x185e10978428578428934cc0a0d618c30b10223028358630c084088c0211f10c2840
theorem V2:17*(b+1)≤c→a=c→min 17 a=17:=lb [b,c,a] [] 0x185e10a36585e10a35e10a56178425e10a15e10a35e10a54d3382c450220b138084088c0211f10c2840
theorem V1:17*(c+1)≤b→a+b≤100000→a+17+(b-17)≤100000:=lb [c,b,a] [] 0x196178425e10a15e10a25e10a46178428578428978429134cc0a0d618c3102c408430b10223028358630c084088c0211f10c2840
theorem V0:a+(b+1)=c→a+1+b=c:=lb [a,b,c] [] 0x6178428578428985e10978428933808830210c28403808830c2840840
theorem VZ:a+(b+1)≤c→a+1+b≤c:=lb [a,b,c] [] 0x185e10978428533008830210c28403008830c2840840
theorem VY:a+(b+1)≤c→a+(b+1)=a+1+b:=lb [a,b,c] [] 0x6178428585e10a14ce0c08430a10030c28408403008830c2840840
theorem VW:a+(c+1)=b→a<b:=lb [a,c,b] [] 0x6178428578428933408803808830c2840840
theorem VV:a+(c+1)≤b→a<b:=lb [a,c,b] [] 0x185e10978428533408803008830c2840840
theorem VU:a+1<b→c=4*b→min b c=0→False:=lb [a,b,c] [] 0x196178428978c29178429578c29985e30978428578429534d348e08502202138790084088d0210c2840
theorem VS:a+1<b→c=4*b→c-1=c→False:=lb [a,b,c] [] 0x6585e40978428578429585e10a35e10a64d34d23808840a102238790084088d0210c2840
theorem VQ:a+1<b→c=4*b→c-b=0→False:=lb [a,b,c] [] 0x6585e30978428578429585e30978428578429178429d34d348e08402102238790084088d0210c2840
theorem VP:a+1<b→¬a<b-1-(c+1)→¬a=b-1-(c+1)→a-(b-1-(c+1))-1<c:=lb [a,b,c] [] 0x6616178425e10a25e10a46656178428978429d9664617842897842a57842b185e10978428d7842997842a17842a97842b599185e10a25e10a95e10ad6178425e10a35e10a65e10a85e10ac5e10ae6178428578428934d33408840a11040c28408840a10210163840c28408840a10210163440c28408840a102100d0210c2840
theorem VO:a+1<c→a+1+b-c=b-(c-1-(a+1))-1:=lb [a,c,b] [] 0x196178428578428d99185e10978429598998d85e10978429d7842a985e10a25e10a65e10a85e10ab6636178425e10a75e10ab661617842897842997842a97842b17842b985e10a15e10a35e10a65e10aa5e10ac5e10b06585e10a15e10a36616178428978429998d85e1097842a199198985e1097842a97842b585e10a25e10a65e10aa5e10ab5e10af6626178425e10aa5e10ae6178428578428d7842997842a97842b57842c133840a11040c28401028408408840210c08830a100d0210c2840
theorem VN:a+1<c→b=4*c-1→a<b:=lb [a,c,b] [] 0x6585e40979028579028d78429185e40979028579028d78c29179029934cd02200e10284790084088d0210c2840
theorem VM:a+1<c→b=c-1-(a+1)→a+1+(b+1)-c=0:=lb [a,c,b] [] 0x198585e10978429199185e10a35e10a86585e1097842997842a985e10a25e10a35e10a55e10a85e10ab6178428d34ce0840210c30a10220c28403840c284010284084088d0210c2840
theorem VL:a+1<c→b=c-1-(a+1)→a+1+b<c:=lb [a,c,b] [] 0x6585e10978428978428d78429598585e10978429d85e10a25e10a35e10a55e10a84d33408430220c28403840c284010284084088d0210c2840
theorem VK:a+1<c→b=c-1-(a+1)→a+1+b=c-1:=lb [a,c,b] [] 0x6616178425e10a46585e10978429978429d85e10a25e10a35e10a86585e10a15e10a35e10a46178428578428d78429934ce1028408430220c28403840c284010284084088d0210c2840
theorem VJ:a+1<c→¬b<c-1-(a+1)→¬b=c-1-(a+1)→a+1+(b+1)-c=b-(c-1-(a+1))-1+1:=lb [a,c,b] [] 0x6616178425e10a46646178428d7842a196178425e10a65e10aa666617842857842b599585e10a25e10af5e10b06178428d7842957842a17842ad7842bd7842c998585e10978429199585e10a25e10a76686585e1097842997842b185e10a25e10a65e10aa5e10ae6585e1097842997842b599185e10a25e10a95e10b06178428d7842997842a17842b17842bd7842c585e10a15e10a26178428578428934d33830a11028441030a10040a10210221008430c28408830a10163840c28401028408408963440c284010284084088d0210c2840
theorem VI:a+b≤a+b+c:=Nat.le_add_right _ _
theorem VH:a+b≤c→a+1*b≤c:=lb [a,b,c] [] 0x185e10978428533008831e102100c0220c0840
theorem IM:a-b=c+1→a-(b+1)=c:=lb [a,b,c] [] 0x6585e10978429198985e10978429178429985e10a15e10a25e10a55e10a76585e10978428978429198985e10978428978429178429985e1097842897842917842a133808840c28408403830a1022100840
theorem VG:b+1<c→a=4*c→a-(a-2)=2:=lb [b,c,a] [] 0x6585e10a35e10a56616178428d78429578429d85e10a35e10a55e10a96616179025e10a15e10a46585e10a55e10a76178428d7842957842a534ce0a21040a202202238790084088d0210c2840
theorem IL:b+1<c→a=4*c→a-1<a:=lb [b,c,a] [] 0x6585e40978428578429185e10a35e10a54d33408840a102238790084088d0210c2840
theorem Ng:b-a=c+1→a<b:=fun h=>Nat.lt_of_sub_eq_succ h
theorem VF:b-a=c→b≤c→¬c=0→a=0:=lb [b,a,c] [] 0x196178425e10a35e10a66178425e10a25e10a45e10a66178429185e10a15e10a36178428578428d34d338202158e08088c02200e022100840
theorem VE:c+a≤c+b→a≤b:=by intros;simp_all
theorem Nf:c-1=a-b→a-b≤c:=lb [c,a,b] [] 0x196178425e10a25e10a46178425e10a25e10a44cc004022021384022021102840
theorem VD:0<b→a*b+1*b≤c→a*b<c:=lb [b,a*b,c] [] 0x185e10978428578428934cd0220213008831e100084d002
theorem VC:a<b+c→(a:Int)<(b:Int)+(c:Int):=fun h=>Int.ofNat_lt.mpr h
theorem VB:a<b-c→a<b+1-c:=fun h=>Nat.lt_of_lt_of_le h (Nat.sub_le_sub_right (Nat.le_succ _) _)
theorem VA:a<b-c→a<b-c:=Nat.succ_le_of_lt
theorem Vz:a<b→c*b+a=c*b+b-1→a+1=b:=lb [a,b,c*b] [] 0x185e10978428d96178428578428d78429185e10a15e10a35e10a64d33808430a100e1028430210220c0022340840
theorem Vy:a<b→min b (a-c)=b→False:=lb [a,b,c] [] 0x6598585e10978428d78429985e10978428d78429998585e10978428578429578429d85e10978428578429578429d34d2380845100880021340840
theorem Vx:a<b→a+(b-a+c)=b+c:=lb [a,b,c] [] 0x6585e10978428985e10a15e10a36585e10978428985e10a15e10a44ce0c08808430c0884000840340840
theorem Vw:a<b→a-(b-c)<b:=fun h=>Nat.sub_lt_of_lt h
theorem Vv:a<b→¬a<b-c→a-(b-c)<c:=lb [a,b,c] [] 0x196616178428578429585e10978428978428d78429998585e10a15e10a66178425e10a25e10a55e10a74d334088410088084058d100880840340840
theorem Vu:a<c→b=c→a<b:=lb [a,c,b] [] 0x185e10978428578428d34cd02200e021022340840
theorem Nc:a<c→c=b→a<b:=by intros;simp_all
theorem Vt:a<c→¬b<c-a→a+b=b-(c-a)+c:=lb [a,c,b] [] 0x196178425e10a36616178428578429985e10a25e10a45e10a86585e10978428d98585e10a15e10a66178428978429578429d34ce0c08441000210220c088058d100021022340840
theorem Vs:a=b+1-c→a-1=b-c:=lb [a,b,c] [] 0x198985e10a25e10a46585e10a15e10a35e10a76636178428578428d78429d7842a585e10a15e10a25e10a45e10a75e10ab6626178428978429196178428d78429998d85e10978428d7842a17842a585e1097842897842917842a17842ad33840220211028403840220c2840840
theorem Vr:a=b+3+c→0<1:=by intros;simp_all
theorem Vq:a=b-1-(c+1)→a-(b-1-(c+1))=0:=lb [a,b,c] [] 0x199185e10978428d85e10a15e10a25e10a46178428933821040c28408840a102100e1030a1022102840840
theorem Vp:a=c+3→a+b-a=b:=lb [a,c,b] [] 0x196178428d85e10a25e10a46585e10a25e10a361784289784295338088400302200e0c28c0840
theorem Vo:a=c+3→a≤a+b:=by simp
theorem Nb:a=c→a-b+min b a=c:=lb [a,c,b] [] 0x196616178428d78429585e10a15e10a25e10a45e10a76178428578428978429198596178428d78429585e10978428978429178429d85e1097842897842913380843140022100880380840
theorem Vn:a=c→a≤b*c+c:=by intros;simp_all
theorem M9:a=c→b=c→a=b:=by intros;simp_all
theorem Vm:a=c→c<b+1→a≤b:=lb [a,c,b] [] 0x185e10a15e10a25e10a34d33008803430a1022021380840
theorem Vl:a=c→c≤b→a≤b:=by intros;simp_all
theorem Vk:a=c→¬b+1<c→a-1≤b:=lb [a,c,b] [] 0x196178428d78429585e10a15e10a25e10a35e10a54d33008840a10163408430a1022380840
theorem M8:a≤b→a≤b+1+c:=lb [a,b,c] [] 0x185e10978428533030220c2840840300840
theorem Vj:a≤b→a≤b-c+c:=lb [a,b,c] [] 0x6585e10978428578428985e1097842857842913303022100880840300840
theorem Vi:a≤c→a+b+(c-a)=c+b:=lb [a,c,b] [] 0x6585e10978428985e10a15e10a36585e10978428985e10a15e10a44ce0c08808431000210c0880300840
theorem Vh:a≤c→a-b≤c+1-b:=lb [a,c,b] [] 0x6585e10a15e10a36616178425e10a25e10a56178425e10a15e10a35e10a74cc1008830a1021100880300840
theorem Vg:a≤c→c+1≤b→a+1≤b:=fun h1 h2=>Nat.lt_of_le_of_lt h1 h2
theorem Vf:a≤c→c<b→a≤b:=lb [a,c,b] [] 0x185e10978428578428934cc02200d022021300840
theorem Ve:a≤c→c=b→Int.toNat (max (a:Int) (b:Int))=b:=lb [a,c,b] [] 0x196178429198585e10978428978429d85e10a35e10a55e10a86585e10a46616178425e10a25e10a76178428d7842997842a534ce0222c628088a00e022021300840
theorem Vd:a≤c→c=b→min a b=a:=lb [a,c,b] [] 0x6178428d96178428d78429585e10978428978428d78429534ce00502200e022021300840
theorem Vc:b<c-1-(a+1)→a+1+(b+1)<c:=lb [b,c,a] [] 0x6585e10978428d98585e10978428d78429985e10978428578428d78429933408430c28400c284088d1030a1022102840840
theorem Vb:b<c-1-(a+1)→a+1+b<c:=fun h=>Nat.lt_of_lt_of_le (Nat.add_lt_of_lt_sub' h) (Nat.sub_le _ _)
theorem Va:b<min (c-a) (4-a)→a+b<4:=fun h=>Nat.add_lt_of_lt_sub' (Nat.lt_of_lt_of_le h (Nat.min_le_right _ _))
theorem U9:b<min (c-a) (4-a)→a+b<c:=lb [b,c,a] [] 0x6585e10978428d85e10978428578428d334084300088d1440220a4100880840
theorem U8:b<a-1→c=a-1-b→((a-1:Nat):Int)-(b:Int)=(c:Int):=lb [b,a,c] [] 0x6616178425e10a46178428578428d78429998585e10978429185e10a25e10a35e10a54d344a02210a00a10284084e10010284084088d102840840
theorem U7:b<c-1→a=c-1-b→1≤a:=fun h1 h2=>h2 ▸ Nat.sub_pos_of_lt h1
theorem U6:b<c-a→((a+b:Nat):Int)+(1:Int)=((Int.toNat (((a+b:Nat):Int)+(1:Int)):Nat):Int)∧a<Int.toNat (((a+b:Nat):Int)+(1:Int))∧Int.toNat (((a+b:Nat):Int)+(1:Int))≤c:=lb [b,c,a] [] 0x198585e10a15e10a26178428578429198585e10a26178428578428d98585e10a15e10a26178428578429196178425e10a36616178428578429985e10978428578428d784299351430084b0c284a0c002234b0c284a0c002202244a2c30a12830008830a128300088d100880840
theorem U5:b<c-a→a+b+1≤c:=lb [b,c,a] [] 0x196178425e10a36178425e10a15e10a34cc0210c284300088d100880840
theorem M7:b<c-a→a+b<c:=fun h=>Nat.add_lt_of_lt_sub' h
theorem U4:b<4→a=b-c→a≤10:=lb [b,a,c] [] 0x6585e10a25e10a35e10a56178425e10a25e10a35e10a54d3302a8084e100880021342900
theorem U3:b<4→a=b-c→a≤999:=lb [b,a,c] [] 0x196178428978428d78429585e10978428978428d78429534cc0a7fc084e100880021342900
theorem U2:b<c→a+1-b-(c-b)=a+1-c:=lb [b,c,a] [] 0x6585e10a15e10a36626178425e10a56616178425e10a25e10a75e10a96636178428978429d7842a57842ad85e10a15e10a35e10a75e10a95e10ad6585e10a15e10a36626178425e10a25e10a56636178425e10a86616178428978429d7842a57842ad85e10a15e10a35e10a75e10a95e10ad4ce1008430a10221040008440030a1022340840
theorem U1:b<c→c≤a→(a:Int)=(b:Int)+((a-b:Nat):Int):=lb [b,c,a] [] 0x196178425e10a15e10a36178428978429596178425e10a15e10a36178428978429134d10ca10002228028088c022021340840
theorem U0:b<c→c≤a→0<a-b:=lb [b,c,a] [] 0x6585e10978428578428d85e10978428578428978429534cd10002208c022021340840
theorem UZ:b=4*a→c<3*a→min a (b-c)=a:=lb [b,a,c] [] 0x6178428d96178428d78429598585e10978428978429178429d85e1097842897842917842a534ce02114402200084d1e3021022387900840
theorem UY:b=c→a+1<c→a+1<b:=by intros;simp_all
theorem UX:b=c→a<c→(a:Int)<(b:Int):=fun h1 h2=>h1 ▸ Int.ofNat_lt.mpr h2
theorem IK:b=c→a<c→a<b:=by intros;simp_all
theorem UW:b≤c*1000→a≤1000→a+b≤c*1000+1*1000:=lb [b,c,a] [] 0x185e10978428578428934cc0c7842a3f228fc084300088c0a8fc088c228fc0840
theorem UU:b≤100000→c≤b→¬(c:Int)<(a:Int)→a≤1000000:=lb [b,c,a] [] 0x6178425e10a15e10a25e10a34d34cc0a0cb0f8089640a02228084c00084c0a0d618c0
theorem UT:b≤1000000→a+c≤b→a≤1000000:=lb [b,a,c] [] 0x6178425e10a15e10a24d3302832c3e0213000c088084c0a0cb0f80
theorem UR:b≤16000000→b+(0+1)=c→a≤c→a≤16777216+1:=lb [b,c,a] [] 0x185e10978428578428d78429134d33030a10a082083002230084088e0210c30a1080302820a68bc0
theorem UQ:b≤16777216→c≤b→a=c→a≤16777216:=lb [b,c,a] [] 0x185e10978428578428d78429134d3302820820c0088e021022300021302820820c00
theorem UP:b≤4→a≤c+(b+(0+1))→c≤4*11→a≤100:=lb [b,a,c] [] 0x6178425e10a15e10a25e10a34d34cc0a48c084c1e40ab0223030c30a1080022021302900
theorem UO:b≤c→a+10*c<9000→a+10*b<9000:=lb [b,c,a] [] 0x185ea0978428578428934cd0a8e680c7a80022342a39a031ea021022300840
theorem UN:b≤c→a+b≤a+c:=by intros;simp_all
theorem UM:b≤c→a+c<900→a+b<900:=lb [b,c,a] [] 0x185e10978428578428934cd0a4f0300088d0a4f03021022300840
theorem UL:c<a+b→¬((a+b:Nat):Int)≤(c:Int):=lb [c,a,b] [] 0x6178425e10a14d63ca00a0c088084d0c0880840
theorem UK:c<4→b<c-a→(a:Int)+(b:Int)<(4:Int):=lb [c,b,a] [] 0x196178428578429185e10978428578428978429134d00a40ca02128088d100880021342900
theorem M6:c<4→b<c-a→a+b<4:=lb [c,b,a] [] 0x196178428578429185e10978428578428978429134cd0a40c084088d100880021342900
theorem UJ:c=a+3+b→a+3+b+1-0=a+(1+(3+b)):=lb [c,a,b] [] 0x6585e10a15e10a36178428978429196178428978428d85e10a25e10a54ce0c30c08828c28408440830a10c08830a30213830220c28c0840
theorem UI:c=a+3+b→a+3≤a+3+b:=by intros;simp_all
theorem UH:c=a-1-(b+1)→a≤b+1+(c+1):=lb [c,a,b] [] 0x6616178425e10a25e10a36585e10978428978429578429985e1097842897842957842a133030c28400c284088084e1030a1022102840840
theorem UG:c=4→min (a+1-b) (c-b)≤10:=fun h=>Nat.le_trans (Nat.min_le_right _ _) (Nat.le_trans (Nat.sub_le _ _) (h ▸ Nat.le_of_ble_eq_true rfl))
theorem UE:c=4→min (a-b) (c-b)≤10:=lb [c,a,b] [] 0x6585e10a25e10a46616636178428d7842957842997842a585e10a15e10a25e10a65e10a9663617842897842a17842a985e10a15e10a25e10a85e10aa4cc0aa144022004022021382900
theorem UD:c=4→min (a-b) (c-b)≤4:=fun h=>Nat.le_trans (Nat.min_le_right _ _) (Nat.le_trans (Nat.sub_le _ _) (h ▸ Nat.le_refl _))
theorem IJ:c=a→c=b→a≤b:=lb [c,a,b] [] 0x185e10978428d78429134cc022021380880380840
theorem UC:c=b→a*b+b-c=a*b:=lb [c,b,a*b] [] 0x6585e10a15e10a36178425e10a25e10a46585e10a15e10a25e10a3617842857842897842953380884003021022380840
theorem UB:c=b→a<c→a<b:=by intros;simp_all
theorem UA:c=b→c=a→a=b:=lb [c,b,a] [] 0x6178428578428978429185e10978428d78429134ce021022380880380840
theorem Uz:c≤17*(b+1)+15→a=c→a-17*(b+1)<17:=lb [c,b,a] [] 0x196178428d78429585e10978428978428d78429534cd0b1107c430a10210223800223030af1f10c2840840
theorem Uy:c≤17*(b+1)+15→a=c→a-17*(b+1)≤15:=lb [c,b,a] [] 0x196178428d78429585e10978428978428d78429534cc0af107c430a10210223800223030af1f10c2840840
theorem Ux:c≤10→min (a-b) (c-b)≤10:=fun h=>Nat.le_trans (Nat.min_le_right _ _) (Nat.le_trans (Nat.sub_le _ _) h)
theorem Uw:c≤1000000→a+b≤c→a≤1000000∧b≤1000000:=lb [c,a,b] [] 0x185e10978428578428985e10978428578428934d4302832c3e022302832c3e0213000c088084c0a0cb0f80
theorem M5:c≤1000000→a≤1000000→b≤c→-(2:Int)^63≤(a:Int)+(b:Int)∧(a:Int)+(b:Int)<(2:Int)^63:=lb [c,a,b] [] 0x185e10a36178425e10a15e10a25e10a34d34d4402820820820820820820a0328088a0213c328088a021242820820820820820820a0c00088c0a0cb0f8084c0a0cb0f80
theorem Uv:c≤4→b≤a→a<c→a-b<min (c-b) (4-b):=lb [c,b,a] [] 0x6616178428578428978429199185e10978428578428978429d9899617842857842b185e10a25e10a35e10a65e10ab5e10ad6585e10a15e10ad6178425e10a25e10a35e10a95e10ab5e10ae4d34cd1440210a410084010084088d00088c022021302900
theorem Uu:c≤7→a=c→a-b+min b a≤16777216:=lb [c,a,b] [] 0x6598585e10a45e10a66178425e10a25e10a35e10a55e10a86178425e10a25e10a35e10a54d3302820820c031408408840220213800213029c0
theorem Ut:c≤b→((a+1+b+1-(c+1):Nat):Int)=((a+1+b:Nat):Int)+(1:Int)-((c:Int)+(1:Int)):=lb [c,b,a] [] 0x6585e10978428985e10a15e10a36585e10a15e10a26178428578429134440c284a0030a12830210c284088a1030a10030a10c08430a1022300840
theorem Ur:c≤b→a≤c→a≤b:=fun h1 h2=>Nat.le_trans h2 h1
theorem Uq:¬a<b-1-(c+1)→¬a=b-1-(c+1)→a-(b-1-(c+1))=a-(b-1-(c+1))-1+1:=lb [a,b,c] [] 0x6676178428978428d85e10a25e10a56656178428578428d99185e10a15e10a55e10a66178428978429d85e10978428585e10978428534ce0c28440a11040c28408840a10210041030a102210284084058e1030a102210284084058d1030a1022102840840
theorem Uo:¬a<b+c→¬(a:Int)<(b:Int)+(c:Int):=lb [a,b,c] [] 0x6178425e10a14d640328088a02128058d0c0880840
theorem Un:¬c<a+1-b→a+1-b≤c:=fun h=>Nat.not_lt.mp h
theorem Ul:¬c<a-1-(b+1)→a≤b+1+(c+1):=lb [c,a,b] [] 0x198585e10978428578428996178425e10a15e10a45e10a56178425e10a15e10a45e10a74cc0c30a10030a102202158d1030a1022102840840
theorem Uk:¬c<a-1-(b+1)→¬c=a-1-(b+1)→a≤b+1+c:=lb [c,a,b] [] 0x6616178428578428978428d96178428578428978429578429985e10a15e10a25e10a55e10a86178425e10a14d33030030a102202158e1030a102210284084058d1030a1022102840840
theorem Uj:¬c<a+b→((a+b:Nat):Int)≤(c:Int):=lb [c,a,b] [] 0x6178425e10a14cf28028302202158d0c0880840
theorem Ui:¬c<a-b→a-b≤c:=fun h=>Nat.not_lt.mp h
theorem Uh:17*(b+1)+d=c→a+51*(b+1)+3*(c-17*(b+1))=a+3*c:=lb [b,d,c,a] [] 0x196178428578428d85e10a25e30a46585e10a25e30a36178428978c29533831e30220230c78c41f10c28400220c7ce10c28400233808830211f10c2840
theorem Ug:a*b+c<d-1→a*b+c+1=d→False:=lb [a*b,c,d] [] 0x196178428978428d85e10978428578429134d23808830a10c08403440a10220c0840
theorem Ue:a*b+c<d→a*b+c≠d-1→a*b+c<d-1:=lb [a*b,c,d] [] 0x6585e10978428578428d85e10978428578429585e10a15e10a24d33440a10220c084058e10284088302100d0220c0840
theorem Ud:b*c+d=a→a=b*c+d:=fun h=>h ▸ rfl
theorem Uc:b*d+c=a→c<b→a+b-1=c+b-1+b*d:=lb [b*d,c,a,b] [] 0x196178428d78429598585e10978428d78429578429d85e10978428d7842957842a596178428978429198585e10a15e10a35e10a55e10a76178428578428d7842957842a534ce0c01028430230211028430230223408c084e0220c0840
theorem Ub:d+a+b≤d+c→a+b≤c:=lb [d,a,b,c] [] 0x185e10978428533008c30220213030230030220c0840
theorem Ua:a+(c+1)≤d→a+(b+1)=a+1+b:=lb [a,c,d,b] [] 0x6178428585e10a14ce0c08c30a10030c28408c03008830c2840840
theorem T9:a+1<b→c=4*b→d=4*b-1→d=c→False:=lb [a,b,c,d] [] 0x6585e40978429d85e10a15e10a45e10a55e10a84d34d348e0220233840a11e402102338790084088d0210c2840
theorem T8:a+1<d→c=d→a+1≤b+c:=lb [a,d,c,b] [] 0x6178425e10a15e10a34d33030220230c284038084088d0210c2840
theorem T7:b+c≤d→a+b+c≤a+d:=lb [b,c,d,a] [] 0x185e10978428533030220230c08430008cc0220c0840
theorem T6:b-1=c-d→a<c-d→a<b:=lb [b,c,d,a] [] 0x196178425e10a25e10a35e10a56178425e10a25e10a35e10a54d3340023344022021023384022021102840
theorem T5:d+1<a→b=a→c=a→a≤b+c-(d+1):=lb [d,a,b,c] [] 0x6585e10978428578428d78429578429985e10978428578428d7842957842a134d33040c28400c08c088084e02102338084088d0210c2840
theorem T4:d+b≤c→(a+1)*b≤d→(a+1)*b≤c:=lb [d,b,c,(a+1)*b] [] 0x6178425e10a15e10a24d33008808cc0008cc0220c0840
theorem T3:d+b≤c→a<d→a+b≤c:=lb [d,b,c,a] [] 0x185e10978428578428934cc0220c08408cd0008cc0220c0840
theorem T2:a=d+3→a+b-(a+c)=b-c:=lb [a,d,b,c] [] 0x196178428978429198585e10a35e10a6617842897842917842a196178428978429198585e10a35e10a6617842897842917842a1338402302210302300302200e0c28c0840
theorem T1:a=d→¬c<d-1-(b+1)→a-1-(b+1)≤c:=lb [a,d,c,b] [] 0x6626178428978428d78429598d85e10a25e10a35e10a55e10a86616178428578429d7842a99617842857842917842a17842b17842b585e10a15e10a25e10a35e10a55e10a85e10ac5e10af4d33008840c28408c40a10163440c28408c40a1021022380840
theorem TZ:a≤a*b→a*b+c*d=a*b-a+(c*d+a):=lb [a,a*b,c*d] [] 0x6585e10978428985e10a15e10a46585e10978428985e10a15e10a34ce0c3000884000843022021300840
theorem TY:a≤1000→c≤(d+1)*1003→b=3→a+b+c≤(d+1)*1003+1*1003:=lb [a,c,d,b] [] 0x6178425e10a15e10a35e10a44d34cc0c7842aff22bfc30a10220c084302300e0a3023308aff0c284088084c0a8fc0
theorem TX:a≤b→b+d≤c→a≤b∧b<a+(c+1-a):=lb [a,b,d,c] [] 0x185e10978428996178425e10a15e10a36178428578428978429534d43431000c28408c00213008403008c3022021300840
theorem TV:a≤d→b≤c*d→a+b≤c*d+1*d:=lb [a,d,b,c*d] [] 0x185e10978428578428934cc0c78408408c302200c023022300840
theorem TU:b<a→c<d+1-a→a-b+c<d+1-b:=lb [b,a,c,d] [] 0x196178428578429198585e10978429998985e10978428d7842a585e10a15e10a25e10a45e10a75e10ab4d33440030a10230c088400084d1008430a1023022340840
theorem TS:b=4*c→d=4*c-1→a+d≤b-1→a=0:=lb [b,c,d,a] [] 0x6626178428978429178429578429d9617842857842997842a585e10a15e10a25e10a45e10a55e10a75e10ab6178429534d33820233040a10030220233840a11e4021022387900840
theorem TR:b=a→c=a→d+1<a→min a (b+c-(d+1))=a:=lb [b,a,c,d] [] 0x185e10a56585e10a55e10a76616178425e10a25e10a45e10a65e10a96178425e10a25e10a45e10a65e10ab4d34ce0211440c28408c302200084d0210c28408ce021022380840
theorem TQ:b=d→a<d-1-(c+1)→a<b-1-(c+1):=lb [b,d,a,c] [] 0x6585e10a25e10a35e10a56616178428978428d7842957842a198d85e10978429d7842a998985e1097842917842a17842b17842b585e10978428978428d7842957842a17842b17842bd34cd1030a10231028400223440c28408c40a1021022380840
theorem TP:b≤c+(d+1)→a+(0+1)+b≤a+c+(d+1+1):=lb [b,c,d,a] [] 0x185e10978428533030c28430a10220c08408c30030c28420233030c2840880840
theorem TN:b≤7→min a b+(c/432+d)%3+(b-a)+(0+1)≤10:=la [b,a,(c/432+d)/3,(c/432+d)%3,c/432,c%432,c,d] [] (.i (.e (.a (.m 432 (.v 4)) (.v 5)) (.v 6)) (.i (.t (.v 5) (.k 432)) (.i (.e (.a (.m 3 (.v 2)) (.v 3)) (.a (.v 4) (.v 7))) (.i (.t (.v 3) (.k 3)) (.i (.l (.v 0) (.k 7)) (.l (.a (.a (.a (.l (.v 1) (.v 0)) (.v 3)) (.s (.v 0) (.v 1))) (.a (.k 0) (.k 1))) (.k 10))))))) [.p 1 (.f [(5,1),(6,1),(7,1),(9,1)]) (.p 0 (.f [(5,1),(6,1),(7,1),(9,1),(12,1)]) (.f [(8,1),(10,1)]))] (by kernel_rfl) (nD _ _) (nM _ nB) (nD _ _) (nM _ nB)
theorem TL:b≤7→min a b+(c/432+d)%3+(b-a)≤16777216:=la [b,a,(c/432+d)/3,(c/432+d)%3,c/432,c%432,c,d] [] (.i (.e (.a (.m 432 (.v 4)) (.v 5)) (.v 6)) (.i (.t (.v 5) (.k 432)) (.i (.e (.a (.m 3 (.v 2)) (.v 3)) (.a (.v 4) (.v 7))) (.i (.t (.v 3) (.k 3)) (.i (.l (.v 0) (.k 7)) (.l (.a (.a (.l (.v 1) (.v 0)) (.v 3)) (.s (.v 0) (.v 1))) (.k 16777216))))))) [.p 1 (.f [(5,1),(6,1),(7,1),(9,1)]) (.p 0 (.f [(5,1),(6,1),(7,1),(9,1),(12,1)]) (.f [(8,1),(10,1)]))] (by kernel_rfl) (nD _ _) (nM _ nB) (nD _ _) (nM _ nB)
theorem TK:b≤7→min a b+((c/432+d)%3+(b-a+1))≤10:=la [b,a,(c/432+d)/3,(c/432+d)%3,c/432,c%432,c,d] [] (.i (.e (.a (.m 432 (.v 4)) (.v 5)) (.v 6)) (.i (.t (.v 5) (.k 432)) (.i (.e (.a (.m 3 (.v 2)) (.v 3)) (.a (.v 4) (.v 7))) (.i (.t (.v 3) (.k 3)) (.i (.l (.v 0) (.k 7)) (.l (.a (.l (.v 1) (.v 0)) (.a (.v 3) (.a (.s (.v 0) (.v 1)) (.k 1)))) (.k 10))))))) [.p 1 (.f [(5,1),(6,1),(7,1),(9,1)]) (.p 0 (.f [(5,1),(6,1),(7,1),(9,1),(12,1)]) (.f [(8,1),(10,1)]))] (by kernel_rfl) (nD _ _) (nM _ nB) (nD _ _) (nM _ nB)
theorem TJ:b≤7→min a b+((c/432+d)%3+(b-a))≤16777215:=la [b,a,(c/432+d)/3,(c/432+d)%3,c/432,c%432,c,d] [] (.i (.e (.a (.m 432 (.v 4)) (.v 5)) (.v 6)) (.i (.t (.v 5) (.k 432)) (.i (.e (.a (.m 3 (.v 2)) (.v 3)) (.a (.v 4) (.v 7))) (.i (.t (.v 3) (.k 3)) (.i (.l (.v 0) (.k 7)) (.l (.a (.l (.v 1) (.v 0)) (.a (.v 3) (.s (.v 0) (.v 1)))) (.k 16777215))))))) [.p 1 (.f [(5,1),(6,1),(7,1),(9,1)]) (.p 0 (.f [(5,1),(6,1),(7,1),(9,1),(12,1)]) (.f [(8,1),(10,1)]))] (by kernel_rfl) (nD _ _) (nM _ nB) (nD _ _) (nM _ nB)
theorem TH:b≤7→min a b+(c/432+d)%3≤16777216:=la [b,a,(c/432+d)/3,(c/432+d)%3,c/432,c%432,c,d] [] (.i (.e (.a (.m 432 (.v 4)) (.v 5)) (.v 6)) (.i (.t (.v 5) (.k 432)) (.i (.e (.a (.m 3 (.v 2)) (.v 3)) (.a (.v 4) (.v 7))) (.i (.t (.v 3) (.k 3)) (.i (.l (.v 0) (.k 7)) (.l (.a (.l (.v 1) (.v 0)) (.v 3)) (.k 16777216))))))) [.p 0 (.f [(5,1),(6,1),(7,1),(10,1)]) (.f [(5,1),(6,1),(7,1),(8,1)])] (by kernel_rfl) (nD _ _) (nM _ nB) (nD _ _) (nM _ nB)
theorem TG:b≤c→d≤b→c≤d→d=a→a=b:=lb [b,c,d,a] [] 0x185e10a15e10a35e10a56178425e10a25e10a45e10a54d34d33800233808c088c022021300022300840
theorem TF:c<b→a*b+b≤d*b→a*b+c<d*b:=lb [c,b,a*b,d*b] [] 0x185e10978428578428934cd0230c00223008c3021022340840
theorem TC:c=4*d→d≤7→min (a-b) (c-b)≤28:=lb [c,d,a,b] [] 0x6585e10a35e10a56616636178429178429978429d7842a985e10a15e40a25e10a35e10a75e10aa6636178428d7842a57842ad85e10a15e40a25e10a35e10a95e10ab4d3302f051008c01008c088c0a7021387900840
theorem TB:c=d→b<d-1-(a+1)→a+1+b+1<c:=lb [c,d,b,a] [] 0x6585e10a25e10a5661617842897842957842a185e10978428978428d7842957842a134cd0030a10c08830a10233440c28408c40a1021022380840
theorem TA:c≤d*11→min (a-b) (4-b)≤4:=fun U=>Nat.le_trans (Nat.min_le_right _ _) (Nat.sub_le _ _)
theorem Tz:c≤d→a+b+c≤a+b+d:=by intros;simp_all
theorem Tx:d<a+(c+1-a)→a≤b→b<d→a≤b∧b<a+(c+1-a):=lb [d,a,c,b] [] 0x6178428578428d85e10978428978428d34d350d0c40210c28408808408cc0230213400233008c084d0c40210c2840880840
theorem Tw:d<b→c*b+d=a*b-1→a*b-b<c*b+b:=lb [d,b,c*b,a*b] [] 0x6626178425e10a15e10a35e10a56585e20978428578428d78429578429d85e20978428578428d7842957842a534cd0c08408840210233840a10230c0022340840
theorem Tv:d=b→a+1<b→a-(b-1-(c+1))-1+1<d:=lb [d,b,a,c] [] 0x6585e10978428978428d78429598585e10a45e10a86178425e10a25e10a35e10a55e10a84d33400c28440a11040c28408c40a10210223408430a1022380840
theorem Tu:d≤c*b→a*b+1*b≤d→a*b+b≤c*b:=lb [d,c*b,a*b,b] [] 0x185e10978428578428934cc0210c08c088c0031e1023022300840
theorem Tt:d≤c*b→a+b≤d→a+b≤c*b:=fun h1 h2=>Nat.le_trans h2 h1
theorem Tr:¬d<a+1-c→a+1-b≤c-b+d:=lb [d,a,c,b] [] 0x196626616178425e10a15e10a76178428978429178429998585e1097842857842917842997842a185e1097842857842897842997842a198998585e1097842857842897842917842a185e1097842857842917842957842a198585e10a25e10a55e10a86178425e10a15e10a45e10a75e10a94cc0c01008c08840230c28408563440220c2840840
theorem Tq:a+b≤e→a+b≤c+d+e:=lb [a,b,e,c,d] [] 0x185e10978428533030220c09008c302100c0220c0840
theorem Tp:c+d≤b*d→d*a+(e+1)=c→b*d≤d*a+d→a+1<b:=lb [c,d,b*d,d*a,e,a,b] [] 0x6178425e10a25e10a34d34cd0260c284094c0c08408c088e0030c28409008cc0220c0840
theorem To:c+d≤b*d→e<d→a*d+e=c→b*d≤a*d→a<b:=lb [c,d,b*d,e,a*d,a,b] [] 0x185e10978428578428d78429134d34cd02602530090088e0030230243408408cc0220c0840
theorem Tn:a=e→b+1<e→¬d+1<e→a-1-(b+1)+1+min b (c-1)≤d:=lb [a,e,b,d,c] [] 0x6585e10a25e10a35e10a45e10a66616178425e10a25e10a86178428578428d7842917842997842a534d33008c31440a10240220c28440c28408840a10163408430a10233408430a1022380840
theorem Tj:a=4*b→c=4*b-1→d=2→e+c≤f→f+d≤a→False:=lb [a,b,c,d,e,f] [] 0x196178428578428978429178429978429d7842a185e10a15e10a25e10a45e10a65e10a75e10aa4d34d34d23000c08c094c0250c088090e0a20233840a11e4021022387900840
end
theorem Ti{a c:Nat}{b:Int}:-(c:Int)≤b→a=c→-(a:Int)≤b:=lb [c,a] [b] 0x185e10978428578428d34cf04928084e00084f049280
theorem M3{a c:Nat}{b:Int}:-(c:Int)≤b→c=a→-(a:Int)≤b:=by intros;simp_all
theorem Th{b:Nat}{a:Int}:-(b:Int)≤a→a<(0:Int)→(0:Int)≤a+(b:Int)∧a+(b:Int)<(b:Int):=lb [b] [a] 0x185e10978428985e10a15e10a24d35102800ca0013c328004240204f049280
theorem II{b:Nat}{a:Int}:-(b:Int)≤a→a<(0:Int)→Int.toNat (a+(b:Int))<b:=lb [b] [a] 0x196178425e10a36178428578428978429134cd00b0ca00140204f049280
theorem IH{b:Nat}{a:Int}:-(b:Int)≤a→a<(b:Int)→Int.toNat a<b:=lb [b] [a] 0x196178425e10a15e20a25e20a46178428578428978429134cd00b05028004f049280
theorem MZ{b:Nat}{a:Int}:-(b:Int)≤a→b≤16777216→-(2:Int)^63≤a:=lb [b] [a] 0x6178425e10a15e10a24d33c1242820820820820820820a0c0a082083000f049280
theorem Tg{b:Nat}{a:Int}:-(b:Int)≤a→b≤16777216→-(9223372036854775808:Int)<a:=lb [b] [a] 0x6178425e10a15e10a24d3401242820820820820820820a0c0a082083000f049280
theorem Tf{b:Nat}{a:Int}:(0:Int)≤a→a<(b:Int)→Int.toNat a<b:=by intros;simp_all
theorem Te{b:Nat}{a:Int}:Int.toNat (((Int.toNat a:Nat):Int)+(b:Int))=Int.toNat a+b:=by intros;rfl
theorem Td{b:Nat}{a:Int}:a+((b+1:Nat):Int)=a+(b:Int)+(1:Int):=lb [b] [a] 0x185e10985e10910c28432800432830a1001
theorem Tc{b:Nat}{a:Int}:a-((b+1:Nat):Int)=a-(b:Int)+-(1:Int):=lb [b] [a] 0x6178426178424432428442800442830a1001
theorem IG{b:Nat}{a:Int}:a-((b+1:Nat):Int)=a-(b:Int)-(1:Int):=lb [b] [a] 0x185e10985e10911028442800442830a1001
theorem EK{b:Nat}{a:Int}:a<(b:Int)→b≤16777216→a<(2:Int)^63:=lb [b] [a] 0x6178425e10a15e10a24d3402820820820820820820a01302820820c0040a001
theorem Tb{b:Nat}{a:Int}:a<(b:Int)→b≤16777216→a<(9223372036854775808:Int):=lb [b] [a] 0x6178425e10a15e10a24d3402820820820820820820a01302820820c0040a001
theorem Ta{b:Nat}{a:Int}:a<(b:Int)→¬a<(0:Int)→(0:Int)≤a∧a<(b:Int):=lb [b] [a] 0x185e10a15e10a26178425e10a24d351028004f04259008140a001
theorem S9{b:Nat}{a:Int}:a=((b%6:Nat):Int)→(0:Int)≤a:=la [b/6,b%6,b] [a] (.i (.e (.a (.m 6 (.v 0)) (.v 1)) (.v 2)) (.i (.t (.v 1) (.k 6)) (.i (.Q (.z 0) (.c (.v 1))) (.L (.k 0) (.z 0))))) [.f [(3,1),(5,1)]] (by kernel_rfl) (nD _ _) (nM _ nB)
theorem S8{b:Nat}{a:Int}:a=((b%6:Nat):Int)→a<((6:Nat):Int):=la [b/6,b%6,b] [a] (.i (.e (.a (.m 6 (.v 0)) (.v 1)) (.v 2)) (.i (.t (.v 1) (.k 6)) (.i (.Q (.z 0) (.c (.v 1))) (.T (.z 0) (.k 6))))) [.f [(2,1),(4,1),(5,1)]] (by kernel_rfl) (nD _ _) (nM _ nB)
theorem S7{b:Nat}{a:Int}:a≤(b:Int)→min (Int.toNat (max (0:Int) a)) b=Int.toNat a:=lb [b] [a] 0x6585e10a26616178428578428d78429999585e10a55e10a86178428578428d7842997842a998d98996178428578428d78429d85e10a45e10a66585e10a45e10a7661617842917842997842a985e10a15e10a35e10a65e10a85e10ac6585e10a15e10a35e10a66178425e10a15e10a35e10a64ce2c11402c60423ca001
theorem S6{b:Nat}{a:Int}:¬a<(0:Int)→a+(b:Int)=((Int.toNat a+b:Nat):Int):=lb [b] [a] 0x196178425e10a26178428578429196178425e10a26178428578428d344a0c02c10ca001590081
theorem S5{b:Nat}{a c:Int}:a+((b:Int)*c+((1:Nat):Int)*c)=a+(b:Int)*c+c:=lb [] [a,(b:Int)*c,c] 0x185e10985e10910c18830610430c7841881841
theorem S4{b c:Nat}{a:Int}:a<(c:Int)→b=c→a<(b:Int):=by intros;simp_all
theorem S3{b c:Nat}{a:Int}:a<(c:Int)→c=b→a<(b:Int):=by intros;simp_all
theorem S2{b c d:Nat}{a:Int}:c≤100000→d≤c→a=-(1:Int)∨(0:Int)≤a∧Int.toNat a+b≤d→a+(b:Int)=((Int.toNat a+b:Nat):Int)→Int.toNat a+b≤1000000:=lb [c,d,b] [a] 0x185e10a35e10a46178425e10a15e10a35e10a64d34d3302832c3e0c088b0512830222c10ca02205550c0210c088b04f0424490a104c00084c0a0d618c0
theorem Pq{p q r b:Prop}(h:p∧q∧r)(k:p→q→r→b):b:=by obtain⟨i,j,l⟩:=h;exact k i j l
theorem aF{A:Sort _}{p q:A→Prop}{b:Prop}(h:∃u:A,p u∧q u)(k:∀u:A,p u→q u→b):b:=by obtain⟨u,i,j⟩:=h;exact k u i j
theorem oB2{A:Sort _}{p q:A→Prop}{r:A}{b:Prop}(h:∃u:A,p u∧q u∧u=r)(k:p (r)→q (r)→b):b:=by obtain⟨u,i,j,rfl⟩:=h;exact k i j
theorem K3{A B:Sort _}{p:A→B→Prop}{b:Prop}(h:∃u:A,∃v:B,p u v)(k:∀u:A,∀v:B,p u v→b):b:=by obtain⟨u,v,i⟩:=h;exact k u v i
theorem bo{p q b:Prop}(h:p∧q)(k:p→q→b):b:=by obtain⟨i,j⟩:=h;exact k i j
theorem gS{A B:Sort _}{p q r s:A→B→Prop}{b:Prop}(h:∃u:A,∃v:B,p u v∧q u v∧r u v∧s u v)(k:∀u:A,∀v:B,p u v→q u v→r u v→s u v→b):b:=by obtain⟨u,v,i,j,l,m⟩:=h;exact k u v i j l m
theorem jU{A B:Sort _}{p q r:A→B→Prop}{b:Prop}(h:∃u:A,∃v:B,p u v∧q u v∧r u v)(k:∀u:A,∀v:B,p u v→q u v→r u v→b):b:=by obtain⟨u,v,i,j,l⟩:=h;exact k u v i j l
theorem uk{A:Sort _}{p q r:A→A→Prop}{b:Prop}(h:∃u:A,∃v:A,p u v∧q u v∧r u v)(k:∀u:A,∀v:A,p u v→q u v→r u v→b):b:=by obtain⟨u,v,i,j,l⟩:=h;exact k u v i j l
theorem gF{A:Sort _}{p:A→Prop}{b:Prop}(h:∃u:A,p u)(k:∀u:A,p u→b):b:=by obtain⟨u,i⟩:=h;exact k u i
theorem DI{A B:Sort _}{p:A→Prop}{q r:A→B→Prop}{b:Prop}(h:∃u:A,p u∧∃v:B,q u v∧r u v)(k:∀u:A,∀v:B,p u→q u v→r u v→b):b:=by obtain⟨u,i,v,j,l⟩:=h;exact k u v i j l
theorem mO{A B:Sort _}{p q:A→B→Prop}{b:Prop}(h:∃u:A,∃v:B,p u v∧q u v)(k:∀u:A,∀v:B,p u v→q u v→b):b:=by obtain⟨u,v,i,j⟩:=h;exact k u v i j
theorem uj{A B C:Sort _}{p:A→Prop}{q:A→B→C→Prop}{r:B→C→A}{b:Prop}(h:∃u:A,p u∧∃v:B,∃w:C,q u v w∧u=r v w)(k:∀v:B,∀w:C,p (r v w)→q (r v w) v w→b):b:=by obtain⟨u,i,v,w,j,rfl⟩:=h;exact k v w i j
theorem gR{A:Sort _}{p q r:A→Prop}{b:Prop}(h:∃u:A,p u∧q u∧r u)(k:∀u:A,p u→q u→r u→b):b:=by obtain⟨u,i,j,l⟩:=h;exact k u i j l
theorem DH{A B C:Sort _}{p q r:A→B→C→Prop}{b:Prop}(h:∃u:A,∃v:B,∃w:C,p u v w∧q u v w∧r u v w)(k:∀u:A,∀v:B,∀w:C,p u v w→q u v w→r u v w→b):b:=by obtain⟨u,v,w,i,j,l⟩:=h;exact k u v w i j l
theorem oBe{A B C:Sort _}{p q r:A→B→B→B→B→B→C→Prop}{b:Prop}(h:∃u:A,∃v:B,∃w:B,∃x:B,∃y:B,∃z:B,∃t:C,p u v w x y z t∧q u v w x y z t∧r u v w x y z t)(k:∀u:A,∀v:B,∀w:B,∀x:B,∀y:B,∀z:B,∀t:C,p u v w x y z t→q u v w x y z t→r u v w x y z t→b):b:=by obtain⟨u,v,w,x,y,z,t,i,j,l⟩:=h;exact k u v w x y z t i j l
theorem oBf{A B C:Sort _}{p q r s e f:A→B→C→Prop}{b:Prop}(h:∃u:A,∃v:B,∃w:C,p u v w∧q u v w∧r u v w∧s u v w∧e u v w∧f u v w)(k:∀u:A,∀v:B,∀w:C,p u v w→q u v w→r u v w→s u v w→e u v w→f u v w→b):b:=by obtain⟨u,v,w,i,j,l,m,n,o⟩:=h;exact k u v w i j l m n o
theorem K2{A B:Sort _}{p:A→Prop}{q:A→B→Prop}{b:Prop}(h:∃u:A,p u∧∃v:B,q u v)(k:∀u:A,∀v:B,p u→q u v→b):b:=by obtain⟨u,i,v,j⟩:=h;exact k u v i j
theorem K1{A B C:Sort _}{p q r s e:A→B→C→Prop}{b:Prop}(h:∃u:A,∃v:B,∃w:C,p u v w∧q u v w∧r u v w∧s u v w∧e u v w)(k:∀u:A,∀v:B,∀w:C,p u v w→q u v w→r u v w→s u v w→e u v w→b):b:=by obtain⟨u,v,w,i,j,l,m,n⟩:=h;exact k u v w i j l m n
theorem Kf{A:Sort _}{p q r s e:A→Prop}{b:Prop}(h:∃u:A,p u∧q u∧r u∧s u∧e u)(k:∀u:A,p u→q u→r u→s u→e u→b):b:=by obtain⟨u,i,j,l,m,n⟩:=h;exact k u i j l m n
theorem oBj{A B C D:Sort _}{p q r s e f g:A→A→B→C→C→D→Prop}{b:Prop}(h:∃u:A,∃v:A,∃w:B,∃x:C,∃y:C,∃z:D,p u v w x y z∧q u v w x y z∧r u v w x y z∧s u v w x y z∧e u v w x y z∧f u v w x y z∧g u v w x y z)(k:∀u:A,∀v:A,∀w:B,∀x:C,∀y:C,∀z:D,p u v w x y z→q u v w x y z→r u v w x y z→s u v w x y z→e u v w x y z→f u v w x y z→g u v w x y z→b):b:=by obtain⟨u,v,w,x,y,z,i,j,l,m,n,o,H⟩:=h;exact k u v w x y z i j l m n o H
theorem Bl{A B C:Sort _}{p q r s:A→B→C→Prop}{b:Prop}(h:∃u:A,∃v:B,∃w:C,p u v w∧q u v w∧r u v w∧s u v w)(k:∀u:A,∀v:B,∀w:C,p u v w→q u v w→r u v w→s u v w→b):b:=by obtain⟨u,v,w,i,j,l,m⟩:=h;exact k u v w i j l m
theorem yR{A B:Sort _}{p q:Prop}{r s:A→B→Prop}{e b:Prop}(h:p∧q∧(∃u:A,∃v:B,r u v∧s u v)∧e)(k:∀u:A,∀v:B,p→q→r u v→s u v→e→b):b:=by obtain⟨i,j,⟨u,v,l,m⟩,n⟩:=h;exact k u v i j l m n
theorem Ke{p q r s b:Prop}(h:p∧q∧r∧s)(k:p→q→r→s→b):b:=by obtain⟨i,j,l,m⟩:=h;exact k i j l m
theorem oBn{A B:Sort _}{p q:A→Prop}{r:A→B→Prop}{b:Prop}(h:∃u:A,p u∧q u∧∃v:B,r u v)(k:∀u:A,∀v:B,p u→q u→r u v→b):b:=by obtain⟨u,i,j,v,l⟩:=h;exact k u v i j l
theorem xM{A:Sort _}{p:A→A→Prop}{b:Prop}(h:∃u:A,∃v:A,p u v)(k:∀u:A,∀v:A,p u v→b):b:=by obtain⟨u,v,i⟩:=h;exact k u v i
theorem QU{A B C:Sort _}{p q r s:A→B→B→B→B→C→Prop}{b:Prop}(h:∃u:A,∃v:B,∃w:B,∃x:B,∃y:B,∃z:C,p u v w x y z∧q u v w x y z∧r u v w x y z∧s u v w x y z)(k:∀u:A,∀v:B,∀w:B,∀x:B,∀y:B,∀z:C,p u v w x y z→q u v w x y z→r u v w x y z→s u v w x y z→b):b:=by obtain⟨u,v,w,x,y,z,i,j,l,m⟩:=h;exact k u v w x y z i j l m
theorem QT{A B C D:Sort _}{p q r s:A→B→C→D→Prop}{b:Prop}(h:∃u:A,∃v:B,∃w:C,∃x:D,p u v w x∧q u v w x∧r u v w x∧s u v w x)(k:∀u:A,∀v:B,∀w:C,∀x:D,p u v w x→q u v w x→r u v w x→s u v w x→b):b:=by obtain⟨u,v,w,x,i,j,l,m⟩:=h;exact k u v w x i j l m
theorem oBr{A B:Sort _}{p:A→Prop}{q:A→B→Prop}{r s b:Prop}(h:(∃u:A,p u∧∃v:B,q u v)∧r∧s)(k:∀u:A,∀v:B,p u→q u v→r→s→b):b:=by obtain⟨⟨u,i,v,j⟩,l,m⟩:=h;exact k u v i j l m
theorem Pp{A B C:Sort _}{p:A→B→C→Prop}{q:A→C→B}{r s e:A→B→C→Prop}{b:Prop}(h:∃u:A,∃v:B,∃w:C,p u v w∧((v=q u w)∧r u v w)∧s u v w∧e u v w)(k:∀u:A,∀w:C,p u (q u w) w→r u (q u w) w→s u (q u w) w→e u (q u w) w→b):b:=by obtain⟨u,v,w,i,⟨rfl,j⟩,l,m⟩:=h;exact k u w i j l m
theorem oBt{p q r s b:Prop}(h:((p)∧q)∧r∧s)(k:p→q→r→s→b):b:=by obtain⟨⟨i,j⟩,l,m⟩:=h;exact k i j l m
theorem oBu{A B C D E F G:Sort _}{p q r s e f g:A→B→B→C→D→E→F→G→Prop}{b:Prop}(h:∃u:A,∃v:B,∃w:B,∃x:C,∃y:D,∃z:E,∃t:F,∃a:G,p u v w x y z t a∧q u v w x y z t a∧r u v w x y z t a∧s u v w x y z t a∧e u v w x y z t a∧f u v w x y z t a∧g u v w x y z t a)(k:∀u:A,∀v:B,∀w:B,∀x:C,∀y:D,∀z:E,∀t:F,∀a:G,p u v w x y z t a→q u v w x y z t a→r u v w x y z t a→s u v w x y z t a→e u v w x y z t a→f u v w x y z t a→g u v w x y z t a→b):b:=by obtain⟨u,v,w,x,y,z,t,a,i,j,l,m,n,o,H⟩:=h;exact k u v w x y z t a i j l m n o H
theorem oBv{A B C D E F:Sort _}{p q r s e f g d c p9 p10:A→B→C→D→E→D→F→E→D→A→Prop}{b:Prop}(h:∃u:A,∃v:B,∃w:C,∃x:D,∃y:E,∃z:D,∃t:F,∃a:E,∃v8:D,∃v9:A,(p u v w x y z t a v8 v9)∧(q u v w x y z t a v8 v9)∧(r u v w x y z t a v8 v9)∧(s u v w x y z t a v8 v9)∧(e u v w x y z t a v8 v9)∧(f u v w x y z t a v8 v9)∧(g u v w x y z t a v8 v9)∧(d u v w x y z t a v8 v9)∧(c u v w x y z t a v8 v9)∧(p9 u v w x y z t a v8 v9)∧p10 u v w x y z t a v8 v9)(k:∀u:A,∀v:B,∀w:C,∀x:D,∀y:E,∀z:D,∀t:F,∀a:E,∀v8:D,∀v9:A,p u v w x y z t a v8 v9→q u v w x y z t a v8 v9→r u v w x y z t a v8 v9→s u v w x y z t a v8 v9→e u v w x y z t a v8 v9→f u v w x y z t a v8 v9→g u v w x y z t a v8 v9→d u v w x y z t a v8 v9→c u v w x y z t a v8 v9→p9 u v w x y z t a v8 v9→p10 u v w x y z t a v8 v9→b):b:=by obtain⟨u,v,w,x,y,z,t,a,v8,v9,i,j,l,m,n,o,H,I,J,Sp,h11⟩:=h;exact k u v w x y z t a v8 v9 i j l m n o H I J Sp h11
theorem oBw{A B C D E F:Sort _}{p:Prop}{q r s e f g d:A→B→C→D→E→D→F→E→D→Prop}{b:Prop}(h:p∧∃u:A,∃v:B,∃w:C,∃x:D,∃y:E,∃z:D,∃t:F,∃a:E,∃v8:D,(q u v w x y z t a v8)∧(r u v w x y z t a v8)∧(s u v w x y z t a v8)∧(e u v w x y z t a v8)∧(f u v w x y z t a v8)∧(g u v w x y z t a v8)∧d u v w x y z t a v8)(k:∀u:A,∀v:B,∀w:C,∀x:D,∀y:E,∀z:D,∀t:F,∀a:E,∀v8:D,p→q u v w x y z t a v8→r u v w x y z t a v8→s u v w x y z t a v8→e u v w x y z t a v8→f u v w x y z t a v8→g u v w x y z t a v8→d u v w x y z t a v8→b):b:=by obtain⟨i,u,v,w,x,y,z,t,a,v8,j,l,m,n,o,H,I⟩:=h;exact k u v w x y z t a v8 i j l m n o H I
theorem oBx{A B:Sort _}{p:A→Prop}{q:B→A}{r:A→B→Prop}{b:Prop}(h:∃u:A,p u∧∃v:B,(u=q v)∧r u v)(k:∀v:B,p (q v)→r (q v) v→b):b:=by obtain⟨u,i,v,rfl,j⟩:=h;exact k v i j
theorem QS{A:Sort _}{p q:A→A→Prop}{b:Prop}(h:∃u:A,∃v:A,p u v∧q u v)(k:∀u:A,∀v:A,p u v→q u v→b):b:=by obtain⟨u,v,i,j⟩:=h;exact k u v i j
theorem oBz{A B:Sort _}{p:A→A→Prop}{q r:A→A→B→Prop}{s:A→A→Prop}{b:Prop}(h:∃u:A,∃v:A,p u v∧(∃w:B,q u v w∧r u v w)∧s u v)(k:∀u:A,∀v:A,∀w:B,p u v→q u v w→r u v w→s u v→b):b:=by obtain⟨u,v,i,⟨w,j,l⟩,m⟩:=h;exact k u v w i j l m
theorem Ra{A:Sort _}{p q r s:A→A→Prop}{b:Prop}(h:∃u:A,∃v:A,p u v∧q u v∧r u v∧s u v)(k:∀u:A,∀v:A,p u v→q u v→r u v→s u v→b):b:=by obtain⟨u,v,i,j,l,m⟩:=h;exact k u v i j l m
theorem Hj{A B C:Sort _}{p q r s e f:A→A→B→C→Prop}{b:Prop}(h:∃u:A,∃v:A,∃w:B,∃x:C,p u v w x∧q u v w x∧r u v w x∧s u v w x∧e u v w x∧f u v w x)(k:∀u:A,∀v:A,∀w:B,∀x:C,p u v w x→q u v w x→r u v w x→s u v w x→e u v w x→f u v w x→b):b:=by obtain⟨u,v,w,x,i,j,l,m,n,o⟩:=h;exact k u v w x i j l m n o
theorem La{A B C:Sort _}{p q r s e:A→B→C→Prop}{b:Prop}(h:∃u:A,∃v:B,∃w:C,p u v w∧((q u v w)∧r u v w)∧s u v w∧e u v w)(k:∀u:A,∀v:B,∀w:C,p u v w→q u v w→r u v w→s u v w→e u v w→b):b:=by obtain⟨u,v,w,i,⟨j,l⟩,m,n⟩:=h;exact k u v w i j l m n
theorem K9{A B C:Sort _}{p q:A→B→C→Prop}{r:A→B→C}{s e:A→B→C→Prop}{b:Prop}(h:∃u:A,∃v:B,∃w:C,p u v w∧((q u v w)∧w=r u v)∧s u v w∧e u v w)(k:∀u:A,∀v:B,p u v (r u v)→q u v (r u v)→s u v (r u v)→e u v (r u v)→b):b:=by obtain⟨u,v,w,i,⟨j,rfl⟩,l,m⟩:=h;exact k u v i j l m
theorem Hi{A B C:Sort _}{p:A→Prop}{q r:A→B→Prop}{s:A→B→C→Prop}{b:Prop}(h:∃u:A,p u∧∃v:B,q u v∧r u v∧∃w:C,s u v w)(k:∀u:A,∀v:B,∀w:C,p u→q u v→r u v→s u v w→b):b:=by obtain⟨u,i,v,j,l,w,m⟩:=h;exact k u v w i j l m
theorem Q9{A B C:Sort _}{p q r s e f g d c p9:A→B→B→B→C→Prop}{b:Prop}(h:∃u:A,∃v:B,∃w:B,∃x:B,∃y:C,p u v w x y∧q u v w x y∧r u v w x y∧s u v w x y∧e u v w x y∧f u v w x y∧g u v w x y∧d u v w x y∧c u v w x y∧p9 u v w x y)(k:∀u:A,∀v:B,∀w:B,∀x:B,∀y:C,p u v w x y→q u v w x y→r u v w x y→s u v w x y→e u v w x y→f u v w x y→g u v w x y→d u v w x y→c u v w x y→p9 u v w x y→b):b:=by obtain⟨u,v,w,x,y,i,j,l,m,n,o,H,I,J,Sp⟩:=h;exact k u v w x y i j l m n o H I J Sp
theorem mY{A:Sort _}{p:A→Prop}{q:A}{b:Prop}(h:∃u:A,p u∧u=q)(k:p (q)→b):b:=by obtain⟨u,i,rfl⟩:=h;exact k i
theorem K8{A B:Sort _}{p q:A→B→B→Prop}{r s:A→B→Prop}{b:Prop}(h:∃u:A,∃v:B,(∃w:B,p u v w∧q u v w)∧r u v∧s u v)(k:∀u:A,∀v:B,∀w:B,p u v w→q u v w→r u v→s u v→b):b:=by obtain⟨u,v,⟨w,i,j⟩,l,m⟩:=h;exact k u v w i j l m
theorem Q8{A B C D:Sort _}{p q:A→B→C→Prop}{r:A→C→D→B}{s:A→D→C}{b:Prop}(h:∃u:A,∃v:B,∃w:C,p u v w∧q u v w∧∃x:D,(v=r u w x)∧w=s u x)(k:∀u:A,∀x:D,p u (r u (s u x) x) (s u x)→q u (r u (s u x) x) (s u x)→b):b:=by obtain⟨u,v,w,i,j,x,rfl,rfl⟩:=h;exact k u x i j
theorem Hh{A:Sort _}{p q r s:A→A→A→Prop}{b:Prop}(h:∃u:A,∃v:A,∃w:A,p u v w∧q u v w∧r u v w∧s u v w)(k:∀u:A,∀v:A,∀w:A,p u v w→q u v w→r u v w→s u v w→b):b:=by obtain⟨u,v,w,i,j,l,m⟩:=h;exact k u v w i j l m
theorem Q7{A B:Sort _}{p q r s e:A→B→Prop}{b:Prop}(h:∃u:A,∃v:B,p u v∧q u v∧r u v∧s u v∧e u v)(k:∀u:A,∀v:B,p u v→q u v→r u v→s u v→e u v→b):b:=by obtain⟨u,v,i,j,l,m,n⟩:=h;exact k u v i j l m n
theorem Q6{A B C D:Sort _}{p q:A→B→C→Prop}{r:A→C→D→B}{s:A→D→C}{e:A→B→C→D→Prop}{b:Prop}(h:∃u:A,∃v:B,∃w:C,p u v w∧q u v w∧∃x:D,(v=r u w x)∧(w=s u x)∧e u v w x)(k:∀u:A,∀x:D,p u (r u (s u x) x) (s u x)→q u (r u (s u x) x) (s u x)→e u (r u (s u x) x) (s u x) x→b):b:=by obtain⟨u,v,w,i,j,x,rfl,rfl,l⟩:=h;exact k u x i j l
theorem Q5{A B C:Sort _}{p:A→Prop}{q:B→C→A}{r s:A→B→C→Prop}{b:Prop}(h:∃u:A,p u∧∃v:B,∃w:C,(u=q v w)∧r u v w∧s u v w)(k:∀v:B,∀w:C,p (q v w)→r (q v w) v w→s (q v w) v w→b):b:=by obtain⟨u,i,v,w,rfl,j,l⟩:=h;exact k v w i j l
theorem Q4{A B C:Sort _}{p:A→B→Prop}{q:A→B→C→Prop}{r:A→B→Prop}{b:Prop}(h:∃u:A,∃v:B,p u v∧(∃w:C,q u v w)∧r u v)(k:∀u:A,∀v:B,∀w:C,p u v→q u v w→r u v→b):b:=by obtain⟨u,v,i,⟨w,j⟩,l⟩:=h;exact k u v w i j l
theorem DK{A:Sort _}{p:Prop}{q r:A→Prop}{b:Prop}(h:p∧∃u:A,q u∧r u)(k:∀u:A,p→q u→r u→b):b:=by obtain⟨i,u,j,l⟩:=h;exact k u i j l
theorem K7{A B C:Sort _}{p q:A→B→C→Prop}{r:A→C→B}{s:A→B→C→Prop}{b:Prop}(h:∃u:A,∃v:B,∃w:C,p u v w∧q u v w∧(v=r u w)∧s u v w)(k:∀u:A,∀w:C,p u (r u w) w→q u (r u w) w→s u (r u w) w→b):b:=by obtain⟨u,v,w,i,j,rfl,l⟩:=h;exact k u w i j l
theorem Q3{A B C:Sort _}{p:A→Prop}{q r s:A→B→C→Prop}{b:Prop}(h:∃u:A,p u∧∃v:B,∃w:C,q u v w∧r u v w∧s u v w)(k:∀u:A,∀v:B,∀w:C,p u→q u v w→r u v w→s u v w→b):b:=by obtain⟨u,i,v,w,j,l,m⟩:=h;exact k u v w i j l m
theorem K6{A:Sort _}{p:A→A→A→Prop}{b:Prop}(h:∃u:A,∃v:A,∃w:A,p u v w)(k:∀u:A,∀v:A,∀w:A,p u v w→b):b:=by obtain⟨u,v,w,i⟩:=h;exact k u v w i
theorem DJ{A B C:Sort _}{p q:A→B→C→Prop}{r:A→B→A→B→C→C}{s:A→B→C→A→B→C→Prop}{e:A→B→A→B→C}{f:A→B→C→A→B→C→Prop}{b:Prop}(h:∃u:A,∃v:B,∃w:C,p u v w∧q u v w∧∃x:A,∃y:B,∃z:C,(w=r u v x y z)∧s u v w x y z∧(z=e u v x y)∧f u v w x y z)(k:∀u:A,∀v:B,∀x:A,∀y:B,p u v (r u v x y (e u v x y))→q u v (r u v x y (e u v x y))→s u v (r u v x y (e u v x y)) x y (e u v x y)→f u v (r u v x y (e u v x y)) x y (e u v x y)→b):b:=by obtain⟨u,v,w,i,j,x,y,z,rfl,l,rfl,m⟩:=h;exact k u v x y i j l m
theorem K5{A B C:Sort _}{p q:A→B→C→Prop}{b:Prop}(h:∃u:A,∃v:B,∃w:C,p u v w∧q u v w)(k:∀u:A,∀v:B,∀w:C,p u v w→q u v w→b):b:=by obtain⟨u,v,w,i,j⟩:=h;exact k u v w i j
theorem Q1{A B:Sort _}{p:A→Prop}{q:A→B}{r:A→B→Prop}{b:Prop}(h:∃u:A,p u∧∃v:B,(v=q u)∧r u v)(k:∀u:A,p u→r u (q u)→b):b:=by obtain⟨u,i,v,rfl,j⟩:=h;exact k u i j
theorem Hg{A B C:Sort _}{p q:A→B→C→Prop}{r:A→C→B}{s:A→C}{b:Prop}(h:∃u:A,∃v:B,∃w:C,p u v w∧q u v w∧(v=r u w)∧w=s u)(k:∀u:A,p u (r u (s u)) (s u)→q u (r u (s u)) (s u)→b):b:=by obtain⟨u,v,w,i,j,rfl,rfl⟩:=h;exact k u i j
theorem Q0{A:Sort _}{p:A→A→A→A→A→Prop}{b:Prop}(h:∃u:A,∃v:A,∃w:A,∃x:A,∃y:A,p u v w x y)(k:∀u:A,∀v:A,∀w:A,∀x:A,∀y:A,p u v w x y→b):b:=by obtain⟨u,v,w,x,y,i⟩:=h;exact k u v w x y i
theorem QZ{A B C:Sort _}{p q r s:A→B→C→C→Prop}{b:Prop}(h:∃u:A,∃v:B,∃w:C,∃x:C,p u v w x∧q u v w x∧r u v w x∧s u v w x)(k:∀u:A,∀v:B,∀w:C,∀x:C,p u v w x→q u v w x→r u v w x→s u v w x→b):b:=by obtain⟨u,v,w,x,i,j,l,m⟩:=h;exact k u v w x i j l m
theorem QY{A:Sort _}{p q:A→A→A→A→A→Prop}{b:Prop}(h:∃u:A,∃v:A,∃w:A,∃x:A,∃y:A,p u v w x y∧q u v w x y)(k:∀u:A,∀v:A,∀w:A,∀x:A,∀y:A,p u v w x y→q u v w x y→b):b:=by obtain⟨u,v,w,x,y,i,j⟩:=h;exact k u v w x y i j
theorem K4{A:Sort _}{p q:A→A→A→A→Prop}{b:Prop}(h:∃u:A,∃v:A,∃w:A,∃x:A,p u v w x∧q u v w x)(k:∀u:A,∀v:A,∀w:A,∀x:A,p u v w x→q u v w x→b):b:=by obtain⟨u,v,w,x,i,j⟩:=h;exact k u v w x i j
theorem QX{A:Sort _}{p:A→A→Prop}{q:A→A→A→A→A→Prop}{b:Prop}(h:∃u:A,∃v:A,p u v∧∃w:A,∃x:A,∃y:A,q u v w x y)(k:∀u:A,∀v:A,∀w:A,∀x:A,∀y:A,p u v→q u v w x y→b):b:=by obtain⟨u,v,i,w,x,y,j⟩:=h;exact k u v w x y i j
theorem QW{A:Sort _}{p q r s e f g d:A→A→A→A→A→A→A→Prop}{b:Prop}(h:∃u:A,∃v:A,∃w:A,∃x:A,∃y:A,∃z:A,∃t:A,p u v w x y z t∧q u v w x y z t∧r u v w x y z t∧s u v w x y z t∧e u v w x y z t∧f u v w x y z t∧g u v w x y z t∧d u v w x y z t)(k:∀u:A,∀v:A,∀w:A,∀x:A,∀y:A,∀z:A,∀t:A,p u v w x y z t→q u v w x y z t→r u v w x y z t→s u v w x y z t→e u v w x y z t→f u v w x y z t→g u v w x y z t→d u v w x y z t→b):b:=by obtain⟨u,v,w,x,y,z,t,i,j,l,m,n,o,H,I⟩:=h;exact k u v w x y z t i j l m n o H I
theorem QV{A B C:Sort _}{p:B→C→A}{q r s e:A→B→C→Prop}{b:Prop}(h:∃u:A,∃v:B,∃w:C,((u=p v w)∧q u v w∧r u v w)∧s u v w∧e u v w)(k:∀v:B,∀w:C,q (p v w) v w→r (p v w) v w→s (p v w) v w→e (p v w) v w→b):b:=by obtain⟨u,v,w,⟨rfl,i,j⟩,l,m⟩:=h;exact k v w i j l m
noncomputable abbrev mk (l:List Nat):Str:=⟨l.toArray⟩
theorem i6 (s:Str):mk s.cps.toList=s:=by cases s;simp[mk]
inductive PV where
 | none | bool (b:Bool) | int (i:Int) | str (l:List Nat) | bytes (l:List UInt8) | ref (a:Addr)
inductive VR:PV→Value→Prop
 | none:VR .none .none
 | bool (b:Bool):VR (.bool b) (.bool b)
 | int (i:Int) (t:Tok):VR (.int i) (.int i t)
 | str (l:List Nat) (t:Tok):VR (.str l) (.str (mk l) t)
 | bytes (l:List UInt8) (t:Tok):VR (.bytes l) (.bytes l.toArray t)
 | ref (a:Addr):VR (.ref a) (.ref a)
@[elab_as_elim] theorem vI {i:Int}{u:Value}{P:Value→Prop}(h:VR (.int i) u) (k: ∀t,P (.int i t)):P u:=by cases h;exact k _
@[elab_as_elim] theorem vS {l:List Nat}{u:Value}{P:Value→Prop}(h:VR (.str l) u) (k: ∀t,P (.str (mk l) t)):P u:=by cases h;exact k _
@[elab_as_elim] theorem vY {l:List UInt8}{u:Value}{P:Value→Prop}(h:VR (.bytes l) u) (k: ∀t,P (.bytes l.toArray t)):P u:=by cases h;exact k _
@[elab_as_elim] theorem vN {u:Value}{P:Value→Prop}(h:VR .none u) (k:P .none):P u:=by cases h;exact k
@[elab_as_elim] theorem vB {b:Bool}{u:Value}{P:Value→Prop}(h:VR (.bool b) u) (k:P (.bool b)):P u:=by cases h;exact k
@[elab_as_elim] theorem vR {a:Addr}{u:Value}{P:Value→Prop}(h:VR (.ref a) u) (k:P (.ref a)):P u:=by cases h;exact k
inductive Fl:Option PV→Option Value→Prop
 | none:Fl .none .none
 | some {p v} (h:VR p v):Fl (.some p) (.some v)
inductive cu:List PV→List Value→Prop
 | nil:cu [] []
 | cons {p v ps vs} (h:VR p v) (r:cu ps vs):cu (p::ps) (v::vs)
theorem cu.length {ps vs} (h:cu ps vs):ps.length=vs.length:=by
 induction h with
 | nil=>rfl
 | cons _ _ ih=>simp[ih]
theorem cu.get {ps vs} (h:cu ps vs): ∀(i:Nat) (p:PV),ps[i]? =some p→ ∃v,vs[i]? =some v∧VR p v:=by
 induction h with
 | nil=>intro i p e;simp at e
 | cons h r ih=>
  intro i p e;cases i with
  | zero=>simp at e;subst e;exact⟨_,rfl,h⟩
  | succ i=>simp at e;simpa using ih i p e
theorem cu.append {ps vs qs us} (h:cu ps vs) (h':cu qs us):cu (ps++qs) (vs++us):=by
 induction h with
 | nil=>exact h'
 | cons h r ih=>exact .cons h ih
noncomputable abbrev Led:=List (Addr×(Obj→Prop))
inductive ey:Led→List (Addr×Obj)→Prop
 | nil:ey [] []
 | cons {a P o σ n} (h:P o) (r:ey σ n):ey ((a,P)::σ) ((a,o)::n)
theorem ey.keys {σ n} (h:ey σ n):σ.map (·.1)=n.map (·.1):=by
 induction h with
 | nil=>rfl
 | cons h r ih=>simp[ih]
theorem ey.get {σ n} (h:ey σ n): ∀{a P},(a,P)∈σ→ ∃o,(a,o)∈n∧P o:=by
 induction h with
 | nil=>intro a P e;cases e
 | cons h r ih=>
  intro a P e;cases e with
  | head=>exact⟨_,.head _,h⟩
  | tail _ e=>refine aF (ih e) fun o ho p=> ?_;exact⟨o,.tail _ ho,p⟩
noncomputable abbrev Ro:=List (Str×Option PV)
noncomputable def gE (ρ:Ro) (m:Str→Option Value):Prop:=(∀p∈ρ,Fl p.2 (m p.1))∧ ∀y,y∉ρ.map (·.1)→m y=none
structure Cx where
 A:Around
 env:Env
 L:Addr
 FL:Addr
 g:Heap
 os:OsState
 ks:List Str
structure Inv (X:Cx) (ρ:Ro) (σ:Led) (s:Shared):Prop where
 st: ∃m news,Fr X.g X.L s.heap m∧News X.g X.L s.heap news∧gE ρ m∧ey σ news
 nd:(σ.map (·.1)).Nodup
 ks:ρ.map (·.1)=X.ks
 kn:X.ks.Nodup
 gens:AllBare s.gens
 os:s.os=X.os
section
variable (prog:Program) (w:World)
noncomputable def Ev (X:Cx) {α:Type}(t:Sem α) (ρ:Ro) (σ:Led) (R:α→Shared→Prop):Prop:=
 ∀s,Inv X ρ σ s→wpAny (model prog w) X.A t R (fun U U=>False) s
noncomputable def jP (X:Cx) (t:Sem Value) (ρ:Ro) (σ:Led) (v:PV):Prop:=Ev prog w X t ρ σ fun u s'=>VR v u∧Inv X ρ σ s'
noncomputable def PE (X:Cx) (e:Expr) (ρ:Ro) (σ:Led) (v:PV):Prop:=jP prog w X (eval e X.env) ρ σ v
noncomputable def Gl (X:Cx) (t:Sem Value) (ρ:Ro) (σ:Led) (P:Obj→Prop):Prop:=Ev prog w X t ρ σ fun u s'=> ∃a,u= .ref a∧Inv X ρ ((a,P)::σ) s'
noncomputable def NE (X:Cx) (e:Expr) (ρ:Ro) (σ:Led) (P:Obj→Prop):Prop:=Gl prog w X (eval e X.env) ρ σ P
noncomputable def BE (X:Cx) (e:Expr) (ρ:Ro) (σ:Led) (b:Bool):Prop:=Ev prog w X (isTrue e X.env (eval e X.env)) ρ σ fun u s'=>u=b∧Inv X ρ σ s'
end
section
variable {prog:Program}{w:World}{X:Cx}{ρ:Ro}{σ:Led}
theorem Ev.mono {α:Type}{t:Sem α}{R R':α→Shared→Prop}(h:Ev prog w X t ρ σ R) (k: ∀a s,R a s→R' a s):Ev prog w X t ρ σ R':=
 fun s I=>wpAny_mono (h s I) k fun U U f=>f
theorem Ev.go {α:Type}{t:Sem α}{R:α→Shared→Prop}{Q:α→Shared→Prop}{E:Value→Shared→Prop}{s:Shared}(h:Ev prog w X t ρ σ R) (I:Inv X ρ σ s) (k: ∀a s,R a s→Q a s):
  wpAny (model prog w) X.A t Q E s:=wpAny_mono (h s I) k fun U U f=>f.elim
theorem PE.go {e:Expr}{v:PV}{Q:Value→Shared→Prop}{E:Value→Shared→Prop}{s:Shared}(h:PE prog w X e ρ σ v) (I:Inv X ρ σ s) (k: ∀u s',VR v u→Inv X ρ σ s'→Q u s'):
  wpAny (model prog w) X.A (eval e X.env) Q E s:=wpAny_mono (h s I) (fun u s' r=>k u s' r.1 r.2) fun U U f=>f.elim
theorem Inv.tick {s:Shared}(I:Inv X ρ σ s) (t:Nat):Inv X ρ σ {s with toks:=t}:=⟨I.st,I.nd,I.ks,I.kn,I.gens,I.os⟩
theorem ai {i:Int}{k:Nat}{pos:Pos}:PE prog w X (.Constant (.int i) k pos) ρ σ (.int i):=
 fun U I=>wpAny_Constant_int ⟨.int _ _,I.tick _⟩
theorem g8 {l r:Expr}{op:Operator}{pos:Pos}{a b v:PV}(hl:PE prog w X l ρ σ a) (hr:PE prog w X r ρ σ b)
  (h: ∀jW gH,VR a jW→VR b gH→jP prog w X (binaryOp op jW gH) ρ σ v):PE prog w X (.BinOp l op r pos) ρ σ v:=
 fun U I=>wpAny_BinOp (hl.go I fun jW U QA aS=>hr.go aS fun gH au kQ aH=>h jW gH QA kQ au aH)
theorem bQ {l r:Expr}{pos:Pos}{a b:Int}(hl:PE prog w X l ρ σ (.int a)) (hr:PE prog w X r ρ σ (.int b)):PE prog w X (.BinOp l .Add r pos) ρ σ (.int (a+b)):=
 g8 hl hr fun U U dk gL U I=>by refine vI dk fun t=> ?_;refine vI gL fun t=> ?_;exact add_int ⟨.int _ _,I.tick _⟩
theorem fY {l r:Expr}{pos:Pos}{a b:Int}(hl:PE prog w X l ρ σ (.int a)) (hr:PE prog w X r ρ σ (.int b)):PE prog w X (.BinOp l .Sub r pos) ρ σ (.int (a-b)):=
 g8 hl hr fun U U dk gL U I=>by refine vI dk fun t=> ?_;refine vI gL fun t=> ?_;exact sub_int ⟨.int _ _,I.tick _⟩
theorem cG {l r:Expr}{pos:Pos}{a b:Int}(hl:PE prog w X l ρ σ (.int a)) (hr:PE prog w X r ρ σ (.int b)) (hb:b≠0):PE prog w X (.BinOp l .Mod r pos) ρ σ (.int (a.fmod b)):=
 g8 hl hr fun U U dk gL U I=>by refine vI dk fun t=> ?_;refine vI gL fun t=> ?_;exact mod_int hb ⟨.int _ _,I.tick _⟩
end
theorem gE.get {ρ:Ro}{m:Str→Option Value}(h:gE ρ m) {x:Str}{v:PV}(hm:(x,some v)∈ρ): ∃u,m x=some u∧VR v u:=by
 have:=h.1 _ hm
 generalize hq:m x=q at this
 cases this with
 | some h=>exact⟨_,rfl,h⟩
inductive Up (x:Str) (v:Option PV):Ro→Ro→Prop
 | here {u r}:Up x v ((x,u)::r) ((x,v)::r)
 | there {p r r'} (h:Up x v r r'):Up x v (p::r) (p::r')
theorem Up.keys {x v ρ bC} (h:Up x v ρ bC):bC.map (·.1)=ρ.map (·.1):=by
 induction h with
 | here=>rfl
 | there _ ih=>simp[ih]
theorem Up.iK {x v ρ bC} (h:Up x v ρ bC):x∈ρ.map (·.1):=by
 induction h with
 | here=>simp
 | there _ ih=>simp only[List.map_cons,List.mem_cons];exact .inr ih
theorem Up.mem {x v ρ bC} (h:Up x v ρ bC):(ρ.map (·.1)).Nodup→ ∀p∈bC,p=(x,v)∨(p∈ρ∧p.1≠x):=by
 induction h with
 | @here u r=>
  intro nd p hp;rw[List.map_cons,List.nodup_cons] at nd
  rcases List.mem_cons.mp hp with rfl | hp
  ·exact .inl rfl
  ·exact .inr ⟨.tail _ hp,fun e=>nd.1 (by have:=List.mem_map_of_mem (f:=Prod.fst) hp;rw[e] at this;exact this)⟩
 | @there q r r' h ih=>
  intro nd p hp;rw[List.map_cons,List.nodup_cons] at nd
  rcases List.mem_cons.mp hp with rfl | hp
  ·exact .inr ⟨.head _,fun e=>nd.1 (e ▸ h.iK)⟩
  ·rcases ih nd.2 p hp with e | ⟨a,b⟩
   ·exact .inl e
   ·exact .inr ⟨.tail _ a,b⟩
theorem gE.up {ρ bC:Ro}{m:Str→Option Value}{x:Str}{v:PV}{u:Value}(h:gE ρ m) (nd:(ρ.map (·.1)).Nodup) (hu:Up x (some v) ρ bC) (hv:VR v u):
  gE bC (fun y=>if y=x then some u else m y):=by
 refine⟨fun p hp=> ?_,fun y hy=> ?_⟩
 ·rcases hu.mem nd p hp with rfl | ⟨a,b⟩
  ·simp only[if_true];exact .some hv
  ·simp only[if_neg b];exact h.1 p a
 ·rw[hu.keys] at hy
  have:y≠x:=fun e=>hy (e ▸ hu.iK)
  simp only[if_neg this];exact h.2 y hy
theorem ey.sub {σ n} (h:ey σ n): ∀{σ'},σ'.Sublist σ→ ∃n',ey σ' n'∧n'.Sublist n:=by
 induction h with
 | nil=>intro σ' hs;cases hs;exact⟨[],.nil,.slnil⟩
 | cons h r ih=>
  intro σ' hs;cases hs with
  | cons _ hs=>refine aF (ih hs) fun n' a b=> ?_;exact⟨n',a,.cons _ b⟩
  | cons_cons _ hs=>refine aF (ih hs) fun n' a b=> ?_;exact⟨_,.cons h a,.cons_cons _ b⟩
section
variable {prog:Program}{w:World}{X:Cx}{ρ bC:Ro}{σ σ':Led}
theorem Inv.sub {s:Shared}(I:Inv X ρ σ s) (h:σ'.Sublist σ):Inv X ρ σ' s:=by
 refine gS I.st fun m news F N R D=> ?_
 refine aF (D.sub h) fun n' D' hs=> ?_
 exact⟨⟨m,n',F,fun p hp=>N p (hs.mem hp),R,D'⟩,I.nd.sublist (h.map _),I.ks,I.kn,I.gens,I.os⟩
theorem Inv.obj {s:Shared}(I:Inv X ρ σ s) {a:Addr}{P:Obj→Prop}(h:(a,P)∈σ): ∃o,s.heap.get? a=some o∧P o:=by
 refine gS I.st fun m news F N R D=> ?_
 refine aF (D.get h) fun o ho p=> ?_
 exact⟨o,N.get ho,p⟩
theorem Inv.keep {s:Shared}(I:Inv X ρ σ s) {a:Addr}{o:Obj}(h:X.g.get? a=some o):s.heap.get? a=some o:=by
 refine gS I.st fun m news F N R D=> ?_
 exact F.keep _ _ h
structure Lay (X:Cx):Prop where
 fn:X.env.scope.kind= .function
 loc:X.env.locals=X.L
 ks: ∀x∈X.ks,X.env.kindOf x=some .local∧(x==("__debug__":Str))=false
theorem cW (Y:Lay X) {x:Str}{pos:Pos}{v:PV}(hm:(x,some v)∈ρ):PE prog w X (.Name x pos) ρ σ v:=fun s I=>by
 refine gS I.st fun m news F N R D=> ?_
 refine aF (R.get hm) fun u hu hv=> ?_
 have hk:=Y.ks x (I.ks ▸ List.mem_map_of_mem hm);exact wpAny_Name (wpAny_loadName_local Y.fn hk.1 (by rw[Y.loc];exact F.ns) hu ⟨hv,I⟩) hk.2
theorem ag (Y:Lay X) (k:Nat) {x:Str}{pos:Pos}{v:PV}(hm:ρ[k]? =some (x,some v)):PE prog w X (.Name x pos) ρ σ v:=cW Y (List.mem_of_getElem? hm)
noncomputable def ae (v:Option PV):Obj→Prop:=fun o=> ∃u,Fl v u∧o.data= .cell u
theorem zZ {s:Shared}(I:Inv X ρ σ s) {c:Addr}{v:PV}(hm:(c,ae (some v))∈σ): ∃u,s.heap.IsCell c (some u)∧VR v u:=by
 refine DI (I.obj hm) fun o u ho hu hd=> ?_
 cases hu with
 | some h=>exact⟨_,⟨o,ho,hd⟩,h⟩
theorem ay {x:Str}{pos:Pos}{c:Addr}{v:PV}(hf:X.env.scope.kind= .function) (hk:X.env.kindOf x=some .cell) (hc:X.env.cells.lookup x=some c)
  (hm:(c,ae (some v))∈σ) (hd:(x==("__debug__":Str))=false:=by decide):PE prog w X (.Name x pos) ρ σ v:=fun s I=>by
 refine aF (zZ I hm) fun u hu hv=> ?_
 exact wpAny_Name (wpAny_loadName_cell hf hk hc hu ⟨hv,I⟩) hd
end
section
variable {X:Cx}{ρ:Ro}{σ σ':Led}
theorem ey.perm {σ σ':Led}(h:σ.Perm σ'): ∀{n},ey σ n→ ∃n',ey σ' n'∧n.Perm n':=by
 induction h with
 | nil=>intro n h;exact⟨n,h,.refl _⟩
 | cons x _ ih=>intro n h;cases h with | cons hp h=>refine aF (ih h) fun n' d p=> ?_;exact⟨_,.cons hp d,p.cons _⟩
 | swap x y l=>intro n h;cases h with | cons hp h=>cases h with | cons hq h=>exact⟨_,.cons hq (.cons hp h),.swap _ _ _⟩
 | trans _ _ ih1 ih2=>intro n h;refine aF (ih1 h) fun n₁ SJ QK=> ?_;refine aF (ih2 SJ) fun Rb SH QJ=> ?_;exact⟨Rb,SH,QK.trans QJ⟩
theorem Inv.perm {s:Shared}(I:Inv X ρ σ s) (h:σ.Perm σ'):Inv X ρ σ' s:=by
 obtain⟨⟨m,n,F,N,R,D⟩,nd,ks,kn,ge,os⟩:=I;refine aF (D.perm h) fun n' d p=> ?_
 exact⟨⟨m,n',F,fun q hq=>N q (p.mem_iff.mpr hq),R,d⟩,(h.map _).nodup_iff.mp nd,ks,kn,ge,os⟩
noncomputable def isNs (ρ:Ro):Obj→Prop:=fun o=> ∃m,gE ρ m∧PyProof.Rows.LCg.NsObj o m
theorem Inv.swap {s:Shared}{ik:Ro}{F:Addr}{σ:Led}(I:Inv X ρ ((F,isNs ik)::σ) s) (hF:X.g.objs.size≤F) (kn:(ik.map (·.1)).Nodup):Inv {X with L:=F,ks:=ik.map (·.1)} ik ((X.L,isNs ρ)::σ) s:=by
 obtain⟨⟨m,n,Fr,N,R,D⟩,nd,ks,kn',ge,os⟩:=I;cases D with
 | cons hp D=>
  rename_i o n
  refine aF hp fun Rd R₀ Ma=> ?_
  have hn:=N _ (.head _);refine aF (PyProof.Rows.LCg.ns_obj Fr.ns) fun oL hoL hL=> ?_
  have Fy:=nd;rw[List.map_cons,List.nodup_cons] at Fy
  refine⟨⟨Rd,(X.L,oL)::n,⟨Ma.ns hn.1,Fr.keep,hF⟩,fun p hp=> ?_,R₀,.cons ⟨m,R,hL⟩ D⟩,?_,rfl,kn,ge,os⟩
  ·rcases List.mem_cons.mp hp with rfl | hp
   ·refine⟨hoL,fun e=>hn.2.1 e.symm,?_⟩;cases e:X.g.get? X.L with
    | none=>rfl
    | some o'=>exact absurd (Heap.lt_size e) (Nat.not_lt.mpr Fr.above)
   ·have z:=N p (.tail _ hp);exact⟨z.1,fun e=>Fy.1 (by rw[D.keys];exact List.mem_map.mpr ⟨p,hp,e⟩),z.2.2⟩
  ·rw[List.map_cons,List.nodup_cons];refine⟨fun hm=> ?_,Fy.2⟩;rw[D.keys] at hm
   refine aF (List.mem_map.mp hm) fun p hp e=> ?_
   exact(N p (.tail _ hp)).2.1 e
noncomputable def tq (X:Cx) (σ:Led):Prop:=X.FL=X.L∨ ∃ik,(X.FL,isNs ik)∈σ∧(ik.map (·.1)).Nodup
theorem DR {σ:Led}{p} (h:p∈σ): ∃aD,σ.Perm (p::aD):=by
 refine xM (List.append_of_mem h) fun a b ah=> ?_;subst ah
 exact⟨_,List.perm_middle⟩
end
structure aX where
 K:Frag
 mg:Str→Option Value
 mb:Str→Option Value
structure cU (T:aX) (n:Nat) (X:Cx):Prop where
 above:X.g.objs.size≤X.FL
 call: ∃A₀ base outer uF,Below A₀ base outer X.g∧X.A.frames=some (uF::outer)∧uF.frame=some X.FL∧uF.scope.kind= .function
 lim:X.g.NoLimit
 top:T.K.In X.g
 gm:X.g.Ns mainGlobals T.mg
 bm:X.g.Ns builtinsNs T.mb
 dep:X.A.depth+n<900
 un:X.A.units+10*n<9000
 hh:X.A.handled=none
 fn:X.env.scope.kind= .function
 gl:X.env.globals=mainGlobals
 bl:X.env.builtins=builtinsNs
theorem cU.le {T n k X} (h:cU T n X) (hk:k≤n):cU T k X:=⟨h.above,h.call,h.lim,h.top,h.gm,h.bm,by have:=h.dep;exact UM hk this,by have:=h.un;exact UO hk this,h.hh,h.fn,h.gl,h.bl⟩
section
variable (prog:Program) (w:World)
noncomputable def XE (X:Cx) (e:Expr) (ρ:Ro) (σ:Led) (v:Value):Prop:=Ev prog w X (eval e X.env) ρ σ fun u s'=>u=v∧Inv X ρ σ s'
noncomputable def AE (X:Cx) (es:List Expr) (pos:Pos) (ρ:Ro) (σ:Led) (vs:List PV):Prop:=
 ∀f:Value,Ev prog w X (evalArgs f true (backTo pos (starEach es X.env)) []) ρ σ fun a s'=> ∃us,a=⟨us,[]⟩∧cu vs us∧Inv X ρ σ s'
noncomputable def Ku (X:Cx) (t:List (Bool×Sem Value)) (ρ:Ro) (σ:Led) (vs:List PV):Prop:=Ev prog w X (spliced t) ρ σ fun us s'=>cu vs us∧Inv X ρ σ s'
end
section
variable {prog:Program}{w:World}{X:Cx}{ρ bC:Ro}{σ σ':Led}{T:aX}{n:Nat}
theorem cP (O:cU T n X) {x:Str}{pos:Pos}{v:Value}(hk:X.env.kindOf x=some .globalImplicit) (hv:T.mg x=some v) (hd:(x==("__debug__":Str))=false:=by decide):
  XE prog w X (.Name x pos) ρ σ v:=fun s I=>by
 refine gS I.st fun m news F N R D=> ?_
 exact Name_function_global O.fn hk (loadGlobal_global (by rw[O.gl];exact O.gm.keeps F.keep) hv ⟨rfl,I⟩) hd
theorem aC (O:cU T n X) {x:Str}{pos:Pos}{v:Value}(hk:X.env.kindOf x=some .globalImplicit) (hg:T.mg x=none) (hv:T.mb x=some v) (hd:(x==("__debug__":Str))=false:=by decide):
  XE prog w X (.Name x pos) ρ σ v:=fun s I=>by
 refine gS I.st fun m news F N R D=> ?_
 exact Name_function_global O.fn hk (loadGlobal_builtin (by rw[O.gl];exact O.gm.keeps F.keep) hg (by rw[O.bl];exact O.bm.keeps F.keep) hv ⟨rfl,I⟩) hd
theorem jw {e:Expr}{v:Value}{p:PV}(h:XE prog w X e ρ σ v) (hv:VR p v):PE prog w X e ρ σ p:=fun s I=>wpAny_mono (h s I) (fun u s' r=>by refine bo r fun ah I'=> ?_;clear r;subst ah;exact⟨hv,I'⟩) fun U U f=>f
theorem lK:Ku prog w X [] ρ σ []:=fun s I=>spliced_nil ⟨.nil,I⟩
theorem eL {t:Sem Value}{r:List (Bool×Sem Value)}{v:PV}{vs:List PV}(h:jP prog w X t ρ σ v) (hr:Ku prog w X r ρ σ vs):Ku prog w X ((false,t)::r) ρ σ (v::vs):=fun s I=>
 spliced_cons (wpAny_mono (h s I) (fun u s₁ q=>wpAny_mono (hr s₁ q.2) (fun us au q'=>⟨.cons q.1 q'.1,q'.2⟩) fun U U f=>f) fun U U f=>f)
theorem Ap {pos:Pos}:AE prog w X [] pos ρ σ []:=fun f s I=>PyProof.Rows.evalArgs_none ⟨_,rfl,.nil,I⟩
theorem v5 {es:List Expr}{pos:Pos}{vs:List PV}{t:Sem Value}{r:List (Bool×Sem Value)}(e:backTo pos (starEach es X.env)=(false,t)::r) (h:Ku prog w X ((false,t)::r) ρ σ vs):AE prog w X es pos ρ σ vs:=fun f s I=>by
 rw[e];exact evalArgs_plain (wpAny_mono (h s I) (fun us s' q=>⟨us,rfl,q.1,q.2⟩) fun U U f=>f)
end
section
variable {prog:Program}{w:World}{X:Cx}{ρ bC:Ro}{σ σ':Led}{T:aX}{n:Nat}
theorem bg {x:Str}{p pos:Pos}{args:List Expr}{id:String}{vs:List PV}{v:PV}(hf:XE prog w X (.Name x p) ρ σ (.builtin id)) (ha:AE prog w X args pos ρ σ vs)
  (hc: ∀us,cu vs us→jP prog w X (call (.builtin id) us) ρ σ v) (hp:(backTo pos (starEach args X.env)).any (·.1)=false:=by rfl):PE prog w X (.Call (.Name x p) args [] pos) ρ σ v:=fun s I=>
 PyProof.Rows.Call_ (wpAny_mono (hf s I) (fun f s₁ q=>by
  refine bo q fun ah aS=> ?_;clear q;subst ah
  refine callWith_builtin hp (wpAny_mono (ha _ s₁ aS) (fun a au q=> ?_) fun U U f=>f);refine gR q fun us ah hv aH=> ?_;clear q;subst ah
  exact hc us hv au aH) fun U U f=>f) rfl
theorem kb {x:Str}{p pos:Pos}{args:List Expr}{t:String}{vs:List PV}{v:PV}(hf:XE prog w X (.Name x p) ρ σ (.type t)) (ha:AE prog w X args pos ρ σ vs)
  (hc: ∀us,cu vs us→jP prog w X (call (.type t) us) ρ σ v) (hp:(backTo pos (starEach args X.env)).any (·.1)=false:=by rfl):PE prog w X (.Call (.Name x p) args [] pos) ρ σ v:=fun s I=>
 PyProof.Rows.Call_ (wpAny_mono (hf s I) (fun f s₁ q=>by
  refine bo q fun ah aS=> ?_;clear q;subst ah
  refine PyProof.Rows.callWith_type hp (wpAny_mono (ha _ s₁ aS) (fun a au q=> ?_) fun U U f=>f);refine gR q fun us ah hv aH=> ?_;clear q;subst ah
  exact hc us hv au aH) fun U U f=>f) rfl
theorem gu {o:Expr}{name:Str}{apos pos:Pos}{args:List Expr}{pl:Sem Bool}{a:PV}{id:String}{vs:List PV}{v:PV}(ho:PE prog w X o ρ σ a)
  (hm: ∀(u:Value) (s:Shared) (Q:Value×List Value→Shared→Prop),VR a u→Inv X ρ σ s→Q (.builtin id,[u]) s→wpAny (model prog w) X.A (getMethod u name pl) Q (fun U U=>False) s)
  (ha:AE prog w X args pos ρ σ vs) (hc: ∀u us,VR a u→cu vs us→jP prog w X (call (.builtin id) (u::us)) ρ σ v)
  (heq:eval ((o.Attribute name apos).Call args [] pos) X.env=(do let ov ←eval o X.env;standAt apos.atName;let fx ←holding [ov] (getMethod ov name pl);match fx with | (f,first)=>callWith pos f first (backTo pos (starEach args X.env)) []):=by rfl)
  (hp:(backTo pos (starEach args X.env)).any (·.1)=false:=by rfl):PE prog w X (.Call (.Attribute o name apos) args [] pos) ρ σ v:=fun s I=>
 MethodCall_ (pl:=pl) (wpAny_mono (ho s I) (fun u s₁ q=>hm u s₁ _ q.1 q.2 (callWith_builtin hp (wpAny_mono (ha _ s₁ q.2) (fun b au q'=>by
  refine gR q' fun us ah hv aH=> ?_;clear q';subst ah
  exact hc u us q.1 hv au aH) fun U U f=>f))) fun U U f=>f) heq
noncomputable def Fn (prog:Program) (w:World) (T:aX) (n:Nat) (f:Value) (args:List PV) (σ:Led) (R:PV→Led→Prop):Prop:=
 ∀X ρ s,cU T n X→X.FL=X.L→Inv X ρ σ s→ ∀us,cu args us→codeAny (model prog w) X.A (.call f ⟨us,[]⟩) (fun r s'=> ∃u pv σ',r= .ok (.ret u)∧R pv σ'∧VR pv u∧Inv X ρ σ' s') s
noncomputable def tm (prog:Program) (w:World) (T:aX) (n:Nat) (f:Value) (args:List PV) (v:PV):Prop:= ∀σ,Fn prog w T n f args σ fun pv σ'=>pv=v∧σ'=σ
structure Bh (T:aX) (f:Addr):Prop where
 at_: ∀X n,cU T n X→ ∃o fd,X.g.get? f=some o∧o.data= .func fd
theorem tm.go {f:Value}{args:List PV}{v:PV}{s:Shared}(h:tm prog w T n f args v) (O:cU T n X) (hF:tq X σ) (I:Inv X ρ σ s) {us:List Value}(hv:cu args us):
  codeAny (model prog w) X.A (.call f ⟨us,[]⟩) (fun r s'=> ∃u,r= .ok (.ret u)∧VR v u∧Inv X ρ σ s') s:=by
 rcases hF with e | ⟨ik,hm,kn⟩
 ·refine codeAny_mono (h σ X ρ s O e I us hv) fun r s' q=> ?_
  refine La q fun u pv σ' ah aU CT h1 h2=> ?_;clear q;subst ah;subst aU;subst CT
  exact⟨u,rfl,h1,h2⟩
 ·refine gF (DR hm) fun aD hp=> ?_
  have I':=(I.perm hp).swap O.above kn;have O':cU T n {X with L:=X.FL,ks:=ik.map (·.1)}:=⟨O.above,O.call,O.lim,O.top,O.gm,O.bm,O.dep,O.un,O.hh,O.fn,O.gl,O.bl⟩;refine codeAny_mono (h _ _ ik s O' rfl I' us hv) fun r s' q=> ?_
  refine K9 q fun u pv ah aU h1 h2=> ?_;clear q;subst ah;subst aU
  refine gS I.st fun m news F N R D=> ?_
  have J:=(h2.swap (X:={X with L:=X.FL,ks:=ik.map (·.1)}) F.above (by rw[I.ks];exact I.kn)).perm hp.symm;have ek:=I.ks;refine⟨u,rfl,h1,?_⟩;simp only[ek] at J
  exact J
theorem nN {x:Str}{p pos:Pos}{args:List Expr}{fa:Addr}{vs:List PV}{v:PV}(O:cU T n X) (hF:tq X σ) (hi:Bh T fa) (hf:XE prog w X (.Name x p) ρ σ (.ref fa)) (ha:AE prog w X args pos ρ σ vs)
  (hc:tm prog w T n (.ref fa) vs v):PE prog w X (.Call (.Name x p) args [] pos) ρ σ v:=fun s I=>
 PyProof.Rows.Call_ (wpAny_mono (hf s I) (fun f s₁ q=>by
  refine bo q fun ah aS=> ?_;clear q;subst ah
  refine mO (hi.at_ X n O) fun o fd ho hd=> ?_
  refine callWith_function (o:=o) (fd:=fd) (wpAny_mono (ha _ s₁ aS) (fun a au q=> ?_) fun U U f=>f);refine gR q fun us ah hv aH=> ?_;clear q;subst ah
  refine⟨⟨aH.keep ho,hd⟩,wpAny_call (codeAny_mono (hc.go O hF aH hv) fun r s' q=> ?_)⟩;refine gR q fun u ah h1 h2=> ?_;clear q;subst ah
  exact⟨h1,h2⟩) fun U U f=>f) rfl
end
inductive PF where
 | next | brk | cont | ret (v:PV)
inductive FR:PF→Flow→Prop
 | next:FR .next .next
 | brk:FR .brk .brk
 | cont:FR .cont .cont
 | ret {p v} (h:VR p v):FR (.ret p) (.ret v)
section
variable (prog:Program) (w:World)
noncomputable def St (X:Cx) (t:Sem Flow) (ρ:Ro) (σ:Led) (K:PF→Ro→Led→Prop):Prop:=Ev prog w X t ρ σ fun fl s'=> ∃f bC σ',K f bC σ'∧FR f fl∧Inv X bC σ' s'
noncomputable def SE (X:Cx) (l:List Stmt) (ρ:Ro) (σ:Led) (K:PF→Ro→Led→Prop):Prop:=St prog w X (execs l X.env) ρ σ K
noncomputable def S1 (X:Cx) (st:Stmt) (ρ:Ro) (σ:Led) (K:PF→Ro→Led→Prop):Prop:=St prog w X (exec st X.env) ρ σ K
end
section
variable {prog:Program}{w:World}{X:Cx}{ρ bC:Ro}{σ σ':Led}{T:aX}{n:Nat}{K K':PF→Ro→Led→Prop}
theorem St.mono {t:Sem Flow}(h:St prog w X t ρ σ K) (k: ∀f bC σ',K f bC σ'→K' f bC σ'):St prog w X t ρ σ K':=fun s I=>
 wpAny_mono (h s I) (fun fl s' q=>by refine DH q fun f bC σ' a b c=> ?_;exact⟨f,bC,σ',k _ _ _ a,b,c⟩) fun U U f=>f
theorem SE.mono {l:List Stmt}(h:SE prog w X l ρ σ K) (k: ∀f bC σ',K f bC σ'→K' f bC σ'):SE prog w X l ρ σ K':=St.mono h k
theorem St.sub {t:Sem Flow}(h:St prog w X t ρ σ' K) (hs:σ'.Sublist σ):St prog w X t ρ σ K:=fun s I=>h s (I.sub hs)
theorem aj (h:K .next ρ σ):SE prog w X [] ρ σ K:=fun s I=>wpAny_execs_nil ⟨_,_,_,h,.next,I⟩
noncomputable def JX (prog:Program) (w:World) (X:Cx) (rest:List Stmt) (K:PF→Ro→Led→Prop):PF→Ro→Led→Prop
 | .next,ρ,σ=>SE prog w X rest ρ σ K
 | f,ρ,σ=>K f ρ σ
theorem af {st:Stmt}{rest:List Stmt}(h:S1 prog w X st ρ σ (JX prog w X rest K)):SE prog w X (st::rest) ρ σ K:=fun s I=>
 wpAny_execs_cons (wpAny_mono (h s I) (fun fl s' q=>by
  refine DH q fun f bC σ' a b c=> ?_
  cases b with
  | next=>exact a s' c
  | brk=>exact⟨_,_,_,a,.brk,c⟩
  | cont=>exact⟨_,_,_,a,.cont,c⟩
  | ret h=>exact⟨_,_,_,a,.ret h,c⟩) fun U U f=>f)
theorem bf {e:Expr}{pos:Pos}{v:PV}(h:PE prog w X e ρ σ v) (k:K (.ret v) ρ σ):S1 prog w X (.Return (some e) pos) ρ σ K:=fun s I=>
 wpAny_Return_some (wpAny_mono (h s I) (fun u s' q=>⟨_,_,_,k,.ret q.1,q.2⟩) fun U U f=>f)
theorem ua {pos:Pos}(k:K (.ret .none) ρ σ):S1 prog w X (.Return none pos) ρ σ K:=fun s I=>
 wpAny_Return_none ⟨_,_,_,k,.ret .none,I⟩
theorem bH {t:Expr}{a b:List Stmt}{pos:Pos}{c:Bool}(h:BE prog w X t ρ σ c) (h1:c=true→SE prog w X a ρ σ K) (h2:c=false→SE prog w X b ρ σ K):S1 prog w X (.If t a b pos) ρ σ K:=fun s I=>
 wpAny_If (wpAny_mono (h s I) (fun d s' q=>by
  refine bo q fun ah I'=> ?_;clear q;subst ah
  cases d with
  | true=>exact h1 rfl s' I'
  | false=>exact h2 rfl s' I') fun U U f=>f)
theorem Inv.put {s:Shared}{h':Heap}{x:Str}{v:PV}{u:Value}{tk:Nat}{m:Str→Option Value}{news:List (Addr×Obj)}(I:Inv X ρ σ s) (R:gE ρ m) (D:ey σ news) (hu:Up x (some v) ρ bC) (hv:VR v u)
  (F:Fr X.g X.L h' (fun y=>if y=x then some u else m y)) (N:News X.g X.L h' news):Inv X bC σ {s with heap:=h',toks:=tk}:=
 ⟨⟨_,news,F,N,R.up (by rw[I.ks];exact I.kn) hu hv,D⟩,I.nd,hu.keys.trans I.ks,I.kn,I.gens,I.os⟩
noncomputable def gb (prog:Program) (w:World) (X:Cx) (x:Str) (u:Value) (ρ:Ro) (σ:Led) (bC:Ro) (σ':Led):Prop:=Ev prog w X (storeName X.env x u) ρ σ fun U s'=>Inv X bC σ' s'
theorem aq (Y:Lay X) {x:Str}{v:PV}{u:Value}(hu:Up x (some v) ρ bC) (hv:VR v u):gb prog w X x u ρ σ bC σ:=fun s I=>by
 refine gS I.st fun m news F N R D=> ?_
 have hk:=Y.ks x (I.ks ▸ hu.iK);have hL:=Y.loc;refine wpAny_storeName_local hk.1 (by rw[hL];exact F.ns) (fun h' hn hs=> ?_) (by rw[Y.fn];rfl);rw[hL] at hn hs
 exact I.put R D hu hv (F.set hn hs) (N.set hs)
theorem aI (Y:Lay X) {x:Str}{p pos:Pos}{e:Expr}{v:PV}(h:PE prog w X e ρ σ v) (hu:Up x (some v) ρ bC) (k:K .next bC σ)
  (hs:swapsWith e (some (.Name x p)) pos.line X.env=pure false:=by rfl):S1 prog w X (.Assign [.Name x p] e pos) ρ σ K:=fun s I=>
 wpAny_Assign_Name (wpAny_mono (h s I) (fun u s' q=>wpAny_mono (aq Y hu q.1 s' q.2) (fun U au q=>⟨_,_,_,k,.next,q⟩) fun U U f=>f) fun U U f=>f) hs
theorem du (Y:Lay X) {x:Str}{p pos:Pos}{e:Expr}{P:Obj→Prop}{ρf:Addr→Ro}(h:NE prog w X e ρ σ P) (hu: ∀a,Up x (some (.ref a)) ρ (ρf a)) (k: ∀a,a∉σ.map (·.1)→K .next (ρf a) ((a,P)::σ))
  (hs:swapsWith e (some (.Name x p)) pos.line X.env=pure false:=by rfl):S1 prog w X (.Assign [.Name x p] e pos) ρ σ K:=fun s I=>
 wpAny_Assign_Name (wpAny_mono (h s I) (fun u s' q=>by
  refine aF q fun a ah I'=> ?_;clear q;subst ah
  have nd:=I'.nd;rw[List.map_cons,List.nodup_cons] at nd
  exact wpAny_mono (aq Y (hu a) (.ref a) s' I') (fun U au q=>⟨_,_,_,k a nd.1,.next,q⟩) fun U U f=>f) fun U U f=>f) hs
theorem jL {e:Expr}{b:Bool}(h:PE prog w X e ρ σ (.bool b)) (he:isTrue e X.env (eval e X.env)=(do let v ←eval e X.env;standAt e.pos;holding [v] (truthy v)):=by rfl):BE prog w X e ρ σ b:=fun s I=>
 PyProof.Rows.isTrue_plain (wpAny_mono (h s I) (fun u s' q=>by
  refine bo q fun h1 h2=> ?_
  refine vB h1 ?_
  exact wpAny_truthy_bool ⟨rfl,h2⟩) fun U U f=>f) he
noncomputable def Cm (prog:Program) (w:World) (X:Cx) (op:CmpOp) (a b:PV) (ρ:Ro) (σ:Led) (c:Bool):Prop:= ∀u v,VR a u→VR b v→Ev prog w X (compareOp op u v) ρ σ fun r s'=>r= .bool c∧Inv X ρ σ s'
theorem fN {l r:Expr}{op:CmpOp}{pos:Pos}{a b:PV}{c:Bool}(hl:PE prog w X l ρ σ a) (hr:PE prog w X r ρ σ b) (h:Cm prog w X op a b ρ σ c) (hb:behindInMarks op r=false:=by rfl):
  PE prog w X (.Compare l [op] [r] pos) ρ σ (.bool c):=fun s I=>
 wpAny_Compare1 (wpAny_mono (hl s I) (fun jW s₁ q₁=>wpAny_mono (hr s₁ q₁.2) (fun gH au dg=>wpAny_mono (h jW gH q₁.1 dg.1 au dg.2) (fun r c6 q=>by refine bo q fun ah I=> ?_;clear q;subst ah;exact⟨.bool _,I⟩) fun U U f=>f) fun U U f=>f) fun U U f=>f) hb
theorem bb {l r:Expr}{op:CmpOp}{pos:Pos}{a b:PV}{c:Bool}(hl:PE prog w X l ρ σ a) (hr:PE prog w X r ρ σ b) (h:Cm prog w X op a b ρ σ c) (hb:behindInMarks op r=false:=by rfl):
  BE prog w X (.Compare l [op] [r] pos) ρ σ c:=fun s I=>
 wpAny_isTrue_Compare1 (wpAny_mono (hl s I) (fun jW s₁ q₁=>wpAny_mono (hr s₁ q₁.2) (fun gH au dg=>wpAny_mono (h jW gH q₁.1 dg.1 au dg.2) (fun r c6 q=>by refine bo q fun ah I=> ?_;clear q;subst ah;exact wpAny_truthy_bool ⟨rfl,I⟩) fun U U f=>f) fun U U f=>f) fun U U f=>f) hb
theorem zQ {a b:Int}:Cm prog w X .Lt (.int a) (.int b) ρ σ (decide (a<b)):=fun u v h1 h2 s I=>by refine vI h1 fun t=> ?_;refine vI h2 fun t=> ?_;exact lt_int ⟨rfl,I⟩
theorem mG {a b:Int}:Cm prog w X .Gt (.int a) (.int b) ρ σ (decide (b<a)):=fun u v h1 h2 s I=>by refine vI h1 fun t=> ?_;refine vI h2 fun t=> ?_;exact gt_int ⟨rfl,I⟩
theorem zU {a b:Int}:Cm prog w X .GtE (.int a) (.int b) ρ σ (decide (b≤a)):=fun u v h1 h2 s I=>by refine vI h1 fun t=> ?_;refine vI h2 fun t=> ?_;exact ge_int ⟨rfl,I⟩
theorem zV {a b:Int}:Cm prog w X .Eq (.int a) (.int b) ρ σ (a==b):=fun u v h1 h2 s I=>by refine vI h1 fun t=> ?_;refine vI h2 fun t=> ?_;exact eq_int ⟨rfl,I⟩
theorem mq (a b:List Nat):(mk a==mk b)=(a==b):=by
 by_cases h:a=b
 ·subst h;simp
 ·have h2:mk a≠mk b:=fun e=>h (by have:=congrArg (fun s:Str=>s.cps.toList) e;simpa using this)
  have e1:(mk a==mk b)=false:=beq_eq_false_iff_ne.mpr h2;have e2:(a==b)=false:=beq_eq_false_iff_ne.mpr h;rw[e1,e2]
theorem gD {a b:List Nat}:Cm prog w X .Eq (.str a) (.str b) ρ σ (a==b):=fun u v h1 h2 s I=>by refine vS h1 fun t=> ?_;refine vS h2 fun t=> ?_;exact eq_str ⟨by rw[mq],I⟩
theorem uL {a b:List Nat}:Cm prog w X .NotEq (.str a) (.str b) ρ σ (a != b):=fun u v h1 h2 s I=>by
 refine vS h1 fun t=> ?_;refine vS h2 fun t=> ?_;exact ne_str ⟨by show Value.bool (!(mk a==mk b))=Value.bool (!(a==b));rw[mq],I⟩
theorem zP {a b:List Nat}:Cm prog w X .Lt (.str a) (.str b) ρ σ (decide (a<b)):=fun u v h1 h2 s I=>by refine vS h1 fun t=> ?_;refine vS h2 fun t=> ?_;exact lt_str ⟨rfl,I⟩
theorem Ik {a b:List Nat}:Cm prog w X .GtE (.str a) (.str b) ρ σ (!decide (a<b)):=fun u v h1 h2 s I=>by refine vS h1 fun t=> ?_;refine vS h2 fun t=> ?_;exact P.ge_str ⟨rfl,I⟩
end
noncomputable def PF.val:PF→PV
 | .ret v=>v
 | _=>.none
noncomputable def Sz:Flow→Value
 | .ret v=>v
 | _=>.none
theorem FR.val {f:PF}{fl:Flow}(h:FR f fl):VR f.val (Sz fl):=by
 cases h<;>first | exact .none | assumption
noncomputable def init (names:List Str) (args:List PV) (rest:List Str):Ro:=names.zip (args.map some)++rest.map fun y=>(y,none)
theorem kj {names:List Str}{args:List PV}{rest:List Str}(h:args.length=names.length):(init names args rest).map (·.1)=names++rest:=by
 unfold init;rw[List.map_append,List.map_map];congr 1
 ·rw[List.map_fst_zip];simp[h]
 ·induction rest with
  | nil=>rfl
  | cons a r ih=>simp only[List.map_cons,ih];rfl
theorem tP {names:List Str}{args:List PV}{us:List Value}(hv:cu args us):names.Nodup→ ∀p∈names.zip (args.map some),Fl p.2 ((names.zip us).lookup p.1):=by
 induction hv generalizing names with
 | nil=>intro _ p hp;rw[List.map_nil,List.zip_nil_right] at hp;exact nomatch hp
 | @cons a u args us h r ih=>
  intro nd p hp;cases names with | nil=>exact nomatch hp | cons x names=> ?_
  rw[List.nodup_cons] at nd
  rw[List.map_cons,List.zip_cons_cons] at hp
  rcases List.mem_cons.mp hp with rfl | hp
  ·rw[List.zip_cons_cons,List.lookup_cons];simp only[beq_self_eq_true];exact .some h
  ·have hx:p.1∈names:=(List.of_mem_zip hp).1;have ne:(p.1==x)=false:=beq_eq_false_iff_ne.mpr fun e=>nd.1 (e ▸ hx)
   rw[List.zip_cons_cons,List.lookup_cons,ne];exact ih nd.2 p hp
theorem lookup_none {x:Str}: ∀{l:List (Str×Value)},x∉l.map (·.1)→l.lookup x=none
 | [],_=>rfl
 | (y,v)::l,h=>by
  rw[List.map_cons,List.mem_cons,not_or] at h
  rw[List.lookup_cons,beq_eq_false_iff_ne.mpr h.1];exact lookup_none h.2
theorem iy {l:List (Str×Value)}(nd:(l.map (·.1)).Nodup) (x:Str):l.reverse.lookup x=l.lookup x:=by
 induction l with
 | nil=>rfl
 | cons p l ih=>
  obtain⟨y,v⟩:=p;rw[List.map_cons,List.nodup_cons] at nd
  rw[List.reverse_cons,List.lookup_append,ih nd.2,List.lookup_cons];by_cases h:x=y
  ·subst h;rw[lookup_none nd.1];simp
  ·have e:List.lookup x ((y,v)::l)=List.lookup x l:=by rw[List.lookup_cons,beq_eq_false_iff_ne.mpr h]
   rw[e,beq_eq_false_iff_ne.mpr h];cases hq:List.lookup x l with
   | some _=>rfl
   | none=>rfl
theorem oN {names:List Str}{args:List PV}{rest:List Str}{us:List Value}(hv:cu args us) (hl:args.length=names.length) (nd:(names++rest).Nodup):
  gE (init names args rest) (fun y=>(names.zip us).reverse.lookup y):=by
 have hlen:=hv.length;have Fy:=List.nodup_append.mp nd;have e:(names.zip us).map (·.1)=names:=by rw[List.map_fst_zip];exact IJ hl hlen
 refine⟨fun p hp=> ?_,fun y hy=> ?_⟩
 ·show Fl p.2 ((names.zip us).reverse.lookup p.1);rw[iy (by rw[e];exact Fy.1)];rcases List.mem_append.mp hp with hp | hp
  ·exact tP hv Fy.1 p hp
  ·refine aF (List.mem_map.mp hp) fun y hy ah=> ?_;subst ah
   rw[lookup_none (by rw[e];exact fun q=>Fy.2.2 _ q _ hy rfl)];exact .none
 ·rw[kj hl,List.mem_append,not_or] at hy
  show (names.zip us).reverse.lookup y=none;rw[iy (by rw[e];exact Fy.1)];exact lookup_none (by rw[e];exact hy.1)
noncomputable def mw (scope:Scope) (ks:List Str):Bool:=ks.all fun x=>scope.names.lookup x==some .local&& !(x==("__debug__":Str))
theorem lay_of {X:Cx}{scope:Scope}(h:mw scope X.ks=true) (he:X.env.scope=scope) (hf:X.env.scope.kind= .function) (hl:X.env.locals=X.L):Lay X:=by
 refine⟨hf,hl,fun x hx=> ?_⟩
 have:=List.all_eq_true.mp h x hx
 simp only[Bool.and_eq_true,beq_iff_eq,Bool.not_eq_true'] at this
 refine⟨?_,this.2⟩;show X.env.scope.names.lookup x=_;rw[he];exact this.1
section
variable {prog:Program}{w:World}{T:aX}{n:Nat}
theorem zH {fa:Addr}{fo:Obj}{name qual:Str}{params:Arguments}{body:List Stmt}{scope:Scope}{dV kV doc pm bu ct:Value}{an:Option Addr}{args:List PV}{σ:Led}{R:PV→Led→Prop}
  (names rest:List Str) (hK:T.K.lookup fa=some fo) (hd:fo.data= .func (fnX name qual params body scope [] dV kV doc pm an bu ct)) (hc:codeIn T.K bu qual=true)
  (hb: ∀us:List Value,us.length=names.length→ ∀s,BindsTo s (fnX name qual params body scope [] dV kV doc pm an bu ct) ⟨us,[]⟩ (names.zip us))
  (zf:(names++rest).Nodup) (jb:mw scope (names++rest)=true) (gx:args.length=names.length)
  (bM: ∀x∈scope.names,x.2≠ .cell) (wU:scope.isCoroutine=false) (mB:scope.isGenerator=false) (hk:scope.kind= .function)
  (h: ∀X,cU T n X→Lay X→X.ks=names++rest→X.env=envX qual scope X.L fa bu []→X.FL=X.L→SE prog w X body (init names args rest) σ fun f U σ'=>R f.val σ'):Fn prog w T (n+1) (.ref fa) args σ R:=by
 intro X ρ s O gy I us hv;refine QT O.call fun A₀ base outer uF B hA hf Ml=> ?_
 refine gS I.st fun m news F N RI D=> ?_
 have hlen:=hv.length;have KI:T.K.In s.heap:=O.top.keeps F.keep;have e:(names.zip us).map (·.1)=names:=by rw[List.map_fst_zip];exact IJ gx hlen
 refine callX_plain B F N O.lim hA (hf.trans (congrArg some gy)) Ml (KI _ _ hK) hd (codeRec_of KI hc) (by have:=O.dep;show X.A.depth<1000;exact NX this) (hb us (UA gx hlen) s) ?_ ?_ bM wU mB hk
 ·intro y hy;have hm:y.1∈names:=by rw[←e];exact List.mem_map_of_mem hy
  have:=List.all_eq_true.mp jb y.1 (List.mem_append_left _ hm)
  simp only[Bool.and_eq_true,beq_iff_eq] at this
  exact this.1
 ·intro g L' dk FG F' N' B' st lt
  let oU:Env:=envX qual scope L' fa bu []
  let X':Cx:=⟨X.A.deeper oU,oU,L',L',g,X.os,names++rest⟩
  have O':cU T n X':=by
   refine⟨F'.above,⟨X.A,base,uF::outer,oU,B',?_,rfl,hk⟩,O.lim.keeps st,O.top.keeps st,O.gm.keeps st,O.bm.keeps st,?_,?_,O.hh,hk,rfl,rfl⟩
   ·show X.A.frames.map (oU:: ·)=_;rw[hA];rfl
   ·show X.A.depth+1+n<900;have:=O.dep;exact I1 this
   ·show X.A.units+3+10*n<9000;have:=O.un;exact NY this
  have Y:Lay X':=lay_of (scope:=scope) jb rfl hk rfl;have I':Inv X' (init names args rest) σ {s with heap:=dk,toks:=s.toks+(names.zip us).length}:=
   ⟨⟨_,news,F',N',oN hv gx zf,D⟩,I.nd,kj gx,zf,I.gens,I.os⟩
  refine wpAny_mono (h X' O' Y rfl rfl rfl _ I') (fun fl s' q=> ?_) fun U U f=>f.elim
  refine DH q fun f bC σ' hR zh aH=> ?_
  refine gS aH.st fun m' kJ J9 J3 R₂ Ka=> ?_
  refine leaveK_ J9 J3 fun J8 J1=>⟨Sz fl,f.val,σ',by cases fl<;>rfl,hR,zh.val,⟨⟨m,kJ,J8,J1,RI,Ka⟩,aH.nd,I.ks,I.kn,aH.gens,aH.os⟩⟩
theorem Er {f:Value}{args:List PV}{v:PV}(h: ∀σ,Fn prog w T n f args σ fun pv σ'=>pv=v∧σ.Sublist σ'):tm prog w T n f args v:=fun σ X ρ s O e I us hv=>
 codeAny_mono (h σ X ρ s O e I us hv) fun r s' q=>by
  refine La q fun u pv σ' ah aU hs hv I'=> ?_;clear q;subst ah;subst aU
  exact⟨u,pv,σ,rfl,⟨rfl,rfl⟩,hv,I'.sub hs⟩
theorem Fn.le {f:Value}{args:List PV}{σ:Led}{R:PV→Led→Prop}{k:Nat}(h:Fn prog w T n f args σ R) (hk:n≤k):Fn prog w T k f args σ R:=fun X ρ s O e I us hv=>h X ρ s (O.le hk) e I us hv
theorem tm.le {f:Value}{args:List PV}{v:PV}{k:Nat}(h:tm prog w T n f args v) (hk:n≤k):tm prog w T k f args v:=fun σ=>(h σ).le hk
end
noncomputable def sl {α:Type}(l:List α) (lo hi:Option Int):List α:=
 (l.drop (lo.elim 0 (clipAt l.length))).take (hi.elim l.length (clipAt l.length)-lo.elim 0 (clipAt l.length))
theorem aA (a:List Nat):(mk a).length=a.length:=by simp[Str.length]
theorem yu (a:List Nat) (lo hi:Option Int):Txt.slice (mk a) lo hi=mk (sl a lo hi):=by
 have e:Builtin.Str.strSliceIndices lo hi 1 (mk a).length=(List.range (hi.elim a.length (clipAt a.length)-lo.elim 0 (clipAt a.length))).map (lo.elim 0 (clipAt a.length)+ ·):=by
  rw[aA,←sliceRange_one]
  have:=sliceBounds_plain lo hi a.length
  show sliceRange (sliceBounds lo hi none a.length).1 (sliceBounds lo hi none a.length).2.1 1=_;rw[this]
 have k:((Builtin.Str.strSliceIndices lo hi 1 (mk a).length).filterMap ((mk a).cps[·]?))=sl a lo hi:=by
  rw[e,pick_run];rfl
 unfold Txt.slice;split
 ·rename_i h
  simp only[Bool.and_eq_true,beq_iff_eq] at h
  have hl:=h.2;have e2: ∀(l:List Nat) (n:Nat),l.length=n→l=l.take n:=fun l n hn=>by rw[←hn,List.take_length]
  have FY:hi.elim a.length (clipAt a.length)-lo.elim 0 (clipAt a.length)=a.length:=by
   have:(Builtin.Str.strSliceIndices lo hi 1 (mk a).length).length=hi.elim a.length (clipAt a.length)-lo.elim 0 (clipAt a.length):=by rw[e];simp
   rw[hl,aA] at this
   exact this.symm
  have hb:hi.elim a.length (clipAt a.length)≤a.length:=by
   cases hi with
   | none=>exact Nat.le_refl _
   | some i=>
    show clipAt a.length i≤a.length
    have:=clipAt_cast a.length i
    exact ZL this
  have key:sl a lo hi=a:=by
   unfold sl;generalize lo.elim 0 (clipAt a.length)=p at FY hb ⊢
   generalize hi.elim a.length (clipAt a.length)=q at FY hb ⊢
   by_cases h0:a.length=0
   ·have:a=[]:=List.eq_nil_of_length_eq_zero h0
    subst this;simp
   ·have p0:p=0:=VF FY hb h0;subst p0;rw[List.drop_zero,List.take_of_length_le (YC FY)]
  rw[key]
 ·rw[k]
section
variable {prog:Program}{w:World}{X:Cx}{ρ bC:Ro}{σ σ':Led}{T:aX}{n:Nat}
theorem aT {x:Str}{k:Nat}{pos:Pos}:PE prog w X (.Constant (.str x) k pos) ρ σ (.str x.cps.toList):=
 fun U I=>wpAny_Constant_str ⟨by have:=VR.str x.cps.toList (Shared.toks ‹_›);rw[i6] at this;exact this,I.tick _⟩
theorem iI {b:Bool}{k:Nat}{pos:Pos}:PE prog w X (.Constant (.bool b) k pos) ρ σ (.bool b):=fun U I=>wpAny_Constant_bool ⟨.bool _,I⟩
theorem k0 {k:Nat}{pos:Pos}:PE prog w X (.Constant .none k pos) ρ σ .none:=fun U I=>wpAny_Constant_none ⟨.none,I⟩
theorem mh {b:List UInt8}{k:Nat}{pos:Pos}:PE prog w X (.Constant (.bytes b) k pos) ρ σ (.bytes b):=fun U I=>Constant_bytes ⟨.bytes _ _,I.tick _⟩
theorem iZ {l r:Expr}{pos:Pos}{a b:Int}(hl:PE prog w X l ρ σ (.int a)) (hr:PE prog w X r ρ σ (.int b)) (h:IntMulOk a b):PE prog w X (.BinOp l .Mult r pos) ρ σ (.int (a*b)):=
 g8 hl hr fun U U dk gL U I=>by refine vI dk fun t=> ?_;refine vI gL fun t=> ?_;exact mul_int ⟨.int _ _,I.tick _⟩ h
theorem eQ {l r:Expr}{pos:Pos}{a b:Int}(hl:PE prog w X l ρ σ (.int a)) (hr:PE prog w X r ρ σ (.int b)) (hb:b≠0) (h:Builtin.divisionGoesByPylong a b=false):PE prog w X (.BinOp l .FloorDiv r pos) ρ σ (.int (a.fdiv b)):=
 g8 hl hr fun U U dk gL U I=>by refine vI dk fun t=> ?_;refine vI gL fun t=> ?_;exact floordiv_int hb ⟨.int _ _,I.tick _⟩ (.inl h)
theorem oB {l r:Expr}{pos:Pos}{a b:Int}(hl:PE prog w X l ρ σ (.int a)) (hr:PE prog w X r ρ σ (.int b)) (h0:0≤b) (h1:b≤1000000) (ha:a.natAbs<2^64):PE prog w X (.BinOp l .Pow r pos) ρ σ (.int (a^b.toNat)):=
 g8 hl hr fun U U dk gL U I=>by refine vI dk fun t=> ?_;refine vI gL fun t=> ?_;exact pow_int_small h0 h1 ha ⟨.int _ _,I.tick _⟩
theorem eO {e:Expr}{pos:Pos}{a:Int}(h:PE prog w X e ρ σ (.int a)):PE prog w X (.UnaryOp .USub e pos) ρ σ (.int (-a)):=fun s I=>
 wpAny_UnaryOp (wpAny_mono (h s I) (fun u s' q=>by refine bo q fun h1 I'=> ?_;refine vI h1 fun t=> ?_;exact neg_int ⟨.int _ _,I'.tick _⟩) fun U U f=>f)
theorem eH {e:Expr}{v:PV}{b:Bool}(h:PE prog w X e ρ σ v) (ht: ∀u s,VR v u→Inv X ρ σ s→wpAny (model prog w) X.A (truthy u) (fun c s'=>c=b∧Inv X ρ σ s') (fun U U=>False) s)
  (he:isTrue e X.env (eval e X.env)=(do let v ←eval e X.env;standAt e.pos;holding [v] (truthy v)):=by rfl):BE prog w X e ρ σ b:=fun s I=>
 PyProof.Rows.isTrue_plain (wpAny_mono (h s I) (fun u s' q=>ht u s' q.1 q.2) fun U U f=>f) he
theorem lF {a:List Nat}(hl:a.length<2^63) (u:Value) (s:Shared) (h:VR (.str a) u) (I:Inv X ρ σ s):wpAny (model prog w) X.A (truthy u) (fun c s'=>c=(!a.isEmpty)∧Inv X ρ σ s') (fun U U=>False) s:=by
 refine vS h fun t=> ?_
 refine P.truthy_str (by rw[aA];exact Je hl) ⟨?_,I.tick _⟩;rw[aA];cases a<;>simp<;>omega
theorem tT {a:Int}(u:Value) (s:Shared) (h:VR (.int a) u) (I:Inv X ρ σ s):wpAny (model prog w) X.A (truthy u) (fun c s'=>c=(a != 0)∧Inv X ρ σ s') (fun U U=>False) s:=by
 refine vI h fun t=> ?_
 exact PyProof.Rows.truthy_int ⟨rfl,I⟩
theorem Iy {e:Expr}{pos:Pos}{b:Bool}(h:BE prog w X e ρ σ b):BE prog w X (.UnaryOp .Not e pos) ρ σ (!b):=fun s I=>
 isTrue_not (wpAny_mono (h s I) (fun c s' q=>by refine bo q fun ah I'=> ?_;clear q;subst ah;exact⟨rfl,I'⟩) fun U U f=>f)
theorem bh {l r:Expr}{pos:Pos}{a b:List Nat}(hl:PE prog w X l ρ σ (.str a)) (hr:PE prog w X r ρ σ (.str b)) (h:a.length+b.length≤16777216):PE prog w X (.BinOp l .Add r pos) ρ σ (.str (a++b)):=
 g8 hl hr fun U U dk gL U I=>by
  refine vS dk fun t=> ?_;refine vS gL fun t=> ?_
  refine KOpn.add (by rw[aA,aA];exact h) fun t' k U=>⟨?_,I.tick _⟩
  have e:mk a++mk b=mk (a++b):=by apply Str.ext';simp[Str.cps_append]
  rw[e];exact .str _ _
noncomputable def rep (a:List Nat) (n:Int):List Nat:=(List.replicate n.toNat a).flatten
theorem nT: ∀(l:List (Array Nat)) (b:Array Nat),(l.foldl (· ++ ·) b).toList=b.toList++(l.map Array.toList).flatten
 | [],b=>by simp
 | a::l,b=>by rw[List.foldl_cons,nT l];simp
theorem Hm (a:List Nat) (n:Int):Txt.mul (mk a) n=mk (rep a n):=by
 unfold Txt.mul rep;split
 ·have:n.toNat=0:=by (apply Ű<;>assumption)
  rw[this];rfl
 ·split
  ·rename_i h0 h
   simp only[Bool.or_eq_true,beq_iff_eq] at h
   rcases h with h | h
   ·subst h;simp[show (1:Int).toNat=1 from rfl]
   ·rw[aA] at h
    have:a=[]:=List.eq_nil_of_length_eq_zero h
    subst this;simp
  ·congr 1
   apply Array.toList_inj.mp
   rw[nT];simp
theorem yM {l r:Expr}{pos:Pos}{a:List Nat}{n:Int}(hl:PE prog w X l ρ σ (.str a)) (hr:PE prog w X r ρ σ (.int n)) (h1:a.length≤16) (h2: -2^63≤n) (h3:n≤1048576):PE prog w X (.BinOp l .Mult r pos) ρ σ (.str (rep a n)):=
 g8 hl hr fun U U dk gL U I=>by
  refine vS dk fun t=> ?_;refine vI gL fun t=> ?_
  refine KXi.mul (aA a) h1 h2 (Ŭ h3) fun t' k U U=>⟨?_,I.tick _⟩
  rw[Hm];exact .str _ _
noncomputable def xJ (prog:Program) (w:World) (X:Cx) (e:Option Expr) (ρ:Ro) (σ:Led) (o:Option Int):Prop:=Ev prog w X (evalPart e X.env) ρ σ fun u s'=>IsPart u o∧Inv X ρ σ s'
theorem bS:xJ prog w X none ρ σ none:=fun s I=>by rw[evalPart_none];exact wpAny_pure ⟨.none,I⟩
theorem aV {e:Expr}{i:Int}(h:PE prog w X e ρ σ (.int i)):xJ prog w X (some e) ρ σ (some i):=fun s I=>by
 rw[evalPart_some];exact wpAny_mono (h s I) (fun u s' q=>by refine bo q fun h1 I'=> ?_;refine vI h1 fun t=> ?_;exact⟨.int _ _,I'⟩) fun U U f=>f
theorem Inv.heap {s:Shared}{h':Heap}{tk:Nat}{m:Str→Option Value}{news:List (Addr×Obj)}(I:Inv X ρ σ s) (R:gE ρ m) (D:ey σ news) (F:Fr X.g X.L h' m) (N:News X.g X.L h' news):Inv X ρ σ {s with heap:=h',toks:=tk}:=
 ⟨⟨m,news,F,N,R,D⟩,I.nd,I.ks,I.kn,I.gens,I.os⟩
theorem cb {v:Expr}{l u:Option Expr}{p pos:Pos}{a:List Nat}{lo hi:Option Int}(hv:PE prog w X v ρ σ (.str a)) (hl:xJ prog w X l ρ σ lo) (hu:xJ prog w X u ρ σ hi) (hn:a.length≤16777216)
  (ht: ∀x r,letTemporaryGo v (.str x 0) r=pure ():=by intro _ _;rfl):PE prog w X (.Subscript v (.Slice l u none p) pos) ρ σ (.str (sl a lo hi)):=fun s I=>by
 refine PyProof.Rows.Subscript_ (wpAny_mono (hv s I) (fun x s₁ q=> ?_) fun U U f=>f);refine bo q fun h1 aS=> ?_
 cases h1 with
 | str _ t=>
 refine wpAny_Slice (wpAny_mono (hl s₁ aS) (fun vl au q=>wpAny_mono (hu au q.2) (fun vu c6 q'=> ?_) fun U U f=>f) fun U U f=>f);refine bo q fun pl aH=> ?_
 refine bo q' fun pu cg=> ?_
 rw[evalPart_none];refine wpAny_pure ?_
 refine gS cg.st fun m news F N R D=> ?_
 have fin: ∀(h':Heap) (t':Tok) (k:Nat),Fr X.g X.L h' m→News X.g X.L h' news→VR (.str (sl a lo hi)) (.str (Txt.slice (mk a) lo hi) t')∧Inv X ρ σ {c6 with heap:=h',toks:=k}:=
  fun h' t' k F' N'=>⟨by rw[yu];exact .str _ _,cg.heap R D F' N'⟩
 have df: ∀r,letTemporaryGo v (.str (mk a) t) r=pure ():=fun r=>by have:=ht (mk a) r;cases v<;>first | rfl | exact this
 have gB:(mk a).length≤sizeLine:=by rw[aA];exact hn
 cases pl<;>cases pu
 ·exact slice_strN_nn F N (fun h' t' k F' N'=>fin h' t' k F' N') rfl df gB
 ·exact slice_strN_ns F N (fun h' t' k F' N'=>fin h' t' k F' N') rfl df gB
 ·exact slice_strN_sn F N (fun h' t' k F' N'=>fin h' t' k F' N') rfl df gB
 ·exact slice_strN_ss F N (fun h' t' k F' N'=>fin h' t' k F' N') rfl df gB
end
section
open PySem.Builtin.Str (occurrences subAt)
def sb (x y:List Nat):Bool:= !(occurrences (mk x) (mk y) 0 (mk x).length 1).isEmpty
def kS (x y:List Nat) (lo hi:Nat):Int:=match occurrences (mk x) (mk y) lo hi 1 with | k::_=>(k:Int) | []=> -1
theorem sf (x y:Str) (i j:Int) (t u v z:Tok):Gives (Builtin.«str.find» ⟨[.str x t,.str y u,.int i v,.int j z],[]⟩)
  (.int (match occurrences x y (fromIndex x.length i) (min (fromIndex x.length j) x.length) 1 with | k::_=>(k:Int) | []=> -1)):=by
 show Gives (match occurrences x y (fromIndex x.length i) (min (fromIndex x.length j) x.length) 1 with | k::_=>retInt k | []=>(do rule "str.find.not-found";retInt (-1))) _;cases occurrences x y (fromIndex x.length i) (min (fromIndex x.length j) x.length) 1 with
 | nil=>exact .rule (.of_eq rfl)
 | cons k _=>exact .of_eq rfl
section
variable {prog:Program}{w:World}{X:Cx}{ρ bC:Ro}{σ σ':Led}{T:aX}{n:Nat}
theorem cu.one {p:PV}{us:List Value}(h:cu [p] us): ∃u,us=[u]∧VR p u:=by
 cases h with | cons h r=>cases r;exact⟨_,rfl,h⟩
theorem cu.two {p q:PV}{us:List Value}(h:cu [p,q] us): ∃u v,us=[u,v]∧VR p u∧VR q v:=by
 cases h with | cons h r=>refine aF r.one fun v ah h2=> ?_;subst ah;exact⟨_,_,rfl,h,h2⟩
theorem cu.three {p q r:PV}{us:List Value}(h:cu [p,q,r] us): ∃u v x,us=[u,v,x]∧VR p u∧VR q v∧VR r x:=by
 cases h with | cons h r=>refine uk r.two fun v x ah h2 h3=> ?_;subst ah;exact⟨_,_,_,rfl,h,h2,h3⟩
theorem gQ {e:Expr}{pos:Pos}{v:PV}(h:PE prog w X e ρ σ v) (he:starEach [e] X.env=[(false,eval e X.env)]:=by rfl):AE prog w X [e] pos ρ σ [v]:=
 v5 (t:=eval e X.env) (r:=[]) (by rw[he];rfl) (eL h lK)
theorem Bp {e f:Expr}{pos:Pos}{v u:PV}(h:PE prog w X e ρ σ v) (h2:PE prog w X f ρ σ u) (he:starEach [e,f] X.env=[(false,eval e X.env),(false,eval f X.env)]:=by rfl):AE prog w X [e,f] pos ρ σ [v,u]:=
 v5 (t:=eval e X.env) (r:=[(false,eval f X.env)]) (by rw[he];rfl) (eL h (eL h2 lK))
theorem ž {e f g:Expr}{pos:Pos}{v u x:PV}(h:PE prog w X e ρ σ v) (h2:PE prog w X f ρ σ u) (h3:PE prog w X g ρ σ x)
  (he:starEach [e,f,g] X.env=[(false,eval e X.env),(false,eval f X.env),(false,eval g X.env)]:=by rfl):AE prog w X [e,f,g] pos ρ σ [v,u,x]:=
 v5 (t:=eval e X.env) (r:=[(false,eval f X.env),(false,eval g X.env)]) (by rw[he];rfl) (eL h (eL h2 (eL h3 lK)))
theorem vX {i:Int}(h0:0≤i) (h1:i≤1114111) (us:List Value) (h:cu [.int i] us):jP prog w X (call (.builtin "chr") us) ρ σ (.str [i.toNat]):=fun s I=>by
 refine aF h.one fun u ah hu=> ?_;subst ah
 revert h;refine vI hu fun t h=> ?_
 exact chr_of_range h0 h1 ⟨.str [i.toNat] _,I.tick _⟩
theorem n5 {c:Nat}(us:List Value) (h:cu [.str [c]] us):jP prog w X (call (.builtin "ord") us) ρ σ (.int c):=fun s I=>by
 refine aF h.one fun u ah hu=> ?_;subst ah
 revert h;refine vS hu fun t h=> ?_
 exact P.ord_of_char ⟨.int _ _,I.tick _⟩
theorem fj {a:List Nat}(hl:a.length<2^63) (us:List Value) (h:cu [.str a] us):jP prog w X (call (.builtin "len") us) ρ σ (.int a.length):=fun s I=>by
 refine aF h.one fun u ah hu=> ?_;subst ah
 revert h;refine vS hu fun t h=> ?_
 refine P.len_str (by rw[aA];exact Je hl) ⟨?_,I.tick _⟩;rw[aA];exact .int _ _
theorem sE {a:List UInt8}(hl:a.length≤1099511627776) (us:List Value) (h:cu [.bytes a] us):jP prog w X (call (.builtin "len") us) ρ σ (.int a.length):=fun s I=>by
 refine aF h.one fun u ah hu=> ?_;subst ah
 revert h;refine vY hu fun t h=> ?_
 refine len_bytes (by simpa using hl) ⟨?_,I.tick _⟩;rw[List.size_toArray];exact .int _ _
theorem MU {a:Int}(us:List Value) (h:cu [.int a] us):jP prog w X (call (.builtin "abs") us) ρ σ (.int (if a<0 then-a else a)):=fun s I=>by
 refine aF h.one fun u ah hu=> ?_;subst ah
 revert h;refine vI hu fun t h=> ?_
 exact call_abs_int fun u tk=>⟨.int _ _,I.tick _⟩
noncomputable def dD (a:List Nat) (i:Int):Nat:=a.getD (if i<0 then i+a.length else i).toNat 0
theorem DT {a:List Nat}{i:Int}(h0: -(a.length:Int)≤i) (h1:i<a.length):Txt.item (mk a) i=mk [dD a i]:=by
 unfold Txt.item Txt.charAt dD;congr 2;have hl:=aA a;by_cases hi:i<0
 ·have e:PySem.seqIndex? i (mk a).length=some (i+a.length).toNat:=by
   unfold PySem.seqIndex?;rw[hl];simp[hi];exact Th h0 hi
  rw[e,if_pos hi];simp[List.getD_eq_getElem?_getD]
 ·have e:PySem.seqIndex? i (mk a).length=some i.toNat:=by
   unfold PySem.seqIndex?;rw[hl];simp[hi];exact Ta h1 hi
  rw[e,if_neg hi];simp[List.getD_eq_getElem?_getD]
theorem eP {v e:Expr}{pos:Pos}{a:List Nat}{i:Int}(hv:PE prog w X v ρ σ (.str a)) (he:PE prog w X e ρ σ (.int i)) (h0: -(a.length:Int)≤i) (h1:i<a.length) (hn:a.length≤16777216)
  (hs: ∀x y,subscripted e false x y=operate [x,y] (getItem x y):=by intro _ _;rfl):PE prog w X (.Subscript v e pos) ρ σ (.str [dD a i]):=fun s I=>by
 refine PyProof.Rows.Subscript_ (wpAny_mono (hv s I) (fun x s₁ q=>wpAny_mono (he s₁ q.2) (fun y au q'=> ?_) fun U U f=>f) fun U U f=>f);refine bo q fun wX aS=> ?_
 refine bo q' fun wW aH=> ?_
 refine vS wX fun t=> ?_;refine vI wW fun t=> ?_
 have hl:=aA a;refine item_str (fitsSsize_of (N:=9223372036854775808) (Tg h0 hn) (Tb h1 hn) (Int.le_refl _)) (Ti h0 hl) (S4 h1 hl) (fun U=>⟨?_,aH.tick _⟩) (hs _ _) (fun r=>by cases v<;>rfl);rw[DT h0 h1];exact .str _ _
theorem rP {name:Str}{id:String}{a:List Nat}(h: ∀(x:Str) (t:Tok) (s:Shared) (pl:Sem Bool) (Q:Value×List Value→Shared→Prop),Q (.builtin id,[.str x t]) s→wpAny (model prog w) X.A (getMethod (.str x t) name pl) Q (fun U U=>False) s)
  (pl:Sem Bool) (u:Value) (s:Shared) (Q:Value×List Value→Shared→Prop) (hu:VR (.str a) u) (I:Inv X ρ σ s) (hQ:Q (.builtin id,[u]) s):wpAny (model prog w) X.A (getMethod u name pl) Q (fun U U=>False) s:=by
 revert hQ;refine vS hu fun t hQ=> ?_;exact h _ _ _ _ _ hQ
theorem oX {a b:List Nat}(u:Value) (us:List Value) (hu:VR (.str a) u) (h:cu [.str b] us):jP prog w X (call (.builtin "str.startswith") (u::us)) ρ σ (.bool (Txt.startswith (mk a) (mk b))):=fun s I=>by
 refine aF h.one fun v ah hv=> ?_;subst ah
 refine vS hu fun t=> ?_;revert h;refine vS hv fun t h=> ?_
 exact SC.startswith ⟨.bool _,I⟩
theorem uM {a b:List Nat}(u:Value) (us:List Value) (hu:VR (.str a) u) (h:cu [.str b] us):jP prog w X (call (.builtin "str.endswith") (u::us)) ρ σ (.bool (Txt.endswith (mk a) (mk b))):=fun s I=>by
 refine aF h.one fun v ah hv=> ?_;subst ah
 refine vS hu fun t=> ?_;revert h;refine vS hv fun t h=> ?_
 exact SC.endswith ⟨.bool _,I⟩
theorem n6 {a:List Nat}(u:Value) (us:List Value) (hu:VR (.str a) u) (h:cu [] us):jP prog w X (call (.builtin "str.isspace") (u::us)) ρ σ (.bool (Txt.isspace (mk a))):=fun s I=>by
 cases h;refine vS hu fun t=> ?_
 exact SC.isspace ⟨.bool _,I⟩
theorem EF {a:List Nat}(hl:(Txt.lower (mk a)).length≤16777216) (u:Value) (us:List Value) (hu:VR (.str a) u) (h:cu [] us):jP prog w X (call (.builtin "str.lower") (u::us)) ρ σ (.str (Txt.lower (mk a)).cps.toList):=fun s I=>by
 cases h;refine vS hu fun t=> ?_
 refine SC.lower ?_ ⟨?_,I.tick _⟩
 ·show decide _ =false;simp only[decide_eq_false_iff_not];rw[sizeLine_eq];exact Õ hl
 ·have:=VR.str (Txt.lower (mk a)).cps.toList s.toks;rw[i6] at this;exact this
theorem EH {a b:List Nat}{i j:Int}(h0:0≤i) (h1:0≤j) (h2:j≤a.length) (u:Value) (us:List Value) (hu:VR (.str a) u) (h:cu [.str b,.int i,.int j] us):
  jP prog w X (call (.builtin "str.find") (u::us)) ρ σ (.int (kS a b i.toNat j.toNat)):=fun s I=>by
 refine Hh h.three fun v x y ah hv hx hy=> ?_;subst ah
 refine vS hu fun t=> ?_;revert h;refine vS hv fun t h=> ?_;revert h;refine vI hx fun t h=> ?_;revert h;refine vI hy fun t h=> ?_
 have e1:fromIndex (mk a).length i=i.toNat:=by unfold fromIndex;rw[if_neg (E7 h0)];exact ų
 have e2:min (fromIndex (mk a).length j) (mk a).length=j.toNat:=by unfold fromIndex;rw[if_neg (E7 h1),aA];exact S7 h2
 have g:=sf (mk a) (mk b) i j;rw[e1,e2] at g
 exact call_gives F.slot_str_find (typeIs_str _ _ _) F.entry_str_find (F.args_str_find_4 _ _ _ _) (g _ _ _ _) ⟨.int _ _,I.tick _⟩
theorem MO {a b:List Nat}:Cm prog w X .In (.str b) (.str a) ρ σ (sb a b):=fun u v h1 h2 s I=>by refine vS h1 fun t=> ?_;refine vS h2 fun t=> ?_;exact in_str ⟨rfl,I⟩
theorem sv {a b:List Nat}:Cm prog w X .NotIn (.str b) (.str a) ρ σ (!sb a b):=fun u v h1 h2 s I=>by refine vS h1 fun t=> ?_;refine vS h2 fun t=> ?_;exact notIn_str ⟨rfl,I⟩
theorem eu {a b:Bool}:Cm prog w X .IsNot (.bool a) (.bool b) ρ σ (a != b):=fun u v h1 h2 s I=>by refine vB h1 ?_;refine vB h2 ?_;exact isnot_bool ⟨rfl,I⟩
theorem m8 {a:List Nat}:Cm prog w X .IsNot (.str a) .none ρ σ true:=fun u v h1 h2 s I=>by refine vS h1 fun t=> ?_;refine vN h2 ?_;exact wpAny_isNot_other rfl (by intro x;cases x) ⟨rfl,I⟩
theorem m7:Cm prog w X .IsNot .none .none ρ σ false:=fun u v h1 h2 s I=>by refine vN h1 ?_;refine vN h2 ?_;exact fun U U U=>⟨rfl,I⟩
theorem dw {a:Expr}{r:List Expr}{pos:Pos}{c d:Bool}(h:BE prog w X a ρ σ c) (hr:c=true→BE prog w X (.BoolOp .And r pos) ρ σ d):BE prog w X (.BoolOp .And (a::r) pos) ρ σ (c&&d):=fun s I=>
 isTrue_and (wpAny_mono (h s I) (fun x s' q=>by
  refine bo q fun ah I'=> ?_;clear q;subst ah
  cases x with
  | true=>exact hr rfl s' I'
  | false=>exact⟨rfl,I'⟩) fun U U f=>f)
theorem iP {pos:Pos}:BE prog w X (.BoolOp .And [] pos) ρ σ true:=fun s I=>isTrue_and_nil ⟨rfl,I⟩
theorem kx {a:Expr}{r:List Expr}{pos:Pos}{c d:Bool}(h:BE prog w X a ρ σ c) (hr:c=false→BE prog w X (.BoolOp .Or r pos) ρ σ d):BE prog w X (.BoolOp .Or (a::r) pos) ρ σ (c||d):=fun s I=>
 isTrue_or (wpAny_mono (h s I) (fun x s' q=>by
  refine bo q fun ah I'=> ?_;clear q;subst ah
  cases x with
  | true=>exact⟨rfl,I'⟩
  | false=>exact hr rfl s' I') fun U U f=>f)
theorem uO {pos:Pos}:BE prog w X (.BoolOp .Or [] pos) ρ σ false:=fun s I=>isTrue_or_nil ⟨rfl,I⟩
theorem lh {a b:Expr}{pos:Pos}{c d:Bool}(h:PE prog w X a ρ σ (.bool c)) (hr:c=true→PE prog w X b ρ σ (.bool d)):PE prog w X (.BoolOp .And [a,b] pos) ρ σ (.bool (c&&d)):=fun s I=>
 BoolOp_and (wpAny_mono (h s I) (fun x s' q=>by
  refine bo q fun h1 I'=> ?_
  refine vB h1 ?_
  refine wpAny_truthy_bool ?_
  cases c with
  | true=>exact BoolOp_one (hr rfl s' I')
  | false=>exact⟨.bool _,I'⟩) fun U U f=>f)
end
end
inductive Us (a:Addr) (P:Obj→Prop):Led→Led→Prop
 | here {Q r}:Us a P ((a,Q)::r) ((a,P)::r)
 | there {p r r'} (h:Us a P r r'):Us a P (p::r) (p::r')
theorem Us.keys {a P σ σ'} (h:Us a P σ σ'):σ'.map (·.1)=σ.map (·.1):=by
 induction h with
 | here=>rfl
 | there _ ih=>simp[ih]
theorem Us.iK {a P σ σ'} (h:Us a P σ σ'):a∈σ.map (·.1):=by
 induction h with
 | here=>simp
 | there _ ih=>simp only[List.map_cons,List.mem_cons];exact .inr ih
theorem Us.news {a:Addr}{P σ σ'} (h:Us a P σ σ'): ∀{news:List (Addr×Obj)}{g:Heap}{L:Addr}{h₀ h':Heap}{o':Obj},ey σ news→(σ.map (·.1)).Nodup→News g L h₀ news→Heap.SameBut a h₀ h'→h'.get? a=some o'→P o'→ ∃n',ey σ' n'∧News g L h' n':=by
 induction h with
 | here=>
  intro news g L h₀ h' o' D nd N hs ho hp;cases D with
  | @cons _ _ o _ n h r=>
   rw[List.map_cons,List.nodup_cons] at nd
   refine⟨_,.cons hp r,fun p vJ=> ?_⟩;have z:=N (a,o) (.head _);rcases List.mem_cons.mp vJ with rfl | vJ
   ·exact⟨ho,z.2⟩
   ·have y:=N p (.tail _ vJ);have ne:p.1≠a:=fun e=>nd.1 (by rw[r.keys,←e];exact List.mem_map_of_mem vJ)
    exact⟨(hs.2 _ ne).trans y.1,y.2⟩
 | @there q r r' h ih=>
  intro news g L h₀ h' o' D nd N hs ho hp;cases D with
  | @cons b _ o _ n hq r=>
   rw[List.map_cons,List.nodup_cons] at nd
   refine aF (ih r nd.2 (fun p vJ=>N p (.tail _ vJ)) hs ho hp) fun n' D' N'=> ?_
   refine⟨_,.cons hq D',fun p vJ=> ?_⟩;have z:=N (b,o) (.head _);rcases List.mem_cons.mp vJ with rfl | vJ
   ·have ne:b≠a:=fun e=>nd.1 (e ▸ h.iK)
    exact⟨(hs.2 _ ne).trans z.1,z.2⟩
   ·exact N' p vJ
section
variable {prog:Program}{w:World}{X:Cx}{ρ bC:Ro}{σ σ':Led}{T:aX}{n:Nat}
theorem Inv.push {s:Shared}(I:Inv X ρ σ s) {o:Obj}{P:Obj→Prop}(hp:P o) (hf:o.isFreed=false) {tk:Nat}:Inv X ρ ((s.heap.objs.size,P)::σ) {s with heap:=s.heap.push o,toks:=tk}:=by
 refine gS I.st fun m news F N R D=> ?_
 refine⟨⟨m,_,F.push o,N.push F o hf,R,.cons hp D⟩,?_,I.ks,I.kn,I.gens,I.os⟩;rw[List.map_cons,List.nodup_cons];refine⟨fun hm=> ?_,I.nd⟩;rw[D.keys] at hm
 refine aF (List.mem_map.mp hm) fun p hp e=> ?_
 exact absurd (Heap.lt_size (N p hp).1) (by rw[e];exact Nat.lt_irrefl _)
theorem Inv.Hl {s:Shared}(I:Inv X ρ σ s) {a:Addr}(h:a∈σ.map (·.1)):a≠X.L∧X.g.get? a=none:=by
 refine gS I.st fun m news F N R D=> ?_
 rw[D.keys] at h
 refine aF (List.mem_map.mp h) fun p hp ah=> ?_;subst ah
 exact(N p hp).2
theorem Fr.sameBut {g:Heap}{L a:Addr}{h h':Heap}{m:Str→Option Value}(F:Fr g L h m) (hs:Heap.SameBut a h h') (hL:a≠L) (hg:g.get? a=none):Fr g L h' m:=
 ⟨F.ns.sameBut hs (Ne.symm hL),fun b o e=>(hs.2 b (fun q=>by rw[q,hg] at e;cases e)).trans (F.keep b o e),F.above⟩
theorem Inv.turn {s:Shared}(I:Inv X ρ σ s) {a:Addr}{P:Obj→Prop}{h':Heap}{o':Obj}{tk:Nat}(hu:Us a P σ σ') (hs:Heap.SameBut a s.heap h') (ho:h'.get? a=some o') (hp:P o'):Inv X ρ σ' {s with heap:=h',toks:=tk}:=by
 refine bo (I.Hl hu.iK) fun hL hg=> ?_
 refine gS I.st fun m news F N R D=> ?_
 refine aF (hu.news D I.nd N hs ho hp) fun n' D' N'=> ?_
 exact⟨⟨m,n',Fr.sameBut F hs hL hg,N',R,D'⟩,by rw[hu.keys];exact I.nd,I.ks,I.kn,I.gens,I.os⟩
theorem Fr.extBut {g:Heap}{L a:Addr}{h h':Heap}{m:Str→Option Value}(F:Fr g L h m) (hs:Heap.ExtBut a h h') (hL:a≠L) (hg:g.get? a=none):Fr g L h' m:=
 ⟨F.ns.extBut hs (Ne.symm hL),fun b o e=>hs b o (fun q=>by rw[q,hg] at e;cases e) (F.keep b o e),F.above⟩
theorem Inv.done {s:Shared}{a:Addr}{P:Obj→Prop}(I:Inv X ρ ((a,P)::σ) s) {h':Heap}{tk:Nat}(hs:Heap.ExtBut a s.heap h'):Inv X ρ σ {s with heap:=h',toks:=tk}:=by
 refine bo (I.Hl (a:=a) (by simp)) fun hL hg=> ?_
 have nd:=I.nd;refine gS I.st fun m news F N R D=> ?_
 cases D with
 | @cons _ _ o _ n hq D=>
  rw[List.map_cons,List.nodup_cons] at nd
  refine⟨⟨m,n,Fr.extBut F hs hL hg,fun p hp=> ?_,R,D⟩,nd.2,I.ks,I.kn,I.gens,I.os⟩;have z:=N p (.tail _ hp);have ne:p.1≠a:=fun e=>nd.1 (by rw[D.keys,←e];exact List.mem_map_of_mem hp)
  exact⟨hs _ _ ne z.1,z.2⟩
noncomputable def Nx (prog:Program) (w:World) (X:Cx) (I:Addr) (P P':Obj→Prop) (v:PV) (σ:Led):Prop:=
 ∀ρ s,Inv X ρ ((I,P)::σ) s→wpAny (model prog w) X.A (pyNext (.ref I)) (fun r s'=> ∃u,r=some u∧VR v u∧Inv X ρ ((I,P')::σ) s') (fun U U=>False) s
noncomputable def Nx0 (prog:Program) (w:World) (X:Cx) (I:Addr) (P:Obj→Prop) (σ:Led):Prop:=
 ∀ρ s,Inv X ρ ((I,P)::σ) s→wpAny (model prog w) X.A (pyNext (.ref I)) (fun r s'=>r=none∧Inv X ρ σ s') (fun U U=>False) s
noncomputable def vc (prog:Program) (w:World) (X:Cx) (iter:Expr) (ρ:Ro) (σ:Led) (P:Addr→Obj→Prop):Prop:=
 Ev prog w X (eval iter X.env) ρ σ fun y s₁=>wpAny (model prog w) X.A (pyIter y) (fun u s'=> ∃I,u= .ref I∧Inv X ρ ((I,P I)::σ) s') (fun U U=>False) s₁
noncomputable def jR (K:PF→Ro→Led→Prop) (J:Ro→Led→Prop):PF→Ro→Led→Prop
 | .next,ρ,σ | .cont,ρ,σ=>J ρ σ
 | .brk,ρ,σ=>K .next ρ σ
 | .ret v,ρ,σ=>K (.ret v) ρ σ
theorem SE.sub {l:List Stmt}{K:PF→Ro→Led→Prop}(h:SE prog w X l ρ σ' K) (hs:σ'.Sublist σ):SE prog w X l ρ σ K:=St.sub h hs
theorem oo {x:Str}{px pos:Pos}{iter:Expr}{body orelse:List Stmt}{K:PF→Ro→Led→Prop}(k:Nat) (xs:Nat→PV) (It:Addr→Nat→Obj→Prop) (J:Nat→Ro→Led→Prop)
  (hi:vc prog w X iter ρ σ fun I=>It I 0)
  (h0:J 0 ρ σ)
  (hn: ∀I i ρ σ,i<k→J i ρ σ→Nx prog w X I (It I i) (It I (i+1)) (xs i) σ)
  (hd: ∀I ρ σ,J k ρ σ→Nx0 prog w X I (It I k) σ)
  (hb: ∀I i ρ σ,i<k→J i ρ σ→I∉σ.map (·.1)→ ∃bC σ',(∀u,VR (xs i) u→gb prog w X x u ρ ((I,It I (i+1))::σ) bC σ')∧
   SE prog w X body bC σ' (jR K fun eJ ak=> ∃aR,J (i+1) eJ aR∧((I,It I (i+1))::aR).Sublist ak))
  (he: ∀ρ σ,J k ρ σ→SE prog w X orelse ρ σ K)
  (hf: ∀x,foldedSetIterable iter X.env x=pure x:=by intro _;rfl):S1 prog w X (.For (.Name x px) iter body orelse pos) ρ σ K:=fun s iC=>by
 refine wpAny_For (wpAny_mono (hi s iC) (fun y s₁ q=>wpAny_mono q (fun u au q=> ?_) fun U U f=>f) fun U U f=>f) hf;refine aF q fun I ah hI=> ?_;clear q;subst ah
 refine codeAny_forLoop (fun m s=> ∃i ρ σ,i≤k∧m=k-i∧J i ρ σ∧Inv X ρ ((I,It I i)::σ) s) ?_ k ⟨0,ρ,σ,Nat.zero_le _,rfl,h0,hI⟩;rintro m c6 ⟨i,bI,aD,uC,rfl,hJ,se⟩;by_cases df:i<k
 ·refine wpAny_mono (hn I i bI aD df hJ bI c6 se) (fun r jo q=> ?_) fun U U f=>f.elim
  refine gR q fun u ah hv jF=> ?_;clear q;subst ah
  have nd:=jF.nd;rw[List.map_cons,List.nodup_cons] at nd
  refine mO (hb I i bI aD df hJ nd.1) fun eJ ak iL zm=> ?_
  refine wpAny_assign_Name (wpAny_mono (iL u hv jo jF) (fun U gX jE=> ?_) fun U U f=>f.elim);refine wpAny_mono (zm gX jE) (fun fl mS q=> ?_) fun U U f=>f.elim
  refine DH q fun f kB aR hK zh fF=> ?_
  cases zh with
  | next=>refine aF hK fun gn uD hs=> ?_;exact⟨k-(i+1),by exact sF df,i+1,kB,gn,df,rfl,uD,fF.sub hs⟩
  | cont=>refine aF hK fun gn uD hs=> ?_;exact⟨k-(i+1),by exact sF df,i+1,kB,gn,df,rfl,uD,fF.sub hs⟩
  | brk=>exact⟨_,_,_,hK,.next,fF⟩
  | ret h=>exact⟨_,_,_,hK,.ret h,fF⟩
 ·have e:i=k:=EP uC df;subst e;refine wpAny_mono (hd I bI aD hJ bI c6 se) (fun r jo q=> ?_) fun U U f=>f.elim
  refine bo q fun ah jF=> ?_;clear q;subst ah
  exact wpAny_mono (he bI aD hJ jo jF) (fun fl s' q=>q) fun U U f=>f.elim
end
section
variable (prog:Program) (w:World)
noncomputable def VX (X:Cx) (t:Sem Value) (ρ:Ro) (σ:Led) (R:PV→Led→Prop):Prop:=Ev prog w X t ρ σ fun u s'=> ∃v σ',R v σ'∧VR v u∧Inv X ρ σ' s'
noncomputable def GE (X:Cx) (e:Expr) (ρ:Ro) (σ:Led) (R:PV→Led→Prop):Prop:=VX prog w X (eval e X.env) ρ σ R
noncomputable def AG (X:Cx) (es:List Expr) (pos:Pos) (ρ:Ro) (σ:Led) (R:List PV→Led→Prop):Prop:=
 ∀f:Value,Ev prog w X (evalArgs f true (backTo pos (starEach es X.env)) []) ρ σ fun a s'=> ∃us vs σ',a=⟨us,[]⟩∧R vs σ'∧cu vs us∧Inv X ρ σ' s'
end
section
variable {prog:Program}{w:World}{X:Cx}{ρ bC:Ro}{σ σ':Led}{T:aX}{n:Nat}{R R':PV→Led→Prop}
theorem VX.mono {t:Sem Value}(h:VX prog w X t ρ σ R) (k: ∀v σ',R v σ'→R' v σ'):VX prog w X t ρ σ R':=fun s I=>wpAny_mono (h s I) (fun u s' q=>by refine mO q fun v σ' r z=> ?_;exact⟨v,σ',k _ _ r,z⟩) fun U U f=>f
theorem jj {t:Sem Value}{v:PV}(h:jP prog w X t ρ σ v):VX prog w X t ρ σ fun v' σ'=>v'=v∧σ'=σ:=fun s I=>wpAny_mono (h s I) (fun u s' q=>⟨v,σ,⟨rfl,rfl⟩,q⟩) fun U U f=>f
theorem aQ {e:Expr}{v:PV}(h:PE prog w X e ρ σ v):GE prog w X e ρ σ fun v' σ'=>v'=v∧σ'=σ:=jj h
theorem ra {t:Sem Value}{P:Obj→Prop}(h:Gl prog w X t ρ σ P):VX prog w X t ρ σ fun v' σ'=> ∃a,v'= .ref a∧σ'=(a,P)::σ:=fun s I=>wpAny_mono (h s I) (fun u s' q=>by
 refine aF q fun a ah I'=> ?_;clear q;subst ah;exact⟨.ref a,_,⟨a,rfl,rfl⟩,.ref a,I'⟩) fun U U f=>f
theorem b0 {e:Expr}{P:Obj→Prop}(h:NE prog w X e ρ σ P):GE prog w X e ρ σ fun v' σ'=> ∃a,v'= .ref a∧σ'=(a,P)::σ:=ra h
theorem wA {t:Sem Value}{v:PV}(h:VX prog w X t ρ σ R) (k: ∀v' σ',R v' σ'→v'=v∧σ.Sublist σ'):jP prog w X t ρ σ v:=fun s I=>wpAny_mono (h s I) (fun u s' q=>by
 refine jU q fun v' σ' r z I'=> ?_
 refine bo (k _ _ r) fun ah hs=> ?_;subst ah
 exact⟨z,I'.sub hs⟩) fun U U f=>f
theorem ir {e:Expr}{v:PV}(h:GE prog w X e ρ σ R) (k: ∀v' σ',R v' σ'→v'=v∧σ.Sublist σ'):PE prog w X e ρ σ v:=wA h k
theorem fV {t:Sem Value}{P:Obj→Prop}(h:VX prog w X t ρ σ R) (k: ∀v' σ',R v' σ'→ ∃a,v'= .ref a∧((a,P)::σ).Sublist σ'):Gl prog w X t ρ σ P:=fun s I=>wpAny_mono (h s I) (fun u s' q=>by
 refine jU q fun v' σ' r z I'=> ?_
 refine aF (k _ _ r) fun a ah hs=> ?_;subst ah
 refine vR z ?_
 exact⟨a,rfl,I'.sub hs⟩) fun U U f=>f
theorem bO {es:List Expr}{pos:Pos}{vs:List PV}(h:AE prog w X es pos ρ σ vs):AG prog w X es pos ρ σ fun CW σ'=>CW=vs∧σ'=σ:=fun f s I=>wpAny_mono (h f s I) (fun a s' q=>by
 refine gR q fun us ah hv I'=> ?_;clear q;subst ah;exact⟨us,vs,σ,rfl,⟨rfl,rfl⟩,hv,I'⟩) fun U U f=>f
theorem PN {e:Expr}{pos:Pos}(h:GE prog w X e ρ σ R) (he:starEach [e] X.env=[(false,eval e X.env)]:=by rfl):AG prog w X [e] pos ρ σ fun vs σ'=> ∃v,vs=[v]∧R v σ':=fun f s I=>by
 rw[he];show wpAny _ _ (evalArgs f true [(false,eval e X.env)] []) _ _ s;refine evalArgs_plain (spliced_cons (wpAny_mono (h s I) (fun u s₁ q=>(spliced_nil ?_)) fun U U f=>f));refine jU q fun v σ' r z I'=> ?_
 exact⟨[u],[v],σ',rfl,⟨v,rfl,r⟩,.cons z .nil,I'⟩
theorem nX {Q:Value→Shared→Prop}{RA:List PV→Led→Prop}{x:Str}{p pos:Pos}{args:List Expr}{id:String}(hf:XE prog w X (.Name x p) ρ σ (.builtin id)) (ha:AG prog w X args pos ρ σ RA)
  (hc: ∀vs σ',RA vs σ'→ ∀us,cu vs us→Ev prog w X (call (.builtin id) us) ρ σ' Q) (hp:(backTo pos (starEach args X.env)).any (·.1)=false:=by rfl):Ev prog w X (eval (.Call (.Name x p) args [] pos) X.env) ρ σ Q:=fun s I=>
 PyProof.Rows.Call_ (wpAny_mono (hf s I) (fun f s₁ q=>by
  refine bo q fun ah aS=> ?_;clear q;subst ah
  refine callWith_builtin hp (wpAny_mono (ha _ s₁ aS) (fun a au q=> ?_) fun U U f=>f);refine Bl q fun us vs σ' ah r hv aH=> ?_;clear q;subst ah
  exact hc vs σ' r us hv au aH) fun U U f=>f) rfl
theorem iN {Q:Value→Shared→Prop}{RA:List PV→Led→Prop}{x:Str}{p pos:Pos}{args:List Expr}{t:String}(hf:XE prog w X (.Name x p) ρ σ (.type t)) (ha:AG prog w X args pos ρ σ RA)
  (hc: ∀vs σ',RA vs σ'→ ∀us,cu vs us→Ev prog w X (call (.type t) us) ρ σ' Q) (hp:(backTo pos (starEach args X.env)).any (·.1)=false:=by rfl):Ev prog w X (eval (.Call (.Name x p) args [] pos) X.env) ρ σ Q:=fun s I=>
 PyProof.Rows.Call_ (wpAny_mono (hf s I) (fun f s₁ q=>by
  refine bo q fun ah aS=> ?_;clear q;subst ah
  refine PyProof.Rows.callWith_type hp (wpAny_mono (ha _ s₁ aS) (fun a au q=> ?_) fun U U f=>f);refine Bl q fun us vs σ' ah r hv aH=> ?_;clear q;subst ah
  exact hc vs σ' r us hv au aH) fun U U f=>f) rfl
theorem lx {Q:Value→Shared→Prop}{o:Expr}{name:Str}{apos pos:Pos}{args:List Expr}{pl:Sem Bool}{id:String}(ho:GE prog w X o ρ σ R)
  (hm: ∀v σ',R v σ'→(∀(u:Value) (s:Shared) (Q:Value×List Value→Shared→Prop),VR v u→Inv X ρ σ' s→Q (.builtin id,[u]) s→wpAny (model prog w) X.A (getMethod u name pl) Q (fun U U=>False) s)∧
   ∃RA:List PV→Led→Prop,AG prog w X args pos ρ σ' RA∧ ∀vs ak,RA vs ak→ ∀u us,VR v u→cu vs us→Ev prog w X (call (.builtin id) (u::us)) ρ ak Q)
  (heq:eval ((o.Attribute name apos).Call args [] pos) X.env=(do let ov ←eval o X.env;standAt apos.atName;let fx ←holding [ov] (getMethod ov name pl);match fx with | (f,first)=>callWith pos f first (backTo pos (starEach args X.env)) []):=by rfl)
  (hp:(backTo pos (starEach args X.env)).any (·.1)=false:=by rfl):Ev prog w X (eval (.Call (.Attribute o name apos) args [] pos) X.env) ρ σ Q:=fun s I=>
 MethodCall_ (pl:=pl) (wpAny_mono (ho s I) (fun u s₁ q=>by
  refine jU q fun v σ' r hv aS=> ?_
  refine DK (hm v σ' r) fun RA h1 ha hc=> ?_
  refine h1 u s₁ _ hv aS (callWith_builtin hp (wpAny_mono (ha _ s₁ aS) (fun b au q'=> ?_) fun U U f=>f));refine Bl q' fun us vs ak ah kQ de aH=> ?_;clear q';subst ah
  exact hc vs ak kQ u us hv de au aH) fun U U f=>f) heq
end
structure jO (prog:Program) (w:World) (k:Nat) (xs:Nat→PV) (It:Addr→Nat→Obj→Prop) (S:Led→Prop):Prop where
 nx: ∀X I i σ,X.A.handled=none→i<k→S σ→Nx prog w X I (It I i) (It I (i+1)) (xs i) σ
 nd: ∀X I σ,X.A.handled=none→S σ→Nx0 prog w X I (It I k) σ
 self: ∀X I i ρ σ (s:Shared) (Q:Value→Shared→Prop) (E:Value→Shared→Prop),S σ→Inv X ρ ((I,It I i)::σ) s→Q (.ref I) s→wpAny (model prog w) X.A (pyIter (.ref I)) Q E s
noncomputable def az (ps:List PV):Obj→Prop:=fun o=> ∃vs n,cu ps vs∧o={cls:=.type "list",data:=.seq vs.toArray n}
noncomputable def gG (ps:List PV):Obj→Prop:=fun o=> ∃vs n,cu ps vs∧o={cls:=.type "tuple",data:=.seq vs.toArray n}
noncomputable def At (X:Cx) (σ:Led) (a:Addr) (P:Obj→Prop):Prop:=(a,P)∈σ∨ ∃o,X.g.get? a=some o∧P o
section
variable {prog:Program}{w:World}{X:Cx}{ρ bC:Ro}{σ σ':Led}{T:aX}{n:Nat}{R R':PV→Led→Prop}
theorem At.obj {a:Addr}{P:Obj→Prop}{s:Shared}(h:At X σ a P) (I:Inv X ρ σ s): ∃o,s.heap.get? a=some o∧P o:=by
 rcases h with h | ⟨o,ho,p⟩
 ·exact I.obj h
 ·exact⟨o,I.keep ho,p⟩
theorem At.sub {a:Addr}{P:Obj→Prop}(h:At X σ a P) (hs:σ.Sublist σ'):At X σ' a P:=h.imp (fun h=>hs.mem h) id
theorem cu.m5 {ps:List PV}{vs:List Value}(h:cu ps vs) {i:Nat}{p:PV}(e:ps[i]? =some p): ∃v,vs.toArray[i]? =some v∧VR p v:=by
 refine aF (h.get i p e) fun v hv r=> ?_
 exact⟨v,by simpa using hv,r⟩
theorem az.list {ps:List PV}{o:Obj}{h:Heap}{a:Addr}(x:az ps o) (e:h.get? a=some o): ∃vs,cu ps vs∧h.IsList a vs.toArray:=by
 refine mO x fun vs n r ah=> ?_;clear x;subst ah
 exact⟨vs,r,_,e,rfl,n,rfl⟩
theorem gG.tuple {ps:List PV}{o:Obj}{h:Heap}{a:Addr}(x:gG ps o) (e:h.get? a=some o): ∃vs,cu ps vs∧h.IsTuple a vs.toArray:=by
 refine mO x fun vs n r ah=> ?_;clear x;subst ah
 exact⟨vs,r,_,e,rfl,n,rfl⟩
noncomputable def tv (a b:Int):Addr→Nat→Obj→Prop:=fun U i o=>o={cls:=.type "range_iterator",dict:=none,data:=.fields #[rawInt (a+i),rawInt (Builtin.Range.rangeSize a b 1-i),rawInt 1],slots:= #[]}
theorem g5 {a b:Int}{k:Nat}(hk:Builtin.Range.rangeSize a b 1=k):jO prog w k (fun i=>.int (a+i)) (tv a b) (fun U=>True) where
 nx X I i σ hh hi _ ρ s Is:=by
  refine mY (Is.obj (.head _)) fun ho=> ?_
  refine wpAny_pyNext_range_item (x:=a+i) (left:=Builtin.Range.rangeSize a b 1-i) (step:=1) ho (by rw[hk];exact IP hi) fun h' jC gw=>⟨_,rfl,.int _ _,?_⟩
  have e1:a+((i+1:Nat):Int)=a+i+1:=Td;have e2:Builtin.Range.rangeSize a b 1-((i+1:Nat):Int)=Builtin.Range.rangeSize a b 1-i-1:=IG;exact Is.turn .here gw jC (by rw[tv,e1,e2])
 nd X I σ hh _ ρ s Is:=by
  refine mY (Is.obj (.head _)) fun ho=> ?_
  exact wpAny_pyNext_range_end hh (x:=a+k) (left:=Builtin.Range.rangeSize a b 1-k) (step:=1) ho (by rw[hk];exact Jk hk) fun h' gw=>⟨rfl,Is.done gw⟩
 self X I i ρ σ s Q E _ Is hQ:=by
  refine mY (Is.obj (.head _)) fun ho=> ?_
  exact wpAny_pyIter_rangeiter (x:=a+i) (left:=Builtin.Range.rangeSize a b 1-i) (step:=1) ho hQ
noncomputable def Fw (a b:Int):Addr→Nat→Obj→Prop:=fun U i o=>o={cls:=.type "range_iterator",dict:=none,data:=.fields #[rawInt (a-i),rawInt (Builtin.Range.rangeSize a b (-1)-i),rawInt (-1)],slots:= #[]}
theorem nC {a b:Int}{k:Nat}(hk:Builtin.Range.rangeSize a b (-1)=k):jO prog w k (fun i=>.int (a-i)) (Fw a b) (fun U=>True) where
 nx X I i σ hh hi _ ρ s Is:=by
  refine mY (Is.obj (.head _)) fun ho=> ?_
  refine wpAny_pyNext_range_item (x:=a-i) (left:=Builtin.Range.rangeSize a b (-1)-i) (step:= -1) ho (by rw[hk];exact IP hi) fun h' jC gw=>⟨_,rfl,.int _ _,?_⟩
  have e1:a-((i+1:Nat):Int)=a-i+ -1:=Tc;have e2:Builtin.Range.rangeSize a b (-1)-((i+1:Nat):Int)=Builtin.Range.rangeSize a b (-1)-i-1:=IG;exact Is.turn .here gw jC (by rw[Fw,e1,e2])
 nd X I σ hh _ ρ s Is:=by
  refine mY (Is.obj (.head _)) fun ho=> ?_
  exact wpAny_pyNext_range_end hh (x:=a-k) (left:=Builtin.Range.rangeSize a b (-1)-k) (step:= -1) ho (by rw[hk];exact Jk hk) fun h' gw=>⟨rfl,Is.done gw⟩
 self X I i ρ σ s Q E _ Is hQ:=by
  refine mY (Is.obj (.head _)) fun ho=> ?_
  exact wpAny_pyIter_rangeiter (x:=a-i) (left:=Builtin.Range.rangeSize a b (-1)-i) (step:= -1) ho hQ
noncomputable def uw (ax:Addr):Addr→Nat→Obj→Prop:=fun U i o=>o.cls= .type "list_iterator"∧o.data= .fields #[.ref ax,.int i 0]
theorem dq {ax:Addr}{ps:List PV}{S:Led→Prop}(hS: ∀σ,S σ→(ax,az ps)∈σ):jO prog w ps.length (fun i=>ps.getD i .none) (uw ax) S where
 nx X I i σ hh hi hs ρ s Is:=by
  refine aF (Is.obj (.head _)) fun o ho po=> ?_
  refine aF (Is.obj (.tail _ (hS σ hs))) fun ol qS pl=> ?_
  refine aF (pl.list qS) fun vs hv il=> ?_
  refine aF (hv.m5 (i:=i) (p:=ps.getD i .none) (by rw[List.getD_eq_getElem?_getD,List.getElem?_eq_getElem hi];rfl)) fun u hu r=> ?_
  exact wpAny_pyNext_list_item ⟨_,ho,po.1,po.2⟩ il hu fun h' jC gw=>by
   refine gR jC fun o' ig hc hd=> ?_
   refine⟨_,rfl,r,Is.turn (o':=o') .here gw ig ?_⟩;exact⟨hc,hd⟩
 nd X I σ hh hs ρ s Is:=by
  refine aF (Is.obj (.head _)) fun o ho po=> ?_
  refine aF (Is.obj (.tail _ (hS σ hs))) fun ol qS pl=> ?_
  refine aF (pl.list qS) fun vs hv il=> ?_
  exact wpAny_pyNext_list_end hh ⟨_,ho,po.1,po.2⟩ il (by rw[hv.length];simp) fun h' gw=>⟨rfl,Is.done gw⟩
 self X I i ρ σ s Q E _ Is hQ:=by
  refine aF (Is.obj (.head _)) fun o ho po=> ?_
  exact wpAny_pyIter_listiter ⟨_,ho,po.1,po.2⟩ hQ
def stI (l:List Nat):Addr→Nat→Obj→Prop:=fun U i o=> ∃t,o.cls= .type (if l.all (· <128) then "str_ascii_iterator" else "str_iterator")∧o.data= .fields #[.str (mk l) t,.int i 0]
theorem lO {l:List Nat}:jO prog w l.length (fun i=>.str [l.getD i 0]) (stI l) (fun U=>True) where
 nx X I i σ hh hi hs ρ s Is:=by
  refine DI (Is.obj (.head _)) fun o t ho hc hd=> ?_
  have e:(mk l).cps[i]? =some (l.getD i 0):=by rw[List.getD_eq_getElem?_getD,List.getElem?_eq_getElem hi];simp[hi]
  by_cases ha:l.all (· <128)
  ·rw[if_pos ha] at hc
   refine wpAny_pyNext_ascii_item ⟨_,ho,hc,hd⟩ e fun h' jC gw=> ?_
   refine gR jC fun o' ig F4 tC=> ?_
   exact⟨_,rfl,.str _ _,Is.turn (o':=o') .here gw ig ⟨t,by rw[if_pos ha];exact F4,tC⟩⟩
  ·rw[if_neg ha] at hc
   refine wpAny_pyNext_wide_item ⟨_,ho,hc,hd⟩ e fun h' jC gw=> ?_
   refine gR jC fun o' ig F4 tC=> ?_
   exact⟨_,rfl,.str _ _,Is.turn (o':=o') .here gw ig ⟨t,by rw[if_neg ha];exact F4,tC⟩⟩
 nd X I σ hh hs ρ s Is:=by
  refine DI (Is.obj (.head _)) fun o t ho hc hd=> ?_
  have e:(mk l).cps[l.length]? =none:=by simp
  by_cases ha:l.all (· <128)
  ·rw[if_pos ha] at hc
   exact wpAny_pyNext_ascii_end hh ⟨_,ho,hc,hd⟩ e fun h' gw=>⟨rfl,Is.done gw⟩
  ·rw[if_neg ha] at hc
   exact wpAny_pyNext_wide_end hh ⟨_,ho,hc,hd⟩ e fun h' gw=>⟨rfl,Is.done gw⟩
 self X I i ρ σ s Q E _ Is hQ:=by
  refine DI (Is.obj (.head _)) fun o t ho hc hd=> ?_
  by_cases ha:l.all (· <128)
  ·rw[if_pos ha] at hc
   exact wpAny_pyIter_striter_ascii ⟨_,ho,hc,hd⟩ hQ
  ·rw[if_neg ha] at hc
   exact wpAny_pyIter_striter_wide ⟨_,ho,hc,hd⟩ hQ
noncomputable def byI (l:List UInt8):Addr→Nat→Obj→Prop:=fun U i o=> ∃t,o.cls= .type "bytes_iterator"∧o.data= .fields #[.bytes l.toArray t,.int i 0]
theorem t9 {l:List UInt8}:jO prog w l.length (fun i=>.int (l.getD i 0).toNat) (byI l) (fun U=>True) where
 nx X I i σ hh hi hs ρ s Is:=by
  refine DI (Is.obj (.head _)) fun o t ho hc hd=> ?_
  have e:l.toArray[i]? =some (l.getD i 0):=by rw[List.getD_eq_getElem?_getD,List.getElem?_eq_getElem hi];simp[hi]
  refine KBw.next_item (b:=l.toArray) (t:=t) ⟨_,ho,hc,hd⟩ e fun h' jC gw=> ?_
  refine gR jC fun o' ig F4 tC=> ?_
  exact⟨_,rfl,.int _ _,Is.turn (o':=o') .here gw ig ⟨t,F4,tC⟩⟩
 nd X I σ hh hs ρ s Is:=by
  refine DI (Is.obj (.head _)) fun o t ho hc hd=> ?_
  exact KBw.next_end (b:=l.toArray) (t:=t) hh ⟨_,ho,hc,hd⟩ (by simp) fun h' gw=>⟨rfl,Is.done gw⟩
 self X I i ρ σ s Q E _ Is hQ:=by
  refine DI (Is.obj (.head _)) fun o t ho hc hd=> ?_
  exact KBw.pyIter_self (b:=l.toArray) (t:=t) ⟨_,ho,hc,hd⟩ hQ
theorem y4 {e:Expr}{l:List Nat}(h:PE prog w X e ρ σ (.str l)):vc prog w X e ρ σ (fun I=>stI l I 0):=fun s I=>wpAny_mono (h s I) (fun u s' q=>by
 refine bo q fun hv I'=> ?_
 refine vS hv fun t=> ?_
 by_cases ha:l.all (· <128)
 ·refine wpAny_pyIter_ascii (by simpa using ha) ⟨_,rfl,I'.push ⟨_,by rw[if_pos ha],rfl⟩ rfl⟩
 ·refine wpAny_pyIter_wide (by simpa using ha) ⟨_,rfl,I'.push ⟨_,by rw[if_neg ha],rfl⟩ rfl⟩) fun U U f=>f
theorem y6 {e:Expr}{l:List UInt8}(h:PE prog w X e ρ σ (.bytes l)):vc prog w X e ρ σ (fun I=>byI l I 0):=fun s I=>wpAny_mono (h s I) (fun u s' q=>by
 refine bo q fun hv I'=> ?_
 refine vY hv fun t=> ?_
 exact KBw.pyIter_bytes ⟨_,rfl,I'.push ⟨_,rfl,rfl⟩ rfl⟩) fun U U f=>f
theorem oK {e:Expr}{ax:Addr}{ps:List PV}(h:PE prog w X e ρ σ (.ref ax)) (hm:(ax,az ps)∈σ):vc prog w X e ρ σ (fun I=>uw ax I 0):=fun s I=>wpAny_mono (h s I) (fun u s' q=>by
 refine bo q fun hv I'=> ?_
 refine vR hv ?_
 refine aF (I'.obj hm) fun ol qS pl=> ?_
 refine aF (pl.list qS) fun vs hv il=> ?_
 exact wpAny_pyIter_list il ⟨_,rfl,I'.push ⟨rfl,rfl⟩ rfl⟩) fun U U f=>f
theorem eF {x:Str}{p pos:Pos}{e:Expr}{b:Int}(hf:XE prog w X (.Name x p) ρ σ (.type "range")) (h:PE prog w X e ρ σ (.int b)) (hs:Builtin.Range.small 0 b 1=true) (he:starEach [e] X.env=[(false,eval e X.env)]:=by rfl):
  vc prog w X (.Call (.Name x p) [e] [] pos) ρ σ (fun I=>tv 0 b I 0):=
 iN hf (bO (gQ h he)) (fun vs σ' r us hv s I=>by
  refine bo r fun ah aU=> ?_;clear r;subst ah;subst aU
  refine aF hv.one fun u ah hu=> ?_;subst ah
  revert hv;refine vI hu fun t hv=> ?_
  refine call_range_1 (wpAny_pyIter_range (a:=0) (c:=1) (Heap.get?_push_size _ rfl) hs ⟨_,rfl,?_⟩)
  refine((I.push (P:=fun U=>True) trivial rfl (o:={cls:=.type "range",data:=.fields #[.int 0 s.toks,.int b _,.int 1 (s.toks+1)]}) (tk:=s.toks+1+1)).push (P:=tv 0 b _ 0) (by show _ =_;simp) rfl).sub (.cons₂ _ (.cons _ (.refl _)))) (by rw[he];rfl)
theorem ki {x:Str}{p pos:Pos}{e f:Expr}{a b:Int}(hf:XE prog w X (.Name x p) ρ σ (.type "range")) (h:PE prog w X e ρ σ (.int a)) (h2:PE prog w X f ρ σ (.int b)) (hs:Builtin.Range.small a b 1=true)
  (he:starEach [e,f] X.env=[(false,eval e X.env),(false,eval f X.env)]:=by rfl):
  vc prog w X (.Call (.Name x p) [e,f] [] pos) ρ σ (fun I=>tv a b I 0):=
 iN hf (bO (Bp h h2 he)) (fun vs σ' r us hv s I=>by
  refine bo r fun ah aU=> ?_;clear r;subst ah;subst aU
  refine uk hv.two fun u v ah hu Hx=> ?_;subst ah
  revert hv;refine vI hu fun t hv=> ?_;revert hv;refine vI Hx fun t hv=> ?_
  refine call_range_2 ?_
  refine wpAny_pyIter_range (a:=a) (b:=b) (c:=1) (Heap.get?_push_size _ rfl) hs ?_
  refine⟨_,rfl,?_⟩
  refine((I.push (P:=fun U=>True) trivial rfl (o:={cls:=.type "range",data:=.fields #[.int a _,.int b _,.int 1 s.toks]}) (tk:=s.toks+1)).push (P:=tv a b _ 0) (by show _ =_;simp) rfl).sub (.cons₂ _ (.cons _ (.refl _)))) (by rw[he];rfl)
theorem DV {x:Str}{p pos:Pos}{e f g:Expr}{a b:Int}(hf:XE prog w X (.Name x p) ρ σ (.type "range")) (h:PE prog w X e ρ σ (.int a)) (h2:PE prog w X f ρ σ (.int b)) (h3:PE prog w X g ρ σ (.int (-1)))
  (hs:Builtin.Range.small a b (-1)=true) (hp:Builtin.divisionGoesByPylong (b-a) (-1)=false)
  (he:starEach [e,f,g] X.env=[(false,eval e X.env),(false,eval f X.env),(false,eval g X.env)]:=by rfl):
  vc prog w X (.Call (.Name x p) [e,f,g] [] pos) ρ σ (fun I=>Fw a b I 0):=
 iN hf (bO (ž h h2 h3 he)) (fun vs σ' r us hv s I=>by
  refine bo r fun ah aU=> ?_;clear r;subst ah;subst aU
  refine Hh hv.three fun u v z ah hu Hx hz=> ?_;subst ah
  revert hv;refine vI hu fun t hv=> ?_;revert hv;refine vI Hx fun t hv=> ?_;revert hv;refine vI hz fun t hv=> ?_
  refine call_range_3 dC ?_ (.inl hp);refine wpAny_pyIter_range (a:=a) (b:=b) (c:= -1) (Heap.get?_push_size _ rfl) hs ?_
  refine⟨_,rfl,?_⟩
  refine((I.push (P:=fun U=>True) trivial rfl (o:={cls:=.type "range",data:=.fields #[.int a _,.int b _,.int (-1) _]}) (tk:=s.toks)).push (P:=Fw a b _ 0) (by show _ =_;simp) rfl).sub (.cons₂ _ (.cons _ (.refl _)))) (by rw[he];rfl)
end
noncomputable def Cx.comp (X:Cx) (scope:Scope) (cl:List (Str×Addr)) (C:Addr) (x:Str):Cx:={X with env:=compEnvC scope cl C X.env,L:=C,ks:=[x]}
noncomputable def kX (ifs:List Expr) (env:Env):Sem Bool:=forIn ifs true fun c r=>if r=true then do
  let ok ←PySem.isTrue c env (eval c env)
  pure (ForInStep.yield ok)
 else pure (ForInStep.yield r)
section
variable {prog:Program}{w:World}{X:Cx}{ρ bC:Ro}{σ σ':Led}{T:aX}{n:Nat}{R R':PV→Led→Prop}
theorem cU.comp (O:cU T n X) {scope:Scope}(cC:scope.kind= .function) {cl:List (Str×Addr)}{C:Addr}{x:Str}:cU T n (X.comp scope cl C x):=
 ⟨O.above,O.call,O.lim,O.top,O.gm,O.bm,O.dep,O.un,O.hh,cC,O.gl,O.bl⟩
theorem Lay.comp {scope:Scope}(cC:scope.kind= .function) {cl:List (Str×Addr)}{C:Addr}{x:Str}(hx:scope.names.lookup x=some .local) (hd:(x==("__debug__":Str))=false:=by decide):Lay (X.comp scope cl C x) where
 fn:=cC
 loc:=rfl
 ks y hy:=by
  have e:y=x:=by simpa [Cx.comp] using hy
  subst e;exact⟨lookup_relabel_local hx,hd⟩
theorem Inv.to {Y:Cx}{s:Shared}(I:Inv X ρ σ s) (hL:Y.L=X.L) (hg:Y.g=X.g) (hk:Y.ks=X.ks) (ho:Y.os=X.os):Inv Y ρ σ s:=by
 obtain⟨st,nd,ks,kn,ge,os⟩:=I;exact⟨by rw[hL,hg];exact st,nd,by rw[hk];exact ks,by rw[hk];exact kn,ge,by rw[ho];exact os⟩
theorem Inv.isNs {s:Shared}(I:Inv X ρ σ s) {C:Addr}{bC:Ro}(h:(C,Mine.isNs bC)∈σ): ∃m,s.heap.Ns C m:=by
 refine DI (I.obj h) fun o m ho r hm=> ?_
 exact⟨m,hm.ns ho⟩
def jS (prog:Program) (w:World) (X':Cx) (ifs:List Expr) (elt:Expr) (bC:Ro) (σ':Led) (skip:Prop) (put:PV→Led→Prop):Prop:=
 ∃b,Ev prog w X' (kX ifs X'.env) bC σ' (fun ok s=>ok=b∧Inv X' bC σ' s)∧(b=false→skip)∧(b=true→GE prog w X' elt bC σ' put)
theorem kp:Ev prog w X (kX [] X.env) ρ σ (fun ok s=>ok=true∧Inv X ρ σ s):=fun s I=>wpAny_tests_nil ⟨rfl,I⟩
theorem w3 {e:Expr}{b:Bool}(h:BE prog w X e ρ σ b):Ev prog w X (kX [e] X.env) ρ σ (fun ok s=>ok=b∧Inv X ρ σ s):=fun s I=>by
 unfold kX;rw[List.forIn_cons];simp only[if_true];refine wpAny_bind (wpAny_bind (wpAny_mono (h s I) (fun c s' q=> ?_) fun U U f=>f));refine wpAny_pure ?_
 dsimp only
 rw[List.forIn_nil];exact wpAny_pure q
theorem xc {elt iter:Expr}{x:Str}{px pos jZ:Pos}{ifs:List Expr}{scope:Scope}{cl:List (Str×Addr)}{use:Option (Value→Sem Unit)}{Q:Value→Shared→Prop}{s:Shared}
  {k:Nat}{xs:Nat→PV}{It:Addr→Nat→Obj→Prop}{S:Led→Prop}(Sq:jO prog w k xs It S) (J:Nat→List PV→Led→Prop) (gy:X.FL=X.L) (hh:X.A.handled=none)
  (eT:closureFor scope X.env=pure cl) (bM: ∀y∈scope.names,y.2≠ .cell) (cC:scope.kind= .function)
  (dE: ∀y∈scope.names,y.2= .local→scope.names.lookup y.1=some .local) (hx:scope.names.lookup x=some .local)
  (hi:vc prog w X iter ρ σ fun I=>It I 0) (h0:J 0 [] σ)
  (hS: ∀i D ys da,J i ys da→S ((D,az ys)::(X.L,isNs ρ)::da))
  (hl: ∀i ys da,i≤k→J i ys da→ys.length≤16777216)
  (eS: ∀I C D i ys da,i<k→J i ys da→jS prog w (X.comp scope cl C x) ifs elt [(x,some (xs i))] ((I,It I (i+1))::(D,az ys)::(X.L,isNs ρ)::da) (J (i+1) ys da)
   (fun v ak=> ∃aR,J (i+1) (ys++[v]) aR∧((I,It I (i+1))::(D,az ys)::(X.L,isNs ρ)::aR).Sublist ak))
  (hQ: ∀a C ys bC σ' s',J k ys σ'→Inv X ρ ((C,isNs bC)::(a,az ys)::σ') s'→compPost (model prog w) X.A (fun U U=>False) use Q (.ref a) C (.ok .next) s')
  (iC:Inv X ρ σ s) (hs: ∀x,foldedSetIterable iter X.env x=pure x:=by intro _;rfl) (mC:(x==("__debug__":Str))=false:=by decide):
  wpAny (model prog w) X.A (comprehension (.ListComp elt [⟨.Name x px,iter,ifs,0⟩] scope pos) scope X.env jZ (newList []) false (eval iter X.env) use) Q (fun U U=>False) s:=by
 refine wpAny_comprehension_free (use:=use) rfl hs eT cC dE (wpAny_mono (hi s iC) (fun y s₁ q=>wpAny_mono q (fun u au q=> ?_) fun U U f=>f) fun U U f=>f);refine aF q fun I ah hI=> ?_;clear q;subst ah
 refine wpAny_newObj_type (wpAny_newFunctionEnv bM (by intro y hy;simp at hy) (fun dk i9 i7=> ?_) cC);dsimp only at i9 i7 ⊢
 have aS:=hI.push (P:=az []) (o:={cls:=.type "list",data:=.seq ([]:List Value).toArray}) ⟨[],0,.nil,rfl⟩ rfl (tk:=au.toks);have aH:=aS.push (P:=fun U=>True) (o:={cls:=.type "dict",data:=.dict #[]}) trivial rfl (tk:=au.toks);refine aF (PyProof.Rows.LCg.ns_obj i9) fun oC LZ hC=> ?_
 have cg:=aH.turn (σ':=(_,isNs [(x,none)])::_) (tk:=au.toks+([]:List (Str×Value)).length) .here i7 LZ ⟨_,⟨fun p hp=>by rw[List.mem_singleton.mp hp];exact .none,fun U U=>rfl⟩,hC⟩;dsimp only at cg ⊢
 generalize Sj:(au.heap.push {cls:=.type "list",data:=.seq ([]:List Value).toArray}).objs.size=C at cg i9 i7 LZ ⊢
 generalize au.heap.objs.size=D at cg ⊢
 have above:X.g.objs.size≤C:=by
  refine gS aS.st fun m news F N R Dd=> ?_
  exact Nat.le_trans F.above (Nat.le_of_lt (Sj ▸ F.ns.lt))
 let X':=X.comp scope cl C x
 have kA:Inv X' [(x,none)] ((I,It I 0)::(D,az [])::(X.L,isNs ρ)::σ) _:=
  ((cg.swap above (by simp)).to (Y:=X') rfl rfl rfl rfl).perm (by
   refine(List.Perm.swap _ _ _).trans ?_
   refine(List.Perm.cons _ (List.Perm.swap _ _ _)).trans ?_
   exact List.Perm.swap _ _ _)
 have Bo: ∀i ys da,J i ys da→S ((D,az ys)::(X.L,isNs ρ)::da):=fun i ys da h=>hS i D ys da h
 have Y:Lay X':=Lay.comp cC hx mC;have PR:(ρ.map (·.1)).Nodup:=by rw[iC.ks];exact iC.kn
 show codeAny _ _ _ (compPost _ _ _ _ _ (.ref D) C) _;have key: ∀s',Inv X' [(x,none)] ((I,It I 0)::(D,az [])::(X.L,isNs ρ)::σ) s'→codeAny (model prog w) X.A (.compLoop (.ListComp elt [⟨.Name x px,iter,ifs,0⟩] scope pos) 0 (.ref I) (.ref D) X'.env)
   (compPost (model prog w) X.A (fun U U=>False) use Q (.ref D) C) s':=fun s' I'=>by
  refine codeAny_compLoop_tests (fun m s=> ∃i ys da vo,i≤k∧m=k-i∧J i ys da∧Inv X' [(x,vo)] ((I,It I i)::(D,az ys)::(X.L,isNs ρ)::da) s) ?_ k ⟨0,[],σ,none,Nat.zero_le _,rfl,h0,I'⟩;rintro m gX ⟨i,ys,da,vo,uC,rfl,hJ,jE⟩;by_cases df:i<k
  ·refine wpAny_mono (Sq.nx X' I i _ hh df (Bo _ _ _ hJ) _ gX jE) (fun r mS q=> ?_) fun U U f=>f.elim
   refine gR q fun u ah hv fF=> ?_;clear q;subst ah
   refine wpAny_assign_Name (wpAny_mono (aq Y (.here (x:=x) (v:=some (xs i))) hv mS fF) (fun U GY zr=> ?_) fun U U f=>f.elim);refine gR (eS I C D i ys da df hJ) fun b ht hf hg=> ?_
   refine wpAny_mono (ht GY zr) (fun ok GX q=> ?_) fun U U f=>f.elim
   refine bo q fun ah sd=> ?_;clear q;subst ah
   cases ok with
   | false=>exact⟨k-(i+1),by exact sF df,i+1,ys,da,_,df,rfl,hf rfl,sd⟩
   | true=>
    refine wpAny_mono (hg rfl GX sd) (fun y GW q=> ?_) fun U U f=>f.elim
    refine K8 q fun v ak aR uD zb FN jD=> ?_
    have jD:=jD.sub zb;refine uj (jD.obj (.tail _ (.head _))) fun vs nn LY de=> ?_
    refine append_at LY (fun h' D6 hD=>⟨k-(i+1),by exact sF df,i+1,ys++[v],aR,_,df,rfl,uD,jD.turn (tk:=GW.toks) (.there .here) D6 hD ⟨vs++[y],_,de.append (.cons FN .nil),by rw[List.push_toArray]⟩⟩) ?_
    show vs.toArray.size≤sizeLine;rw[List.size_toArray,←de.length];exact hl i ys da uC hJ
  ·have e:i=k:=EP uC df;subst e;refine wpAny_mono (Sq.nd X' I _ hh (Bo _ _ _ hJ) _ gX jE) (fun r mS q=> ?_) fun U U f=>f.elim
   refine bo q fun ah fF=> ?_;clear q;subst ah
   have ek:=iC.ks;have uP:X'.g.objs.size≤X.L:=by refine mO iC.st fun m news F U=> ?_;exact F.above
   have J5:=((fF.perm (List.Perm.swap _ _ _)).swap uP PR).to (Y:=X) rfl rfl (by show X.ks=ρ.map (·.1);rw[ek]) rfl;exact hQ D C ys [(x,vo)] da mS hJ J5
 exact codeAny_compStart_list (key _ kA) (Sq.self X' I 0 _ _ _ _ _ (Bo _ _ _ h0) kA (key _ kA))
theorem oP {elt iter:Expr}{x:Str}{px pos:Pos}{ifs:List Expr}{scope:Scope}{cl:List (Str×Addr)}
  {k:Nat}{xs:Nat→PV}{It:Addr→Nat→Obj→Prop}{S:Led→Prop}(Sq:jO prog w k xs It S) (J:Nat→List PV→Led→Prop) (gy:X.FL=X.L) (hh:X.A.handled=none)
  (eT:closureFor scope X.env=pure cl) (bM: ∀y∈scope.names,y.2≠ .cell) (cC:scope.kind= .function)
  (dE: ∀y∈scope.names,y.2= .local→scope.names.lookup y.1=some .local) (hx:scope.names.lookup x=some .local)
  (hi:vc prog w X iter ρ σ fun I=>It I 0) (h0:J 0 [] σ)
  (hS: ∀i D ys da,J i ys da→S ((D,az ys)::(X.L,isNs ρ)::da))
  (hl: ∀i ys da,i≤k→J i ys da→ys.length≤16777216)
  (eS: ∀I C D i ys da,i<k→J i ys da→jS prog w (X.comp scope cl C x) ifs elt [(x,some (xs i))] ((I,It I (i+1))::(D,az ys)::(X.L,isNs ρ)::da) (J (i+1) ys da)
   (fun v ak=> ∃aR,J (i+1) (ys++[v]) aR∧((I,It I (i+1))::(D,az ys)::(X.L,isNs ρ)::aR).Sublist ak))
  (hs: ∀x,foldedSetIterable iter X.env x=pure x:=by intro _;rfl) (mC:(x==("__debug__":Str))=false:=by decide):
  GE prog w X (.ListComp elt [⟨.Name x px,iter,ifs,0⟩] scope pos) ρ σ (fun v σ''=> ∃a ys σ',v= .ref a∧σ''=(a,az ys)::σ'∧J k ys σ'):=fun s I=>by
 rw[eval_ListComp];show wpAny _ _ (comprehension (.ListComp elt [⟨.Name x px,iter,ifs,0⟩] scope pos) scope X.env iter.pos (newList []) false (eval iter X.env) none) _ _ s;refine xc Sq J gy hh eT bM cC dE hx hi h0 hS hl eS (fun a C ys bC σ' s' hJ I'=> ?_) I hs mC;refine gF (I'.isNs (.head _)) fun m hm=> ?_
 exact⟨m,hm,fun h' D6=>⟨.ref a,_,⟨a,ys,σ',rfl,rfl,hJ⟩,.ref a,I'.done D6.extBut (tk:=s'.toks)⟩⟩
theorem vA {elt iter:Expr}{x:Str}{px pos:Pos}{scope:Scope}{cl:List (Str×Addr)}
  {k:Nat}{xs:Nat→PV}{It:Addr→Nat→Obj→Prop}{S:Led→Prop}(Sq:jO prog w k xs It S) (ys:Nat→PV) (gy:X.FL=X.L) (hh:X.A.handled=none)
  (eT:closureFor scope X.env=pure cl) (bM: ∀y∈scope.names,y.2≠ .cell) (cC:scope.kind= .function)
  (dE: ∀y∈scope.names,y.2= .local→scope.names.lookup y.1=some .local) (hx:scope.names.lookup x=some .local)
  (hi:vc prog w X iter ρ σ fun I=>It I 0)
  (hS: ∀D zs,S ((D,az zs)::(X.L,isNs ρ)::σ)) (hl:k≤16777216)
  (eS: ∀C aD i,i<k→(∀p∈(X.L,isNs ρ)::σ,p∈aD)→PE prog w (X.comp scope cl C x) elt [(x,some (xs i))] aD (ys i))
  (hs: ∀x,foldedSetIterable iter X.env x=pure x:=by intro _;rfl) (mC:(x==("__debug__":Str))=false:=by decide):
  NE prog w X (.ListComp elt [⟨.Name x px,iter,[],0⟩] scope pos) ρ σ (az ((List.range k).map ys)):=
 fV (oP Sq (fun i zs da=>zs=(List.range i).map ys∧da=σ) gy hh eT bM cC dE hx hi ⟨rfl,rfl⟩ (fun i D zs da h=>by refine bo h fun ah aU=> ?_;clear h;subst ah;subst aU;exact hS D _)
  (fun i zs da hi h=>by refine bo h fun ah aU=> ?_;clear h;subst ah;subst aU;simp;(apply Nm<;>assumption))
  (fun I C D i zs da uC h=>by
   refine bo h fun ah aU=> ?_;clear h;subst ah;subst aU
   refine⟨true,kp,nofun,fun U=> ?_⟩
   refine(aQ (eS C _ i uC fun p hp=> ?_)).mono fun v σ' r=> ?_
   ·exact .tail _ (.tail _ hp)
   ·refine bo r fun ah aU=> ?_;clear r;subst ah;subst aU
    exact⟨da,⟨by rw[List.range_succ,List.map_append];rfl,rfl⟩,.refl _⟩) hs mC)
  (fun v σ' r=>by refine K7 r fun a ak ah aU CT=> ?_;clear r;subst ah;subst aU;subst CT;exact⟨a,rfl,.refl _⟩)
end
theorem cu.drop {ps:List PV}{vs:List Value}(h:cu ps vs): ∀k,cu (ps.drop k) (vs.drop k):=by
 induction h with
 | nil=>intro k;simp;exact .nil
 | cons h r ih=>intro k;cases k with | zero=>exact .cons h r | succ k=>simpa using ih k
theorem cu.take {ps:List PV}{vs:List Value}(h:cu ps vs): ∀k,cu (ps.take k) (vs.take k):=by
 induction h with
 | nil=>intro k;simp;exact .nil
 | cons h r ih=>intro k;cases k with | zero=>exact .nil | succ k=>simpa using .cons h (ih k)
theorem cu.slice {ps:List PV}{vs:List Value}(h:cu ps vs) (lo hi:Option Int): ∃us,slicePick vs.toArray lo hi none=us.toArray∧cu (sl ps lo hi) us:=by
 rw[slicePick_plain];refine⟨_,rfl,?_⟩;unfold sl;have e:vs.toArray.size=ps.length:=by simp[h.length]
 rw[e]
 exact(h.drop _).take _
theorem cu.set {ps:List PV}{vs:List Value}{p:PV}{v:Value}(h:cu ps vs) (hv:VR p v): ∀k,cu (ps.set k p) (vs.set k v):=by
 induction h with
 | nil=>intro k;simp;exact .nil
 | cons h r ih=>intro k;cases k with | zero=>exact .cons hv r | succ k=>exact .cons h (ih k)
theorem cu.erase {ps:List PV}{vs:List Value}(h:cu ps vs): ∀k,cu (ps.eraseIdx k) (vs.eraseIdx k):=by
 induction h with
 | nil=>intro k;simp;exact .nil
 | cons h r ih=>intro k;cases k with | zero=>exact r | succ k=>exact .cons h (ih k)
noncomputable def cB (ps:List PV) (i:Int):PV:=ps.getD (if i<0 then i+ps.length else i).toNat .none
section
variable {prog:Program}{w:World}{X:Cx}{ρ bC bI:Ro}{σ σ' aD:Led}{T:aX}{n:Nat}{R R':PV→Led→Prop}{K:PF→Ro→Led→Prop}
theorem Inv.ext {s:Shared}(I:Inv X ρ σ s) {h':Heap}{tk:Nat}(hk: ∀b o,s.heap.get? b=some o→h'.get? b=some o):Inv X ρ σ {s with heap:=h',toks:=tk}:=by
 refine gS I.st fun m news F N R D=> ?_
 exact I.heap R D (F.keeps hk) (N.grown hk)
noncomputable def Kt (prog:Program) (w:World) (X:Cx) (t:List (Bool×Sem Value)) (ρ:Ro) (σ:Led) (R:List PV→Led→Prop):Prop:=Ev prog w X (spliced t) ρ σ fun us s'=> ∃vs σ',R vs σ'∧cu vs us∧Inv X ρ σ' s'
theorem gZ:Kt prog w X [] ρ σ (fun vs σ'=>vs=[]∧σ'=σ):=fun s I=>spliced_nil ⟨_,_,⟨rfl,rfl⟩,.nil,I⟩
theorem fA {t:Sem Value}{r:List (Bool×Sem Value)}{R₂:PV→Led→List PV→Led→Prop}(h:VX prog w X t ρ σ R) (hr: ∀v σ',R v σ'→Kt prog w X r ρ σ' (R₂ v σ')):
  Kt prog w X ((false,t)::r) ρ σ (fun vs σ''=> ∃v σ' r,vs=v::r∧R v σ'∧R₂ v σ' r σ''):=fun s I=>
 spliced_cons (wpAny_mono (h s I) (fun u s₁ q=>by
  refine jU q fun v σ' r hv aS=> ?_
  exact wpAny_mono (hr v σ' r s₁ aS) (fun us au q'=>by
   refine jU q' fun vs ak kQ de aH=> ?_
   exact⟨v::vs,ak,⟨v,σ',vs,rfl,r,kQ⟩,.cons hv de,aH⟩) fun U U f=>f) fun U U f=>f)
theorem nz {t:List (Bool×Sem Value)}{vs:List PV}(h:Ku prog w X t ρ σ vs):Kt prog w X t ρ σ (fun CW σ'=>CW=vs∧σ'=σ):=fun s I=>wpAny_mono (h s I) (fun us s' q=>⟨_,_,⟨rfl,rfl⟩,q⟩) fun U U f=>f
theorem lu {elts:List Expr}{pos:Pos}{RL:List PV→Led→Prop}{t:List (Bool×Sem Value)}(he:backTo pos (starEach elts X.env)=t) (h:Kt prog w X t ρ σ RL) (hl: ∀vs σ',RL vs σ'→vs.length≤16777216):
  GE prog w X (.List elts pos) ρ σ (fun v σ''=> ∃a vs σ',v= .ref a∧σ''=(a,az vs)::σ'∧RL vs σ'):=fun s I=>wpAny_List (by
 rw[he];refine wpAny_mono (h s I) (fun us s' q=> ?_) fun U U f=>f
 refine jU q fun vs σ' r hv I'=> ?_
 refine⟨by rw[←hv.length,sizeLine_eq];exact hl _ _ r,.ref _,_,⟨_,vs,σ',rfl,rfl,r⟩,.ref _,I'.push ⟨us,0,hv,rfl⟩ rfl (tk:=s'.toks)⟩)
theorem iB {elts:List Expr}{k:Nat}{pos:Pos}{RL:List PV→Led→Prop}{t:List (Bool×Sem Value)}(he:backTo pos (starEach elts X.env)=t) (h:Kt prog w X t ρ σ RL) (hl: ∀vs σ',RL vs σ'→vs.length≤16777216):
  GE prog w X (.Tuple elts k pos) ρ σ (fun v σ''=> ∃a vs σ',v= .ref a∧σ''=(a,gG vs)::σ'∧RL vs σ'):=fun s I=>wpAny_Tuple (by
 rw[he];refine wpAny_mono (h s I) (fun us s' q=> ?_) fun U U f=>f
 refine jU q fun vs σ' r hv I'=> ?_
 refine⟨by rw[←hv.length,sizeLine_eq];exact hl _ _ r,.ref _,_,⟨_,vs,σ',rfl,rfl,r⟩,.ref _,I'.push ⟨us,0,hv,rfl⟩ rfl (tk:=s'.toks)⟩)
theorem bR {v e:Expr}{pos:Pos}{a:Addr}{ps:List PV}{i:Int}{p:PV}(hv:PE prog w X v ρ σ (.ref a)) (hm:At X σ a (az ps)) (he:PE prog w X e ρ σ (.int i)) (h0: -(ps.length:Int)≤i) (h1:i<ps.length) (hn:ps.length≤16777216) (hp:cB ps i=p)
  (hs: ∀x y,subscripted e false x y=operate [x,y] (getItem x y):=by intro _ _;rfl) (ht: ∀x r,letTemporaryGo v (.ref x) r=pure ():=by intro _ _;rfl):PE prog w X (.Subscript v e pos) ρ σ p:=fun s I=>by
 refine PyProof.Rows.Subscript_ (wpAny_mono (hv s I) (fun x s₁ q=>wpAny_mono (he s₁ q.2) (fun y au q'=> ?_) fun U U f=>f) fun U U f=>f);refine bo q fun wX aS=> ?_
 refine bo q' fun wW aH=> ?_
 refine vR wX ?_;refine vI wW fun t=> ?_
 refine aF (hm.obj aH) fun o ho po=> ?_
 refine aF (po.list ho) fun vs de il=> ?_
 subst hp;have hlen:=de.length;by_cases ja:i<0
 ·obtain⟨u,hu,r⟩:=de.m5 (i:=(i+ps.length).toNat) (p:=cB ps i) (by
   unfold cB;rw[if_pos ja,List.getD_eq_getElem?_getD,List.getElem?_eq_getElem (II h0 ja)];rfl)
  refine subscriptTail_builtin il.typeIs slot_list_getitem.lookup (wpAny_getItem_list_neg il ja (by simp;exact M3 h0 hlen) (MZ h0 hn) (x:=u) (by simpa [←hlen] using hu) ⟨r,aH⟩) (hs _ _) (ht _)
 ·obtain⟨u,hu,r⟩:=de.m5 (i:=i.toNat) (p:=cB ps i) (by
   unfold cB;rw[if_neg ja,List.getD_eq_getElem?_getD,List.getElem?_eq_getElem (IH h0 h1)];rfl)
  exact PyProof.Rows.item_list il (OM ja) (EK h1 hn) hu ⟨r,aH⟩ (hs _ _) (ht _)
theorem fc {v:Expr}{l u:Option Expr}{p pos:Pos}{a:Addr}{ps:List PV}{lo hi:Option Int}(hv:PE prog w X v ρ σ (.ref a)) (hm:At X σ a (az ps)) (hl:xJ prog w X l ρ σ lo) (hu:xJ prog w X u ρ σ hi) (hn:ps.length≤16777216)
  (ht: ∀x r,letTemporaryGo v (.ref x) r=pure ():=by intro _ _;rfl):NE prog w X (.Subscript v (.Slice l u none p) pos) ρ σ (az (sl ps lo hi)):=fun s I=>by
 refine PyProof.Rows.Subscript_ (wpAny_mono (hv s I) (fun x s₁ q=> ?_) fun U U f=>f);refine bo q fun h1 aS=> ?_
 refine vR h1 ?_
 refine wpAny_Slice (wpAny_mono (hl s₁ aS) (fun vl au q=>wpAny_mono (hu au q.2) (fun vu c6 q'=> ?_) fun U U f=>f) fun U U f=>f);refine bo q fun pl aH=> ?_
 refine bo q' fun pu cg=> ?_
 rw[evalPart_none];refine wpAny_pure ?_
 refine aF (hm.obj cg) fun o ho po=> ?_
 refine aF (po.list ho) fun vs de il=> ?_
 refine aF (de.slice lo hi) fun us e ia=> ?_
 refine slice_listK il pl pu ?_ rfl (ht _) (by rw[List.size_toArray,←de.length,sizeLine_eq];exact hn);rw[e];have J:=(cg.push (P:=fun U=>True) (o:={cls:=.type "slice",data:=.fields #[vl,vu,.none]}) trivial rfl (tk:=c6.toks)).push (P:=az (sl ps lo hi)) (o:={cls:=.type "list",data:=.seq us.toArray}) ⟨us,0,ia,rfl⟩ rfl (tk:=c6.toks);dsimp only at J
 rw[Heap.size_push] at J
 exact⟨_,rfl,J.sub (.cons₂ _ (.cons _ (.refl _)))⟩
theorem CV {a b:Addr}{ps qs:List PV}(ha:At X σ a (az ps)) (hb:At X σ b (az qs)) (hn:ps.length+qs.length≤16777216) (u v:Value) (hu:VR (.ref a) u) (hv:VR (.ref b) v):
  Gl prog w X (binaryOp .Add u v) ρ σ (az (ps++qs)):=fun s I=>by
 refine vR hu ?_;refine vR hv ?_
 refine aF (ha.obj I) fun o ho po=> ?_
 refine aF (po.list ho) fun vs de il=> ?_
 refine aF (hb.obj I) fun o2 ho2 QP=> ?_
 refine aF (QP.list ho2) fun us ia il2=> ?_
 refine gS I.st fun m news F N R D=> ?_
 refine add_arrays F N il il2 (fun h' F' N'=>⟨_,rfl,⟨m,_,F',N',R,.cons ⟨vs++us,0,de.append ia,by simp⟩ D⟩,?_,I.ks,I.kn,I.gens,I.os⟩) (by rw[List.size_toArray,List.size_toArray,←de.length,←ia.length,sizeLine_eq];exact hn)
 exact(I.push (P:=az []) (o:={cls:=.type "list",data:=.seq ([]:List Value).toArray}) ⟨[],0,.nil,rfl⟩ rfl (tk:=s.toks)).nd
theorem H6 {l r:Expr}{op:Operator}{pos:Pos}{R₂:PV→Led→PV→Led→Prop}{Pa:PV→Led→Prop}(hl:GE prog w X l ρ σ R) (hr: ∀v σ',R v σ'→GE prog w X r ρ σ' (R₂ v σ'))
  (h: ∀v σ' lD ak,R v σ'→R₂ v σ' lD ak→ ∀u gH,VR v u→VR lD gH→VX prog w X (binaryOp op u gH) ρ ak Pa):GE prog w X (.BinOp l op r pos) ρ σ Pa:=fun s I=>
 wpAny_BinOp (wpAny_mono (hl s I) (fun u s₁ q=>by
  refine jU q fun v σ' r hv aS=> ?_
  exact wpAny_mono (hr v σ' r s₁ aS) (fun gH au q=>by
   refine jU q fun lD ak kQ Lv aH=> ?_
   exact h v σ' lD ak r kQ u gH hv Lv au aH) fun U U f=>f) fun U U f=>f)
theorem z3 {a:Addr}{ps:List PV}(hm:At X σ a (az ps)) (hn:ps.length≤16777216) (us:List Value) (h:cu [.ref a] us):jP prog w X (call (.builtin "len") us) ρ σ (.int ps.length):=fun s I=>by
 refine aF h.one fun u ah hu=> ?_;subst ah
 revert h;refine vR hu fun h=> ?_
 refine aF (hm.obj I) fun o ho po=> ?_
 refine aF (po.list ho) fun vs de il=> ?_
 refine len_list il (by rw[List.size_toArray,←de.length];exact Ö hn) ?_
 rw[List.size_toArray,←de.length];exact⟨.int _ _,I.tick _⟩
noncomputable def aG (l:List (List Nat)):List PV:=l.map .str
theorem rq {l:List (List Nat)}{vs:List Value}(h:cu (aG l) vs):StrsAre vs (l.map mk):=by
 induction l generalizing vs with
 | nil=>cases h;exact .nil
 | cons x l ih=>cases h with | cons hx r=>refine vS hx fun t=> ?_;exact .cons _ _ (ih r)
def rW (x:List Nat) (l:List (List Nat)):List Nat:=(Txt.join (mk x) (l.map mk)).cps.toList
theorem Ir {a:Addr}{x:List Nat}{l:List (List Nat)}(hm:At X σ a (az (aG l))) (hn:(l.map (·.length)).sum+l.length*x.length≤16777216) (u:Value) (us:List Value) (hu:VR (.str x) u) (h:cu [.ref a] us):
  jP prog w X (call (.builtin "str.join") (u::us)) ρ σ (.str (rW x l)):=fun s I=>by
 refine vS hu fun t=> ?_
 refine aF h.one fun u ah hu=> ?_;subst ah
 revert h;refine vR hu fun h=> ?_
 refine aF (hm.obj I) fun o ho po=> ?_
 refine aF (po.list ho) fun vs de il=> ?_
 refine PyProof.Rows.join_list il (rq de) (by simpa [Function.comp_def,aA] using hn) fun t' k=>⟨?_,I.tick _⟩
 have e:Txt.join (mk x) (l.map mk)=mk (rW x l):=(i6 _).symm;rw[e];exact .str _ _
noncomputable def dK (l:List Int):List PV:=l.map .int
theorem rZ {l:List Int}{vs:List Value}(h:cu (dK l) vs):IntsAre vs l:=by
 induction l generalizing vs with
 | nil=>cases h;exact .nil
 | cons x l ih=>cases h with | cons hx r=>refine vI hx fun t=> ?_;exact .cons _ _ (ih r)
theorem lA {a:Addr}{l:List (List Nat)}{x:List Nat}(hm:At X σ a (az (aG l))):Cm prog w X .In (.str x) (.ref a) ρ σ (l.any (· ==x)):=fun u v h1 h2 s I=>by
 refine vS h1 fun t=> ?_;refine vR h2 ?_
 refine aF (hm.obj I) fun o ho po=> ?_
 refine aF (po.list ho) fun vs de il=> ?_
 have e:(l.map mk).any (· ==mk x)=l.any (· ==x):=by rw[List.any_map];exact List.any_congr rfl fun y=>mq _ _
 exact in_list_strs il (rq de) ⟨by rw[e],I⟩
end
section
variable {prog:Program}{w:World}{X:Cx}{ρ bC bI:Ro}{σ σ' aD:Led}{T:aX}{n:Nat}{R R':PV→Led→Prop}{K:PF→Ro→Led→Prop}
inductive Um (a:Addr) (Q P:Obj→Prop):Led→Led→Prop
 | here {r}:Um a Q P ((a,Q)::r) ((a,P)::r)
 | there {p r r'} (h:Um a Q P r r'):Um a Q P (p::r) (p::r')
theorem Um.us {a:Addr}{Q P:Obj→Prop}{σ σ'} (h:Um a Q P σ σ'):Us a P σ σ':=by
 induction h with | here=>exact .here | there h ih=>exact .there ih
theorem Um.mem {a:Addr}{Q P:Obj→Prop}{σ σ'} (h:Um a Q P σ σ'):(a,Q)∈σ:=by
 induction h with | here=>exact .head _ | there h ih=>exact .tail _ ih
theorem Um.Rf {a:Addr}{Q P:Obj→Prop}{σ σ'} (h:Um a Q P σ σ'):(a,P)∈σ':=by
 induction h with | here=>exact .head _ | there h ih=>exact .tail _ ih
theorem cw {x:Str}{c:Addr}{v₀:Option PV}{v:PV}{u:Value}(hf:X.env.scope.kind= .function) (hk:X.env.kindOf x=some .cell) (hc:X.env.cells.lookup x=some c) (hu:Um c (ae v₀) (ae (some v)) σ σ') (hv:VR v u):
  gb prog w X x u ρ σ ρ σ':=fun s I=>by
 refine DI (I.obj hu.mem) fun o GO ho h0 hd=> ?_
 refine wpAny_storeName_cell (v₀:=GO) hf hk hc ⟨o,ho,hd⟩ (fun h' hi hs=> ?_);refine aF hi fun o' ig tC=> ?_
 exact I.turn hu.us hs ig ⟨some u,.some hv,tC⟩
theorem dc {x:Str}{p pos:Pos}{e:Expr}(h:GE prog w X e ρ σ R) (k: ∀v σ',R v σ'→ ∃bC ak,(∀u,VR v u→gb prog w X x u ρ σ' bC ak)∧K .next bC ak)
  (hs:swapsWith e (some (.Name x p)) pos.line X.env=pure false:=by rfl):S1 prog w X (.Assign [.Name x p] e pos) ρ σ K:=fun s I=>
 wpAny_Assign_Name (wpAny_mono (h s I) (fun u s' q=>by
  refine jU q fun v σ' r hv I'=> ?_
  refine mO (k v σ' r) fun bC ak iL hk=> ?_
  exact wpAny_mono (iL u hv s' I') (fun U au q=>⟨_,_,_,hk,.next,q⟩) fun U U f=>f) fun U U f=>f) hs
theorem fu {e:Expr}{pos:Pos}(h:GE prog w X e ρ σ R) (k: ∀v σ',R v σ'→v= .none∧K .next ρ σ') (hi:interactive X.env=false:=by rfl) (hs:swapsWith e none pos.line X.env=pure false:=by rfl):S1 prog w X (.Expr e pos) ρ σ K:=fun s I=>
 wpAny_Expr (wpAny_mono (h s I) (fun u s' q=>by
  refine jU q fun v σ' r hv I'=> ?_
  refine bo (k v σ' r) fun ah hk=> ?_;subst ah
  refine vN hv ?_
  exact⟨_,_,_,hk,.next,I'⟩) fun U U f=>f) hi hs
noncomputable def Gm (prog:Program) (w:World) (X:Cx) (x:Str) (ρ:Ro) (σ:Led) (v:PV):Prop:=Ev prog w X (loadName X.env x) ρ σ fun u s'=>VR v u∧Inv X ρ σ s'
theorem fZ (Y:Lay X) {x:Str}{v:PV}(hm:(x,some v)∈ρ):Gm prog w X x ρ σ v:=fun s I=>by
 refine gS I.st fun m news F N R D=> ?_
 refine aF (R.get hm) fun u hu hv=> ?_
 have hk:=Y.ks x (I.ks ▸ List.mem_map_of_mem hm);exact wpAny_loadName_local Y.fn hk.1 (by rw[Y.loc];exact F.ns) hu ⟨hv,I⟩
noncomputable def Ph (prog:Program) (w:World) (X:Cx) (op:Operator) (a b:PV) (ρ:Ro) (σ:Led) (c:PV):Prop:= ∀u v,VR a u→VR b v→jP prog w X (inplaceOp op u v) ρ σ c
theorem oM {a b:Int}:Ph prog w X .Add (.int a) (.int b) ρ σ (.int (a+b)):=fun u v h1 h2 s I=>by refine vI h1 fun t=> ?_;refine vI h2 fun t=> ?_;exact PyProof.Rows.iadd_int ⟨.int _ _,I.tick _⟩
theorem Hs {a b:Int}:Ph prog w X .Sub (.int a) (.int b) ρ σ (.int (a-b)):=fun u v h1 h2 s I=>by refine vI h1 fun t=> ?_;refine vI h2 fun t=> ?_;exact PyProof.Rows.isub_int ⟨.int _ _,I.tick _⟩
theorem Ht {a b:List Nat}(hl:a.length+b.length≤16777216):Ph prog w X .Add (.str a) (.str b) ρ σ (.str (a++b)):=fun u v h1 h2 s I=>by
 refine vS h1 fun t=> ?_;refine vS h2 fun t=> ?_
 refine PyProof.Rows.iadd_str (fun t' tk=>⟨?_,I.tick _⟩) (by rw[aA,aA,sizeLine_eq];exact hl);have e:mk a++mk b=mk (a++b):=by
  show (⟨a.toArray++b.toArray⟩:Str)=⟨(a++b).toArray⟩;simp
 rw[e];exact .str _ _
theorem lS {x:Str}{p pos:Pos}{op:Operator}{e:Expr}{v₀ v c:PV}(h0:Gm prog w X x ρ σ v₀) (h:PE prog w X e ρ σ v) (Ea:Ph prog w X op v₀ v ρ σ c)
  (hs: ∀u,VR c u→gb prog w X x u ρ σ bC σ') (k:K .next bC σ'):S1 prog w X (.AugAssign (.Name x p) op e pos) ρ σ K:=fun s I=>
 wpAny_AugAssign_Name (wpAny_mono (h0 s I) (fun GO s₁ q=>wpAny_mono (h s₁ q.2) (fun u au dg=>wpAny_mono (Ea GO u q.1 dg.1 au dg.2) (fun r c6 rG=>
  wpAny_mono (hs r rG.1 c6 rG.2) (fun U jo Dt=>⟨_,_,_,k,.next,Dt⟩) fun U U f=>f) fun U U f=>f) fun U U f=>f) fun U U f=>f)
theorem z5 {a:Addr}{ps:List PV}{v:PV}(hm:Um a (az ps) (az (ps++[v])) σ σ') (hn:ps.length≤16777216) (u:Value) (us:List Value) (hu:VR (.ref a) u) (h:cu [v] us):
  VX prog w X (call (.builtin "list.append") (u::us)) ρ σ (fun r ak=>r= .none∧ak=σ'):=fun s I=>by
 refine vR hu ?_
 refine aF h.one fun u ah hu=> ?_;subst ah
 refine uj (I.obj hm.mem) fun vs nn ho de=> ?_
 refine append_at ho (fun h' D6 hD=>⟨.none,σ',⟨rfl,rfl⟩,.none,I.turn (tk:=s.toks) hm.us D6 hD ⟨vs++[u],_,de.append (.cons hu .nil),by rw[List.push_toArray]⟩⟩) ?_
 rw[List.size_toArray,←de.length];exact hn
theorem yX {a:Addr}{ps:List PV}(hm:(a,az ps)∈σ) {pl:Sem Bool}(u:Value) (s:Shared) (Q:Value×List Value→Shared→Prop) (hu:VR (.ref a) u) (I:Inv X ρ σ s) (hQ:Q (.builtin "list.append",[u]) s):
  wpAny (model prog w) X.A (getMethod u ("append":Str) pl) Q (fun U U=>False) s:=by
 revert hQ;refine vR hu fun hQ=> ?_
 refine gS I.st fun m news F N R D=> ?_
 refine uj (D.get hm) fun vs nn ho de=> ?_
 exact getMethod_append_N N ho hQ
theorem eY {x:Expr}{e:Expr}{apos p pos:Pos}{a:Addr}{ps:List PV}(hx:PE prog w X x ρ σ (.ref a)) (h:GE prog w X e ρ σ R)
  (k: ∀v σ',R v σ'→ ∃ak,Um a (az ps) (az (ps++[v])) σ' ak∧K .next ρ ak) (h0:(a,az ps)∈σ) (hn:ps.length≤16777216)
  {pl:Sem Bool}
  (hq:eval ((x.Attribute ("append":Str) apos).Call [e] [] p) X.env=(do let ov ←eval x X.env;standAt apos.atName;let fx ←holding [ov] (getMethod ov ("append":Str) pl);match fx with | (f,first)=>callWith p f first (backTo p (starEach [e] X.env)) []):=by rfl)
  (he:starEach [e] X.env=[(false,eval e X.env)]:=by rfl) (hi:interactive X.env=false:=by rfl):
  S1 prog w X (.Expr (.Call (.Attribute x ("append":Str) apos) [e] [] p) pos) ρ σ K:=
 fu (R:=fun v σ'=>v= .none∧K .next ρ σ') (lx (R:=fun v σ'=>v= .ref a∧σ'=σ) (aQ hx) (fun v Fp r=>by
  refine bo r fun ah e=> ?_;clear r;subst ah
  have e':=e.symm;subst e';refine⟨yX h0,_,PN h he,fun vs ak r u us hu ia=> ?_⟩;revert r;refine fun z0=>aF z0 fun v ah r=> ?_;clear z0;subst ah
  refine aF (k v ak r) fun aR hm hk=> ?_
  exact(z5 hm hn u us hu ia).mono fun v' gn q=>by refine bo q fun ah aU=> ?_;clear q;subst ah;subst aU;exact⟨rfl,hk⟩) hq (by rw[he];rfl)) (fun v σ' r=>r) hi
theorem KR {a:Addr}{ps:List PV}{i:Int}{v:PV}(hm:Um a (az ps) (az (ps.set i.toNat v)) σ σ') (h0:0≤i) (h1:i<ps.length) (hn:ps.length≤16777216) (u iu vu:Value) (hu:VR (.ref a) u) (hi:VR (.int i) iu) (hv:VR v vu):
  Ev prog w X (setItem u iu vu) ρ σ (fun U s'=>Inv X ρ σ' s'):=fun s I=>by
 refine vR hu ?_;refine vI hi fun t=> ?_
 refine uj (I.obj hm.mem) fun vs nn ho de=> ?_
 have hl:=de.length;refine ki_setAt (items:=vs.toArray) (n:=nn) ho h0 (EK h1 hn) (by rw[List.size_toArray];exact S3 h1 hl) ?_
 have q:=PySem.IsL.update (h:=s.heap) (l:=a) (items:=vs.toArray) (n:=nn) ho (fun xs=>xs.setIfInBounds i.toNat vu);have e:vs.toArray.setIfInBounds i.toNat vu=(vs.set i.toNat vu).toArray:=by simp
 rw[e] at q
 exact I.turn (tk:=s.toks) hm.us (Heap.SameBut.update ..) q ⟨vs.set i.toNat vu,_,de.set hv _,rfl⟩
theorem SM {a:Addr}{ps:List PV}{i:Int}{k:Nat}(hm:Um a (az ps) (az (ps.eraseIdx k)) σ σ') (h0: -9223372036854775808≤i) (h1:i<9223372036854775808) (hk:seqIndex? i ps.length=some k) (hn:ps.length≤16777216) (u iu:Value) (hu:VR (.ref a) u) (hi:VR (.int i) iu):
  Ev prog w X (delItem u iu) ρ σ (fun U s'=>Inv X ρ σ' s'):=fun s I=>by
 refine vR hu ?_;refine vI hi fun t=> ?_
 refine uj (I.obj hm.mem) fun vs nn ho de=> ?_
 have hl:=de.length;refine P.delItem_list (items:=vs.toArray) (n:=nn) ho (by unfold Builtin.List.listFitsIndex;simp only[Bool.and_eq_true,decide_eq_true_eq];exact Ŷ h0 h1) (by rw[List.size_toArray,←hl];exact hk) ?_ (by rw[List.size_toArray,←hl,sizeLine_eq];exact hn);have q:=PySem.IsL.update (h:=s.heap) (l:=a) (items:=vs.toArray) (n:=nn) ho (fun xs=>xs.eraseIdxIfInBounds k);have e:vs.toArray.eraseIdxIfInBounds k=(vs.eraseIdx k).toArray:=by simp
 rw[e] at q
 exact I.turn (tk:=s.toks) hm.us (Heap.SameBut.update ..) q ⟨vs.eraseIdx k,_,de.erase _,rfl⟩
end
local macro_rules | `(tactic| trivial)=> `(tactic| (repeat first | exact Um.here | apply Um.there);done)
section
variable {prog:Program}{w:World}{X:Cx}{ρ bC bI:Ro}{σ σ' aD:Led}{T:aX}{n:Nat}{R R':PV→Led→Prop}{K:PF→Ro→Led→Prop}
theorem nZ {k:Nat}{xs:Nat→PV}{It:Addr→Nat→Obj→Prop}{S:Led→Prop}(Sq:jO prog w k xs It S) (hh:X.A.handled=none) (hS:S σ) {I:Addr}:
  ∀(n i:Nat) (s:Shared),i+n≤k→Inv X ρ ((I,It I i)::σ) s→wpAny (model prog w) X.A (draw (.ref I) n) (fun us s'=>cu ((List.range n).map fun j=>xs (i+j)) us∧Inv X ρ ((I,It I (i+n))::σ) s') (fun U U=>False) s
 | 0,i,s,_,Is=>by
  show wpAny _ _ (pure []) _ _ s;exact wpAny_pure ⟨.nil,Is⟩
 | n+1,i,s,hle,Is=>by
  show wpAny _ _ (pyNext (.ref I) >>= _) _ _ s;refine wpAny_bind (wpAny_mono (Sq.nx X I i σ hh (VV hle) hS ρ s Is) (fun r s₁ q=> ?_) fun U U f=>f);refine gR q fun u ah hv aS=> ?_;clear q;subst ah
  refine wpAny_bind (wpAny_holding (wpAny_mono (nZ Sq hh hS n (i+1) s₁ (VZ hle) aS) (fun us au q=>wpAny_pure ?_) fun U U f=>f));refine bo q fun de aH=> ?_
  refine⟨?_,by rw[show i+(n+1)=i+1+n by exact VY hle];exact aH⟩;rw[List.range_succ_eq_map,List.map_cons,List.map_map];refine .cons (by simpa using hv) ?_
  have e:((fun j=>xs (i+j))∘Nat.succ)=fun j=>xs (i+1+j):=by funext j;show xs (i+(j+1))=_;congr 1;exact Ua hle
  rw[e];exact de
theorem range_getD (ps:List PV):((List.range ps.length).map fun j=>ps.getD (0+j) .none)=ps:=by
 apply List.ext_getElem
 ·simp
 ·intro i h1 h2;simp only[List.length_map,List.length_range] at h1
  simp[List.getD_eq_getElem?_getD,List.getElem?_eq_getElem h1]
noncomputable def PO (prog:Program) (w:World) (X:Cx) (a:Addr) (ps:List PV) (ρ:Ro) (σ:Led):Prop:=Ev prog w X (unpackItems (.ref a) ps.length none) ρ σ fun us s'=>cu ps us∧Inv X ρ σ s'
theorem CX {a:Addr}{ps:List PV}(hh:X.A.handled=none) (hm:(a,az ps)∈σ):PO prog w X a ps ρ σ:=fun s I=>by
 refine aF (I.obj hm) fun o ho po=> ?_
 refine aF (po.list ho) fun vs de il=> ?_
 unfold unpackItems;refine wpAny_bind ?_
 unfold notIterableAtAll;refine wpAny_bind (wpAny_specialOf il.typeIs slot_list_iter.lookup ?_);refine wpAny_pure ?_
 simp only[Bool.false_eq_true,if_false]
 have Sq:=dq (prog:=prog) (w:=w) (ax:=a) (ps:=ps) (S:=fun σ=>(a,az ps)∈σ) fun U h=>h
 refine wpAny_bind (wpAny_holding (wpAny_pyIter_list il ?_));have aS:=I.push (P:=uw a s.heap.objs.size 0) (o:={cls:=.type "list_iterator",data:=.fields #[.ref a,.int 0 0]}) ⟨rfl,rfl⟩ rfl (tk:=s.toks);refine wpAny_bind (wpAny_holding (wpAny_mono (nZ Sq hh hm ps.length 0 _ ŏ aS) (fun us au q=> ?_) fun U U f=>f));refine bo q fun ia aH=> ?_
 rw[range_getD] at ia
 rw[if_neg (by rw[←ia.length];exact ZO)];refine wpAny_bind (wpAny_holding (wpAny_mono (Sq.nd X _ σ hh hm ρ au (by rw[Nat.zero_add] at aH;exact aH)) (fun r c6 q=> ?_) fun U U f=>f));refine bo q fun ah cg=> ?_;clear q;subst ah
 simp only[Option.isSome_none,Bool.false_eq_true,if_false]
 exact wpAny_pure ⟨ia,cg⟩
theorem fz {a:Addr}{ps:List PV}(hh:X.A.handled=none) (hm:(a,gG ps)∈σ):PO prog w X a ps ρ σ:=fun s I=>by
 refine aF (I.obj hm) fun o ho po=> ?_
 refine aF (po.tuple ho) fun vs de it=> ?_
 have e:ps.length=vs.toArray.size:=by rw[List.size_toArray,de.length]
 rw[e];refine wpAny_unpackItems_tuple hh it fun h' hx=>⟨de,I.ext (tk:=s.toks) fun b o e=>hx b o (Nat.ne_of_lt (Heap.lt_size e)) e⟩
noncomputable def O8 (prog:Program) (w:World) (X:Cx) (ts:List (Value→Sem Unit)) (ps:List PV) (ρ:Ro) (σ:Led) (K:Ro→Led→Prop):Prop:=
 ∀us,cu ps us→Ev prog w X (assignInOrder ts us) ρ σ fun U s'=> ∃bC σ',K bC σ'∧Inv X bC σ' s'
theorem gV {Kn:Ro→Led→Prop}(h:Kn ρ σ):O8 prog w X [] [] ρ σ Kn:=fun us hu s I=>by
 show wpAny _ _ (pure ()) _ _ s;exact wpAny_pure ⟨_,_,h,I⟩
theorem cD {t:Value→Sem Unit}{ts:List (Value→Sem Unit)}{p:PV}{ps:List PV}{Kn:Ro→Led→Prop}(h: ∀u,VR p u→Ev prog w X (t u) ρ σ fun U s'=>Inv X bI aD s') (hr:O8 prog w X ts ps bI aD Kn):
  O8 prog w X (t::ts) (p::ps) ρ σ Kn:=fun us hu s I=>by
 cases hu with
 | cons h1 h2=>
  show wpAny _ _ (do holding _ (t _);assignInOrder ts _) _ _ s;exact wpAny_bind (wpAny_holding (wpAny_mono (h _ h1 s I) (fun U s₁ aS=>hr _ h2 s₁ aS) fun U U f=>f))
theorem fR {x:Str}{p:Pos}{v:PV}(h: ∀u,VR v u→gb prog w X x u ρ σ bC σ') (u:Value) (hu:VR v u):Ev prog w X (assign (.Name x p) X.env u) ρ σ fun U s'=>Inv X bC σ' s':=fun s I=>wpAny_assign_Name (h u hu s I)
theorem fq {x:Str}{v:PV}(h: ∀u,VR v u→gb prog w X x u ρ σ bC σ') (u:Value) (hu:VR v u):Ev prog w X (bindName X.env x u) ρ σ fun U s'=>Inv X bC σ' s':=fun s I=>wpAny_bindName (h u hu s I)
theorem iG {elts:List Expr}{k:Nat}{tU pos:Pos}{value:Expr}{ts:List (Value→Sem Unit)}(h:GE prog w X value ρ σ R)
  (hk: ∀v σ',R v σ'→ ∃a ps,v= .ref a∧PO prog w X a ps ρ σ'∧ps.length=ts.length∧O8 prog w X ts ps ρ σ' (fun bC σ'=>K .next bC σ'))
  (he:assignEach elts X.env=ts.map fun t=>(false,t))
  (hs:swapsWithSole [.Tuple elts k tU] value pos.line X.env=pure false:=by rfl)
  (hw:swappedStores [.Tuple elts k tU] value X.env=pure none:=by rfl):S1 prog w X (.Assign [.Tuple elts k tU] value pos) ρ σ K:=fun s I=>
 Assign_Tuple (wpAny_mono (h s I) (fun u s₁ q=>by
  refine jU q fun v σ' r hv aS=> ?_
  refine gS (hk v σ' r) fun a ps ah hu hl ht=> ?_;subst ah
  refine vR hv ?_
  rw[assign_Tuple];refine wpAny_bind (wpAny_standAt ?_);unfold unpack;rw[he,List.map_map];have e1:(ts.map fun t=>(false,t)).length=ps.length:=by rw[List.length_map,hl]
  have e2:(ts.map fun t=>(false,t)).findIdx? (·.1)=none:=by rw[List.findIdx?_eq_none_iff];intro x hx;refine aF (List.mem_map.mp hx) fun t U ah=> ?_;subst ah;rfl
  rw[e1,e2];refine wpAny_bind (wpAny_holding (wpAny_mono (hu s₁ aS) (fun us au q=> ?_) fun U U f=>f));refine bo q fun ia aH=> ?_
  have e3:(Prod.snd∘fun t:Value→Sem Unit=>(false,t))=id:=rfl;rw[e3,List.map_id];exact wpAny_mono (ht us ia au aH) (fun U c6 q=>by refine mO q fun bC σ' hk cg=> ?_;exact⟨_,_,_,hk,.next,cg⟩) fun U U f=>f) fun U U f=>f) hs hw
theorem fX {elts:List Expr}{k:Nat}{tU pos:Pos}{value:Expr}{names:List Str}(h:GE prog w X value ρ σ R)
  (hk: ∀v σ',R v σ'→ ∃a ps,v= .ref a∧PO prog w X a ps ρ σ'∧ps.length=names.length∧O8 prog w X (names.reverse.map fun n=>bindName X.env n) ps.reverse ρ σ' (fun bC σ'=>K .next bC σ'))
  (hs:swapsWithSole [.Tuple elts k tU] value pos.line X.env=pure false:=by rfl)
  (hw:swappedStores [.Tuple elts k tU] value X.env=pure (some names):=by rfl):S1 prog w X (.Assign [.Tuple elts k tU] value pos) ρ σ K:=fun s I=>
 Assign_Tuple_swapped (names:=names) (wpAny_mono (h s I) (fun u s₁ q=>by
  refine jU q fun v σ' r hv aS=> ?_;clear q
  refine gS (hk v σ' r) fun a ps ah hu hl ht=> ?_;subst ah
  refine vR hv ?_
  rw[←hl];refine wpAny_mono (hu s₁ aS) (fun us au q=> ?_) fun U U f=>f
  refine bo q fun ia aH=> ?_;clear q
  have RE:cu ps.reverse us.reverse:=by
   clear ht hl hu
   induction ia with
   | nil=>exact .nil
   | cons h r ih=>simp only[List.reverse_cons];exact(ih).append (.cons h .nil)
  exact wpAny_mono (ht _ RE au aH) (fun U c6 q=>by refine mO q fun bC σ' hk cg=> ?_;clear q;exact⟨_,_,_,hk,.next,cg⟩) fun U U f=>f) fun U U f=>f) hs hw
theorem yD {test:Expr}{body orelse:List Stmt}{pos:Pos}(J:Nat→Ro→Led→Prop) (m:Nat) (h0:J m ρ σ)
  (hb: ∀m ρ σ,J m ρ σ→ ∃b,BE prog w X test ρ σ b∧(b=true→SE prog w X body ρ σ (jR K fun eJ ak=> ∃m' aR,m'<m∧J m' eJ aR∧aR.Sublist ak))∧(b=false→SE prog w X orelse ρ σ K)):
  S1 prog w X (.While test body orelse pos) ρ σ K:=fun s I=>by
 refine wpAny_While (codeAny_whileLoop (fun m s=> ∃ρ σ,J m ρ σ∧Inv X ρ σ s) (fun m s q=> ?_) m ⟨ρ,σ,h0,I⟩);refine mO q fun bI aD hJ aS=> ?_
 refine gR (hb m bI aD hJ) fun b ht h1 h2=> ?_
 refine wpAny_mono (ht s aS) (fun c au q=> ?_) fun U U f=>f.elim
 refine bo q fun ah aH=> ?_;clear q;subst ah
 cases c with
 | true=>
  rw[if_pos rfl];refine wpAny_mono (h1 rfl au aH) (fun fl c6 q=> ?_) fun U U f=>f.elim
  refine DH q fun f kB aR hK zh cg=> ?_
  cases zh with
  | next=>refine jU hK fun m' gn hm uD hs=> ?_;exact⟨m',hm,kB,gn,uD,cg.sub hs⟩
  | cont=>refine jU hK fun m' gn hm uD hs=> ?_;exact⟨m',hm,kB,gn,uD,cg.sub hs⟩
  | brk=>exact⟨_,_,_,hK,.next,cg⟩
  | ret h=>exact⟨_,_,_,hK,.ret h,cg⟩
 | false=>
  rw[if_neg dC];exact wpAny_mono (h2 rfl au aH) (fun fl c6 q=>q) fun U U f=>f.elim
theorem Df {x i e:Expr}{jZ pos:Pos}{a:Addr}{ps:List PV}{k:Int}{v:PV}(he:PE prog w X e ρ σ v) (hx:PE prog w X x ρ σ (.ref a)) (hi:PE prog w X i ρ σ (.int k)) (h0:0≤k) (h1:k<ps.length) (hn:ps.length≤16777216)
  (hm:Um a (az ps) (az (ps.set k.toNat v)) σ σ') (hk:K .next ρ σ') (hs:swapsWith e (some (x.Subscript i jZ)) pos.line X.env=pure false:=by rfl):S1 prog w X (.Assign [.Subscript x i jZ] e pos) ρ σ K:=fun s I=>
 wpAny_Assign_Subscript (wpAny_mono (he s I) (fun vu s₁ q₁=>wpAny_mono (hx s₁ q₁.2) (fun u au dg=>wpAny_mono (hi au dg.2) (fun iu c6 rG=>
  wpAny_mono (KR hm h0 h1 hn u iu vu dg.1 rG.1 q₁.1 c6 rG.2) (fun U jo kA=>⟨_,_,_,hk,.next,kA⟩) fun U U f=>f) fun U U f=>f) fun U U f=>f) fun U U f=>f) hs
theorem zv {a:Addr}{ps:List PV}{i:Int}{p:PV}(hm:At X σ a (az ps)) (h0: -(ps.length:Int)≤i) (h1:i<ps.length) (hn:ps.length≤16777216) (hp:cB ps i=p) (u iu:Value) (hu:VR (.ref a) u) (hi:VR (.int i) iu):jP prog w X (getItem u iu) ρ σ p:=fun s I=>by
 refine vR hu ?_;refine vI hi fun t=> ?_
 refine aF (hm.obj I) fun o ho po=> ?_
 refine aF (po.list ho) fun vs de il=> ?_
 subst hp;have hlen:=de.length;by_cases ja:i<0
 ·obtain⟨u,hu,r⟩:=de.m5 (i:=(i+ps.length).toNat) (p:=cB ps i) (by
   unfold cB;rw[if_pos ja,List.getD_eq_getElem?_getD,List.getElem?_eq_getElem (II h0 ja)];rfl)
  exact wpAny_getItem_list_neg il ja (by simp;exact M3 h0 hlen) (MZ h0 hn) (x:=u) (by simpa [←hlen] using hu) ⟨r,I⟩
 ·obtain⟨u,hu,r⟩:=de.m5 (i:=i.toNat) (p:=cB ps i) (by
   unfold cB;rw[if_neg ja,List.getD_eq_getElem?_getD,List.getElem?_eq_getElem (IH h0 h1)];rfl)
  exact wpAny_getItem_list il (OM ja) (EK h1 hn) hu ⟨r,I⟩
theorem Dj {x i e:Expr}{jZ pos:Pos}{op:Operator}{a:Addr}{ps:List PV}{k:Int}{p v c:PV}(hx:PE prog w X x ρ σ (.ref a)) (hi:PE prog w X i ρ σ (.int k)) (he:PE prog w X e ρ σ v) (h0:0≤k) (h1:k<ps.length) (hn:ps.length≤16777216)
  (hp:cB ps k=p) (Ea:Ph prog w X op p v ρ σ c) (hm:Um a (az ps) (az (ps.set k.toNat c)) σ σ') (hk:K .next ρ σ')
  (hs: ∀ov iv new,augStore i ov iv new=(do holding [new,ov,iv] (setItem ov iv new);release [new,ov,iv] [];pure .next):=by intros;rfl):S1 prog w X (.AugAssign (.Subscript x i jZ) op e pos) ρ σ K:=fun s I=>
 wpAny_AugAssign_SubscriptAny (wpAny_mono (hx s I) (fun u s₁ q₁=>wpAny_mono (hi s₁ q₁.2) (fun iu au dg=>wpAny_mono (zv (.inl hm.mem) (Ũ h0) h1 hn hp u iu q₁.1 dg.1 au dg.2) (fun ou c6 rG=>
  wpAny_mono (he c6 rG.2) (fun vu jo Dt=>wpAny_mono (Ea ou vu rG.1 Dt.1 jo Dt.2) (fun r gX KY=>wpAny_mono (KR hm h0 h1 hn u iu r q₁.1 dg.1 KY.1 gX KY.2) (fun U mS aah=>⟨_,_,_,hk,.next,aah⟩)
   fun U U f=>f) fun U U f=>f) fun U U f=>f) fun U U f=>f) fun U U f=>f) fun U U f=>f) hs
theorem vm {x i:Expr}{jZ pos:Pos}{a:Addr}{ps:List PV}{j:Int}{k:Nat}(hx:PE prog w X x ρ σ (.ref a)) (hi:PE prog w X i ρ σ (.int j)) (h0: -9223372036854775808≤j) (h1:j<9223372036854775808) (hj:seqIndex? j ps.length=some k) (hn:ps.length≤16777216)
  (hm:Um a (az ps) (az (ps.eraseIdx k)) σ σ') (hk:K .next ρ σ'):S1 prog w X (.Delete [.Subscript x i jZ] pos) ρ σ K:=fun s I=>by
 refine wpAny_Delete (wpAny_deleteEach_cons ?_);rw[arm_delete_Subscript];refine wpAny_bind (wpAny_mono (hx s I) (fun u s₁ q₁=>wpAny_bind (wpAny_holding (wpAny_mono (hi s₁ q₁.2) (fun iu au dg=> ?_) fun U U f=>f))) fun U U f=>f);refine wpAny_bind (wpAny_standAt ?_);refine wpAny_bind (wpAny_holding (wpAny_mono (SM hm h0 h1 hj hn u iu q₁.1 dg.1 au dg.2) (fun U c6 cg=> ?_) fun U U f=>f));exact wpAny_release (wpAny_deleteEach_nil ⟨_,_,_,hk,.next,cg⟩)
def j0 (x y:List Nat):List (List Nat):=(Txt.split (mk x) (mk y)).map fun s=>s.cps.toList
theorem rd: ∀(l:List (Str×Tok)),cu (aG (l.map fun p=>p.1.cps.toList)) (strValues l)
 | []=>.nil
 | (x,t)::r=>.cons (by
   show VR (.str x.cps.toList) (.str x t)
   have:=VR.str x.cps.toList t
   rwa [i6] at this) (rd r)
theorem EE {x y:List Nat}(hy:y≠[]) (hn:x.length≤16777000) (u:Value) (us:List Value) (hu:VR (.str x) u) (h:cu [.str y] us):Gl prog w X (call (.builtin "str.split") (u::us)) ρ σ (az (aG (j0 x y))):=fun s I=>by
 refine vS hu fun t=> ?_
 refine aF h.one fun u ah hu=> ?_;subst ah
 revert h;refine vS hu fun t h=> ?_
 refine gS I.st fun m news F N R D=> ?_
 refine splitN1 F N (by rw[aA];cases y with | nil=>exact absurd rfl hy | cons a r=>rfl) (fun l h' k hl F' N'=>⟨_,rfl,⟨m,_,F',N',R,.cons ⟨strValues l,0,?_,rfl⟩ D⟩,?_,I.ks,I.kn,I.gens,I.os⟩) (by rw[aA,sizeLine_eq];exact Ù hn)
 ·have e:j0 x y=l.map fun p=>p.1.cps.toList:=by
   unfold j0;rw[←hl,List.map_map];rfl
  rw[e];exact rd l
 ·exact(I.push (P:=az []) (o:={cls:=.type "list",data:=.seq ([]:List Value).toArray}) ⟨[],0,.nil,rfl⟩ rfl (tk:=s.toks)).nd
end
noncomputable def bodyOf:Stmt→List Stmt | .FunctionDef _ _ b .. =>b | .ClassDef _ _ _ b .. =>b | _=>[]
noncomputable def dh:Stmt→Arguments | .FunctionDef _ a .. =>a | _=>{posonlyargs:=[],args:=[],vararg:=none,kwonlyargs:=[],kw_defaults:=[],kwarg:=none,defaults:=[]}
noncomputable def ao:Stmt→Scope | .FunctionDef _ _ _ _ _ _ s .. =>s | .ClassDef _ _ _ _ _ _ s .. =>s | _=>default
noncomputable def cx (l:List Stmt) (i:Nat):Stmt:=(l.drop i).headD (.Pass default)
structure dS (T:aX) (name qual:Str) (st:Stmt) (fa:Addr):Prop where
 get: ∃fo kV doc pm bu ct an,T.K.lookup fa=some fo∧fo.data= .func (fnX name qual (dh st) (bodyOf st) (ao st) [] .none kV doc pm an bu ct)∧codeIn T.K bu qual=true
theorem dS.isFn {T:aX}{name qual:Str}{st:Stmt}{fa:Addr}(D:dS T name qual st fa):Bh T fa:=⟨fun X n O=>by
 refine oBe D.get fun fo kV doc pm bu ct an h1 h2 h3=> ?_
 exact⟨fo,_,O.top _ _ h1,h2⟩⟩
section
variable {prog:Program}{w:World}{T:aX}{n:Nat}
theorem w8 {fa:Addr}{name qual:Str}{st:Stmt}(D:dS T name qual st fa) {args:List PV}{σ:Led}{R:PV→Led→Prop}(names rest:List Str)
  (hb: ∀kV doc pm an bu ct,∀us:List Value,us.length=names.length→bindArgs (fnX name qual (dh st) (bodyOf st) (ao st) [] .none kV doc pm an bu ct) ⟨us,[]⟩=pure (names.zip us))
  (zf:(names++rest).Nodup) (jb:mw (ao st) (names++rest)=true) (gx:args.length=names.length)
  (bM: ∀x∈(ao st).names,x.2≠ .cell) (wU:(ao st).isCoroutine=false) (mB:(ao st).isGenerator=false) (hk:(ao st).kind= .function)
  (h: ∀A L g os bu,cU T n ⟨A,envX qual (ao st) L fa bu [],L,L,g,os,names++rest⟩→Lay ⟨A,envX qual (ao st) L fa bu [],L,L,g,os,names++rest⟩→
   SE prog w ⟨A,envX qual (ao st) L fa bu [],L,L,g,os,names++rest⟩ (bodyOf st) (init names args rest) σ fun f U σ'=>R f.val σ'):Fn prog w T (n+1) (.ref fa) args σ R:=by
 refine oBe D.get fun fo kV doc pm bu ct an h1 h2 h3=> ?_
 refine zH names rest h1 h2 h3 (fun us hl s=>BindsTo.of_eq (hb _ _ _ _ _ _ us hl)) zf jb gx bM wU mB hk (fun X O Y HD he gy=> ?_);obtain⟨A,env,L,FL,g,os,ks⟩:=X;dsimp only at HD he gy
 subst he;subst HD;subst gy;exact h A _ g os bu O Y
theorem fG {fa:Addr}{name qual:Str}{st:Stmt}(D:dS T name qual st fa) {args:List PV}{v:PV}(names rest:List Str)
  (hb: ∀kV doc pm an bu ct,∀us:List Value,us.length=names.length→bindArgs (fnX name qual (dh st) (bodyOf st) (ao st) [] .none kV doc pm an bu ct) ⟨us,[]⟩=pure (names.zip us))
  (zf:(names++rest).Nodup) (jb:mw (ao st) (names++rest)=true) (gx:args.length=names.length)
  (bM: ∀x∈(ao st).names,x.2≠ .cell) (wU:(ao st).isCoroutine=false) (mB:(ao st).isGenerator=false) (hk:(ao st).kind= .function)
  (h: ∀A L g os bu σ,cU T n ⟨A,envX qual (ao st) L fa bu [],L,L,g,os,names++rest⟩→Lay ⟨A,envX qual (ao st) L fa bu [],L,L,g,os,names++rest⟩→
   SE prog w ⟨A,envX qual (ao st) L fa bu [],L,L,g,os,names++rest⟩ (bodyOf st) (init names args rest) σ fun f U σ'=>f.val=v∧σ.Sublist σ'):tm prog w T (n+1) (.ref fa) args v:=
 Er fun σ=>w8 D names rest hb zf jb gx bM wU mB hk fun A L g os bu O Y=>h A L g os bu σ O Y
end
noncomputable def r7:Nat→Nat→List Nat
 | 0,_=>[]
 | k+1,n=>if n=0 then [] else r7 k (n/16)++[n%16]
def ic (n:Nat):List Nat:=r7 n n
theorem eG:ic 0=[]:=rfl
theorem Ee (k:Nat): ∀{m n:Nat},n≤k→n≤m→r7 k n=r7 m n:=by
 induction k with
 | zero=>intro m n h _;rw[Nat.le_zero.mp h];cases m<;>rfl
 | succ k ih=>
  intro m n h g;by_cases e:n=0
  ·rw[e];cases m<;>rfl
  ·cases m with
   | zero=>exact absurd (Nat.le_zero.mp g) e
   | succ m=>
    have l: ∀{k},n≤k+1→n/16≤k:=fun h=>Nat.le_of_lt_succ (Nat.lt_of_lt_of_le (Nat.div_lt_self (Nat.pos_of_ne_zero e) dC) h)
    show (if n=0 then [] else r7 k (n/16)++[n%16])=if n=0 then [] else r7 m (n/16)++[n%16]
    rw[if_neg e,if_neg e,ih (l h) (l g)]
section
variable {prog:Program}{w:World}{X:Cx}{ρ bC bI:Ro}{σ σ' aD:Led}{T:aX}{n:Nat}{R R':PV→Led→Prop}{K:PF→Ro→Led→Prop}
theorem rI (b:List UInt8) (lo hi:Option Int):KBy.picked b.toArray lo hi=(sl b lo hi).toArray:=by
 rw[KBc.picked_eq];unfold sl;simp
theorem nL {v:Expr}{l u:Option Expr}{p pos:Pos}{a:List UInt8}{lo hi:Option Int}(hv:PE prog w X v ρ σ (.bytes a)) (hl:xJ prog w X l ρ σ lo) (hu:xJ prog w X u ρ σ hi) (hn:a.length≤16777216)
  (ht: ∀x r,letTemporaryGo v (.bytes x 0) r=pure ():=by intro _ _;rfl):PE prog w X (.Subscript v (.Slice l u none p) pos) ρ σ (.bytes (sl a lo hi)):=fun s I=>by
 refine PyProof.Rows.Subscript_ (wpAny_mono (hv s I) (fun x s₁ q=> ?_) fun U U f=>f);refine bo q fun h1 aS=> ?_
 cases h1 with
 | bytes _ t=>
 refine wpAny_Slice (wpAny_mono (hl s₁ aS) (fun vl au q=>wpAny_mono (hu au q.2) (fun vu c6 q'=> ?_) fun U U f=>f) fun U U f=>f);refine bo q fun pl aH=> ?_
 refine bo q' fun pu cg=> ?_
 rw[evalPart_none];refine wpAny_pure ?_
 refine gS cg.st fun m news F N R D=> ?_
 have df: ∀r,letTemporaryGo v (.bytes a.toArray t) r=pure ():=fun r=>by have:=ht a.toArray r;cases v<;>first | rfl | exact this
 refine KBc.slice_K F N (ks:=a.map fun c=>(c.toNat:Int)) (KBw.ints_list a) pl pu (by simpa using hn) (fun h' t' k F' N' U=> ?_) rfl df;rw[rI];exact⟨.bytes _ _,cg.heap R D F' N'⟩
theorem DE {l r:Expr}{pos:Pos}{a b:List UInt8}(hl:PE prog w X l ρ σ (.bytes a)) (hr:PE prog w X r ρ σ (.bytes b)) (h:a.length+b.length≤16777216):PE prog w X (.BinOp l .Add r pos) ρ σ (.bytes (a++b)):=
 g8 hl hr fun U U dk gL U I=>by
  refine vY dk fun t=> ?_;refine vY gL fun t=> ?_
  exact bytes_add_K (by simpa using h) rfl fun t' k=>⟨.bytes _ _,I.tick _⟩
theorem Il {a b:List UInt8}:Cm prog w X .Eq (.bytes a) (.bytes b) ρ σ (a==b):=fun u v h1 h2 s I=>by refine vY h1 fun t=> ?_;refine vY h2 fun t=> ?_;exact eq_bytes ⟨by simp,I⟩
theorem MT {a:Int}(us:List Value) (h:cu [.int a] us):jP prog w X (call (.type "int") us) ρ σ (.int a):=fun s I=>by
 refine aF h.one fun u ah hu=> ?_;subst ah
 revert h;refine vI hu fun t h=> ?_
 exact call_int_int ⟨.int _ _,I⟩
theorem z4 {a b:Int}(hb:b≠0) (hp:Builtin.divisionGoesByPylong a b=false) (us:List Value) (h:cu [.int a,.int b] us):Gl prog w X (call (.builtin "divmod") us) ρ σ (gG [.int (a.fdiv b),.int (a.fmod b)]):=fun s I=>by
 refine uk h.two fun u v ah hu hv=> ?_;subst ah
 revert h;refine vI hu fun t h=> ?_;revert h;refine vI hv fun t h=> ?_
 refine gS I.st fun m news F N R D=> ?_
 refine divmod_N F N hb (fun h' F' N'=>⟨_,rfl,⟨m,_,F',N',R,.cons ⟨_,_,.cons (.int _ _) (.cons (.int _ _) .nil),rfl⟩ D⟩,?_,I.ks,I.kn,I.gens,I.os⟩) (.inl hp)
 exact(I.push (P:=az []) (o:={cls:=.type "list",data:=.seq ([]:List Value).toArray}) ⟨[],0,.nil,rfl⟩ rfl (tk:=s.toks)).nd
theorem wF {x:Str}{p pos:Pos}{args:List Expr}{id:String}{vs:List PV}{P:Obj→Prop}(hf:XE prog w X (.Name x p) ρ σ (.builtin id)) (ha:AE prog w X args pos ρ σ vs)
  (hc: ∀us,cu vs us→Gl prog w X (call (.builtin id) us) ρ σ P) (hp:(backTo pos (starEach args X.env)).any (·.1)=false:=by rfl):NE prog w X (.Call (.Name x p) args [] pos) ρ σ P:=
 nX hf (bO ha) (fun CW σ' r us hv=>by refine bo r fun ah e=> ?_;clear r;subst ah;have e':=e.symm;subst e';exact hc us hv) hp
theorem gv {a b:Int}(h:b.natAbs<1073741824):Builtin.divisionGoesByPylong a b=false:=PyProof.noPylong_small h
end
noncomputable def aB (x:List Nat):List (List Nat)→List Nat
 | []=>[]
 | [a]=>a
 | a::b::r=>a++x++aB x (b::r)
theorem mx (x:List Nat): ∀l,rW x l=aB x l:=by
 intro l;have key: ∀l:List (List Nat),(Str.join (mk x) (l.map mk))=mk (aB x l):=by
  intro l
  induction l with
  | nil=>rfl
  | cons a r ih=>
   cases r with
   | nil=>rfl
   | cons b r=>
    show mk a++mk x++Str.join (mk x) (mk b::r.map mk)=mk (a++x++aB x (b::r));have ih':Str.join (mk x) (mk b::r.map mk)=mk (aB x (b::r)):=ih;rw[ih'];show (⟨(a.toArray++x.toArray)++(aB x (b::r)).toArray⟩:Str)=⟨(a++x++aB x (b::r)).toArray⟩;simp
 unfold rW;have e:Txt.join (mk x) (l.map mk)=Str.join (mk x) (l.map mk):=StrLaws.glued_eq_join _ _;rw[e,key]
theorem dN: ∀l,aB [] l=l.flatten
 | []=>rfl
 | [a]=>by simp[aB]
 | a::b::r=>by
  have:=dN (b::r)
  simp only[aB,this]
  simp
section
variable {prog:Program}{w:World}{X:Cx}{ρ bC bI:Ro}{σ σ' aD:Led}{T:aX}{n:Nat}{R R':PV→Led→Prop}{K:PF→Ro→Led→Prop}
theorem lg {x e:Expr}{apos p:Pos}{sep:List Nat}{l:List (List Nat)}{pl:Sem Bool}(hx:PE prog w X x ρ σ (.str sep)) (h:GE prog w X e ρ σ R) (hR: ∀v σ',R v σ'→ ∃a,v= .ref a∧(a,az (aG l))∈σ'∧σ.Sublist σ')
  (hn:(l.map (·.length)).sum+l.length*sep.length≤16777216)
  (hq:eval ((x.Attribute ("join":Str) apos).Call [e] [] p) X.env=(do let ov ←eval x X.env;standAt apos.atName;let fx ←holding [ov] (getMethod ov ("join":Str) pl);match fx with | (f,first)=>callWith p f first (backTo p (starEach [e] X.env)) []):=by rfl)
  (he:starEach [e] X.env=[(false,eval e X.env)]:=by rfl):
  PE prog w X (.Call (.Attribute x ("join":Str) apos) [e] [] p) ρ σ (.str (aB sep l)):=
 ir (R:=fun v σ'=>v= .str (aB sep l)∧σ.Sublist σ') (lx (R:=fun v σ'=>v= .str sep∧σ'=σ) (aQ hx) (fun v Fp r=>by
  refine bo r fun ah e=> ?_;clear r;subst ah
  have e':=e.symm;subst e';refine⟨rP (fun x t s pl Q h=>GM.join h) _,_,PN h he,fun vs ak r u us hu ia=> ?_⟩;revert r;refine fun z0=>aF z0 fun v ah r=> ?_;clear z0;subst ah
  refine gR (hR v ak r) fun a ah hm hs=> ?_;subst ah
  refine(jj (Ir (.inl hm) hn u us hu ia)).mono fun v' aR q=> ?_
  refine bo q fun ah aU=> ?_;clear q;subst ah;subst aU
  exact⟨by rw[mx],hs⟩) hq (by rw[he];rfl)) fun v σ' r=>r
theorem iw {x e:Expr}{apos p:Pos}{sep:List Nat}{l:List (List Nat)}{pl:Sem Bool}(hx:PE prog w X x ρ σ (.str sep)) (h:NE prog w X e ρ σ (az (aG l)))
  (hn:(l.map (·.length)).sum+l.length*sep.length≤16777216)
  (hq:eval ((x.Attribute ("join":Str) apos).Call [e] [] p) X.env=(do let ov ←eval x X.env;standAt apos.atName;let fx ←holding [ov] (getMethod ov ("join":Str) pl);match fx with | (f,first)=>callWith p f first (backTo p (starEach [e] X.env)) []):=by rfl)
  (he:starEach [e] X.env=[(false,eval e X.env)]:=by rfl):
  PE prog w X (.Call (.Attribute x ("join":Str) apos) [e] [] p) ρ σ (.str (aB sep l)):=
 lg hx (b0 h) (fun v σ' r=>by refine aF r fun a ah aU=> ?_;clear r;subst ah;subst aU;exact⟨a,rfl,.head _,.cons _ (.refl _)⟩) hn hq he
end
theorem nJ {α β:Type}(l:List α) (d:α) (g:α→β):((List.range l.length).map fun i=>g (l.getD i d))=l.map g:=by
 apply List.ext_getElem
 ·simp
 ·intro i h1 h2;simp only[List.length_map,List.length_range] at h1
  simp[List.getD_eq_getElem?_getD,List.getElem?_eq_getElem h1]
theorem rp {α:Type}(l:List α) (f:α→List Nat) (h: ∀a∈l,(f a).length=1):((l.map f).map (·.length)).sum=l.length:=by
 induction l with
 | nil=>rfl
 | cons a r ih=>
  simp only[List.map_cons,List.sum_cons,List.length_cons]
  rw[ih fun b hb=>h b (.tail _ hb),h a (.head _)];exact ň
theorem km {α:Type}(l:List α) (f:α→Nat):(l.map fun a=>[f a]).flatten=l.map f:=by
 induction l with
 | nil=>rfl
 | cons a r ih=>simp[ih]
theorem jq {α:Type}(l:List α) (k:Nat):sl l none (some (k:Int))=l.take k:=by
 unfold sl;simp only[Option.elim,clipAt_nat,List.drop_zero,Nat.sub_zero];rcases Nat.le_total k l.length with h | h
 ·rw[Nat.min_eq_left h]
 ·rw[Nat.min_eq_right h,List.take_of_length_le (Nat.le_refl _),List.take_of_length_le h]
theorem ft {α:Type}(l:List α) (k:Nat):sl l (some (k:Int)) none=l.drop k:=by
 unfold sl;simp only[Option.elim,clipAt_nat];rcases Nat.le_total k l.length with h | h
 ·rw[Nat.min_eq_left h,List.take_of_length_le (by simp)]
 ·rw[Nat.min_eq_right h];simp[List.drop_of_length_le h]
theorem om {α:Type}(l:List α) (a b:Nat):sl l (some (a:Int)) (some (b:Int))=(l.drop a).take (b-a):=by
 unfold sl;simp only[Option.elim,clipAt_nat];rcases Nat.le_total a l.length with h | h
 ·rw[Nat.min_eq_left h];rcases Nat.le_total b l.length with h2 | h2
  ·rw[Nat.min_eq_left h2]
  ·rw[Nat.min_eq_right h2,List.take_of_length_le (by simp),List.take_of_length_le (by simp;exact Vj h2)]
 ·rw[Nat.min_eq_right h];simp[List.drop_of_length_le h]
noncomputable def wL (l:List Int):Obj→Prop:=fun o=> ∃es ep t,o.ExactSet∧o.data= .set es ep t∧(∀e∈es.toList,∃k u,e=(hashInt k,.int k u)∧k∈l)∧(∀k∈l,∃e∈es.toList,∃u,e.2= .int k u)∧es.size<scanBound∧t.fits es.size=true
theorem wL.set {prog:Program}{w:World}{l:List Int}{o:Obj}{h:Heap}{a:Addr}(x:wL l o) (e:h.get? a=some o): ∃n,h.SetOf (intKind prog w) a (fun k=>decide (k∈l)) n:=by
 refine oBf x fun es ep t h1 h2 h3 h4 h5 h6=> ?_
 refine⟨es.size,o,es,ep,t,e,h1,h2,fun e he=> ?_,fun k=> ?_,h5,h6,rfl⟩
 ·refine mO (h3 e he) fun k u ah U=> ?_;subst ah
  exact⟨⟨k,intKind_is prog w k u,rfl⟩,rfl⟩
 ·simp only[decide_eq_true_eq]
  constructor
  ·intro hk;refine K2 (h4 k hk) fun e u he hu=> ?_
   exact⟨e,he,by rw[hu];exact intKind_is prog w k u⟩
  ·rintro ⟨e,he,hk⟩;refine mO (h3 e he) fun k' u ah hm=> ?_;subst ah
   have:k=k':=by
    simp[intKind,Value.isInt] at hk
    exact hk.symm
   rw[this];exact hm
inductive gz:List DictEntry→List (Int×Str)→Prop
 | nil:gz [] []
 | cons (k:Int) (t:Tok) (v:Str) (u:Tok) {es l} (h:gz es l):gz (⟨hashInt k,.int k t,.str v u⟩::es) ((k,v)::l)
noncomputable def wK (l:List (Int×Str)):Obj→Prop:=fun o=> ∃es ep,o.ExactDict∧o.data= .dict es ep∧gz es.toList l
theorem gz.find {es:List DictEntry}{l:List (Int×Str)}(h:gz es l) (k:Int): ∃f:Option Value,(es.find? fun e=>Value.isInt k e.key).map (·.val)=f∧Fl ((l.lookup k).map fun s=>.str s.cps.toList) f:=by
 induction h with
 | nil=>exact⟨none,rfl,.none⟩
 | cons k' t v u h ih=>
  by_cases e:k=k'
  ·subst e;refine⟨some (.str v u),?_,?_⟩
   ·rw[List.find?_cons_of_pos (by simp[Value.isInt])];rfl
   ·rw[List.lookup_cons_self]
    have:=VR.str v.cps.toList u
    rw[i6] at this
    exact .some this
  ·refine aF ih fun f h1 h2=> ?_
   refine⟨f,?_,?_⟩
   ·rw[List.find?_cons_of_neg (by simp[Value.isInt];exact fun q=>e q.symm)];exact h1
   ·rw[List.lookup_cons,show (k==k')=false by simpa using e];exact h2
theorem gz.keys {prog:Program}{w:World}{es:List DictEntry}{l:List (Int×Str)}(h:gz es l): ∀e∈es,∃k,(intKind prog w).is k e.key=true∧e.hash=(intKind prog w).hash k:=by
 induction h with
 | nil=>intro e he;cases he
 | cons k t v u h ih=>
  intro e he;rcases List.mem_cons.mp he with rfl | he
  ·exact⟨k,intKind_is prog w k t,rfl⟩
  ·exact ih e he
theorem wK.map {prog:Program}{w:World}{l:List (Int×Str)}{o:Obj}{h:Heap}{a:Addr}(x:wK l o) (e:h.get? a=some o): ∃f,h.MapOf (intKind prog w) a f∧ ∀k,Fl ((l.lookup k).map fun s=>.str s.cps.toList) (f k):=by
 refine jU x fun es ep h1 h2 h3=> ?_
 refine⟨findBy (intKind prog w).is es,⟨o,es,ep,e,h1,h2,fun e he=>h3.keys e (by simpa using he),fun k=>rfl⟩,fun k=> ?_⟩;refine aF (h3.find k) fun f hf hv=> ?_
 have:findBy (intKind prog w).is es k=f:=by
  rw[←hf];unfold findBy;rw[←Array.find?_toList];rfl
 rw[this];exact hv
section
variable {prog:Program}{w:World}{X:Cx}{ρ bC bI:Ro}{σ σ' aD:Led}{T:aX}{n:Nat}{R R':PV→Led→Prop}{K:PF→Ro→Led→Prop}
theorem EB {a:Addr}{l:List Int}{k:Int}(hm:At X σ a (wL l)):Cm prog w X .In (.int k) (.ref a) ρ σ (decide (k∈l)):=fun u v h1 h2 s I=>by
 refine vI h1 fun t=> ?_;refine vR h2 ?_
 refine aF (hm.obj I) fun o ho po=> ?_
 refine gF (po.set (prog:=prog) (w:=w) ho) fun n hs=> ?_
 exact wpAny_inSet_of (intKind_is prog w _ _) rfl hs ⟨rfl,I.tick _⟩
theorem FC {a:Addr}{l:List (Int×Str)}(hm:At X σ a (wK l)) {pl:Sem Bool}(u:Value) (s:Shared) (Q:Value×List Value→Shared→Prop) (hu:VR (.ref a) u) (I:Inv X ρ σ s) (hQ:Q (.builtin "dict.get",[u]) s):
  wpAny (model prog w) X.A (getMethod u ("get":Str) pl) Q (fun U U=>False) s:=by
 revert hQ;refine vR hu fun hQ=> ?_
 refine aF (hm.obj I) fun o ho po=> ?_
 refine aF (po.map (prog:=prog) (w:=w) ho) fun f hf U=> ?_
 exact getMethod_builtin hf.typeIs PySem.F.plainAttrs_dict PySem.F.slot_dict_get PySem.F.type_dict_get hf.noDict hQ
theorem Gd {a:Addr}{l:List (Int×Str)}{k:Int}{v:PV}(hm:At X σ a (wK l)) (hs:(a==sysModules)=false) (hv:(match l.lookup k with | some s=>.str s.cps.toList | none=>.none)=v) (u:Value) (us:List Value) (hu:VR (.ref a) u) (h:cu [.int k] us):
  jP prog w X (call (.builtin "dict.get") (u::us)) ρ σ v:=fun s I=>by
 refine vR hu ?_
 refine aF h.one fun u ah hu=> ?_;subst ah
 revert h;refine vI hu fun t h=> ?_
 refine aF (hm.obj I) fun o ho po=> ?_
 refine aF (po.map (prog:=prog) (w:=w) ho) fun f hf hfv=> ?_
 refine call_meetsIn PySem.F.slot_dict_get hf.typeIs PySem.F.entry_dict_get (PySem.F.args_dict_get_2 _ _) (meets_dict_get (intKind prog w) a (intKind_is prog w _ _) hs) ⟨f,hf,?_,I.tick _⟩;have q:=hfv k;subst hv;cases hl:l.lookup k with
 | none=>rw[hl] at q;cases hk:f k with | none=>exact .none | some v=>rw[hk] at q;cases q
 | some s=>rw[hl] at q;cases hk:f k with | none=>rw[hk] at q;cases q | some v=>rw[hk] at q;cases q with | some q=>exact q
end
section
variable {prog:Program}{w:World}{X:Cx}{ρ bC bI:Ro}{σ σ' aD:Led}{T:aX}{n:Nat}{R R':PV→Led→Prop}{K:PF→Ro→Led→Prop}
theorem wk {test:Expr}{msg:Option Expr}{pos:Pos}(h:BE prog w X test ρ σ true) (k:K .next ρ σ):S1 prog w X (.Assert test msg pos) ρ σ K:=fun s I=>
 wpAny_Assert_holds (wpAny_mono (h s I) (fun b s' q=>⟨q.1,_,_,_,k,.next,q.2⟩) fun U U f=>f)
theorem DL {o:Expr}{name:Str}{apos pos:Pos}{args:List Expr}{pl:Sem Bool}{a:PV}{id:String}{vs:List PV}{P:Obj→Prop}(ho:PE prog w X o ρ σ a)
  (hm: ∀(u:Value) (s:Shared) (Q:Value×List Value→Shared→Prop),VR a u→Inv X ρ σ s→Q (.builtin id,[u]) s→wpAny (model prog w) X.A (getMethod u name pl) Q (fun U U=>False) s)
  (ha:AE prog w X args pos ρ σ vs) (hc: ∀u us,VR a u→cu vs us→Gl prog w X (call (.builtin id) (u::us)) ρ σ P)
  (heq:eval ((o.Attribute name apos).Call args [] pos) X.env=(do let ov ←eval o X.env;standAt apos.atName;let fx ←holding [ov] (getMethod ov name pl);match fx with | (f,first)=>callWith pos f first (backTo pos (starEach args X.env)) []):=by rfl)
  (hp:(backTo pos (starEach args X.env)).any (·.1)=false:=by rfl):NE prog w X (.Call (.Attribute o name apos) args [] pos) ρ σ P:=
 lx (R:=fun v σ'=>v=a∧σ'=σ) (aQ ho) (fun v Fp r=>by
  refine bo r fun ah e=> ?_;clear r;subst ah
  have e':=e.symm;subst e';refine⟨hm,_,bO ha,fun CW ak r u us hu ia=> ?_⟩;refine bo r fun ah aU=> ?_;clear r;subst ah;subst aU
  exact hc u us hu ia) heq hp
theorem cZ {x:Str}{p pos:Pos}{args:List Expr}{fa:Addr}{vs:List PV}{v:PV}{k:Nat}(O:cU T n X) (hF:tq X σ) (hi:Bh T fa) (hf:XE prog w X (.Name x p) ρ σ (.ref fa)) (ha:AE prog w X args pos ρ σ vs)
  (hc:tm prog w T k (.ref fa) vs v) (hk:k≤n):PE prog w X (.Call (.Name x p) args [] pos) ρ σ v:=nN O hF hi hf ha (hc.le hk)
end
def ST (i:Nat):Stmt:=cx PySem.Challenge.pw_wr0055_02.main.body i
noncomputable def tabOf:Stmt→List (Int×Str)
 | .Assign _ (.Dict ks vs _) _=>(ks.zip vs).filterMap fun | (some (.Constant (.int k) _ _),.Constant (.str s) _ _)=>some (k,s) | _=>none
 | _=>[]
noncomputable def Kr:List Int:=[173,847,6150,6155,6156,6157,8203,8204,8205,8288,65279]++(List.range 16).map fun i=>((65024+i:Nat):Int)
def eI:List (Int×Str):=tabOf (ST 14)
structure cS (T:aX):Prop where
 abs:T.mg "abs"=none∧T.mb "abs"=some (.builtin "abs")
 int:T.mg "int"=none∧T.mb "int"=some (.type "int")
 divmod:T.mg "divmod"=none∧T.mb "divmod"=some (.builtin "divmod")
 len:T.mg "len"=none∧T.mb "len"=some (.builtin "len")
 chr:T.mg "chr"=none∧T.mb "chr"=some (.builtin "chr")
 ord:T.mg "ord"=none∧T.mb "ord"=some (.builtin "ord")
 range:T.mg "range"=none∧T.mb "range"=some (.type "range")
 min:T.mg "min"=none∧T.mb "min"=some (.builtin "min")
 max:T.mg "max"=none∧T.mb "max"=some (.builtin "max")
structure mP where
 ap:Addr
 word:Addr
 typed:Addr
 turn:Addr
 Gb:Addr
 b1:Addr
 MV:Addr
 b3:Addr
 set:Addr
 tab:Addr
structure Text (T:aX) (a:mP):Prop where
 ap:dS T "Int2AP" "Int2AP" (ST 10) a.ap
 gap:T.mg "Int2AP"=some (.ref a.ap)
 word:dS T "_law_word" "_law_word" (ST 18) a.word
 F7:T.mg "_law_word"=some (.ref a.word)
 typed:dS T "_law_typed" "_law_typed" (ST 19) a.typed
 zt:T.mg "_law_typed"=some (.ref a.typed)
 Gb:dS T "_ellipsis_match" "_ellipsis_match" (ST 3) a.Gb
 Sw:T.mg "_ellipsis_match"=some (.ref a.Gb)
 b1:dS T "in_table_b1" "in_table_b1" (ST 13) a.b1
 gb1:T.mg "in_table_b1"=some (.ref a.b1)
 b3:dS T "map_table_b3" "map_table_b3" (ST 15) a.b3
 gb3:T.mg "map_table_b3"=some (.ref a.b3)
 MV:dS T "in_table_c11" "in_table_c11" (ST 16) a.MV
 Sx:T.mg "in_table_c11"=some (.ref a.MV)
 set:T.mg "b1_set"=some (.ref a.set)
 oset: ∃o,T.K.lookup a.set=some o∧wL Kr o
 tab:T.mg "b3_exceptions"=some (.ref a.tab)
 QQ: ∃o,T.K.lookup a.tab=some o∧wK eI o
 Lb:(a.tab==sysModules)=false
 aE: ∃t,T.mg "ELLIPSIS_MARKER"=some (.str (mk [46,46,46]) t)
 nl: ∃t,T.mg "NL"=some (.str (mk [10]) t)
 empty: ∃t,T.mg "EMPTYSTRING"=some (.str (mk []) t)
 turn:dS T "_law_turn" "_law_turn" (ST 20) a.turn
 F8:T.mg "_law_turn"=some (.ref a.turn)
def jh (n:Nat):List UInt8:=(ic n).map fun d=>(65+d).toUInt8
section
variable {prog:Program}{w:World}{T:aX}{n:Nat}
theorem Iu {fa:Addr}(D:dS T "in_table_c11" "in_table_c11" (ST 16) fa) {c:List Nat}:tm prog w T (n+1) (.ref fa) [.str c] (.bool (c==[32])):=
 fG D ["code"] [] (fun U U U U U U us hl=>by refine gF (kf hl) fun u ah=> ?_;subst ah;rfl) dC dC rfl dC rfl rfl rfl (fun A L g os bu σ O Y=>by
  show SE _ _ _ _ [(("code":Str),some (.str c))] σ _;refine af (bf ?_ ⟨rfl,.refl _⟩);exact fN (ag Y 0 rfl) aT gD)
theorem iz {n:Nat}(h:n≠0):ic n=ic (n/16)++[n%16]:=by
 cases n with
 | zero=>exact absurd rfl h
 | succ n=>show (if n+1=0 then [] else r7 n ((n+1)/16)++[(n+1)%16])=r7 ((n+1)/16) ((n+1)/16)++[(n+1)%16];rw[if_neg h,Ee n (Nat.le_of_lt_succ (Nat.div_lt_self (Nat.succ_pos n) dC)) (Nat.le_refl _)]
theorem fE: ∀(k n:Nat),n<16^k→(ic n).length≤k
 | 0,n,h=>by
  have:n=0:=by simpa using h
  subst this;simp[eG]
 | k+1,n,h=>by
  by_cases e:n=0
  ·subst e;simp[eG]
  ·rw[iz e,List.length_append]
   have:=fE k (n/16) (by rw[Nat.div_lt_iff_lt_mul dC];rwa [Nat.pow_succ] at h)
   simp;exact Ab this
theorem Jm: ∀r:Nat,r<16→sl [65,66,67,68,69,70,71,72,73,74,75,76,77,78,79,80] (some (r:Int)) (some ((r:Int)+1))=[(65+r).toUInt8]:=by decide
theorem OT {fa:Addr}(D:dS T "Int2AP" "Int2AP" (ST 10) fa) (G:cS T) {i:Int}(hb:i.natAbs<16^8):tm prog w T (n+1) (.ref fa) [.int i] (.bytes (jh i.natAbs)):=
 fG D ["num"] ["val","AP","mod"] (fun U U U U U U us hl=>by refine gF (kf hl) fun u ah=> ?_;subst ah;rfl) dC dC rfl dC rfl rfl rfl (fun A L g os bu σ O Y=>by
  show SE _ _ _ _ [(("num":Str),some (.int i)),(("val":Str),none),(("AP":Str),none),(("mod":Str),none)] σ _;refine af (aI Y mh (.there .here) ?_);refine af (aI Y mh (.there (.there .here)) ?_);refine af (aI Y (kb (aC O rfl G.int.1 G.int.2) (gQ (bg (aC O rfl G.abs.1 G.abs.2) (gQ (ag Y 0 rfl)) MU)) MT) .here ?_);refine af (yD (fun m ρ σ'=>σ'=σ∧ ∃(k:Nat) (l:List UInt8) (o:Option PV),m=k∧k<16^8∧ρ=[(("num":Str),some (.int k)),(("val":Str),some (.bytes l)),(("AP":Str),some (.bytes [65,66,67,68,69,70,71,72,73,74,75,76,77,78,79,80])),(("mod":Str),o)]∧jh k++l=jh i.natAbs∧l.length≤100000) i.natAbs
   ⟨rfl,i.natAbs,[],none,rfl,hb,?_,by simp,by simp⟩ ?_)
  ·have e:(if i<0 then-i else i)=(i.natAbs:Int):=by omega
   rw[e]
  ·rintro m ρ σ' ⟨rfl,k,l,o,rfl,hk,rfl,hl,hlen⟩;refine⟨_,eH (ag Y 0 rfl) (fun u s h I=>tT u s h I),fun dm=> ?_,fun h0=> ?_⟩
   ·refine af (iG (ts:=[assign _ _,assign _ _]) (b0 (wF (aC O rfl G.divmod.1 G.divmod.2) (Bp (ag Y 0 rfl) ai) (z4 dC (gv dC)))) (fun v σ' r=> ?_) rfl);refine aF r fun a ah aU=> ?_;clear r;subst ah;subst aU
    refine⟨a,_,rfl,fz O.hh (.head _),rfl,cD (fR (fun u hu=>aq Y .here hu)) (cD (fR (fun u hu=>aq Y (.there (.there (.there .here))) hu)) (gV ?_))⟩;have Pz:m≠0:=by intro e;subst e;simp at dm
    have e1:(m:Int).fdiv 16=((m/16:Nat):Int):=by rw[Int.fdiv_eq_ediv_of_nonneg _ arg];exact Ŗ
    have e2:(m:Int).fmod 16=((m%16:Nat):Int):=by rw[Int.fmod_eq_emod_of_nonneg _ arg];exact ř
    have ha:=hl;have e3:sl [65,66,67,68,69,70,71,72,73,74,75,76,77,78,79,80] (some ((m:Int).fmod 16)) (some ((m:Int).fmod 16+1))=[(65+m%16).toUInt8]:=by
     rw[e2];exact Jm _ (Nat.mod_lt _ dC)
    have hap:jh m=jh (m/16)++[(65+m%16).toUInt8]:=by
     unfold jh;rw[iz Pz,List.map_append];rfl
    refine af (aI Y (DE (nL (ag Y 2 rfl) (aV (ag Y 3 rfl)) (aV (bQ (ag Y 3 rfl) ai)) dC) (ag Y 1 rfl) ?_) (.there .here) ?_)
    ·rw[e3];simp;exact â hlen
    ·rw[e3,e1];refine aj ⟨m/16,σ',by exact ù Pz,⟨rfl,m/16,_,_,rfl,by exact Ē hk,rfl,?_,?_⟩,.cons _ (.refl _)⟩
     ·rw[←hl,hap];simp
     ·have h1:(jh m).length≤8:=by unfold jh;rw[List.length_map];exact fE 8 m hk
      have h2:(jh i.natAbs).length≤8:=by unfold jh;rw[List.length_map];exact fE 8 _ hb
      rw[←hl] at h2
      simp at h2 ⊢;exact YD h2
   ·have Pz:m=0:=by simpa using h0
    subst Pz;refine aj (af (bf (ag Y 1 rfl) ⟨?_,.refl _⟩))
    have:jh 0=[]:=by simp[jh,eG]
    rw[←hl,this];rfl)
def dj (n sz:Nat):List Nat:=List.replicate (sz-(ic n).length) 97++(ic n).map (97+ ·)
theorem vL: ∀(n:Nat),∀d∈ic n,d<16:=by
 intro n
 induction n using Nat.strongRecOn with
 | ind n ih=>
  by_cases e:n=0
  ·subst e;simp[eG]
  ·rw[iz e];intro d hd;rcases List.mem_append.mp hd with h | h
   ·exact ih (n/16) (ZN e) d h
   ·rw[List.mem_singleton.mp h];exact Nat.mod_lt _ dC
theorem wR: ∀(n:Nat),n≠0→ ∃d r,ic n=d::r∧d≠0:=by
 intro n
 induction n using Nat.strongRecOn with
 | ind n ih=>
  intro e;rw[iz e];by_cases h:n/16=0
  ·rw[h];exact⟨n%16,[],by simp[eG],by exact ø e h⟩
  ·refine mO (ih (n/16) (ZV h) h) fun d r h1 h2=> ?_
   exact⟨d,r++[n%16],by rw[h1];rfl,h2⟩
theorem An (n:Nat):(sl (jh n) none (some 1)==[65])=false:=by
 by_cases e:n=0
 ·subst e;simp[jh,eG,sl]
 ·refine mO (wR n e) fun d r h1 h2=> ?_
  have hd:d<16:=vL n d (by rw[h1];exact .head _);have e2:sl (jh n) none (some 1)=[(65+d).toUInt8]:=by
   rw[show (some (1:Int))=some ((1:Nat):Int) from rfl,jq];unfold jh;rw[h1];rfl
  rw[e2]
  have: ∀d:Nat,d<16→d≠0→([(65+d).toUInt8]==[65])=false:=by decide
  exact this d hd h2
theorem Jn (n:Nat):(jh n).map (fun c=>((c.toNat:Int)+32).toNat)=(ic n).map (97+ ·):=by
 unfold jh;rw[List.map_map];refine List.map_congr_left fun d hd=> ?_
 have:=vL n d hd
 have key: ∀d:Nat,d<16→((((65+d).toUInt8.toNat:Nat):Int)+32).toNat=97+d:=by decide
 exact key d this
theorem vf {a:mP}(D:Text T a) (G:cS T) {i:Int}{sz:Nat}(hb:i.natAbs<16^8) (hs:(ic i.natAbs).length≤sz) (hz:sz≤1000):tm prog w T (n+2) (.ref a.word) [.int i,.int sz] (.str (dj i.natAbs sz)):=
 fG D.word ["number","size"] ["told"] (fun U U U U U U us hl=>by refine xM (rS hl) fun u v ah=> ?_;subst ah;rfl) dC dC rfl dC rfl rfl rfl (fun A L g os bu σ O Y=>by
  show SE _ _ _ _ [(("number":Str),some (.int i)),(("size":Str),some (.int sz)),(("told":Str),none)] σ _;have h8:(jh i.natAbs).length≤8:=by unfold jh;rw[List.length_map];exact fE 8 _ hb
  have hl:(jh i.natAbs).length=(ic i.natAbs).length:=by unfold jh;rw[List.length_map]
  refine af (aI Y (nN O (.inl rfl) D.ap.isFn (cP O rfl D.gap) (gQ (ag Y 0 rfl)) ((OT (n:=n) D.ap G hb).le ĺ)) (.there (.there .here)) ?_);refine af (bH (bb (nL (ag Y 2 rfl) bS (aV ai) (I4 h8)) mh Il) (fun h=> ?_) (fun U=>aj ?_))
  ·rw[An] at h;cases h
  ·refine af (bf (v:=.str (dj i.natAbs sz)) ?_ ⟨rfl,.refl _⟩);have e:dj i.natAbs sz=rep [97] ((sz:Int)-(jh i.natAbs).length)++aB [] ((jh i.natAbs).map fun c=>[((c.toNat:Int)+32).toNat]):=by
    rw[dN,km];unfold dj rep;have e1:((sz:Int)-(jh i.natAbs).length).toNat=sz-(ic i.natAbs).length:=by rw[hl];exact Za
    rw[e1];rw[Jn];congr 1
    induction (sz-(ic i.natAbs).length) with
    | zero=>rfl
    | succ k ih=>rw[List.replicate_succ,List.replicate_succ,List.flatten_cons,←ih];rfl
   rw[e];have hc:((List.range (jh i.natAbs).length).map fun j=>PV.str [((((jh i.natAbs).getD j 0).toNat:Int)+32).toNat])=aG ((jh i.natAbs).map fun c=>[((c.toNat:Int)+32).toNat]):=by
    rw[nJ (jh i.natAbs) 0 (fun c=>PV.str [((c.toNat:Int)+32).toNat])];unfold aG;rw[List.map_map];rfl
   refine bh (yM aT (fY (ag Y 1 rfl) (bg (aC O rfl G.len.1 G.len.2) (gQ (ag Y 2 rfl)) (sE (Z5 h8)))) ?_ ?_ ?_) (iw aT (hc ▸ vA (cl:=[]) t9 (fun j=>.str [((((jh i.natAbs).getD j 0).toNat:Int)+32).toNat]) rfl O.hh rfl dC rfl dC rfl (y6 (ag Y 2 rfl)) (fun U U=>trivial) (I4 h8) (fun C aD j hj hm=> ?_)) ?_) ?_
   ·decide
   ·exact Wx h8
   ·exact XN hz
   ·exact bg (aC (O.comp rfl) rfl G.chr.1 G.chr.2) (gQ (bQ (cW (Lay.comp rfl rfl) (.head _)) ai)) (vX ō (by have:=((jh i.natAbs).getD j 0).toNat_lt;exact Đ this))
   ·rw[rp _ _ fun U U=>rfl];simp;exact I4 h8
   ·rw[dN,km];unfold rep;simp;exact XH hz h8)
noncomputable def oa:List Nat:=[119808,119860,119912,120016,120172,120224,120276,120328,120380,120432]
def bY (c:Nat) (way:Int):Nat:=if 9<way.fmod 12 then ((c:Int)-32+way.fmod 2*32).toNat else dD oa (way.fmod 12)+c-97
theorem cO (a:Int) {b:Int}(hb:0<b):0≤a.fmod b∧a.fmod b<b:=⟨Int.fmod_nonneg_of_pos a hb,Int.fmod_lt_of_pos a hb⟩
theorem xA: ∀k:Nat,k<10→119808≤dD oa k∧dD oa k≤120432:=by decide
theorem rk {a:mP}(D:Text T a) (G:cS T) {c:Nat}{way:Int}(h1:97≤c) (h2:c≤122):tm prog w T (n+1) (.ref a.typed) [.str [c],.int way] (.str [bY c way]):=
 fG D.typed ["letter","way"] ["alphabets"] (fun U U U U U U us hl=>by refine xM (rS hl) fun u v ah=> ?_;subst ah;rfl) dC dC rfl dC rfl rfl rfl (fun A L g os bu σ O Y=>by
  show SE _ _ _ _ [(("letter":Str),some (.str [c])),(("way":Str),some (.int way)),(("alphabets":Str),none)] σ _;have hr:=cO way (b:=12) dC;have hr2:=cO way (b:=2) dC;refine af (bH (bb (cG (ag Y 1 rfl) ai dC) ai mG) (fun h=> ?_) (fun h=>aj ?_))
  ·have h:=of_decide_eq_true h;refine af (bf (v:=.str [bY c way]) ?_ ⟨rfl,.refl _⟩);unfold bY;rw[if_pos h];exact bg (aC O rfl G.chr.1 G.chr.2) (gQ (bQ (fY (bg (aC O rfl G.ord.1 G.ord.2) (gQ (ag Y 0 rfl)) n5) ai) (iZ (cG (ag Y 1 rfl) ai dC) ai (PySem.IntMulOk.of_right dC)))) (vX (ŧ h1 hr2.1) (Ŧ h2 hr2.2))
  ·have h:=of_decide_eq_false h;have hi:=xA (way.fmod 12).toNat (ū h);rw[show ((way.fmod 12).toNat:Int)=way.fmod 12 by exact ŵ hr.1] at hi
   refine af (aI Y aT (.there (.there .here)) ?_);refine af (bf (v:=.str [bY c way]) ?_ ⟨rfl,.refl _⟩);unfold bY;rw[if_neg h];have e:dD oa (way.fmod 12)+c-97=((dD oa (way.fmod 12):Int)+c-97).toNat:=Zo;rw[e];exact bg (aC O rfl G.chr.1 G.chr.2) (gQ (fY (bQ (bg (aC O rfl G.ord.1 G.ord.2) (gQ (eP (a:=oa) (ag Y 2 rfl) (cG (ag Y 1 rfl) ai dC) (by show-(10:Int)≤_;exact Ŵ hr.1) (by show _<(10:Int);exact Ū h) dC)) n5) (bg (aC O rfl G.ord.1 G.ord.2) (gQ (ag Y 0 rfl)) n5)) ai)) (vX (Yr hi.1) (WT h2 hi.2)))
theorem MY {a:mP}(D:Text T a) (G:cS T) {c:Nat}:tm prog w T (n+1) (.ref a.b1) [.str [c]] (.bool (decide ((c:Int)∈Kr))):=
 fG D.b1 ["code"] [] (fun U U U U U U us hl=>by refine gF (kf hl) fun u ah=> ?_;subst ah;rfl) dC dC rfl dC rfl rfl rfl (fun A L g os bu σ O Y=>by
  show SE _ _ _ _ [(("code":Str),some (.str [c]))] σ _;refine aF D.oset fun o h1 h2=> ?_
  refine af (bf ?_ ⟨rfl,.refl _⟩);exact fN (bg (aC O rfl G.ord.1 G.ord.2) (gQ (ag Y 0 rfl)) n5) (jw (cP O rfl D.set) (.ref _)) (EB (.inr ⟨o,O.top _ _ h1,h2⟩)))
def xT (c:Nat):List Nat:=match eI.lookup (c:Int) with | some s=>s.cps.toList | none=>(Txt.lower (mk [c])).cps.toList
theorem MX {a:mP}(D:Text T a) (G:cS T) {c:Nat}(hl:(Txt.lower (mk [c])).length≤16777216):tm prog w T (n+1) (.ref a.b3) [.str [c]] (.str (xT c)):=
 fG D.b3 ["code"] ["r"] (fun U U U U U U us hl=>by refine gF (kf hl) fun u ah=> ?_;subst ah;rfl) dC dC rfl dC rfl rfl rfl (fun A L g os bu σ O Y=>by
  show SE _ _ _ _ [(("code":Str),some (.str [c])),(("r":Str),none)] σ _;refine aF D.QQ fun o h1 h2=> ?_
  cases hb:eI.lookup (c:Int) with
  | some s=>
   refine af (aI Y (v:=.str s.cps.toList) (gu (jw (cP O rfl D.tab) (.ref _)) (fun u s Q hu I hQ=>FC (.inr ⟨o,O.top _ _ h1,h2⟩) u s Q hu I hQ) (gQ (bg (aC O rfl G.ord.1 G.ord.2) (gQ (ag Y 0 rfl)) n5)) (Gd (.inr ⟨o,O.top _ _ h1,h2⟩) D.Lb (by rw[hb]))) (.there .here) ?_);refine af (bH (bb (ag Y 1 rfl) k0 m8) (fun h=> ?_) (fun h=>by cases h));refine af (bf (v:=.str (xT c)) ?_ ⟨rfl,.refl _⟩);unfold xT;rw[hb];exact ag Y 1 rfl
  | none=>
   refine af (aI Y (v:=.none) (gu (jw (cP O rfl D.tab) (.ref _)) (fun u s Q hu I hQ=>FC (.inr ⟨o,O.top _ _ h1,h2⟩) u s Q hu I hQ) (gQ (bg (aC O rfl G.ord.1 G.ord.2) (gQ (ag Y 0 rfl)) n5)) (Gd (.inr ⟨o,O.top _ _ h1,h2⟩) D.Lb (by rw[hb]))) (.there .here) ?_);refine af (bH (bb (ag Y 1 rfl) k0 m7) (fun h=>by cases h) (fun h=>aj ?_));refine af (bf (v:=.str (xT c)) ?_ ⟨rfl,.refl _⟩);unfold xT;rw[hb];exact gu (ag Y 0 rfl) (rP (fun x t s pl Q h=>GM.lower h) _) Ap (EF hl))
end
section
open PySem.Builtin.Str
section
variable {prog:Program}{w:World}{X:Cx}{ρ bC bI:Ro}{σ σ' aD:Led}{T:aX}{n:Nat}{R R':PV→Led→Prop}{K:PF→Ro→Led→Prop}
inductive J0 (prog:Program) (w:World) (X:Cx) (ρ:Ro) (σ:Led):List Expr→List PV→Prop
 | nil:J0 prog w X ρ σ [] []
 | cons {e v es vs} (h:PE prog w X e ρ σ v) (r:J0 prog w X ρ σ es vs):J0 prog w X ρ σ (e::es) (v::vs)
theorem J0.sp {es:List Expr}{vs:List PV}(h:J0 prog w X ρ σ es vs):Ku prog w X (es.map fun e=>(false,eval e X.env)) ρ σ vs:=by
 induction h with
 | nil=>exact lK
 | cons h r ih=>exact eL h ih
theorem fW {elts:List Expr}{k:Nat}{pos:Pos}{vs:List PV}(h:J0 prog w X ρ σ elts vs) (hl:vs.length≤16777216:=by simp) (he:backTo pos (starEach elts X.env)=elts.map (fun e=>(false,eval e X.env)):=by rfl):NE prog w X (.Tuple elts k pos) ρ σ (gG vs):=
 fV (iB he (nz h.sp) (fun CW σ' r=>by rw[r.1];exact hl)) fun v σ' r=>by
  refine Bl r fun a CW ak ah aU CT PS=> ?_;clear r;subst ah;subst aU;subst CT;subst PS
  exact⟨a,rfl,.refl _⟩
theorem eR {elts:List Expr}{pos:Pos}{vs:List PV}(h:J0 prog w X ρ σ elts vs) (hl:vs.length≤16777216:=by simp) (he:backTo pos (starEach elts X.env)=elts.map (fun e=>(false,eval e X.env)):=by rfl):NE prog w X (.List elts pos) ρ σ (az vs):=
 fV (lu he (nz h.sp) (fun CW σ' r=>by rw[r.1];exact hl)) fun v σ' r=>by
  refine Bl r fun a CW ak ah aU CT PS=> ?_;clear r;subst ah;subst aU;subst CT;subst PS
  exact⟨a,rfl,.refl _⟩
theorem aO (l:List (List Nat)):(aG l).length=l.length:=by simp[aG]
theorem jv (l:List (List Nat)) (i:Nat) (h:i<l.length):(aG l).getD i .none= .str (l.getD i []):=by
 simp[aG,List.getD_eq_getElem?_getD,List.getElem?_eq_getElem h]
theorem my (l:List (List Nat)) (h:l≠[]):cB (aG l) (-1)= .str (l.getLastD []):=by
 have hp:0<l.length:=List.length_pos_iff.mpr h;unfold cB;rw[if_pos dC,aO];have e:((-1:Int)+(l.length:Int)).toNat=l.length-1:=Ĩ hp;rw[e,jv _ _ (ħ hp)];congr 1;rw[List.getLastD_eq_getLast?,List.getLast?_eq_getElem?,List.getD_eq_getElem?_getD]
theorem rY (l:List (List Nat)) (h:l≠[]):cB (aG l) 0= .str (l.headD []):=by
 cases l with
 | nil=>exact absurd rfl h
 | cons a r=>rfl
theorem oy (l:List (List Nat)):(aG l).eraseIdx (l.length-1)=aG l.dropLast:=by
 unfold aG;rw[List.map_dropLast];have e:(l.map PV.str).eraseIdx (l.length-1)=(l.map PV.str).dropLast:=by
  rw[List.dropLast_eq_take,List.length_map];by_cases h:l=[]
  ·subst h;rfl
  ·have hp:0<l.length:=List.length_pos_iff.mpr h;rw[List.eraseIdx_eq_take_drop_succ,List.drop_of_length_le (by simp;exact Ħ hp),List.append_nil]
 rw[e]
theorem wy (l:List (List Nat)):(aG l).eraseIdx 0=aG l.tail:=by cases l<;>rfl
end
noncomputable def iQ (x y:List Nat) (i:Nat):Bool:=(x.drop i).take y.length==y
theorem gI (x y:List Nat) (i:Nat):subAt (mk x) (mk y) i=iQ x y i:=by
 rw[StrLaws.subAt_eq,aA];rfl
theorem f6 (x y:List Nat) (lo hi:Nat):(kS x y lo hi= -1∧ ∀i,lo≤i→i+y.length≤hi→iQ x y i=false)∨
  ∃i:Nat,kS x y lo hi=i∧lo≤i∧i+y.length≤hi∧iQ x y i=true∧ ∀k,lo≤k→k<i→iQ x y k=false:=by
 unfold kS;rw[StrLaws.occ_eq];rcases StrLaws.occ_first (mk x) (mk y) hi 1 (Nat.le_refl _) (List.range' lo (hi+1-lo)) lo (fun i hi=>by have:=List.mem_range'_1.mp hi;exact Ab this.1) with ⟨h0,hn⟩ | ⟨pre,a,post,e,h0,ha,hn⟩
 ·left
  rw[h0];refine⟨rfl,fun i h1 h2=> ?_⟩
  have:=hn i (by rw[List.mem_range'_1];exact TX h1 h2)
  unfold StrLaws.At at this
  rw[aA,gI] at this
  cases h:iQ x y i with
  | false=>rfl
  | true=>exact absurd ⟨h2,h⟩ this
 ·right
  have hm:a∈List.range' lo (hi+1-lo):=by rw[e];simp
  have Ec:=List.mem_range'_1.mp hm;unfold StrLaws.At at ha
  rw[aA,gI] at ha
  refine⟨a,?_,by exact Ab Ec.1,ha.1,ha.2,fun k h1 h2=> ?_⟩
  ·have: ∃r,(forIn (List.range' lo (hi+1-lo)) ((#[]:Array Nat),lo) (StrLaws.occBody (mk x) (mk y) hi 1)).run.fst.toList=a::r:=by
    generalize (forIn (List.range' lo (hi+1-lo)) ((#[]:Array Nat),lo) (StrLaws.occBody (mk x) (mk y) hi 1)).run.fst=z at h0
    obtain⟨l⟩:=z;cases l with
    | nil=>simp at h0
    | cons b r=>simp at h0;exact⟨r,by simp[h0]⟩
   refine gF this fun r hr=> ?_
   rw[hr]
  ·have hk:k∈pre:=by
    have F0:k∈List.range' lo (hi+1-lo):=by rw[List.mem_range'_1];exact Tx Ec.2 h1 h2
    rw[e] at F0
    rcases List.mem_append.mp F0 with h | h
    ·exact h
    ·exfalso;have hs:(List.range' lo (hi+1-lo)).Pairwise (· < ·):=List.pairwise_lt_range';rw[e] at hs
     have h3:=(List.pairwise_append.mp hs).2.1;rcases List.mem_cons.mp h with h | h
     ·exact Yf h2 h
     ·have:=(List.pairwise_cons.mp h3).1 k h;exact args h2 this
   have:=hn k hk
   unfold StrLaws.At at this
   rw[aA,gI] at this
   cases h:iQ x y k with
   | false=>rfl
   | true=>exact absurd ⟨by exact T3 ha.1 h2,h⟩ this
theorem ny (x y:List Nat):Txt.startswith (mk x) (mk y)=y.isPrefixOf x:=by
 show (decide (0+(mk y).length≤(mk x).length)&&subAt (mk x) (mk y) 0)=_;rw[gI,aA,aA];unfold iQ;rw[List.drop_zero,Bool.eq_iff_iff];simp only[Bool.and_eq_true,decide_eq_true_eq,beq_iff_eq,List.isPrefixOf_iff_prefix,Nat.zero_add];constructor
 ·rintro ⟨h1,h2⟩;exact⟨x.drop y.length,by rw[←h2,List.length_take,Nat.min_eq_left h1,List.take_append_drop]⟩
 ·rintro ⟨r,rfl⟩;simp
theorem vT (x y:List Nat):Txt.endswith (mk x) (mk y)=y.isSuffixOf x:=by
 show (decide (0+(mk y).length≤(mk x).length)&&subAt (mk x) (mk y) ((mk x).length-(mk y).length))=_;rw[gI,aA,aA];unfold iQ;rw[Bool.eq_iff_iff];simp only[Bool.and_eq_true,decide_eq_true_eq,beq_iff_eq,List.isSuffixOf_iff_suffix,Nat.zero_add];constructor
 ·rintro ⟨h1,h2⟩;refine⟨x.take (x.length-y.length),?_⟩;rw[List.take_of_length_le (by rw[List.length_drop];exact Ws h1)] at h2
  conv=>lhs;rw[←h2]
  rw[List.length_drop,show x.length-(x.length-(x.length-y.length))=x.length-y.length by exact Wt h1];exact List.take_append_drop _ _
 ·rintro ⟨r,rfl⟩;simp
def fS (x y:List Nat) (hi:Nat):List Nat→Nat→Nat→List Nat
 | [],_,_=>[]
 | i::l,free,k=>if 0<k∧free≤i∧i+y.length≤hi∧iQ x y i=true then i::fS x y hi l (i+y.length) (k-1) else fS x y hi l free k
theorem mi (x y:List Nat) (hi limit:Nat): ∀(l:List Nat) (st:Array Nat×Nat),st.1.size≤limit→
  (forIn l st (StrLaws.occBody (mk x) (mk y) hi limit)).run.fst.toList=st.1.toList++fS x y hi l st.2 (limit-st.1.size)
 | [],st,_=>by simp[fS]
 | i::l,st,hs=>by
  rw[List.forIn_cons];unfold StrLaws.occBody;rw[aA,gI];by_cases h:((st.fst.size<limit∧st.snd≤i)∧i+y.length≤hi)∧iQ x y i=true
  ·rw[if_pos h];have ih:=mi x y hi limit l (st.1.push i,i+y.length) (by simp;exact IW h.1.1.1);unfold StrLaws.occBody at ih
   rw[aA] at ih
   simp only[pure_bind]
   refine ih.trans ?_
   rw[fS.eq_2,if_pos ⟨by exact Xk h.1.1.1,h.1.1.2,h.1.2,h.2⟩];simp;rfl
  ·rw[if_neg h];have ih:=mi x y hi limit l st hs;unfold StrLaws.occBody at ih
   rw[aA] at ih
   simp only[pure_bind]
   refine ih.trans ?_
   rw[fS.eq_2,if_neg (fun q=>h ⟨⟨⟨by exact Yx q.1,q.2.1⟩,q.2.2.1⟩,q.2.2.2⟩)]
theorem rL (x y:List Nat) (lo hi limit:Nat):occurrences (mk x) (mk y) lo hi limit=fS x y hi (List.range' lo (hi+1-lo)) lo limit:=by
 rw[StrLaws.occ_eq,mi x y hi limit _ _ (by simp)];simp
theorem eZ {x y:List Nat}{hi:Nat}: ∀(l r:List Nat) (free k:Nat),(∀i∈l,iQ x y i=false∨i<free)→fS x y hi (l++r) free k=fS x y hi r free k
 | [],_,_,_,_=>rfl
 | i::l,r,free,k,h=>by
  rw[List.cons_append,fS.eq_2,if_neg]
  ·exact eZ l r free k fun j hj=>h j (.tail _ hj)
  ·rintro ⟨_,h1,_,h2⟩;rcases h i (.head _) with e | e
   ·rw[e] at h2;cases h2
   ·exact Xv h1 e
theorem i5 {a b y:List Nat}{hi:Nat}: ∀(l:List Nat) (free k:Nat),fS (a++b) y (a.length+hi) (l.map (a.length+ ·)) (a.length+free) k=(fS b y hi l free k).map (a.length+ ·)
 | [],_,_=>rfl
 | i::l,free,k=>by
  have e:iQ (a++b) y (a.length+i)=iQ b y i:=by
   unfold iQ;rw[List.drop_append,List.drop_of_length_le EV,List.nil_append,show a.length+i-a.length=i by exact I3]
  rw[List.map_cons,fS.eq_2,fS.eq_2,e];by_cases h:0<k∧free≤i∧i+y.length≤hi∧iQ b y i=true
  ·rw[if_pos h,if_pos ⟨h.1,by exact UN h.2.1,by exact T7 h.2.2.1,h.2.2.2⟩,List.map_cons,show a.length+i+y.length=a.length+(i+y.length) by exact V8,i5 l]
  ·rw[if_neg h,if_neg (fun q=>h ⟨q.1,by exact VE q.2.1,by exact Ub q.2.2.1,q.2.2.2⟩),i5 l]
theorem ke {x y:List Nat}{hi:Nat}: ∀(l:List Nat) (free k k':Nat),l.length≤k→l.length≤k'→fS x y hi l free k=fS x y hi l free k'
 | [],_,_,_,_,_=>rfl
 | i::l,free,k,k',h,h'=>by
  simp only[List.length_cons] at h h'
  rw[fS.eq_2,fS.eq_2];by_cases q:free≤i∧i+y.length≤hi∧iQ x y i=true
  ·rw[if_pos ⟨by exact NQ h,q⟩,if_pos ⟨by exact NQ h',q⟩,ke l _ (k-1) (k'-1) (NU h) (NU h')]
  ·rw[if_neg (fun z=>q z.2),if_neg (fun z=>q z.2),ke l _ k k' (IY h) (IY h')]
noncomputable def aE:List Nat:=[46,46,46]
noncomputable def fO (x:List Nat) (kT:List Nat):List (List Nat):=((0::kT.map (· +3)).zip (kT++[x.length])).map fun p=>(x.drop p.1).take (p.2-p.1)
theorem ui (x:List Nat) (kT:List Nat):(partsBetween (mk x) kT 3).map (fun s=>s.cps.toList)=fO x kT:=by
 unfold partsBetween fO;rw[List.map_map,aA];refine List.map_congr_left fun p U=> ?_
 obtain⟨i,j⟩:=p;exact StrLaws.strSub_toList _ _ _
def cutsOf (x:List Nat):List Nat:=fS x aE x.length (List.range' 0 (x.length+1)) 0 (x.length+1)
theorem tW (x:List Nat):j0 x aE=fO x (cutsOf x):=by
 unfold j0 cutsOf;show List.map _ (if (decide ((mk x).length<(mk aE).length)||decide (Builtin.Str.strKind (mk x)<Builtin.Str.strKind (mk aE)))=true then [mk x]
  else if (occurrences (mk x) (mk aE) 0 (mk x).length ((mk x).length+1)).isEmpty=true then [mk x]
  else partsBetween (mk x) (occurrences (mk x) (mk aE) 0 (mk x).length ((mk x).length+1)) (mk aE).length)=_
 rw[aA,aA,rL];have one:fO x []=[x]:=by simp[fO]
 split
 ·rename_i h
  have hs:Builtin.Str.strKind (mk aE)=1:=by decide+kernel
  rw[hs] at h
  have hk: ¬Builtin.Str.strKind (mk x)<1:=by unfold Builtin.Str.strKind;split<;>(try split)<;>omega
  simp only[hk,decide_false,Bool.or_false,decide_eq_true_eq] at h
  have:fS x aE x.length (List.range' 0 (x.length+1)) 0 (x.length+1)=[]:=by
   have:=eZ (x:=x) (y:=aE) (hi:=x.length) (List.range' 0 (x.length+1)) [] 0 (x.length+1) fun i U=>by
    left
    unfold iQ;rw[beq_eq_false_iff_ne];intro e
    have:=congrArg List.length e
    rw[List.length_take,List.length_drop] at this
    exact Vy h this
   rw[List.append_nil] at this
   exact this
  rw[this,one];simp
 ·split
  ·rename_i h
   have:fS x aE x.length (List.range' 0 (x.length+1)) 0 (x.length+1)=[]:=by simpa using h
   rw[this,one];simp
  ·exact ui _ _
theorem oG (a b:List Nat) (kT:List Nat):fO (a++aE++b) (a.length::kT.map ((a++aE).length+ ·))=a::fO b kT:=by
 unfold fO;simp only[List.map_cons,List.cons_append,List.zip_cons_cons,List.map_map];congr 1
 ·simp
 ·have hl:(a++aE).length=a.length+3:=by simp[aE]
  have e1:(a.length+3)::kT.map ((fun x=>x+3)∘fun x=>(a++aE).length+x)=(0::kT.map (· +3)).map ((a++aE).length+ ·):=by
   simp only[List.map_cons,List.map_map,hl]
   congr 1
  have e2:kT.map ((a++aE).length+ ·)++[(a++aE++b).length]=(kT++[b.length]).map ((a++aE).length+ ·):=by
   simp only[List.map_append,List.map_cons,List.map_nil,List.length_append]
  rw[e1,e2,List.zip_map,List.map_map];refine List.map_congr_left fun p U=> ?_
  obtain⟨i,j⟩:=p;simp only[Function.comp,Prod.map];rw[List.drop_append,List.drop_of_length_le (Vo hl),List.nil_append];congr 1
  ·exact T2 hl
  ·congr 1;exact Vp hl
theorem jM {a r:List Nat}(h:46∉a) {i:Nat}(hi:i<a.length):iQ (a++r) aE i=false:=by
 unfold iQ;rw[beq_eq_false_iff_ne];intro e;have h1:((a++r).drop i).take 3=[46,46,46]:=e;have h2:((a++r).drop i).head? =some a[i]:=by
  rw[List.head?_drop,List.getElem?_append_left hi,List.getElem?_eq_getElem hi]
 have h3:(((a++r).drop i).take 3).head? =some a[i]:=by rw[List.head?_take,h2];rfl
 rw[h1] at h3
 simp at h3
 exact h (h3 ▸ List.getElem_mem _)
theorem n4 {a:List Nat}(h:46∉a):cutsOf a=[]:=by
 unfold cutsOf
 have:=eZ (x:=a) (y:=aE) (hi:=a.length) (List.range' 0 (a.length+1)) [] 0 (a.length+1) fun i hi=>by
  left
  by_cases hl:i<a.length
  ·have:=jM (r:=[]) h hl
   rwa [List.append_nil] at this
  ·unfold iQ;rw[List.drop_of_length_le (EL hl)];rfl
 rw[List.append_nil] at this
 exact this
theorem w9 {a b:List Nat}(h:46∉a):cutsOf (a++aE++b)=a.length::(cutsOf b).map ((a++aE).length+ ·):=by
 unfold cutsOf;have hl:(a++aE).length=a.length+3:=by simp[aE]
 have hn:(a++aE++b).length=a.length+3+b.length:=by rw[List.length_append,hl]
 have hr:List.range' 0 ((a++aE++b).length+1)=List.range' 0 a.length++(a.length::(List.range' (a.length+1) 2++(List.range' 0 (b.length+1)).map ((a++aE).length+ ·))):=by
  rw[hn,hl,List.map_add_range',show a.length+3+b.length+1=a.length+(1+(2+(b.length+1))) by exact ZE,←List.range'_append_1,←List.range'_append_1,←List.range'_append_1];simp
 rw[hr,eZ]
 ·have zq:iQ (a++aE++b) aE a.length=true:=by
   unfold iQ;rw[List.append_assoc,List.drop_left];rfl
  rw[fS.eq_2,if_pos ⟨by exact Jh,Nat.zero_le _,by rw[hn];show a.length+3≤_;exact YT,zq⟩];congr 1;rw[eZ]
  ·have e:=i5 (a:=a++aE) (b:=b) (y:=aE) (hi:=b.length) (List.range' 0 (b.length+1)) 0 ((a++aE++b).length+1-1);have e2:(a++aE++b).length=(a++aE).length+b.length:=by rw[List.length_append]
   rw[←e2] at e
   rw[show a.length+aE.length=(a++aE).length+0 by rw[List.length_append];rfl,e,ke _ _ _ (b.length+1)]
   ·simp[aE];try omega
   ·simp
  ·intro i hi;right
   have:=List.mem_range'_1.mp hi
   show i<a.length+3;exact Yo this.2
 ·intro i hi;left
  have:=List.mem_range'_1.mp hi
  rw[List.append_assoc];exact jM h (NI this.2)
theorem kE: ∀(ps:List (List Nat)),ps≠[]→(∀a∈ps,46∉a)→fO (aB aE ps) (cutsOf (aB aE ps))=ps
 | [],h,_=>absurd rfl h
 | [a],_,h=>by
  show fO a (cutsOf a)=[a];rw[n4 (h a (.head _))];simp[fO]
 | a::b::r,_,h=>by
  show fO (a++aE++aB aE (b::r)) (cutsOf (a++aE++aB aE (b::r)))=_;rw[w9 (h a (.head _)),oG,kE (b::r) (by simp) fun c hc=>h c (.tail _ hc)]
theorem rr {ps:List (List Nat)}(h0:ps≠[]) (h: ∀a∈ps,46∉a):j0 (aB aE ps) aE=ps:=by
 rw[tW];exact kE ps h0 h
theorem wV {ps:List (List Nat)}(h0:ps≠[]) (h: ∀a∈ps,46∉a):sb (aB aE ps) aE=decide (2≤ps.length):=by
 unfold sb;rw[aA,rL]
 match ps,h0,h with
 | [a],_,h=>
  have:=n4 (h a (.head _))
  unfold cutsOf at this
  show (!(fS a aE a.length (List.range' 0 (a.length+1)) 0 1).isEmpty)=false;have e:=eZ (x:=a) (y:=aE) (hi:=a.length) (List.range' 0 (a.length+1)) [] 0 1 fun i hi=>by
   left
   by_cases hl:i<a.length
   ·have:=jM (r:=[]) (h a (.head _)) hl
    rwa [List.append_nil] at this
   ·unfold iQ;rw[List.drop_of_length_le (EL hl)];rfl
  rw[List.append_nil] at e
  rw[e];rfl
 | a::b::r,_,h=>
  have hx:aB aE (a::b::r)=a++aE++aB aE (b::r):=rfl;rw[hx];generalize aB aE (b::r)=c;have hn:(a++aE++c).length=a.length+3+c.length:=by simp[aE];exact Y8
  have hr:List.range' 0 ((a++aE++c).length+1-0)=List.range' 0 a.length++(a.length::List.range' (a.length+1) (3+c.length)):=by
   rw[hn,show a.length+3+c.length+1-0=a.length+(1+(3+c.length)) by exact UJ hn,←List.range'_append_1,←List.range'_append_1];simp
  rw[hr,eZ]
  ·have zq:iQ (a++aE++c) aE a.length=true:=by
    unfold iQ;rw[List.append_assoc,List.drop_left];rfl
   rw[fS.eq_2,if_pos ⟨by exact Vr hn,Nat.zero_le _,by rw[hn];show a.length+3≤_;exact UI hn,zq⟩];simp
  ·intro i hi;left
   have:=List.mem_range'_1.mp hi
   rw[List.append_assoc];exact jM (h a (.head _)) (NI this.2)
end
def b6 (got:List Nat):List (List Nat)→Nat→Nat→Bool
 | [],_,_=>true
 | w::r,s,e=>if kS got w s e<0 then false else b6 got r ((kS got w s e).toNat+w.length) e
def di (got:List Nat) (ws:List (List Nat)) (s:Nat):Bool:=
 let wl:=ws.getLastD []
 if wl≠[]∧wl.isSuffixOf got=false then false else
 if got.length-wl.length<s then false else b6 got (if wl=[] then ws else ws.dropLast) s (got.length-wl.length)
def eA (ps:List (List Nat)) (got:List Nat):Bool:=
 if ps.length<2 then aB aE ps==got else
 if ps.headD []≠[]∧(ps.headD []).isPrefixOf got=false then false else
 di got (if ps.headD []=[] then ps else ps.tail) (ps.headD []).length
theorem gO {got:List Nat}{ws:List (List Nat)}{s:Nat}(h0:ws.getLastD []≠[]) (h:(ws.getLastD []).isSuffixOf got=true):
  di got ws s=if got.length-(ws.getLastD []).length<s then false else b6 got ws.dropLast s (got.length-(ws.getLastD []).length):=by
 unfold di;simp only[h,Bool.true_eq_false,and_false,if_false,if_neg h0]
theorem nY {got:List Nat}{ws:List (List Nat)}{s:Nat}(h0:ws.getLastD []≠[]) (h:(ws.getLastD []).isSuffixOf got=false):di got ws s=false:=by
 unfold di;rw[if_pos ⟨h0,h⟩]
theorem jf {got:List Nat}{ws:List (List Nat)}{s:Nat}(h0:ws.getLastD []=[]):di got ws s=if got.length<s then false else b6 got ws s got.length:=by
 unfold di;rw[h0];simp
theorem ly {got:List Nat}{ps:List (List Nat)}(h2: ¬ps.length<2) (h0:ps.headD []≠[]) (h:(ps.headD []).isPrefixOf got=true):eA ps got=di got ps.tail (ps.headD []).length:=by
 unfold eA;rw[if_neg h2];simp only[h,Bool.true_eq_false,and_false,if_false,if_neg h0]
theorem vU {got:List Nat}{ps:List (List Nat)}(h2: ¬ps.length<2) (h0:ps.headD []≠[]) (h:(ps.headD []).isPrefixOf got=false):eA ps got=false:=by
 unfold eA;rw[if_neg h2,if_pos ⟨h0,h⟩]
theorem jJ {got:List Nat}{ps:List (List Nat)}(h2: ¬ps.length<2) (h0:ps.headD []=[]):eA ps got=di got ps 0:=by
 unfold eA;rw[if_neg h2,h0];simp
theorem mU {n:Nat}(h:0<n):seqIndex? 0 n=some 0:=by
 unfold seqIndex?;have e:(decide ((0:Int)≤0)&&decide ((0:Int)<(n:Int)))=true:=by simp;exact h
 simp[h]
theorem w0 (got w:List Nat) (s e:Nat):(kS got w s e= -1)∨(0≤kS got w s e∧(kS got w s e).toNat+w.length≤e):=by
 rcases f6 got w s e with ⟨h,_⟩ | ⟨i,h,_,h2,_⟩
 ·exact .inl h
 ·right;rw[h];constructor<;>omega
section
variable {prog:Program}{w:World}{T:aX}{n:Nat}
theorem H9 {a:mP}(D:Text T a) (G:cS T) {ps:List (List Nat)}{got:List Nat}(h0:ps≠[]) (hf: ∀p∈ps,46∉p) (hg:got.length≤100000) (hw:(aB aE ps).length≤100000) (hp: ∀p∈ps,p.length≤100000) (hl:ps.length≤1000):
  tm prog w T (n+1) (.ref a.Gb) [.str (aB aE ps),.str got] (.bool (eA ps got)):=
 fG D.Gb ["want","got"] ["ws","startpos","endpos","w"] (fun U U U U U U us hl=>by refine xM (rS hl) fun u v ah=> ?_;subst ah;rfl) dC dC rfl dC rfl rfl rfl (fun A L g os bu σ O Y=>by
  show SE _ _ _ _ [(("want":Str),some (.str (aB aE ps))),(("got":Str),some (.str got)),(("ws":Str),none),(("startpos":Str),none),(("endpos":Str),none),(("w":Str),none)] σ _;refine gF D.aE fun td gd=> ?_
  have F3: ∀ρ σ pos,PE prog w _ (.Name ("ELLIPSIS_MARKER":Str) pos) ρ σ (.str aE):=fun ρ σ pos=>jw (cP O rfl gd) (.str aE td)
  have Mo:=wV h0 hf;refine af (bH (bb (F3 _ _ _) (ag Y 0 rfl) sv) (fun h=> ?_) (fun h=>aj ?_))
  ·rw[Mo] at h
   have h2:ps.length<2:=by simpa using h
   refine af (bf (v:=.bool (eA ps got)) ?_ ⟨rfl,.refl _⟩);unfold eA;rw[if_pos h2];exact fN (ag Y 0 rfl) (ag Y 1 rfl) gD
  rw[Mo] at h
  have h2: ¬ps.length<2:=by simpa using h
  refine af (du Y (ρf:=fun b=>[(("want":Str),some (.str (aB aE ps))),(("got":Str),some (.str got)),(("ws":Str),some (.ref b)),(("startpos":Str),none),(("endpos":Str),none),(("w":Str),none)])
   (DL (ag Y 0 rfl) (rP (fun x t s pl Q h=>GM.split h) _) (gQ (F3 _ _ _)) (EE dC (à hw))) (fun b=>.there (.there .here)) (fun b hb=> ?_))
  rw[rr h0 hf];have hlen:(aG ps).length=ps.length:=by simp[aG]
  refine af (wk ?_ ?_)
  ·have e:decide (2≤((aG ps).length:Int))=true:=by rw[decide_eq_true_eq,hlen];exact ZS h2
   rw[←e];exact bb (bg (aC O rfl G.len.1 G.len.2) (gQ (ag Y 2 rfl)) (z3 (.inl (.head _)) (Aa hl hlen))) ai zU
  have Fu: ∀(ws:List (List Nat)) (s e:Nat) (o:Option PV),e≤got.length→ws.length≤1000→(∀p∈ws,p.length≤100000)→
    SE prog w ⟨A,envX "_ellipsis_match" (ao (ST 3)) L a.Gb bu [],L,L,g,os,(["want","got"]:List Str)++(["ws","startpos","endpos","w"]:List Str)⟩ ((bodyOf (ST 3)).drop 8)
     [(("want":Str),some (.str (aB aE ps))),(("got":Str),some (.str got)),(("ws":Str),some (.ref b)),(("startpos":Str),some (.int s)),(("endpos":Str),some (.int e)),(("w":Str),o)]
     ((b,az (aG ws))::σ) (fun f U σ'=>f.val= .bool (if e<s then false else b6 got ws s e)∧σ.Sublist σ'):=by
   intro ws s e o he jA FI;refine af (bH (bb (ag Y 3 rfl) (ag Y 4 rfl) mG) (fun h=> ?_) (fun h=>aj ?_))
   ·have h:=of_decide_eq_true h;refine af (bf iI ⟨?_,.cons _ (.refl _)⟩);rw[if_pos (YM h)];rfl
   have h:=of_decide_eq_false h;rw[if_neg (Wm h)];refine af (oo (aG ws).length (fun i=>(aG ws).getD i .none) (uw b)
    (fun i ρ σ'=>σ'=(b,az (aG ws))::σ∧ ∃(s':Nat) (o:Option PV),ρ=[(("want":Str),some (.str (aB aE ps))),(("got":Str),some (.str got)),(("ws":Str),some (.ref b)),(("startpos":Str),some (.int s')),(("endpos":Str),some (.int e)),(("w":Str),o)]∧s'≤1000000∧
     b6 got (ws.drop i) s' e=b6 got ws s e)
    (oK (ag Y 2 rfl) (.head _)) ⟨rfl,s,o,rfl,by exact UU hg he h,by simp⟩ ?_ ?_ ?_ ?_)
   ·rintro I i ρ σ' hi ⟨rfl,_⟩
    exact(dq (S:=fun σ=>(b,az (aG ws))∈σ) fun U h=>h).nx _ I i _ O.hh hi (.head _)
   ·rintro I ρ σ' ⟨rfl,_⟩
    exact(dq (S:=fun σ=>(b,az (aG ws))∈σ) fun U h=>h).nd _ I _ O.hh (.head _)
   ·rintro I i ρ σ' hi ⟨rfl,s',o,rfl,gw,Km⟩ hI;rw[aO] at hi
    have hx:(aG ws).getD i .none= .str (ws.getD i []):=jv ws i hi;refine⟨_,_,fun u hu=>aq Y (.there (.there (.there (.there (.there .here))))) hu,?_⟩;rw[hx];have hd:ws.drop i=ws.getD i []::ws.drop (i+1):=by
     rw[List.drop_eq_getElem_cons hi,List.getD_eq_getElem?_getD,List.getElem?_eq_getElem hi];rfl
    have FJ:(ws.getD i []).length≤100000:=FI _ (by rw[List.getD_eq_getElem?_getD,List.getElem?_eq_getElem hi];exact List.getElem_mem _);generalize ws.getD i []=x at hd FJ ⊢
    rw[hd] at Km
    refine af (aI Y (gu (ag Y 1 rfl) (rP (fun x t s pl Q h=>GM.find h) _) (ž (ag Y 5 rfl) (ag Y 3 rfl) (ag Y 4 rfl)) (EH sH sH (Xw he))) (.there (.there (.there .here))) ?_);refine af (bH (bb (ag Y 3 rfl) ai zQ) (fun h=> ?_) (fun h=>aj ?_))
    ·have h:=of_decide_eq_true h;refine af (bf iI ⟨?_,.cons _ (.cons _ (.refl _))⟩);simp only[Int.toNat_natCast] at h
     rw[←Km,b6.eq_2,if_pos h];rfl
    ·have h:=of_decide_eq_false h;simp only[Int.toNat_natCast] at h ⊢
     have hr:=w0 got x s' e;refine af (lS (fZ Y (.tail _ (.tail _ (.tail _ (.head _))))) (bg (aC O rfl G.len.1 G.len.2) (gQ (ag Y 5 rfl)) (fj (xr FJ))) oM (fun u hu=>aq Y (.there (.there (.there .here))) hu) ?_);have ev:kS got x s' e+(x.length:Int)=(((kS got x s' e).toNat+x.length:Nat):Int):=S6 h;refine aj ⟨_,⟨rfl,(kS got x s' e).toNat+x.length,some (.str x),by rw[ev],by exact S2 hg he hr ev,?_⟩,.refl _⟩
     ·rw[←Km]
      conv=>rhs;rw[b6.eq_2,if_neg h]
   ·rintro ρ σ' ⟨rfl,s',o,rfl,gw,Km⟩;rw[aO,List.drop_of_length_le (Nat.le_refl _)] at Km
    refine aj (af (bf iI ⟨?_,.cons _ (.refl _)⟩));rw[←Km];rfl
  have Fv: ∀(ws:List (List Nat)) (s:Nat) (o:Option PV),ws≠[]→ws.length≤1000→(∀p∈ws,p.length≤100000)→
    SE prog w ⟨A,envX "_ellipsis_match" (ao (ST 3)) L a.Gb bu [],L,L,g,os,(["want","got"]:List Str)++(["ws","startpos","endpos","w"]:List Str)⟩ ((bodyOf (ST 3)).drop 6)
     [(("want":Str),some (.str (aB aE ps))),(("got":Str),some (.str got)),(("ws":Str),some (.ref b)),(("startpos":Str),some (.int s)),(("endpos":Str),some (.int got.length)),(("w":Str),o)]
     ((b,az (aG ws))::σ) (fun f U σ'=>f.val= .bool (di got ws s)∧σ.Sublist σ'):=by
   intro ws s o dm jA FI;have ib:0<ws.length:=List.length_pos_iff.mpr dm;have uA:=aO ws;refine af (aI Y (bR (i:= -1) (p:=.str (ws.getLastD [])) (ag Y 2 rfl) (.inl (.head _)) (eO ai) (Yu ib uA) Al (Aa jA uA) (my ws dm)) (.there (.there (.there (.there (.there .here))))) ?_);have FJ:(ws.getLastD []).length≤100000:=by
    rw[List.getLastD_eq_getLast?,List.getLast?_eq_some_getLast dm];exact FI _ (List.getLast_mem dm)
   refine af (bH (eH (ag Y 5 rfl) (fun u s h I=>lF (xr FJ) u s h I)) (fun h=> ?_) (fun h=> ?_))
   ·have uB:ws.getLastD []≠[]:=by intro e;rw[e] at h;simp at h
    refine af (bH (jL (gu (ag Y 1 rfl) (rP (fun x t s pl Q h=>GM.endswith h) _) (gQ (ag Y 5 rfl)) uM)) (fun h=> ?_) (fun h=> ?_))
    ·rw[vT] at h
     have hle:(ws.getLastD []).length≤got.length:=(List.isSuffixOf_iff_suffix.mp h).length_le;refine af (lS (fZ Y (.tail _ (.tail _ (.tail _ (.tail _ (.head _)))))) (bg (aC O rfl G.len.1 G.len.2) (gQ (ag Y 5 rfl)) (fj (xr FJ))) Hs (fun u hu=>aq Y (.there (.there (.there (.there .here)))) hu) ?_);refine af (vm (j:= -1) (k:=ws.length-1) (ag Y 2 rfl) (eO ai) dC dC ?_ (Aa jA uA) .here ?_)
     ·rw[uA,seqIndex_neg dC (Ī ib)];congr 1;exact OG
     ·rw[oy,show (got.length:Int)-((ws.getLastD []).length:Int)=((got.length-(ws.getLastD []).length:Nat):Int) by exact Wu hle]
      have:=Fu ws.dropLast s (got.length-(ws.getLastD []).length) (some (.str (ws.getLastD []))) YN (by rw[List.length_dropLast];exact Of jA) (fun p hp=>FI p (List.dropLast_subset _ hp))
      refine aj (aj (this.mono fun f bC σ' q=>⟨q.1.trans ?_,q.2⟩));rw[gO uB h]
    ·rw[vT] at h
     refine af (bf iI ⟨?_,.cons _ (.refl _)⟩);rw[nY uB h];rfl
   ·have uB:ws.getLastD []=[]:=by
     rcases hq:ws.getLastD [] with _ | ⟨c,r⟩
     ·rfl
     ·rw[hq] at h;simp at h
    refine aj (((Fu ws s got.length (some (.str (ws.getLastD []))) (Nat.le_refl _) jA FI).mono fun f bC σ' q=>⟨q.1.trans ?_,q.2⟩));rw[jf uB]
  have ib:0<ps.length:=ZQ h2;refine af (fX (names:=["startpos","endpos"]) (b0 (fW (.cons ai (.cons (bg (aC O rfl G.len.1 G.len.2) (gQ (ag Y 1 rfl)) (fj (xr hg))) .nil)))) (fun v σ' r=> ?_));refine aF r fun c ah aU=> ?_;clear r;subst ah;subst aU
  refine⟨c,_,rfl,fz O.hh (.head _),rfl,cD (fq (fun u hu=>aq Y (.there (.there (.there (.there .here)))) hu)) (cD (fq (fun u hu=>aq Y (.there (.there (.there .here))) hu)) (gV ?_))⟩;refine SE.sub ?_ (.cons _ (.refl _));have h1:=rY ps h0;refine af (aI Y (bR (i:=0) (p:=.str (ps.headD [])) (ag Y 2 rfl) (.inl (.head _)) ai Ak (XX hlen ib) (Aa hl hlen) h1) (.there (.there (.there (.there (.there .here))))) ?_);have FJ:(ps.headD []).length≤100000:=by
   cases ps with
   | nil=>exact absurd rfl h0
   | cons x r=>exact hp x (.head _)
  refine af (bH (eH (ag Y 5 rfl) (fun u s h I=>lF (xr FJ) u s h I)) (fun h=> ?_) (fun h=> ?_))
  ·have uB:ps.headD []≠[]:=by intro e;rw[e] at h;simp at h
   refine af (bH (jL (gu (ag Y 1 rfl) (rP (fun x t s pl Q h=>GM.startswith h) _) (gQ (ag Y 5 rfl)) oX)) (fun h=> ?_) (fun h=> ?_))
   ·rw[ny] at h
    refine af (aI Y (bg (aC O rfl G.len.1 G.len.2) (gQ (ag Y 5 rfl)) (fj (xr FJ))) (.there (.there (.there .here))) ?_);refine af (vm (j:=0) (k:=0) (ag Y 2 rfl) ai dC dC ?_ (Aa hl hlen) .here ?_)
    ·rw[hlen];exact mU ib
    ·rw[wy]
     have:=Fv ps.tail (ps.headD []).length (some (.str (ps.headD []))) (by intro e;have:=congrArg List.length e;rw[List.length_tail] at this;simp at this;exact ZR h2 this) (by rw[List.length_tail];exact Of hl) (fun p hq=>hp p (List.mem_of_mem_tail hq))
     refine aj (aj (this.mono fun f bC σ' q=>⟨q.1.trans ?_,q.2⟩));rw[ly h2 uB h]
   ·rw[ny] at h
    refine af (bf iI ⟨?_,.cons _ (.refl _)⟩);rw[vU h2 uB h];rfl
  ·have uB:ps.headD []=[]:=by
    rcases hq:ps.headD [] with _ | ⟨c,r⟩
    ·rfl
    ·rw[hq] at h;simp at h
   refine aj (((Fv ps 0 (some (.str (ps.headD []))) h0 hl hp).mono fun f bC σ' q=>⟨q.1.trans ?_,q.2⟩));rw[jJ h2 uB])
end
noncomputable def fe (ρ:Ro):Obj→Prop:=fun o=> ∃m es ep,gE ρ m∧o.data= .dict es ep∧StrKeys es∧UniqKeys es∧ ∀name,nsFind es name=m name
theorem fe.Pt {ρ:Ro}{o:Obj}{h:Heap}{d:Addr}(x:fe ρ o) (e:h.get? d=some o): ∃m,gE ρ m∧h.Ns1 d m:=by
 refine K1 x fun m es ep r hd k u f=> ?_
 exact⟨m,r,o,es,ep,e,hd,k,u,f⟩
theorem DW {ρ:Ro}{m:Str→Option Value}{h:Heap}{d:Addr}(R:gE ρ m) (x:h.Ns1 d m): ∃o,h.get? d=some o∧fe ρ o:=by
 refine K1 x fun o es ep e hd k u f=> ?_
 exact⟨o,e,m,es,ep,R,hd,k,u,f⟩
noncomputable def y7 (C d:Addr) (data:Data→Prop):Obj→Prop:=fun o=>o.cls= .ref C∧o.dict=some d∧data o.data∧o.slots= #[]
noncomputable def fM:Data→Prop:=fun x=>x= .plain
noncomputable def yy (ps:List PV):Data→Prop:=fun x=> ∃vs n,cu ps vs∧x= .seq vs.toArray n
theorem yy.notCls {ps:List PV}{x:Data}(h:yy ps x): ∀c,x≠ .cls c:=by refine mO h fun vs n U ah=> ?_;clear h;subst ah;intro c e;cases e
theorem fM.notCls {x:Data}(h:fM x): ∀c,x≠ .cls c:=by cases h;intro c e;cases e
section
variable {prog:Program}{w:World}{A:Around}{E:Value→Shared→Prop}{s:Shared}{K:Frag}{C x d:Addr}{cd:ClassData}{m:Str→Option Value}
structure c9 (K:Frag) (C:Addr) (cd:ClassData):Prop where
 cls:clsIn K C=some cd
 dict:cd.hasDict=true
 ne:cd.mro.isEmpty=false
 obj:cd.mro.contains (.type "object")=true
 pass: ∀self,refuseLoop self "__setattr__" cd.mro=pure ()
 ga:findIn K (.ref C) "__getattribute__"=some (some (.builtin "object.__getattribute__"))∨(findIn K (.ref C) "__getattribute__"=some (some (.builtin "list.__getattribute__"))∧cd.mro.contains (.type "list")=true)
 gk:findIn K (.ref C) "__getattr__"=some none
 sa:findIn K (.ref C) "__setattr__"=some (some (.builtin "object.__setattr__"))
 cop:(cd.mro.contains (.type "staticmethod")||cd.mro.contains (.type "classmethod"))=false
theorem c9.mro (Y:c9 K C cd) (X:K.In s.heap) {M:Model}:Looks M s.heap (mroOf (.ref C)) cd.mro:=(looks_clsIn X Y.cls).andThen .now
theorem Hf {ox:Obj}{name:Str}{v:Value}{tk:Tok}{ns:List Str}{R:Result→Shared→Prop}(X:K.In s.heap) (Y:c9 K C cd) (hx:s.heap.get? x=some ox) (hc:ox.cls= .ref C) (mA: ∀c,ox.data≠ .cls c) (hd:ox.dict=some d) (hn:s.heap.Ns1 d m)
  (hf:findIn K (.ref C) name=some none) (hw:Within m ns) (hz:ns.length≤1000)
  (hq: ∀h' tk,h'.Ns1 d (fun y=>if y=name then some v else m y)→Heap.SameBut d s.heap h'→R (.ok (.ret .none)) {s with heap:=h',toks:=tk}):
  codeAny (model prog w) A (.call (.builtin "object.__setattr__") ⟨[.ref x,.str name tk,v],[]⟩) R s:=by
 have SF:=PySem.F.store_object;have T: ∀{M:Model},Looks M s.heap (typeOf (.ref x)) (.ref C):=hc ▸ (Looks.ld hx).andThen .now;have sub:Looks (model prog w) s.heap (isInstance (.ref x) (.type "object")) true:=T.andThen (looks_mroIn X (by unfold mroIn;rw[Y.cls,Option.bind_some,if_neg (by rw[Y.ne];decide),Y.obj]));refine codeAny_call_builtin SF.slot.plain SF.entry (@check_slot (model prog w) _ _ s "object.__setattr__" "object" "__setattr__" (.ref x) [.str name tk,v] [] _ SF.kind SF.split sub (SF.args (.ref x) (.str name tk) v) ?_);rw[osa_eq,refuse_eq];refine wpAny_bind (wpAny_bind (T.here (wpAny_bind ((Y.mro X).here ?_))));rw[Y.pass];refine wpAny_pure (wpAny_bind (T.here (wpAny_bind ((looks_findIn X hf).here (wpAny_bind (wpAny_pure ?_))))));obtain⟨oc,odi,oda,osl⟩:=ox;dsimp only at hc hd mA
 subst hc hd;refine wpAny_bind (wpAny_pure (wpAny_bind (wpAny_bind (wpAny_loadPart hx ?_))));cases oda<;>first
  | exact absurd rfl (mA _)
  | (refine wpAny_bind ((looks_clsIn X Y.cls).here ?_)
     rw[Y.dict];refine wpAny_pure (a:=some d) (wpAny_bind (wpAny_pure (wpAny_bind ?_)));refine wpAny_nsSet1 hn fun h' xQ gw=> ?_
     refine DH (xQ.count (Within.cons name v hw)) fun oD esD epD LY hdD hcD=> ?_
     refine wpAny_bind (wpAny_lookBehind LY (by rw[hdD];exact pastItsLine_dict (by rw[List.length_cons] at hcD;rw[sizeLine_eq];exact WZ hz hcD)) ?_);exact wpAny_pure (hq _ _ xQ gw))
theorem tY {ox:Obj}{name:Str}{v:Value}{ns:List Str}{Q:Unit→Shared→Prop}(X:K.In s.heap) (Y:c9 K C cd) (hx:s.heap.get? x=some ox) (hc:ox.cls= .ref C) (mA: ∀c,ox.data≠ .cls c) (hd:ox.dict=some d) (hn:s.heap.Ns1 d m)
  (hf:findIn K (.ref C) name=some none) (hw:Within m ns) (hz:ns.length≤1000)
  (hq: ∀h' tk,h'.Ns1 d (fun y=>if y=name then some v else m y)→Heap.SameBut d s.heap h'→Q () {s with heap:=h',toks:=tk}):
  wpAny (model prog w) A (setAttr (.ref x) name v) Q E s:=by
 have SF:=PySem.F.store_object;have T: ∀{M:Model},Looks M s.heap (typeOf (.ref x)) (.ref C):=hc ▸ (Looks.ld hx).andThen .now;refine wpAny_bind (wpAny_mkText (wpAny_bind (wpAny_bind (wpAny_bind (T _ _ _ _ (fun U U e=>e) (looks_findIn X Y.sa _ _ _ _ (fun U U e=>e) (wpAny_holding ?_)))))));rw[SF.slot.bind];refine wpAny_bind (wpAny_pure (wpAny_bind (wpAny_call ?_)));exact Hf (s:={s with toks:=s.toks+1}) X Y hx hc mA hd hn hf hw hz fun h' tk xQ gw=>wpAny_pure (wpAny_pure (hq h' tk xQ gw))
theorem oJ {od:Obj}{es:Array DictEntry}{ep:Nat}{name:Str}{r:Option Value}(hd:od.data= .dict es ep) (hk:StrKeys es) (hf:nsFind es name=r):lookIn name od=some r:=by
 unfold lookIn;rw[hd];dsimp only;have e:(es.toList.find? fun e=>e.key.isStr name).map (·.val)=r:=by
  rw[←hf];unfold nsFind findBy;rw[←Array.find?_toList]
 cases h:es.toList.find? (fun e=>e.key.isStr name) with
 | some en=>rw[h] at e;rw[←e];rfl
 | none=>
  rw[h] at e
  rw[if_neg,←e]; · rfl
  rw[List.any_eq_true];rintro ⟨en,hm,hr⟩;refine K3 (hk en (by simpa using hm)) fun n t RY=> ?_
  unfold DictEntry.refKey at hr
  rw[RY] at hr
  simp at hr
theorem xh {M:Model}{i owner n:String}{self:Value}{rest:List Value}{Q:Unit→Shared→Prop}(hk:builtinKind i=some .slot∨builtinKind i=some .method) (hs:splitId i=some (owner,n))
  (hi:Looks M s.heap (isInstance self (.type owner)) true) (ha:argsOk i ⟨self::rest,[]⟩) (q:Q () s):wpAny M A (checkBuiltinCall i ⟨self::rest,[]⟩) Q E s:=by
 rcases hk with hk | hk
 all_goals
  simp only[checkBuiltinCall,hk,hs]
  refine wpAny_bind (hi.here ?_);simp only[Bool.not_true,Bool.false_eq_true,if_false];cases RB:Manifest.signature? i with
  | none=>exact wpAny_pure q
  | some sig=>
   simp only[argsOk,RB] at ha
   have h2:Bind.checkArgs i sig ⟨self::rest,[]⟩=pure ():=ha;show wpAny M A (Bind.checkArgs i sig ⟨self::rest,[]⟩) Q E s;rw[h2];exact wpAny_pure q
theorem gP {i owner n:String}{B:Builtin}{self:Value}{rest:List Value}{Q:Value→Shared→Prop}(hp:plainId i=true) (hb:entryFor table i=some B) (hk:builtinKind i=some .slot∨builtinKind i=some .method) (hs:splitId i=some (owner,n))
  (hi:Looks (model prog w) s.heap (isInstance self (.type owner)) true) (ha:argsOk i ⟨self::rest,[]⟩)
  (h:wpAny (model prog w) A.in1 (B ⟨self::rest,[]⟩) (fun fin s'=> ∃v,fin= .done (.ret v)∧Q v s') E s):wpAny (model prog w) A (call (.builtin i) (self::rest)) Q E s:=
 wpAny_call (codeAny_call_builtin hp hb (xh hk hs hi ha (wpAny_mono h (fun fin s' q=>by refine aF q fun v ah hv=> ?_;clear q;subst ah;exact hv) fun U U f=>f)))
theorem f5 (X:K.In s.heap) (Y:c9 K C cd) (hl:cd.mro.contains (.type "list")=true) {ox:Obj}(hx:s.heap.get? x=some ox) (hc:ox.cls= .ref C) {M:Model}:Looks M s.heap (isInstance (.ref x) (.type "list")) true:=by
 have T:Looks M s.heap (typeOf (.ref x)) (.ref C):=hc ▸ (Looks.ld hx).andThen .now;exact T.andThen (looks_mroIn X (by unfold mroIn;rw[Y.cls,Option.bind_some,if_neg (by rw[Y.ne];decide),hl]))
section
variable {ox:Obj}{od:Option Obj}{name:Str}{expr:Bool}{Q:Value→Shared→Prop}
theorem c9.gaC (Y:c9 K C cd): ∃id,findIn K (.ref C) "__getattribute__"=some (some (.builtin id))∧(Manifest.canonical id != "object.__getattribute__")=false:=by
 rcases Y.ga with h | h
 ·exact⟨_,h,PySem.F.canon_object_ga⟩
 ·exact⟨_,h.1,canon_list_getattribute⟩
theorem getL (X:K.In s.heap) (I:W.InstAt s.heap x ox C od) (Y:c9 K C cd) (zg:findIn K (.ref C) "__getattribute__"=some (some (.builtin "list.__getattribute__"))) (hl:cd.mro.contains (.type "list")=true) {R:Value→Shared→Prop}
  (h:wpAny (model prog w) A.in1 (Builtin.«object.__getattribute__» ⟨[.ref x,.str name s.toks],[]⟩) (fun fin s'=> ∃v,fin= .done (.ret v)∧wpAny (model prog w) A (handedOut v) Q E s') (fun U U=>False) {s with toks:=s.toks+1}):
  wpAny (model prog w) A (getAttr (.ref x) name expr) Q E s:=by
 obtain⟨hp,g,dr,t,os⟩:=s;have L0:=I.type (M:=model prog w);have L1:=looks_findIn (M:=model prog w) X zg;have L2:=looks_findIn (M:=model prog w) X Y.gk;unfold getAttr getAttrBy;refine wpAny_bind (wpAny_mkText (wpAny_holding (wpAny_bind (L0.at (wpAny_bind (L1.at ?_))))));show wpAny _ _ (getAttrByItsOwn (.ref x) (.str name t) (.ref C) (.builtin "list.__getattribute__") true expr) _ _ _;unfold getAttrByItsOwn hookBefore callGetattribute boundAndCalled;refine wpAny_bind (L2.at ?_);refine wpAny_bind (wpAny_attempt (wpAny_holding ?_));have hx:(expr&&onTheHeap (.builtin "list.__getattribute__"))=false:=by cases expr<;>rfl
 rw[hx,if_neg Bool.false_ne_true];refine wpAny_bind (wpAny_of_eq (PySem.F.slot_list_getattribute.bind _) ?_);refine wpAny_mono (Q:=fun v s'=>wpAny (model prog w) A (handedOut v) Q E s') (E:=fun U U=>False) (gP (n:="__getattribute__") (by decide+kernel) am_entry_list_getattribute (.inl (by decide+kernel)) (by decide+kernel) (f5 X Y hl I.at_ I.cls) (PySem.F.args_list_getattribute_2 _ _) h) (fun v s' hv=> ?_) fun U U z=>z.elim
 exact hv
theorem Su {v:Value}(X:K.In s.heap) (I:W.InstAt s.heap x ox C od) (Y:c9 K C cd) (hf:findObj K C od name=some (.value v)) (hh:handedIn v=true) (h:Q v {s with toks:=s.toks+1}):wpAny (model prog w) A (getAttr (.ref x) name expr) Q E s:=by
 rcases Y.ga with zg | ⟨zg,hl⟩
 ·exact get_value X I zg hf hh h
 ·refine getL (R:=Q) X I Y zg hl ?_
  obtain⟨hp,g,dr,t,os⟩:=s;refine wpAny_bind (wpAny_pure (wpAny_bind (wpAny_pure (wpAny_bind ((I.type (M:=model prog w)).at (wpAny_bind ((looks_find (M:=model prog w) X I hf).at ?_)))))));refine wpAny_pure ⟨_,rfl,?_⟩;rw[handedOut_of hh];exact wpAny_pure h
theorem Sv {g a:Value}(X:K.In s.heap) (I:W.InstAt s.heap x ox C od) (Y:c9 K C cd) (hf:findObj K C od name=some (.bind g a))
  (h:wpAny (model prog w) A.in1 (call g [a,.ref x,.ref C]) (fun v s'=>wpAny (model prog w) A (handedOut v) Q E s') (fun U U=>False) {s with toks:=s.toks+1}):
  wpAny (model prog w) A (getAttr (.ref x) name expr) Q E s:=by
 rcases Y.ga with zg | ⟨zg,hl⟩
 ·exact get_bind X I zg hf Y.gk (wpAny_mono h (fun U U z=>z) fun U U z=>z.elim)
 ·refine getL (R:=Q) X I Y zg hl ?_
  obtain⟨hp,gg,dr,t,os⟩:=s;refine wpAny_bind (wpAny_pure (wpAny_bind (wpAny_pure (wpAny_bind ((I.type (M:=model prog w)).at (wpAny_bind ((looks_find (M:=model prog w) X I hf).at ?_)))))));show wpAny _ _ (holding [a] (call g [a,.ref x,.ref C]) >>= ret) _ _ _;exact wpAny_bind (wpAny_holding (wpAny_mono h (fun v s' z=>wpAny_pure ⟨v,rfl,z⟩) fun U U z=>z))
end
theorem mD {ox:Obj}{name:Str}{v:Value}{expr:Bool}{Q:Value→Shared→Prop}(X:K.In s.heap) (Y:c9 K C cd) (hx:s.heap.get? x=some ox) (hc:ox.cls= .ref C) (mA: ∀c,ox.data≠ .cls c) (hd:ox.dict=some d) (hn:s.heap.Ns1 d m)
  (hf:findIn K (.ref C) name=some none) (hv:m name=some v) (hh:handedIn v=true) (hq:Q v {s with toks:=s.toks+1}):wpAny (model prog w) A (getAttr (.ref x) name expr) Q E s:=by
 refine K1 hn fun od es ep ho HO hk hu zj=> ?_
 have I:InstAt s.heap x ox C (some od):=⟨hx,hc,by unfold notCls;cases h:ox.data<;>first | rfl | exact absurd h (mA _),by rw[hd];exact ho⟩;have hl:lookIn name od=some (some v):=oJ HO hk (zj name ▸ hv);refine Su X I Y ?_ hh hq;unfold findObj;rw[Y.cls,Option.bind_some,hf,Option.bind_some];show (some none).bind _ =_;rw[Option.bind_some];show (some false).bind _ =_;rw[Option.bind_some];unfold W.ownOf;rw[Y.dict,if_pos rfl];show (lookIn name od).bind _ =_;rw[hl];rfl
end
theorem gE.within {ρ:Ro}{m:Str→Option Value}(h:gE ρ m):Within m (ρ.map (·.1)):=fun y hy=>Classical.byContradiction fun hn=>hy (h.2 y hn)
theorem gE.yS {ρ:Ro}{m:Str→Option Value}(h:gE ρ m) {y:Str}(hy:y∉ρ.map (·.1)):m y=none:=h.2 y hy
inductive Pb (x:Str) (v:PV):Ro→Ro→Prop
 | old {ρ bC} (h:Up x (some v) ρ bC):Pb x v ρ bC
 | new {ρ} (h:x∉ρ.map (·.1)):Pb x v ρ ((x,some v)::ρ)
theorem gE.put {ρ bC:Ro}{m:Str→Option Value}{x:Str}{v:PV}{u:Value}(h:gE ρ m) (nd:(ρ.map (·.1)).Nodup) (hp:Pb x v ρ bC) (hv:VR v u):gE bC (fun y=>if y=x then some u else m y):=by
 cases hp with
 | old hu=>exact h.up nd hu hv
 | new hx=>
  refine⟨fun p hp=> ?_,fun y hy=> ?_⟩
  ·rcases List.mem_cons.mp hp with rfl | hp
   ·simp only[if_true];exact Fl.some hv
   ·have:p.1≠x:=fun e=>hx (e ▸ List.mem_map_of_mem hp)
    simp only[this,if_false];exact h.1 p hp
  ·simp only[List.map_cons,List.mem_cons,not_or] at hy
   simp only[hy.1,if_false];exact h.2 y hy.2
section
variable {prog:Program}{w:World}{X:Cx}{ρ bC bI:Ro}{σ σ' aD:Led}{T:aX}{n:Nat}{R R':PV→Led→Prop}{K:PF→Ro→Led→Prop}
variable {x C d:Addr}{cd:ClassData}{D:Data→Prop}{gh CH:Ro}
theorem VR.handed {v:PV}{u:Value}(h:VR v u):handedIn u=true:=by cases h<;>rfl
theorem kg (O:cU T n X) {s:Shared}(I:Inv X ρ σ s):T.K.In s.heap:=by
 refine gS I.st fun m news F N R D=> ?_
 exact O.top.keeps F.keep
structure oe (X:Cx) (σ:Led) (x C d:Addr) (D:Data→Prop) (gh:Ro):Prop where
 obj:(x,y7 C d D)∈σ
 MJ:(d,fe gh)∈σ
 no: ∀v,D v→ ∀c,v≠ .cls c
theorem oe.inst (B:oe X σ x C d D gh) {s:Shared}(I:Inv X ρ σ s): ∃o,s.heap.get? x=some o∧o.cls= .ref C∧o.dict=some d∧D o.data∧o.slots= #[]:=by
 refine aF (I.obj B.obj) fun o ho h=> ?_
 exact⟨o,ho,h⟩
theorem uI (O:cU T n X) (Y:c9 T.K C cd) (B:oe X σ x C d D gh) {name:Str}{v:PV}{expr:Bool}(hm:(name,some v)∈gh) (hf:findIn T.K (.ref C) name=some none) (u:Value) (hu:VR (.ref x) u):jP prog w X (getAttr u name expr) ρ σ v:=fun s I=>by
 refine vR hu ?_
 refine Kf (B.inst I) fun o ho h1 h2 h3 h4=> ?_
 refine aF (I.obj B.MJ) fun od wN pd=> ?_
 refine aF (pd.Pt wN) fun m R hn=> ?_
 refine aF (R.get hm) fun uv huv hv=> ?_
 exact mD (kg O I) Y ho h1 (B.no _ h3) h2 hn hf huv hv.handed ⟨hv,I.tick _⟩
theorem Ek {o:Expr}{name:Str}{pos:Pos}{R₂:PV→Led→Prop}(ho:GE prog w X o ρ σ R) (h: ∀v σ',R v σ'→ ∀u,VR v u→VX prog w X (getAttr u name true) ρ σ' R₂)
  (he:eval (.Attribute o name pos) X.env=(do let u ←eval o X.env;standAt pos.atName;let r ←holding [u] (getAttr u name true);letTemporaryGo o u r;pure r):=by rfl):GE prog w X (.Attribute o name pos) ρ σ R₂:=fun s I=>
 Attribute_any_ (wpAny_mono (ho s I) (fun u s₁ q=>by
  refine jU q fun v σ' r hv aS=> ?_
  exact h v σ' r u hv s₁ aS) fun U U f=>f) he
theorem oE (O:cU T n X) (Y:c9 T.K C cd) {o:Expr}{name:Str}{pos:Pos}{v:PV}(ho:PE prog w X o ρ σ (.ref x)) (B:oe X σ x C d D gh) (hm:(name,some v)∈gh) (hf:findIn T.K (.ref C) name=some none)
  (he:eval (.Attribute o name pos) X.env=(do let u ←eval o X.env;standAt pos.atName;let r ←holding [u] (getAttr u name true);letTemporaryGo o u r;pure r):=by rfl):PE prog w X (.Attribute o name pos) ρ σ v:=
 ir (Ek (aQ ho) (fun v' σ' r u hu=>by
  refine bo r fun ah e=> ?_;clear r;subst ah
  have e':=e.symm;subst e';exact jj (uI O Y B hm hf u hu)) he) fun v' σ' r=>by refine bo r fun ah aU=> ?_;clear r;subst ah;subst aU;exact⟨rfl,.refl _⟩
theorem uG (O:cU T n X) (Y:c9 T.K C cd) (B:oe X σ x C d D gh) {name:Str}{v:PV}(hp:Pb name v gh CH) (hm:Um d (fe gh) (fe CH) σ σ') (hf:findIn T.K (.ref C) name=some none) (nd:(gh.map (·.1)).Nodup) (hz:gh.length≤1000) (u vu:Value) (hu:VR (.ref x) u) (hv:VR v vu):
  Ev prog w X (setAttr u name vu) ρ σ (fun U s'=>Inv X ρ σ' s'):=fun s I=>by
 refine vR hu ?_
 refine Kf (B.inst I) fun o ho h1 h2 h3 h4=> ?_
 refine aF (I.obj hm.mem) fun od wN pd=> ?_
 refine aF (pd.Pt wN) fun m R hn=> ?_
 refine tY (kg O I) Y ho h1 (B.no _ h3) h2 hn hf R.within (by rw[List.length_map];exact hz) fun h' tk xQ gw=> ?_
 refine aF (DW (R.put nd hp hv) xQ) fun o' ig oA=> ?_
 exact I.turn (tk:=tk) hm.us gw ig oA
theorem dB (O:cU T n X) (Y:c9 T.K C cd) {o e:Expr}{name:Str}{apos pos:Pos}(he:GE prog w X e ρ σ R) (hf:findIn T.K (.ref C) name=some none)
  (hk: ∀v σ',R v σ'→ ∃x d D gh CH ak,PE prog w X o ρ σ' (.ref x)∧oe X σ' x C d D gh∧Pb name v gh CH∧Um d (fe gh) (fe CH) σ' ak∧(gh.map (·.1)).Nodup∧gh.length≤1000∧K .next ρ ak)
  (hs:swapsWith e (some (.Attribute o name apos)) pos.line X.env=pure false:=by rfl):S1 prog w X (.Assign [.Attribute o name apos] e pos) ρ σ K:=fun s I=>
 plainObj_wpAny_Assign_Attribute (wpAny_mono (he s I) (fun vu s₁ q=>by
  refine jU q fun v σ' r hv aS=> ?_
  refine oBj (hk v σ' r) fun x d D gh CH ak ho B hp hm nd hz hk=> ?_
  exact wpAny_mono (ho s₁ aS) (fun u au q=>wpAny_mono (uG O Y B hp hm hf nd hz u vu q.1 hv au q.2) (fun U c6 cg=>⟨_,_,_,hk,.next,cg⟩) fun U U f=>f) fun U U f=>f) fun U U f=>f) hs
theorem DM {prog:Program}{w:World}{A:Around}{E:Value→Shared→Prop}{s:Shared}{K:Frag}{m:Str→Option Value}{ox:Obj}{name:Str}{f t:Value}{pl:Sem Bool}{Q:Value×List Value→Shared→Prop}(X:K.In s.heap) (Y:c9 K C cd) (hx:s.heap.get? x=some ox) (hc:ox.cls= .ref C) (mA: ∀c,ox.data≠ .cls c) (hd:ox.dict=some d) (hn:s.heap.Ns1 d m)
  (hf:findIn K (.ref C) name=some (some f)) (ht:typeIn K f=some t) (hk:(t != .type "function"&&t != .type "method_descriptor"&&t != .type "wrapper_descriptor")=false) (hv:m name=none) (hq:Q (f,[.ref x]) s):wpAny (model prog w) A (getMethod (.ref x) name pl) Q E s:=by
 refine aF Y.gaC fun ida zg HX=> ?_
 refine K1 hn fun od es ep ho HO HD hu zj=> ?_
 have I:W.InstAt s.heap x ox C (some od):=⟨hx,hc,by unfold notCls;cases h:ox.data<;>first | rfl | exact absurd h (mA _),by rw[hd];exact ho⟩;have hl:lookIn name od=some none:=oJ HO HD (zj name ▸ hv);unfold getMethod specialOf;refine wpAny_bind (wpAny_bind (I.type.here ((looks_findIn X zg).here ?_)));dsimp only;rw[HX,if_neg dC];refine wpAny_bind (wpAny_bind (I.type.here ((looks_findIn X Y.gk).here ?_)));refine wpAny_bind (wpAny_bind (I.type.here ((looks_findIn X hf).here (wpAny_bind ((looks_typeIn X ht).here ?_)))));rw[hk,if_neg dC];refine wpAny_bind (wpAny_loadPart hx ?_);rw[hd];refine wpAny_bind (wpAny_bind (wpAny_loadPart ho ?_));rw[nsLook_of hl];refine wpAny_pure ?_
 exact wpAny_bind (wpAny_rule (wpAny_pure hq))
theorem nW (O:cU T n X) (Y:c9 T.K C cd) (B:oe X σ x C d D gh) {name:Str}{f t:Value}{pl:Sem Bool}(hf:findIn T.K (.ref C) name=some (some f)) (ht:typeIn T.K f=some t) (hk:(t != .type "function"&&t != .type "method_descriptor"&&t != .type "wrapper_descriptor")=false)
  (Eb:name∉gh.map (·.1)) (u:Value) (s:Shared) (Q:Value×List Value→Shared→Prop) (hu:VR (.ref x) u) (I:Inv X ρ σ s) (hq:Q (f,[u]) s):wpAny (model prog w) X.A (getMethod u name pl) Q (fun U U=>False) s:=by
 revert hq;refine vR hu fun hq=> ?_
 refine Kf (B.inst I) fun o ho h1 h2 h3 h4=> ?_
 refine aF (I.obj B.MJ) fun od wN pd=> ?_
 refine aF (pd.Pt wN) fun m R hn=> ?_
 exact DM (kg O I) Y ho h1 (B.no _ h3) h2 hn hf ht hk (R.yS Eb) hq
theorem wZ (O:cU T n X) (gy:X.FL=X.L) (Y:c9 T.K C cd) {o:Expr}{name:Str}{apos pos:Pos}{args:List Expr}{pl:Sem Bool}{fa:Addr}{RA:List PV→Led→Prop}{R₂:PV→Led→Prop}{k:Nat}
  (ho:PE prog w X o ρ σ (.ref x)) (B:oe X σ x C d D gh) (hf:findIn T.K (.ref C) name=some (some (.ref fa))) (ht:typeIn T.K (.ref fa)=some (.type "function")) (hi:Bh T fa) (Eb:name∉gh.map (·.1))
  (ha:AG prog w X args pos ρ σ RA) (hk:k≤n) (hc: ∀vs σ',RA vs σ'→Fn prog w T k (.ref fa) (.ref x::vs) σ' R₂)
  (heq:eval ((o.Attribute name apos).Call args [] pos) X.env=(do let ov ←eval o X.env;standAt apos.atName;let fx ←holding [ov] (getMethod ov name pl);match fx with | (f,first)=>callWith pos f first (backTo pos (starEach args X.env)) []):=by rfl):
  GE prog w X (.Call (.Attribute o name apos) args [] pos) ρ σ R₂:=fun s I=>
 MethodCall_ (pl:=pl) (wpAny_mono (ho s I) (fun u s₁ q=>by
  refine bo q fun hu aS=> ?_
  refine nW O Y B hf ht dC Eb u s₁ _ hu aS ?_
  refine mO (hi.at_ X n O) fun oF fd hoF hdF=> ?_
  refine callWith_function (o:=oF) (fd:=fd) (wpAny_mono (ha _ s₁ aS) (fun a au q=> ?_) fun U U f=>f);refine Bl q fun us vs σ' ah r hv aH=> ?_;clear q;subst ah
  refine⟨⟨aH.keep hoF,hdF⟩,wpAny_call (codeAny_mono (hc vs σ' r X ρ au (O.le hk) gy aH (u::us) (.cons hu hv)) fun r s' q=> ?_)⟩;refine Bl q fun u' pv ak ah hR h1 h2=> ?_;clear q;subst ah
  exact⟨pv,ak,hR,h1,h2⟩) fun U U f=>f) heq
end
section
variable {prog:Program}{w:World}{X:Cx}{ρ bC bI:Ro}{σ σ' aD:Led}{T:aX}{n:Nat}{R R':PV→Led→Prop}{K:PF→Ro→Led→Prop}
variable {x C d:Addr}{cd:ClassData}{ps:List PV}
noncomputable abbrev isA (C d:Addr) (ps:List PV):Obj→Prop:=y7 C d (yy ps)
theorem isA.turn {ps qs:List PV}{o:Obj}{f:Array Value→Array Value}(h:isA C d ps o) (hf: ∀vs:List Value,cu ps vs→ ∃us:List Value,f vs.toArray=us.toArray∧cu qs us):isA C d qs (Obj.mapSeq f o):=by
 refine yR h fun vs k h1 h2 hv h3 h4=> ?_
 refine aF (hf vs hv) fun us e hu=> ?_
 refine gF (Obj.data_mapSeq h3 f) fun n' tC=> ?_
 refine⟨(Obj.cls_mapSeq ..).trans h1,?_,⟨us,n',hu,tC.trans (by rw[e])⟩,?_⟩
 ·obtain⟨c,dd,dt,sl⟩:=o;cases dt<;>exact h2
 ·obtain⟨c,dd,dt,sl⟩:=o;cases dt<;>exact h4
theorem isA.ym {ps qs:List PV}{o:Obj}{f:Array Value→Array Value}(h:isA C d ps o) {vs us:List Value}{k:Nat}(h3:o.data= .seq vs.toArray k) (e:f vs.toArray=us.toArray) (hu:cu qs us):isA C d qs (Obj.mapSeq f o):=by
 refine Ke h fun h1 h2 U h4=> ?_
 refine gF (Obj.data_mapSeq h3 f) fun n' tC=> ?_
 refine⟨(Obj.cls_mapSeq ..).trans h1,?_,⟨us,n',hu,tC.trans (by rw[e])⟩,?_⟩
 ·obtain⟨c,dd,dt,sl⟩:=o;cases dt<;>exact h2
 ·obtain⟨c,dd,dt,sl⟩:=o;cases dt<;>exact h4
theorem isA.fr {o:Obj}(h:isA C d ps o):o.isFreed=false:=by
 refine yR h fun vs k h1 h2 hv h3 h4=> ?_
 exact Obj.isFreed_of_seq h3
theorem xj (O:cU T n X) (Y:c9 T.K C cd) (hl:cd.mro.contains (.type "list")=true) {v:PV}(hm:Um x (isA C d ps) (isA C d (ps++[v])) σ σ') (hn:ps.length≤16777216) (u:Value) (us:List Value) (hu:VR (.ref x) u) (h:cu [v] us):
  VX prog w X (call (.builtin "list.append") (u::us)) ρ σ (fun r ak=>r= .none∧ak=σ'):=fun s I=>by
 refine vR hu ?_
 refine aF h.one fun u ah hu=> ?_;subst ah
 refine aF (I.obj hm.mem) fun o ho po=> ?_
 refine yR (id po) fun vs k h1 h2 hv h3 h4=> ?_
 refine gP (n:="append") (by decide+kernel) entry_list_append (.inr (by decide+kernel)) (by decide+kernel) (f5 (kg O I) Y hl ho h1) (args_list_append _ _) ?_
 show wpAny _ _ (updateSeq x (·.push u) >>= fun U=>ret .none) _ _ s;refine wpAny_bind (wpAny_updateSeq ho h3 (wpAny_pure ⟨.none,rfl,.none,σ',⟨rfl,rfl⟩,.none,?_⟩) ?_ ?_)
 ·have oA:isA C d (ps++[v]) (Obj.mapSeq (·.push u) o):=po.turn fun vs hv=>⟨vs++[u],by rw[List.push_toArray],hv.append (.cons hu .nil)⟩
  exact I.turn (tk:=s.toks) hm.us (Heap.SameBut.update ..) (Heap.get?_update_self _ ho oA.fr) oA
 ·rw[List.size_toArray,←hv.length,sizeLine_eq];exact hn
 ·rw[Array.size_push,List.size_toArray,←hv.length,sizeLine_eq];exact Ø hn
theorem je (O:cU T n X) (Y:c9 T.K C cd) {Q:Option Value→Shared→Prop}{name:Str}{id:String}(SL:Slot "list" name id) (hf:findIn T.K (.ref C) name=some (some (.builtin id))) {args:List Value}{s:Shared}{E:Value→Shared→Prop}(hm:(x,isA C d ps)∈σ) (I:Inv X ρ σ s)
  (h:wpAny (model prog w) X.A (call (.builtin id) (.ref x::args)) (fun v=>Q (some v)) E s):wpAny (model prog w) X.A (callSpecial? (.ref x) name args) Q E s:=by
 refine aF (I.obj hm) fun o ho po=> ?_
 have T: ∀{M:Model},Looks M s.heap (typeOf (.ref x)) (.ref C):=po.1 ▸ (Looks.ld ho).andThen .now;refine wpAny_bind (wpAny_bind (T.here ((looks_findIn (kg O I) hf).here (wpAny_holding ?_))));refine wpAny_bind (wpAny_of_eq (SL.bind _) ?_);exact wpAny_bind (wpAny_mono h (fun U U z=>wpAny_pure z) fun U U z=>z)
theorem uH (O:cU T n X) (Y:c9 T.K C cd) (hq:noSeq T.K C=true) {Q:Value→Shared→Prop}{name:Str}{k:Value}{s:Shared}{E:Value→Shared→Prop}(hm:(x,isA C d ps)∈σ) (I:Inv X ρ σ s) (h:Q k s):wpAny (model prog w) X.A (sequenceKey (.ref x) k name) Q E s:=by
 refine aF (I.obj hm) fun o ho po=> ?_
 have T': ∀{M:Model},Looks M s.heap (typeOf (.ref x)) (.ref C):=po.1 ▸ (Looks.ld ho).andThen .now;unfold sequenceKey;refine wpAny_bind (T'.here (wpAny_bind ((anyM_none (kg O I) hq).here ?_)));exact wpAny_pure h
theorem Em (O:cU T n X) (Y:c9 T.K C cd) (hl:cd.mro.contains (.type "list")=true) (hq:noSeq T.K C=true) (hf:findIn T.K (.ref C) "__getitem__"=some (some (.builtin "list.__getitem__"))) (hm:(x,isA C d ps)∈σ) {i:Int}{p:PV}(h0:0≤i) (h1:i<ps.length) (hn:ps.length≤16777216) (hp:cB ps i=p) (u iu:Value) (hu:VR (.ref x) u) (hi:VR (.int i) iu):
  jP prog w X (getItem u iu) ρ σ p:=fun s I=>by
 refine vR hu ?_;refine vI hi fun t=> ?_
 refine aF (I.obj hm) fun o ho po=> ?_
 refine yR (id po) fun vs k wX h2 hv h3 h4=> ?_
 have hlen:=hv.length;unfold getItem;refine wpAny_holding (wpAny_bind (uH O Y hq hm I (wpAny_bind (je O Y slot_list_getitem hf hm I ?_))));refine gP (n:="__getitem__") (by decide+kernel) entry_list_getitem (.inr (by decide+kernel)) (by decide+kernel) (f5 (kg O I) Y hl ho wX) (args_list_getitem _ _) ?_
 show wpAny _ _ (Builtin.List.listSubscript? (.int i _) >>= _) _ _ s;refine wpAny_bind (wpAny_listSubscript_int (fitsIndex_of h0 (EK h1 hn)) ?_);subst hp;obtain⟨y,hy,r⟩:=hv.m5 (i:=i.toNat) (p:=cB ps i) (by unfold cB;rw[if_neg (E7 h0),List.getD_eq_getElem?_getD,List.getElem?_eq_getElem (Tf h0 h1)];rfl);refine gF (Int.eq_ofNat_of_zero_le h0) fun j ah=> ?_;subst ah
 show wpAny _ _ ((seqItemAt x j >>= fun r=>pure (r.map (j, ·))) >>= _) _ _ s;refine wpAny_bind (wpAny_bind (wpAny_seqItemAt ho h3 (wpAny_pure ?_)));have hy':vs.toArray[j]? =some y:=hy;rw[hy'];exact wpAny_pure ⟨y,rfl,wpAny_pure ⟨r,I⟩⟩
theorem kH {prog:Program}{w:World}{A:Around}{E:Value→Shared→Prop}{s:Shared}{sl:Addr}{vl vu:Value}{lo hi:Option Int}{α:Type}{k:Value×Value×Value→Sem α}{Q:α→Shared→Prop}(hs:s.heap.IsSliceOf sl vl vu .none) (pl:IsPart vl lo) (pu:IsPart vu hi)
  (h:wpAny (model prog w) A (k (rawPart lo,rawPart hi,rawPart none)) Q E s):wpAny (model prog w) A (Builtin.List.listSliceParts (.ref sl) >>= k) Q E s:=by
 refine gR (id hs) fun os D9 HQ Mr=> ?_
 rw[listSliceParts_eq];refine wpAny_bind (wpAny_bind (wpAny_field D9 Mr (x:=.none) rfl (wpAny_bind (wpAny_listPart .none ?_))));rw[if_neg dC];refine wpAny_bind (wpAny_field D9 Mr (x:=vl) rfl (wpAny_bind (wpAny_listPart pl ?_)));exact wpAny_bind (wpAny_field D9 Mr (x:=vu) rfl (wpAny_bind (wpAny_listPart pu (wpAny_pure h))))
theorem zD (O:cU T n X) (Y:c9 T.K C cd) (hl:cd.mro.contains (.type "list")=true) (hq:noSeq T.K C=true) (hf:findIn T.K (.ref C) "__getitem__"=some (some (.builtin "list.__getitem__"))) (hm:(x,isA C d ps)∈σ) {lo hi:Option Int}(hn:ps.length≤16777216) {vl vu:Value}(pl:IsPart vl lo) (pu:IsPart vu hi) {sl:Addr}{s:Shared}(hs:s.heap.IsSliceOf sl vl vu .none) (I:Inv X ρ σ s):
  wpAny (model prog w) X.A (getItem (.ref x) (.ref sl)) (fun u s'=> ∃a,u= .ref a∧Inv X ρ ((a,az (Mine.sl ps lo hi))::σ) s') (fun U U=>False) s:=by
 refine aF (I.obj hm) fun o ho po=> ?_
 refine yR (id po) fun vs k wX h2 hv h3 h4=> ?_
 refine gR (id hs) fun os D9 HQ Mr=> ?_
 have Mz:s.TypeIs (.ref sl) "slice":=⟨os,D9,HQ⟩;unfold getItem;refine wpAny_holding (wpAny_bind (uH O Y hq hm I (wpAny_bind (je O Y slot_list_getitem hf hm I ?_))));refine gP (n:="__getitem__") (by decide+kernel) entry_list_getitem (.inr (by decide+kernel)) (by decide+kernel) (f5 (kg O I) Y hl ho wX) (args_list_getitem _ _) ?_
 show wpAny _ _ (Builtin.List.listSubscript? (.ref sl) >>= _) _ _ s;refine wpAny_bind ?_
 unfold Builtin.List.listSubscript?;refine wpAny_bind (wpAny_specialOf Mz slice_no_index ?_);simp only[Option.isNone_none,if_true];refine wpAny_pure ?_
 show wpAny _ _ (typeOf (.ref sl) >>= _) _ _ s;refine wpAny_bind (wpAny_typeOf Mz ?_);rw[if_neg dC];refine kH hs pl pu ?_
 refine wpAny_bind (m:=Builtin.List.listItems (.ref x)) ?_
 unfold Builtin.List.listItems;refine wpAny_bind (wpAny_seqItems ho h3 (wpAny_pure ?_));refine wpAny_bind (wpAny_of_eq (sliceIndices_raw lo hi none vs.toArray.size (by simp)) ?_);refine aF (hv.slice lo hi) fun us e ia=> ?_
 refine wpAny_bind (wpAny_newObj_type (wpAny_pure ⟨_,rfl,wpAny_pure ⟨_,rfl,?_⟩⟩) ?_)
 ·have e':({cls:=.type "list",data:=.seq (slicePick vs.toArray lo hi none)}:Obj)={cls:=.type "list",data:=.seq us.toArray}:=by rw[e]
  show Inv X ρ _ {s with heap:=s.heap.push {cls:=.type "list",data:=.seq (slicePick vs.toArray lo hi none)}};rw[e'];exact I.push ⟨us,0,ia,rfl⟩ rfl (tk:=s.toks)
 ·exact Nat.le_trans (slicePick_size_le vs.toArray lo hi none) (by rw[List.size_toArray,←hv.length,sizeLine_eq];exact hn)
theorem gT {M:Model}{A:Around}{E:Value→Shared→Prop}{Q:Unit→Shared→Prop}{keep:List Value}: ∀(l:List Value) {s:Shared},Q () s→wpAny M A (letGo l keep) Q E s
 | [],_,h=>wpAny_pure h
 | _::r,_,h=>wpAny_bind (wpAny_holding (wpAny_point (gT r h)))
theorem sh (O:cU T n X) (Y:c9 T.K C cd) (hl:cd.mro.contains (.type "list")=true) (hq:noSeq T.K C=true) (hf:findIn T.K (.ref C) "__setitem__"=some (some (.builtin "list.__setitem__"))) {qs rs:List PV}(hm:Um x (isA C d ps) (isA C d rs) σ σ') {b:Addr}(hb:(b,az qs)∈σ) (dm:b≠x) {lo hi:Option Int}
  (hr: ∀vs us,cu ps vs→cu qs us→ ∃ws:List Value,vs.toArray.extract 0 (sliceBounds lo hi none vs.length).1.toNat++us.toArray++vs.toArray.extract (max (sliceBounds lo hi none vs.length).1 (sliceBounds lo hi none vs.length).2.1).toNat vs.toArray.size=ws.toArray∧cu rs ws)
  (hn:ps.length+qs.length≤16000000) (L9:rs.length≤16000000) {vl vu:Value}(pl:IsPart vl lo) (pu:IsPart vu hi) {sl:Addr}{s:Shared}(hs:s.heap.IsSliceOf sl vl vu .none) (I:Inv X ρ σ s):
  wpAny (model prog w) X.A (setItem (.ref x) (.ref sl) (.ref b)) (fun U s'=>Inv X ρ σ' s') (fun U U=>False) s:=by
 refine aF (I.obj hm.mem) fun o ho po=> ?_
 refine yR (id po) fun vs k wX h2 hv h3 h4=> ?_
 refine aF (I.obj hb) fun ob hob pb=> ?_
 refine aF (pb.list hob) fun us ia il=> ?_
 refine oBn (id il) fun ob' nb RN hcb mC=> ?_
 refine gR (id hs) fun os D9 HQ Mr=> ?_
 have Mz:s.TypeIs (.ref sl) "slice":=⟨os,D9,HQ⟩;unfold setItem;refine wpAny_holding (wpAny_bind (uH O Y hq hm.mem I (wpAny_bind (je O Y slot_list_setitem hf hm.mem I ?_))));refine gP (n:="__setitem__") (by decide+kernel) entry_list_setitem (.inl (by decide+kernel)) (by decide+kernel) (f5 (kg O I) Y hl ho wX) (args_list_setitem _ _ _) ?_
 show wpAny _ _ (Builtin.List.listSubscript? (.ref sl) >>= _) _ _ s;refine wpAny_bind ?_
 unfold Builtin.List.listSubscript?;refine wpAny_bind (wpAny_specialOf Mz slice_no_index ?_);simp only[Option.isNone_none,if_true];refine wpAny_pure ?_
 show wpAny _ _ (typeOf (.ref sl) >>= _) _ _ s;refine wpAny_bind (wpAny_typeOf Mz ?_);rw[if_neg dC];refine kH hs pl pu ?_
 have LN:Builtin.List.listSameRef (.ref x) (.ref b)=false:=by
  show (x==b)=false;rw[beq_eq_false_iff_ne];exact fun e=>dm e.symm
 rw[LN];simp only[Bool.false_eq_true,if_false];refine wpAny_bind (m:=Builtin.List.listAllItems (.ref b) _) ?_
 unfold Builtin.List.listAllItems;refine wpAny_bind (wpAny_typeOf il.typeIs ?_);rw[if_pos dC];refine wpAny_listItems RN mC ?_
 refine wpAny_bind (wpAny_listItems ho h3 ?_);refine wpAny_bind (wpAny_of_eq (sliceIndices_raw lo hi none vs.toArray.size (by simp)) ?_);have eS:((sliceBounds lo hi none vs.toArray.size).2.2==1)=true:=rfl;rw[if_pos eS];refine wpAny_bind (wpAny_rule ?_);have jB:Builtin.List.listTooLong (vs.toArray.size+us.toArray.size)=false:=by
  unfold Builtin.List.listTooLong;rw[List.size_toArray,List.size_toArray,←hv.length,←ia.length,sizeLine_eq];simp;exact NT hn
 rw[jB];simp only[Bool.false_eq_true,if_false];refine aF (hr vs us hv ia) fun ws hw FH=> ?_
 rw[←List.size_toArray] at hw
 refine wpAny_bind (m:=updateSeq x _) (wpAny_updateSeq ho h3 ?_ ?_ ?_)
 ·refine wpAny_bind (gT _ ?_);refine wpAny_pure ⟨.none,rfl,wpAny_pure ?_⟩;have oA:isA C d rs (Obj.mapSeq (fun xs:Array Value=>xs.extract 0 (sliceBounds lo hi none vs.toArray.size).1.toNat++us.toArray++xs.extract (max (sliceBounds lo hi none vs.toArray.size).1 (sliceBounds lo hi none vs.toArray.size).2.1).toNat xs.size) o):=po.ym h3 hw FH;exact I.turn (tk:=s.toks) hm.us (Heap.SameBut.update ..) (Heap.get?_update_self _ ho oA.fr) oA
 ·rw[List.size_toArray,←hv.length,sizeLine_eq];exact YR hn
 ·have e:=congrArg Array.size hw;refine Nat.le_trans (Nat.le_of_eq e) ?_
  rw[List.size_toArray,←FH.length,sizeLine_eq];exact Ý L9
theorem El (O:cU T n X) (Y:c9 T.K C cd) (hl:cd.mro.contains (.type "list")=true) (hf:findIn T.K (.ref C) "__iter__"=some (some (.builtin "list.__iter__"))) (hm:(x,isA C d ps)∈σ) {s:Shared}(I:Inv X ρ σ s):
  wpAny (model prog w) X.A (pyIter (.ref x)) (fun u s'=>u= .ref s.heap.objs.size∧s'={s with heap:=s.heap.push {cls:=.type "list_iterator",data:=.fields #[.ref x,.int 0 0]}}) (fun U U=>False) s:=by
 refine aF (I.obj hm) fun o ho po=> ?_
 refine yR (id po) fun vs k h1 h2 hv h3 h4=> ?_
 have T: ∀{M:Model},Looks M s.heap (typeOf (.ref x)) (.ref C):=h1 ▸ (Looks.ld ho).andThen .now;unfold pyIter;refine wpAny_bind (wpAny_bind (T.here ((looks_findIn (kg O I) hf).here ?_)));dsimp only;unfold callSpecialIfBoundUnlessNone? bindSpecialIfBound?;refine wpAny_bind (wpAny_holding (wpAny_bind (wpAny_bind (wpAny_bind (T.here ((looks_findIn (kg O I) hf).here ?_))))));have fin:wpAny (model prog w) X.A (call (.builtin "list.__iter__") [.ref x]) (fun it s'=>it= .ref s.heap.objs.size∧s'={s with heap:=s.heap.push {cls:=.type "list_iterator",data:=.fields #[.ref x,.int 0 0]}}) (fun U U=>False) s:=by
  refine gP (n:="__iter__") (by decide+kernel) entry_list_iter (.inl (by decide+kernel)) (by decide+kernel) (f5 (kg O I) Y hl ho h1) (args_list_iter _) ?_
  show wpAny _ _ (do ret (←newFields "list_iterator" [.ref x,rawInt 0])) _ _ s;exact wpAny_bind (wpAny_newObj_type (wpAny_pure ⟨_,rfl,rfl,rfl⟩))
 have fin2:wpAny (model prog w) X.A (call (.builtin "list.__iter__") [.ref x]) (fun it s'=>wpAny (model prog w) X.A (do
   match ←specialOf it "__next__" with
   | none=>rule "iter.non-iterator";raiseError "TypeError" s!"iter() returned non-iterator of type '{← typeNameOf it}'"
   | some _=>pure it) (fun u s'=>u= .ref s.heap.objs.size∧s'={s with heap:=s.heap.push {cls:=.type "list_iterator",data:=.fields #[.ref x,.int 0 0]}}) (fun U U=>False) s') (fun U U=>False) s:=by
  refine wpAny_mono fin (fun it s' q=> ?_) fun U U f=>f
  refine bo q fun ah aU=> ?_;clear q;subst ah;subst aU
  exact wpAny_bind (wpAny_specialOf (T:="list_iterator") ⟨_,Heap.get?_push_size _ rfl,rfl⟩ slot_listiter_next.lookup (wpAny_pure ⟨rfl,rfl⟩))
 simp only[slot_list_iter.bind]
 refine wpAny_bind (wpAny_askSetting (wpAny_ite ?_));have MG: ∀r:Sem Value,wpAny (model prog w) X.A (if (Value.builtin "list.__iter__"==Value.none)=true then (r >>= fun v=>pure (some v)) else (call (.builtin "list.__iter__") [.ref x] >>= fun v=>pure (some v))) (fun a s'=>wpAny (model prog w) X.A (match a with
   | some it=>(do
     match ←specialOf it "__next__" with
     | none=>rule "iter.non-iterator";raiseError "TypeError" s!"iter() returned non-iterator of type '{← typeNameOf it}'"
     | some _=>pure it)
   | none=>(do
     match ←bindSpecialIfBound? (.ref x) "__getitem__" with
     | none=>rule "iter.not-iterable";raiseError "TypeError" s!"'{← typeNameOf (.ref x)}' object is not iterable"
     | some _=>rule "iter.getitem-fallback";newFields "iterator" [.ref x,←mkInt 0])) (fun u s'=>u= .ref s.heap.objs.size∧s'={s with heap:=s.heap.push {cls:=.type "list_iterator",data:=.fields #[.ref x,.int 0 0]}}) (fun U U=>False) s') (fun U U=>False) s:=fun r=>by
  simp only[builtin_beq_none,Bool.false_eq_true,if_false]
  exact wpAny_bind (wpAny_mono fin2 (fun v s' h'=>wpAny_pure h') fun U U h'=>h')
 split
 ·exact wpAny_bind (wpAny_pure (wpAny_pure (MG _)))
 ·exact wpAny_tryCatch (wpAny_bind (wpAny_pure (wpAny_pure (MG _))))
end
structure xI (id:String) (dT gid bT:String) (Bg:Builtin):Prop where
 typ:typeOf (.builtin id)=pure (.type dT)
 slot:Slot dT "__get__" gid
 entry:entryFor table gid=some Bg
 args: ∀a b c,argsOk gid ⟨[a,b,c],[]⟩
 run: ∀(prog:Program) (w:World) (A:Around) (E:Value→Shared→Prop) (h:Heap) (g:Array GenState) (d:Drawn) (t:Nat) (os:OsState) (x:Addr) (C:Value) (Q:Fin→Shared→Prop),Looks (model prog w) h (isInstance (.ref x) (.type "list")) true→(C== .none)=false→
  Q (.done (.ret (.ref h.objs.size))) ⟨h.push {cls:=.type bT,data:=.fields #[.builtin id,.ref x]},g,d,t,os⟩→wpAny (model prog w) A (Bg ⟨[.builtin id,.ref x,C],[]⟩) Q E ⟨h,g,d,t,os⟩
theorem rt:Slot "method_descriptor" "__get__" "method_descriptor.__get__":=.of (owner:="method_descriptor") (n:="__get__") (by rw[typeLookup_type,builtinLookup_eq_fast];kernel_rfl) (by decide+kernel) (by decide+kernel) (by decide+kernel)
 (by first | exact .inl (by decide+kernel) | exact .inr (by decide+kernel)) (by rw[isSubtype_type];kernel_rfl)
theorem kF:Slot "wrapper_descriptor" "__get__" "wrapper_descriptor.__get__":=.of (owner:="wrapper_descriptor") (n:="__get__") (by rw[typeLookup_type,builtinLookup_eq_fast];kernel_rfl) (by decide+kernel) (by decide+kernel) (by decide+kernel)
 (by first | exact .inl (by decide+kernel) | exact .inr (by decide+kernel)) (by rw[isSubtype_type];kernel_rfl)
theorem oV:entryFor table "method_descriptor.__get__"=some Builtin.«method_descriptor.__get__» :=entryFor_of_tree (by kernel_rfl)
theorem jI:entryFor table "wrapper_descriptor.__get__"=some Builtin.«wrapper_descriptor.__get__» :=entryFor_of_tree (by kernel_rfl)
theorem sG (a b c:Value):argsOk "method_descriptor.__get__" ⟨[a,b,c],[]⟩:=by unfold argsOk;kernel_rfl
theorem kO (a b c:Value):argsOk "wrapper_descriptor.__get__" ⟨[a,b,c],[]⟩:=by unfold argsOk;kernel_rfl
theorem CY:typeOf (.builtin "list.pop")=pure (.type "method_descriptor"):=by show builtinType _ =_;rw[builtinType_eq_fast];kernel_rfl
theorem CZ:typeOf (.builtin "list.__len__")=pure (.type "wrapper_descriptor"):=by show builtinType _ =_;rw[builtinType_eq_fast];kernel_rfl
theorem yj:typeOf (.builtin "list.__init__")=pure (.type "wrapper_descriptor"):=by show builtinType _ =_;rw[builtinType_eq_fast];kernel_rfl
theorem C6:xI "list.__len__" "wrapper_descriptor" "wrapper_descriptor.__get__" "method-wrapper" Builtin.«wrapper_descriptor.__get__» where
 typ:=CZ
 slot:=kF
 entry:=jI
 args:=kO
 run prog w A E h g d t os x C Q hi hC hq:=by
  have hl:".".intercalate ("list.__len__".cutAt '.').dropLast="list":=by decide+kernel
  have jC:Looks (model prog w) h (isInstance (.ref x) (.type (".".intercalate ("list.__len__".cutAt '.').dropLast))) true:=by rw[hl];exact hi
  unfold Builtin.«wrapper_descriptor.__get__»;repeat lk
  exact hq
theorem yo:xI "list.__init__" "wrapper_descriptor" "wrapper_descriptor.__get__" "method-wrapper" Builtin.«wrapper_descriptor.__get__» where
 typ:=yj
 slot:=kF
 entry:=jI
 args:=kO
 run prog w A E h g d t os x C Q hi hC hq:=by
  have hl:".".intercalate ("list.__init__".cutAt '.').dropLast="list":=by decide+kernel
  have jC:Looks (model prog w) h (isInstance (.ref x) (.type (".".intercalate ("list.__init__".cutAt '.').dropLast))) true:=by rw[hl];exact hi
  unfold Builtin.«wrapper_descriptor.__get__»;repeat lk
  exact hq
theorem C5:xI "list.pop" "method_descriptor" "method_descriptor.__get__" "builtin_function_or_method" Builtin.«method_descriptor.__get__» where
 typ:=CY
 slot:=rt
 entry:=oV
 args:=sG
 run prog w A E h g d t os x C Q hi hC hq:=by
  have hl:".".intercalate ("list.pop".cutAt '.').dropLast="list":=by decide+kernel
  have jC:Looks (model prog w) h (isInstance (.ref x) (.type (".".intercalate ("list.pop".cutAt '.').dropLast))) true:=by rw[hl];exact hi
  have ht:Manifest.toldItsClass.contains "list.pop"=false:=by decide+kernel
  unfold Builtin.«method_descriptor.__get__»;repeat lk
  simp only[show (Value.ref x==Value.none)=false from rfl,hC,Bool.false_eq_true,if_false,ht]
  repeat lk
  exact hq
section
variable {prog:Program}{w:World}{M:Model}{A:Around}{E:Value→Shared→Prop}{h:Heap}{g:Array GenState}{d:Drawn}{t:Nat}{os:OsState}
theorem tV {so D x C:Addr}{id dT gid bT:String}{Bg:Builtin}{yY l:List Value}{K:Frag}{name:Str}{tk:Tok}{Q:Fin→Shared→Prop}(S:xI id dT gid bT Bg)
  (Ki:h.get? so=some {cls:=.type "super",dict:=none,data:=.fields #[.ref D,.ref x,.ref C],slots:= #[]}) (mA:Looks (model prog w) h (opaqueClassAbove (.ref C)) none)
  (hC:Looks (model prog w) h (mroOf (.ref C)) yY) (hl:(yY.dropWhile (· != .ref D)).drop 1=l) (X:K.In h)
  (hf:alongIn K name l=some (some (.builtin id))) (Lr:x≠C) (hn:(name==("__class__":Str))=false) (hi:Looks (model prog w) h (isInstance (.ref x) (.type "list")) true)
  (hq:Q (.done (.ret (.ref h.objs.size))) ⟨h.push {cls:=.type bT,data:=.fields #[.builtin id,.ref x]},g,d,t,os⟩):
  wpAny (model prog w) A (Builtin.«super.__getattribute__» ⟨[.ref so,.str name tk],[]⟩) Q E ⟨h,g,d,t,os⟩:=by
 have Mf:=S.slot.lookup;have dm:(Value.ref x==Value.ref C)=false:=by simp[Lr]
 have Sd:({cls:=.type "super",dict:=none,data:=.fields #[.ref D,.ref x,.ref C],slots:= #[]}:Obj).data= .fields #[.ref D,.ref x,.ref C]:=rfl;have f0:(#[.ref D,.ref x,.ref C]:Array Value)[0]? =some (.ref D):=rfl;have f1:(#[.ref D,.ref x,.ref C]:Array Value)[1]? =some (.ref x):=rfl;have f2:(#[.ref D,.ref x,.ref C]:Array Value)[2]? =some (.ref C):=rfl;have ht:=S.typ;have hTd:(⟨h,g,d,t,os⟩:Shared).TypeIs (.builtin id) dT:=ht;unfold Builtin.«super.__getattribute__»;repeat (first
  | (with_reducible refine wpAny_field Ki Sd f0 ?_) | (with_reducible refine wpAny_field Ki Sd f1 ?_) | (with_reducible refine wpAny_field Ki Sd f2 ?_)
  | (with_reducible refine ks_wpAny_notOpaque mA ?_)
  | (with_reducible refine Looks.at hC ?_;rw[hl])
  | (refine ks_forIn_along X (fun U U=>rfl) rfl ?_ hf)
  | (with_reducible refine wpAny_typeOf hTd ?_)
  | (with_reducible refine wpAny_call_entry S.slot hTd S.entry ?_ (S.args _ _ _))
  | (simp only[hn,dm,Bool.or_false,Bool.false_eq_true,if_false])
  | wp_step
  | dsimp only)
 refine S.run prog w _ _ _ _ _ _ _ x (.ref C) _ hi rfl ⟨_,rfl,?_⟩;exact wpAny_bind (wpAny_pure (wpAny_pure (wpAny_pure hq)))
theorem jG {so D x C:Addr}{id dT gid bT:String}{Bg:Builtin}{yY l:List Value}{K:Frag}{name:Str}{pl:Sem Bool}{Q:Value×List Value→Shared→Prop}(S:xI id dT gid bT Bg)
  (Ki:h.get? so=some {cls:=.type "super",dict:=none,data:=.fields #[.ref D,.ref x,.ref C],slots:= #[]}) (mA:Looks (model prog w) h (opaqueClassAbove (.ref C)) none)
  (hC:Looks (model prog w) h (mroOf (.ref C)) yY) (hl:(yY.dropWhile (· != .ref D)).drop 1=l) (X:K.In h)
  (hf:alongIn K name l=some (some (.builtin id))) (Lr:x≠C) (hn:(name==("__class__":Str))=false) (hi:Looks (model prog w) h (isInstance (.ref x) (.type "list")) true)
  (hq:Q (.ref h.objs.size,[]) ⟨h.push {cls:=.type bT,data:=.fields #[.builtin id,.ref x]},g,d,t+1,os⟩):
  wpAny (model prog w) A (getMethod (.ref so) name pl) Q E ⟨h,g,d,t,os⟩:=by
 have Mf:=PySem.F.ks_slot_super_ga.lookup;have HX:=PySem.F.ks_canon_super_ga;have hT: ∀t',(⟨h,g,d,t',os⟩:Shared).TypeIs (.ref so) "super":=fun U=>⟨_,Ki,rfl⟩
 unfold getMethod;refine wpAny_bind (wpAny_specialOf (hT _) Mf ?_);show wpAny _ _ (if (Manifest.canonical "super.__getattribute__" != "object.__getattribute__")=true then _ else _) _ _ _;rw[if_pos HX];unfold getAttr getAttrBy;refine wpAny_bind (wpAny_bind (wpAny_mkText (wpAny_holding (wpAny_bind (wpAny_typeOf (hT _) (wpAny_bind (wpAny_of_eq Mf ?_)))))));show wpAny _ _ (getAttrByItsOwn (.ref so) (.str name t) (.type "super") (.builtin "super.__getattribute__") true false) _ _ _;unfold getAttrByItsOwn hookBefore callGetattribute boundAndCalled;refine wpAny_bind (wpAny_of_eq (show (if onTheHeap (.type "super") then typeLookup (.type "super") "__getattr__" else pure none)=pure none from rfl) ?_);refine wpAny_bind (wpAny_attempt (wpAny_holding ?_));show wpAny _ _ (bindSpecial (.builtin "super.__getattribute__") (.ref so) >>= _) _ _ _;refine wpAny_bind (wpAny_of_eq (PySem.F.ks_slot_super_ga.bind _) ?_);refine wpAny_mono (Q:=fun v s'=>v= .ref h.objs.size∧s'=⟨h.push {cls:=.type bT,data:=.fields #[.builtin id,.ref x]},g,d,t+1,os⟩) (E:=fun U U=>False)
  (wpAny_call_entry PySem.F.ks_slot_super_ga (hT _) PySem.F.ks_entry_super_ga (tV S Ki mA hC hl X hf Lr hn hi ⟨_,rfl,rfl,rfl⟩) (PySem.F.ks_gaArgs_super _ _)) (fun v s' hv=> ?_) fun U U z=>z.elim
 refine bo hv fun ah aU=> ?_;clear hv;subst ah;subst aU
 exact wpAny_pure (wpAny_pure hq)
theorem sC {s:Shared}{b x:Addr}{id bT:String}{B:Builtin}{args:List Value}{Q:Value→Shared→Prop}(hb:s.heap.get? b=some {cls:=.type bT,data:=.fields #[.builtin id,.ref x]}) (Kp:bT="method-wrapper"∨bT="builtin_function_or_method")
  (HM:entryFor table id=some B) (uA:plainId id=true) (HS: ∀(A':Around) (E':Value→Shared→Prop) (Q':Unit→Shared→Prop),Q' () s→wpAny (model prog w) A' (checkBoundCall id ⟨.ref x::args,[]⟩) Q' E' s)
  (h:wpAny (model prog w) A.in1 (B ⟨.ref x::args,[]⟩) (fun fin s'=> ∃v,fin= .done (.ret v)∧Q v s') E s):wpAny (model prog w) A (call (.ref b) args) Q E s:=by
 refine wpAny_call (codeAny_of_tree ?_);show wpAny _ _ (callAny (.ref b) _) _ _ _;unfold callAny;refine wpAny_bind (wpAny_load hb ?_);rcases Kp with rfl | rfl
 all_goals
  show wpAny _ _ (checkBoundCall id ⟨.ref x::args,[]⟩ >>= fun U=>again (.builtin id ⟨.ref x::args,[]⟩)) _ _ _;refine wpAny_bind (HS _ _ _ ?_);refine wpAny_pure ⟨plainId_quiet uA _,codeAny_builtin HM ?_⟩;rw[Around.under_plainId uA];exact wpAny_mono h (fun fin s' q=>by refine aF q fun v ah hv=> ?_;clear q;subst ah;exact hv) fun U U f=>f
theorem ED {s:Shared}{x:Addr}{A':Around}{E':Value→Shared→Prop}{Q':Unit→Shared→Prop}(h:Q' () s):wpAny (model prog w) A' (checkBoundCall "list.__len__" ⟨.ref x::[],[]⟩) Q' E' s:=
 wpAny_of_eq (show checkBoundCall "list.__len__" ⟨.ref x::[],[]⟩=pure () from by kernel_rfl) h
theorem zY {s:Shared}{x:Addr}{A':Around}{E':Value→Shared→Prop}{Q':Unit→Shared→Prop}(h:Q' () s):wpAny (model prog w) A' (checkBoundCall "list.__init__" ⟨.ref x::[],[]⟩) Q' E' s:=
 wpAny_of_eq (show checkBoundCall "list.__init__" ⟨.ref x::[],[]⟩=pure () from by kernel_rfl) h
theorem Ac (v:Value):(match Manifest.signature? "list.pop" with | some sig=>Bind.checkArgs "list.pop" {sig with full:=toString ("_Accumulator":Str).toString++toString "."++toString (Bind.lastOf "list.pop")} ⟨[v],[]⟩ | none=>unsupported "")=(pure ():Sem Unit):=by
 rw[signature?_of (id:="list.pop") (n:=['p','o','p']) (o:=['t','s','i','l']) (by kernel_rfl) PySem.F.owner_list];kernel_rfl
theorem EC {K:Frag}{cd:ClassData}{s:Shared}{x C:Addr}{ox:Obj}(X:K.In s.heap) (Y:c9 K C cd) (hx:s.heap.get? x=some ox) (hc:ox.cls= .ref C) (mA: ∀c,ox.data≠ .cls c) (hmt:typeIn K (.ref C)=some (.type "type")) (hqn:cd.qualname=("_Accumulator":Str)) (hm:cd.mro.contains (.type "module")=false) {A':Around}{E':Value→Shared→Prop}{Q':Unit→Shared→Prop}(h:Q' () s):wpAny (model prog w) A' (checkBoundCall "list.pop" ⟨.ref x::[],[]⟩) Q' E' s:=by
 have T: ∀{M:Model},Looks M s.heap (typeOf (.ref x)) (.ref C):=hc ▸ (Looks.ld hx).andThen .now;have L1:Looks (model prog w) s.heap (isInstance (.ref x) (.type "module")) false:=T.andThen (looks_mroIn X (by unfold mroIn;rw[Y.cls,Option.bind_some,if_neg (by rw[Y.ne];decide),hm]));have L2:=T (M:=model prog w);have L3:=looks_clsIn (M:=model prog w) X Y.cls;have L4:=looks_typeIn (M:=model prog w) X hmt;have hs: ∃sig,Manifest.signature? "list.pop"=some sig:=Option.isSome_iff_exists.mp (by rw[signature?_of (id:="list.pop") (n:=['p','o','p']) (o:=['t','s','i','l']) (by kernel_rfl) PySem.F.owner_list];kernel_rfl);refine gF hs fun sig hs=> ?_
 have hk:builtinKind "list.pop"=some .method:=by decide+kernel
 have ha:Bind.checkArgs "list.pop" {sig with full:=toString cd.qualname.toString++toString "."++toString (Bind.lastOf "list.pop")} ⟨[.ref x],[]⟩=pure ():=by
  have:=Ac (.ref x)
  rw[hs] at this
  rw[hqn];exact this
 have L5:Looks (model prog w) s.heap (isType (.ref x)) false:=by
  intro A Q E s' k q;unfold isType;refine wpAny_bind (wpAny_loadPart (k _ _ hx) ?_);obtain⟨oc,od,odt,osl⟩:=ox;cases odt<;>first | exact wpAny_pure q | exact absurd rfl (mA _)
 have L6:Looks (model prog w) s.heap (Bind.checkArgs "list.pop" {sig with full:=toString cd.qualname.toString++toString "."++toString (Bind.lastOf "list.pop")} ⟨[.ref x],[]⟩) ():=Looks.of_pure ha;unfold checkBoundCall;rw[hs,hk];dsimp only;obtain⟨hh,g,d,t,os⟩:=s;repeat lk
 exact h
end
theorem z1 {prog:Program}{w:World}{A₀ A:Around}{s:Shared}{base h₀:Heap}{outer:List Env}{L:Addr}{m:Str→Option Value}{env:Env}{news:List (Addr×Obj)}{R:Result→Shared→Prop}{name qual:Str}{params:Arguments}{body:List Stmt}{scope:Scope}{cl:List (Str×Addr)}
  {dV kV doc pm bu ct:Value}{an:Option Addr}{fo:Obj}{f:Addr}{args:Args}{binds:List (Str×Value)}(B:Below A₀ base outer h₀) (F:Fr h₀ L s.heap m) (N:News h₀ L s.heap news) (RX:h₀.NoLimit) (hA:A.frames=some (env::outer)) (hf:env.frame=some L) (Ml:env.scope.kind= .function)
  (ho:s.heap.get? f=some fo) (hd:fo.data= .func (fnX name qual params body scope cl dV kV doc pm an bu ct)) (HV:s.heap.CodeRec bu qual) (LQ:A.depth<recursionLimit)
  (zp:BindsTo s (fnX name qual params body scope cl dV kV doc pm an bu ct) args binds) (RW: ∀y∈binds,scope.names.lookup y.1=some .local)
  (h: ∀g L' dk,Fr h₀ L g m→Fr g L' dk (fun y=>binds.reverse.lookup y)→News g L' dk news→Below A base (env::outer) g→h₀.StaysIn g→
   _root_.PySem.wpAt (model prog w) (A.deeper (envX qual scope L' f bu cl)) (.func body (envX qual scope L' f bu cl)) (execs body (envX qual scope L' f bu cl))
    (fun fl s'=>LeaveK h₀ L m g R (match fl with | .ret v=>v | _=>.none) s')
    (fun e s'=>wpAny (model prog w) (A.deeper (envX qual scope L' f bu cl)) (leaving (envX qual scope L' f bu cl) e) (fun U KV=>R (.error e) KV) (fun e' KV=>R (.error e') KV) s')
    {s with heap:=dk,toks:=s.toks+binds.length})
  (bM: ∀x∈scope.names,x.2≠ .cell) (wU:scope.isCoroutine=false) (mB:scope.isGenerator=false) (hk:scope.kind= .function):codeAny (model prog w) A (.call (.ref f) args) R s:=by
 refine Ke (groundX (R:=R) B F N hA hf Ml) fun FG BG st lv=> ?_
 refine ks_codeAny_call_defAt (fd:=fnX name qual params body scope cl dV kV doc pm an bu ct) (body:=body) (binds:=binds) LQ ho hd (RX.keeps F.keep) HV rfl zp bM RW (fun dk zc FZ=> ?_) wU mB hk;exact ks_wpAt_mono (h _ s.heap.objs.size dk FG ⟨zc,fun b o e=>FZ b o (of_hideAll _ e),Nat.le_of_eq (hideAll_size _ _)⟩
  (fun p hp=>⟨FZ _ _ (N p hp).1,Nat.ne_of_lt (Heap.lt_size (N p hp).1),hideAll_none _ (List.mem_map_of_mem hp)⟩) BG st) (fun fl s' hl=>lv _ _ hl) fun U U y=>y
noncomputable def PQ (prog:Program) (w:World) (X:Cx) (c:Code) {α:Type}(t:Sem α) (ρ:Ro) (σ:Led) (R:α→Shared→Prop):Prop:=
 ∀s,Inv X ρ σ s→_root_.PySem.wpAt (model prog w) X.A c t R (fun U U=>False) s
noncomputable def Ks (prog:Program) (w:World) (X:Cx) (c:Code) (t:Sem Flow) (ρ:Ro) (σ:Led) (K:PF→Ro→Led→Prop):Prop:=PQ prog w X c t ρ σ fun fl s'=> ∃f bC σ',K f bC σ'∧FR f fl∧Inv X bC σ' s'
structure Kw (T:aX) (name qual:Str) (st:Stmt) (fa:Addr) (cl:List (Str×Addr)) (bu dV:Value):Prop where
 get: ∃fo kV doc pm ct an,T.K.lookup fa=some fo∧fo.cls= .type "function"∧fo.data= .func (fnX name qual (dh st) (bodyOf st) (ao st) cl dV kV doc pm an bu ct)∧codeIn T.K bu qual=true
theorem Kw.isFn {T:aX}{name qual:Str}{st:Stmt}{fa:Addr}{cl:List (Str×Addr)}{bu dV:Value}(D:Kw T name qual st fa cl bu dV):Bh T fa:=⟨fun X n O=>by
 refine QU D.get fun fo kV doc pm ct an h1 h2 h3 h4=> ?_
 exact⟨fo,_,O.top _ _ h1,h3⟩⟩
section
variable {prog:Program}{w:World}{T:aX}{n:Nat}
theorem lj {fa:Addr}{name qual:Str}{st:Stmt}{cl:List (Str×Addr)}{bu dV:Value}(D:Kw T name qual st fa cl bu dV) {args args':List PV}{σ:Led}{R:PV→Led→Prop}(names rest:List Str)
  (hb: ∀us:List Value,cu args us→ ∃yh:List Value,cu args' yh∧ ∀kV doc pm an ct,∀s:Shared,T.K.In s.heap→BindsTo s (fnX name qual (dh st) (bodyOf st) (ao st) cl dV kV doc pm an bu ct) ⟨us,[]⟩ (names.zip yh))
  (zf:(names++rest).Nodup) (jb:mw (ao st) (names++rest)=true) (gx:args'.length=names.length)
  (bM: ∀x∈(ao st).names,x.2≠ .cell) (wU:(ao st).isCoroutine=false) (mB:(ao st).isGenerator=false) (hk:(ao st).kind= .function)
  (h: ∀A L g os,cU T n ⟨A,envX qual (ao st) L fa bu cl,L,L,g,os,names++rest⟩→Lay ⟨A,envX qual (ao st) L fa bu cl,L,L,g,os,names++rest⟩→
   Ks prog w ⟨A,envX qual (ao st) L fa bu cl,L,L,g,os,names++rest⟩ (.func (bodyOf st) (envX qual (ao st) L fa bu cl)) (execs (bodyOf st) (envX qual (ao st) L fa bu cl)) (init names args' rest) σ fun f U σ'=>R f.val σ'):
  Fn prog w T (n+1) (.ref fa) args σ R:=by
 intro X ρ s O gy I us hv;refine QU D.get fun fo kV doc pm ct an h1 h2 h3 h4=> ?_
 refine QT O.call fun A₀ base outer uF B hA hf Ml=> ?_
 refine gS I.st fun m news F N RI Dl=> ?_
 refine aF (hb us hv) fun yh FN zp=> ?_
 have hlen:=FN.length;have KI:T.K.In s.heap:=O.top.keeps F.keep;have e:(names.zip yh).map (·.1)=names:=by rw[List.map_fst_zip];exact IJ gx hlen
 refine z1 B F N O.lim hA (hf.trans (congrArg some gy)) Ml (KI _ _ h1) h3 (codeRec_of KI h4) (by have:=O.dep;show X.A.depth<1000;exact NX this) (zp _ _ _ _ _ s KI) ?_ ?_ bM wU mB hk
 ·intro y hy;have hm:y.1∈names:=by rw[←e];exact List.mem_map_of_mem hy
  have:=List.all_eq_true.mp jb y.1 (List.mem_append_left _ hm)
  simp only[Bool.and_eq_true,beq_iff_eq] at this
  exact this.1
 ·intro g L' dk FG F' N' B' Pm
  let oU:Env:=envX qual (ao st) L' fa bu cl
  let X':Cx:=⟨X.A.deeper oU,oU,L',L',g,X.os,names++rest⟩
  have O':cU T n X':=by
   refine⟨F'.above,⟨X.A,base,uF::outer,oU,B',?_,rfl,hk⟩,O.lim.keeps Pm,O.top.keeps Pm,O.gm.keeps Pm,O.bm.keeps Pm,?_,?_,O.hh,hk,rfl,rfl⟩
   ·show X.A.frames.map (oU:: ·)=_;rw[hA];rfl
   ·show X.A.depth+1+n<900;have:=O.dep;exact I1 this
   ·show X.A.units+3+10*n<9000;have:=O.un;exact NY this
  have Y:Lay X':=lay_of (scope:=ao st) jb rfl hk rfl;have I':Inv X' (init names args' rest) σ {s with heap:=dk,toks:=s.toks+(names.zip yh).length}:=
   ⟨⟨_,news,F',N',oN FN gx zf,Dl⟩,I.nd,kj gx,zf,I.gens,I.os⟩
  refine ks_wpAt_mono (h _ L' g X.os O' Y _ I') (fun fl s' q=> ?_) fun U U f=>f.elim
  refine DH q fun f bC σ' hR zh aH=> ?_
  refine gS aH.st fun m' kJ J9 J3 R₂ Ka=> ?_
  refine leaveK_ J9 J3 fun J8 J1=>⟨Sz fl,f.val,σ',by cases fl<;>rfl,hR,zh.val,⟨⟨m,kJ,J8,J1,RI,Ka⟩,aH.nd,I.ks,I.kn,aH.gens,aH.os⟩⟩
theorem cN {fa:Addr}{name qual:Str}{st:Stmt}{cl:List (Str×Addr)}{bu dV:Value}(D:Kw T name qual st fa cl bu dV) {args args':List PV}{σ:Led}{R:PV→Led→Prop}(names rest:List Str)
  (hb: ∀us:List Value,cu args us→ ∃yh:List Value,cu args' yh∧ ∀kV doc pm an ct,∀s:Shared,T.K.In s.heap→BindsTo s (fnX name qual (dh st) (bodyOf st) (ao st) cl dV kV doc pm an bu ct) ⟨us,[]⟩ (names.zip yh))
  (zf:(names++rest).Nodup) (jb:mw (ao st) (names++rest)=true) (gx:args'.length=names.length)
  (bM: ∀x∈(ao st).names,x.2≠ .cell) (wU:(ao st).isCoroutine=false) (mB:(ao st).isGenerator=false) (hk:(ao st).kind= .function)
  (h: ∀A L g os,cU T n ⟨A,envX qual (ao st) L fa bu cl,L,L,g,os,names++rest⟩→Lay ⟨A,envX qual (ao st) L fa bu cl,L,L,g,os,names++rest⟩→
   SE prog w ⟨A,envX qual (ao st) L fa bu cl,L,L,g,os,names++rest⟩ (bodyOf st) (init names args' rest) σ fun f U σ'=>R f.val σ'):
  Fn prog w T (n+1) (.ref fa) args σ R:=
 lj D names rest hb zf jb gx bM wU mB hk fun A L g os O Y s I=>wpAt_of_wpAny (h A L g os O Y s I)
end
section
variable {prog:Program}{w:World}{X:Cx}{ρ bC bI:Ro}{σ σ' aD:Led}{T:aX}{n:Nat}{R R':PV→Led→Prop}{K:PF→Ro→Led→Prop}{c:Code}
variable {x C d:Addr}{cd:ClassData}{ps:List PV}
theorem oW {M:Model}{A:Around}{E:Value→Shared→Prop}{s:Shared}{pos:Pos}{b:Addr}{bT id:String}{Q:Value→Shared→Prop}(hb:s.heap.get? b=some {cls:=.type bT,data:=.fields #[.builtin id,.ref x]}) (Kp:bT="method-wrapper"∨bT="builtin_function_or_method")
  (h:wpAny M A (call (.ref b) []) Q E s):wpAny M A (callWith pos (.ref b) [] [] []) Q E s:=by
 unfold callWith;refine wpAny_bind (wpAny_holding (PyProof.Rows.evalArgs_none (wpAny_bind (wpAny_standAt ?_))));refine wpAny_bind (m:=keeperOf (.ref b)) ?_
 unfold keeperOf;refine wpAny_bind (wpAny_load hb ?_);rcases Kp with rfl | rfl
 all_goals
  refine wpAny_pure ?_
  exact wpAny_bind (wpAny_mono h (fun r au hr=>wpAny_bind (wpAny_holding (wpAny_point (wpAny_pure hr)))) fun U U x=>x)
theorem ko {name qual:Str}{st:Stmt}{f cc SW:Addr}{dV:Value}{id dT gid bT:String}{Bg B:Builtin}{attr:Str}{p0 p1 apos pos:Pos}{pl:Sem Bool}{ar:Arg}{body:List Stmt}{Q:Value→Shared→Prop}
  (O:cU T n X) (Y:c9 T.K C cd) (D:Kw T name qual st f [("__class__",cc)] (.ref SW) dV) (bM: ∃oc,T.K.lookup cc=some oc∧oc.data= .cell (some (.ref C)))
  (Mv: ∃oc vs file tf,T.K.lookup SW=some oc∧oc.data= .fields vs∧vs[2]? =some (.str file tf)∧((prog.main.file:Str)==file)=true) (Rt:(prog.main.scope.names.lookup ("super":Str)).isSome=false)
  (hg:T.mg "super"=none) (hbu:T.mb "super"=some (.type "super")) (mA:nsIn T.K cStatics "thirdparty.any"=some none)
  (zl:X.env=envX qual (ao st) X.L f (.ref SW) [("__class__",cc)]) (HD:(ao st).names.lookup ("super":Str)=some .globalImplicit) (hkc:(ao st).names.lookup ("__class__":Str)=some .free)
  (hp:((dh st).posonlyargs++(dh st).args).head? =some ar) (hka:(ao st).names.lookup ar.arg=some .local) (hv:(ar.arg,some (.ref x))∈ρ) (zq:(attr==("__class__":Str))=false)
  (S:xI id dT gid bT Bg) (Mg:cd.mro.contains (.type "list")=true) (RR:cd.mro.contains (.ref C)=true) (hal:alongIn T.K attr ((cd.mro.dropWhile (· != .ref C)).drop 1)=some (some (.builtin id))) (hm:(x,isA C d ps)∈σ)
  (Kp:bT="method-wrapper"∨bT="builtin_function_or_method") (HM:entryFor table id=some B) (uA:plainId id=true)
  (HS: ∀(s:Shared),Inv X ρ σ s→ ∀(A':Around) (E':Value→Shared→Prop) (Q':Unit→Shared→Prop),Q' () s→wpAny (model prog w) A' (checkBoundCall id ⟨.ref x::[],[]⟩) Q' E' s)
  (h:Ev prog w {X with A:=X.A.in1} (B ⟨.ref x::[],[]⟩) ρ σ (fun fin s'=> ∃v,fin= .done (.ret v)∧Q v s'))
  (he:eval (.Call (.Attribute (.Call (.Name "super" p0) [] [] p1) attr apos) [] [] pos) X.env=(do
   let ov ←attributeBase (.Call (.Name "super" p0) [] [] p1) attr X.env (eval (.Call (.Name "super" p0) [] [] p1) X.env)
   standAt apos.atName
   let (f,first) ←holding [ov] (getMethod ov attr pl)
   callWith pos f first (backTo pos (starEach [] X.env)) []):=by rfl):
  PQ prog w X (.func body X.env) (eval (.Call (.Attribute (.Call (.Name "super" p0) [] [] p1) attr apos) [] [] pos) X.env) ρ σ Q:=fun s I=>by
 obtain⟨A,env,L,FL,aao,aab,ks⟩:=X;dsimp only at zl
 subst zl;have XI:=kg O I;refine aF (I.obj hm) fun o ho po=> ?_
 have QP:=po;refine Ke QP fun h1 h2 h3 h4=> ?_
 have hnc:=h3.notCls;refine gS I.st fun m news F N RI Dl=> ?_
 refine aF (RI.get hv) fun u hu Lw=> ?_
 revert hu;refine vR Lw fun hu=> ?_
 refine QU D.get fun fo kV doc pm ct an k1 k2 k3 k4=> ?_
 refine QT Mv fun oc vs file tf c1 c2 c3 c4=> ?_
 refine aF bM fun occ e1 e2=> ?_
 obtain⟨oD,PI,Si⟩: ∃oD,s.heap.get? C=some oD∧oD.data= .cls cd:=by
  have hc:=Y.cls;unfold clsIn at hc
  split at hc
  ·rename_i ig
   cases hc
   exact⟨_,XI _ _ ig,rfl⟩
  ·cases hc
 have Lr:x≠C:=by
  rintro rfl;rw[ho] at PI
  cases PI
  exact hnc _ Si
 have hB:mroIn T.K C (.ref C)=some true:=by unfold mroIn;rw[Y.cls,Option.bind_some,if_neg (by rw[Y.ne];decide),RR]
 have hi:=f5 (K:=T.K) XI Y Mg ho h1 (M:=model prog w);have gm:=O.gm.keeps F.keep;have bm:=O.bm.keeps F.keep;obtain⟨hh,g,d0,t,os⟩:=s;refine ks_wpAt_MethodCall (pl:=pl) ?_ he;refine ks_wpAt_super_base HD hkc zq rfl (XI _ _ k1) k3 hp rfl (XI _ _ c1) c2 c3 c4 Rt ?_
 refine ks_loadName_global O.fn HD (loadGlobal_builtin gm hg bm hbu ⟨rfl,?_⟩);refine wpAny_loadName_free O.fn hkc rfl ⟨_,XI _ _ e1,e2⟩ ?_
 refine wpAny_loadName_local O.fn hka F.ns hu ?_
 refine ks_wpAny_isType_cls PI Si ⟨rfl,?_⟩;refine ks_wpAny_call_super PI Si ho h1 hnc (looks_mroIn XI hB) (fun h' e k=> ?_);have I':=I.ext (tk:=t) (h':=h') k;have XI':=kg O I';refine jG S e (looks_opaque XI' mA) (fun A Q E s k q=>wpAny_bind ((looks_clsIn XI' Y.cls) A _ E s k (wpAny_pure q))) rfl XI' hal Lr zq (hi.keeps k) ?_
 have I'':=I'.ext (tk:=t+1) (h':=h'.push {cls:=.type bT,data:=.fields #[.builtin id,.ref x]}) fun b o e=>Heap.get?_push_of_some _ e
 refine oW (x:=x) (bT:=bT) (id:=id) (Heap.get?_push_size _ rfl) Kp ?_
 exact sC (B:=B) (Heap.get?_push_size _ rfl) Kp HM uA (fun A' E' Q' q=>HS _ I'' A' E' Q' q) (h _ (I''.to rfl rfl rfl rfl))
end
structure u9 (M:Model) (h:Heap) (C:Addr) (cd:ClassData):Prop where
 obj: ∃oc od sl,h.get? C=some ⟨oc,od,.cls cd,sl⟩
 del:cd.hasDel=false
 ne:cd.mro.isEmpty=false
 mro:Looks M h (mroOf (.ref C)) cd.mro
 made:Looks M h (Bind.madeBy (.ref C)) (some "list.__new__")
 base:Looks M h (Bind.staticBase (.ref C)) (.ref C)
 self:Looks M h (isSubtype (.ref C) (.ref C)) true
 lst:Looks M h (isSubtype (.ref C) (.type "list")) true
 call:Looks M h (specialOf (.ref C) "__call__") (some (.builtin "type.__call__"))
 typ:Looks M h (isInstance (.ref C) (.type "type")) true
theorem wG {K:Frag}{M:Model}{h:Heap}{C:Addr}{cd:ClassData}(X:K.In h) (hc:clsIn K C=some cd) (xO:(K.lookup C).map (fun o=>(o.slots.toList[4]?).join)=some (some (.builtin "list.__new__"))) (hd:cd.hasDel=false) (dm:cd.mro.isEmpty=false)
  (r3:cd.mro.contains (.ref C)=true) (hl:cd.mro.contains (.type "list")=true) (kK:specialIn K (.ref C) "__call__"=some (some (.builtin "type.__call__"))) (ht:instIn K (.ref C) (.type "type")=some true):u9 M h C cd:=by
 have hm:Looks M h (mroOf (.ref C)) cd.mro:=(looks_clsIn X hc).andThen .now;obtain⟨c,l,PD⟩: ∃c l,cd.mro=c::l:=by cases q:cd.mro with | nil=>rw[q] at dm;cases dm | cons c l=>exact⟨c,l,rfl⟩
 unfold clsIn at hc
 split at hc
 ·rename_i oc od cd' sl ho
  cases hc
  rw[ho] at xO
  have e3:(sl.toList[4]?).join=some (.builtin "list.__new__"):=Option.some.inj xO;have made:Looks M h (Bind.madeBy (.ref C)) (some "list.__new__"):=by
   intro A Q E s k q;unfold Bind.madeBy;refine wpAny_bind (hm A _ E s k ?_);rw[PD,List.forIn_cons];refine wpAny_bind (wpAny_bind (wpAny_bind (wpAny_bind (wpAny_loadPart (k _ _ (X _ _ ho)) (wpAny_pure ?_)))));dsimp only;rw[←Array.getElem?_toList,e3];exact wpAny_pure (wpAny_pure (wpAny_pure q))
  have F4:clsIn K C=some cd:=by unfold clsIn;rw[ho]
  refine⟨⟨oc,od,sl,X _ _ ho⟩,hd,dm,hm,made,?_,looks_mroIn X ?_,looks_mroIn X ?_,looks_specialIn X kK,looks_instIn X ht⟩
  ·intro A Q E s k q;unfold Bind.staticBase;refine wpAny_bind (hm A _ E s k ?_);rw[PD,List.forIn_cons];exact wpAny_bind (wpAny_bind (wpAny_bind (made A _ E s k (wpAny_pure (wpAny_pure (wpAny_pure q))))))
  ·unfold mroIn;rw[F4,Option.bind_some,if_neg (by rw[dm];decide),r3]
  ·unfold mroIn;rw[F4,Option.bind_some,if_neg (by rw[dm];decide),hl]
 ·cases hc
noncomputable abbrev mz (C dx:Addr):Obj:={cls:=.ref C,dict:=some dx,data:=.seq #[]}
section
variable {prog:Program}{w:World}{A:Around}{C:Addr}{cd:ClassData}{R:Result→Shared→Prop}{h:Heap}{g:Array GenState}{d:Drawn}{t:Nat}{os:OsState}
theorem xn (C v:Value):argsOk "list.__new__" ⟨[C,v],[]⟩:=by unfold argsOk;kernel_rfl
theorem Rc {v:Value}(Y:u9 (model prog w) h C cd)
  (hq:R (.ok (.ret (.ref (h.objs.size+1)))) ⟨(h.push emptyDict).push (mz C h.objs.size),g,d,t,os⟩):
  codeAny (model prog w) A (.call (.builtin "list.__new__") ⟨[.ref C,v],[]⟩) R ⟨h,g,d,t,os⟩:=by
 obtain⟨⟨oc,od,sl,hC⟩,e2,e4,hm,made,base,self,lst,call,typ⟩:=Y;have hk:builtinKind "list.__new__"=some .builtinFn:=by decide+kernel
 have hs:splitId "list.__new__"=some ("list","__new__"):=by decide+kernel
 have ha:=xn (.ref C) v;refine codeAny_call_builtin_code (plainId_quiet F.plain_list_new _) ?_
 simp only[checkBuiltinCall,hk,hs]
 have HW:(Manifest.canonical "list.__new__" != Manifest.canonical "list.__new__")=false:=by simp
 have aaj:Looks (model prog w) h (isType (.ref C)) true:=by
  intro A Q E s' k q;unfold isType;exact wpAny_bind (wpAny_loadPart (k _ _ hC) (wpAny_pure q))
 rw[if_pos dC];refine wpAny_bind ?_
 have fin: ∀Q' E',Q' () (⟨h,g,d,t,os⟩:Shared)→wpAny (model prog w) A.in1 (match Manifest.signature? "list.__new__" with | some sig=>Bind.checkArgs "list.__new__" sig ⟨[.ref C,v],[]⟩ | none=>pure ()) Q' E' ⟨h,g,d,t,os⟩:=fun Q' E' q=>by
  unfold argsOk at ha
  exact wpAny_of_eq ha q
 repeat (first | simp only[Bool.not_true,HW,Bool.false_eq_true,if_false] | lk)
 refine codeAny_builtin_stack F.entry_list_new rfl fun p st=> ?_
 rw[Around.under_plainId F.plain_list_new _];have RJ:=owner_list_new;simp only[RJ];repeat (first | simp only[Bool.not_true,e2,Bool.false_eq_true,if_false] | lk)
 have hC2:((h.push {cls:=.type "dict",data:=.dict #[]}).push {cls:=.ref C,dict:=some h.objs.size,data:=.seq #[]}).get? C=some {cls:=oc,dict:=od,data:=.cls cd,slots:=sl}:=Heap.get?_push_of_some _ (Heap.get?_push_of_some _ hC);repeat (first | simp only[e2,Bool.false_eq_true,if_false] | lk)
 have e:(h.push {cls:=.type "dict",data:=.dict #[]}).objs.size=h.objs.size+1:=Heap.size_push ..;rw[e];exact hq
theorem uo {v:Value}{init:Value}(Y:u9 (model prog w) h C cd) (hi:Looks (model prog w) h (typeLookup (.ref C) "__init__") (some init)) (hb: ∀self,Looks (model prog w) h (bindSpecial init self) (init,[self]))
  (hq:codeAny (model prog w) (A.under (.builtin "type.__call__" ⟨[.ref C,v],[]⟩)) (.call init ⟨[.ref (h.objs.size+1),v],[]⟩) (InitBack (h.objs.size+1) R) ⟨(h.push emptyDict).push (mz C h.objs.size),g,d,t,os⟩):
  codeAny (model prog w) A (.call (.ref C) ⟨[v],[]⟩) R ⟨h,g,d,t,os⟩:=by
 have Y':=Y;obtain⟨⟨oc,od,sl,hC⟩,e2,e4,hm,made,base,self,lst,call,typ⟩:=Y;refine codeAny_of_tree ?_
 show wpAny _ _ (callAny (.ref C) _) _ _ _;refine nd_load hC ?_
 show wpAny _ _ (callAny.viaDunder (.ref C) _) _ _ _;unfold callAny.viaDunder;refine wpAny_bind (call.at ?_);dsimp only;rw[tc_bind];refine wpAny_bind (wpAny_pure (wpAny_bind (wpAny_pure ?_)));refine wpAny_pure (a:=Fin.again (.call (.builtin "type.__call__") ⟨[.ref C,v],[]⟩)) (And.intro rfl ?_);refine codeAny_call_builtin_at (Code.quiet_builtin _ (by decide+kernel)) entry_typeCall (W.check_slot tc_kind tc_split typ (tc_args _ _ _) ?_);unfold Builtin.«type.__call__»;repeat (first | simp only[e4,Bool.false_eq_true,if_false] | with_reducible refine wpAny_call ?_ | lk)
 refine Rc Y' ?_
 have k: ∀b o,h.get? b=some o→((h.push emptyDict).push (mz C h.objs.size)).get? b=some o:=fun b o e=>Heap.get?_push_of_some _ (Heap.get?_push_of_some _ e)
 have hx:((h.push emptyDict).push (mz C h.objs.size)).get? (h.objs.size+1)=some (mz C h.objs.size):=by
  have e:(h.push emptyDict).objs.size=h.objs.size+1:=Heap.size_push ..;rw[←e];exact Heap.get?_push_size _ rfl
 have t1:Looks (model prog w) ((h.push emptyDict).push (mz C h.objs.size)) (typeOf (.ref (h.objs.size+1))) (.ref C):=(Looks.ld hx).andThen .now;have s1:=self.keeps k;have i1:=hi.keeps k;have b1:=(hb (.ref (h.objs.size+1))).keeps k;unfold isInstance callSpecial? specialOf;repeat (first | with_reducible refine wpAny_call ?_ | lk)
 refine codeAny_mono hq fun r s' z=> ?_
 rcases r with e | (v | _ | _ | _)<;>first | exact z | exact z.elim | skip
 revert z;refine fun z0=>bo z0 fun ah z=> ?_;clear z0;subst ah
 exact wpAny_pure (wpAny_pure z)
end
section
variable {prog:Program}{w:World}{X:Cx}{ρ bC bI:Ro}{σ σ' aD:Led}{T:aX}{n:Nat}{R R':PV→Led→Prop}{K:PF→Ro→Led→Prop}
variable {x C d:Addr}{cd:ClassData}{ps:List PV}
theorem cU.in1 (O:cU T (n+1) X):cU T n {X with A:=X.A.in1}:=⟨O.above,O.call,O.lim,O.top,O.gm,O.bm,by have:=O.dep;show X.A.depth+n<900;exact Y0 this,by have:=O.un;show X.A.units+1+10*n<9000;exact NZ this,O.hh,O.fn,O.gl,O.bl⟩
theorem cU.tc (O:cU T (n+1) X) {C:Addr}{rest:List Value}:cU T n {X with A:=X.A.under (.builtin "type.__call__" ⟨.ref C::rest,[]⟩)}:=
 ⟨O.above,O.call,O.lim,O.top,O.gm,O.bm,by have:=O.dep;show X.A.depth+1+n<900;exact I1 this,by have:=O.un;show X.A.units+1+10*n<9000;exact NZ this,O.hh,O.fn,O.gl,O.bl⟩
theorem Inv.PL {s:Shared}(I:Inv X ρ σ s) {A:Around}:Inv {X with A:=A} ρ σ s:=I.to rfl rfl rfl rfl
theorem Inv.Kd {s:Shared}{A:Around}(I:Inv {X with A:=A} ρ σ s):Inv X ρ σ s:=I.to rfl rfl rfl rfl
theorem mI {M:Model}{A:Around}{E:Value→Shared→Prop}{s:Shared}{pos:Pos}{C:Addr}{args:List (Bool×Sem Value)}{Q:Value→Shared→Prop}(HB:args.any (·.1)=false)
  (h:wpAny M A (evalArgs (.ref C) true args []) (fun a s₁=>(∃o,s₁.heap.get? C=some o∧ ∃cd,o.data= .cls cd)∧Looks M s₁.heap (specialOf (.ref C) "__call__") (some (.builtin "type.__call__"))∧wpAny M A (call (.ref C) a.pos a.kw) Q E s₁) E s):
  wpAny M A (callWith pos (.ref C) [] args []) Q E s:=by
 unfold callWith;refine wpAny_bind (wpAny_holding (wpAny_mono h (fun a s₁ dk=>wpAny_bind (wpAny_standAt ?_)) fun U U x=>x));refine oBr dk fun o cd ho hd kK hq=> ?_
 simp only[HB,List.any_nil,Bool.or_false]
 refine wpAny_bind (m:=keeperOf (.ref C)) ?_
 unfold keeperOf;refine wpAny_bind (wpAny_load ho ?_);rw[hd];refine wpAny_bind (kK.here ?_);refine wpAny_pure ?_
 exact wpAny_bind (wpAny_mono hq (fun r au hr=>wpAny_bind (wpAny_holding (wpAny_point (wpAny_pure hr)))) fun U U x=>x)
theorem Fq:UniqKeys #[]:=by
 unfold UniqKeys;simp
theorem Ej (O:cU T (n+1) X) (gy:X.FL=X.L) (Y:c9 T.K C cd) {cls:Str}{p pos:Pos}{e:Expr}{v:PV}{fi:Addr}{R₂:Addr→Addr→Led→Prop}
  (hf:XE prog w X (.Name cls p) ρ σ (.ref C)) (xO:(T.K.lookup C).map (fun o=>(o.slots.toList[4]?).join)=some (some (.builtin "list.__new__"))) (hd:cd.hasDel=false) (r3:cd.mro.contains (.ref C)=true) (hl:cd.mro.contains (.type "list")=true)
  (kK:specialIn T.K (.ref C) "__call__"=some (some (.builtin "type.__call__"))) (ht:instIn T.K (.ref C) (.type "type")=some true) (hi:findIn T.K (.ref C) "__init__"=some (some (.ref fi))) (hit:typeIn T.K (.ref fi)=some (.type "function"))
  (he:PE prog w X e ρ σ v) (hc: ∀x d,Fn prog w T n (.ref fi) [.ref x,v] ((x,isA C d [])::(d,fe [])::σ) (fun r σ'=>r= .none∧R₂ x d σ')) (Ef:starEach [e] X.env=[(false,eval e X.env)]:=by rfl):
  GE prog w X (.Call (.Name cls p) [e] [] pos) ρ σ (fun r σ'=> ∃x d,r= .ref x∧R₂ x d σ'):=fun s I=>
 PyProof.Rows.Call_ (wpAny_mono (hf s I) (fun f s₁ q=>by
  refine bo q fun ah aS=> ?_;clear q;subst ah
  refine mI (by rw[Ef];rfl) (wpAny_mono (gQ (prog:=prog) (w:=w) he Ef _ s₁ aS) (fun a au q=> ?_) fun U U f=>f);refine gR q fun us ah hv aH=> ?_;clear q;subst ah
  refine aF hv.one fun u ah hu=> ?_;subst ah
  have XI:=kg O aH;obtain⟨o,ho,wN⟩: ∃o,T.K.lookup C=some o∧o.data= .cls cd:=by
   have hc:=Y.cls;unfold clsIn at hc
   split at hc
   ·rename_i ig
    cases hc
    exact⟨_,ig,rfl⟩
   ·cases hc
  refine⟨⟨o,XI _ _ ho,cd,wN⟩,looks_specialIn XI kK,wpAny_call ?_⟩;have MK:=wG (M:=model prog w) XI Y.cls xO hd Y.ne r3 hl kK ht;have jC:=looks_findIn (M:=model prog w) XI hi;have HZ:=fun self=>bind_fn (M:=model prog w) XI self hit
  obtain⟨hh,g,d0,t,os⟩:=au;have J:=(aH.push (P:=fe []) (o:=emptyDict) (tk:=t) ⟨fun U=>none,#[],0,⟨nofun,fun U U=>rfl⟩,rfl,by intro e he;simp at he,Fq,fun U=>rfl⟩ rfl);have J2:=J.push (P:=isA C hh.objs.size []) (o:=mz C hh.objs.size) (tk:=t) ⟨rfl,rfl,⟨[],0,.nil,rfl⟩,rfl⟩ rfl;have e:(hh.push emptyDict).objs.size=hh.objs.size+1:=Heap.size_push ..;dsimp only at J2
  rw[e] at J2
  refine uo MK jC HZ (codeAny_mono ((hc (hh.objs.size+1) hh.objs.size) _ ρ _ (O.tc (C:=C) (rest:=[u])) gy (J2.PL) [.ref (hh.objs.size+1),u] (.cons (.ref _) (.cons hu .nil))) fun r s' q=> ?_);refine Pp q fun ur σ' ah hR Lw I'=> ?_;clear q;subst ah
  refine vN Lw ?_
  exact⟨rfl,.ref (hh.objs.size+1),σ',⟨_,_,rfl,hR⟩,.ref _,I'.Kd⟩) fun U U f=>f) rfl
theorem Ei (O:cU T (n+1) X) (gy:X.FL=X.L) (Y:c9 T.K C cd) {cls:Str}{p pos:Pos}{es:List Expr}{vs:List PV}{fi:Addr}{R₂:Addr→Addr→Led→Prop}
  (hf:XE prog w X (.Name cls p) ρ σ (.ref C)) (hmk:makesIn T.K C=true) (kK:specialIn T.K (.ref C) "__call__"=some (some (.builtin "type.__call__")))
  (hi:findIn T.K (.ref C) "__init__"=some (some (.ref fi))) (hit:typeIn T.K (.ref fi)=some (.type "function"))
  (he:AE prog w X es pos ρ σ vs) (hc: ∀x d,Fn prog w T n (.ref fi) (.ref x::vs) ((x,y7 C d fM)::(d,fe [])::σ) (fun r σ'=>r= .none∧R₂ x d σ')) (Ef:(backTo pos (starEach es X.env)).any (·.1)=false:=by rfl):
  GE prog w X (.Call (.Name cls p) es [] pos) ρ σ (fun r σ'=> ∃x d,r= .ref x∧R₂ x d σ'):=fun s I=>
 PyProof.Rows.Call_ (wpAny_mono (hf s I) (fun f s₁ q=>by
  refine bo q fun ah aS=> ?_;clear q;subst ah
  refine mI Ef (wpAny_mono (he _ s₁ aS) (fun a au q=> ?_) fun U U f=>f);refine gR q fun us ah hv aH=> ?_;clear q;subst ah
  have XI:=kg O aH;obtain⟨o,ho,wN⟩: ∃o,T.K.lookup C=some o∧o.data= .cls cd:=by
   have hc:=Y.cls;unfold clsIn at hc
   split at hc
   ·rename_i ig
    cases hc
    exact⟨_,ig,rfl⟩
   ·cases hc
  refine⟨⟨o,XI _ _ ho,cd,wN⟩,looks_specialIn XI kK,wpAny_call ?_⟩;refine gS aH.st fun m news F N RI Dl=> ?_
  refine make_K F N XI hmk hi hit fun x dx h' F' N' df Sa=> ?_
  have J:Inv X ρ ((x,y7 C dx fM)::(dx,fe [])::σ) {au with heap:=h'}:=by
   refine⟨⟨m,_,F',N',RI,.cons ⟨rfl,rfl,rfl,rfl⟩ (.cons ⟨fun U=>none,#[],0,⟨nofun,fun U U=>rfl⟩,rfl,by intro e he;simp at he,Fq,fun U=>rfl⟩ Dl)⟩,?_,aH.ks,aH.kn,aH.gens,aH.os⟩;have hk:=Dl.keys;rw[List.map_cons,List.map_cons,List.nodup_cons,List.nodup_cons];have mA: ∀a∈σ.map (·.1),a<dx:=fun a ha=>by
    rw[hk] at ha
    refine aF (List.mem_map.mp ha) fun p hp ah=> ?_;subst ah
    exact df p hp
   refine⟨fun hm=> ?_,fun hm=>Nat.lt_irrefl _ (mA _ hm),aH.nd⟩;rcases List.mem_cons.mp hm with e | hm
   ·have e':x=dx:=e;rw[e'] at Sa;exact Nat.lt_irrefl _ Sa
   ·exact Nat.lt_irrefl _ (Nat.lt_trans Sa (mA _ hm))
  refine codeAny_mono ((hc x dx) _ ρ _ (O.tc (C:=C) (rest:=us)) gy (J.PL) (.ref x::us) (.cons (.ref _) hv)) fun r s' q=> ?_
  refine Pp q fun ur σ' ah hR Lw I'=> ?_;clear q;subst ah
  refine vN Lw ?_
  exact⟨rfl,.ref x,σ',⟨_,_,rfl,hR⟩,.ref _,I'.Kd⟩) fun U U f=>f) rfl
end
noncomputable def kP (h:Heap) (l:Addr) (items:Array Value):Prop:= ∃o,h.get? l=some o∧ ∃n,o.data= .seq items n
theorem kP.at {h h':Heap}{l:Addr}{items:Array Value}(x:kP h l items) (k: ∀o,h.get? l=some o→h'.get? l=some o):kP h' l items:=let ⟨o,e,r⟩:=x;⟨o,k o e,r⟩
section
variable {prog:Program}{w:World}{A:Around}{E:Value→Shared→Prop}{s:Shared}
theorem next_item {it l:Addr}{i:Nat}{items:Array Value}{x:Value}{Q:Option Value→Shared→Prop}(hit:s.heap.IsListIter it l i) (hl:kP s.heap l items) (hx:items[i]? =some x)
  (hQ: ∀h',h'.IsListIter it l (i+1)→Heap.SameBut it s.heap h'→Q (some x) {s with heap:=h'}):wpAny (model prog w) A (pyNext (.ref it)) Q E s:=by
 have HG:=hit;refine gR HG fun o ho hc hd=> ?_
 refine K2 hl fun ol nl qS r9=> ?_
 unfold pyNext;refine wpAny_bind (wpAny_attempt (wpAny_callSpecial?_slot (name:=Str.ofString "__next__") hit.typeIs slot_listiter_next
  (wpAny_call_entry slot_listiter_next hit.typeIs entry_listiter_next ?_ (args_listiter_next _))))
 show wpAny _ _ (field (.ref it) 0 >>= _) _ _ s;refine wpAny_bind (wpAny_field ho hd (x:=.ref l) rfl ?_);show wpAny _ _ (if (Value.ref l==Value.none)=true then _ else _) _ _ s;rw[if_neg (show ¬((Value.ref l==Value.none)=true) from Bool.false_ne_true)];show wpAny _ _ (field (.ref it) 1 >>= _) _ _ s;refine wpAny_bind (wpAny_field ho hd (x:=.int i 0) rfl ?_);show wpAny _ _ (seqItems? (.ref l) >>= _) _ _ s;refine wpAny_bind (wpAny_seqItems qS r9 ?_);simp only[Int.toNat_natCast,hx];refine wpAny_bind (wpAny_setField ho hd (by simp) (wpAny_pure ⟨x,rfl,wpAny_pure (hQ _ ?_ (Heap.SameBut.update ..))⟩));exact⟨_,Heap.get?_update_self _ ho (Obj.isFreed_of_fields (Obj.data_mapFields hd _)),(Obj.cls_mapFields ..).trans hc,by
  rw[Obj.data_mapFields hd];simp[rawInt]⟩
end
section
variable {prog:Program}{w:World}{A:Around}{R:Result→Shared→Prop}{I:Addr}{fp wr:List Addr}{G:Array GenState→Array GenState→Prop}{n:Nat}{P:Nat→Value→Prop}{St:Nat→Shared→Prop}
theorem wh (W:WalksS prog w A.in1 I fp wr G n P St) (z:Int) (val:Nat→Int) (Hw: ∀i v,P i v→ ∃t,v= .int (val i) t) (gC: ∀j,j<n→InLong (val j)∧InLong (z+preSum val (j+1))) (S:Addr) (PH:S∉fp):
  ∀(k i:Nat) (s:Shared) (tA:Tok) (c:Nat),n-i=k→i≤n→St i s→s.heap.get? S=some {cls:=.type "list",dict:=none,data:=.seq #[.int (z+preSum val i) tA] c,slots:= #[]}→
  (∀s' t',Moved (S::wr) G s s'→R (.ok (.ret (.int (z+preSum val n) t'))) s')→codeAny (model prog w) A (.builtin "sum.loop" ⟨[.ref I,.ref S,rawInt 0,rawInt 0],[]⟩) R s:=by
 have hSw:S∉wr:=fun h=>PH (W.sub _ h)
 have hB: ∀b∈wr,b∈S::wr:=fun b hb=>List.mem_cons_of_mem _ hb
 intro k
 induction k with
 | zero=>
  intro i s tA c hk hi iL hS hR;have hin:i=n:=NN hk hi;subst hin;refine codeAny_builtin F.entry_sum_loop ?_
  rw[Around.under_plainId F.plain_sum_loop _];show wpAny _ A.in1 (seqItems? (.ref S) >>= _) _ _ s;refine wpAny_bind (wpAny_seqItems hS rfl ?_);show wpAny _ A.in1 (tryCatch (pyNext (.ref I)) _ >>= _) _ _ s;refine wpAny_bind (wpAny_tryCatch (W.done s _ _ iL fun s' hm=> ?_));exact wpAny_pure (hR s' tA (hm.mono hB))
 | succ k ih=>
  intro i s tA c hk hi iL hS hR;have df:i<n:=Ng hk;refine codeAny_builtin F.entry_sum_loop ?_
  rw[Around.under_plainId F.plain_sum_loop _];show wpAny _ A.in1 (seqItems? (.ref S) >>= _) _ _ s;refine wpAny_bind (wpAny_seqItems hS rfl ?_);show wpAny _ A.in1 (tryCatch (pyNext (.ref I)) _ >>= _) _ _ s;refine wpAny_bind (wpAny_tryCatch (W.item i s _ _ df iL fun v s' hP Ry hm=> ?_));refine gF (Hw i v hP) fun t ah=> ?_;subst ah
  have Bo:=hm.heap S _ hSw hS;refine oBt (gC i df) fun f1 f2 f3 f4=> ?_
  have hs:z+preSum val i+val i=z+preSum val (i+1):=by simp only[preSum];exact Wk
  have hc:((decide (-(2^63)≤val i)&&decide (val i<2^63))&&(decide (-(2^63)≤z+preSum val i+val i)&&decide (z+preSum val i+val i<2^63)))=true:=by
   rw[hs];simp only[Bool.and_eq_true,decide_eq_true_eq];exact⟨⟨f1,f2⟩,f3,f4⟩
  show wpAny _ A.in1 (if (_:Bool)=true then (mkInt (z+preSum val i+val i) >>= _) else _) _ _ _;split
  ·refine wpAny_bind (wpAny_mkInt ?_);show wpAny _ A.in1 (updateSeq S (fun U=> #[.int (z+preSum val i+val i) s'.toks]) >>= _) _ _ _;rw[hs];refine wpAny_bind ?_
   refine wpAny_updateSeq Bo rfl (wpAny_pure ⟨plainId_quiet F.plain_sum_loop _,ih (i+1) _ s'.toks _ (IM hk) df (W.frame _ s' _ _ Ry (by first | exact Nat.le_refl _ | exact Nat.le_succ _ | omega) fun b hb o e=> ?_) (Heap.get?_update_self _ Bo rfl) fun KV t'' RU=> ?_⟩)
   ·exact(Heap.get?_update_other _ _ (fun h:S=b=>PH (by rw[h];exact hb))).trans e
   ·refine hR KV t'' (Moved.trans W.gtrans ((hm.mono hB).then_heap (by first | exact Nat.le_refl _ | exact Nat.le_succ _ | omega) fun b o hb e=> ?_) RU)
    exact(Heap.get?_update_other _ _ (fun h:S=b=>hb (by rw[h];exact List.mem_cons_self))).trans e
  ·rename_i ja
   exact absurd hc ja
theorem xm (a b:Value):argsOk "sum" ⟨[a,b],[]⟩:=by unfold argsOk;kernel_rfl
theorem xi {E:Value→Shared→Prop}{s:Shared}{x:Value}{z:Int}{tz:Tok}{Q:Value→Shared→Prop}(hz:InLong z)
  (h:wpAny (model prog w) A.in1 (pyIter x) (fun it au=> ∃I fp wr G n P St val,it= .ref I∧WalksS prog w A.in1 I fp wr G n P St∧St 0 au∧(∀b∈fp,b<au.heap.objs.size)∧
   (∀i v,P i v→ ∃t,v= .int (val i) t)∧(∀j,j<n→InLong (val j)∧InLong (z+preSum val (j+1)))∧
   ∀s' t',Moved wr G au s'→Q (.int (z+preSum val n) t') s') E s):
  wpAny (model prog w) A (call (.builtin "sum") [x,.int z tz]) Q E s:=by
 refine call_function_tree F.kind_sum F.plain_sum F.entry_sum (xm _ _) ?_
 unfold Builtin.«sum»;simp only[List.length_cons,List.length_nil];rw[if_neg dC];refine wpAny_bind (wpAny_of_eq (show Builtin.Builtins.bindParams "sum" ["start"] 0 ⟨[.int z tz],[]⟩=pure [some (.int z tz)] from rfl) ?_);refine wpAny_bind (wpAny_mono h (fun it au gL=> ?_) fun U U e=>e);refine oBu gL fun I fp wr G n P St val ah W iL HL Hw gC hQ=> ?_;clear gL;subst ah
 have hc:(decide (-(2^63)≤z)&&decide (z<2^63))=true:=by
  simp only[Bool.and_eq_true,decide_eq_true_eq]
  exact hz
 have rest: ∀(tk:Nat) (t₀:Tok),au.toks≤tk→wpAny (model prog w) A.in1 (do
   for (ty,what,hint) in [("str","strings","''"),("bytes","bytes","b''"),("bytearray","bytearray","b''")] do
    if ←isInstance (.int z t₀) (.type ty) then
     rule "sum.start-refused";raiseError "TypeError" s!"sum() can't sum {what} [use {hint}.join(seq) instead]"
   again (.builtin "sum.loop" ⟨[.ref I,←newList [.int z t₀],rawInt 0,rawInt 0],[]⟩))
   (fun fin s'=>match fin with | .done (.ret v)=>Q v s' | .done _=>False | .again c'=>c'.quiet=true∧codeAny (model prog w) A c' (wants Q E) s') E {au with toks:=tk}:=by
  intro tk t₀ LJ;simp only[List.forIn_cons,List.forIn_nil];refine wpAny_bind (wpAny_bind (wpAny_bind (wpAny_isInstance (T:="int") (b:=false) (typeIs_int _ _ _) PySem.sub_int_str ?_)));simp only[Bool.false_eq_true,if_false];refine wpAny_pure (wpAny_bind (wpAny_bind (wpAny_isInstance (T:="int") (b:=false) (typeIs_int _ _ _) PySem.sub_int_bytes ?_)));simp only[Bool.false_eq_true,if_false];refine wpAny_pure (wpAny_bind (wpAny_bind (wpAny_isInstance (T:="int") (b:=false) (typeIs_int _ _ _) PySem.sub_int_bytearray ?_)));simp only[Bool.false_eq_true,if_false];refine wpAny_pure (wpAny_pure ?_);refine wpAny_bind (wpAny_newObj_type ?_);have PH:au.heap.objs.size∉fp:=fun hm=>Nat.lt_irrefl _ (HL _ hm)
  refine wpAny_pure ⟨plainId_quiet F.plain_sum_loop _,wh W z val Hw gC au.heap.objs.size PH n 0 _ t₀ 0 rfl (Nat.zero_le _)
   (W.frame 0 au _ _ iL LJ fun b U o e=>Heap.get?_push_of_some _ e) ?_ fun s' t' hm=> ?_⟩
  ·have e0:z+preSum val 0=z:=by simp[preSum]
   rw[e0];exact Heap.get?_push_size au.heap rfl
  ·exact hQ s' t' (hm.drop_new LJ)
 show wpAny _ _ (if (_:Bool)=true then (rule "sum.start-copied" >>= _) else _) _ _ _;split
 ·refine wpAny_bind (wpAny_rule (wpAny_bind (wpAny_mkInt (wpAny_bind (wpAny_pure ?_)))));refine wpAny_mono (rest _ _ (Nat.le_succ _)) (fun fin s' q=> ?_) fun U U f=>f
  cases fin with
  | done f=>cases f<;>exact q
  | again c'=>exact q
 ·rename_i ja
  exact absurd hc ja
end
section
variable {prog:Program}{w:World}{A:Around}{E:Value→Shared→Prop}{s:Shared}
theorem next_end {it l:Addr}{i:Nat}{items:Array Value}{Q:Option Value→Shared→Prop}(hh:A.handled=none) (hit:s.heap.IsListIter it l i) (hl:kP s.heap l items) (hx:items[i]? =none)
  (hQ: ∀h',Heap.ExtBut it s.heap h'→Q none {s with heap:=h'}):wpAny (model prog w) A (pyNext (.ref it)) Q E s:=by
 have HG:=hit;refine gR HG fun o ho hc hd=> ?_
 refine K2 hl fun ol nl qS r9=> ?_
 unfold pyNext;refine wpAny_bind (wpAny_attempt (wpAny_callSpecial?_slot (name:=Str.ofString "__next__") hit.typeIs slot_listiter_next
  (wpAny_call_entry slot_listiter_next hit.typeIs entry_listiter_next ?_ (args_listiter_next _))))
 show wpAny _ _ (field (.ref it) 0 >>= _) _ _ s;refine wpAny_bind (wpAny_field ho hd (x:=.ref l) rfl ?_);show wpAny _ _ (if (Value.ref l==Value.none)=true then _ else _) _ _ s;rw[if_neg (show ¬((Value.ref l==Value.none)=true) from Bool.false_ne_true)];show wpAny _ _ (field (.ref it) 1 >>= _) _ _ s;refine wpAny_bind (wpAny_field ho hd (x:=.int i 0) rfl ?_);show wpAny _ _ (seqItems? (.ref l) >>= _) _ _ s;refine wpAny_bind (wpAny_seqItems qS r9 ?_);simp only[Int.toNat_natCast,hx];refine wpAny_bind (wpAny_rule (wpAny_bind (wpAny_setField ho hd (by simp) ?_)));show wpAny _ _ (newExc (.type "StopIteration") [] >>= _) _ _ _;refine wpAny_bind ?_
 simp only[newExc,newTuple]
 refine wpAny_bind (wpAny_newObj_type ?_ (by size_fits));refine wpAny_bind (m:=firstArgMember _ _) (wpAny_of_eq (a:=Value.none) (by first | rfl | (simp only[firstArgMember];rfl)) ?_);refine wpAny_newObj_type ?_ (by size_fits);simp only[raiseNew];refine wpAny_bind (wpAny_handled ?_);rw[show A.in1.handled=none from hh];refine wpAny_bind (wpAny_pure (wpAny_throw ?_));refine wpAny_bind (wpAny_isInstance (T:="StopIteration") (b:=true) ⟨_,Heap.get?_push_size _ rfl,rfl⟩ isSubtype_stop ?_);exact wpAny_pure (hQ _ (((Heap.SameBut.update ..).extBut.push _).push _))
theorem GK (hh:A.handled=none) (I ax:Addr) (dm:ax≠I) (items:Array Value) (Ts:Nat→Addr) (vals:Nat→Array Value)
  (hit: ∀j,j<items.size→items[j]? =some (.ref (Ts j))) (PG: ∀j,j<items.size→Ts j≠I):
  WalksU prog w A I (I::ax::(List.range items.size).map Ts) [I] items.size (fun j v=>j<items.size∧v=vals j)
   (fun j h=>h.IsListIter I ax j∧kP h ax items∧ ∀k,k<items.size→h.IsTuple (Ts k) (vals k))
   (fun j T h=>(j<items.size∧T=Ts j)∧h.IsListIter I ax (j+1)∧kP h ax items∧ ∀k,k<items.size→h.IsTuple (Ts k) (vals k)) where
 sub:=fun b hb=>by simp at hb;simp[hb]
 frame:=fun U U U st hk=>⟨st.1.at fun o e=>hk I (by simp) o e,st.2.1.at fun o e=>hk ax (by simp) o e,
  fun k F0=>(st.2.2 k F0).at fun o e=>hk (Ts k) (List.mem_cons_of_mem _ (List.mem_cons_of_mem _ (List.mem_map.mpr ⟨k,List.mem_range.mpr F0,rfl⟩))) o e⟩
 item:=fun i s Q E hi st hQ=>by
  refine next_item st.1 st.2.1 (x:=.ref (Ts i)) (hit i hi) fun h' R6 gw=> ?_
  have tup: ∀k,k<items.size→h'.IsTuple (Ts k) (vals k):=fun k F0=>(st.2.2 k F0).extBut gw.extBut (PG k F0)
  exact hQ (Ts i) (vals i) h' s.toks ⟨hi,rfl⟩ (tup i hi) ⟨⟨hi,rfl⟩,R6,st.2.1.at fun o e=>gw.extBut _ _ dm e,tup⟩ fun b o hb e=>gw.extBut b o (fun h=>hb (by simp[h])) e
 go:=fun U U U U U s Q U hm hQ=>wpAny_letOwnedTupleGo_listiter hm.2.1 (hQ s.heap hm.2 fun U U U e=>e)
 apart:=fun j T U hm mZ=>by
  rcases List.mem_cons.mp mZ with e | e
  ·exact PG j hm.1.1 (hm.1.2 ▸ e)
  ·cases e
 done:=fun s Q E st hQ=>next_end hh st.1 st.2.1 (by simp) fun h' he'=>hQ h' s.toks fun b o hb e=>he' b o (fun h=>hb (by simp[h])) e
 self:=fun U U U U st hQ=>wpAny_pyIter_listiter st.1 hQ
end
noncomputable def bX:Obj→Prop:=fun o=> ∃ps,o={cls:=.none,data:=.fields ps}∧TriplesOk ps.toList
theorem xd {M:Model}{A:Around}{E:Value→Shared→Prop}{s:Shared}{env:Env}{c P:Addr}{pos:Pos}{qn:Str}{scope:Scope}{ps:Array Value}{Q:Value→Shared→Prop}(hc:env.code= .ref c) (HC:s.heap.IsCode c P ps) (hP:s.heap.get? P=some {cls:=.none,data:=.fields ps})
  (hQ: ∀code h' tk QR,Heap.ExtBut P s.heap h'→h'.get? P=some QR→bX QR→Q code {s with heap:=h',toks:=tk}):wpAny M A (genexprCode env pos qn scope) Q E s:=by
 refine oBv HC fun o vs file tf flags tg Pu text tt op ho hd e11 e2 e7 e9 e10 Ea hpd LC dm=> ?_
 rw[hP] at Ea
 cases Ea
 unfold genexprCode codeAt;rw[hc,if_neg (show ¬((Value.ref c==Value.none)=true) from Bool.false_ne_true)];refine wpAny_bind (wpAny_fieldsOf ho hd ?_);rw[e11];refine wpAny_bind (wpAny_fieldsOf hP rfl ?_);cases hf:codeAmong pos ps.toList with
 | some cv=>exact wpAny_pure (hQ cv s.heap s.toks _ (Heap.ExtBut.refl _ _) hP ⟨ps,rfl,LC⟩)
 | none=>
  rw[e2,e7,e9,e10];refine wpAny_bind (wpAny_newCode fun c' P' dk tk hk U U U U=> ?_);have F6:=hk _ _ hP;refine wpAny_bind (wpAny_updateFieldsOfTheText F6 rfl ?_);have D5:Obj.mapFields (fun vs=>if (codeAmong pos vs.toList).isSome=true then vs else vs++ #[rawInt pos.line,rawInt pos.col,.ref c']) {cls:=.none,data:=.fields ps}={cls:=.none,data:=.fields (ps++ #[rawInt pos.line,rawInt pos.col,.ref c'])}:=by
   show (⟨.none,none,.fields (if (codeAmong pos ps.toList).isSome=true then ps else ps++ #[rawInt pos.line,rawInt pos.col,.ref c']),#[]⟩:Obj)=_;rw[hf];rfl
  have HK:=Heap.get?_update_self (h:=dk) (fun o=>Obj.mapFields (fun vs=>if (codeAmong pos vs.toList).isSome=true then vs else vs++ #[rawInt pos.line,rawInt pos.col,.ref c']) o) F6 (by rw[D5];rfl);rw[D5] at HK
  refine wpAny_bind (wpAny_fieldsOf HK rfl ?_);have hl:(ps++ #[rawInt pos.line,rawInt pos.col,Value.ref c']).toList=ps.toList++[rawInt pos.line,rawInt pos.col,.ref c']:=by simp
  rw[hl,codeAmong_snoc _ LC hf];exact wpAny_pure (hQ _ _ _ _ (fun b o' hb e=>(Heap.SameBut.update ..).extBut b o' hb (hk b o' e)) HK ⟨_,rfl,by rw[hl];exact TriplesOk_snoc _ _ _ _ LC⟩)
section
variable {prog:Program}{w:World}{X:Cx}{ρ bC bI:Ro}{σ σ' aD:Led}{T:aX}{n:Nat}{R R':PV→Led→Prop}{K:PF→Ro→Led→Prop}
variable {x C d:Addr}{cd:ClassData}{ps:List PV}
theorem Inv.KG {s:Shared}(I:Inv X ρ σ s) {a:Addr}{P:Obj→Prop}{h':Heap}{o':Obj}{tk:Nat}(hm:(a,P)∈σ) (hs:Heap.ExtBut a s.heap h') (ho:h'.get? a=some o') (hp:P o'):Inv X ρ σ {s with heap:=h',toks:=tk}:=by
 refine bo (I.Hl (List.mem_map_of_mem (f:=(·.1)) hm)) fun hL hg=> ?_
 refine gS I.st fun m news F N R D=> ?_
 have F':=Fr.extBut F hs hL hg;have nd:=I.nd;have key: ∀{σ:Led}{news:List (Addr×Obj)},ey σ news→(σ.map (·.1)).Nodup→(a,P)∈σ→News X.g X.L s.heap news→ ∃kJ,ey σ kJ∧News X.g X.L h' kJ:=by
  intro σ news D
  induction D with
  | nil=>intro _ hm;cases hm
  | @cons b Q o σ news hq D ih=>
   intro nd hm N;rw[List.map_cons,List.nodup_cons] at nd
   rcases List.mem_cons.mp hm with e | hm
   ·cases e
    refine⟨_,.cons hp D,fun p FV=> ?_⟩;rcases List.mem_cons.mp FV with rfl | FV
    ·exact⟨ho,hL,hg⟩
    ·have z:=N p (.tail _ FV);exact⟨hs _ _ (fun e=>nd.1 (by rw[D.keys,←e];exact List.mem_map_of_mem FV)) z.1,z.2⟩
   ·refine aF (ih nd.2 hm fun p hp=>N p (.tail _ hp)) fun n' D' N'=> ?_
    refine⟨_,.cons hq D',fun p FV=> ?_⟩;rcases List.mem_cons.mp FV with rfl | FV
    ·have z:=N _ (.head _);exact⟨hs _ _ (fun e=>nd.1 (by have e':b=a:=e;rw[e'];exact List.mem_map_of_mem (f:=(·.1)) hm)) z.1,z.2⟩
    ·exact N' p FV
 refine aF (key D nd hm N) fun kJ D' N'=> ?_
 exact⟨⟨m,kJ,F',N',R,D'⟩,nd,I.ks,I.kn,I.gens,I.os⟩
theorem Inv.moved {s s':Shared}(I:Inv X ρ σ s) {wr:List Addr}{g:Nat}(hm:Moved wr (GenOnlyQ g) s s') (hw: ∀b∈wr,s.heap.objs.size≤b):Inv X ρ σ s':=by
 refine gS I.st fun m news F N R D=> ?_
 have k: ∀b o,s.heap.get? b=some o→s'.heap.get? b=some o:=fun b o e=>hm.heap b o (fun hb=>absurd (Heap.lt_size e) (Nat.not_lt.mpr (hw b hb))) e
 exact⟨⟨m,news,F.keeps k,N.grown k,R,D⟩,I.nd,I.ks,I.kn,I.gens.moved hm.gens,hm.os.trans I.os⟩
end
section
variable {prog:Program}{w:World}{X:Cx}{ρ bC bI:Ro}{σ σ' aD:Led}{T:aX}{n:Nat}{R R':PV→Led→Prop}{K:PF→Ro→Led→Prop}
variable {x C d:Addr}{cd:ClassData}{ps:List PV}
noncomputable def Off (X:Cx) (σ:Led) (b:Addr):Prop:=b≠X.L∧X.g.get? b=none∧b∉σ.map (·.1)
theorem iJ {s:Shared}(I:Inv X ρ σ s) {b:Addr}(hb:s.heap.objs.size≤b):Off X σ b:=by
 refine gS I.st fun m news F N R D=> ?_
 refine⟨fun e=> ?_,?_,fun hm=> ?_⟩
 ·have:=F.ns.lt;rw[e] at hb;exact absurd this (Nat.not_lt.mpr hb)
 ·cases h:X.g.get? b with
  | none=>rfl
  | some o=>exact absurd (Heap.lt_size (F.keep b o h)) (Nat.not_lt.mpr hb)
 ·rw[D.keys] at hm
  refine aF (List.mem_map.mp hm) fun p hp ah=> ?_;subst ah
  exact absurd (Heap.lt_size (N p hp).1) (Nat.not_lt.mpr hb)
theorem Inv.yV {s s':Shared}(I:Inv X ρ σ s) {wr:List Addr}{g:Nat}(hm:Moved wr (GenOnlyQ g) s s') (hw: ∀b∈wr,Off X σ b):Inv X ρ σ s':=by
 refine gS I.st fun m news F N R D=> ?_
 refine⟨⟨m,news,⟨?_,fun b o e=> ?_,F.above⟩,fun p hp=> ?_,R,D⟩,I.nd,I.ks,I.kn,I.gens.moved hm.gens,hm.os.trans I.os⟩
 ·exact F.ns.at' fun o e=>hm.heap _ _ (fun hb=>(hw _ hb).1 rfl) e
 ·exact hm.heap _ _ (fun hb=>by have:=(hw _ hb).2.1;rw[e] at this;cases this) (F.keep b o e)
 ·have z:=N p hp;exact⟨hm.heap _ _ (fun hb=>(hw _ hb).2.2 (by rw[D.keys];exact List.mem_map_of_mem hp)) z.1,z.2⟩
noncomputable def tj (prog:Program) (w:World) (X:Cx) (σ:Led) (a:Addr) (n:Nat) (F:Nat→Value→Prop) (s:Shared):Prop:=
 ∃fp wr g St,WalksS prog w X.A.in4 a fp wr (GenOnlyQ g) n (fun j y=> ∃i,(List.range n)[j]? =some i∧F i y) St∧St 0 s∧(∀i s',St i s'→s'.TypeIs (.ref a) "generator")∧a∈fp∧(∀b∈fp,b<s.heap.objs.size)∧ ∀b∈wr,Off X σ b
noncomputable def Bi (T:aX) (c P:Addr):Prop:=c≠P∧ ∃o vs file tf flags tg Pu text tt,T.K.lookup c=some o∧o.data= .fields vs∧vs.getD 11 .none= .ref P∧vs.getD 18 .none= .str file tf∧vs.getD 7 .none= .int flags tg∧vs.getD 9 .none= .bool Pu∧vs.getD 10 .none= .int text tt
theorem rK (n:Nat):passing (fun U=>true) n 0=List.range n:=by simp[passing]
theorem zK (O:cU T n X) (Y:c9 T.K C cd) (hl:cd.mro.contains (.type "list")=true) (Ed:findIn T.K (.ref C) "__iter__"=some (some (.builtin "list.__iter__"))) {elt iter:Expr}{xa xb:Str}{kt:Nat}{pt pa pb pos:Pos}{scope:Scope}{c P bm:Addr}{ob:Obj}{ts:List (Addr×PV×PV)}{F:Nat→Value→Prop}{Q:Value→Shared→Prop}
  (r3:PE prog w X iter ρ σ (.ref x)) (hm:(x,isA C d (ts.map fun t=>.ref t.1))∈σ) (ht: ∀t∈ts,(t.1,gG [t.2.1,t.2.2])∈σ)
  (hP:(P,bX)∈σ) (hc:X.env.code= .ref c) (hct:Bi T c P) (hbm:T.mg "__builtins__"=some (.ref bm)) (hbn:bm≠builtinsNs) (zo:T.K.lookup bm=some ob) (hbc:ob.cls= .type "module") (hbd:ob.dict=some builtinsNs) (hbp:ob.data= .plain)
  (wU:scope.isCoroutine=false) (eT:closureFor scope X.env=pure []) (bM: ∀y∈scope.names,y.2≠ .cell) (h0:scope.names.lookup (".0":Str)=some NameKind.local)
  (Lq:scope.names.lookup xa=some .local) (Lp:scope.names.lookup xb=some .local) (hab:xa≠xb) (cC:scope.kind= .function)
  (R9: ∀(code:Value) (C':Addr) (A':Around) (E':Value→Shared→Prop) (i:Nat) (va vb:Value) (au:Shared) (m₂:Str→Option Value) (t:Addr×PV×PV),ts[i]? =some t→A'.handled=none→A'.depth≤X.A.depth+1→A'.units≤X.A.units+8→VR t.2.1 va→VR t.2.2 vb→au.heap.Ns C' m₂→m₂ xa=some va→m₂ xb=some vb→
   T.K.In au.heap→au.heap.Ns mainGlobals T.mg→au.heap.Ns builtinsNs T.mb→wpAny (model prog w) A' (eval elt (genEnv scope [] C' code builtinsNs X.env)) (fun y c6=>F i y∧Keeps au c6) E' au)
  (hQ: ∀a gX,Inv X ρ σ gX→tj prog w X σ a ts.length F gX→Q (.ref a) gX) (hs: ∀x,genFold iter X.env x=pure x):
  Ev prog w X (eval (.GeneratorExp elt [⟨.Tuple [.Name xa pa,.Name xb pb] kt pt,iter,[],0⟩] scope pos) X.env) ρ σ Q:=fun s I=>by
 refine wpAny_GeneratorExp_walksQTD O.hh wU eT bM h0 Lq Lp hab cC (by have:=O.dep;show X.A.depth<1000;exact YS this) (wpAny_mono (r3 s I) (fun u s₁ q=> ?_) fun U U f=>f.elim) hs;refine bo q fun hu aS=> ?_
 refine vR hu ?_
 refine wpAny_mono (El (prog:=prog) (w:=w) O Y hl Ed hm aS) (fun it au q=> ?_) fun U U f=>f.elim
 refine bo q fun ah aU=> ?_;clear q;subst ah;subst aU
 have up: ∀b o,s₁.heap.get? b=some o→(s₁.heap.push {cls:=.type "list_iterator",data:=.fields #[.ref x,.int 0 0]}).get? b=some o:=fun b o e=>Heap.get?_push_of_some _ e
 have aH:=aS.ext (tk:=s₁.toks) (h':=s₁.heap.push {cls:=.type "list_iterator",data:=.fields #[.ref x,.int 0 0]}) up;have lim: ∀{s:Shared},Inv X ρ σ s→s.heap.NoLimit:=fun I=>by refine gS I.st fun m news F N R D=> ?_;exact O.lim.keeps F.keep
 refine⟨lim aH,?_⟩;refine oBw hct fun oc vs file tf flags tg Pu text tt hcP k1 k2 k3 k4 k5 k6 k7=> ?_
 refine oBx (aH.obj hP) fun QL Ea LC=> ?_
 refine xd (P:=P) (ps:=QL) hc ⟨oc,vs,file,tf,flags,tg,Pu,text,tt,_,kg O aH _ _ k1,k2,k3,k4,k5,k6,k7,Ea,rfl,LC,hcP⟩ Ea fun code h' tk QR hx RK hpt=> ?_
 have cg:=aH.KG (tk:=tk) hP hx RK hpt;have gm:=O.gm.keeps (by refine gS cg.st fun m news F N R D=> ?_;exact F.keep);have bmk:=O.bm.keeps (by refine gS cg.st fun m news F N R D=> ?_;exact F.keep);have KI:=kg O cg;refine wpAny_builtinsFor (m:=T.mg) (by rw[O.gl];exact gm) hbm hbn (KI _ _ zo) hbc hbd hbp ?_
 dsimp only at gm bmk KI cg ⊢
 have hIP:s₁.heap.objs.size≠P:=by
  have:=iJ aS (b:=s₁.heap.objs.size) (Nat.le_refl _)
  intro e;exact this.2.2 (e ▸ List.mem_map_of_mem (f:=(·.1)) hP)
 have hIt:h'.IsListIter s₁.heap.objs.size x 0:=⟨_,hx _ _ hIP (Heap.get?_push_size _ rfl),rfl,rfl⟩;have MC:s₁.heap.objs.size<h'.objs.size:=Heap.lt_size (hx _ _ hIP (Heap.get?_push_size _ rfl));refine aF (cg.obj hm) fun ox hox pox=> ?_
 refine yR pox fun us kk g1 g2 ia g3 g4=> ?_
 have hxI:x≠s₁.heap.objs.size:=fun e=>(iJ aS (b:=s₁.heap.objs.size) (Nat.le_refl _)).2.2 (e ▸ List.mem_map_of_mem (f:=(·.1)) hm)
 have Pw:us.length=ts.length:=by rw[←ia.length];simp
 have hui: ∀(j:Nat) (t:Addr×PV×PV),ts[j]? =some t→us.toArray[j]? =some (Value.ref t.1):=fun j t e=>by
  refine aF (ia.m5 (i:=j) (p:=.ref t.1) (by rw[List.getElem?_map,e];rfl)) fun u hu r=> ?_
  revert hu;refine vR r fun hu=> ?_;exact hu
 have tup: ∀t∈ts,∃va vb,h'.IsTuple t.1 #[va,vb]∧VR t.2.1 va∧VR t.2.2 vb:=fun t htm=>by
  refine aF (cg.obj (ht t htm)) fun o ho po=> ?_
  refine aF (po.tuple ho) fun vs de il=> ?_
  refine uk de.two fun va vb ah r1 r2=> ?_;subst ah
  exact⟨va,vb,il,r1,r2⟩
 have vex: ∀j:Nat,∃arr:Array Value,∀t,ts[j]? =some t→ ∃va vb,arr= #[va,vb]∧h'.IsTuple t.1 #[va,vb]∧VR t.2.1 va∧VR t.2.2 vb:=fun j=>by
  cases e:ts[j]? with
  | none=>exact⟨#[],fun t h=>by cases h⟩
  | some t=>
   refine uk (tup t (List.mem_of_getElem? e)) fun va vb h1 h2 h3=> ?_
   exact⟨#[va,vb],fun t' h=>by cases h;exact⟨va,vb,rfl,h1,h2,h3⟩⟩
 let vals:Nat→Array Value:=fun j=>Classical.choose (vex j)
 have vF: ∀j t,ts[j]? =some t→ ∃va vb,vals j= #[va,vb]∧h'.IsTuple t.1 #[va,vb]∧VR t.2.1 va∧VR t.2.2 vb:=fun j=>Classical.choose_spec (vex j)
 let Ts:Nat→Addr:=fun j=>(ts[j]?.map fun t=>t.1).getD 0
 have at': ∀j,j<us.toArray.size→ ∃t,ts[j]? =some t∧Ts j=t.1:=fun j hj=>by
  have Bn:j<ts.length:=by rw[←Pw];simpa using hj
  refine⟨ts[j],by simp[Bn],by simp[Ts,Bn]⟩
 have PG: ∀j,j<us.toArray.size→Ts j≠s₁.heap.objs.size:=fun j hj e=>by
  refine aF (at' j hj) fun t e1 e2=> ?_
  exact(iJ aS (b:=s₁.heap.objs.size) (Nat.le_refl _)).2.2 (by rw[←e,e2];exact List.mem_map_of_mem (f:=(·.1)) (ht t (List.mem_of_getElem? e1)))
 have W:=fun (A':Around) (hA:A'.handled=none)=>GK (prog:=prog) (w:=w) hA s₁.heap.objs.size x hxI us.toArray Ts vals (fun j hj=>by refine aF (at' j hj) fun t e1 e2=> ?_;rw[e2];exact hui j t e1) PG
 have FQ:us.toArray.size=ts.length:=by simpa using Pw
 have iL:h'.IsListIter s₁.heap.objs.size x 0∧kP h' x us.toArray∧ ∀k,k<us.toArray.size→h'.IsTuple (Ts k) (vals k):=⟨hIt,⟨ox,hox,kk,g3⟩,fun k hk=>by
  refine aF (at' k hk) fun t e1 e2=> ?_
  refine uk (vF k t e1) fun va vb q1 q2 U=> ?_
  rw[e2,q1];exact q2⟩
 have HQ:cStatics<s₁.heap.objs.size:=by refine aF (lim aS) fun U hn U=> ?_;exact hn.lt
 refine⟨s₁.heap.objs.size,_,_,_,_,_,_,fun U=>true,F,rfl,W,fun i aaa hv=> ?_,iL,?_,lim cg,?_,fun aal hk=>⟨fun A' E' i va vb au m₂ hA hD hU hPt hn ha hb hkp=>wpAny_tests_nil ⟨rfl,⟨au.heap,au.toks,rfl,fun U U e=>e⟩⟩,fun A' E' i va vb au m₂ hA hD hU hPt U hn ha hb hkp=> ?_⟩,fun a Hu Fs gs hgb hag Hy Mj W' zq=> ?_⟩
 ·refine bo hv fun hi ah=> ?_;clear hv;subst ah
  refine aF (at' i hi) fun t e1 e2=> ?_
  refine QS (vF i t e1) fun va vb q1 U=> ?_
  exact⟨va,vb,q1⟩
 ·intro b hb;rcases List.mem_cons.mp hb with rfl | hb
  ·exact MC
  ·rcases List.mem_cons.mp hb with rfl | hb
   ·exact Heap.lt_size hox
   ·refine aF (List.mem_map.mp hb) fun j hj ah=> ?_;subst ah
    refine aF (at' j (List.mem_range.mp hj)) fun t e1 e2=> ?_
    refine oBz (vF j t e1) fun va vb o q1 q2 U U=> ?_
    rw[e2];exact Heap.lt_size q2
 ·intro Ec;rw[List.mem_singleton.mp Ec] at HQ
  exact Nat.lt_irrefl _ HQ
 ·refine bo hPt fun hi hv=> ?_
  refine aF (at' i hi) fun t e1 e2=> ?_
  refine Ra (vF i t e1) fun va' vb' q1 q2 r1 r2=> ?_
  rw[q1] at hv
  obtain⟨f1,f2⟩:va=va'∧vb=vb':=by simpa using congrArg Array.toList hv
  subst f1 f2;have kk': ∀b o,h'.get? b=some o→b≠s₁.heap.objs.size→au.heap.get? b=some o:=fun b o e hb=>hkp b (List.mem_range.mpr (Heap.lt_size e)) (fun Ec=>hb (List.mem_singleton.mp Ec)) o (hk b o e)
  have base: ∀b o,X.g.get? b=some o→au.heap.get? b=some o:=fun b o e=>kk' b o (by refine gS cg.st fun m news F N R D=> ?_;exact F.keep b o e) fun e'=>by
   have:=(iJ aS (b:=s₁.heap.objs.size) (Nat.le_refl _)).2.1
   rw[←e',e] at this;cases this
  exact R9 code _ A' E' i va vb au m₂ t e1 hA hD hU r1 r2 hn ha hb (O.top.keeps base) (O.gm.keeps base) (O.bm.keeps base)
 ·have qP:Inv X ρ σ {s₁ with heap:=Hu,gens:=s₁.gens.push gs,toks:=Fs}:=by
   have J:=cg.ext (tk:=Fs) (h':=Hu) Mj;exact⟨J.st,J.nd,J.ks,J.kn,J.gens.push hgb,J.os⟩
  refine hQ a _ qP ?_
  rw[rK,FQ] at W'
  rw[FQ] at zq
  simp only[List.length_range] at W'
  refine⟨_,_,_,_,W',zq,fun i s' st=>st.1.typeIs,List.mem_cons_self,fun b hb=> ?_,fun b hb=> ?_⟩
  ·show b<Hu.objs.size;rw[Hy];rcases List.mem_cons.mp hb with rfl | hb
   ·exact Nat.lt_succ_self _
   ·rcases List.mem_cons.mp hb with rfl | hb
    ·exact Nat.lt_succ_of_lt hag
    ·exact Nat.lt_succ_of_lt (Nat.lt_trans (List.mem_range.mp hb) hag)
  ·rcases List.mem_cons.mp hb with rfl | hb
   ·exact iJ aS (Nat.le_of_lt MC)
   ·rw[List.mem_singleton.mp hb];exact iJ aS (Nat.le_refl _)
end
section
variable {prog:Program}{w:World}{X:Cx}{ρ bC bI:Ro}{σ σ' aD:Led}{T:aX}{n:Nat}{R R':PV→Led→Prop}{K:PF→Ro→Led→Prop}
theorem rF {n j i:Nat}(h:(List.range n)[j]? =some i):i=j:=by
 rw[List.getElem?_eq_some_iff] at h
 refine gF h fun h1 h2=> ?_
 rw[List.getElem_range] at h2
 exact h2.symm
theorem tj.tick {s:Shared}{a:Addr}{n:Nat}{F:Nat→Value→Prop}(G:tj prog w X σ a n F s) {tk:Nat}(h:s.toks≤tk):tj prog w X σ a n F {s with toks:=tk}:=by
 refine Hj G fun fp wr g St W iL hT ha HL FH=> ?_
 exact⟨fp,wr,g,St,W,W.frame 0 s s.heap tk iL h (fun U U U e=>e),hT,ha,HL,FH⟩
theorem Io {s:Shared}{a:Addr}{n:Nat}{val:Nat→Int}{z:Int}{tz:Tok}(I:Inv X ρ σ s) (G:tj prog w X σ a n (fun j y=> ∃t,y= .int (val j) t) s) (hz:InLong z) (gC: ∀j,j<n→InLong (val j)∧InLong (z+preSum val (j+1))):
  wpAny (model prog w) X.A (call (.builtin "sum") [.ref a,.int z tz]) (fun u s'=>VR (.int (z+preSum val n)) u∧Inv X ρ σ s') (fun U U=>False) s:=by
 refine Hj G fun fp wr g St W iL hT ha HL FH=> ?_
 have W:=W.in4_1;exact xi hz (W.self 0 _ _ _ iL ⟨a,_,_,_,_,_,_,val,rfl,W,iL,HL,fun i v hv=>by refine K2 hv fun k t hk ah=> ?_;clear hv;subst ah;rw[rF hk];exact⟨t,rfl⟩,gC,fun s' t' hm=>⟨.int _ _,I.yV hm FH⟩⟩)
theorem EG {s:Shared}{a:Addr}{n:Nat}{tx:Nat→List Nat}{sep:List Nat}{t:Tok}(I:Inv X ρ σ s) (G:tj prog w X σ a n (fun j y=> ∃t,y= .str (mk (tx j)) t) s) (hn:n≤16777216) (HC:(((List.range n).map tx).map (·.length)).sum+n*sep.length≤16777216):
  wpAny (model prog w) X.A (call (.builtin "str.join") [.str (mk sep) t,.ref a]) (fun u s'=>VR (.str (aB sep ((List.range n).map tx))) u∧Inv X ρ σ s') (fun U U=>False) s:=by
 refine Hj G fun fp wr g St W iL hT ha HL FH=> ?_
 have W:=W.in4_2;have Px: ∀j v,(∃i,(List.range n)[j]? =some i∧ ∃t,v=Value.str (mk (tx i)) t)→ ∃u,v=Value.str (mk (tx j)) u:=fun j v hv=>by
  refine K2 hv fun k t hk ah=> ?_;clear hv;subst ah;rw[rF hk];exact⟨t,rfl⟩
 refine SC.joinGen W hT iL HL ha (fun j v hv=>let ⟨u,e⟩:=Px j v hv;⟨_,u,e⟩) (fun s' lt hm My=> ?_) (by rw[sizeLine_eq];exact hn);have hl:lt.map (·.1)=((List.range n).map tx).map mk:=by
  rw[List.map_map];apply List.ext_getElem?;intro j;have gB:lt.length=n:=by simpa [strValues] using My.1
  by_cases hj:j<n
  ·have Bn:j<lt.length:=gB ▸ hj;refine gF (Px j _ (My.2 j (.str lt[j].1 lt[j].2) (by simp[strValues,List.getElem?_eq_getElem Bn]))) fun u hv=> ?_
   injection hv with h1 _
   simp[List.getElem?_eq_getElem Bn,hj,h1]
  ·rw[List.getElem?_eq_none (by simpa [gB] using Nat.le_of_not_lt hj),List.getElem?_eq_none (by simpa using Nat.le_of_not_lt hj)]
 rw[hl];have I':=I.yV hm FH;refine⟨joinOk_of (by rw[List.map_map];simpa [Function.comp_def,aA] using HC),fun t' k=>⟨?_,I'.tick k⟩⟩;have e:Txt.join (mk sep) (((List.range n).map tx).map mk)=mk (aB sep ((List.range n).map tx)):=by
  rw[←mx];exact(i6 _).symm
 rw[e];exact .str _ _
end
section
variable {prog:Program}{w:World}{X:Cx}{ρ bC bI:Ro}{σ σ' aD:Led}{T:aX}{n:Nat}{R R':PV→Led→Prop}{K:PF→Ro→Led→Prop}
theorem ux (s:Shared) (k:Nat):Keeps s {s with toks:=k}:=⟨s.heap,k,rfl,fun U U e=>e⟩
theorem Et (R8:X.env.globals=mainGlobals) {scope:Scope}{xa xb:Str}{p1 p2 p3 p4 p5 p6 p7:Pos}{la lb:List Nat}(cC:scope.kind= .function) (Lq:scope.names.lookup xa=some .local) (Lp:scope.names.lookup xb=some .local) (Se:(xa==("__debug__":Str))=false) (mC:(xb==("__debug__":Str))=false)
  (hlen:scope.names.lookup ("len":Str)=some .globalImplicit) (hg:T.mg "len"=none) (hb:T.mb "len"=some (.builtin "len")) (ha1:la.length<2^63) (hb1:lb.length<2^63)
  {code:Value}{C':Addr}{A':Around}{E':Value→Shared→Prop}{va vb:Value}{au:Shared}{m₂:Str→Option Value}(r1:VR (.str la) va) (r2:VR (.str lb) vb) (zc:au.heap.Ns C' m₂) (ea:m₂ xa=some va) (eb:m₂ xb=some vb)
  (gm:au.heap.Ns mainGlobals T.mg) (bm:au.heap.Ns builtinsNs T.mb):
  wpAny (model prog w) A' (eval (.BinOp (.Call (.Name "len" p1) [.Name xa p2] [] p3) .Add (.Call (.Name "len" p4) [.Name xb p5] [] p6) p7) (genEnv scope [] C' code builtinsNs X.env))
   (fun y c6=>(∃t,y= .int (la.length+lb.length) t)∧Keeps au c6) E' au:=by
 revert ea;refine vS r1 fun t ea=> ?_;revert eb;refine vS r2 fun t eb=> ?_
 have one: ∀(x:Str) (q1 q2 q3:Pos) (l:List Nat) (t:Tok) (s:Shared) (Q:Value→Shared→Prop),scope.names.lookup x=some .local→(x==("__debug__":Str))=false→l.length<2^63→s.heap=au.heap→m₂ x=some (.str (mk l) t)→
   (∀k k',Q (.int l.length k) {s with toks:=k'})→wpAny (model prog w) A' (eval (.Call (.Name "len" q1) [.Name x q2] [] q3) (genEnv scope [] C' code builtinsNs X.env)) Q E' s:=fun x q1 q2 q3 l t s Q hx hd hl hs hm hq=>by
  refine PyProof.Rows.Call_ (Name_function_global (env:=genEnv scope [] C' code builtinsNs X.env) cC hlen (loadGlobal_builtin (by show s.heap.Ns X.env.globals T.mg;rw[R8,hs];exact gm) hg (by show s.heap.Ns builtinsNs T.mb;rw[hs];exact bm) hb ?_)) rfl;refine callWith_builtin rfl (evalArgs_plain (spliced_cons (wpAny_Name (wpAny_loadName_local (env:=genEnv scope [] C' code builtinsNs X.env) cC hx (by show s.heap.Ns C' m₂;rw[hs];exact zc) hm ?_) hd)));refine spliced_nil ?_
  refine P.len_str (by rw[aA];exact Je hl) ?_
  rw[aA];exact hq _ _
 refine wpAny_BinOp (one xa p1 p2 p3 la _ au _ Lq Se ha1 rfl ea fun k k'=>one xb p4 p5 p6 lb _ _ _ Lp mC hb1 rfl eb fun k2 k3=>add_int ⟨⟨_,rfl⟩,ux _ _⟩)
theorem zL (R8:X.env.globals=mainGlobals) {scope:Scope}{xa xb es:Str}{p1 p2 p3 p4 p5 p6 p7:Pos}{k:Nat}{la lb:List Nat}{t0:Tok}(cC:scope.kind= .function) (Lq:scope.names.lookup xa=some .local) (Lp:scope.names.lookup xb=some .local) (Se:(xa==("__debug__":Str))=false) (mC:(xb==("__debug__":Str))=false)
  (Ef:scope.names.lookup es=some .globalImplicit) (hde:(es==("__debug__":Str))=false) (hg:T.mg es=some (.str (mk []) t0)) (hl:la.length+lb.length≤16000000)
  {code:Value}{C':Addr}{A':Around}{E':Value→Shared→Prop}{va vb:Value}{au:Shared}{m₂:Str→Option Value}(r1:VR (.str la) va) (r2:VR (.str lb) vb) (zc:au.heap.Ns C' m₂) (ea:m₂ xa=some va) (eb:m₂ xb=some vb)
  (gm:au.heap.Ns mainGlobals T.mg) {pl:Sem Bool}
  (heq:eval (.Call (.Attribute (.Name es p1) "join" p2) [.Tuple [.Name xa p3,.Name xb p4] k p5] [] p6) (genEnv scope [] C' code builtinsNs X.env)=(do let ov ←eval (.Name es p1) (genEnv scope [] C' code builtinsNs X.env);standAt p2.atName;let fx ←holding [ov] (getMethod ov "join" pl);match fx with | (f,first)=>callWith p6 f first (backTo p6 (starEach [.Tuple [.Name xa p3,.Name xb p4] k p5] (genEnv scope [] C' code builtinsNs X.env))) [])):
  wpAny (model prog w) A' (eval (.Call (.Attribute (.Name es p1) "join" p2) [.Tuple [.Name xa p3,.Name xb p4] k p5] [] p6) (genEnv scope [] C' code builtinsNs X.env))
   (fun y c6=>(∃t,y= .str (mk (la++lb)) t)∧Keeps au c6) E' au:=by
 revert ea;refine vS r1 fun t ea=> ?_;revert eb;refine vS r2 fun t eb=> ?_
 have one: ∀(q1:Pos) (s:Shared) (Q:Value→Shared→Prop),s.heap=au.heap→Q (.str (mk []) t0) s→wpAny (model prog w) A' (eval (.Name es q1) (genEnv scope [] C' code builtinsNs X.env)) Q E' s:=fun q1 s Q hs hq=>
  Name_function_global (env:=genEnv scope [] C' code builtinsNs X.env) cC Ef (loadGlobal_global (env:=genEnv scope [] C' code builtinsNs X.env) (by show s.heap.Ns X.env.globals T.mg;rw[R8,hs];exact gm) hg hq) hde
 have loc: ∀(x:Str) (v:Value) (q:Pos) (s:Shared) (Q:Value→Shared→Prop),scope.names.lookup x=some .local→(x==("__debug__":Str))=false→s.heap=au.heap→m₂ x=some v→Q v s→wpAny (model prog w) A' (eval (.Name x q) (genEnv scope [] C' code builtinsNs X.env)) Q E' s:=fun x v q s Q hx hd hs hm hq=>
  wpAny_Name (wpAny_loadName_local (env:=genEnv scope [] C' code builtinsNs X.env) cC hx (by show s.heap.Ns C' m₂;rw[hs];exact zc) hm hq) hd
 refine MethodCall_ ?_ heq
 refine(one p1 _ _ rfl (GM.join (callWith_builtin rfl (evalArgs_plain (spliced_cons ?_)))));refine Tuple_ (k:=k) (spliced_cons (loc xa _ p3 _ _ Lq Se rfl ea (spliced_cons (loc xb _ p4 _ _ Lp mC rfl eb (spliced_nil ?_)))));refine wpAny_newObj_type (spliced_nil ?_) (by show 2≤sizeLine;decide);refine PyProof.Rows.join_tuple (ys:=[mk la,mk lb]) ⟨_,Heap.get?_push_size _ rfl,rfl,_,rfl⟩ (.cons _ _ (.cons _ _ .nil)) (by simp[aA];exact NT hl) fun t' k'=>⟨⟨t',?_⟩,⟨_,k',rfl,fun b o e=>Heap.get?_push_of_some _ e⟩⟩
 have e:Txt.join (mk []) [mk la,mk lb]=mk (la++lb):=by
  have:=mx [] [la,lb]
  rw[←i6 (Txt.join (mk []) [mk la,mk lb])];show mk (rW [] [la,lb])=_;rw[this];simp[aB]
 rw[e]
end
section
variable {prog:Program}{w:World}{X:Cx}{ρ bC bI:Ro}{σ σ' aD:Led}{T:aX}{n:Nat}{R R':PV→Led→Prop}{K:PF→Ro→Led→Prop}
variable {x C d:Addr}{cd:ClassData}{D:Data→Prop}{gh CH:Ro}
theorem Fn.drop {f:Value}{args:List PV}{σ:Led}{R R':PV→Led→Prop}(h:Fn prog w T n f args σ R) (k: ∀v σ',R v σ'→ ∃σ'',σ''.Sublist σ'∧R' v σ''):Fn prog w T n f args σ R':=fun X ρ s O e I us hv=>
 codeAny_mono (h X ρ s O e I us hv) fun r s' q=>by
  refine Bl q fun u pv σ' ah hR hu I'=> ?_;clear q;subst ah
  refine aF (k _ _ hR) fun σ'' hs MA=> ?_
  exact⟨u,pv,σ'',rfl,MA,hu,I'.sub hs⟩
theorem oe.at_ (B:oe X σ x C d D gh) {s:Shared}(I:Inv X ρ σ s): ∃ox od,InstAt s.heap x ox C (some od):=by
 refine Kf (B.inst I) fun o ho h1 h2 h3 h4=> ?_
 refine aF (I.obj B.MJ) fun od wN U=> ?_
 refine⟨o,od,ho,h1,?_,?_⟩
 ·have:=B.no _ h3
  unfold notCls;split
  ·rename_i c hc;exact absurd hc (this c)
  ·rfl
 ·rw[h2];exact wN
theorem rR (O:cU T (n+1) X) (gy:X.FL=X.L) (B:oe X σ x C d D gh) {fa:Addr}{z:Int}(hf:findIn T.K (.ref C) "__len__"=some (some (.ref fa))) (ht:typeIn T.K (.ref fa)=some (.type "function")) (h0:0≤z) (h1:z<2^63)
  (hc:Fn prog w T n (.ref fa) [.ref x] σ (fun r σ'=>r= .int z∧σ'=σ)) {s:Shared}(I:Inv X ρ σ s) {Q:Value→Shared→Prop}(hq: ∀t s',Inv X ρ σ s'→Q (.int z t) s'):
  wpAny (model prog w) X.A.in1 (Builtin.«len» ⟨[.ref x],[]⟩) (fun fin s'=> ∃v,fin= .done (.ret v)∧Q v s') (fun U U=>False) s:=by
 refine xM (B.at_ I) fun ox od IA=> ?_
 unfold Builtin.«len»;refine wpAny_bind (m:=oneArg "len" _) (wpAny_pure ?_);refine wpAny_bind (m:=callSpecial? (.ref x) (Str.ofString "__len__")) (special_fn (kg O I) IA hf ht (wpAny_mono (wpAny_call (codeAny_mono (hc {X with A:=X.A.in1} ρ s O.in1 gy I.PL [.ref x] (.cons (.ref _) .nil)) fun r s' q=> ?_)) (fun v s' q=>q) fun U U y=>y));refine Pp q fun u σ' ah aU hu I'=> ?_;clear q;subst ah;subst aU
 refine vI hu fun t=> ?_
 refine wpAny_bind (wpAny_holding (wpAny_pure ?_));refine wpAny_bind (wpAny_letGo ?_);show wpAny _ _ (if z<0 then _ else _) _ _ _;rw[if_neg (E7 h0)];show wpAny _ _ (if z≥2^63 then _ else _) _ _ _;rw[if_neg (Ų h1)];exact wpAny_bind (wpAny_mkInt (wpAny_pure ⟨_,rfl,hq _ _ (I'.Kd.tick _)⟩))
theorem Iq (O:cU T (n+1) X) (gy:X.FL=X.L) (B:oe X σ x C d D gh) {fa:Addr}{z:Int}(hf:findIn T.K (.ref C) "__len__"=some (some (.ref fa))) (ht:typeIn T.K (.ref fa)=some (.type "function")) (h0:0≤z) (h1:z<2^63)
  (hc:Fn prog w T n (.ref fa) [.ref x] σ (fun r σ'=>r= .int z∧σ'=σ)) (us:List Value) (h:cu [.ref x] us):jP prog w X (call (.builtin "len") us) ρ σ (.int z):=fun s I=>by
 refine aF h.one fun u ah hu=> ?_;subst ah
 revert h;refine vR hu fun h=> ?_
 exact Calls.call_function_entry kind_len plain_len entry_len (args_len1 _) (rR O gy B hf ht h0 h1 hc I fun t s' I'=>⟨.int _ _,I'⟩)
theorem C0 (O:cU T (n+1) X) (gy:X.FL=X.L) (B:oe X σ x C d D gh) {fa:Addr}{z:Int}(hf:findIn T.K (.ref C) "__len__"=some (some (.ref fa))) (hnb:findIn T.K (.ref C) "__bool__"=some none) (ht:typeIn T.K (.ref fa)=some (.type "function")) (h0:0≤z) (h1:z<2^63)
  (hc:Fn prog w T n (.ref fa) [.ref x] σ (fun r σ'=>r= .int z∧σ'=σ)) (u:Value) (s:Shared) (h:VR (.ref x) u) (I:Inv X ρ σ s):wpAny (model prog w) X.A (truthy u) (fun c s'=>c=(z != 0)∧Inv X ρ σ s') (fun U U=>False) s:=by
 refine vR h ?_
 refine xM (B.at_ I) fun ox od IA=> ?_
 have key:wpAny (model prog w) X.A (runValue (.builtin "len" ⟨[.ref x],[]⟩)) (fun r s'=> ∃t,r= .int z t∧Inv X ρ σ s') (fun U U=>False) s:=by
  refine wpAny_runValue (codeAny_builtin entry_len ?_);rw[Around.under_plainId plain_len _];exact wpAny_mono (rR O gy B hf ht h0 h1 hc I (Q:=fun r s'=> ∃t,r= .int z t∧Inv X ρ σ s') fun t s' I'=>⟨t,rfl,I'⟩)
   (fun fin s' h'=>by refine aF h' fun r ah hq=> ?_;clear h';subst ah;exact hq) fun U U e=>e
 have nb:wpAny (model prog w) X.A (callSpecial? (.ref x) (Str.ofString "__bool__")) (fun r s'=>r=none∧s'=s) (fun U U=>False) s:=
  wpAny_bind (wpAny_bind (IA.type.here ((looks_findIn (kg O I) hnb).here (wpAny_pure ⟨rfl,rfl⟩))))
 have sl:wpAny (model prog w) X.A (specialOf (.ref x) (Str.ofString "__len__")) (fun r s'=>r=some (.ref fa)∧s'=s) (fun U U=>False) s:=
  wpAny_bind (IA.type.here ((looks_findIn (kg O I) hf).here ⟨rfl,rfl⟩))
 unfold truthy;refine wpAny_bind (wpAny_mono nb (fun r s' q=> ?_) fun U U e=>e);refine bo q fun ah aU=> ?_;clear q;subst ah;subst aU
 dsimp only
 refine wpAny_bind (wpAny_mono sl (fun r s' q=> ?_) fun U U e=>e);refine bo q fun ah aU=> ?_;clear q;subst ah;subst aU
 refine wpAny_bind (wpAny_mono key (fun r s' q=> ?_) fun U U e=>e);refine aF q fun t ah I'=> ?_;clear q;subst ah
 exact wpAny_pure ⟨rfl,I'⟩
theorem z2 (O:cU T (n+2) X) (gy:X.FL=X.L) (B:oe X σ x C d D gh) {fa:Addr}{l:List Nat}(hf:findIn T.K (.ref C) "__str__"=some (some (.ref fa))) (ht:isFn T.K (.ref fa)=true)
  (hc:Fn prog w T n (.ref fa) [.ref x] σ (fun r σ'=>r= .str l∧σ'=σ)) (us:List Value) (h:cu [.ref x] us):jP prog w X (call (.type "str") us) ρ σ (.str l):=fun s I=>by
 refine aF h.one fun u ah hu=> ?_;subst ah
 revert h;refine vR hu fun h=> ?_
 refine xM (B.at_ I) fun ox od IA=> ?_
 have O1:cU T (n+1) {X with A:=X.A.in1}:=O.in1;have O2:cU T n {X with A:=X.A.in1.in1}:=O1.in1;refine kso_call (by have:=O.un;show X.A.units+1+1<9900;exact Y7 this) (kg O I) IA hf ht (wpAny_call (codeAny_mono (hc {X with A:=X.A.in1.in1} ρ s O2 gy I.PL [.ref x] (.cons (.ref _) .nil)) fun r s' q=> ?_));refine Pp q fun u σ' ah aU hu I'=> ?_;clear q;subst ah;subst aU
 refine vS hu fun t=> ?_
 exact⟨.str _ _,I'.Kd⟩
end
section
variable {prog:Program}{w:World}{X:Cx}{ρ bC bI:Ro}{σ σ' aD:Led}{T:aX}{n:Nat}{R R':PV→Led→Prop}{K:PF→Ro→Led→Prop}
variable {x C d:Addr}{cd:ClassData}{ps:List PV}
theorem kY {A:Around}{E:Value→Shared→Prop}{s:Shared}{value slice:Expr}{o i:Value}{vs:List Value}{Q:Value→Shared→Prop}(hg:wpAny (model prog w) A (getitemInPython o) (fun b s'=>b=false∧s'=s) E s)
  (hs:subscripted slice false o i=operate vs (getItem o i)) (h:wpAny (model prog w) A (getItem o i) Q E s):wpAny (model prog w) A (subscriptTail value slice o i) Q E s:=by
 unfold subscriptTail;refine wpAny_bind (wpAny_mono hg (fun b s' q=> ?_) fun U U e=>e);refine bo q fun ah aU=> ?_;clear q;subst ah;subst aU
 rw[hs];exact wpAny_bind (wpAny_operating (wpAny_mono h (fun r c6 Rm=>wpAny_bind (wpAny_letTemporaryGo (wpAny_pure Rm))) fun U U x=>x))
theorem Ga (O:cU T n X) (hf:findIn T.K (.ref C) "__getitem__"=some (some (.builtin "list.__getitem__"))) (hm:(x,isA C d ps)∈σ) {s:Shared}(I:Inv X ρ σ s) {E:Value→Shared→Prop}:wpAny (model prog w) X.A (getitemInPython (.ref x)) (fun b s'=>b=false∧s'=s) E s:=by
 refine aF (I.obj hm) fun o ho po=> ?_
 have T': ∀{M:Model},Looks M s.heap (typeOf (.ref x)) (.ref C):=po.1 ▸ (Looks.ld ho).andThen .now;exact wpAny_bind (wpAny_bind (T'.here ((looks_findIn (kg O I) hf).here (wpAny_pure ⟨rfl,rfl⟩))))
theorem F9 {a:Addr}(hm:At X σ a (gG ps)) {s:Shared}(I:Inv X ρ σ s) {E:Value→Shared→Prop}:wpAny (model prog w) X.A (getitemInPython (.ref a)) (fun b s'=>b=false∧s'=s) E s:=by
 refine aF (hm.obj I) fun o ho po=> ?_
 refine aF (po.tuple ho) fun vs de il=> ?_
 rw[getitemInPython_of_ne (fun e=>by cases e)];exact wpAny_bind (wpAny_specialOf il.typeIs slot_tuple_getitem.lookup (wpAny_pure ⟨rfl,rfl⟩))
theorem yO (O:cU T n X) (Y:c9 T.K C cd) (hl:cd.mro.contains (.type "list")=true) (hq:noSeq T.K C=true) (hf:findIn T.K (.ref C) "__getitem__"=some (some (.builtin "list.__getitem__"))) {v e:Expr}{pos:Pos}{i:Int}{p:PV}(hv:PE prog w X v ρ σ (.ref x)) (hm:(x,isA C d ps)∈σ) (he:PE prog w X e ρ σ (.int i)) (h0:0≤i) (h1:i<ps.length) (hn:ps.length≤16777216) (hp:cB ps i=p)
  (hs: ∀x y,subscripted e false x y=operate [x,y] (getItem x y):=by intro _ _;rfl):PE prog w X (.Subscript v e pos) ρ σ p:=fun s I=>by
 refine PyProof.Rows.Subscript_ (wpAny_mono (hv s I) (fun u s₁ q=>wpAny_mono (he s₁ q.2) (fun y au q'=> ?_) fun U U f=>f) fun U U f=>f);refine bo q fun wX aS=> ?_
 refine bo q' fun wW aH=> ?_
 refine vR wX ?_
 exact kY (Ga O hf hm aH) (hs _ _) (Em O Y hl hq hf hm h0 h1 hn hp _ _ (.ref x) wW au aH)
theorem yN {v e:Expr}{pos:Pos}{a:Addr}{i:Nat}{p:PV}(hv:PE prog w X v ρ σ (.ref a)) (hm:At X σ a (gG ps)) (he:PE prog w X e ρ σ (.int i)) (h1:ps[i]? =some p) (hn:ps.length≤16777216)
  (hs: ∀x y,subscripted e false x y=operate [x,y] (getItem x y):=by intro _ _;rfl):PE prog w X (.Subscript v e pos) ρ σ p:=fun s I=>by
 refine PyProof.Rows.Subscript_ (wpAny_mono (hv s I) (fun u s₁ q=>wpAny_mono (he s₁ q.2) (fun y au q'=> ?_) fun U U f=>f) fun U U f=>f);refine bo q fun wX aS=> ?_
 refine bo q' fun wW aH=> ?_
 refine vR wX ?_;refine vI wW fun t=> ?_
 refine aF (hm.obj aH) fun o ho po=> ?_
 refine Hi (po.tuple ho) fun vs o' k de ig hc hd=> ?_
 refine aF (de.m5 h1) fun u hu r=> ?_
 have hi:i<ps.length:=by
  rcases Nat.lt_or_ge i ps.length with h | h
  ·exact h
  ·rw[List.getElem?_eq_none h] at h1;cases h1
 have hlen:=de.length;exact kY (F9 hm aH) (hs _ _) (getItem_tuple ⟨o',ig,hc,k,hd⟩ OJ (Nn hn hi) (j:=i) (by
  have h1: ¬((i:Int)<0):=Ae;have h2:i<vs.length:=Nc hi hlen;simp[seqIndex?,h1,h2]) hu ⟨r,aH⟩)
theorem wD (O:cU T n X) (Y:c9 T.K C cd) (hl:cd.mro.contains (.type "list")=true) (hq:noSeq T.K C=true) (hf:findIn T.K (.ref C) "__getitem__"=some (some (.builtin "list.__getitem__"))) {v:Expr}{l u:Option Expr}{p pos:Pos}{lo hi:Option Int}(hv:PE prog w X v ρ σ (.ref x)) (hm:(x,isA C d ps)∈σ) (Mi:xJ prog w X l ρ σ lo) (hu:xJ prog w X u ρ σ hi) (hn:ps.length≤16777216):
  NE prog w X (.Subscript v (.Slice l u none p) pos) ρ σ (az (sl ps lo hi)):=fun s I=>by
 refine PyProof.Rows.Subscript_ (wpAny_mono (hv s I) (fun u s₁ q=> ?_) fun U U f=>f);refine bo q fun h1 aS=> ?_
 refine vR h1 ?_
 refine wpAny_Slice (wpAny_mono (Mi s₁ aS) (fun vl au q=>wpAny_mono (hu au q.2) (fun vu c6 q'=> ?_) fun U U f=>f) fun U U f=>f);refine bo q fun pl aH=> ?_
 refine bo q' fun pu cg=> ?_
 rw[evalPart_none];refine wpAny_pure ?_
 have J:=cg.ext (tk:=c6.toks) (h':=c6.heap.push {cls:=.type "slice",data:=.fields #[vl,vu,.none]}) fun b o e=>Heap.get?_push_of_some _ e
 exact kY (Ga O hf hm J) rfl (zD O Y hl hq hf hm hn pl pu (Heap.IsSliceOf.new ..) J)
theorem jr (O:cU T n X) (Y:c9 T.K C cd) (hl:cd.mro.contains (.type "list")=true) (hq:noSeq T.K C=true) (hf:findIn T.K (.ref C) "__setitem__"=some (some (.builtin "list.__setitem__"))) {v e:Expr}{l u:Option Expr}{sp jZ pos:Pos}{lo hi:Option Int}{R:PV→Led→Prop}(he:GE prog w X e ρ σ R)
  (hk: ∀r aD,R r aD→ ∃b ps qs rs ak,r= .ref b∧(b,az qs)∈aD∧PE prog w X v ρ aD (.ref x)∧xJ prog w X l ρ aD lo∧xJ prog w X u ρ aD hi∧Um x (isA C d ps) (isA C d rs) aD ak∧ps.length+qs.length≤16000000∧rs.length≤16000000∧K .next ρ ak∧
   ∀vs us,cu ps vs→cu qs us→ ∃ws:List Value,vs.toArray.extract 0 (sliceBounds lo hi none vs.length).1.toNat++us.toArray++vs.toArray.extract (max (sliceBounds lo hi none vs.length).1 (sliceBounds lo hi none vs.length).2.1).toNat vs.toArray.size=ws.toArray∧cu rs ws)
  (hs:swapsWith e (some (v.Subscript (.Slice l u none sp) jZ)) pos.line X.env=pure false:=by rfl):S1 prog w X (.Assign [.Subscript v (.Slice l u none sp) jZ] e pos) ρ σ K:=fun s I=>by
 refine wpAny_Assign_Subscript (wpAny_mono (he s I) (fun vu s₁ q₁=> ?_) fun U U f=>f) hs;refine jU q₁ fun r aD hR hr aS=> ?_
 refine Q9 (hk r aD hR) fun b ps qs rs ak ah hb hv Mi hu hm n1 n2 hK hx=> ?_;subst ah
 have dm:b≠x:=by
  rintro rfl;refine uj (aS.obj hb) fun vs k ho U=> ?_
  refine aF (aS.obj hm.mem) fun o' ig oA=> ?_
  rw[ho] at ig
  cases ig
  exact absurd oA.1 (by simp)
 refine vR hr ?_
 refine wpAny_mono (hv s₁ aS) (fun o au dg=> ?_) fun U U f=>f
 refine bo dg fun ho aH=> ?_
 refine vR ho ?_
 refine wpAny_Slice (wpAny_mono (Mi au aH) (fun vl c6 q=>wpAny_mono (hu c6 q.2) (fun vu jo q'=> ?_) fun U U f=>f) fun U U f=>f);refine bo q fun pl cg=> ?_
 refine bo q' fun pu kA=> ?_
 rw[evalPart_none];refine wpAny_pure ?_
 have J:=kA.ext (tk:=jo.toks) (h':=jo.heap.push {cls:=.type "slice",data:=.fields #[vl,vu,.none]}) fun b o e=>Heap.get?_push_of_some _ e
 exact wpAny_mono (sh O Y hl hq hf hm hb dm hx n1 n2 pl pu (Heap.IsSliceOf.new ..) J) (fun U gX qP=>⟨_,_,_,hK,.next,qP⟩) fun U U f=>f
theorem SU {ps qs rs:List PV}{i:Nat}(hi:i≤ps.length) (hq:qs=[]) (hr:rs=ps.take i): ∀vs us,cu ps vs→cu qs us→ ∃ws:List Value,vs.toArray.extract 0 (sliceBounds (some (i:Int)) none none vs.length).1.toNat++us.toArray++vs.toArray.extract (max (sliceBounds (some (i:Int)) none none vs.length).1 (sliceBounds (some (i:Int)) none none vs.length).2.1).toNat vs.toArray.size=ws.toArray∧cu rs ws:=fun vs us hv hu=>by
 subst hq hr;cases hu;have hlen:=hv.length;refine⟨vs.take i,?_,hv.take i⟩;rw[sliceBounds_plain];have e1:clipAt vs.length (i:Int)=i:=by rw[clipAt_nat];exact Vd hi hlen
 simp only[Option.elim,e1]
 have e2:(max ((i:Nat):Int) ((vs.length:Nat):Int)).toNat=vs.length:=Ve hi hlen;rw[e2];simp
theorem Ž {ps qs:List PV}: ∀vs us,cu ps vs→cu qs us→ ∃ws:List Value,vs.toArray.extract 0 (sliceBounds none none none vs.length).1.toNat++us.toArray++vs.toArray.extract (max (sliceBounds none none none vs.length).1 (sliceBounds none none none vs.length).2.1).toNat vs.toArray.size=ws.toArray∧cu qs ws:=fun vs us hv hu=>by
 refine⟨us,?_,hu⟩;rw[sliceBounds_plain];simp
end
section
variable {prog:Program}{w:World}{X:Cx}{ρ bC bI:Ro}{σ σ' aD:Led}{T:aX}{n:Nat}{R R':PV→Led→Prop}{K:PF→Ro→Led→Prop}
variable {ps:List PV}
theorem E8 {e:Expr}{p pos:Pos}{a:Addr}(he:PE prog w X e ρ σ (.ref a)) (hm:At X σ a (gG ps)) (hn:ps.length≤16777216) (iL:starEach [.Starred e p] X.env=[(true,eval e X.env)]:=by rfl):
  AG prog w X [.Starred e p] pos ρ σ (fun vs σ'=>vs=ps∧σ'=σ):=fun f s I=>by
 rw[iL];refine ks_lone (wpAny_mono (he s I) (fun u s₁ q=> ?_) fun U U f=>f);refine bo q fun hu aS=> ?_
 refine vR hu ?_
 refine aF (hm.obj aS) fun o ho po=> ?_
 refine Hi (po.tuple ho) fun vs o' k de ig hc hd=> ?_
 unfold StarOf notIterableAtAll;have hT':s₁.TypeIs (.ref a) "tuple":=⟨o',ig,hc⟩;refine wpAny_bind (wpAny_specialOf hT' PySem.F.slot_tuple_iter.lookup (wpAny_pure ⟨rfl,?_⟩));exact wpAny_collect_seq a (.inr rfl) ig hc hd (fun h' hk=>⟨vs,ps,σ,rfl,⟨rfl,rfl⟩,de,aS.ext (tk:=s₁.toks) hk⟩) (by rw[List.size_toArray,←de.length,sizeLine_eq];exact hn)
theorem vZ {l r:Expr}{op:CmpOp}{pos:Pos}{a:PV}{c:Bool}(hl:PE prog w X l ρ σ a) (hr:GE prog w X r ρ σ R) (h: ∀v σ',R v σ'→σ.Sublist σ'∧Cm prog w X op a v ρ σ' c) (hb:behindInMarks op r=false:=by rfl):BE prog w X (.Compare l [op] [r] pos) ρ σ c:=fun s I=>
 wpAny_isTrue_Compare1 (wpAny_mono (hl s I) (fun jW s₁ q₁=>wpAny_mono (hr s₁ q₁.2) (fun gH au dg=>by
  refine jU dg fun v σ' hR hv aH=> ?_
  exact wpAny_mono ((h v σ' hR).2 jW gH q₁.1 hv au aH) (fun r c6 q=>by
   refine bo q fun ah I=> ?_;clear q;subst ah
   exact wpAny_truthy_bool ⟨rfl,I.sub (h v σ' hR).1⟩) fun U U f=>f) fun U U f=>f) fun U U f=>f) hb
theorem C8 {a:List Nat}{u:Value}(h:VR (.str a) u): ∃t,u= .str (mk a) t:=by refine vS h fun t=> ?_;exact⟨_,rfl⟩
theorem Ij (O:cU T n X) {a b:Addr}{a1 a2 b1 b2:List Nat}(ha:At X σ a (gG [.str a1,.str a2])) (hb:At X σ b (gG [.str b1,.str b2])):Cm prog w X .NotEq (.ref a) (.ref b) ρ σ (!(a1==b1&&a2==b2)):=fun u v h1 h2 s I=>by
 refine vR h1 ?_;refine vR h2 ?_
 refine aF (ha.obj I) fun o ho po=> ?_
 refine aF (po.tuple ho) fun vs de il=> ?_
 refine aF (hb.obj I) fun o' ig oA=> ?_
 refine aF (oA.tuple ig) fun us ia jl=> ?_
 refine uk de.two fun x1 x2 ah r1 r2=> ?_;subst ah
 refine uk ia.two fun y1 y2 ah q1 q2=> ?_;subst ah
 refine gF (C8 r1) fun t1 ah=> ?_;subst ah
 refine gF (C8 r2) fun t2 ah=> ?_;subst ah
 refine gF (C8 q1) fun t3 ah=> ?_;subst ah
 refine gF (C8 q2) fun t4 ah=> ?_;subst ah
 refine SeqAt.RcNeAt.tuples (e:=fun j=>if j=0 then a1==b1 else a2==b2) il jl (by have:=O.un;show X.A.units<9900;exact Y4 this) (fun j h1 h2=> ?_) prog w _ _ ⟨?_,I⟩
 ·rcases j with _ | _ | j
  ·have:=SeqAt.EqAt.str_str (A:=X.A.in1) (s:=s) (mk a1) t1 (mk b1) t3
   rw[mq] at this
   exact this
  ·have:=SeqAt.EqAt.str_str (A:=X.A.in1) (s:=s) (mk a2) t2 (mk b2) t4
   rw[mq] at this
   exact this
  ·exact absurd h1 (by simp)
 ·have e:(List.range 2).all (fun j=>if j=0 then a1==b1 else a2==b2)=(a1==b1&&a2==b2):=by
   show (List.all [0,1] _)=_;simp
  show Value.bool (!((List.range 2).all (fun j=>if j=0 then a1==b1 else a2==b2)&&true))=_;rw[e,Bool.and_true]
end
structure Mt (T:aX) (C:Addr) (name qual:Str) (st:Stmt) (f:Addr) (cl:List (Str×Addr)) (bu dV:Value):Prop where
 kS:findIn T.K (.ref C) name=some (some (.ref f))
 typ:typeIn T.K (.ref f)=some (.type "function")
 fn:Kw T name qual st f cl bu dV
structure J4 (K:Frag) (C:Addr) (cd:ClassData):Prop where
 cls:c9 K C cd
 lst:cd.mro.contains (.type "list")=true
 self:cd.mro.contains (.ref C)=true
 vz:noSeq K C=true
 it:findIn K (.ref C) "__iter__"=some (some (.builtin "list.__iter__"))
 gi:findIn K (.ref C) "__getitem__"=some (some (.builtin "list.__getitem__"))
 si:findIn K (.ref C) "__setitem__"=some (some (.builtin "list.__setitem__"))
 ap:findIn K (.ref C) "append"=some (some (.builtin "list.append"))
 apt:typeIn K (.builtin "list.append")=some (.type "method_descriptor")
 nb:findIn K (.ref C) "__bool__"=some none
section
variable {prog:Program}{w:World}{X:Cx}{ρ bC bI:Ro}{σ σ' aD:Led}{T:aX}{n:Nat}{R R':PV→Led→Prop}{K:PF→Ro→Led→Prop}
variable {x C d:Addr}{cd:ClassData}{D:Data→Prop}{gh CH:Ro}{ps:List PV}
theorem gA (hm:(x,isA C d ps)∈σ) (hd:(d,fe gh)∈σ):oe X σ x C d (yy ps) gh:=⟨hm,hd,fun U h=>h.notCls⟩
theorem mj (hm:(x,y7 C d fM)∈σ) (hd:(d,fe gh)∈σ):oe X σ x C d fM gh:=⟨hm,hd,fun U h=>h.notCls⟩
theorem ub (O:cU T n X) (Y:J4 T.K C cd) {o e:Expr}{apos p pos:Pos}{pl:Sem Bool}(ho:PE prog w X o ρ σ (.ref x)) (B:oe X σ x C d (yy ps) gh) (Eb:("append":Str)∉gh.map (·.1)) (he:GE prog w X e ρ σ R) (hn:ps.length≤16777216)
  (hk: ∀v σ',R v σ'→ ∃ak,Um x (isA C d ps) (isA C d (ps++[v])) σ' ak∧K .next ρ ak)
  (heq:eval ((o.Attribute ("append":Str) apos).Call [e] [] p) X.env=(do let ov ←eval o X.env;standAt apos.atName;let fx ←holding [ov] (getMethod ov ("append":Str) pl);match fx with | (f,first)=>callWith p f first (backTo p (starEach [e] X.env)) []))
  (Ef:starEach [e] X.env=[(false,eval e X.env)]:=by rfl) (hi:interactive X.env=false:=by rfl) (hs:swapsWith ((o.Attribute ("append":Str) apos).Call [e] [] p) none pos.line X.env=pure false:=by rfl):
  S1 prog w X (.Expr ((o.Attribute ("append":Str) apos).Call [e] [] p) pos) ρ σ K:=
 by
 refine fu (R:=fun r ak=>r= .none∧K .next ρ ak) ?_ (fun v σ' h=>h) hi hs;refine lx (pl:=pl) (id:="list.append") (aQ ho) (fun v σ' r=> ?_) heq (by rw[Ef];rfl);refine bo r fun ah e'=> ?_;clear r;subst ah
 have e':=e'.symm;subst e';refine⟨fun u s Q hu I hq=>nW O Y.cls B Y.ap Y.apt dC Eb u s Q hu I hq,_,PN he Ef,fun vs ak h u us hu hv=> ?_⟩;refine aF h fun v ah hR=> ?_;clear h;subst ah
 refine aF (hk v ak hR) fun aR hm hK=> ?_
 exact VX.mono (xj O Y.cls Y.lst hm hn u us hu hv) fun v σ' q=>⟨q.1,q.2 ▸ hK⟩
theorem eU (O:cU T n X) (gy:X.FL=X.L) (Y:c9 T.K C cd) {o:Expr}{name qual:Str}{st:Stmt}{cl:List (Str×Addr)}{bu dV:Value}{fa:Addr}(M:Mt T C name qual st fa cl bu dV) {apos pos:Pos}{args:List Expr}{pl:Sem Bool}{RA:List PV→Led→Prop}{R₂:PV→Led→Prop}{k:Nat}
  (ho:PE prog w X o ρ σ (.ref x)) (B:oe X σ x C d D gh) (Eb:name∉gh.map (·.1)) (ha:AG prog w X args pos ρ σ RA) (hk:k≤n) (hc: ∀vs σ',RA vs σ'→Fn prog w T k (.ref fa) (.ref x::vs) σ' R₂)
  (heq:eval ((o.Attribute name apos).Call args [] pos) X.env=(do let ov ←eval o X.env;standAt apos.atName;let fx ←holding [ov] (getMethod ov name pl);match fx with | (f,first)=>callWith pos f first (backTo pos (starEach args X.env)) []):=by rfl):
  GE prog w X (.Call (.Attribute o name apos) args [] pos) ρ σ R₂:=wZ O gy Y ho B M.kS M.typ M.fn.isFn Eb ha hk hc heq
end
section
variable {prog:Program}{w:World}{X:Cx}{ρ bC bI:Ro}{σ σ' aD:Led}{T:aX}{n:Nat}{R R':PV→Led→Prop}{K aap:PF→Ro→Led→Prop}{c:Code}
theorem yC {e:Expr}{pos:Pos}{rest:List Stmt}(h:PQ prog w X c (eval e X.env) ρ σ (fun u s'=> ∃v σ',R v σ'∧VR v u∧Inv X ρ σ' s')) (k: ∀v σ',R v σ'→K (.ret v) ρ σ'):Ks prog w X c (execs (.Return (some e) pos::rest) X.env) ρ σ K:=fun s I=>
 ks_wpAt_execs_cons (ks_wpAt_Return_some (ks_wpAt_mono (h s I) (fun u s' q=>by
  refine jU q fun v σ' r hv I'=> ?_
  exact⟨_,_,_,k v σ' r,.ret hv,I'⟩) fun U U f=>f))
theorem De {e:Expr}{pos:Pos}(h:PQ prog w X c (eval e X.env) ρ σ (fun u s'=> ∃σ',R .none σ'∧Inv X ρ σ' s')) (k: ∀σ',R .none σ'→K .next ρ σ') (hi:interactive X.env=false:=by rfl) (hs:swapsWith e none pos.line X.env=pure false:=by rfl):
  Ks prog w X c (execs [.Expr e pos] X.env) ρ σ K:=fun s I=>
 ks_wpAt_execs_cons (ks_wpAt_Expr_any (ks_wpAt_mono (h s I) (fun u s' q=>by
  refine aF q fun σ' r I'=> ?_
  exact PyProof.Rows.wpAt_of_any (wpAny_execs_nil ⟨_,_,_,k σ' r,.next,I'⟩)) fun U U f=>f) hi hs)
noncomputable def O9 (prog:Program) (w:World) (X:Cx) (c:Code) (rest:List Stmt) (K:PF→Ro→Led→Prop):PF→Ro→Led→Prop
 | .next,ρ,σ=>Ks prog w X c (execs rest X.env) ρ σ K
 | f,ρ,σ=>K f ρ σ
theorem vk {st:Stmt}{rest:List Stmt}(h:S1 prog w X st ρ σ (O9 prog w X c rest K)):Ks prog w X c (execs (st::rest) X.env) ρ σ K:=fun s I=>
 ks_wpAt_execs_cons (PyProof.Rows.wpAt_of_any (wpAny_mono (h s I) (fun fl s' q=>by
  refine DH q fun f bC σ' a b d=> ?_
  cases b with
  | next=>exact a s' d
  | brk=>exact⟨_,_,_,a,.brk,d⟩
  | cont=>exact⟨_,_,_,a,.cont,d⟩
  | ret h=>exact⟨_,_,_,a,.ret h,d⟩) fun U U f=>f))
end
section
variable {prog:Program}{w:World}{X:Cx}{ρ bC bI:Ro}{σ σ' aD:Led}{T:aX}{n:Nat}{x C d:Addr}{ps:List PV}{p:PV}
theorem IB (hm:(x,isA C d ps)∈σ):Ev prog w X (Builtin.«list.__len__» ⟨[.ref x],[]⟩) ρ σ (fun fin s'=> ∃v,fin= .done (.ret v)∧ ∃p σ',(p= .int ps.length∧σ'=σ)∧VR p v∧Inv X ρ σ' s'):=fun s I=>by
 refine aF (I.obj hm) fun o ho po=> ?_
 refine yR (id po) fun vs k h1 h2 hv h3 h4=> ?_
 show wpAny _ _ (do retInt (←seqSize x)) _ _ s;unfold seqSize;refine wpAny_bind (wpAny_bind (wpAny_load ho ?_));rw[h3];refine wpAny_pure (wpAny_bind (wpAny_mkInt (wpAny_pure ⟨_,rfl,.int ps.length,σ,⟨rfl,rfl⟩,?_⟩)));rw[List.size_toArray,←hv.length];exact⟨.int _ _,I.tick _⟩
theorem Iz (hm:Um x (isA C d (ps++[p])) (isA C d ps) σ σ') (hn:ps.length≤16000000):Ev prog w X (Builtin.«list.pop» ⟨[.ref x],[]⟩) ρ σ (fun fin s'=> ∃v,fin= .done (.ret v)∧ ∃q ak,(q=p∧ak=σ')∧VR q v∧Inv X ρ ak s'):=fun s I=>by
 refine aF (I.obj hm.mem) fun o ho po=> ?_
 refine yR (id po) fun vs k h1 h2 hv h3 h4=> ?_
 have hlen:=hv.length;rw[List.length_append] at hlen
 simp only[List.length_cons,List.length_nil] at hlen
 refine aF (hv.m5 (i:=ps.length) (p:=p) (by simp)) fun y hy r=> ?_
 show wpAny _ _ (Builtin.List.listItems (.ref x) >>= _) _ _ s;refine wpAny_bind (wpAny_listItems ho h3 ?_);rw[if_neg (by simp;intro e;rw[e] at hlen;simp at hlen)];have hk:seqIndex? (-1) vs.toArray.size=some ps.length:=by
  rw[seqIndex_neg arc (by rw[List.size_toArray];exact YJ hlen)];congr 1;rw[List.size_toArray];exact YH hlen
 rw[hk,Option.bind_some,hy,Option.map_some];refine wpAny_bind (m:=updateSeq x _) (wpAny_updateSeq ho h3 ?_ ?_ ?_)
 ·refine wpAny_pure ⟨y,rfl,p,σ',⟨rfl,rfl⟩,r,?_⟩;have Hx:cu ps (vs.eraseIdx ps.length):=by
   have:=hv.erase ps.length
   rwa [List.eraseIdx_append_of_length_le (Nat.le_refl _),Nat.sub_self,List.eraseIdx_cons_zero,List.append_nil] at this
  have oA:isA C d ps (Obj.mapSeq (fun xs=>xs.eraseIdxIfInBounds ps.length) o):=po.ym h3 (by simp) Hx;exact I.turn (tk:=s.toks) hm.us (Heap.SameBut.update ..) (Heap.get?_update_self _ ho oA.fr) oA
 ·rw[List.size_toArray,sizeLine_eq];exact WO hn hlen
 ·show (vs.toArray.eraseIdxIfInBounds ps.length).size≤_;rw[show vs.toArray.eraseIdxIfInBounds ps.length=(vs.eraseIdx ps.length).toArray by simp,List.size_toArray,sizeLine_eq]
  have:=List.length_eraseIdx_le vs ps.length
  exact UR hn hlen this
theorem Um.self {a:Addr}{Q:Obj→Prop}: ∀{σ:Led},(a,Q)∈σ→Um a Q Q σ σ
 | _::_,.head _=>.here
 | _::_,.tail _ h=>.there (Um.self h)
theorem EI (hm:(x,isA C d [])∈σ):Ev prog w X (Builtin.«list.__init__» ⟨[.ref x],[]⟩) ρ σ (fun fin s'=> ∃v,fin= .done (.ret v)∧ ∃σ',σ'=σ∧Inv X ρ σ' s'):=fun s I=>by
 refine aF (I.obj hm) fun o ho po=> ?_
 refine yR (id po) fun vs k h1 h2 hv h3 h4=> ?_
 cases hv
 show wpAny _ _ (Builtin.List.listItems (.ref x) >>= _) _ _ s;refine wpAny_bind (wpAny_listItems ho h3 ?_);refine wpAny_bind (m:=updateSeq x _) (wpAny_updateSeq ho h3 ?_ dC dC);refine wpAny_bind (gT _ ?_);have oA:isA C d [] (Obj.mapSeq (fun U=> #[]) o):=po.ym (us:=[]) h3 rfl .nil;exact wpAny_pure ⟨_,rfl,σ,rfl,I.turn (tk:=s.toks) (Um.self hm).us (Heap.SameBut.update ..) (Heap.get?_update_self _ ho oA.fr) oA⟩
end
section
variable {prog:Program}{w:World}{X:Cx}{ρ bC bI:Ro}{σ σ' aD:Led}{T:aX}{n:Nat}{R R':PV→Led→Prop}
variable {x C d:Addr}{cd:ClassData}{D:Data→Prop}{gh CH:Ro}{ps:List PV}
theorem IC (O:cU T n X) (Lx:Lay X) (Y:c9 T.K C cd) {self name:Str}{p pos:Pos}{v:PV}(hx:(self,some (.ref x))∈ρ) (B:oe X σ x C d D gh) (hm:(name,some v)∈gh) (hf:findIn T.K (.ref C) name=some none) {s:Shared}(I:Inv X ρ σ s) {E:Value→Shared→Prop}{Q:Value→Shared→Prop}
  (hq: ∀u,VR v u→Q u {s with toks:=s.toks+1})
  (he:eval (.Attribute (.Name self p) name pos) X.env=(do let u ←eval (.Name self p) X.env;standAt pos.atName;let r ←holding [u] (getAttr u name true);letTemporaryGo (.Name self p) u r;pure r):=by rfl):wpAny (model prog w) X.A (eval (.Attribute (.Name self p) name pos) X.env) Q E s:=by
 refine gS I.st fun m news F N RI Dl=> ?_
 refine aF (RI.get hx) fun u hu hv=> ?_
 revert hu;refine vR hv fun hu=> ?_
 have hk:=Lx.ks self (I.ks ▸ List.mem_map_of_mem hx);refine Attribute_any_ (wpAny_Name (wpAny_loadName_local Lx.fn hk.1 (by rw[Lx.loc];exact F.ns) hu ?_) hk.2) he;refine Kf (B.inst I) fun o ho h1 h2 h3 h4=> ?_
 refine aF (I.obj B.MJ) fun od wN pod=> ?_
 refine aF (pod.Pt wN) fun md RD zc=> ?_
 refine aF (RD.get hm) fun u hu hv=> ?_
 exact mD (kg O I) Y ho h1 (B.no _ h3) h2 zc hf hu hv.handed (hq u hv)
end
section
variable {prog:Program}{w:World}{X:Cx}{ρ:Ro}{σ:Led}
theorem Hb {a b:Expr}{pos:Pos}{c d:Bool}(h:PE prog w X a ρ σ (.bool c)) (hr:c=false→PE prog w X b ρ σ (.bool d)):PE prog w X (.BoolOp .Or [a,b] pos) ρ σ (.bool (c||d)):=fun s I=>
 BoolOp_or (wpAny_mono (h s I) (fun x s' q=>by
  refine bo q fun h1 I'=> ?_
  refine vB h1 ?_
  refine wpAny_truthy_bool ?_
  cases c with
  | false=>exact BoolOp_one (hr rfl s' I')
  | true=>exact⟨.bool _,I'⟩) fun U U f=>f)
theorem Hc {e:Expr}{pos:Pos}{v:PV}{b:Bool}(h:PE prog w X e ρ σ v) (ht: ∀u s,VR v u→Inv X ρ σ s→wpAny (model prog w) X.A (truthy u) (fun c s'=>c=b∧Inv X ρ σ s') (fun U U=>False) s):PE prog w X (.UnaryOp .Not e pos) ρ σ (.bool (!b)):=fun s I=>by
 show wpAny _ _ (do let v ←eval e X.env;standAt pos;holding [v] (unaryOp .Not v)) _ _ s;refine wpAny_bind (wpAny_mono (h s I) (fun u s₁ q=> ?_) fun U U f=>f);refine wpAny_bind (wpAny_standAt (wpAny_holding ?_));unfold unaryOp;refine wpAny_holding ?_
 show wpAny _ _ (do return Value.bool (!(←truthy u))) _ _ s₁;refine wpAny_bind (wpAny_mono (ht u s₁ q.1 q.2) (fun c au q=> ?_) fun U U f=>f);refine bo q fun ah aH=> ?_;clear q;subst ah
 exact wpAny_pure ⟨.bool _,aH⟩
end
def AM (j:Nat):Stmt:=cx (bodyOf (ST 8)) j
def FM (j:Nat):Stmt:=cx (bodyOf (ST 7)) j
structure fH where
 C:Addr
 cd:ClassData
 cc:Addr
 init:Addr
 push:Addr
 popf:Addr
 pop:Addr
 len:Addr
 str:Addr
 reset:Addr
 only:Addr
 count:Addr
 cinit:Addr
 cpop:Addr
 ccount:Addr
 clen:Addr
 cstr:Addr
 Plen:Addr
 Pstr:Addr
 vpush:Value
 vpopf:Value
 vreset:Value
 vonly:Value
 dinit:Addr
 dpopf:Addr
 dreset:Addr
structure mQ (T:aX) (a:fH):Prop where
 lk:J4 T.K a.C a.cd
 no:findIn T.K (.ref a.C) "_initial_size"=some none
 push:Mt T a.C "push" "_Accumulator.push" (AM 1) a.push [] a.vpush .none
 count:Mt T a.C "part_count" "_Accumulator.part_count" (AM 8) a.count [("__class__",a.cc)] (.ref a.ccount) .none
 pop:Mt T a.C "pop" "_Accumulator.pop" (AM 3) a.pop [("__class__",a.cc)] (.ref a.cpop) .none
 init:Mt T a.C "__init__" "_Accumulator.__init__" (AM 0) a.init [("__class__",a.cc)] (.ref a.cinit) (.ref a.dinit)
 popf:Mt T a.C "pop_from" "_Accumulator.pop_from" (AM 2) a.popf [] a.vpopf (.ref a.dpopf)
 len:Mt T a.C "__len__" "_Accumulator.__len__" (AM 4) a.len [] (.ref a.clen) .none
 str:Mt T a.C "__str__" "_Accumulator.__str__" (AM 5) a.str [] (.ref a.cstr) .none
 reset:Mt T a.C "reset" "_Accumulator.reset" (AM 6) a.reset [] a.vreset (.ref a.dreset)
 vinit: ∃o k u,T.K.lookup a.dinit=some o∧o.data= .seq #[.int 0 u] k
 KA: ∃o k u,T.K.lookup a.dpopf=some o∧o.data= .seq #[.int 0 u] k
 GN: ∃o k,T.K.lookup a.dreset=some o∧o.data= .seq #[.none] k
 only:Mt T a.C "is_onlyws" "_Accumulator.is_onlyws" (AM 7) a.only [] a.vonly .none
structure u6 (prog:Program) (T:aX) (a:fH):Prop where
 cell: ∃oc,T.K.lookup a.cc=some oc∧oc.data= .cell (some (.ref a.C))
 code: ∀c∈[a.cinit,a.cpop,a.ccount],∃oc vs file tf,T.K.lookup c=some oc∧oc.data= .fields vs∧vs[2]? =some (.str file tf)∧((prog.main.file:Str)==file)=true
 top:(prog.main.scope.names.lookup ("super":Str)).isSome=false
 glob:T.mg "super"=none∧T.mb "super"=some (.type "super")
 third:nsIn T.K cStatics "thirdparty.any"=some none
 len:alongIn T.K "__len__" ((a.cd.mro.dropWhile (· != .ref a.C)).drop 1)=some (some (.builtin "list.__len__"))
 pop:alongIn T.K "pop" ((a.cd.mro.dropWhile (· != .ref a.C)).drop 1)=some (some (.builtin "list.pop"))
 init:alongIn T.K "__init__" ((a.cd.mro.dropWhile (· != .ref a.C)).drop 1)=some (some (.builtin "list.__init__"))
 typ:typeIn T.K (.ref a.C)=some (.type "type")
 qual:a.cd.qualname=("_Accumulator":Str)
 Fx:a.cd.mro.contains (.type "module")=false
structure ti (T:aX) (a:fH) (bm:Addr) (ob:Obj):Prop where
 len:Bi T a.clen a.Plen
 str:Bi T a.cstr a.Pstr
 bi:T.mg "__builtins__"=some (.ref bm)
 bn:bm≠builtinsNs
 bl:T.K.lookup bm=some ob
 bc:ob.cls= .type "module"
 bd:ob.dict=some builtinsNs
 bp:ob.data= .plain
 sum:T.mg "sum"=none∧T.mb "sum"=some (.builtin "sum")
 empty: ∃t,T.mg "EMPTYSTRING"=some (.str (mk []) t)
section
variable {prog:Program}{w:World}{T:aX}{n:Nat}{a:fH}{gh:Ro}{x d:Addr}{ps:List PV}{σ σ':Led}{z:Int}{R:Addr→Led→Prop}
noncomputable abbrev wJ (z:Int):Obj→Prop:=fe [(("_initial_size":Str),some (.int z))]
theorem zJ {X:Cx}{A':Around}{t:Sem Fin}{ρ:Ro}{R:PV→Led→Prop}(h:Ev prog w {X with A:=A'} t ρ σ (fun fin s'=> ∃v,fin= .done (.ret v)∧ ∃p σ',R p σ'∧VR p v∧Inv {X with A:=A'} ρ σ' s')):
  Ev prog w {X with A:=A'} t ρ σ (fun fin s'=> ∃v,fin= .done (.ret v)∧ ∃p σ',R p σ'∧VR p v∧Inv X ρ σ' s'):=h.mono fun fin s' q=>by
 refine Q3 q fun v p σ' e r hv I'=> ?_
 exact⟨v,e,p,σ',r,hv,I'.Kd⟩
theorem rx {X:Cx}{ρ:Ro}{R:PV→Led→Prop}{K:PF→Ro→Led→Prop}{e:Expr}{pos:Pos}(h:GE prog w X e ρ σ R) (k: ∀v σ',R v σ'→K (.ret v) ρ σ'):S1 prog w X (.Return (some e) pos) ρ σ K:=fun s I=>
 wpAny_Return_some (wpAny_mono (h s I) (fun u s' q=>by
  refine jU q fun v σ' r hv I'=> ?_
  exact⟨_,_,_,k v σ' r,.ret hv,I'⟩) fun U U f=>f)
theorem Dv (D:mQ T a) {f s:List Nat}(hx:(x,isA a.C d ps)∈σ) (hm: ∀t,∃ak,Um x (isA a.C d ps) (isA a.C d (ps++[.ref t])) ((t,gG [.str f,.str s])::σ) ak∧R t ak) (hd:(d,wJ z)∈σ) (hn:ps.length≤16777216):
  Fn prog w T (n+1) (.ref a.push) [.ref x,.str f,.str s] σ (fun r σ'=>r= .none∧ ∃t,R t σ'):=
 cN D.push.fn ["self","fws","string"] [] (fun us hv=>⟨us,hv,fun kV doc pm an ct s U=>.of_eq (by refine K6 (Hq (hv.length.symm)) fun u0 u1 u2 ah=> ?_;subst ah;rfl)⟩) dC dC rfl dC rfl rfl rfl (fun A L g os O Y=>by
  show SE _ _ _ _ [(("self":Str),some (.ref x)),(("fws":Str),some (.str f)),(("string":Str),some (.str s))] σ _;refine af (ub O D.lk (ag Y 0 rfl) (gA hx hd) (by show (_:Str)∉[("_initial_size":Str)];decide) (iB rfl (fA (aQ (ag Y 1 rfl)) fun v σ' h=>fA (aQ (ag Y 2 rfl)) fun U U U=>gZ) (fun vs σ' h=>by refine DJ h fun v aD v2 ak ah U U U=> ?_;clear h;subst ah;simp)) hn (fun v σ' h=> ?_) rfl);obtain⟨t,vs,aD,rfl,rfl,v1,ak,r,rfl,⟨rfl,rfl⟩,v2,aR,r2,rfl,⟨rfl,rfl⟩,rfl,rfl⟩:=h;refine aF (hm t) fun gn hu hR=> ?_
  exact⟨gn,hu,aj ⟨rfl,t,hR⟩⟩)
theorem su (D:mQ T a) (S:u6 prog T a) (hx:(x,isA a.C d ps)∈σ):Fn prog w T (n+1) (.ref a.count) [.ref x] σ (fun r σ'=>r= .int ps.length∧σ'=σ):=
 lj D.count.fn ["self"] [] (fun us hv=>⟨us,hv,fun kV doc pm an ct s U=>.of_eq (by refine gF (kf (hv.length.symm)) fun u0 ah=> ?_;subst ah;rfl)⟩) dC dC rfl dC rfl rfl rfl (fun A L g os O Y=>
  yC (ko (ar:=((dh (AM 8)).args.headD default)) O D.lk.cls D.count.fn S.cell (S.code _ (by simp)) S.top S.glob.1 S.glob.2 S.third rfl rfl rfl rfl rfl (.head _) rfl C6 D.lk.lst D.lk.self S.len hx (.inl rfl) entry_list_len (by decide+kernel)
   (fun s I A' E' Q' h=>ED h) (zJ (IB hx))) (fun v σ' h=>h))
theorem Ha (D:mQ T a) (S:u6 prog T a) (hx:(x,isA a.C d ps)∈σ) (hd:(d,wJ z)∈σ) (hn:ps.length≤16000000) (hm: ∀qs p,ps=qs++[p]→ ∃ak,Um x (isA a.C d (qs++[p])) (isA a.C d qs) σ ak∧R' p ak) (h0:ps=[]→ ∀t,R' (.ref t) ((t,gG [.str [],.str []])::σ)):
  Fn prog w T (n+2) (.ref a.pop) [.ref x] σ R':=
 lj D.pop.fn ["self"] [] (fun us hv=>⟨us,hv,fun kV doc pm an ct s U=>.of_eq (by refine gF (kf (hv.length.symm)) fun u0 ah=> ?_;subst ah;rfl)⟩) dC dC rfl dC rfl rfl rfl (fun A L g os O Y=>by
  have bt:BE prog w ⟨A,envX "_Accumulator.pop" (ao (AM 3)) L a.pop (.ref a.cpop) [("__class__",a.cc)],L,L,g,os,(["self"]:List Str)++([]:List Str)⟩ (match (bodyOf (AM 3)).headD default with | .If t .. =>t | _=>default) [(("self":Str),some (.ref x))] σ (((ps.length:Nat):Int)==0):=
   bb (ir (R:=fun r σ'=>r= .int ps.length∧σ'=σ) (eU (k:=n+1) O rfl D.lk.cls D.count (ag Y 0 rfl) (gA hx hd) (by show (_:Str)∉[("_initial_size":Str)];decide) (bO Ap) (Nat.le_refl _) (fun vs σ' h=>by refine bo h fun h1 h2=> ?_;subst h1;rw[h2];exact su D S hx)) (fun v σ' h=>⟨h.1,h.2 ▸ .refl _⟩)) ai zV
  refine vk (bH bt (fun h=> ?_) (fun h=> ?_))
  ·have e:ps=[]:=by simpa using h
   exact af (rx (R:=fun r ak=> ∃t,r= .ref t∧ak=(t,gG [.str [],.str []])::σ) (VX.mono (iB rfl (fA (aQ aT) fun v σ' h=>fA (aQ aT) fun U U U=>gZ) (fun vs σ' h=>by refine DJ h fun v aD v2 ak ah U U U=> ?_;clear h;subst ah;simp)) (fun v σ' h=>by
    obtain⟨t,vs,aD,rfl,rfl,v1,ak,r,rfl,⟨rfl,rfl⟩,v2,aR,r2,rfl,⟨rfl,rfl⟩,rfl,rfl⟩:=h;exact⟨t,rfl,rfl⟩)) (fun v σ' h=>by refine aF h fun t ah aU=> ?_;clear h;subst ah;subst aU;exact h0 e t))
  ·have e:ps≠[]:=fun e=>by rw[e] at h;exact absurd h dC
   refine aF (hm ps.dropLast (ps.getLast e) (List.dropLast_concat_getLast e).symm) fun ak hu hR=> ?_
   have Kh:(x,isA a.C d (ps.dropLast++[ps.getLast e]))∈σ:=by rw[List.dropLast_concat_getLast];exact hx
   exact aj (yC (ko (ar:=((dh (AM 3)).args.headD default)) O D.lk.cls D.pop.fn S.cell (S.code _ (by simp)) S.top S.glob.1 S.glob.2 S.third rfl rfl rfl rfl rfl (.head _) rfl C5 D.lk.lst D.lk.self S.pop Kh (.inr rfl) F.entry_list_pop (by decide+kernel)
    (fun s I A' E' Q' h=>by
     refine aF (I.obj Kh) fun o ho po=> ?_
     exact EC (kg O I) D.lk.cls ho po.1 po.2.2.1.notCls S.typ S.qual S.Fx h) (zJ (Iz hu (by simp;exact Û hn)))) (fun v σ' h=>by refine bo h fun ah aU=> ?_;clear h;subst ah;subst aU;exact hR)))
theorem D1 (D:mQ T a) (S:u6 prog T a):Fn prog w T (n+1) (.ref a.init) [.ref x,.int z] ((x,isA a.C d [])::(d,fe [])::σ) (fun r σ'=>r= .none∧σ'=(x,isA a.C d [])::(d,wJ z)::σ):=
 lj D.init.fn ["self","initial_size"] [] (fun us hv=>⟨us,hv,fun kV doc pm an ct s XK=>by
  refine K5 D.vinit fun o k u e1 e2=> ?_
  refine xM (rS (hv.length.symm)) fun u0 u1 ah=> ?_;subst ah;exact binds_K XK rfl e1 e2 rfl rfl⟩) dC dC rfl dC rfl rfl rfl (fun A L g os O Y=>by
  show Ks _ _ _ _ _ [(("self":Str),some (.ref x)),(("initial_size":Str),some (.int z))] _ _;refine vk (dB O D.lk.cls (aQ (ag Y 1 rfl)) D.no (fun v σ' h=> ?_));refine bo h fun ah aU=> ?_;clear h;subst ah;subst aU
  refine⟨x,d,_,[],_,_,ag Y 0 rfl,gA (.head _) (.tail _ (.head _)),.new (by simp),.there .here,by simp,by simp,?_⟩;exact De (R:=fun r σ'=>σ'=(x,isA a.C d [])::(d,wJ z)::σ) (ko (ar:=((dh (AM 0)).args.headD default)) O D.lk.cls D.init.fn S.cell (S.code _ (by simp)) S.top S.glob.1 S.glob.2 S.third rfl rfl rfl rfl rfl (.head _) rfl yo D.lk.lst D.lk.self S.init (.head _) (.inl rfl) F.entry_list_init (by decide+kernel)
   (fun s I A' E' Q' h=>zY h) ((EI (.head _)).mono fun fin s' q=>by refine Q1 q fun v e I'=> ?_;exact⟨v,e,_,rfl,I'.Kd⟩)) (fun σ' h=>⟨rfl,h⟩))
noncomputable def wt (ts:List (Addr×List Nat×List Nat)) (j:Nat):Int:=((ts[j]?.map fun t=>((t.2.1.length+t.2.2.length:Nat):Int)).getD 0)
theorem y0 (D:mQ T a) (G:cS T) {bm:Addr}{ob:Obj}(H:ti T a bm ob) {ts:List (Addr×List Nat×List Nat)}(hx:(x,isA a.C d (ts.map fun t=>.ref t.1))∈σ) (hd:(d,wJ z)∈σ) (ht: ∀t∈ts,(t.1,gG [.str t.2.1,.str t.2.2])∈σ) (hP:(a.Plen,bX)∈σ)
  (hl: ∀t∈ts,t.2.1.length≤1000000∧t.2.2.length≤1000000) (hz:InLong z) (gC: ∀j,j<ts.length→InLong (wt ts j)∧InLong (z+preSum (wt ts) (j+1))):
  Fn prog w T (n+1) (.ref a.len) [.ref x] σ (fun r σ'=>r= .int (z+preSum (wt ts) ts.length)∧σ'=σ):=
 cN D.len.fn ["self"] [] (fun us hv=>⟨us,hv,fun kV doc pm an ct s U=>.of_eq (by refine gF (kf (hv.length.symm)) fun u0 ah=> ?_;subst ah;rfl)⟩) dC dC rfl dC rfl rfl rfl (fun A L g os O Y=>by
  show SE _ _ _ _ [(("self":Str),some (.ref x))] _ _;refine af (bf (v:=.int (z+preSum (wt ts) ts.length)) (fun s I=> ?_) ⟨rfl,rfl⟩);refine PyProof.Rows.Call_ (wpAny_mono ((aC O rfl H.sum.1 H.sum.2 dC) s I) (fun f s₁ q=> ?_) fun U U f=>f) rfl;refine bo q fun ah aS=> ?_;clear q;subst ah
  refine callWith_builtin rfl (evalArgs_plain (spliced_cons ?_));refine wpAny_mono (zK (P:=a.Plen) (ts:=ts.map fun t=>(t.1,.str t.2.1,.str t.2.2)) (F:=fun j y=> ∃t,y= .int (wt ts j) t) (Q:=fun v au=> ∃b,v= .ref b∧Inv _ _ σ au∧tj prog w _ σ b ts.length (fun j y=> ∃t,y= .int (wt ts j) t) au)
   O D.lk.cls D.lk.lst D.lk.it (ag Y 0 rfl) (by rw[List.map_map];exact hx) (by
    intro t h;refine aF (List.mem_map.mp h) fun t' h' ah=> ?_;subst ah
    exact ht t' h') hP rfl H.len H.bi H.bn H.bl H.bc H.bd H.bp rfl rfl dC rfl rfl rfl dC rfl
   (fun code C' A' E' i va vb au m₂ t hi U U U r1 r2 zc ea eb U gm bm=> ?_) (fun b gX qP J6=>⟨b,rfl,qP,by simpa using J6⟩) (fun U=>rfl) s₁ aS) (fun v au q=> ?_) fun U U f=>f
  ·rw[List.getElem?_map] at hi
   refine aF (Option.map_eq_some_iff.mp hi) fun t' h1 h2=> ?_
   subst h2;have hm:=List.mem_of_getElem? h1;have e:wt ts i=((t'.2.1.length:Int)+(t'.2.2.length:Int)):=by unfold wt;rw[h1];simp
   rw[e];exact Et rfl rfl rfl rfl rfl rfl rfl G.len.1 G.len.2 (by have:=(hl t' hm).1;exact Ag this) (by have:=(hl t' hm).2;exact Ag this) r1 r2 zc ea eb gm bm
  ·refine gR q fun b ah aH J7=> ?_;clear q;subst ah
   refine spliced_cons (IC O Y D.lk.cls (.head _) (gA hx hd) (.head _) D.no aH fun u hu=>spliced_nil ?_);refine vI hu fun t=> ?_
   exact wpAny_mono (Io (aH.tick _) (J7.tick (Nat.le_succ _)) hz gC) (fun u s' q=>q) fun U U f=>f)
noncomputable def tx (ts:List (Addr×List Nat×List Nat)) (j:Nat):List Nat:=((ts[j]?.map fun t=>t.2.1++t.2.2).getD [])
theorem yq (D:mQ T a) {bm:Addr}{ob:Obj}(H:ti T a bm ob) {ts:List (Addr×List Nat×List Nat)}(hx:(x,isA a.C d (ts.map fun t=>.ref t.1))∈σ) (ht: ∀t∈ts,(t.1,gG [.str t.2.1,.str t.2.2])∈σ) (hP:(a.Pstr,bX)∈σ)
  (hl: ∀t∈ts,t.2.1.length≤1000000∧t.2.2.length≤1000000) (hn:ts.length≤1000000) (HC:(((List.range ts.length).map (tx ts)).map (·.length)).sum≤1000000):
  Fn prog w T (n+1) (.ref a.str) [.ref x] σ (fun r σ'=>r= .str (aB [] ((List.range ts.length).map (tx ts)))∧σ'=σ):=
 cN D.str.fn ["self"] [] (fun us hv=>⟨us,hv,fun kV doc pm an ct s U=>.of_eq (by refine gF (kf (hv.length.symm)) fun u0 ah=> ?_;subst ah;rfl)⟩) dC dC rfl dC rfl rfl rfl (fun A L g os O Y=>by
  show SE _ _ _ _ [(("self":Str),some (.ref x))] _ _;refine gF H.empty fun te he=> ?_
  refine af (bf (v:=.str (aB [] ((List.range ts.length).map (tx ts)))) (fun s I=> ?_) ⟨rfl,rfl⟩);refine MethodCall_ (wpAny_mono ((cP O rfl he dC) s I) (fun f s₁ q=> ?_) fun U U f=>f) (by rfl);refine bo q fun ah aS=> ?_;clear q;subst ah
  refine GM.join (callWith_builtin rfl (evalArgs_plain (spliced_cons ?_)));refine wpAny_mono (zK (P:=a.Pstr) (ts:=ts.map fun t=>(t.1,.str t.2.1,.str t.2.2)) (F:=fun j y=> ∃t,y= .str (mk (tx ts j)) t) (Q:=fun v au=> ∃b,v= .ref b∧Inv _ _ σ au∧tj prog w _ σ b ts.length (fun j y=> ∃t,y= .str (mk (tx ts j)) t) au)
   O D.lk.cls D.lk.lst D.lk.it (ag Y 0 rfl) (by rw[List.map_map];exact hx) (by
    intro t h;refine aF (List.mem_map.mp h) fun t' h' ah=> ?_;subst ah
    exact ht t' h') hP rfl H.str H.bi H.bn H.bl H.bc H.bd H.bp rfl rfl dC rfl rfl rfl dC rfl
   (fun code C' A' E' i va vb au m₂ t hi U U U r1 r2 zc ea eb U gm bm=> ?_) (fun b gX qP J6=>⟨b,rfl,qP,by simpa using J6⟩) (fun U=>rfl) s₁ aS) (fun v au q=> ?_) fun U U f=>f
  ·rw[List.getElem?_map] at hi
   refine aF (Option.map_eq_some_iff.mp hi) fun t' h1 h2=> ?_
   subst h2;have hm:=List.mem_of_getElem? h1;have e:tx ts i=t'.2.1++t'.2.2:=by unfold tx;rw[h1];rfl
   rw[e];exact zL (p7:=⟨0,0,0,0⟩) rfl rfl rfl rfl rfl rfl rfl rfl he (by have:=hl t' hm;exact XG this.1 this.2) r1 r2 zc ea eb gm (by rfl)
  ·refine gR q fun b ah aH J7=> ?_;clear q;subst ah
   refine spliced_nil ?_
   exact wpAny_mono (EG aH J7 (EY hn) (by simp only[List.length_nil,Nat.mul_zero,Nat.add_zero];exact EY HC)) (fun u s' q=>q) fun U U f=>f)
noncomputable def isN:PV→Bool | .none=>true | _=>false
theorem zS {X:Cx}{ρ:Ro}(v:PV):Cm prog w X .Is v .none ρ σ (isN v):=fun u u' h1 h2 s I=>by
 refine vN h2 ?_
 refine PySem.is_none ⟨?_,I⟩;cases h1<;>rfl
theorem me (D:mQ T a) {A:Around}{L:Addr}{g:Heap}{os:OsState}{b:Addr}{qs:List PV}{ak aR:Led}{K:PF→Ro→Led→Prop}(O:cU T n ⟨A,envX "_Accumulator.reset" (ao (AM 6)) L a.reset a.vreset [],L,L,g,os,(["self","startval"]:List Str)++([]:List Str)⟩) (Y:Lay ⟨A,envX "_Accumulator.reset" (ao (AM 6)) L a.reset a.vreset [],L,L,g,os,(["self","startval"]:List Str)++([]:List Str)⟩)
  (hb:(b,az qs)∈σ) (dm:b≠x) (hm:Um x (isA a.C d ps) (isA a.C d qs) σ ak) (hz:Um d (wJ z) (wJ 0) ak aR) (hn:ps.length+qs.length≤16000000) (hk:K .next [(("self":Str),some (.ref x)),(("startval":Str),some (.ref b))] aR):
  SE prog w ⟨A,envX "_Accumulator.reset" (ao (AM 6)) L a.reset a.vreset [],L,L,g,os,(["self","startval"]:List Str)++([]:List Str)⟩ ((bodyOf (AM 6)).drop 1) [(("self":Str),some (.ref x)),(("startval":Str),some (.ref b))] σ K:=by
 refine af (jr (d:=d) (x:=x) (lo:=none) (hi:=none) O D.lk.cls D.lk.lst D.lk.vz D.lk.si (aQ (ag Y 1 rfl)) fun r aD h=> ?_);refine bo h fun ah aU=> ?_;clear h;subst ah;subst aU
 refine⟨b,ps,qs,qs,ak,rfl,hb,ag Y 0 rfl,bS,bS,hm,hn,by exact YF hn,?_,Ž⟩;refine af (dB O D.lk.cls (aQ ai) D.no (fun v σ' h=> ?_));refine bo h fun ah aU=> ?_;clear h;subst ah;subst aU
 exact⟨x,d,_,_,_,_,ag Y 0 rfl,gA hm.Rf hz.mem,.old .here,hz,by simp,by simp,aj hk⟩
theorem wo (D:mQ T a) {b:Addr}{qs:List PV}{ak aR:Led}(hb:(b,az qs)∈σ) (dm:b≠x) (hm:Um x (isA a.C d ps) (isA a.C d qs) σ ak) (hz:Um d (wJ z) (wJ 0) ak aR) (hn:ps.length+qs.length≤16000000):
  Fn prog w T (n+1) (.ref a.reset) [.ref x,.ref b] σ (fun r σ'=>r= .none∧σ'=aR):=
 cN D.reset.fn ["self","startval"] [] (fun us hv=>⟨us,hv,fun kV doc pm an ct s XK=>by
  refine mO D.GN fun o k e1 e2=> ?_
  refine xM (rS (hv.length.symm)) fun u0 u1 ah=> ?_;subst ah;exact binds_K XK rfl e1 e2 rfl rfl⟩) dC dC rfl dC rfl rfl rfl (fun A L g os O Y=>by
  show SE _ _ _ _ [(("self":Str),some (.ref x)),(("startval":Str),some (.ref b))] _ _;refine af (bH (bb (ag Y 1 rfl) k0 (zS _)) (fun h=>by cases h) (fun h=>aj ?_));exact me D O Y hb dm hm hz hn ⟨rfl,rfl⟩)
theorem wu (D:mQ T a) {ak aR:Led}(hm:Um x (isA a.C d ps) (isA a.C d []) σ ak) (hz:Um d (wJ z) (wJ 0) ak aR) (hn:ps.length≤16000000):
  Fn prog w T (n+1) (.ref a.reset) [.ref x] σ (fun r σ'=>r= .none∧ ∃b,σ'=(b,az [])::aR):=
 cN D.reset.fn (args':=[.ref x,.none]) ["self","startval"] [] (fun us hv=>⟨us++[.none],hv.append (.cons .none .nil),fun kV doc pm an ct s XK=>by
  refine mO D.GN fun o k e1 e2=> ?_
  refine gF (kf (hv.length.symm)) fun u0 ah=> ?_;subst ah;exact binds_K XK rfl e1 e2 rfl rfl⟩) dC dC rfl dC rfl rfl rfl (fun A L g os O Y=>by
  show SE _ _ _ _ [(("self":Str),some (.ref x)),(("startval":Str),some .none)] _ _;refine af (bH (bb (ag Y 1 rfl) k0 (zS _)) (fun h=> ?_) (fun h=>by cases h));refine af (du Y (P:=az []) (ρf:=fun b=>[(("self":Str),some (.ref x)),(("startval":Str),some (.ref b))]) (fV (lu rfl gZ (fun vs σ' h=>by rw[h.1];simp)) fun v σ' h=>by
   refine K7 h fun b aD ah aU CT=> ?_;clear h;subst ah;subst aU;subst CT
   exact⟨b,rfl,.refl _⟩) (fun b=>.there .here) (fun b hb=>aj ?_))
  exact me D O Y (.head _) (fun e=>hb (e ▸ List.mem_map_of_mem (f:=(·.1)) hm.mem)) (.there hm) (.there hz) (by simpa using hn) ⟨rfl,b,rfl⟩)
theorem Dw (D:mQ T a) {i:Nat}{ak:Led}(hi:i≤ps.length) (hm:Um x (isA a.C d ps) (isA a.C d (ps.take i)) σ ak) (hn:ps.length≤16000000):
  Fn prog w T (n+1) (.ref a.popf) [.ref x,.int i] σ (fun r σ'=> ∃b c,r= .ref b∧σ'=(c,az [])::(b,az (ps.drop i))::ak):=
 cN D.popf.fn ["self","i"] ["popped"] (fun us hv=>⟨us,hv,fun kV doc pm an ct s XK=>by
  refine K5 D.KA fun o k u e1 e2=> ?_
  refine xM (rS (hv.length.symm)) fun u0 u1 ah=> ?_;subst ah;exact binds_K XK rfl e1 e2 rfl rfl⟩) dC dC rfl dC rfl rfl rfl (fun A L g os O Y=>by
  show SE _ _ _ _ [(("self":Str),some (.ref x)),(("i":Str),some (.int i)),(("popped":Str),none)] _ _;have jC: ∀ρ σ pos,(("i":Str),some (PV.int i))∈ρ→xJ prog w _ (some (.Name ("i":Str) pos)) ρ σ (some (i:Int)):=fun ρ σ pos h=>aV (cW Y h)
  refine af (du Y (ρf:=fun b=>[(("self":Str),some (.ref x)),(("i":Str),some (.int i)),(("popped":Str),some (.ref b))]) (wD O D.lk.cls D.lk.lst D.lk.vz D.lk.gi (ag Y 0 rfl) hm.mem (jC _ _ _ (.tail _ (.head _))) bS (Ú hn)) (fun b=>.there (.there .here)) (fun b hb=> ?_));rw[ft];refine af (jr (d:=d) (x:=x) (lo:=some (i:Int)) (hi:=none) O D.lk.cls D.lk.lst D.lk.vz D.lk.si (lu rfl gZ (fun vs σ' h=>by rw[h.1];simp)) fun r aD h=> ?_);refine Hg h fun c ah aU=> ?_;clear h;subst ah;subst aU
  refine⟨c,ps,[],ps.take i,_,rfl,.head _,ag Y 0 rfl,jC _ _ _ (.tail _ (.head _)),bS,.there (.there hm),by simp;exact Ü hn,by simp;exact WQ hn,?_,SU hi rfl rfl⟩;exact af (bf (ag Y 2 rfl) ⟨b,c,rfl,rfl⟩))
def Kb (ts:List (Addr×List Nat×List Nat)):Int:=preSum (wt ts) ts.length
def KD (ts:List (Addr×List Nat×List Nat)):List Nat:=aB [] ((List.range ts.length).map (tx ts))
theorem DF (D:mQ T a) (G:cS T) (Gs:T.mg "str"=none∧T.mb "str"=some (.type "str")) (Hz:isFn T.K (.ref a.str)=true) {bm:Addr}{ob:Obj}(H:ti T a bm ob) {ts:List (Addr×List Nat×List Nat)}(hx:(x,isA a.C d (ts.map fun t=>.ref t.1))∈σ) (hd:(d,wJ z)∈σ) (ht: ∀t∈ts,(t.1,gG [.str t.2.1,.str t.2.2])∈σ) (hP:(a.Plen,bX)∈σ) (hQ:(a.Pstr,bX)∈σ)
  (hl: ∀t∈ts,t.2.1.length≤1000000∧t.2.2.length≤1000000) (hz:InLong z) (gC: ∀j,j<ts.length→InLong (wt ts j)∧InLong (z+preSum (wt ts) (j+1))) (hn:ts.length≤1000000) (HC:(((List.range ts.length).map (tx ts)).map (·.length)).sum≤1000000) (h0:0≤z+Kb ts) (h1:z+Kb ts<2^63):
  Fn prog w T (n+4) (.ref a.only) [.ref x] σ (fun r σ'=>r= .bool (z==0&&(!(z+Kb ts != 0)||Txt.isspace (mk (KD ts))))∧σ'=σ):=
 cN D.only.fn ["self"] [] (fun us hv=>⟨us,hv,fun kV doc pm an ct s U=>.of_eq (by refine gF (kf (hv.length.symm)) fun u0 ah=> ?_;subst ah;rfl)⟩) dC dC rfl dC rfl rfl rfl (fun A L g os O Y=>by
  show SE _ _ _ _ [(("self":Str),some (.ref x))] _ _;have O2:=O.le (show 2≤n+3 by exact ě);have O3:=O.le (show 3≤n+3 by exact Ě);refine af (bf (lh (fN (oE O D.lk.cls (ag Y 0 rfl) (gA hx hd) (.head _) D.no) ai zV) (fun U=>Hb (Hc (ag Y 0 rfl) (C0 (n:=1) O2 rfl (gA hx hd) D.len.kS D.lk.nb D.len.typ h0 h1 (y0 D G H hx hd ht hP hl hz gC))) (fun U=> ?_))) ⟨rfl,rfl⟩);refine gu (kb (aC O rfl Gs.1 Gs.2) (gQ (ag Y 0 rfl)) (z2 (n:=1) O3 rfl (gA hx hd) D.str.kS Hz (yq D H hx ht hQ hl hn HC))) (rP (fun x t s pl Q h=>GM.isspace h) _) Ap n6)
end
noncomputable def fQ (σ'' σ':Led):Prop:= ∃l:Led,l.Perm σ''∧l.Sublist σ'
theorem fQ.refl (σ:Led):fQ σ σ:=⟨σ,.refl _,.refl _⟩
theorem fQ.oH {σ'' σ':Led}(h:σ''.Sublist σ'):fQ σ'' σ':=⟨σ'',.refl _,h⟩
theorem fQ.dM {σ'' σ':Led}(h:σ'.Perm σ''):fQ σ'' σ':=⟨σ',h,.refl _⟩
section
variable {prog:Program}{w:World}{X:Cx}{ρ:Ro}{σ σ' σ'':Led}{T:aX}{n:Nat}
theorem Inv.fit {s:Shared}(I:Inv X ρ σ' s) (h:fQ σ'' σ'):Inv X ρ σ'' s:=by
 refine aF h fun l hp hs=> ?_
 exact(I.sub hs).perm hp
theorem Fn.fit {f:Value}{args:List PV}{R R':PV→Led→Prop}(h:Fn prog w T n f args σ R) (k: ∀v σ',R v σ'→ ∃σ'',fQ σ'' σ'∧R' v σ''):Fn prog w T n f args σ R':=fun X ρ s O e I us hv=>
 codeAny_mono (h X ρ s O e I us hv) fun r s' q=>by
  refine Bl q fun u pv σ' ah hR hu I'=> ?_;clear q;subst ah
  refine aF (k _ _ hR) fun σ'' hs MA=> ?_
  exact⟨u,pv,σ'',rfl,MA,hu,I'.fit hs⟩
theorem Fn.from {f:Value}{args:List PV}{R:PV→Led→Prop}(h:Fn prog w T n f args σ' R) (k:fQ σ' σ):Fn prog w T n f args σ R:=fun X ρ s O e I us hv=>h X ρ s O e (I.fit k) us hv
end
structure v7 where
 y:Addr
 dy:Addr
 l:Addr
 x:Addr
 d:Addr
 Plen:Addr
 Pstr:Addr
 CF:Addr
 C:Addr
def cn (F:v7) (maxlen:Int) (split:List Nat) (lines:List (List Nat)) (ts:List (Addr×List Nat×List Nat)) (z:Int):Led:=
 (F.y,y7 F.CF F.dy fM)::
 (F.dy,fe [(("_current_line":Str),some (.ref F.x)),(("_lines":Str),some (.ref F.l)),(("_splitchars":Str),some (.str split)),(("_continuation_ws_len":Str),some (.int 1)),(("_continuation_ws":Str),some (.str [32])),(("_maxlen":Str),some (.int maxlen))])::
 (F.l,az (aG lines))::(F.x,isA F.C F.d (ts.map fun t=>.ref t.1))::(F.d,fe [(("_initial_size":Str),some (.int z))])::(F.Plen,bX)::(F.Pstr,bX)::ts.map fun t=>(t.1,gG [.str t.2.1,.str t.2.2])
section
variable {prog:Program}{w:World}{X:Cx}{ρ:Ro}{σ σ' σ'':Led}{T:aX}{n:Nat}{K:PF→Ro→Led→Prop}
theorem SE.fit {l:List Stmt}(k:fQ σ' σ) (h:SE prog w X l ρ σ' K):SE prog w X l ρ σ K:=fun s I=>h s (I.fit k)
theorem fQ.cons {a:Led}{b:Led}(x:Addr×(Obj→Prop)) (h:fQ a b):fQ (x::a) (x::b):=by
 refine aF h fun l p s=> ?_
 exact⟨x::l,p.cons x,s.cons₂ x⟩
theorem fQ.skip {a:Led}{b:Led}(x:Addr×(Obj→Prop)) (h:fQ a b):fQ a (x::b):=by
 refine aF h fun l p s=> ?_
 exact⟨l,p,s.cons x⟩
end
structure gf where
 C:Addr
 cd:ClassData
 init:Addr
 str:Addr
 newline:Addr
 chunk:Addr
 vinit:Value
 vstr:Value
 vnewline:Value
 vchunk:Value
structure FmT (T:aX) (f:gf) (a:fH):Prop where
 cls:c9 T.K f.C f.cd
 no: ∀y∈([("_maxlen":Str),"_continuation_ws","_continuation_ws_len","_splitchars","_lines","_current_line"]:List Str),findIn T.K (.ref f.C) y=some none
 init:Mt T f.C "__init__" "_ValueFormatter.__init__" (FM 0) f.init [] f.vinit .none
 str:Mt T f.C "_str" "_ValueFormatter._str" (FM 1) f.str [] f.vstr .none
 newline:Mt T f.C "newline" "_ValueFormatter.newline" (FM 3) f.newline [] f.vnewline .none
 chunk:Mt T f.C "_append_chunk" "_ValueFormatter._append_chunk" (FM 8) f.chunk [] f.vchunk .none
 acc:T.mg "_Accumulator"=some (.ref a.C)
 sl:(T.K.lookup a.C).map (fun o=>(o.slots.toList[4]?).join)=some (some (.builtin "list.__new__"))
 del:a.cd.hasDel=false
 call:specialIn T.K (.ref a.C) "__call__"=some (some (.builtin "type.__call__"))
 inst:instIn T.K (.ref a.C) (.type "type")=some true
noncomputable abbrev Pr:=List Nat×List Nat
noncomputable def wS (l:List Pr):Nat:=(l.map fun t=>t.1.length+t.2.length).sum
noncomputable def tS (l:List Pr):List Nat:=(l.map fun t=>t.1++t.2).flatten
theorem tQ (ts:List (Addr×Pr)):KD ts=tS (ts.map (·.2)):=by
 unfold KD tS;rw[dN];congr 1;apply List.ext_getElem?;intro j;simp only[List.getElem?_map,List.map_map];by_cases hj:j<ts.length
 ·simp[hj,tx]
 ·simp[Nat.not_lt.mp hj]
theorem yd (ts:List (Addr×Pr)) (j:Nat):preSum (wt ts) j=(wS ((ts.take j).map (·.2)):Nat):=by
 have e:wt ts=fun i=>(ts.map fun t=>((t.2.1.length+t.2.2.length:Nat):Int)).getD i 0:=by
  funext i
  unfold wt;rw[List.getD_eq_getElem?_getD,List.getElem?_map]
 rw[e,preSum_getD,←List.map_take];unfold wS;rw[List.map_map];generalize ts.take j=l
 induction l with
 | nil=>rfl
 | cons t l ih=>simp only[List.map_cons,List.sum_cons,Function.comp_apply] at ih ⊢;rw[ih];exact Wj ih
theorem oi (ts:List (Addr×Pr)):Kb ts=(wS (ts.map (·.2)):Nat):=by
 unfold Kb;rw[yd,List.take_length]
noncomputable def cf (ts:List Pr):List Pr:=match ts.getLast? with
 | none=>[([],[])]
 | some p=>if p.1==[32]&&p.2==[] then ts.dropLast else ts
section
variable {prog:Program}{w:World}{T:aX}{n:Nat}{a:fH}{f:gf}{gh:Ro}{x d y dy:Addr}{ps:List PV}{σ σ':Led}{z:Int}{R:Addr→Led→Prop}
theorem zI (E:FmT T f a) (D:mQ T a) (S:u6 prog T a) (G:cS T) {hl ml:Int}{sp:List Nat}:Fn prog w T (n+3) (.ref f.init) [.ref y,.int hl,.int ml,.str [32],.str sp] ((y,y7 f.C dy fM)::(dy,fe [])::σ)
  (fun r σ'=>r= .none∧ ∃l x d,σ'=(x,isA a.C d [])::(d,wJ hl)::(l,az [])::(y,y7 f.C dy fM)::(dy,fe [(("_current_line":Str),some (.ref x)),(("_lines":Str),some (.ref l)),(("_splitchars":Str),some (.str sp)),(("_continuation_ws_len":Str),some (.int 1)),(("_continuation_ws":Str),some (.str [32])),(("_maxlen":Str),some (.int ml))])::σ):=
 cN E.init.fn ["self","headerlen","maxlen","continuation_ws","splitchars"] [] (fun us hv=>⟨us,hv,fun kV doc pm an ct s U=>.of_eq (by refine Q0 (Lh (hv.length.symm)) fun u0 u1 u2 u3 u4 ah=> ?_;subst ah;rfl)⟩) dC dC rfl dC rfl rfl rfl (fun A L g os O Y=>by
  show SE _ _ _ _ [(("self":Str),some (.ref y)),(("headerlen":Str),some (.int hl)),(("maxlen":Str),some (.int ml)),(("continuation_ws":Str),some (.str [32])),(("splitchars":Str),some (.str sp))] _ _;refine af (dB O E.cls (aQ (ag Y 2 rfl)) (E.no _ (by simp)) (fun v σ' h=> ?_));refine bo h fun ah aU=> ?_;clear h;subst ah;subst aU
  refine⟨y,dy,_,[],_,_,ag Y 0 rfl,mj (.head _) (.tail _ (.head _)),.new (by simp),.there .here,by simp,by simp,?_⟩;refine af (dB O E.cls (aQ (ag Y 3 rfl)) (E.no _ (by simp)) (fun v σ' h=> ?_));refine bo h fun ah aU=> ?_;clear h;subst ah;subst aU
  refine⟨y,dy,_,_,_,_,ag Y 0 rfl,mj (.head _) (.tail _ (.head _)),.new (by show (_:Str)∉[("_maxlen":Str)];decide),.there .here,by simp,by simp,?_⟩;refine af (dB O E.cls (aQ (bg (aC O rfl G.len.1 G.len.2) (gQ (ag Y 3 rfl)) (fj dC))) (E.no _ (by simp)) (fun v σ' h=> ?_));refine bo h fun ah aU=> ?_;clear h;subst ah;subst aU
  refine⟨y,dy,_,_,_,_,ag Y 0 rfl,mj (.head _) (.tail _ (.head _)),.new (by show (_:Str)∉[("_continuation_ws":Str),"_maxlen"];decide),.there .here,by show List.Nodup [("_continuation_ws":Str),"_maxlen"];decide,by simp,?_⟩;refine af (dB O E.cls (aQ (ag Y 4 rfl)) (E.no _ (by simp)) (fun v σ' h=> ?_));refine bo h fun ah aU=> ?_;clear h;subst ah;subst aU
  refine⟨y,dy,_,_,_,_,ag Y 0 rfl,mj (.head _) (.tail _ (.head _)),.new (by show (_:Str)∉[("_continuation_ws_len":Str),"_continuation_ws","_maxlen"];decide),.there .here,by show List.Nodup [("_continuation_ws_len":Str),"_continuation_ws","_maxlen"];decide,by simp,?_⟩;refine af (dB O E.cls (lu rfl gZ (fun vs σ' h=>by rw[h.1];simp)) (E.no _ (by simp)) (fun v σ' h=> ?_));refine Hg h fun l ah aU=> ?_;clear h;subst ah;subst aU
  refine⟨y,dy,_,_,_,_,ag Y 0 rfl,mj (.tail _ (.head _)) (.tail _ (.tail _ (.head _))),.new (by show (_:Str)∉[("_splitchars":Str),"_continuation_ws_len","_continuation_ws","_maxlen"];decide),.there (.there .here),by show List.Nodup [("_splitchars":Str),"_continuation_ws_len","_continuation_ws","_maxlen"];decide,by simp,?_⟩;refine af (dB O E.cls (Ej (n:=n+1) O rfl D.lk.cls (cP O rfl E.acc dC) E.sl E.del D.lk.self D.lk.lst E.call E.inst D.init.kS D.init.typ (ag Y 1 rfl) (fun x d=>(D1 (n:=n) D S (x:=x) (d:=d)).drop fun v σ' h=>⟨σ',.refl _,h⟩)) (E.no _ (by simp)) (fun v σ' h=> ?_));refine QS h fun x d ah aU=> ?_;clear h;subst ah;subst aU
  exact⟨y,dy,_,_,_,_,ag Y 0 rfl,mj (.tail _ (.tail _ (.tail _ (.head _)))) (.tail _ (.tail _ (.tail _ (.tail _ (.head _))))),.new (by show (_:Str)∉[("_lines":Str),"_splitchars","_continuation_ws_len","_continuation_ws","_maxlen"];decide),.there (.there (.there (.there .here))),by show List.Nodup [("_lines":Str),"_splitchars","_continuation_ws_len","_continuation_ws","_maxlen"];decide,by simp,aj ⟨rfl,l,x,d,rfl⟩⟩)
theorem yL (D:mQ T a) (S:u6 prog T a) {F:v7}{ml:Int}{sp:List Nat}{lines:List (List Nat)}{ts:List (Addr×Pr)}{z:Int}{rest:Led}(hC:F.C=a.C) (hn:ts.length≤1000):
  Fn prog w T (n+2) (.ref a.pop) [.ref F.x] (cn F ml sp lines ts z++rest) (fun v σ'=>(ts=[]∧ ∃t,v= .ref t∧σ'=(t,gG [.str [],.str []])::(cn F ml sp lines [] z++rest))∨ ∃i p,ts=i++[p]∧v= .ref p.1∧fQ ((p.1,gG [.str p.2.1,.str p.2.2])::(cn F ml sp lines i z++rest)) σ'):=by
 refine Ha D S (d:=F.d) (z:=z) (ps:=ts.map fun t=>.ref t.1) (by rw[←hC];exact .tail _ (.tail _ (.tail _ (.head _)))) (.tail _ (.tail _ (.tail _ (.tail _ (.head _))))) (by simp;exact I6 hn) (fun qs p e=> ?_) (fun e t=>.inl ⟨by simpa using e,t,rfl,by rw[show ts=[] by simpa using e]⟩);refine uk (List.map_eq_append_iff.mp e) fun i l ah hi hl=> ?_;subst ah
 obtain⟨p',rfl,rfl⟩: ∃p',l=[p']∧p= .ref p'.1:=by
  match l,hl with
  | [p'],hl=>exact⟨p',rfl,by simpa using hl.symm⟩
 subst hi;rw[←hC];have e:cn F ml sp lines (i++[p']) z++rest=(cn F ml sp lines (i++[p']) z).take 3++(F.x,isA F.C F.d (i.map (fun t=>PV.ref t.1)++[.ref p'.1]))::(F.d,fe [(("_initial_size":Str),some (.int z))])::(F.Plen,bX)::(F.Pstr,bX)::(i.map (fun t=>(t.1,gG [.str t.2.1,.str t.2.2]))++(p'.1,gG [.str p'.2.1,.str p'.2.2])::rest):=by simp[cn]
 rw[e];refine⟨_,.there (.there (.there .here)),.inr ⟨i,p',rfl,rfl,?_⟩⟩;refine .dM ?_
 exact(List.perm_middle (l₁:=(F.y,y7 F.CF F.dy fM)::(F.dy,_)::(F.l,az (aG lines))::(F.x,isA F.C F.d (i.map (fun t=>PV.ref t.1)))::(F.d,fe [(("_initial_size":Str),some (.int z))])::(F.Plen,bX)::(F.Pstr,bX)::i.map (fun t=>(t.1,gG [.str t.2.1,.str t.2.2]))))
theorem oz (D:mQ T a) {F:v7}{ml:Int}{sp:List Nat}{lines:List (List Nat)}{ts:List (Addr×Pr)}{z:Int}{rest:Led}{u v:List Nat}(hC:F.C=a.C) (hn:ts.length≤1000):
  Fn prog w T (n+1) (.ref a.push) [.ref F.x,.str u,.str v] (cn F ml sp lines ts z++rest) (fun r σ'=>r= .none∧ ∃t,fQ (cn F ml sp lines (ts++[(t,u,v)]) z++rest) σ'):=by
 have hm: ∀t,∃ak,Um F.x (isA a.C F.d (ts.map fun t=>.ref t.1)) (isA a.C F.d ((ts.map fun t=>.ref t.1)++[.ref t])) ((t,gG [.str u,.str v])::(cn F ml sp lines ts z++rest)) ak∧fQ (cn F ml sp lines (ts++[(t,u,v)]) z++rest) ak:=fun t=>by
  rw[←hC];refine⟨_,.there (.there (.there (.there .here))),.dM ?_⟩;have e:cn F ml sp lines (ts++[(t,u,v)]) z++rest=(cn F ml sp lines ts z).take 3++(F.x,isA F.C F.d ((ts.map fun t=>PV.ref t.1)++[.ref t]))::(F.d,fe [(("_initial_size":Str),some (.int z))])::(F.Plen,bX)::(F.Pstr,bX)::(ts.map (fun t=>(t.1,gG [.str t.2.1,.str t.2.2]))++(t,gG [.str u,.str v])::rest):=by simp[cn]
  rw[e]
  exact(List.perm_middle (l₁:=(F.y,y7 F.CF F.dy fM)::(F.dy,_)::(F.l,az (aG lines))::(F.x,isA F.C F.d ((ts.map fun t=>PV.ref t.1)++[.ref t]))::(F.d,fe [(("_initial_size":Str),some (.int z))])::(F.Plen,bX)::(F.Pstr,bX)::ts.map (fun t=>(t.1,gG [.str t.2.1,.str t.2.2])))).symm
 exact Dv D (z:=z) (by rw[←hC];exact .tail _ (.tail _ (.tail _ (.head _)))) hm (.tail _ (.tail _ (.tail _ (.tail _ (.head _))))) (by simp;exact xt hn)
structure Small (l:List Pr) (z:Nat):Prop where
 z:z≤1000000
 w:wS l≤1000000
 n:l.length≤1000
theorem iX {l:List Pr}{t:Pr}(h:t∈l):t.1.length+t.2.length≤wS l:=by
 induction l with
 | nil=>cases h
 | cons x l ih=>
  unfold wS at ih ⊢
  simp only[List.map_cons,List.sum_cons]
  rcases List.mem_cons.mp h with rfl | h
  ·exact VI
  ·have:=ih h;exact Tq this
theorem ji (l:List Pr) (k:Nat):wS (l.take k)≤wS l:=by
 induction l generalizing k with
 | nil=>simp[wS]
 | cons x l ih=>
  cases k with
  | zero=>simp[wS]
  | succ k=>
   have:=ih k
   unfold wS at this ⊢
   simp only[List.take_succ_cons,List.map_cons,List.sum_cons]
   exact Tz this
theorem jX (l:List Pr):(tS l).length=wS l:=by
 induction l with
 | nil=>rfl
 | cons x l ih=>
  unfold wS tS at ih ⊢
  simp only[List.map_cons,List.sum_cons,List.flatten_cons,List.length_append,ih]
theorem yk (ts:List (Addr×Pr)):(((List.range ts.length).map (tx ts)).map (·.length)).sum=wS (ts.map (·.2)):=by
 have e:=tQ ts;unfold KD at e
 rw[dN] at e
 have:=congrArg List.length e
 rw[List.length_flatten,jX] at this
 exact this
section
variable {F:v7}{ml:Int}{sp:List Nat}{lines:List (List Nat)}{ts:List (Addr×Pr)}{z:Nat}{rest:Led}
theorem jH: ∀t∈ts,(t.1,gG [.str t.2.1,.str t.2.2])∈cn F ml sp lines ts z++rest:=fun t ht=>by
 refine List.mem_append_left _ ?_
 exact .tail _ (.tail _ (.tail _ (.tail _ (.tail _ (.tail _ (.tail _ (List.mem_map_of_mem (f:=fun t:Addr×Pr=>(t.1,gG [.str t.2.1,.str t.2.2])) ht)))))))
theorem Hp (D:mQ T a) (G:cS T) {bm:Addr}{ob:Obj}(H:ti T a bm ob) (hC:F.C=a.C) (hP:F.Plen=a.Plen) (hs:Small (ts.map (·.2)) z):
  Fn prog w T (n+1) (.ref a.len) [.ref F.x] (cn F ml sp lines ts z++rest) (fun r σ'=>r= .int ((z+wS (ts.map (·.2)):Nat):Int)∧σ'=cn F ml sp lines ts z++rest):=by
 have h:=y0 (n:=n) (prog:=prog) (w:=w) (d:=F.d) (z:=(z:Int)) (x:=F.x) (σ:=cn F ml sp lines ts z++rest) D G H (ts:=ts) (by rw[←hC];exact .tail _ (.tail _ (.tail _ (.head _)))) (.tail _ (.tail _ (.tail _ (.tail _ (.head _))))) jH (by rw[←hP];exact .tail _ (.tail _ (.tail _ (.tail _ (.tail _ (.head _))))))
  (fun t ht=>by have:=iX (List.mem_map_of_mem (f:=fun t:Addr×Pr=>t.2) ht);have:=hs.w;omega) (by have:=hs.z;unfold InLong;exact Oc this) (fun j hj=>by
   have h1:=hs.w;have h2:=hs.z;constructor
   ·have:ts[j]? =some ts[j]:=List.getElem?_eq_getElem hj
    have h3:=iX (List.mem_map_of_mem (f:=fun t:Addr×Pr=>t.2) (List.getElem_mem hj));unfold wt;rw[this];simp only[Option.map_some,Option.getD_some];unfold InLong;omega
   ·rw[yd,List.map_take]
    have:=ji (ts.map (·.2)) (j+1)
    unfold InLong;exact M5 h1 h2 this)
 refine h.drop fun v σ' q=>⟨σ',.refl _,q.1.trans ?_,q.2⟩
 have e:=oi ts;unfold Kb at e
 rw[e];rfl
theorem G0 (D:mQ T a) {bm:Addr}{ob:Obj}(H:ti T a bm ob) (hC:F.C=a.C) (hP:F.Pstr=a.Pstr) (hs:Small (ts.map (·.2)) z):
  Fn prog w T (n+1) (.ref a.str) [.ref F.x] (cn F ml sp lines ts z++rest) (fun r σ'=>r= .str (tS (ts.map (·.2)))∧σ'=cn F ml sp lines ts z++rest):=by
 have h:=yq (n:=n) (prog:=prog) (w:=w) (d:=F.d) (x:=F.x) (σ:=cn F ml sp lines ts z++rest) D H (ts:=ts) (by rw[←hC];exact .tail _ (.tail _ (.tail _ (.head _)))) jH (by rw[←hP];exact .tail _ (.tail _ (.tail _ (.tail _ (.tail _ (.tail _ (.head _)))))))
  (fun t ht=>by have:=iX (List.mem_map_of_mem (f:=fun t:Addr×Pr=>t.2) ht);have:=hs.w;omega) (by have:=hs.n;simp at this;omega) (by rw[yk];exact hs.w)
 refine h.drop fun v σ' q=>⟨σ',.refl _,q.1.trans ?_,q.2⟩
 have e:=tQ ts;unfold KD at e
 rw[e]
theorem DG (D:mQ T a) (G:cS T) (Gs:T.mg "str"=none∧T.mb "str"=some (.type "str")) (Hz:isFn T.K (.ref a.str)=true) {bm:Addr}{ob:Obj}(H:ti T a bm ob) (hC:F.C=a.C) (hP:F.Plen=a.Plen) (hQ:F.Pstr=a.Pstr) (hs:Small (ts.map (·.2)) z):
  Fn prog w T (n+4) (.ref a.only) [.ref F.x] (cn F ml sp lines ts z++rest) (fun r σ'=>r= .bool (z==0&&(z+wS (ts.map (·.2))==0||Txt.isspace (mk (tS (ts.map (·.2))))))∧σ'=cn F ml sp lines ts z++rest):=by
 have h1:=hs.w;have h2:=hs.z;have h:=DF (n:=n) (prog:=prog) (w:=w) (d:=F.d) (z:=(z:Int)) (x:=F.x) (σ:=cn F ml sp lines ts z++rest) D G Gs Hz H (ts:=ts) (by rw[←hC];exact .tail _ (.tail _ (.tail _ (.head _)))) (.tail _ (.tail _ (.tail _ (.tail _ (.head _))))) jH (by rw[←hP];exact .tail _ (.tail _ (.tail _ (.tail _ (.tail _ (.head _)))))) (by rw[←hQ];exact .tail _ (.tail _ (.tail _ (.tail _ (.tail _ (.tail _ (.head _)))))))
  (fun t ht=>by have:=iX (List.mem_map_of_mem (f:=fun t:Addr×Pr=>t.2) ht);omega) (by unfold InLong;exact Oc h2) (fun j hj=>by
   constructor
   ·have:ts[j]? =some ts[j]:=List.getElem?_eq_getElem hj
    have h3:=iX (List.mem_map_of_mem (f:=fun t:Addr×Pr=>t.2) (List.getElem_mem hj));unfold wt;rw[this];simp only[Option.map_some,Option.getD_some];unfold InLong;omega
   ·rw[yd,List.map_take]
    have:=ji (ts.map (·.2)) (j+1)
    unfold InLong;exact M5 h1 h2 this) (by have:=hs.n;simp at this;omega) (by rw[yk];exact h1) (by rw[oi];exact Zj) (by rw[oi];exact WV h1 h2)
 refine h.drop fun v σ' q=>⟨σ',.refl _,q.1.trans ?_,q.2⟩
 rw[oi,tQ];have e1:((z:Int)==0)=(z==0):=by rw[Bool.eq_iff_iff];simp
 have e2:(!((z:Int)+(wS (ts.map (·.2)):Nat) != 0))=(z+wS (ts.map (·.2))==0):=by rw[Bool.eq_iff_iff];simp;exact ZA
 rw[e1,e2]
theorem wx (D:mQ T a) (hC:F.C=a.C) (hn:ts.length≤1000):Fn prog w T (n+1) (.ref a.reset) [.ref F.x] (cn F ml sp lines ts z++rest) (fun r σ'=>r= .none∧fQ (cn F ml sp lines [] 0++rest) σ'):=by
 have h:=wu (n:=n) (prog:=prog) (w:=w) (d:=F.d) (z:=(z:Int)) (x:=F.x) (ps:=ts.map fun t=>.ref t.1) (σ:=cn F ml sp lines ts z++rest) D (by rw[←hC];exact .there (.there (.there .here))) (.there (.there (.there (.there .here)))) (by simp;exact I6 hn);refine h.drop fun v σ' q=>⟨σ',.refl _,q.1,?_⟩
 refine gF q.2 fun b ah=> ?_;subst ah
 refine fQ.skip _ (.oH ?_);exact .cons₂ _ (.cons₂ _ (.cons₂ _ (.cons₂ _ (.cons₂ _ (.cons₂ _ (.cons₂ _ (List.sublist_append_right _ _)))))))
end
end
structure Gj (K:Frag) (f:Addr) (name:Str):Prop where
 get:specialIn K (.ref f) "__get__"=some (some (.builtin "function.__get__"))
 tk:takesIn K (.ref f)=some false
 fn:isFn K (.ref f)=true
 fnI:fnIn K f=true
 cp:copiedNames.contains name=false
noncomputable def DX (f x:Addr):Obj→Prop:=fun o=>o=methodObj (.ref f) (.ref x)
section
variable {prog:Program}{w:World}{X:Cx}{ρ bC bI:Ro}{σ σ' aD:Led}{T:aX}{n:Nat}{R R':PV→Led→Prop}{K:PF→Ro→Led→Prop}
variable {x C d:Addr}{cd:ClassData}{D:Data→Prop}{gh:Ro}{ps:List PV}
theorem Eh (O:cU T n X) (gy:X.FL=X.L) (Y:c9 T.K C cd) {o e:Expr}{name:Str}{f t:Addr}{apos p pos:Pos}{k:Nat}(SK:Gj T.K f name)
  (ho:PE prog w X o ρ σ (.ref x)) (B:oe X σ x C d D gh) (Eb:name∉gh.map (·.1)) (zj:findIn T.K (.ref C) name=some (some (.ref f)))
  (he: ∀q,PE prog w X e ρ ((q,DX f x)::σ) (.ref t)) (hm:At X σ t (gG ps)) (hn:ps.length≤16777216) (hk:k≤n) (hc: ∀q,Fn prog w T k (.ref f) (.ref x::ps) ((q,DX f x)::σ) R)
  (heq:eval (.Call (.Attribute o name apos) [.Starred e p] [] pos) X.env=(do let ov ←eval o X.env;standAt apos.atName;let g ←holding [ov] (do pure (←getAttr ov name true,([]:List Value)));callWith pos g.1 g.2 (backTo pos (starEach [.Starred e p] X.env)) []):=by rfl)
  (iL:starEach [.Starred e p] X.env=[(true,eval e X.env)]:=by rfl):GE prog w X (.Call (.Attribute o name apos) [.Starred e p] [] pos) ρ σ R:=fun s I=>by
 rw[heq];refine wpAny_bind (wpAny_mono (ho s I) (fun u s₁ q=> ?_) fun U U f=>f);refine bo q fun hu aS=> ?_
 refine vR hu ?_
 refine wpAny_bind (wpAny_standAt (wpAny_bind (wpAny_holding (wpAny_bind ?_))));refine xM (B.at_ aS) fun ox od IA=> ?_
 have XI:=kg O aS;refine Kf (B.inst aS) fun ox' RH h1 h2 h3 h4=> ?_
 refine aF (aS.obj B.MJ) fun od' RM pd=> ?_
 have Mu:hasDictIn T.K C=true:=by unfold hasDictIn;rw[Y.cls];show cd.hasDict=true;exact Y.dict
 have hl:lookIn name od=some none:=by
  have e1:=IA.dict;have e2:=IA.at_;rw[RH] at e2
  cases e2
  rw[h2] at e1
  have e1:s₁.heap.get? d=some od:=e1;rw[RM] at e1
  cases e1
  refine K1 pd fun m es ep r hd k1 u1 f1=> ?_
  exact oJ hd k1 ((f1 name).trans (r.yS Eb))
 refine Sv XI IA Y (findObj_fn Mu zj SK.get SK.tk SK.cp hl) (wpAny_call (fn_get (s:={s₁ with toks:=s₁.toks+1}) XI (beq_iff_eq.mp SK.fn) (handed_on rfl ?_)));have aH:=aS.push (P:=DX f x) (o:=methodObj (.ref f) (.ref x)) rfl rfl (tk:=s₁.toks+1);refine wpAny_pure ?_
 dsimp only at aH ⊢
 rw[iL];refine ks_call (P:=MethP T.K s₁.heap.objs.size f (.ref x)) rfl (keeps_M SK.fnI) ?_
 have ha:=E8 (X:=X) (ρ:=ρ) (σ:=(s₁.heap.objs.size,DX f x)::σ) (p:=p) (pos:=pos) (he _) (hm.imp (fun h=>.tail _ h) id) hn iL;have ha':=ha (.ref s₁.heap.objs.size) _ aH;rw[iL] at ha'
 refine wpAny_mono ha' (fun a c6 q=> ?_) fun U U f=>f.elim
 refine K9 q fun us vs ah aU de cg=> ?_;clear q;subst ah;subst aU
 refine mY (cg.obj (.head _)) fun hom=> ?_
 refine⟨⟨hom,kg O cg⟩,?_⟩;refine wpAny_call (method_call hom (codeAny_mono (hc _ X ρ c6 (O.le hk) gy cg (.ref x::us) (.cons (.ref _) de)) fun r s' q=> ?_));refine Bl q fun u' pv ak ah hR h1 h2=> ?_;clear q;subst ah
 exact⟨pv,ak,hR,h1,h2⟩
end
structure FK (prog:Program) (T:aX) (f:gf) (a:fH):Prop where
 E:FmT T f a
 D:mQ T a
 S:u6 prog T a
 G:cS T
 Gs:T.mg "str"=none∧T.mb "str"=some (.type "str")
 hs:isFn T.K (.ref a.str)=true
 H: ∃bm ob,ti T a bm ob
 star:Gj T.K a.push "push"
structure ie (F:v7) (f:gf) (a:fH):Prop where
 cF:F.CF=f.C
 C:F.C=a.C
 P:F.Plen=a.Plen
 Q:F.Pstr=a.Pstr
section
variable {prog:Program}{w:World}{T:aX}{n:Nat}{a:fH}{f:gf}{F:v7}{ml:Int}{sp:List Nat}{lines:List (List Nat)}{ts:List (Addr×Pr)}{z:Nat}{rest:Led}
theorem jc (A:ie F f a):(F.x,isA a.C F.d (ts.map fun t=>.ref t.1))∈cn F ml sp lines ts z++rest:=by rw[←A.C];exact .tail _ (.tail _ (.tail _ (.head _)))
theorem kl:(F.d,fe [(("_initial_size":Str),some (.int z))])∈cn F ml sp lines ts z++rest:=.tail _ (.tail _ (.tail _ (.tail _ (.head _))))
theorem H8:(F.l,az (aG lines))∈cn F ml sp lines ts z++rest:=.tail _ (.tail _ (.head _))
theorem eC {σ:Led}(B:FK prog T f a) (A:ie F f a) {X:Cx}{ρ:Ro}{p pos:Pos}{y:Str}{v:PV}(O:cU T n X) (Y:Lay X) (hs:(("self":Str),some (.ref F.y))∈ρ) (hy:(y,some v)∈([(("_current_line":Str),some (PV.ref F.x)),(("_lines":Str),some (.ref F.l)),(("_splitchars":Str),some (.str sp)),(("_continuation_ws_len":Str),some (.int 1)),(("_continuation_ws":Str),some (.str [32])),(("_maxlen":Str),some (.int ml))]:Ro))
  (hn:y∈([("_maxlen":Str),"_continuation_ws","_continuation_ws_len","_splitchars","_lines","_current_line"]:List Str)) (Hv: ∀q∈(cn F ml sp lines ts z).take 2,q∈σ)
  (he:eval (.Attribute (.Name "self" p) y pos) X.env=(do let u ←eval (.Name "self" p) X.env;standAt pos.atName;let r ←holding [u] (getAttr u y true);letTemporaryGo (.Name "self" p) u r;pure r):=by rfl):
  PE prog w X (.Attribute (.Name "self" p) y pos) ρ σ v:=by
 refine oE O B.E.cls (cW Y hs) (mj (d:=F.dy) ?_ ?_) hy (B.E.no _ hn) he
 ·rw[←A.cF];exact Hv _ (.head _)
 ·exact Hv _ (.tail _ (.head _))
theorem yZ (B:FK prog T f a) (A:ie F f a) {X:Cx}{ρ:Ro}{e:Expr}{x:Str}{p pos:Pos}{m:Nat}(O:cU T (m+2) X) (gy:X.FL=X.L) (he:PE prog w X e ρ (cn F ml sp lines ts z++rest) (.ref F.x)) (hs:Small (ts.map (·.2)) z) (hx:x="len") (hk:X.env.kindOf x=some .globalImplicit)
  (LL:starEach [e] X.env=[(false,eval e X.env)]):PE prog w X (.Call (.Name x p) [e] [] pos) ρ (cn F ml sp lines ts z++rest) (.int ((z+wS (ts.map (·.2)):Nat):Int)):=by
 refine K3 B.H fun bm ob H=> ?_
 subst hx;have h1:=hs.w;have h2:=hs.z;exact bg (aC O hk B.G.len.1 B.G.len.2) (gQ he LL) (Iq (n:=m+1) O gy (gA (jc A) kl) B.D.len.kS B.D.len.typ Zk (WW h1 h2) (Hp B.D B.G H A.C A.P hs)) (by rw[LL];rfl)
theorem yp (B:FK prog T f a) (A:ie F f a) {X:Cx}{ρ:Ro}{e:Expr}{x:Str}{p pos:Pos}{m:Nat}(O:cU T (m+3) X) (gy:X.FL=X.L) (he:PE prog w X e ρ (cn F ml sp lines ts z++rest) (.ref F.x)) (hs:Small (ts.map (·.2)) z) (hx:x="str") (hk:X.env.kindOf x=some .globalImplicit)
  (LL:starEach [e] X.env=[(false,eval e X.env)]):PE prog w X (.Call (.Name x p) [e] [] pos) ρ (cn F ml sp lines ts z++rest) (.str (tS (ts.map (·.2)))):=by
 refine K3 B.H fun bm ob H=> ?_
 subst hx;exact kb (aC O hk B.Gs.1 B.Gs.2) (gQ he LL) (z2 (n:=m+1) O gy (gA (jc A) kl) B.D.str.kS B.hs (G0 B.D H A.C A.Q hs)) (by rw[LL];rfl)
theorem gK (l:List (List Nat)) (x:List Nat):aG l++[.str x]=aG (l++[x]):=by simp[aG]
theorem jy (B:FK prog T f a) (A:ie F f a) {A':Around}{L:Addr}{g:Heap}{os:OsState}{o:PV}{R:PV→Led→Prop}(hs:Small (ts.map (·.2)) z) (lr:Txt.isspace (mk (tS (ts.map (·.2))))=false) (ib:0<z+wS (ts.map (·.2))) (jB:lines.length≤100000)
  (O:cU T (n+5) ⟨A',envX "_ValueFormatter.newline" (ao (FM 3)) L f.newline f.vnewline [],L,L,g,os,(["self"]:List Str)++(["end_of_line"]:List Str)⟩) (Y:Lay ⟨A',envX "_ValueFormatter.newline" (ao (FM 3)) L f.newline f.vnewline [],L,L,g,os,(["self"]:List Str)++(["end_of_line"]:List Str)⟩):
  SE prog w ⟨A',envX "_ValueFormatter.newline" (ao (FM 3)) L f.newline f.vnewline [],L,L,g,os,(["self"]:List Str)++(["end_of_line"]:List Str)⟩ ((bodyOf (FM 3)).drop 2) [(("self":Str),some (.ref F.y)),(("end_of_line":Str),some o)] (cn F ml sp lines ts z++rest)
   (fun f' U σ'=>f'.val= .none∧fQ (cn F ml sp (lines++[tS (ts.map (·.2))]) [] 0++rest) σ'):=by
 refine K3 B.H fun bm ob H=> ?_
 have L7:=hs.n;have FO:ts.length≤1000:=by simpa using L7
 have two: ∀{lines:List (List Nat)}{ts:List (Addr×Pr)}{z:Nat}{rest:Led},∀q∈(cn F ml sp lines ts z).take 2,q∈cn F ml sp lines ts z++rest:=fun q hq=>List.mem_append_left _ (List.mem_of_mem_take hq)
 refine af (bH (bb (yZ B A (m:=n+3) (O.le Ŝ) rfl (eC B A (lines:=lines) (ts:=ts) (z:=z) O Y (.head _) (.head _) (by simp) two) hs rfl rfl rfl) ai mG) (fun h=> ?_) (fun h=> ?_))
 ·refine af (bH (c:=false&&true) (dw (c:=false) (d:=true) ?_ (fun h=>by cases h)) (fun h=>by cases h) (fun U=> ?_))
  ·refine jL (ir (R:=fun r σ'=>r= .bool false∧σ'=cn F ml sp lines ts z++rest) (eU (k:=n+4) O rfl B.D.lk.cls B.D.only (eC B A (lines:=lines) (ts:=ts) (z:=z) O Y (.head _) (.head _) (by simp) two) (gA (jc A) kl) (by show (_:Str)∉[("_initial_size":Str)];decide) (bO Ap) ĳ (fun vs σ' h=> ?_)) (fun v σ' h=>⟨h.1,h.2 ▸ .refl _⟩));refine bo h fun h1 h2=> ?_
   subst h1;rw[h2]
   refine(DG B.D B.G B.Gs B.hs H A.C A.P A.Q hs).drop fun v σ' q=>⟨σ',.refl _,q.1.trans ?_,q.2⟩
   rw[lr]
   have:(z+wS (ts.map (·.2))==0)=false:=beq_eq_false_iff_ne.mpr (Yy ib)
   rw[this];simp
  ·refine af (eY (ps:=aG lines) (eC B A (lines:=lines) (ts:=ts) (z:=z) O Y (.head _) (.tail _ (.head _)) (by simp) two) (aQ (yp B A (m:=n+2) O rfl (eC B A (lines:=lines) (ts:=ts) (z:=z) O Y (.head _) (.head _) (by simp) two) hs rfl rfl rfl)) (fun v σ' h=> ?_) H8 (by simp[aG];exact Od jB));refine bo h fun ah aU=> ?_;clear h;subst ah;subst aU
   refine⟨cn F ml sp (lines++[tS (ts.map (·.2))]) ts z++rest,?_,?_⟩
   ·rw[gK];exact .there (.there .here)
   ·refine aj (aj (af (fu (R:=fun r σ'=>r= .none∧fQ (cn F ml sp (lines++[tS (ts.map (·.2))]) [] 0++rest) σ') (eU (k:=n+1) O rfl B.D.lk.cls B.D.reset (eC B A (lines:=lines++[tS (ts.map (·.2))]) (ts:=ts) (z:=z) O Y (.head _) (.head _) (by simp) two) (gA (jc A) kl) (by show (_:Str)∉[("_initial_size":Str)];decide) (bO Ap) OC (fun vs σ' h=> ?_)) (fun v σ' h=>⟨h.1,aj ⟨rfl,h.2⟩⟩))));refine bo h fun h1 h2=> ?_
    subst h1;rw[h2];exact wx B.D A.C FO
 ·have:=of_decide_eq_false h
  omega
theorem mm (B:FK prog T f a) (A:ie F f a) (hs:Small (cf (ts.map (·.2))) z) (hn:ts.length≤900) (lr:Txt.isspace (mk (tS (cf (ts.map (·.2)))))=false) (ib:0<z+wS (cf (ts.map (·.2)))) (jB:lines.length≤100000):
  Fn prog w T (n+6) (.ref f.newline) [.ref F.y] (cn F ml sp lines ts z++rest) (fun r σ'=>r= .none∧σ'=cn F ml sp (lines++[tS (cf (ts.map (·.2)))]) [] 0++rest):=
 Fn.fit (R:=fun r σ'=>r= .none∧fQ (cn F ml sp (lines++[tS (cf (ts.map (·.2)))]) [] 0++rest) σ') (cN B.E.newline.fn ["self"] ["end_of_line"] (fun us hv=>⟨us,hv,fun kV doc pm an ct s U=>.of_eq (by refine gF (kf (hv.length.symm)) fun u0 ah=> ?_;subst ah;rfl)⟩) dC dC rfl dC rfl rfl rfl (fun A' L g os O Y=>by
  show SE _ _ _ _ [(("self":Str),some (.ref F.y)),(("end_of_line":Str),none)] _ _;have two: ∀{lines:List (List Nat)}{ts:List (Addr×Pr)}{z:Nat}{rest:Led},∀q∈(cn F ml sp lines ts z).take 2,q∈cn F ml sp lines ts z++rest:=fun q hq=>List.mem_append_left _ (List.mem_of_mem_take hq)
  refine af (dc (R:=fun v σ'=> ∃t i u s',v= .ref t∧i.length≤ts.length∧cf (ts.map (·.2))=(if u==[32]&&s'==[] then i.map (·.2) else i.map (·.2)++[(u,s')])∧fQ ((t,gG [.str u,.str s'])::(cn F ml sp lines i z++rest)) σ')
   (eU (k:=n+2) O rfl B.D.lk.cls B.D.pop (eC B A (lines:=lines) (ts:=ts) (z:=z) O Y (.head _) (.head _) (by simp) two) (gA (jc A) kl) (by show (_:Str)∉[("_initial_size":Str)];decide) (bO Ap) ĵ (fun vs σ' h=> ?_)) (fun v σ' h=> ?_))
  ·refine bo h fun h1 h2=> ?_
   subst h1;rw[h2]
   refine(yL B.D B.S A.C (ZZ hn)).drop fun v σ' h=>⟨σ',.refl _,?_⟩
   rcases h with ⟨rfl,t,rfl,rfl⟩ | ⟨i,p,rfl,rfl,k⟩
   ·exact⟨t,[],[],[],rfl,Nat.le_refl _,rfl,.refl _⟩
   ·exact⟨p.1,i,p.2.1,p.2.2,rfl,by simp,by simp[cf],k⟩
  ·refine QZ h fun t i u s' ah hi wO gC=> ?_;clear h;subst ah
   refine⟨_,_,fun u' hu=>aq Y (.there .here) hu,?_⟩;refine SE.fit gC ?_
   refine af (bH (c:= !(u==[32]&&s'==[])) (vZ (ag Y 1 rfl) (b0 (fW (.cons aT (.cons aT .nil)))) (fun v σ' r=> ?_)) (fun h=> ?_) (fun h=> ?_))
   ·refine aF r fun b ah aU=> ?_;clear r;subst ah;subst aU
    exact⟨.cons _ (.refl _),Ij O (.inl (.tail _ (.head _))) (.inl (.head _))⟩
   ·have h':(u==[32]&&s'==[])=false:=by cases hq:(u==[32]&&s'==[])<;>simp_all
    rw[h',if_neg dC] at wO
    refine af (fu (R:=fun r σ'=>r= .none∧ ∃t',fQ (cn F ml sp lines (i++[(t',u,s')]) z++rest) σ') (Eh (k:=n+1) O rfl B.D.lk.cls B.star (eC B A (lines:=lines) (ts:=i) (z:=z) O Y (.head _) (.head _) (by simp) (fun q hq=>.tail _ (two q hq))) (gA (.tail _ (jc A)) (.tail _ kl)) (by show (_:Str)∉[("_initial_size":Str)];decide) B.D.push.kS (fun q=>ag Y 1 rfl) (.inl (.head _)) (by simp) OC (fun q=>Fn.from (oz B.D A.C (by omega)) (.oH (.cons _ (.cons _ (.refl _)))))) (fun v σ' h=>⟨h.1,?_⟩))
    ·refine gF h.2 fun t' ht'=> ?_
     have e:(i++[(t',u,s')]).map (·.2)=cf (ts.map (·.2)):=by rw[wO];simp
     refine aj (SE.fit ht' ?_)
     have:=jy (n:=n) (prog:=prog) (w:=w) (lines:=lines) (ts:=i++[(t',u,s')]) (z:=z) (rest:=rest) (ml:=ml) (sp:=sp) (R:=fun U U=>True) (o:=.ref t) B A (by rw[e];exact hs) (by rw[e];exact lr) (by rw[e];exact ib) jB O Y
     rw[e] at this
     exact this
   ·have h':(u==[32]&&s'==[])=true:=by cases hq:(u==[32]&&s'==[])<;>simp_all
    rw[h',if_pos rfl] at wO
    refine aj (SE.sub ?_ (.cons _ (.refl _)))
    have:=jy (n:=n) (prog:=prog) (w:=w) (lines:=lines) (ts:=i) (z:=z) (rest:=rest) (ml:=ml) (sp:=sp) (R:=fun U U=>True) (o:=.ref t) B A (by rw[←wO];exact hs) (by rw[←wO];exact lr) (by rw[←wO];exact ib) jB O Y
    rw[←wO] at this
    exact this)) (fun v σ' h=>⟨_,h.2,h.1,rfl⟩)
end
theorem fits_of {x:Int}(h1: -10000000≤x) (h2:x≤10000000):Builtin.Range.rangeFitsLong x=true:=by
 unfold Builtin.Range.rangeFitsLong;simp only[Bool.and_eq_true,decide_eq_true_eq];exact ź h1 h2
theorem yt {a b:Int}(h1: -1000000≤a) (h2:a≤1000000) (h3: -1000000≤b) (h4:b≤1000000):Builtin.Range.small a b (-1)=true:=by
 unfold Builtin.Range.small;have hr: -10000000≤Builtin.Range.rangeSize a b (-1)∧Builtin.Range.rangeSize a b (-1)≤10000000:=by
  unfold Builtin.Range.rangeSize;simp only[show ¬((-1:Int)>0) by decide,if_false];split<;>simp<;>omega
 simp only[show ¬((-1:Int)>0) by decide,if_false]
 rw[fits_of (xx h1) (xv h2),fits_of (xx h3) (xv h4),fits_of ar1 ard,fits_of hr.1 hr.2,fits_of (Ź h3) (ů h4)];simp
theorem dA {a b:Int}(h1: -1000000≤a) (h2:a≤1000000) (h3: -1000000≤b) (h4:b≤1000000):Builtin.Range.small a b 1=true:=by
 unfold Builtin.Range.small;have hr: -10000000≤Builtin.Range.rangeSize a b 1∧Builtin.Range.rangeSize a b 1≤10000000:=by
  unfold Builtin.Range.rangeSize;simp only[show ((1:Int)>0) by decide,if_true];split<;>simp<;>omega
 simp only[show ((1:Int)>0) by decide,if_true]
 rw[fits_of (xx h1) (xv h2),fits_of (xx h3) (xv h4),fits_of ar2 arh,fits_of hr.1 hr.2,fits_of (Ÿ h3) (Ů h4)];simp
theorem last_eq (l:List Nat) (ch:Nat):((!l.isEmpty)&&(([dD l (-1)]==[ch])&&true))=(l.getLast? ==some ch):=by
 rcases List.eq_nil_or_concat l with rfl | ⟨r,x,rfl⟩
 ·rfl
 ·have e:dD (r++[x]) (-1)=x:=by
   unfold dD
   have:((-1:Int)+((r++[x]).length:Nat)).toNat=r.length:=by simp;exact ŀ
   rw[if_pos dC,this];simp[List.getD_eq_getElem?_getD]
  rw[List.concat_eq_append,e];simp
theorem Eg (l:List Nat) (ch:Nat):((!l.isEmpty)&&(([dD l 0]==[ch])&&true))=(l.head? ==some ch):=by
 cases l with
 | nil=>rfl
 | cons x r=>
  have e:dD (x::r) 0=x:=by unfold dD;simp
  rw[e];simp
def wQ (ts:List Pr) (ch i:Nat):Bool:=(Txt.isspace (mk [ch])&&(ts.getD i ([],[])).1.head? ==some ch)||(ts.getD (i-1) ([],[])).2.getLast? ==some ch
def f7 (ts:List Pr) (ch:Nat):Nat→Option Nat
 | 0=>none
 | k+1=>if wQ ts ch (k+1) then some (k+1) else f7 ts ch k
def dR (ts:List Pr):List Nat→Option Nat
 | []=>none
 | ch::r=>match f7 ts ch (ts.length-1) with | some i=>some i | none=>dR ts r
theorem sk (ts:List Pr) (ch:Nat): ∀k i,f7 ts ch k=some i→1≤i∧i≤k
 | 0,i,h=>by cases h
 | k+1,i,h=>by
  unfold f7 at h
  split at h
  ·cases h;exact Ō
  ·have:=sk ts ch k i h;exact Ys this.1 this.2
theorem sm (ts:List Pr): ∀sp i,dR ts sp=some i→1≤i∧i≤ts.length-1
 | [],i,h=>by cases h
 | ch::r,i,h=>by
  unfold dR at h
  split at h
  ·rename_i j hj
   cases h
   exact sk _ _ _ _ hj
  ·exact sm ts r i h
def dG (lines:List (List Nat)) (ts:List Pr) (z:Nat) (ml:Int) (sp:List Nat) (u s:List Nat):List (List Nat)×List Pr×Nat:=
 if ((z+wS (ts++[(u,s)]):Nat):Int)≤ml then (lines,ts++[(u,s)],z)
 else match dR (ts++[(u,s)]) sp with
  | some i=>(lines++[tS ((ts++[(u,s)]).take i)],(ts++[(u,s)]).drop i,0)
  | none=>if z=0 then (lines,ts++[(u,s)],0) else (lines++[tS (cf ts)],[(if u=[] then [32] else u,s)],0)
section
variable {prog:Program}{w:World}{X:Cx}{ρ:Ro}{σ:Led}{K:PF→Ro→Led→Prop}
theorem lR {pos:Pos}(k:K .brk ρ σ):S1 prog w X (.Break pos) ρ σ K:=fun s I=>wpAny_Break ⟨_,_,_,k,.brk,I⟩
theorem Di {pos:Pos}(k:K .cont ρ σ):S1 prog w X (.Continue pos) ρ σ K:=fun s I=>wpAny_Continue ⟨_,_,_,k,.cont,I⟩
end
noncomputable abbrev ue (y:Addr) (fw:List Nat) (s:List Nat) (c i pp pt rm:Option PV):Ro:=[(("self":Str),some (.ref y)),(("fws":Str),some (.str fw)),(("string":Str),some (.str s)),(("ch":Str),c),(("i":Str),i),(("prevpart":Str),pp),(("part":Str),pt),(("remainder":Str),rm)]
abbrev sx (f:gf) (A':Around) (L:Addr) (g:Heap) (os:OsState):Cx:=⟨A',envX "_ValueFormatter._append_chunk" (ao (FM 8)) L f.chunk f.vchunk [],L,L,g,os,(["self","fws","string"]:List Str)++(["ch","i","prevpart","part","remainder"]:List Str)⟩
def MR:Stmt:=cx (bodyOf (FM 8)) 1
noncomputable def y9:Stmt→List Stmt | .If _ b _ _=>b | _=>[]
noncomputable def iM:Stmt→List Stmt | .For _ _ b _ _=>b | _=>[]
noncomputable def oQ:Stmt→List Stmt | .For _ _ _ e _=>e | _=>[]
def sy:Stmt:=cx (y9 MR) 0
def y8:Stmt:=cx (iM sy) 0
section
variable {prog:Program}{w:World}{T:aX}{n:Nat}{a:fH}{f:gf}{F:v7}{ml:Int}{sp:List Nat}{lines:List (List Nat)}{ts:List (Addr×Pr)}{z:Nat}{rest:Led}
theorem fg {σ:Led}(h:(cn F ml sp lines ts z++rest).Sublist σ): ∀q∈(cn F ml sp lines ts z).take 2,q∈σ:=fun q hq=>h.mem (List.mem_append_left _ (List.mem_of_mem_take hq))
theorem nS (ts:List (Addr×Pr)) (i:Nat) (h:i<ts.length):(ts.map (·.2)).getD i ([],[])=(ts[i]).2:=by
 rw[List.getD_eq_getElem?_getD,List.getElem?_map,List.getElem?_eq_getElem h];rfl
theorem vw (B:FK prog T f a) (A:ie F f a) {X:Cx}{ρ:Ro}{σ:Led}{e1 e2 e3:Expr}{p1 p2:Pos}{i k:Nat}{v:PV}(O:cU T n X) (Hv:(cn F ml sp lines ts z++rest).Sublist σ) (h1:PE prog w X e1 ρ σ (.ref F.x)) (h2:PE prog w X e2 ρ σ (.int i)) (h3:PE prog w X e3 ρ σ (.int k)) (hi:i<ts.length) (hn:ts.length≤1000)
  (hk:([PV.str (ts[i]).2.1,.str (ts[i]).2.2])[k]? =some v) (hs2: ∀x y,subscripted e2 false x y=operate [x,y] (getItem x y)) (hs3: ∀x y,subscripted e3 false x y=operate [x,y] (getItem x y)):
  PE prog w X (.Subscript (.Subscript e1 e2 p1) e3 p2) ρ σ v:=by
 refine yN (a:=(ts[i]).1) (ps:=[PV.str (ts[i]).2.1,.str (ts[i]).2.2]) (yO O B.D.lk.cls B.D.lk.lst B.D.lk.vz B.D.lk.gi h1 (Hv.mem (jc A)) h2 sH (by simp;exact Yg hi) (by simp;exact xt hn) ?_ hs2) (.inl (Hv.mem (jH _ (List.getElem_mem hi)))) h3 hk (by simp) hs3;unfold cB;rw[if_neg Ae];simp[List.getD_eq_getElem?_getD,List.getElem?_eq_getElem hi]
theorem wM (B:FK prog T f a) (A:ie F f a) {A':Around}{L:Addr}{g:Heap}{os:OsState}{K:PF→Ro→Led→Prop}{e0:Addr×(Obj→Prop)}{fw s:List Nat}{io pp:Option PV}{ch:Nat}(uB:0<ts.length) (hn:ts.length≤1000) (hw:wS (ts.map (·.2))≤1000000)
  (O:cU T (n+7) (sx f A' L g os)) (Y:Lay (sx f A' L g os))
  (hf: ∀i fw pp σ',f7 (ts.map (·.2)) ch (ts.length-1)=some i→(e0::(cn F ml sp lines ts z++rest)).Sublist σ'→K .next (ue F.y fw s (some (.str [ch])) (some (.int i)) pp none none) σ')
  (L7: ∀fw io pp,f7 (ts.map (·.2)) ch (ts.length-1)=none→K .cont (ue F.y fw s (some (.str [ch])) io pp none none) (e0::(cn F ml sp lines ts z++rest))):
  S1 prog w (sx f A' L g os) y8 (ue F.y fw s (some (.str [ch])) io pp none none) (e0::(cn F ml sp lines ts z++rest)) K:=by
 have Qf:(cn F ml sp lines ts z++rest).Sublist (e0::(cn F ml sp lines ts z++rest)):=.cons _ (.refl _);have cur: ∀{σ:Led}{ρ:Ro}{p pos:Pos},(cn F ml sp lines ts z++rest).Sublist σ→(("self":Str),some (.ref F.y))∈ρ→PE prog w (sx f A' L g os) (.Attribute (.Name "self" p) "_current_line" pos) ρ σ (.ref F.x):=fun h hs=>eC B A (lines:=lines) (ts:=ts) (z:=z) O Y hs (.head _) (by simp) (fg h)
 have ha:((ts.length:Nat):Int)-1=((ts.length-1:Nat):Int):=Oz uB;refine oo (ts.length-1) (fun j=>.int (((ts.length-1:Nat):Int)-j)) (Fw ((ts.length-1:Nat):Int) 0)
  (fun j ρ σ=>σ=e0::(cn F ml sp lines ts z++rest)∧ ∃fw io pp,ρ=ue F.y fw s (some (.str [ch])) io pp none none∧f7 (ts.map (·.2)) ch (ts.length-1-j)=f7 (ts.map (·.2)) ch (ts.length-1))
  ?_ ⟨rfl,fw,io,pp,rfl,rfl⟩ ?_ ?_ ?_ ?_
 ·refine DV (aC O rfl B.G.range.1 B.G.range.2) ?_ ai (eO ai) ?_ ?_
  ·rw[←ha];refine fY (ir (R:=fun r σ'=>r= .int ts.length∧σ'=e0::(cn F ml sp lines ts z++rest)) (eU (k:=n+1) O rfl B.D.lk.cls B.D.count (cur Qf (.head _)) (gA (.tail _ (jc A)) (.tail _ kl)) (by show (_:Str)∉[("_initial_size":Str)];decide) (bO Ap) Aj (fun vs σ' h=> ?_)) (fun v σ' h=>⟨h.1,h.2 ▸ .refl _⟩)) ai;refine bo h fun h1 h2=> ?_
   subst h1;rw[h2]
   refine(su B.D B.S (.tail _ (jc A))).drop fun v σ' q=>⟨σ',.refl _,q.1.trans ?_,q.2⟩
   simp
  ·exact yt œ (ë hn) OD NR
  ·exact gv dC
 ·rintro I j ρ σ hj ⟨rfl,_⟩
  exact(nC (a:=((ts.length-1:Nat):Int)) (b:=0) (k:=ts.length-1) (by unfold Builtin.Range.rangeSize;simp;exact OL)).nx _ I j _ O.hh hj trivial
 ·rintro I ρ σ ⟨rfl,_⟩
  exact(nC (a:=((ts.length-1:Nat):Int)) (b:=0) (k:=ts.length-1) (by unfold Builtin.Range.rangeSize;simp;exact OL)).nd _ I _ O.hh trivial
 ·rintro I j ρ σ hj ⟨rfl,fw,io,pp,rfl,Ed⟩ hI;refine⟨_,_,fun u hu=>aq Y (.there (.there (.there (.there .here)))) hu,?_⟩;have r5: ∀t∈ts,t.2.1.length≤1000000∧t.2.2.length≤1000000:=fun t ht=>by have:=iX (List.mem_map_of_mem (f:=fun t:Addr×Pr=>t.2) ht);exact Uw hw this
  obtain⟨idx,HH⟩: ∃idx,idx=ts.length-1-j:=⟨_,rfl⟩;have hx:((ts.length-1:Nat):Int)-(j:Int)=(idx:Int):=U8 hj HH;have hi1:1≤idx:=U7 hj HH;have PB:idx<ts.length:=Wf hx hi1;have Kl:idx-1<ts.length:=Yi PB;rw[←HH] at Ed
  have zk:f7 (ts.map (·.2)) ch idx=if wQ (ts.map (·.2)) ch idx then some idx else f7 (ts.map (·.2)) ch (idx-1):=by
   cases idx with
   | zero=>omega
   | succ k=>rw[f7];rfl
  have g1:=nS ts idx PB;have g2:=nS ts (idx-1) Kl;have HI:wQ (ts.map (·.2)) ch idx=((Txt.isspace (mk [ch])&&(ts[idx]).2.1.head? ==some ch)||(ts[idx-1]).2.2.getLast? ==some ch):=by unfold wQ;rw[g1,g2]
  have C7:(cn F ml sp lines ts z++rest).Sublist ((I,Fw ((ts.length-1:Nat):Int) 0 I (j+1))::e0::(cn F ml sp lines ts z++rest)):=.cons _ (.cons _ (.refl _));show SE _ _ _ (iM y8) (ue F.y fw s (some (.str [ch])) (some (.int (((ts.length-1:Nat):Int)-j))) pp none none) _ _;rw[hx];have tail: ∀fw,(Txt.isspace (mk [ch])&&(ts[idx]).2.1.head? ==some ch)=false→SE prog w (sx f A' L g os) ((iM y8).drop 1) (ue F.y fw s (some (.str [ch])) (some (.int idx)) pp none none) ((I,Fw ((ts.length-1:Nat):Int) 0 I (j+1))::e0::(cn F ml sp lines ts z++rest))
    (jR K fun eJ ak=> ∃aR,(aR=e0::(cn F ml sp lines ts z++rest)∧ ∃fw io pp,eJ=ue F.y fw s (some (.str [ch])) io pp none none∧f7 (ts.map (·.2)) ch (ts.length-1-(j+1))=f7 (ts.map (·.2)) ch (ts.length-1))∧((I,Fw ((ts.length-1:Nat):Int) 0 I (j+1))::aR).Sublist ak):=by
   intro fw h0;refine af (aI Y (vw B A (i:=idx-1) (k:=1) (v:=.str (ts[idx-1]).2.2) O C7 (cur C7 (.head _)) (by rw[show ((idx-1:Nat):Int)=(idx:Int)-1 by exact Ğ hi1];exact fY (ag Y 4 rfl) ai) ai Kl hn rfl (by intro _ _;rfl) (by intro _ _;rfl)) (.there (.there (.there (.there (.there .here))))) ?_);have hp:=(r5 _ (List.getElem_mem Kl)).2;refine af (bH (c:=(ts[idx-1]).2.2.getLast? ==some ch) ?_ (fun h=> ?_) (fun h=>aj (aj ?_)))
   ·rw[←last_eq];refine dw (eH (ag Y 5 rfl) (fun u s h I=>lF (Ag hp) u s h I)) (fun dm=>dw (bb (eP (ag Y 5 rfl) (eO ai) ?_ ?_ (EY hp)) (ag Y 3 rfl) gD) (fun U=>iP))
    ·cases hq:(ts[idx-1]).2.2 with
     | nil=>rw[hq] at dm;cases dm
     | cons x r=>simp;exact Ņ
    ·cases hq:(ts[idx-1]).2.2 with
     | nil=>rw[hq] at dm;cases dm
     | cons x r=>simp;exact ő
   ·exact af (lR (hf idx _ _ _ (by rw[←Ed,zk,if_pos (by rw[HI,h,Bool.or_true])]) (.cons _ (.refl _))))
   ·refine⟨_,⟨rfl,fw,_,_,rfl,?_⟩,.refl _⟩;rw[show ts.length-1-(j+1)=idx-1 by exact Wg hx,←Ed,zk,if_neg (by rw[HI,h,h0];decide)]
  refine af (bH (c:=Txt.isspace (mk [ch])) (jL (gu (ag Y 3 rfl) (rP (fun x t s pl Q h=>GM.isspace h) _) Ap n6)) (fun hs=> ?_) (fun hs=>aj (tail fw (by rw[hs];rfl))));refine af (aI Y (vw B A (i:=idx) (k:=0) (v:=.str (ts[idx]).2.1) O C7 (cur C7 (.head _)) (ag Y 4 rfl) ai PB hn rfl (by intro _ _;rfl) (by intro _ _;rfl)) (.there .here) ?_);have hp:=(r5 _ (List.getElem_mem PB)).1;refine af (bH (c:=(ts[idx]).2.1.head? ==some ch) ?_ (fun h=> ?_) (fun h=>aj (aj (tail _ (by rw[hs,h];rfl)))))
  ·rw[←Eg];refine dw (eH (ag Y 1 rfl) (fun u s h I=>lF (Ag hp) u s h I)) (fun dm=>dw (bb (eP (ag Y 1 rfl) ai ?_ ?_ (EY hp)) (ag Y 3 rfl) gD) (fun U=>iP))
   ·exact Ak
   ·cases hq:(ts[idx]).2.1 with
    | nil=>rw[hq] at dm;cases dm
    | cons x r=>simp
  ·exact af (lR (hf idx _ _ _ (by rw[←Ed,zk,if_pos (by rw[HI,hs,h];rfl)]) (.cons _ (.refl _))))
 ·rintro ρ σ ⟨rfl,fw,io,pp,rfl,Ed⟩;rw[Nat.sub_self] at Ed
  exact af (Di (L7 fw io pp Ed.symm))
theorem wB (B:FK prog T f a) (A:ie F f a) {A':Around}{L:Addr}{g:Heap}{os:OsState}{K:PF→Ro→Led→Prop}{fw s:List Nat}(uB:0<ts.length) (hn:ts.length≤1000) (hw:wS (ts.map (·.2))≤1000000)
  (O:cU T (n+7) (sx f A' L g os)) (Y:Lay (sx f A' L g os))
  (hf: ∀i fw c pp σ',dR (ts.map (·.2)) sp=some i→(cn F ml sp lines ts z++rest).Sublist σ'→K .next (ue F.y fw s c (some (.int i)) pp none none) σ')
  (L7: ∀fw c io pp,dR (ts.map (·.2)) sp=none→SE prog w (sx f A' L g os) (oQ sy) (ue F.y fw s c io pp none none) (cn F ml sp lines ts z++rest) K):
  S1 prog w (sx f A' L g os) sy (ue F.y fw s none none none none none) (cn F ml sp lines ts z++rest) K:=by
 have hlen:(ts.map (·.2)).length=ts.length:=by simp
 refine oo sp.length (fun i=>.str [sp.getD i 0]) (stI sp)
  (fun i ρ σ=>σ=cn F ml sp lines ts z++rest∧ ∃fw c io pp,ρ=ue F.y fw s c io pp none none∧dR (ts.map (·.2)) (sp.drop i)=dR (ts.map (·.2)) sp)
  (y4 (eC B A (lines:=lines) (ts:=ts) (z:=z) O Y (.head _) (.tail _ (.tail _ (.head _))) (by simp) (fg (.refl _)))) ⟨rfl,fw,none,none,none,rfl,rfl⟩ ?_ ?_ ?_ ?_
 ·rintro I j ρ σ hj ⟨rfl,_⟩;exact lO.nx _ I j _ O.hh hj trivial
 ·rintro I ρ σ ⟨rfl,_⟩;exact lO.nd _ I _ O.hh trivial
 ·rintro I j ρ σ hj ⟨rfl,fw,c,io,pp,rfl,F1⟩ hI;refine⟨_,_,fun u hu=>aq Y (.there (.there (.there .here))) hu,?_⟩;have hd:sp.drop j=sp.getD j 0::sp.drop (j+1):=by
   rw[List.drop_eq_getElem_cons hj,List.getD_eq_getElem?_getD,List.getElem?_eq_getElem hj];rfl
  rw[hd,dR,hlen] at F1
  refine af (wM B A uB hn hw O Y (fun i fw pp σ' h hs=> ?_) (fun fw io pp h=> ?_))
  ·rw[h] at F1
   exact af (lR (hf i fw _ pp σ' F1.symm (.trans (.cons _ (.refl _)) hs)))
  ·rw[h] at F1
   exact⟨_,⟨rfl,fw,_,io,pp,rfl,F1⟩,.refl _⟩
 ·rintro ρ σ ⟨rfl,fw,c,io,pp,rfl,F1⟩;rw[List.drop_of_length_le (Nat.le_refl _)] at F1
  exact L7 fw c io pp F1.symm
theorem Fn.nodup {f:Value}{args:List PV}{σ:Led}{R:PV→Led→Prop}(h:(σ.map (·.1)).Nodup→Fn prog w T n f args σ R):Fn prog w T n f args σ R:=fun X ρ s O e I=>h I.nd X ρ s O e I
noncomputable abbrev iR (us:List (Addr×Pr)):Led:=us.map fun t=>(t.1,gG [.str t.2.1,.str t.2.2])
theorem Dx (D:mQ T a) (hC:F.C=a.C) {i:Nat}(hi:i≤ts.length) (hn:ts.length≤1000):
  Fn prog w T (n+1) (.ref a.popf) [.ref F.x,.int i] (cn F ml sp lines ts z++rest) (fun r σ'=> ∃b,r= .ref b∧fQ (cn F ml sp lines (ts.take i) z++((b,az ((ts.drop i).map fun t=>.ref t.1))::(iR (ts.drop i)++rest))) σ'):=by
 have h:=Dw (n:=n) (prog:=prog) (w:=w) (d:=F.d) (x:=F.x) (ps:=ts.map fun t=>.ref t.1) (i:=i) (σ:=cn F ml sp lines ts z++rest) D (by simp;exact Ab hi) (by rw[←hC];exact .there (.there (.there .here))) (by simp;exact I6 hn);refine h.drop fun v σ' q=>⟨σ',.refl _,?_⟩
 refine QS q fun b c ah aU=> ?_;clear q;subst ah;subst aU
 refine⟨b,rfl,fQ.skip _ (.dM ?_)⟩;have e:iR ts=iR (ts.take i)++iR (ts.drop i):=by unfold iR;rw[←List.map_append,List.take_append_drop]
 rw[←List.map_take,←List.map_drop];show List.Perm ((b,az ((ts.drop i).map fun t=>.ref t.1))::(F.y,_)::(F.dy,_)::(F.l,_)::(F.x,isA F.C F.d ((ts.take i).map fun t=>.ref t.1))::(F.d,_)::(F.Plen,bX)::(F.Pstr,bX)::(iR ts++rest)) ((F.y,_)::(F.dy,_)::(F.l,_)::(F.x,isA F.C F.d ((ts.take i).map fun t=>.ref t.1))::(F.d,_)::(F.Plen,bX)::(F.Pstr,bX)::(iR (ts.take i)++((b,az ((ts.drop i).map fun t=>.ref t.1))::(iR (ts.drop i)++rest))));rw[e,List.append_assoc]
 exact(List.perm_middle (l₁:=(F.y,_)::(F.dy,_)::(F.l,_)::(F.x,isA F.C F.d ((ts.take i).map fun t=>PV.ref t.1))::(F.d,_)::(F.Plen,bX)::(F.Pstr,bX)::iR (ts.take i))).symm
theorem wq (D:mQ T a) (hC:F.C=a.C) {b:Addr}{us:List (Addr×Pr)}(hn:ts.length≤1000) (hu:us.length≤1000):
  Fn prog w T (n+1) (.ref a.reset) [.ref F.x,.ref b] (cn F ml sp lines ts z++((b,az (us.map fun t=>.ref t.1))::(iR us++rest))) (fun r σ'=>r= .none∧fQ (cn F ml sp lines us 0++rest) σ'):=by
 refine Fn.nodup fun nd=> ?_
 have dm:b≠F.x:=by
  rintro rfl;have hd:=(List.nodup_append.mp (by rw[List.map_append] at nd;exact nd)).2.2 F.x (by simp[cn]) F.x (by simp);exact hd rfl
 have h:=wo (n:=n) (prog:=prog) (w:=w) (d:=F.d) (z:=(z:Int)) (x:=F.x) (b:=b) (qs:=us.map fun t=>.ref t.1) (ps:=ts.map fun t=>.ref t.1) (σ:=cn F ml sp lines ts z++((b,az (us.map fun t=>.ref t.1))::(iR us++rest))) D (List.mem_append_right _ (.head _)) dm (by rw[←hC];exact .there (.there (.there .here))) (.there (.there (.there (.there .here)))) (by simp;exact XJ hn hu);refine h.drop fun v σ' q=>⟨σ',.refl _,q.1,?_⟩
 rw[q.2];refine .oH ?_
 show List.Sublist ((F.y,_)::(F.dy,_)::(F.l,_)::(F.x,isA F.C F.d (us.map fun t=>.ref t.1))::(F.d,_)::(F.Plen,bX)::(F.Pstr,bX)::(iR us++rest)) ((F.y,_)::(F.dy,_)::(F.l,_)::(F.x,isA F.C F.d (us.map fun t=>.ref t.1))::(F.d,_)::(F.Plen,bX)::(F.Pstr,bX)::(iR ts++((b,az (us.map fun t=>.ref t.1))::(iR us++rest))));exact .cons₂ _ (.cons₂ _ (.cons₂ _ (.cons₂ _ (.cons₂ _ (.cons₂ _ (.cons₂ _ (.trans (.cons _ (.refl _)) (List.sublist_append_right _ _))))))))
end
section
variable {prog:Program}{w:World}{T:aX}{n:Nat}{a:fH}{f:gf}{F:v7}{ml:Int}{sp:List Nat}{lines:List (List Nat)}{ts:List (Addr×Pr)}{z:Nat}{rest:Led}
def mN (F:v7) (ml:Int) (sp:List Nat) (rest:Led) (st:List (List Nat)×List Pr×Nat) (σ':Led):Prop:= ∃us:List (Addr×Pr),us.map (·.2)=st.2.1∧fQ (cn F ml sp st.1 us st.2.2++rest) σ'
theorem xg (B:FK prog T f a) (A:ie F f a) {A':Around}{L:Addr}{g:Heap}{os:OsState}{fw s:List Nat}{c pp:Option PV}{i:Nat}(hn:ts.length≤1000) (hs:Small (ts.map (·.2)) z) (jB:lines.length≤100000) (hi:i≤ts.length)
  (O:cU T (n+7) (sx f A' L g os)) (Y:Lay (sx f A' L g os)) {R:PV→Led→Prop}(hR: ∀σ',mN F ml sp rest (lines++[tS ((ts.map (·.2)).take i)],(ts.map (·.2)).drop i,0) σ'→R .none σ'):
  SE prog w (sx f A' L g os) ((y9 MR).drop 1) (ue F.y fw s c (some (.int i)) pp none none) (cn F ml sp lines ts z++rest) (fun f' U σ'=>f'= .next∧R .none σ'):=by
 have gw:Small ((ts.take i).map (·.2)) z:=⟨hs.z,by rw[List.map_take];exact Nat.le_trans (ji _ _) hs.w,by have:=hs.n;simp at this ⊢;exact Np this⟩;refine af (dc (R:=fun r σ'=> ∃b,r= .ref b∧fQ (cn F ml sp lines (ts.take i) z++((b,az ((ts.drop i).map fun t=>.ref t.1))::(iR (ts.drop i)++rest))) σ')
  (eU (k:=n+1) O rfl B.D.lk.cls B.D.popf (eC B A (lines:=lines) (ts:=ts) (z:=z) O Y (.head _) (.head _) (by simp) (fg (.refl _))) (gA (jc A) kl) (by show (_:Str)∉[("_initial_size":Str)];decide) (bO (gQ (ag Y 4 rfl))) Aj (fun vs σ' h=>by refine bo h fun h1 h2=> ?_;subst h1;rw[h2];exact Dx B.D A.C hi hn)) (fun v σ' h=> ?_))
 refine aF h fun b ah gC=> ?_;clear h;subst ah
 refine⟨_,_,fun u hu=>aq Y (.there (.there (.there (.there (.there (.there (.there .here))))))) hu,SE.fit gC ?_⟩;refine af (eY (ps:=aG lines) (eC B A (lines:=lines) (ts:=ts.take i) (z:=z) O Y (.head _) (.tail _ (.head _)) (by simp) (fg (.refl _))) (aQ (yp B A (m:=n+2) (O.le ŝ) rfl (eC B A (lines:=lines) (ts:=ts.take i) (z:=z) O Y (.head _) (.head _) (by simp) (fg (.refl _))) gw rfl rfl rfl)) (fun v σ' h=> ?_) H8 (by simp[aG];exact Od jB));refine bo h fun ah aU=> ?_;clear h;subst ah;subst aU
 refine⟨cn F ml sp (lines++[tS ((ts.take i).map (·.2))]) (ts.take i) z++((b,az ((ts.drop i).map fun t=>.ref t.1))::(iR (ts.drop i)++rest)),by rw[gK];exact .there (.there .here),?_⟩;refine af (fu (R:=fun r σ'=>r= .none∧fQ (cn F ml sp (lines++[tS ((ts.take i).map (·.2))]) (ts.drop i) 0++rest) σ') (eU (k:=n+1) O rfl B.D.lk.cls B.D.reset (eC B A (lines:=lines++[tS ((ts.take i).map (·.2))]) (ts:=ts.take i) (z:=z) O Y (.head _) (.head _) (by simp) (fg (.refl _))) (gA (jc A) kl) (by show (_:Str)∉[("_initial_size":Str)];decide) (bO (gQ (ag Y 7 rfl))) Aj (fun vs σ' h=>by refine bo h fun h1 h2=> ?_;subst h1;rw[h2];exact wq B.D A.C (by simp;exact Np hn) (by simp;exact XM hn))) (fun v σ' h=>⟨h.1,aj ⟨rfl,hR _ ⟨ts.drop i,by rw[List.map_drop],?_⟩⟩⟩));rw[←List.map_take];exact h.2
theorem fQ.mem {a b:Led}(h:fQ a b) {q:Addr×(Obj→Prop)}(hq:q∈a):q∈b:=by
 refine aF h fun l hp hs=> ?_
 exact hs.mem (hp.mem_iff.mpr hq)
theorem um {l:List Pr}{z:Nat}(h:Small l z):Small (cf l) z:=by
 unfold cf;split
 ·exact⟨h.z,by simp[wS],by simp⟩
 ·split
  ·refine⟨h.z,?_,by have:=h.n;simp;exact ä this⟩;rw[List.dropLast_eq_take];exact Nat.le_trans (ji _ _) h.w
  ·exact h
theorem xf (B:FK prog T f a) (A:ie F f a) {A':Around}{L:Addr}{g:Heap}{os:OsState}{fw u s:List Nat}{c io pp:Option PV}{t:Addr}(hn:ts.length≤899) (hs:Small (ts.map (·.2)) z) (jB:lines.length≤100000) (hu:u.length≤1000000)
  (lr:0<z→Txt.isspace (mk (tS (cf (ts.map (·.2)))))=false)
  (O:cU T (n+7) (sx f A' L g os)) (Y:Lay (sx f A' L g os)) {R:PV→Led→Prop}(hR: ∀σ',mN F ml sp rest (if z=0 then (lines,ts.map (·.2)++[(u,s)],0) else (lines++[tS (cf (ts.map (·.2)))],[(if u=[] then [32] else u,s)],0)) σ'→R .none σ'):
  SE prog w (sx f A' L g os) (oQ sy) (ue F.y fw s c io pp none none) (cn F ml sp lines (ts++[(t,u,s)]) z++rest) (fun f' U σ'=>f'= .ret .none∧R .none σ'):=by
 refine af (iG (ts:=[assign _ _,assign _ _]) (R:=fun v σ'=>v= .ref t∧fQ ((t,gG [.str u,.str s])::(cn F ml sp lines ts z++rest)) σ')
  (eU (k:=n+2) O rfl B.D.lk.cls B.D.pop (eC B A (lines:=lines) (ts:=ts++[(t,u,s)]) (z:=z) O Y (.head _) (.head _) (by simp) (fg (.refl _))) (gA (jc A) kl) (by show (_:Str)∉[("_initial_size":Str)];decide) (bO Ap) Ĵ (fun vs σ' h=> ?_)) (fun v σ' h=> ?_) rfl)
 ·refine bo h fun h1 h2=> ?_
  subst h1;rw[h2]
  refine(yL B.D B.S A.C (by simp;exact Z0 hn)).drop fun v σ' h=>⟨σ',.refl _,?_⟩
  rcases h with ⟨h,_⟩ | ⟨i,p,h,rfl,k⟩
  ·simp at h
  ·refine bo (List.append_inj' h rfl) fun h1 h2=> ?_
   cases h2
   subst h1;exact⟨rfl,k⟩
 ·refine bo h fun ah gC=> ?_;clear h;subst ah
  refine⟨t,_,rfl,fz O.hh (gC.mem (.head _)),rfl,cD (fR (fun u hu=>aq Y (.there .here) hu)) (cD (fR (fun u hu=>aq Y (.there (.there (.there (.there (.there (.there .here)))))) hu)) (gV (SE.fit gC (SE.sub ?_ (.cons _ (.refl _))))))⟩;have FO:ts.length≤1000:=Z2 hn;have tail: ∀(fw:List Nat) (mv:List (List Nat)) (Kc:List (Addr×Pr)) (z':Nat),Kc.length≤1000→(∀t2 σ',fQ (cn F ml sp mv (Kc++[(t2,fw,s)]) z'++rest) σ'→R .none σ')→
    SE prog w (sx f A' L g os) ((oQ sy).drop 2) (ue F.y fw s c io pp (some (.str s)) none) (cn F ml sp mv Kc z'++rest) (fun f' U σ'=>f'= .ret .none∧R .none σ'):=by
   intro fw mv Kc z' Mi MA;refine af (fu (R:=fun r σ'=>r= .none∧ ∃t2,fQ (cn F ml sp mv (Kc++[(t2,fw,s)]) z'++rest) σ') (eU (k:=n+1) O rfl B.D.lk.cls B.D.push (eC B A (lines:=mv) (ts:=Kc) (z:=z') O Y (.head _) (.head _) (by simp) (fg (.refl _))) (gA (jc A) kl) (by show (_:Str)∉[("_initial_size":Str)];decide) (bO (Bp (ag Y 1 rfl) (ag Y 6 rfl))) Aj (fun vs σ' h=>by refine bo h fun h1 h2=> ?_;subst h1;rw[h2];exact oz B.D A.C Mi)) (fun v σ' h=>⟨h.1,?_⟩));refine gF h.2 fun t2 ht2=> ?_
   exact af (ua ⟨rfl,MA t2 _ ht2⟩)
  refine af (bH (c:=decide (0<(z:Int))) (bb (oE O B.D.lk.cls (eC B A (lines:=lines) (ts:=ts) (z:=z) O Y (.head _) (.head _) (by simp) (fg (.refl _))) (gA (jc A) kl) (.head _) B.D.no) ai mG) (fun h=> ?_) (fun h=> ?_))
  ·have hz:0<z:=by have:=of_decide_eq_true h;exact Ŏ this
   refine af (fu (R:=fun r σ'=>r= .none∧σ'=cn F ml sp (lines++[tS (cf (ts.map (·.2)))]) [] 0++rest) (eU (k:=n+6) O rfl B.E.cls B.E.newline (ag Y 0 rfl) (mj (d:=F.dy) (by rw[←A.cF];exact .head _) (.tail _ (.head _))) (by show (_:Str)∉[("_current_line":Str),"_lines","_splitchars","_continuation_ws_len","_continuation_ws","_maxlen"];decide) (bO Ap) ı (fun vs σ' h=>by refine bo h fun h1 h2=> ?_;subst h1;rw[h2];exact mm B A (um hs) (Z1 hn) (lr hz) (Yw hz) jB)) (fun v σ' h=>⟨h.1,?_⟩));rw[h.2];have Lj:z≠0:=Oy hz;rw[if_neg Lj] at hR
   refine af (bH (c:= !(!u.isEmpty)) (Iy (eH (ag Y 1 rfl) (fun u s h I=>lF (Ag hu) u s h I))) (fun h=> ?_) (fun h=> ?_))
   ·have Rr:u=[]:=by cases u with | nil=>rfl | cons _ _=>cases h
    refine af (aI Y aT (.there .here) (aj (aj (tail _ _ [] 0 (by simp) (fun t2 σ' hf=>hR σ' ⟨[(t2,[32],s)],?_,hf⟩)))));rw[if_pos Rr];rfl
   ·have Rr:u≠[]:=by rintro rfl;cases h
    refine aj (aj (tail _ _ [] 0 (by simp) (fun t2 σ' hf=>hR σ' ⟨[(t2,u,s)],?_,hf⟩)));rw[if_neg Rr];rfl
  ·have hz:z=0:=by have:=of_decide_eq_false h;exact ZX this
   subst hz;rw[if_pos rfl] at hR
   exact aj (tail _ _ ts 0 FO (fun t2 σ' hf=>hR σ' ⟨ts++[(t2,u,s)],by simp,hf⟩))
theorem zW (B:FK prog T f a) (A:ie F f a) {u s:List Nat}(hn:ts.length≤800) (hs:Small (ts.map (·.2)++[(u,s)]) z) (jB:lines.length≤100000)
  (lr:0<z→dR (ts.map (·.2)++[(u,s)]) sp=none→Txt.isspace (mk (tS (cf (ts.map (·.2)))))=false):
  Fn prog w T (n+8) (.ref f.chunk) [.ref F.y,.str u,.str s] (cn F ml sp lines ts z++rest) (fun r σ'=>r= .none∧ ∃us:List (Addr×Pr),us.map (·.2)=(dG lines (ts.map (·.2)) z ml sp u s).2.1∧σ'=cn F ml sp (dG lines (ts.map (·.2)) z ml sp u s).1 us (dG lines (ts.map (·.2)) z ml sp u s).2.2++rest):=
 Fn.fit (R:=fun r σ'=>r= .none∧mN F ml sp rest (dG lines (ts.map (·.2)) z ml sp u s) σ') (cN B.E.chunk.fn ["self","fws","string"] ["ch","i","prevpart","part","remainder"] (fun us hv=>⟨us,hv,fun kV doc pm an ct s U=>.of_eq (by refine K6 (Hq (hv.length.symm)) fun u0 u1 u2 ah=> ?_;subst ah;rfl)⟩) dC dC rfl dC rfl rfl rfl (fun A' L g os O Y=>by
  show SE prog w (sx f A' L g os) (bodyOf (FM 8)) (ue F.y u s none none none none none) _ _;have hw:=hs.w;have hz:=hs.z;have hw0:wS (ts.map (·.2))≤1000000:=by
   have:=ji (ts.map (·.2)++[(u,s)]) (ts.map (·.2)).length
   rw[List.take_left] at this
   exact WU hw this
  have hu:u.length≤1000000:=by have h:u.length+s.length≤_:=iX (l:=ts.map (·.2)++[(u,s)]) (t:=(u,s)) (by simp);exact UT hw h
  refine af (fu (R:=fun r σ'=>r= .none∧ ∃t,fQ (cn F ml sp lines (ts++[(t,u,s)]) z++rest) σ') (eU (k:=n+1) O rfl B.D.lk.cls B.D.push (eC B A (lines:=lines) (ts:=ts) (z:=z) O Y (.head _) (.head _) (by simp) (fg (.refl _))) (gA (jc A) kl) (by show (_:Str)∉[("_initial_size":Str)];decide) (bO (Bp (ag Y 1 rfl) (ag Y 2 rfl))) Aj (fun vs σ' h=>by refine bo h fun h1 h2=> ?_;subst h1;rw[h2];exact oz B.D A.C (N7 hn))) (fun v σ' h=>⟨h.1,?_⟩));refine gF h.2 fun t ht=> ?_
  refine SE.fit ht ?_
  have em:(ts++[(t,u,s)]).map (·.2)=ts.map (·.2)++[(u,s)]:=by simp
  have hs1:Small ((ts++[(t,u,s)]).map (·.2)) z:=by rw[em];exact hs
  refine af (bH (bb (yZ B A (m:=n+5) (O.le ś) rfl (eC B A (lines:=lines) (ts:=ts++[(t,u,s)]) (z:=z) O Y (.head _) (.head _) (by simp) (fg (.refl _))) hs1 rfl rfl rfl) (eC B A (lines:=lines) (ts:=ts++[(t,u,s)]) (z:=z) O Y (.head _) (.tail _ (.tail _ (.tail _ (.tail _ (.tail _ (.head _)))))) (by simp) (fg (.refl _))) mG) (fun h=> ?_) (fun h=> ?_))
  ·have h:=of_decide_eq_true h;rw[em] at h
   have e1:dG lines (ts.map (·.2)) z ml sp u s=match dR (ts.map (·.2)++[(u,s)]) sp with
     | some i=>(lines++[tS ((ts.map (·.2)++[(u,s)]).take i)],(ts.map (·.2)++[(u,s)]).drop i,0)
     | none=>if z=0 then (lines,ts.map (·.2)++[(u,s)],0) else (lines++[tS (cf (ts.map (·.2)))],[(if u=[] then [32] else u,s)],0):=by
    unfold dG;rw[if_neg (ZK h)]
    all_goals (generalize dR (ts.map (·.2)++[(u,s)]) sp=o;cases o<;>rfl)
   refine af (wB B A (ts:=ts++[(t,u,s)]) (by simp) (by simp;exact N6 hn) (by rw[em];exact hw) O Y (fun i fw c pp σ' hc hB=> ?_) (fun fw c io pp hc=> ?_))
   ·rw[em] at hc
    have hi:=sm _ _ _ hc;refine SE.sub ?_ hB;refine SE.mono (xg (R:=fun r σ'=>r= .none∧mN F ml sp rest (dG lines (ts.map (·.2)) z ml sp u s) σ') B A (i:=i) (by simp;exact N6 hn) hs1 jB (by simp at hi ⊢;exact ER hi.2) O Y (fun σ' hR=>⟨rfl,?_⟩)) (fun f' bC σ' q=> ?_)
    ·rw[em] at hR
     rw[e1,hc];exact hR
    ·revert q;refine fun z0=>bo z0 fun ah q=> ?_;clear z0;subst ah
     exact aj q
   ·rw[em] at hc
    refine SE.mono (xf (R:=fun r σ'=>r= .none∧mN F ml sp rest (dG lines (ts.map (·.2)) z ml sp u s) σ') B A (Z3 hn) ⟨hz,hw0,by simp;exact N7 hn⟩ jB hu (fun h0=>lr h0 hc) O Y (fun σ' hR=>⟨rfl,?_⟩)) (fun f' bC σ' q=> ?_)
    ·rw[e1,hc];exact hR
    ·revert q;refine fun z0=>bo z0 fun ah q=> ?_;clear z0;subst ah
     exact q
  ·have h:=of_decide_eq_false h;rw[em] at h
   refine aj (aj ⟨rfl,ts++[(t,u,s)],?_,?_⟩)
   ·unfold dG;rw[if_pos (N5 h)];exact em
   ·unfold dG;rw[if_pos (N5 h)];exact .refl _)) (fun v σ' h=>by
  refine DK h fun us h1 h2 h3=> ?_
  exact⟨_,h3,h1,us,h2,rfl⟩)
theorem En (B:FK prog T f a) (A:ie F f a) {sep:List Nat}(hs:Small (cf (ts.map (·.2))) z) (hn:ts.length≤900) (lr:Txt.isspace (mk (tS (cf (ts.map (·.2)))))=false) (ib:0<z+wS (cf (ts.map (·.2)))) (jB:lines.length≤1000)
  (hj:((lines++[tS (cf (ts.map (·.2)))]).map (·.length)).sum+(lines++[tS (cf (ts.map (·.2)))]).length*sep.length≤16777216):
  Fn prog w T (n+7) (.ref f.str) [.ref F.y,.str sep] (cn F ml sp lines ts z++rest) (fun r σ'=>r= .str (aB sep (lines++[tS (cf (ts.map (·.2)))]))∧σ'=cn F ml sp (lines++[tS (cf (ts.map (·.2)))]) [] 0++rest):=
 cN B.E.str.fn ["self","linesep"] [] (fun us hv=>⟨us,hv,fun kV doc pm an ct s U=>.of_eq (by refine xM (rS (hv.length.symm)) fun u0 u1 ah=> ?_;subst ah;rfl)⟩) dC dC rfl dC rfl rfl rfl (fun A' L g os O Y=>by
  show SE _ _ _ _ [(("self":Str),some (.ref F.y)),(("linesep":Str),some (.str sep))] _ _;refine af (fu (R:=fun r σ'=>r= .none∧σ'=cn F ml sp (lines++[tS (cf (ts.map (·.2)))]) [] 0++rest) (eU (k:=n+6) O rfl B.E.cls B.E.newline (ag Y 0 rfl) (mj (d:=F.dy) (by rw[←A.cF];exact .head _) (.tail _ (.head _))) (by show (_:Str)∉[("_current_line":Str),"_lines","_splitchars","_continuation_ws_len","_continuation_ws","_maxlen"];decide) (bO Ap) Ĳ (fun vs σ' h=>by refine bo h fun h1 h2=> ?_;subst h1;rw[h2];exact mm B A hs hn lr ib (I7 jB))) (fun v σ' h=>⟨h.1,?_⟩));rw[h.2];refine af (bf (lg (ag Y 1 rfl) (aQ (eC B A (lines:=lines++[tS (cf (ts.map (·.2)))]) (ts:=[]) (z:=0) O Y (.head _) (.tail _ (.head _)) (by simp) (fg (.refl _)))) (fun v σ' r=> ?_) hj) ⟨rfl,rfl⟩);refine bo r fun ah aU=> ?_;clear r;subst ah;subst aU
  exact⟨F.l,rfl,H8,.refl _⟩)
end
section
variable {prog:Program}{w:World}{X:Cx}{ρ bC:Ro}{σ σ':Led}{T:aX}{n:Nat}{R R':PV→Led→Prop}
noncomputable def Pg (prog:Program) (w:World) {δ:Type}(X:Cx) (iter:Expr) (ρ:Ro) (σ:Led) (P:δ→Addr→Obj→Prop) (σd:δ→Led):Prop:=
 Ev prog w X (eval iter X.env) ρ σ fun y s₁=>wpAny (model prog w) X.A (pyIter y) (fun u s'=> ∃I d,u= .ref I∧Inv X ρ ((I,P d I)::σd d) s') (fun U U=>False) s₁
theorem y5 {e:Expr}{ps:List PV}(h:NE prog w X e ρ σ (az ps)):Pg prog w X e ρ σ (fun a I=>uw a I 0) (fun a=>(a,az ps)::σ):=fun s I=>wpAny_mono (h s I) (fun u s' q=>by
 refine aF q fun a ah I'=> ?_;clear q;subst ah
 refine aF (I'.obj (.head _)) fun ol qS pl=> ?_
 refine aF (pl.list qS) fun vs hv il=> ?_
 exact wpAny_pyIter_list il ⟨_,a,rfl,I'.push ⟨rfl,rfl⟩ rfl⟩) fun U U f=>f
theorem Dh {δ:Type}{x:Str}{px pos:Pos}{iter:Expr}{body orelse:List Stmt}{K:PF→Ro→Led→Prop}(k:Nat) (xs:Nat→PV) (It:δ→Addr→Nat→Obj→Prop) (σd:δ→Led) (J:δ→Nat→Ro→Led→Prop)
  (hi:Pg prog w X iter ρ σ (fun d I=>It d I 0) σd)
  (h0: ∀d,J d 0 ρ (σd d))
  (hn: ∀d I i ρ σ,i<k→J d i ρ σ→Nx prog w X I (It d I i) (It d I (i+1)) (xs i) σ)
  (hd: ∀d I ρ σ,J d k ρ σ→Nx0 prog w X I (It d I k) σ)
  (hb: ∀d I i ρ σ,i<k→J d i ρ σ→I∉σ.map (·.1)→ ∃bC σ',(∀u,VR (xs i) u→gb prog w X x u ρ ((I,It d I (i+1))::σ) bC σ')∧
   SE prog w X body bC σ' (jR K fun eJ ak=> ∃aR,J d (i+1) eJ aR∧((I,It d I (i+1))::aR).Sublist ak))
  (he: ∀d ρ σ,J d k ρ σ→SE prog w X orelse ρ σ K)
  (hf: ∀x,foldedSetIterable iter X.env x=pure x:=by intro _;rfl):S1 prog w X (.For (.Name x px) iter body orelse pos) ρ σ K:=fun s iC=>by
 refine wpAny_For (wpAny_mono (hi s iC) (fun y s₁ q=>wpAny_mono q (fun u au q=> ?_) fun U U f=>f) fun U U f=>f) hf;refine mO q fun I d ah hI=> ?_;clear q;subst ah
 refine codeAny_forLoop (fun m s=> ∃i ρ σ,i≤k∧m=k-i∧J d i ρ σ∧Inv X ρ ((I,It d I i)::σ) s) ?_ k ⟨0,ρ,σd d,Nat.zero_le _,rfl,h0 d,hI⟩;rintro m c6 ⟨i,bI,aD,uC,rfl,hJ,se⟩;by_cases df:i<k
 ·refine wpAny_mono (hn d I i bI aD df hJ bI c6 se) (fun r jo q=> ?_) fun U U f=>f.elim
  refine gR q fun u ah hv jF=> ?_;clear q;subst ah
  have nd:=jF.nd;rw[List.map_cons,List.nodup_cons] at nd
  refine mO (hb d I i bI aD df hJ nd.1) fun eJ ak iL zm=> ?_
  refine wpAny_assign_Name (wpAny_mono (iL u hv jo jF) (fun U gX jE=> ?_) fun U U f=>f.elim);refine wpAny_mono (zm gX jE) (fun fl mS q=> ?_) fun U U f=>f.elim
  refine DH q fun f kB aR hK zh fF=> ?_
  cases zh with
  | next=>refine aF hK fun gn uD hs=> ?_;exact⟨k-(i+1),by exact sF df,i+1,kB,gn,df,rfl,uD,fF.sub hs⟩
  | cont=>refine aF hK fun gn uD hs=> ?_;exact⟨k-(i+1),by exact sF df,i+1,kB,gn,df,rfl,uD,fF.sub hs⟩
  | brk=>exact⟨_,_,_,hK,.next,fF⟩
  | ret h=>exact⟨_,_,_,hK,.ret h,fF⟩
 ·have e:i=k:=EP uC df;subst e;refine wpAny_mono (hd d I bI aD hJ bI c6 se) (fun r jo q=> ?_) fun U U f=>f.elim
  refine bo q fun ah jF=> ?_;clear q;subst ah
  exact wpAny_mono (he d bI aD hJ jo jF) (fun fl s' q=>q) fun U U f=>f.elim
theorem uJ {δ:Type}{elt iter:Expr}{x:Str}{px pos jZ:Pos}{ifs:List Expr}{scope:Scope}{cl:List (Str×Addr)}{use:Option (Value→Sem Unit)}{Q:Value→Shared→Prop}{s:Shared}
  {k:Nat}{xs:Nat→PV}{It:δ→Addr→Nat→Obj→Prop}{S:δ→Led→Prop}{σd:δ→Led}(Sq: ∀d,jO prog w k xs (It d) (S d)) (J:δ→Nat→List PV→Led→Prop) (gy:X.FL=X.L) (hh:X.A.handled=none)
  (eT:closureFor scope X.env=pure cl) (bM: ∀y∈scope.names,y.2≠ .cell) (cC:scope.kind= .function)
  (dE: ∀y∈scope.names,y.2= .local→scope.names.lookup y.1=some .local) (hx:scope.names.lookup x=some .local)
  (hi:Pg prog w X iter ρ σ (fun d I=>It d I 0) σd) (h0: ∀d,J d 0 [] (σd d))
  (hS: ∀d i D ys da,J d i ys da→S d ((D,az ys)::(X.L,isNs ρ)::da))
  (hl: ∀d i ys da,i≤k→J d i ys da→ys.length≤16777216)
  (eS: ∀d I C D i ys da,i<k→J d i ys da→jS prog w (X.comp scope cl C x) ifs elt [(x,some (xs i))] ((I,It d I (i+1))::(D,az ys)::(X.L,isNs ρ)::da) (J d (i+1) ys da)
   (fun v ak=> ∃aR,J d (i+1) (ys++[v]) aR∧((I,It d I (i+1))::(D,az ys)::(X.L,isNs ρ)::aR).Sublist ak))
  (hQ: ∀d a C ys bC σ' s',J d k ys σ'→Inv X ρ ((C,isNs bC)::(a,az ys)::σ') s'→compPost (model prog w) X.A (fun U U=>False) use Q (.ref a) C (.ok .next) s')
  (iC:Inv X ρ σ s) (hs: ∀x,foldedSetIterable iter X.env x=pure x:=by intro _;rfl) (mC:(x==("__debug__":Str))=false:=by decide):
  wpAny (model prog w) X.A (comprehension (.ListComp elt [⟨.Name x px,iter,ifs,0⟩] scope pos) scope X.env jZ (newList []) false (eval iter X.env) use) Q (fun U U=>False) s:=by
 refine wpAny_comprehension_free (use:=use) rfl hs eT cC dE (wpAny_mono (hi s iC) (fun y s₁ q=>wpAny_mono q (fun u au q=> ?_) fun U U f=>f) fun U U f=>f);refine mO q fun I d ah hI=> ?_;clear q;subst ah
 refine wpAny_newObj_type (wpAny_newFunctionEnv bM (by intro y hy;simp at hy) (fun dk i9 i7=> ?_) cC);dsimp only at i9 i7 ⊢
 have aS:=hI.push (P:=az []) (o:={cls:=.type "list",data:=.seq ([]:List Value).toArray}) ⟨[],0,.nil,rfl⟩ rfl (tk:=au.toks);have aH:=aS.push (P:=fun U=>True) (o:={cls:=.type "dict",data:=.dict #[]}) trivial rfl (tk:=au.toks);refine aF (PyProof.Rows.LCg.ns_obj i9) fun oC LZ hC=> ?_
 have cg:=aH.turn (σ':=(_,isNs [(x,none)])::_) (tk:=au.toks+([]:List (Str×Value)).length) .here i7 LZ ⟨_,⟨fun p hp=>by rw[List.mem_singleton.mp hp];exact .none,fun U U=>rfl⟩,hC⟩;dsimp only at cg ⊢
 generalize Sj:(au.heap.push {cls:=.type "list",data:=.seq ([]:List Value).toArray}).objs.size=C at cg i9 i7 LZ ⊢
 generalize au.heap.objs.size=D at cg ⊢
 have above:X.g.objs.size≤C:=by
  refine gS aS.st fun m news F N R Dd=> ?_
  exact Nat.le_trans F.above (Nat.le_of_lt (Sj ▸ F.ns.lt))
 let X':=X.comp scope cl C x
 have kA:Inv X' [(x,none)] ((I,It d I 0)::(D,az [])::(X.L,isNs ρ)::σd d) _:=
  ((cg.swap above (by simp)).to (Y:=X') rfl rfl rfl rfl).perm (by
   refine(List.Perm.swap _ _ _).trans ?_
   refine(List.Perm.cons _ (List.Perm.swap _ _ _)).trans ?_
   exact List.Perm.swap _ _ _)
 have Bo: ∀i ys da,J d i ys da→S d ((D,az ys)::(X.L,isNs ρ)::da):=fun i ys da h=>hS d i D ys da h
 have Y:Lay X':=Lay.comp cC hx mC;have PR:(ρ.map (·.1)).Nodup:=by rw[iC.ks];exact iC.kn
 show codeAny _ _ _ (compPost _ _ _ _ _ (.ref D) C) _;have key: ∀s',Inv X' [(x,none)] ((I,It d I 0)::(D,az [])::(X.L,isNs ρ)::σd d) s'→codeAny (model prog w) X.A (.compLoop (.ListComp elt [⟨.Name x px,iter,ifs,0⟩] scope pos) 0 (.ref I) (.ref D) X'.env)
   (compPost (model prog w) X.A (fun U U=>False) use Q (.ref D) C) s':=fun s' I'=>by
  refine codeAny_compLoop_tests (fun m s=> ∃i ys da vo,i≤k∧m=k-i∧J d i ys da∧Inv X' [(x,vo)] ((I,It d I i)::(D,az ys)::(X.L,isNs ρ)::da) s) ?_ k ⟨0,[],σd d,none,Nat.zero_le _,rfl,h0 d,I'⟩;rintro m gX ⟨i,ys,da,vo,uC,rfl,hJ,jE⟩;by_cases df:i<k
  ·refine wpAny_mono ((Sq d).nx X' I i _ hh df (Bo _ _ _ hJ) _ gX jE) (fun r mS q=> ?_) fun U U f=>f.elim
   refine gR q fun u ah hv fF=> ?_;clear q;subst ah
   refine wpAny_assign_Name (wpAny_mono (aq Y (.here (x:=x) (v:=some (xs i))) hv mS fF) (fun U GY zr=> ?_) fun U U f=>f.elim);refine gR (eS d I C D i ys da df hJ) fun b ht hf hg=> ?_
   refine wpAny_mono (ht GY zr) (fun ok GX q=> ?_) fun U U f=>f.elim
   refine bo q fun ah sd=> ?_;clear q;subst ah
   cases ok with
   | false=>exact⟨k-(i+1),by exact sF df,i+1,ys,da,_,df,rfl,hf rfl,sd⟩
   | true=>
    refine wpAny_mono (hg rfl GX sd) (fun y GW q=> ?_) fun U U f=>f.elim
    refine K8 q fun v ak aR uD zb FN jD=> ?_
    have jD:=jD.sub zb;refine uj (jD.obj (.tail _ (.head _))) fun vs nn LY de=> ?_
    refine append_at LY (fun h' D6 hD=>⟨k-(i+1),by exact sF df,i+1,ys++[v],aR,_,df,rfl,uD,jD.turn (tk:=GW.toks) (.there .here) D6 hD ⟨vs++[y],_,de.append (.cons FN .nil),by rw[List.push_toArray]⟩⟩) ?_
    show vs.toArray.size≤sizeLine;rw[List.size_toArray,←de.length];exact hl d i ys da uC hJ
  ·have e:i=k:=EP uC df;subst e;refine wpAny_mono ((Sq d).nd X' I _ hh (Bo _ _ _ hJ) _ gX jE) (fun r mS q=> ?_) fun U U f=>f.elim
   refine bo q fun ah fF=> ?_;clear q;subst ah
   have ek:=iC.ks;have uP:X'.g.objs.size≤X.L:=by refine mO iC.st fun m news F U=> ?_;exact F.above
   have J5:=((fF.perm (List.Perm.swap _ _ _)).swap uP PR).to (Y:=X) rfl rfl (by show X.ks=ρ.map (·.1);rw[ek]) rfl;exact hQ d D C ys [(x,vo)] da mS hJ J5
 exact codeAny_compStart_list (key _ kA) ((Sq d).self X' I 0 _ _ _ _ _ (Bo _ _ _ (h0 d)) kA (key _ kA))
theorem zB {δ:Type}{elt iter:Expr}{x:Str}{px pos:Pos}{ifs:List Expr}{scope:Scope}{cl:List (Str×Addr)}
  {k:Nat}{xs:Nat→PV}{It:δ→Addr→Nat→Obj→Prop}{S:δ→Led→Prop}{σd:δ→Led}(Sq: ∀d,jO prog w k xs (It d) (S d)) (J:δ→Nat→List PV→Led→Prop) (gy:X.FL=X.L) (hh:X.A.handled=none)
  (eT:closureFor scope X.env=pure cl) (bM: ∀y∈scope.names,y.2≠ .cell) (cC:scope.kind= .function)
  (dE: ∀y∈scope.names,y.2= .local→scope.names.lookup y.1=some .local) (hx:scope.names.lookup x=some .local)
  (hi:Pg prog w X iter ρ σ (fun d I=>It d I 0) σd) (h0: ∀d,J d 0 [] (σd d))
  (hS: ∀d i D ys da,J d i ys da→S d ((D,az ys)::(X.L,isNs ρ)::da))
  (hl: ∀d i ys da,i≤k→J d i ys da→ys.length≤16777216)
  (eS: ∀d I C D i ys da,i<k→J d i ys da→jS prog w (X.comp scope cl C x) ifs elt [(x,some (xs i))] ((I,It d I (i+1))::(D,az ys)::(X.L,isNs ρ)::da) (J d (i+1) ys da)
   (fun v ak=> ∃aR,J d (i+1) (ys++[v]) aR∧((I,It d I (i+1))::(D,az ys)::(X.L,isNs ρ)::aR).Sublist ak))
  (hs: ∀x,foldedSetIterable iter X.env x=pure x:=by intro _;rfl) (mC:(x==("__debug__":Str))=false:=by decide):
  GE prog w X (.ListComp elt [⟨.Name x px,iter,ifs,0⟩] scope pos) ρ σ (fun v σ''=> ∃a ys σ',v= .ref a∧σ''=(a,az ys)::σ'∧ ∃d,J d k ys σ'):=fun s I=>by
 rw[eval_ListComp];show wpAny _ _ (comprehension (.ListComp elt [⟨.Name x px,iter,ifs,0⟩] scope pos) scope X.env iter.pos (newList []) false (eval iter X.env) none) _ _ s;refine uJ (σd:=σd) Sq J gy hh eT bM cC dE hx hi h0 hS hl eS (fun d a C ys bC σ' s' hJ I'=> ?_) I hs mC;refine gF (I'.isNs (.head _)) fun m hm=> ?_
 exact⟨m,hm,fun h' D6=>⟨.ref a,_,⟨a,ys,σ',rfl,rfl,d,hJ⟩,.ref a,I'.done D6.extBut (tk:=s'.toks)⟩⟩
theorem yU {δ:Type}{elt iter:Expr}{x:Str}{px pos:Pos}{scope:Scope}{cl:List (Str×Addr)}
  {k:Nat}{xs:Nat→PV}{It:δ→Addr→Nat→Obj→Prop}{S:δ→Led→Prop}{σd:δ→Led}(Sq: ∀d,jO prog w k xs (It d) (S d)) (ys:Nat→PV) (gy:X.FL=X.L) (hh:X.A.handled=none)
  (eT:closureFor scope X.env=pure cl) (bM: ∀y∈scope.names,y.2≠ .cell) (cC:scope.kind= .function)
  (dE: ∀y∈scope.names,y.2= .local→scope.names.lookup y.1=some .local) (hx:scope.names.lookup x=some .local)
  (hi:Pg prog w X iter ρ σ (fun d I=>It d I 0) σd)
  (hB: ∀d,σ.Sublist (σd d)) (hS: ∀d D zs,S d ((D,az zs)::(X.L,isNs ρ)::σd d)) (hl:k≤16777216)
  (eS: ∀C aD i,i<k→(∀p∈(X.L,isNs ρ)::σ,p∈aD)→PE prog w (X.comp scope cl C x) elt [(x,some (xs i))] aD (ys i))
  (hs: ∀x,foldedSetIterable iter X.env x=pure x:=by intro _;rfl) (mC:(x==("__debug__":Str))=false:=by decide):
  NE prog w X (.ListComp elt [⟨.Name x px,iter,[],0⟩] scope pos) ρ σ (az ((List.range k).map ys)):=
 fV (zB (σd:=σd) Sq (fun d i zs da=>zs=(List.range i).map ys∧da=σd d) gy hh eT bM cC dE hx hi (fun d=>⟨rfl,rfl⟩) (fun d i D zs da h=>by refine bo h fun ah aU=> ?_;clear h;subst ah;subst aU;exact hS d D _)
  (fun d i zs da hi h=>by refine bo h fun ah aU=> ?_;clear h;subst ah;subst aU;simp;exact Nm hl hi)
  (fun d I C D i zs da uC h=>by
   refine bo h fun ah aU=> ?_;clear h;subst ah;subst aU
   refine⟨true,kp,nofun,fun U=> ?_⟩
   refine(aQ (eS C _ i uC fun p hp=> ?_)).mono fun v σ' r=> ?_
   ·refine .tail _ (.tail _ ?_);rcases List.mem_cons.mp hp with rfl | hp
    ·exact .head _
    ·exact .tail _ ((hB d).mem hp)
   ·refine bo r fun ah aU=> ?_;clear r;subst ah;subst aU
    exact⟨_,⟨by rw[List.range_succ,List.map_append];rfl,rfl⟩,.refl _⟩) hs mC)
  (fun v σ' r=>by refine Q8 r fun a d ah aU=> ?_;clear r;subst ah;subst aU;exact⟨a,rfl,.cons₂ _ (hB d)⟩)
end
noncomputable def Kq:List ((Int×Tok)×(Int×Tok))→Bool
 | []=>false
 | (x,y)::r=>if x.1==y.1 then Kq r else decide (y.1<x.1)
noncomputable def H0 (x1 x2 y1 y2:Int):Bool:=if x1==y1 then (if x2==y2 then false else decide (y2<x2)) else decide (y1<x1)
open PySem.SeqAt PySem.AutoSeq1 in
theorem tR (l b:Addr) (x1 x2 y1 y2:Int) (t1 t2 t3 t4:Tok) (n n2:Nat) (dd dd2:Option Addr) (sl sl2:Array (Option Value)):
  Meets (Builtin.«tuple.__gt__» ⟨[.ref l,.ref b],[]⟩)
   (fun A R s=>s.heap.get? l=some {cls:=.type "tuple",dict:=dd,data:=.seq #[.int x1 t1,.int x2 t2] n,slots:=sl}∧s.heap.get? b=some {cls:=.type "tuple",dict:=dd2,data:=.seq #[.int y1 t3,.int y2 t4] n2,slots:=sl2}∧
    R (.ok (.ret (.bool (H0 x1 x2 y1 y2)))) s):=
 .of_wp fun prog w A R s h=>by
  obtain⟨hp,g,d,tk,os⟩:=s;refine Pq h fun hl hb h=> ?_
  have f2:=AutoSeq1.sub_tuple_tuple
  wp_walk using wpAny_loadPart' hl,wpAny_loadPart' hb,wpAny_forIn_list _ (fun rest b s'=>b.1=none∧s'=⟨hp,g,d,tk,os⟩∧ ∃P:List ((Int×Tok)×(Int×Tok)),rest=P.map (fun p=>(Value.int p.1.1 p.1.2,Value.int p.2.1 p.2.2))∧
   R (.ok (.ret (.bool (Kq P)))) ⟨hp,g,d,tk,os⟩) _
  case turn=>
   rintro ⟨y,x⟩ rest b s' ⟨HZ,rfl,P,hz,hR⟩;cases P with
   | nil=>cases hz
   | cons p P=>
    obtain⟨⟨a1,a2⟩,⟨b1,b2⟩⟩:=p;rw[List.map_cons] at hz
    injection hz with hyx LU
    cases hyx
    refine wpAny_bind (wpAny_eqBool_int ?_);cases hy:(a1==b1) with
    | true=>
     unfold Kq at hR
     simp only[hy,if_true] at hR
     wp_walk
     exact⟨rfl,rfl,P,LU,hR⟩
    | false=>
     unfold Kq at hR
     simp only[hy,Bool.false_eq_true,if_false] at hR
     simp only[Bool.not_false,if_true]
     refine wpAny_bind (wpAny_rule (wpAny_bind (gt_int (wpAny_bind (wpAny_pure (wpAny_pure (wpAny_pure ?_)))))));exact⟨_,rfl,hR⟩
  case fin=>
   rintro ⟨b1,b2⟩ s' ⟨HZ,rfl,P,hz,hR⟩;simp only at HZ
   subst HZ;cases P with
   | cons p P=>cases hz
   | nil=>
    wp_walk
    exact⟨_,rfl,by simpa [Builtin.Tuple.tupleCompareSizes,Kq] using hR⟩
  case h=>
   exact⟨rfl,rfl,[((x1,t1),(y1,t3)),((x2,t2),(y2,t4))],rfl,by simpa [Kq,H0] using h⟩
section
variable {prog:Program}{w:World}{X:Cx}{ρ bC:Ro}{σ σ':Led}{T:aX}{n:Nat}
theorem DY {a:Int}{u:Value}(h:VR (.int a) u): ∃t,u= .int a t:=by refine vI h fun t=> ?_;exact⟨_,rfl⟩
theorem zu (hu:X.A.units<cLine) {a b:Addr}{x1 x2 y1 y2:Int}(ha:At X σ a (gG [.int x1,.int x2])) (hb:At X σ b (gG [.int y1,.int y2])):
  Ev prog w X (richCompare .Gt (.ref a) (.ref b)) ρ σ (fun r s'=>r= .bool (H0 x1 x2 y1 y2)∧Inv X ρ σ s'):=fun s I=>by
 refine uj (ha.obj I) fun vs n ho de=> ?_
 refine uj (hb.obj I) fun us n' ig ia=> ?_
 refine uk de.two fun v1 v2 ah r1 r2=> ?_;subst ah
 refine uk ia.two fun w1 w2 ah q1 q2=> ?_;subst ah
 refine gF (DY r1) fun t1 ah=> ?_;subst ah
 refine gF (DY r2) fun t2 ah=> ?_;subst ah
 refine gF (DY q1) fun t3 ah=> ?_;subst ah
 refine gF (DY q2) fun t4 ah=> ?_;subst ah
 exact richCompare_meets_room (op:=.Gt) ⟨_,ho,rfl⟩ ⟨_,ig,rfl⟩ PySem.F.slot_tuple_gt PySem.F.entry_tuple_gt (PySem.F.args_tuple_gt_2 _ _) (tR a b x1 x2 y1 y2 t1 t2 t3 t4 _ _ _ _ _ _)
  ⟨ho,ig,show Value.bool (H0 x1 x2 y1 y2)≠Value.notImplemented∧_ from ⟨(fun x=>nomatch x),rfl,I⟩⟩ hu
noncomputable abbrev P2:=Addr×Int×Int
def f9 (b t:P2):P2:=if H0 t.2.1 t.2.2 b.2.1 b.2.2 then t else b
noncomputable def kc (ts:List P2):Led:=ts.map fun t=>(t.1,gG [.int t.2.1,.int t.2.2])
theorem ow {a:Addr}{u:Value}(h:VR (.ref a) u):u= .ref a:=by refine vR h ?_;rfl
theorem zx (ts:List P2) (i:Nat) (h:i<ts.length):(ts.map fun t=>PV.ref t.1).getD i .none= .ref (ts[i]).1:=by
 rw[List.getD_eq_getElem?_getD,List.getElem?_map,List.getElem?_eq_getElem h];rfl
theorem yW (hh:X.A.handled=none) (hu:X.A.units<9800) {a I S:Addr}{ts:List P2}{R:Result→Shared→Prop}(hm:(a,az (ts.map fun t=>.ref t.1))∈σ) (hk: ∀t∈ts,(t.1,gG [.int t.2.1,.int t.2.2])∈σ):
  ∀(k j:Nat) (s:Shared) (b:P2),ts.length-j=k→j≤ts.length→b∈ts→Inv X ρ ((I,uw a I j)::(S,az [.ref b.1,.ref b.1])::σ) s→
   (∀s',Inv X ρ ((S,az [])::σ) s'→R (.ok (.ret (.ref ((ts.drop j).foldl f9 b).1))) s')→codeAny (model prog w) X.A (.builtin "max.loop" ⟨[.ref I,.none,.ref S],[]⟩) R s:=by
 have r4:(toString "max"++toString ".loop":String)="max.loop":=by decide
 have Sq:=fun (σ':Led)=>dq (prog:=prog) (w:=w) (ax:=a) (ps:=ts.map fun t=>.ref t.1) (S:=fun σ=>(a,az (ts.map fun t=>.ref t.1))∈σ) fun U h=>h
 let X1:Cx:={X with A:=X.A.in1}
 have up: ∀{σ:Led}{s:Shared},Inv X ρ σ s→Inv X1 ρ σ s:=fun I=>I.to rfl rfl rfl rfl
 have dn: ∀{σ:Led}{s:Shared},Inv X1 ρ σ s→Inv X ρ σ s:=fun I=>I.to rfl rfl rfl rfl
 have hlen:(ts.map fun t=>PV.ref t.1).length=ts.length:=by simp
 intro k
 induction k with
 | zero=>
  intro j s b HE hj hb Is hR;have Bn:j=ts.length:=NN HE hj;subst Bn;refine uj (Is.obj (.tail _ (.head _))) fun vs n ho de=> ?_
  refine uk de.two fun v1 v2 ah r1 r2=> ?_;subst ah
  have r1:=ow r1;have r2:=ow r2;subst r1;subst r2;refine codeAny_builtin PySem.F.entry_max_loop ?_
  rw[Around.under_plainId PySem.F.plain_max_loop _];show wpAny _ X.A.in1 (seqItems? (.ref S) >>= _) _ _ s;refine wpAny_bind (wpAny_seqItems ho rfl ?_);show wpAny _ X.A.in1 (tryCatch (pyNext (.ref I)) _ >>= _) _ _ s;refine wpAny_bind (wpAny_tryCatch (wpAny_mono ((Sq []).nd X1 I ((S,az [.ref b.1,.ref b.1])::σ) hh (.tail _ hm) ρ s (by rw[hlen];exact up Is)) (fun r s' q=> ?_) fun U U f=>f.elim));refine bo q fun ah I'=> ?_;clear q;subst ah
  refine uj (I'.obj (.head _)) fun vs n ho de=> ?_
  refine uk de.two fun v1 v2 ah r1 r2=> ?_;subst ah
  have r1:=ow r1;have r2:=ow r2;subst r1;subst r2;show wpAny _ X.A.in1 (updateSeq S (fun U=> #[]) >>= _) _ _ _;refine wpAny_bind ?_
  refine wpAny_updateSeq ho rfl (wpAny_bind (wpAny_letGo (wpAny_pure ?_)));have hf:=hR _ (dn (I'.turn (σ':=(S,az [])::σ) (h':=s'.heap.update S (Obj.mapSeq fun U=> #[])) (tk:=s'.toks) .here (Heap.SameBut.update ..) (Heap.get?_update_self _ ho rfl) ⟨[],_,.nil,rfl⟩));rw[List.drop_of_length_le (Nat.le_refl _)] at hf
  exact hf
 | succ k ih=>
  intro j s b HE hj hb Is hR;have df:j<ts.length:=Ng HE;refine uj (Is.obj (.tail _ (.head _))) fun vs n ho de=> ?_
  refine uk de.two fun v1 v2 ah r1 r2=> ?_;subst ah
  have r1:=ow r1;have r2:=ow r2;subst r1;subst r2;refine codeAny_builtin PySem.F.entry_max_loop ?_
  rw[Around.under_plainId PySem.F.plain_max_loop _];show wpAny _ X.A.in1 (seqItems? (.ref S) >>= _) _ _ s;refine wpAny_bind (wpAny_seqItems ho rfl ?_);show wpAny _ X.A.in1 (tryCatch (pyNext (.ref I)) _ >>= _) _ _ s;refine wpAny_bind (wpAny_tryCatch (wpAny_mono ((Sq []).nx X1 I j ((S,az [.ref b.1,.ref b.1])::σ) hh (by rw[hlen];exact df) (.tail _ hm) ρ s (up Is)) (fun r s' q=> ?_) fun U U f=>f.elim));refine gR q fun u ah xN I'=> ?_;clear q;subst ah
  rw[zx ts j df] at xN
  have xN:=ow xN;subst xN;show wpAny _ X.A.in1 (tryCatch (holding [.ref (ts[j]).1,.ref (ts[j]).1] (richCompare .Gt (.ref (ts[j]).1) (.ref b.1) >>= _)) _ >>= _) _ _ _;refine wpAny_bind (wpAny_tryCatch (wpAny_holding (wpAny_bind (wpAny_mono (zu (X:=X1) (by show X.A.units+1<9900;exact ą hu) (.inl (.tail _ (.tail _ (hk _ (List.getElem_mem df))))) (.inl (.tail _ (.tail _ (hk _ hb)))) s' I') (fun r au q=> ?_) fun U U f=>f.elim))));refine bo q fun ah aH=> ?_;clear q;subst ah
  refine wpAny_bind (wpAny_holding (wpAny_truthy_bool ?_));refine wpAny_bind (wpAny_letGo (wpAny_pure ?_));have hd:ts.drop j=ts[j]::ts.drop (j+1):=List.drop_eq_getElem_cons df;rw[hd,List.foldl_cons] at hR
  cases hg:H0 (ts[j]).2.1 (ts[j]).2.2 b.2.1 b.2.2 with
  | true=>
   have e:f9 b ts[j]=ts[j]:=by unfold f9;rw[hg];rfl
   rw[e] at hR
   simp only[if_true]
   refine uj (aH.obj (.tail _ (.head _))) fun vs n ho de=> ?_
   refine uk de.two fun v1 v2 ah r1 r2=> ?_;subst ah
   refine wpAny_bind ?_
   refine wpAny_updateSeq ho rfl (wpAny_bind (wpAny_letGo ?_));rw[r4];refine wpAny_pure ⟨plainId_quiet PySem.F.plain_max_loop _,ih (j+1) _ ts[j] (IM HE) (IW df) (List.getElem_mem df) (dn (aH.turn (tk:=au.toks) (.there .here) (Heap.SameBut.update ..) (Heap.get?_update_self _ ho rfl) ⟨[.ref (ts[j]).1,.ref (ts[j]).1],_,.cons (.ref _) (.cons (.ref _) .nil),rfl⟩)) hR⟩
  | false=>
   have e:f9 b ts[j]=b:=by unfold f9;rw[hg];rfl
   rw[e] at hR
   simp only[Bool.false_eq_true,if_false]
   refine wpAny_bind (wpAny_letGo ?_);rw[r4];exact wpAny_pure ⟨plainId_quiet PySem.F.plain_max_loop _,ih (j+1) _ b (IM HE) (IW df) hb (dn aH) hR⟩
theorem Ip (hh:X.A.handled=none) (hu:X.A.units<9800) {a:Addr}{t:P2}{ts:List P2}(hm:(a,az ((t::ts).map fun t=>.ref t.1))∈σ) (hk: ∀u∈t::ts,(u.1,gG [.int u.2.1,.int u.2.2])∈σ) (us:List Value) (h:cu [.ref a] us):
  jP prog w X (call (.builtin "max") us) ρ σ (.ref (ts.foldl f9 t).1):=fun s I=>by
 have r4:(toString "max"++toString ".loop":String)="max.loop":=by decide
 refine aF h.one fun u ah xN=> ?_;subst ah
 have xN:=ow xN;subst xN
 let X1:Cx:={X with A:=X.A.in1}
 have Sq:=dq (prog:=prog) (w:=w) (ax:=a) (ps:=(t::ts).map fun t=>.ref t.1) (S:=fun σ=>(a,az ((t::ts).map fun t=>.ref t.1))∈σ) fun U h=>h
 refine call_function_tree PySem.F.kind_max PySem.F.plain_max PySem.F.entry_max (PySem.F.args_max1 _) ?_
 show wpAny _ X.A.in1 (Builtin.Builtins.bindParams "max" ["key","default"] 0 ⟨[],[]⟩ >>= _) _ _ s;refine wpAny_bind (wpAny_of_eq (show Builtin.Builtins.bindParams "max" ["key","default"] 0 ⟨[],[]⟩=pure [none,none] from rfl) ?_);refine wpAny_bind (wpAny_pure ?_);refine aF (I.obj hm) fun ol qS pl=> ?_
 refine aF (pl.list qS) fun vs hv il=> ?_
 refine wpAny_bind (wpAny_pyIter_list il ?_);have aS:=I.push (P:=uw a s.heap.objs.size 0) (o:={cls:=.type "list_iterator",data:=.fields #[.ref a,.int 0 0]}) ⟨rfl,rfl⟩ rfl (tk:=s.toks);refine wpAny_bind (wpAny_newObj_type ?_);have aH:=aS.push (P:=az []) (o:={cls:=.type "list",data:=.seq ([]:List Value).toArray}) ⟨[],0,.nil,rfl⟩ rfl (tk:=s.toks);dsimp only at aH ⊢
 generalize s.heap.objs.size=It at aH ⊢
 generalize (s.heap.push {cls:=.type "list_iterator",data:=.fields #[.ref a,.int 0 0]}).objs.size=S at aH ⊢
 rw[r4];refine wpAny_pure ⟨plainId_quiet PySem.F.plain_max_loop _,?_⟩;have cg:Inv X1 ρ ((It,uw a It 0)::(S,az [])::σ) _:=(aH.perm (List.Perm.swap _ _ _)).to rfl rfl rfl rfl;refine uj (cg.obj (.tail _ (.head _))) fun vs n ho de=> ?_
 cases de
 refine codeAny_builtin PySem.F.entry_max_loop ?_
 rw[Around.under_plainId PySem.F.plain_max_loop _];show wpAny _ X.A.in1 (seqItems? (.ref S) >>= _) _ _ _;refine wpAny_bind (wpAny_seqItems ho rfl ?_);show wpAny _ X.A.in1 (tryCatch (pyNext (.ref It)) _ >>= _) _ _ _;refine wpAny_bind (wpAny_tryCatch (wpAny_mono (Sq.nx X1 It 0 ((S,az [])::σ) hh (by simp) (.tail _ hm) ρ _ cg) (fun r s' q=> ?_) fun U U f=>f.elim));refine gR q fun u ah xN I'=> ?_;clear q;subst ah
 have xN:=ow xN;subst xN;refine uj (I'.obj (.tail _ (.head _))) fun vs n ho de=> ?_
 cases de
 show wpAny _ X.A.in1 (updateSeq S (fun U=> #[.ref t.1,.ref t.1]) >>= _) _ _ _;refine wpAny_bind ?_
 refine wpAny_updateSeq ho rfl ?_
 rw[r4];have kA:Inv X ρ ((It,uw a It 1)::(S,az [.ref t.1,.ref t.1])::σ) _:=(I'.turn (h':=s'.heap.update S (Obj.mapSeq fun U=> #[.ref t.1,.ref t.1])) (tk:=s'.toks) (.there .here) (Heap.SameBut.update ..) (Heap.get?_update_self _ ho rfl) ⟨[.ref t.1,.ref t.1],_,.cons (.ref _) (.cons (.ref _) .nil),rfl⟩).to rfl rfl rfl rfl;refine wpAny_pure ⟨plainId_quiet PySem.F.plain_max_loop _,yW (ρ:=ρ) (σ:=σ) hh hu hm hk _ 1 _ t rfl (by simp) (.head _) kA fun gX qP=> ?_⟩;exact⟨.ref _,qP.sub (.cons _ (.refl _))⟩
end
theorem jt (a b:Int) (k:Nat) (h:b=a+k):Builtin.Range.rangeSize a b 1=k:=by
 unfold Builtin.Range.rangeSize;simp only[show ((1:Int)>0) by decide,if_true];split<;>omega
noncomputable def Pn (a b c:Int):Addr→Nat→Obj→Prop:=fun U i o=>o={cls:=.type "range_iterator",dict:=none,data:=.fields #[rawInt (a+i*c),rawInt (Builtin.Range.rangeSize a b c-i),rawInt c],slots:= #[]}
section
variable {prog:Program}{w:World}{X:Cx}{ρ bC:Ro}{σ σ':Led}{T:aX}{n:Nat}{R R':PV→Led→Prop}{K:PF→Ro→Led→Prop}
theorem wj {a b c:Int}{k:Nat}(hk:Builtin.Range.rangeSize a b c=k):jO prog w k (fun i=>.int (a+i*c)) (Pn a b c) (fun U=>True) where
 nx X I i σ hh hi _ ρ s Is:=by
  refine mY (Is.obj (.head _)) fun ho=> ?_
  refine wpAny_pyNext_range_item (x:=a+i*c) (left:=Builtin.Range.rangeSize a b c-i) (step:=c) ho (by rw[hk];exact IP hi) fun h' jC gw=>⟨_,rfl,.int _ _,?_⟩
  have e1:a+((i+1:Nat):Int)*c=a+i*c+c:=by
   rw[Int.natCast_add,Int.add_mul];exact S5
  have e2:Builtin.Range.rangeSize a b c-((i+1:Nat):Int)=Builtin.Range.rangeSize a b c-i-1:=IG;exact Is.turn .here gw jC (by rw[Pn,e1,e2])
 nd X I σ hh _ ρ s Is:=by
  refine mY (Is.obj (.head _)) fun ho=> ?_
  exact wpAny_pyNext_range_end hh (x:=a+k*c) (left:=Builtin.Range.rangeSize a b c-k) (step:=c) ho (by rw[hk];exact Jk hk) fun h' gw=>⟨rfl,Is.done gw⟩
 self X I i ρ σ s Q E _ Is hQ:=by
  refine mY (Is.obj (.head _)) fun ho=> ?_
  exact wpAny_pyIter_rangeiter (x:=a+i*c) (left:=Builtin.Range.rangeSize a b c-i) (step:=c) ho hQ
theorem DU {x:Str}{p pos:Pos}{e f g:Expr}{a b c:Int}(hf:XE prog w X (.Name x p) ρ σ (.type "range")) (h:PE prog w X e ρ σ (.int a)) (h2:PE prog w X f ρ σ (.int b)) (h3:PE prog w X g ρ σ (.int c)) (hc:c≠0)
  (hs:Builtin.Range.small a b c=true) (hp:Builtin.divisionGoesByPylong (b-a) c=false)
  (he:starEach [e,f,g] X.env=[(false,eval e X.env),(false,eval f X.env),(false,eval g X.env)]:=by rfl):
  vc prog w X (.Call (.Name x p) [e,f,g] [] pos) ρ σ (fun I=>Pn a b c I 0):=
 iN hf (bO (ž h h2 h3 he)) (fun vs σ' r us hv s I=>by
  refine bo r fun ah aU=> ?_;clear r;subst ah;subst aU
  refine Hh hv.three fun u v z ah hu Hx hz=> ?_;subst ah
  revert hv;refine vI hu fun t hv=> ?_;revert hv;refine vI Hx fun t hv=> ?_;revert hv;refine vI hz fun t hv=> ?_
  refine call_range_3 hc ?_ (.inl hp);refine wpAny_pyIter_range (a:=a) (b:=b) (c:=c) (Heap.get?_push_size _ rfl) hs ?_
  refine⟨_,rfl,?_⟩
  refine((I.push (P:=fun U=>True) trivial rfl (o:={cls:=.type "range",data:=.fields #[.int a _,.int b _,.int c _]}) (tk:=s.toks)).push (P:=Pn a b c _ 0) (by show _ =_;simp) rfl).sub (.cons₂ _ (.cons _ (.refl _)))) (by rw[he];rfl)
theorem js {x:Str}{px pos:Pos}{iter:Expr}{body orelse:List Stmt}{k:Nat}{xs:Nat→PV}{It:Addr→Nat→Obj→Prop}{S:Led→Prop}(Sq:jO prog w k xs It S) (hh:X.A.handled=none) (J:Nat→Ro→Led→Prop)
  (hi:vc prog w X iter ρ σ fun I=>It I 0) (h0:J 0 ρ σ) (hS: ∀i ρ σ,J i ρ σ→S σ)
  (hb: ∀I i ρ σ,i<k→J i ρ σ→I∉σ.map (·.1)→ ∃bC σ',(∀u,VR (xs i) u→gb prog w X x u ρ ((I,It I (i+1))::σ) bC σ')∧
   SE prog w X body bC σ' (jR K fun eJ ak=> ∃aR,J (i+1) eJ aR∧((I,It I (i+1))::aR).Sublist ak))
  (he: ∀ρ σ,J k ρ σ→SE prog w X orelse ρ σ K)
  (hf: ∀x,foldedSetIterable iter X.env x=pure x:=by intro _;rfl):S1 prog w X (.For (.Name x px) iter body orelse pos) ρ σ K:=
 oo k xs It J hi h0 (fun I i ρ σ df hJ=>Sq.nx _ I i _ hh df (hS _ _ _ hJ)) (fun I ρ σ hJ=>Sq.nd _ I _ hh (hS _ _ _ hJ)) hb he hf
theorem gJ {x:Str}{px pos:Pos}{iter:Expr}{body orelse:List Stmt}{a b:Int}(k:Nat) (hk:b=a+k) (hh:X.A.handled=none) (J:Nat→Ro→Led→Prop)
  (hi:vc prog w X iter ρ σ fun I=>tv a b I 0) (h0:J 0 ρ σ)
  (hb: ∀I i ρ σ,i<k→J i ρ σ→I∉σ.map (·.1)→ ∃bC σ',(∀u,VR (.int (a+i)) u→gb prog w X x u ρ ((I,tv a b I (i+1))::σ) bC σ')∧
   SE prog w X body bC σ' (jR K fun eJ ak=> ∃aR,J (i+1) eJ aR∧((I,tv a b I (i+1))::aR).Sublist ak))
  (he: ∀ρ σ,J k ρ σ→SE prog w X orelse ρ σ K)
  (hf: ∀x,foldedSetIterable iter X.env x=pure x:=by intro _;rfl):S1 prog w X (.For (.Name x px) iter body orelse pos) ρ σ K:=
 js (g5 (jt a b k hk)) hh J hi h0 (fun U U U U=>trivial) hb he hf
theorem Dg {x:Str}{px pos:Pos}{iter:Expr}{body orelse:List Stmt}{ps:List PV}(hh:X.A.handled=none) (J:Addr→Nat→Ro→Led→Prop)
  (hi:NE prog w X iter ρ σ (az ps)) (h0: ∀a,J a 0 ρ ((a,az ps)::σ)) (hS: ∀a i ρ σ,J a i ρ σ→(a,az ps)∈σ)
  (hb: ∀a I i ρ σ,i<ps.length→J a i ρ σ→I∉σ.map (·.1)→ ∃bC σ',(∀u,VR (ps.getD i .none) u→gb prog w X x u ρ ((I,uw a I (i+1))::σ) bC σ')∧
   SE prog w X body bC σ' (jR K fun eJ ak=> ∃aR,J a (i+1) eJ aR∧((I,uw a I (i+1))::aR).Sublist ak))
  (he: ∀a ρ σ,J a ps.length ρ σ→SE prog w X orelse ρ σ K)
  (hf: ∀x,foldedSetIterable iter X.env x=pure x:=by intro _;rfl):S1 prog w X (.For (.Name x px) iter body orelse pos) ρ σ K:=
 Dh ps.length (fun i=>ps.getD i .none) uw (fun a=>(a,az ps)::σ) J (y5 hi) h0
  (fun a I i ρ σ df hJ=>(dq (S:=fun σ=>(a,az ps)∈σ) fun U h=>h).nx _ I i _ hh df (hS _ _ _ _ hJ))
  (fun a I ρ σ hJ=>(dq (S:=fun σ=>(a,az ps)∈σ) fun U h=>h).nd _ I _ hh (hS _ _ _ _ hJ)) hb he hf
theorem yT {elt iter:Expr}{x:Str}{px pos:Pos}{scope:Scope}{cl:List (Str×Addr)}{ps:List PV}(ys:Nat→PV) (gy:X.FL=X.L) (hh:X.A.handled=none)
  (eT:closureFor scope X.env=pure cl) (bM: ∀y∈scope.names,y.2≠ .cell) (cC:scope.kind= .function)
  (dE: ∀y∈scope.names,y.2= .local→scope.names.lookup y.1=some .local) (hx:scope.names.lookup x=some .local)
  (hi:NE prog w X iter ρ σ (az ps)) (hl:ps.length≤16777216)
  (eS: ∀C aD i,i<ps.length→(∀p∈(X.L,isNs ρ)::σ,p∈aD)→PE prog w (X.comp scope cl C x) elt [(x,some (ps.getD i .none))] aD (ys i))
  (hs: ∀x,foldedSetIterable iter X.env x=pure x:=by intro _;rfl) (mC:(x==("__debug__":Str))=false:=by decide):
  NE prog w X (.ListComp elt [⟨.Name x px,iter,[],0⟩] scope pos) ρ σ (az ((List.range ps.length).map ys)):=
 yU (S:=fun a σ=>(a,az ps)∈σ) (fun a=>dq fun U h=>h) ys gy hh eT bM cC dE hx (y5 hi) (fun a=>.cons _ (.refl _)) (fun a D zs=>.tail _ (.tail _ (.head _))) hl eS hs mC
theorem mn {elt iter:Expr}{x:Str}{px pos:Pos}{scope:Scope}{cl:List (Str×Addr)}{a b:Int}(k:Nat) (hk:b=a+k) (ys:Nat→PV) (gy:X.FL=X.L) (hh:X.A.handled=none)
  (eT:closureFor scope X.env=pure cl) (bM: ∀y∈scope.names,y.2≠ .cell) (cC:scope.kind= .function)
  (dE: ∀y∈scope.names,y.2= .local→scope.names.lookup y.1=some .local) (hx:scope.names.lookup x=some .local)
  (hi:vc prog w X iter ρ σ fun I=>tv a b I 0) (hl:k≤16777216)
  (eS: ∀C aD i,i<k→(∀p∈(X.L,isNs ρ)::σ,p∈aD)→PE prog w (X.comp scope cl C x) elt [(x,some (.int (a+i)))] aD (ys i))
  (hs: ∀x,foldedSetIterable iter X.env x=pure x:=by intro _;rfl) (mC:(x==("__debug__":Str))=false:=by decide):
  NE prog w X (.ListComp elt [⟨.Name x px,iter,[],0⟩] scope pos) ρ σ (az ((List.range k).map ys)):=
 vA (g5 (jt a b k hk)) ys gy hh eT bM cC dE hx hi (fun U U=>trivial) hl eS hs mC
theorem Hd (O:cU T n X) {l r:Expr}{pos:Pos}{ns ms:List Int}(hl:NE prog w X l ρ σ (az (dK ns))) (hr: ∀a,NE prog w X r ρ ((a,az (dK ns))::σ) (az (dK ms))) (hb:behindInMarks .NotEq r=false:=by rfl):
  PE prog w X (.Compare l [.NotEq] [r] pos) ρ σ (.bool (!decide (ns=ms))):=fun s I=>
 wpAny_Compare1 (wpAny_mono (hl s I) (fun jW s₁ q₁=>by
  refine aF q₁ fun a ah aS=> ?_;clear q₁;subst ah
  refine wpAny_mono (hr a s₁ aS) (fun gH au dg=> ?_) fun U U f=>f
  refine aF dg fun b ah aH=> ?_;clear dg;subst ah
  refine aF (aH.obj (.tail _ (.head _))) fun o ho po=> ?_
  refine aF (po.list ho) fun vs de il=> ?_
  refine aF (aH.obj (.head _)) fun o' ig oA=> ?_
  refine aF (oA.list ig) fun us ia jl=> ?_
  exact ne_intsK il (rZ de) jl (rZ ia) (by have:=O.un;show X.A.units+64<9900;exact Y6 this) ⟨.bool _,aH.sub (.cons _ (.cons _ (.refl _)))⟩) fun U U f=>f) hb
end
noncomputable def dH (L:List Nat) (i:Nat):Bool:=decide (L.getD ((i+L.length-1)%L.length) 0<L.getD (i%L.length) 0)
noncomputable def nu (b:Nat→Bool) (n:Nat):Nat→Nat→Nat→Option Nat
 | 0,_,_=>none
 | m+1,j,st=>if 1<st+1&&b j then (if (st+1)%2=1 then some ((j+1-(st+1))%n) else nu b n m (j+1) 0) else nu b n m (j+1) (st+1)
def nr (b:Nat→Bool) (n:Nat):Nat→Nat→Option Nat
 | 0,_=>none
 | m+1,k=>if !b (k+n-1)&&b k then (match nu b n n (k+1) 0 with | some r=>some r | none=>nr b n m (k+1)) else nr b n m (k+1)
def jk (b:Nat→Bool) (n:Nat):Option Nat:=nr b n n 0
noncomputable def vh:Option Nat→Int
 | some r=>r
 | none=> -1
def gq (L:List Nat):Int:=vh (jk (dH L) L.length)
section
variable {prog:Program}{w:World}{T:aX}{n:Nat}
theorem uq (a b:Nat):decide ([a]<[b])=decide (a<b):=by
 by_cases h:a<b
 ·have:[a]<[b]:=List.Lex.rel h
  simp[h,this]
 ·have: ¬[a]<[b]:=by
   intro q;cases q with
   | rel q=>exact h q
   | cons q=>cases q
  simp[h,this]
theorem kh {L:List Nat}{i:Nat}:dD L (i:Int)=L.getD i 0:=by
 unfold dD;rw[if_neg Ae];rfl
theorem nO {L:List Nat}{i:Int}(h:i<0):dD L i=L.getD (i+L.length).toNat 0:=by
 unfold dD;rw[if_pos h]
theorem z7 (L:List Nat) (h:2≤L.length) (i:Nat):dH L (i%L.length)=dH L i:=by
 unfold dH;have e:(i%L.length+L.length-1)%L.length=(i+L.length-1)%L.length:=by
  have h1:=Nat.div_add_mod i L.length;have h2:=Nat.mod_lt i (show 0<L.length by exact xu h);generalize L.length=n at*
  have:i+n-1=i%n+n-1+n*(i/n):=Uc h1 h2
  rw[this,Nat.add_mul_mod_self_left]
 rw[e,Nat.mod_mod]
theorem bV (a b:Nat) (h:0<b):(a:Int).fmod b=((a%b:Nat):Int):=by
 rw[Int.fmod_eq_emod_of_nonneg _ (ĩ h)];omega
theorem iH {X:Cx}{ρ:Ro}{σ:Led}{v e:Expr}{pos:Pos}{L:List Nat}{i:Int}{j:Nat}(hv:PE prog w X v ρ σ (.str L)) (he:PE prog w X e ρ σ (.int i)) (h0: -(L.length:Int)≤i) (h1:i<L.length) (hn:L.length≤1000) (hj:j=(i+L.length).toNat%L.length)
  (hs: ∀x y,subscripted e false x y=operate [x,y] (getItem x y):=by intro _ _;rfl):PE prog w X (.Subscript v e pos) ρ σ (.str [L.getD j 0]):=by
 have e':L.getD j 0=dD L i:=by
  subst hj;by_cases h:i<0
  ·rw[nO h,Nat.mod_eq_of_lt (II h0 h)]
  ·rw[show i=((i.toNat:Nat):Int) by exact ũ h,kh,show ((i.toNat:Int)+L.length).toNat=i.toNat+L.length by exact Te,Nat.add_mod_right,Nat.mod_eq_of_lt (IH h0 h1)]
 rw[e'];exact eP hv he h0 h1 (xt hn) hs
theorem vg {a:mP}(D:Text T a) (G:cS T) {L:List Nat}(h2:2≤L.length) (hn:L.length≤1000):tm prog w T (n+1) (.ref a.turn) [.str L] (.int (gq L)):=
 fG D.turn ["ring"] ["size","k","steps","j"] (fun U U U U U U us hl=>by refine gF (kf hl) fun u ah=> ?_;subst ah;rfl) dC dC rfl dC rfl rfl rfl (fun A L' g os bu σ O Y=>by
  show SE _ _ _ _ [(("ring":Str),some (.str L)),(("size":Str),none),(("k":Str),none),(("steps":Str),none),(("j":Str),none)] σ _;refine af (aI Y (bg (aC O rfl G.len.1 G.len.2) (gQ (ag Y 0 rfl)) (fj (å hn))) (.there (.here)) ?_);refine af (gJ (a:=0) (b:=L.length) L.length OB O.hh
   (fun i ρ σ'=>σ'=σ∧(∃o1 o2 o3,ρ=[(("ring":Str),some (.str L)),(("size":Str),some (.int L.length)),(("k":Str),o1),(("steps":Str),o2),(("j":Str),o3)])∧vh (nr (dH L) L.length (L.length-i) i)=gq L)
   (eF (aC O rfl G.range.1 G.range.2) (ag Y 1 rfl) (dA OD NR E6 (Oe hn))) ⟨rfl,⟨_,_,_,rfl⟩,rfl⟩ ?_ ?_)
  ·rintro I k ρ σ' hk ⟨rfl,⟨o1,o2,o3,rfl⟩,ht⟩ hI;refine⟨_,_,fun u hu=>aq Y (.there (.there (.here))) hu,?_⟩;rw[Int.zero_add];have hm:L.length-k=(L.length-(k+1))+1:=Nr hk;rw[hm,nr.eq_2] at ht
   have b1:dH L (k+L.length-1)=decide (L.getD ((k+L.length-2)%L.length) 0<L.getD ((k+L.length-1)%L.length) 0):=by
    unfold dH;rw[show (k+L.length-1+L.length-1)=k+L.length-2+L.length by exact Yp h2,Nat.add_mod_right]
   have b2:dH L k=decide (L.getD ((k+L.length-1)%L.length) 0<L.getD k 0):=by
    unfold dH;rw[Nat.mod_eq_of_lt hk]
   have Kk:k=((k:Int)+L.length).toNat%L.length:=by
    rw[show ((k:Int)+L.length).toNat=k+L.length by exact Zb,Nat.add_mod_right,Nat.mod_eq_of_lt hk]
   refine af (bH (c:= !dH L (k+L.length-1)&&dH L k) (by
    rw[b1,b2,←uq,←uq,←Bool.and_true (decide ([L.getD ((k+L.length-1)%L.length) 0]<[L.getD k 0]))];refine dw (bb (iH (ag Y 0 rfl) (fY (ag Y 2 rfl) ai) (Yq h2) (YB hm) hn (by congr 1;exact Zq)) (iH (ag Y 0 rfl) (fY (ag Y 2 rfl) ai) (NS hm) (NP hm) hn (by congr 1;exact N2)) Ik) fun U=>
     dw (bb (iH (ag Y 0 rfl) (fY (ag Y 2 rfl) ai) (NS hm) (NP hm) hn (by congr 1;exact N2)) (iH (ag Y 0 rfl) (ag Y 2 rfl) kU (Yz hm) hn Kk) zP) fun U=>iP) (fun h=> ?_) (fun h=> ?_))
   ·rw[h] at ht
    simp only[if_true] at ht
    refine af (aI Y ai (.there (.there (.there (.here)))) ?_);refine af (gJ (a:=(k:Int)+1) (b:=(k:Int)+1+L.length) L.length rfl O.hh
     (fun i ρ ak=>ak=(I,tv 0 L.length I (k+1))::σ'∧(∃(st:Nat) (o3:Option PV),ρ=[(("ring":Str),some (.str L)),(("size":Str),some (.int L.length)),(("k":Str),some (.int k)),(("steps":Str),some (.int st)),(("j":Str),o3)]∧st≤i∧
      vh (match nu (dH L) L.length (L.length-i) (k+1+i) st with | some r=>some r | none=>nr (dH L) L.length (L.length-(k+1)) (k+1))=gq L))
     (ki (aC O rfl G.range.1 G.range.2) (bQ (ag Y 2 rfl) ai) (bQ (bQ (ag Y 2 rfl) ai) (ag Y 1 rfl)) (dA Œ (W0 hn hk) Zm (W2 hn hk))) ⟨rfl,0,_,rfl,Nat.le_refl _,ht⟩ ?_ ?_)
    ·rintro I2 i ρ ak hi ⟨rfl,st,o3,rfl,iL,hj⟩ hI2;refine⟨_,_,fun u hu=>aq Y (.there (.there (.there (.there (.here))))) hu,?_⟩;have hm:L.length-i=(L.length-(i+1))+1:=Nr hi;rw[hm,nu.eq_2] at hj
     refine af (lS (fZ Y (.tail _ (.tail _ (.tail _ (.head _))))) ai oM (fun u hu=>aq Y (.there (.there (.there (.here)))) hu) ?_);have Mm:((k:Int)+1+i)=((k+1+i:Nat):Int):=ZC;rw[Mm];have bj:dH L (k+1+i)=decide (L.getD ((k+i)%L.length) 0<L.getD ((k+1+i)%L.length) 0):=by
      unfold dH;rw[show (k+1+i+L.length-1)=k+i+L.length by exact Wi,Nat.add_mod_right]
     have LK:((st:Int)+1)=((st+1:Nat):Int):=Ř;have df:decide (1<st+1)=decide ((1:Int)<((st:Int)+1)):=by
      by_cases h:1<st+1
      ·rw[decide_eq_true h,decide_eq_true (Ġ h)]
      ·rw[decide_eq_false h,decide_eq_false (ZU h)]
     have hL:0<L.length:=YQ hm;refine af (bH (c:=decide (1<st+1)&&dH L (k+1+i)) (by
      rw[df,bj,←uq,←Bool.and_true (decide ([L.getD ((k+i)%L.length) 0]<[L.getD ((k+1+i)%L.length) 0]))];refine dw (bb (ag Y 3 rfl) ai mG) fun U=>
       dw (bb (iH (i:=((k+i)%L.length:Nat)) (ag Y 0 rfl) ?_ (by generalize (k+i)%L.length=q;exact kU) (by have:=Nat.mod_lt (k+i) hL;generalize (k+i)%L.length=q at*;exact EW this) hn (by rw[show (((k+i)%L.length:Nat):Int)+L.length=(((k+i)%L.length+L.length:Nat):Int) by exact xo,Int.toNat_natCast,Nat.add_mod_right,Nat.mod_mod])) (iH (i:=((k+1+i)%L.length:Nat)) (ag Y 0 rfl) ?_ (by generalize (k+1+i)%L.length=q;exact kU) (by have:=Nat.mod_lt (k+1+i) hL;generalize (k+1+i)%L.length=q at*;exact EW this) hn (by rw[show (((k+1+i)%L.length:Nat):Int)+L.length=(((k+1+i)%L.length+L.length:Nat):Int) by exact xo,Int.toNat_natCast,Nat.add_mod_right,Nat.mod_mod])) zP) fun U=>iP
      ·rw[←bV _ _ hL,show ((k+i:Nat):Int)=((k+1+i:Nat):Int)-1 by exact ZD];exact cG (fY (ag Y 4 rfl) ai) (ag Y 1 rfl) (Ai hL)
      ·rw[←bV _ _ hL];exact cG (ag Y 4 rfl) (ag Y 1 rfl) (Ai hL)) (fun h=> ?_) (fun h=> ?_))
     ·rw[h] at hj
      simp only[if_true] at hj
      refine af (bH (c:=(((st+1)%2:Nat):Int) != 0) (eH (v:=.int (((st+1)%2:Nat):Int)) (by
       rw[←bV _ _ dC,←LK];exact cG (ag Y 3 rfl) ai dC) (fun u s h I=>tT u s h I)) (fun h2=> ?_) (fun h2=> ?_))
      ·have wW:(st+1)%2=1:=by
        have:(((st+1)%2:Nat):Int)≠0:=by simpa using h2
        exact Ť this
       rw[if_pos wW] at hj
       refine af (bf (v:=.int (gq L)) ?_ ⟨rfl,.cons _ (.cons _ (.refl _))⟩);rw[←hj];show PE _ _ _ _ _ _ (.int ((((k+1+i+1-(st+1))%L.length:Nat)):Int));rw[←bV _ _ hL,show ((k+1+i+1-(st+1):Nat):Int)=((k+1+i:Nat):Int)+1-((st:Int)+1) by exact Ut iL];exact cG (fY (bQ (ag Y 4 rfl) ai) (ag Y 3 rfl)) (ag Y 1 rfl) (Ai hL)
      ·have wW: ¬(st+1)%2=1:=by
        have:(((st+1)%2:Nat):Int)=0:=by simpa using h2
        exact ť this
       rw[if_neg wW] at hj
       refine aj (af (aI Y ai (.there (.there (.there (.here)))) (aj (aj ⟨_,⟨rfl,0,_,rfl,by exact Ģ,hj⟩,.refl _⟩))))
     ·rw[h] at hj
      simp only[Bool.false_eq_true,if_false] at hj
      refine aj (aj ⟨_,⟨rfl,st+1,_,by rw[LK],by exact Xx iL,hj⟩,.refl _⟩)
    ·rintro ρ ak ⟨rfl,st,o3,rfl,iL,hj⟩;rw[Nat.sub_self,nu.eq_1] at hj
     exact aj (aj (aj ⟨_,⟨rfl,⟨_,_,_,rfl⟩,hj⟩,.refl _⟩))
   ·rw[h] at ht
    simp only[Bool.false_eq_true,if_false] at ht
    refine aj (aj ⟨_,⟨rfl,⟨_,_,_,rfl⟩,ht⟩,.refl _⟩)
  ·rintro ρ σ' ⟨rfl,⟨o1,o2,o3,rfl⟩,ht⟩;refine aj (af (bf (v:=.int (gq L)) ?_ ⟨rfl,.refl _⟩));rw[←ht,Nat.sub_self];exact eO ai)
end
noncomputable abbrev fL (dU eh dW dX dY dZ d8 d9 ei ec ed ef eg dO dP eV dQ fk a9 a8 a7 a6 a5 a4 a3 a2 a1 a0:Option PV):Ro:=[(("script":Str),a0),(("numbers":Str),a1),(("number":Str),a2),(("shape":Str),a3),(("marks":Str),a4),(("size":Str),a5),(("whole":Str),a6),(("ring":Str),a7),(("text":Str),a8),(("begin":Str),a9),(("unseen":Str),fk),(("commas":Str),dQ),(("pieces":Str),eV),(("typed":Str),dP),(("spot":Str),dO),(("width":Str),eg),(("room":Str),ef),(("maker":Str),ed),(("rows":Str),ec),(("cut":Str),ei),(("page":Str),d9),(("told":Str),d8),(("sign":Str),dZ),(("wants":Str),dY),(("due":Str),dX),(("fore":Str),dW),(("aft":Str),eh),(("place":Str),dU)]
section
variable{dU eh dW dX dY dZ d8 d9 ei ec ed ef eg dO dP eV dQ fk a9 a8 a7 a6 a5 a4 a3 a2 a1 a0 b:Option PV}
theorem uF1:Up "numbers" b (fL dU eh dW dX dY dZ d8 d9 ei ec ed ef eg dO dP eV dQ fk a9 a8 a7 a6 a5 a4 a3 a2 a1 a0) (fL dU eh dW dX dY dZ d8 d9 ei ec ed ef eg dO dP eV dQ fk a9 a8 a7 a6 a5 a4 a3 a2 b a0):=(.there .here)
theorem uF2:Up "number" b (fL dU eh dW dX dY dZ d8 d9 ei ec ed ef eg dO dP eV dQ fk a9 a8 a7 a6 a5 a4 a3 a2 a1 a0) (fL dU eh dW dX dY dZ d8 d9 ei ec ed ef eg dO dP eV dQ fk a9 a8 a7 a6 a5 a4 a3 b a1 a0):=(.there (.there .here))
theorem uF3:Up "shape" b (fL dU eh dW dX dY dZ d8 d9 ei ec ed ef eg dO dP eV dQ fk a9 a8 a7 a6 a5 a4 a3 a2 a1 a0) (fL dU eh dW dX dY dZ d8 d9 ei ec ed ef eg dO dP eV dQ fk a9 a8 a7 a6 a5 a4 b a2 a1 a0):=(.there (.there (.there .here)))
theorem uF4:Up "marks" b (fL dU eh dW dX dY dZ d8 d9 ei ec ed ef eg dO dP eV dQ fk a9 a8 a7 a6 a5 a4 a3 a2 a1 a0) (fL dU eh dW dX dY dZ d8 d9 ei ec ed ef eg dO dP eV dQ fk a9 a8 a7 a6 a5 b a3 a2 a1 a0):=(.there (.there (.there (.there .here))))
theorem uF5:Up "size" b (fL dU eh dW dX dY dZ d8 d9 ei ec ed ef eg dO dP eV dQ fk a9 a8 a7 a6 a5 a4 a3 a2 a1 a0) (fL dU eh dW dX dY dZ d8 d9 ei ec ed ef eg dO dP eV dQ fk a9 a8 a7 a6 b a4 a3 a2 a1 a0):=(.there (.there (.there (.there (.there .here)))))
theorem uF6:Up "whole" b (fL dU eh dW dX dY dZ d8 d9 ei ec ed ef eg dO dP eV dQ fk a9 a8 a7 a6 a5 a4 a3 a2 a1 a0) (fL dU eh dW dX dY dZ d8 d9 ei ec ed ef eg dO dP eV dQ fk a9 a8 a7 b a5 a4 a3 a2 a1 a0):=(.there (.there (.there (.there (.there (.there .here))))))
theorem uF7:Up "ring" b (fL dU eh dW dX dY dZ d8 d9 ei ec ed ef eg dO dP eV dQ fk a9 a8 a7 a6 a5 a4 a3 a2 a1 a0) (fL dU eh dW dX dY dZ d8 d9 ei ec ed ef eg dO dP eV dQ fk a9 a8 b a6 a5 a4 a3 a2 a1 a0):=(.there (.there (.there (.there (.there (.there (.there .here)))))))
theorem uF8:Up "text" b (fL dU eh dW dX dY dZ d8 d9 ei ec ed ef eg dO dP eV dQ fk a9 a8 a7 a6 a5 a4 a3 a2 a1 a0) (fL dU eh dW dX dY dZ d8 d9 ei ec ed ef eg dO dP eV dQ fk a9 b a7 a6 a5 a4 a3 a2 a1 a0):=(.there (.there (.there (.there (.there (.there (.there (.there .here))))))))
theorem Pk:Up "begin" b (fL dU eh dW dX dY dZ d8 d9 ei ec ed ef eg dO dP eV dQ fk a9 a8 a7 a6 a5 a4 a3 a2 a1 a0) (fL dU eh dW dX dY dZ d8 d9 ei ec ed ef eg dO dP eV dQ fk b a8 a7 a6 a5 a4 a3 a2 a1 a0):=(.there (.there (.there (.there (.there (.there (.there (.there (.there .here)))))))))
theorem Qd:Up "unseen" b (fL dU eh dW dX dY dZ d8 d9 ei ec ed ef eg dO dP eV dQ fk a9 a8 a7 a6 a5 a4 a3 a2 a1 a0) (fL dU eh dW dX dY dZ d8 d9 ei ec ed ef eg dO dP eV dQ b a9 a8 a7 a6 a5 a4 a3 a2 a1 a0):=(.there (.there (.there (.there (.there (.there (.there (.there (.there (.there .here))))))))))
theorem Qc:Up "commas" b (fL dU eh dW dX dY dZ d8 d9 ei ec ed ef eg dO dP eV dQ fk a9 a8 a7 a6 a5 a4 a3 a2 a1 a0) (fL dU eh dW dX dY dZ d8 d9 ei ec ed ef eg dO dP eV b fk a9 a8 a7 a6 a5 a4 a3 a2 a1 a0):=(.there (.there (.there (.there (.there (.there (.there (.there (.there (.there (.there .here)))))))))))
theorem Qb:Up "pieces" b (fL dU eh dW dX dY dZ d8 d9 ei ec ed ef eg dO dP eV dQ fk a9 a8 a7 a6 a5 a4 a3 a2 a1 a0) (fL dU eh dW dX dY dZ d8 d9 ei ec ed ef eg dO dP b dQ fk a9 a8 a7 a6 a5 a4 a3 a2 a1 a0):=(.there (.there (.there (.there (.there (.there (.there (.there (.there (.there (.there (.there .here))))))))))))
theorem Qa:Up "typed" b (fL dU eh dW dX dY dZ d8 d9 ei ec ed ef eg dO dP eV dQ fk a9 a8 a7 a6 a5 a4 a3 a2 a1 a0) (fL dU eh dW dX dY dZ d8 d9 ei ec ed ef eg dO b eV dQ fk a9 a8 a7 a6 a5 a4 a3 a2 a1 a0):=(.there (.there (.there (.there (.there (.there (.there (.there (.there (.there (.there (.there (.there .here)))))))))))))
theorem P9:Up "spot" b (fL dU eh dW dX dY dZ d8 d9 ei ec ed ef eg dO dP eV dQ fk a9 a8 a7 a6 a5 a4 a3 a2 a1 a0) (fL dU eh dW dX dY dZ d8 d9 ei ec ed ef eg b dP eV dQ fk a9 a8 a7 a6 a5 a4 a3 a2 a1 a0):=(.there (.there (.there (.there (.there (.there (.there (.there (.there (.there (.there (.there (.there (.there .here))))))))))))))
theorem P8:Up "width" b (fL dU eh dW dX dY dZ d8 d9 ei ec ed ef eg dO dP eV dQ fk a9 a8 a7 a6 a5 a4 a3 a2 a1 a0) (fL dU eh dW dX dY dZ d8 d9 ei ec ed ef b dO dP eV dQ fk a9 a8 a7 a6 a5 a4 a3 a2 a1 a0):=(.there (.there (.there (.there (.there (.there (.there (.there (.there (.there (.there (.there (.there (.there (.there .here)))))))))))))))
theorem GP:Up "room" b (fL dU eh dW dX dY dZ d8 d9 ei ec ed ef eg dO dP eV dQ fk a9 a8 a7 a6 a5 a4 a3 a2 a1 a0) (fL dU eh dW dX dY dZ d8 d9 ei ec ed b eg dO dP eV dQ fk a9 a8 a7 a6 a5 a4 a3 a2 a1 a0):=(.there (.there (.there (.there (.there (.there (.there (.there (.there (.there (.there (.there (.there (.there (.there (.there .here))))))))))))))))
theorem P7:Up "maker" b (fL dU eh dW dX dY dZ d8 d9 ei ec ed ef eg dO dP eV dQ fk a9 a8 a7 a6 a5 a4 a3 a2 a1 a0) (fL dU eh dW dX dY dZ d8 d9 ei ec b ef eg dO dP eV dQ fk a9 a8 a7 a6 a5 a4 a3 a2 a1 a0):=(.there (.there (.there (.there (.there (.there (.there (.there (.there (.there (.there (.there (.there (.there (.there (.there (.there .here)))))))))))))))))
theorem P6:Up "rows" b (fL dU eh dW dX dY dZ d8 d9 ei ec ed ef eg dO dP eV dQ fk a9 a8 a7 a6 a5 a4 a3 a2 a1 a0) (fL dU eh dW dX dY dZ d8 d9 ei b ed ef eg dO dP eV dQ fk a9 a8 a7 a6 a5 a4 a3 a2 a1 a0):=(.there (.there (.there (.there (.there (.there (.there (.there (.there (.there (.there (.there (.there (.there (.there (.there (.there (.there .here))))))))))))))))))
theorem P5:Up "cut" b (fL dU eh dW dX dY dZ d8 d9 ei ec ed ef eg dO dP eV dQ fk a9 a8 a7 a6 a5 a4 a3 a2 a1 a0) (fL dU eh dW dX dY dZ d8 d9 b ec ed ef eg dO dP eV dQ fk a9 a8 a7 a6 a5 a4 a3 a2 a1 a0):=(.there (.there (.there (.there (.there (.there (.there (.there (.there (.there (.there (.there (.there (.there (.there (.there (.there (.there (.there .here)))))))))))))))))))
theorem P4:Up "page" b (fL dU eh dW dX dY dZ d8 d9 ei ec ed ef eg dO dP eV dQ fk a9 a8 a7 a6 a5 a4 a3 a2 a1 a0) (fL dU eh dW dX dY dZ d8 b ei ec ed ef eg dO dP eV dQ fk a9 a8 a7 a6 a5 a4 a3 a2 a1 a0):=(.there (.there (.there (.there (.there (.there (.there (.there (.there (.there (.there (.there (.there (.there (.there (.there (.there (.there (.there (.there .here))))))))))))))))))))
theorem KC:Up "told" b (fL dU eh dW dX dY dZ d8 d9 ei ec ed ef eg dO dP eV dQ fk a9 a8 a7 a6 a5 a4 a3 a2 a1 a0) (fL dU eh dW dX dY dZ b d9 ei ec ed ef eg dO dP eV dQ fk a9 a8 a7 a6 a5 a4 a3 a2 a1 a0):=(.there (.there (.there (.there (.there (.there (.there (.there (.there (.there (.there (.there (.there (.there (.there (.there (.there (.there (.there (.there (.there .here)))))))))))))))))))))
theorem P1:Up "sign" b (fL dU eh dW dX dY dZ d8 d9 ei ec ed ef eg dO dP eV dQ fk a9 a8 a7 a6 a5 a4 a3 a2 a1 a0) (fL dU eh dW dX dY b d8 d9 ei ec ed ef eg dO dP eV dQ fk a9 a8 a7 a6 a5 a4 a3 a2 a1 a0):=(.there (.there (.there (.there (.there (.there (.there (.there (.there (.there (.there (.there (.there (.there (.there (.there (.there (.there (.there (.there (.there (.there .here))))))))))))))))))))))
theorem P0:Up "wants" b (fL dU eh dW dX dY dZ d8 d9 ei ec ed ef eg dO dP eV dQ fk a9 a8 a7 a6 a5 a4 a3 a2 a1 a0) (fL dU eh dW dX b dZ d8 d9 ei ec ed ef eg dO dP eV dQ fk a9 a8 a7 a6 a5 a4 a3 a2 a1 a0):=(.there (.there (.there (.there (.there (.there (.there (.there (.there (.there (.there (.there (.there (.there (.there (.there (.there (.there (.there (.there (.there (.there (.there .here)))))))))))))))))))))))
theorem PZ:Up "due" b (fL dU eh dW dX dY dZ d8 d9 ei ec ed ef eg dO dP eV dQ fk a9 a8 a7 a6 a5 a4 a3 a2 a1 a0) (fL dU eh dW b dY dZ d8 d9 ei ec ed ef eg dO dP eV dQ fk a9 a8 a7 a6 a5 a4 a3 a2 a1 a0):=(.there (.there (.there (.there (.there (.there (.there (.there (.there (.there (.there (.there (.there (.there (.there (.there (.there (.there (.there (.there (.there (.there (.there (.there .here))))))))))))))))))))))))
theorem PY:Up "fore" b (fL dU eh dW dX dY dZ d8 d9 ei ec ed ef eg dO dP eV dQ fk a9 a8 a7 a6 a5 a4 a3 a2 a1 a0) (fL dU eh b dX dY dZ d8 d9 ei ec ed ef eg dO dP eV dQ fk a9 a8 a7 a6 a5 a4 a3 a2 a1 a0):=(.there (.there (.there (.there (.there (.there (.there (.there (.there (.there (.there (.there (.there (.there (.there (.there (.there (.there (.there (.there (.there (.there (.there (.there (.there .here)))))))))))))))))))))))))
theorem PX:Up "aft" b (fL dU eh dW dX dY dZ d8 d9 ei ec ed ef eg dO dP eV dQ fk a9 a8 a7 a6 a5 a4 a3 a2 a1 a0) (fL dU b dW dX dY dZ d8 d9 ei ec ed ef eg dO dP eV dQ fk a9 a8 a7 a6 a5 a4 a3 a2 a1 a0):=(.there (.there (.there (.there (.there (.there (.there (.there (.there (.there (.there (.there (.there (.there (.there (.there (.there (.there (.there (.there (.there (.there (.there (.there (.there (.there .here))))))))))))))))))))))))))
theorem PU:Up "place" b (fL dU eh dW dX dY dZ d8 d9 ei ec ed ef eg dO dP eV dQ fk a9 a8 a7 a6 a5 a4 a3 a2 a1 a0) (fL b eh dW dX dY dZ d8 d9 ei ec ed ef eg dO dP eV dQ fk a9 a8 a7 a6 a5 a4 a3 a2 a1 a0):=(.there (.there (.there (.there (.there (.there (.there (.there (.there (.there (.there (.there (.there (.there (.there (.there (.there (.there (.there (.there (.there (.there (.there (.there (.there (.there (.there .here)))))))))))))))))))))))))))
end
structure tG where
 (k order book bw kinds one two:Addr)
noncomputable def SV (c:tG):List (Str×Addr):=[("two",c.two),("one",c.one),("kinds",c.kinds),("sent",c.bw),("book",c.book),("order",c.order),("k",c.k)]
def lX (fa:Addr) (c:tG) (A:Around) (L:Addr) (g:Heap) (os:OsState) (bu:Value):Cx:=⟨A,envX "law" (ao (ST 21)) L fa bu (SV c),L,L,g,os,["script","numbers","number","shape","marks","size","whole","ring","text","begin","unseen","commas","pieces","typed","spot","width","room","maker","rows","cut","page","told","sign","wants","due","fore","aft","place"]⟩
def lB (i:Nat):List Stmt:=(bodyOf (ST 21)).drop i
theorem lq {l:List Int}{i:Nat}(h:i<l.length):cB (dK l) (i:Int)= .int (l.getD i 0):=by
 unfold cB dK;rw[if_neg (NA h)];simp[List.getD_eq_getElem?_getD,h]
theorem Du (l:List Int) (k:Nat) (c:Int):(dK l).set k (.int c)=dK (l.set k c):=by simp[dK,List.map_set]
theorem cK (l:List Int):(dK l).length=l.length:=by simp[dK]
section
variable {prog:Program}{w:World}{T:aX}{n:Nat}{a:mP}{fa:Addr}{c:tG}{A:Around}{L:Addr}{g:Heap}{os:OsState}{bu:Value}{K:PF→Ro→Led→Prop}{rest:Led}{fD fU eE fb fP iS fI eD ez e8 cA cR cQ bL bK ck cj cI cH bD bW c7 bJ bZ bB bA bz bU:Option PV}{dz aM aZ bx aK aJ aL:Option PV}
theorem Qr (G:cS T) (O:cU T n (lX fa c A L g os bu)) (Y:Lay (lX fa c A L g os bu)) {ns:List Int}{sa:Addr}(hs: ∃o,g.get? sa=some o∧az (dK ns) o) (hn:ns.length≤1000)
  (k: ∀b l xk,l.length=6→SE prog w (lX fa c A L g os bu) (lB 2) (fL bU bz bA bB bZ bJ c7 bW bD cH cI cj ck bK bL cQ cR cA e8 ez eD fI iS fP fb eE (some (.ref b)) (some (.ref sa))) ((b,az (dK l))::(c.k,ae (xk))::(c.order,ae aM)::(c.book,ae aZ)::(c.bw,ae bx)::(c.kinds,ae aK)::(c.one,ae aJ)::(c.two,ae aL)::rest) K):
  SE prog w (lX fa c A L g os bu) (lB 0) (fL bU bz bA bB bZ bJ c7 bW bD cH cI cj ck bK bL cQ cR cA e8 ez eD fI iS fP fb eE fU (some (.ref sa))) ((c.k,ae dz)::(c.order,ae aM)::(c.book,ae aZ)::(c.bw,ae bx)::(c.kinds,ae aK)::(c.one,ae aJ)::(c.two,ae aL)::rest) K:=by
 refine af (du Y (ρf:=fun b=>(fL bU bz bA bB bZ bJ c7 bW bD cH cI cj ck bK bL cQ cR cA e8 ez eD fI iS fP fb eE (some (.ref b)) (some (.ref sa)))) (eR (.cons ai (.cons ai (.cons ai (.cons ai (.cons ai (.cons ai .nil))))))) (fun b=>uF1) (fun b hb=> ?_));refine af (gJ (a:=0) (b:=ns.length) ns.length (æ hn) O.hh (fun i ρ σ'=>ρ=(fL bU bz bA bB bZ bJ c7 bW bD cH cI cj ck bK bL cQ cR cA e8 ez eD fI iS fP fb eE (some (.ref b)) (some (.ref sa)))∧ ∃l xk,l.length=6∧σ'=(b,az (dK l))::(c.k,ae (xk))::(c.order,ae aM)::(c.book,ae aZ)::(c.bw,ae bx)::(c.kinds,ae aK)::(c.one,ae aJ)::(c.two,ae aL)::rest)
  (eF (aC O rfl G.range.1 G.range.2) (by
   rw[←cK ns];exact bg (aC O rfl G.len.1 G.len.2) (gQ (ag Y 0 rfl)) (z3 (.inr hs) (by rw[cK];exact xt hn))) (dA (Oh hn) (Og hn) (é hn) (Oe hn)))
  ⟨rfl,[4097,272,65793,118,867,41],_,rfl,rfl⟩ ?_ ?_)
 ·rintro I i ρ σ' hi ⟨rfl,l,xk,hl,rfl⟩ hI;refine⟨_,_,fun u hu=>cw (c:=c.k) (v₀:=xk) rfl rfl rfl (by trivial) hu,?_⟩;rw[Int.zero_add];have e6:((i:Nat):Int).fmod 6=((i%6:Nat):Int):=bV i 6 dC;have h6:=Nat.mod_lt i (show 0<6 by decide);refine af (Dj (a:=b) (ps:=dK l) (k:=((i:Nat):Int).fmod 6) (v:=.int (ns.getD i 0)) (c:=.int (l.getD (i%6) 0+ns.getD i 0)) (ag Y 1 rfl) (cG (ay (c:=c.k) rfl rfl rfl (by trivial)) ai dC) (bR (ag Y 0 rfl) (.inr hs) (ay (c:=c.k) rfl rfl rfl (by trivial)) kU (by rw[cK];exact EW hi) (by rw[cK];exact xt hn) (lq hi))
   (S9 e6) (by rw[cK,hl];exact S8 e6) (by rw[cK,hl];exact ż) (by rw[e6];exact lq (W9 hl)) oM (by trivial) ?_)
  refine aj ⟨_,⟨rfl,l.set (i%6) (l.getD (i%6) 0+ns.getD i 0),some (.int i),by simp[hl],rfl⟩,?_⟩;rw[e6,Int.toNat_natCast,Du];exact .refl _
 ·rintro ρ σ' ⟨rfl,l,xk,hl,rfl⟩;exact aj (k b l xk hl)
theorem Qq (G:cS T) (O:cU T n (lX fa c A L g os bu)) (Y:Lay (lX fa c A L g os bu)) {b:Addr}{l:List Int}(hl:l.length=6)
  (k: ∀bk (s o m:Nat) (sz:Nat),s<1000000→o<1000000→m<1000000→sz=3+s%3*2→
   SE prog w (lX fa c A L g os bu) (lB 6) (fL bU bz bA bB bZ bJ c7 bW bD cH cI cj ck bK bL cQ cR cA e8 ez eD (some (.int ((16^sz-1:Nat):Int))) (some (.int sz)) (some (.int m)) (some (.int s)) eE (some (.ref b)) fD) ((bk,az [])::(b,az (dK l))::(c.k,ae dz)::(c.order,ae (some (.int o)))::(c.book,ae (some (.ref bk)))::(c.bw,ae bx)::(c.kinds,ae aK)::(c.one,ae aJ)::(c.two,ae aL)::rest) K):
  SE prog w (lX fa c A L g os bu) (lB 2) (fL bU bz bA bB bZ bJ c7 bW bD cH cI cj ck bK bL cQ cR cA e8 ez eD fI iS fP fb eE (some (.ref b)) fD) ((b,az (dK l))::(c.k,ae dz)::(c.order,ae aM)::(c.book,ae aZ)::(c.bw,ae bx)::(c.kinds,ae aK)::(c.one,ae aJ)::(c.two,ae aL)::rest) K:=by
 obtain⟨l0,l1,l2,l3,l4,l5,rfl⟩:=Lg hl;have h3:=cO l3 (b:=1000000) dC;have h4:=cO l4 (b:=1000000) dC;have h5:=cO l5 (b:=1000000) dC;have e3:=Int.toNat_of_nonneg h3.1;have e4:=Int.toNat_of_nonneg h4.1;have e5:=Int.toNat_of_nonneg h5.1;have xO:sl (dK [l0,l1,l2,l3,l4,l5]) (some 3) none=dK [l3,l4,l5]:=rfl;refine af (iG (ts:=[assign _ _,assign _ _,assign _ _]) (b0 (yT (cl:=[]) (ps:=dK [l3,l4,l5]) (fun i=>.int (([l3,l4,l5].getD i 0).fmod 1000000)) rfl O.hh rfl dC rfl dC rfl (xO ▸ fc (ag Y 1 rfl) (.inl (by trivial)) (aV ai) bS (by show 6≤16777216;decide)) (by show 3≤16777216;decide) (fun C aD i hi hm=> ?_))) (fun v σ' r=> ?_) rfl)
 ·have e:(dK [l3,l4,l5]).getD i .none= .int ([l3,l4,l5].getD i 0):=Rh i hi rfl rfl rfl;rw[e];exact cG (cW (Lay.comp rfl rfl) (.head _)) ai dC
 ·refine aF r fun q ah aU=> ?_;clear r;subst ah;subst aU
  have el:((List.range (dK [l3,l4,l5]).length).map fun i=>PV.int (([l3,l4,l5].getD i 0).fmod 1000000))=[.int (l3.fmod 1000000),.int (l4.fmod 1000000),.int (l5.fmod 1000000)]:=rfl;rw[el,←e3,←e4,←e5];refine⟨q,_,rfl,CX O.hh (.head _),rfl,cD (fR (fun u hu=>aq Y uF3 hu)) (cD (fR (fun u hu=>cw (c:=c.order) (v₀:=aM) rfl rfl rfl (by trivial) hu)) (cD (fR (fun u hu=>aq Y uF4 hu)) (gV ?_)))⟩;refine SE.sub ?_ (.cons _ (.refl _));generalize hs:(l3.fmod 1000000).toNat=s at*
  generalize (l4.fmod 1000000).toNat=o at*
  generalize (l5.fmod 1000000).toNat=m at*
  obtain⟨sz,gB⟩: ∃sz,sz=3+s%3*2:=⟨_,rfl⟩;have hm3:=Nat.mod_lt s (show 0<3 by decide);have es:(3:Int)+(s:Int).fmod 3*2=(sz:Nat):=by
   have:=bV s 3 dC
   rw[show ((3:Nat):Int)=3 from rfl] at this
   rw[this];exact Xi gB
  refine af (aI Y (v:=.int (sz:Nat)) (by
   rw[←es];exact bQ ai (iZ (cG (ag Y 3 rfl) ai dC) ai (PySem.IntMulOk.of_right dC))) uF5 ?_)
  have ew:(16:Int)^(sz:Int).toNat-1=((16^sz-1:Nat):Int):=by
   rw[Int.toNat_natCast];have h0:0<16^sz:=Nat.pow_pos dC;have e:(16:Int)^sz=((16^sz:Nat):Int):=by simp
   rw[e];exact Oz h0
  refine af (aI Y (v:=.int ((16^sz-1:Nat):Int)) (by
   rw[←ew];exact fY (oB ai (ag Y 5 rfl) sH (Ya gB) dC) ai) uF6 ?_)
  refine af (dc (R:=fun v σ'=> ∃bk,v= .ref bk∧σ'=(bk,az [])::(b,az (dK [l0,l1,l2,l3,l4,l5]))::(c.k,ae dz)::(c.order,ae (some (.int (o:Nat))))::(c.book,ae aZ)::(c.bw,ae bx)::(c.kinds,ae aK)::(c.one,ae aJ)::(c.two,ae aL)::rest) (b0 (eR .nil)) (fun v σ' r=> ?_));refine aF r fun bk ah aU=> ?_;clear r;subst ah;subst aU
  exact⟨_,_,fun u hu=>cw (c:=c.book) (v₀:=aZ) rfl rfl rfl (by trivial) hu,k bk s o m sz (Jl h3.2 e3) (Jl h4.2 e4) (Jl h5.2 e5) gB⟩
end
theorem rN {a:Nat}{b:Int}(h:a<2^64):IntMulOk (a:Int) b:=.of_left (PySem.intBits_le_iff.mpr (by rw[Int.natAbs_natCast];exact h))
noncomputable def c5 (sz r:Nat):Nat:=if r*15%(16^sz-1)=0 then r+1 else r
def vt (sz:Nat) (l:Int):Nat:=c5 sz (l.fmod ((16^sz-1:Nat):Int)).toNat
def hO (sz r:Nat):Nat:=(gq (dj r sz)).toNat
def dv (sz:Nat) (l:Int):List Nat:=dj (vt sz l*16^hO sz (vt sz l)%(16^sz-1)) sz
def qN (sz:Nat):Prop:= ∀r0,r0<16^sz-1→c5 sz r0<16^sz-1∧gq (dj (c5 sz r0) sz)=(hO sz (c5 sz r0):Nat)∧hO sz (c5 sz r0)<sz∧
 dj (c5 sz r0*16^hO sz (c5 sz r0)%(16^sz-1)) sz=(dj (c5 sz r0) sz).drop (hO sz (c5 sz r0))++(dj (c5 sz r0) sz).take (hO sz (c5 sz r0))
theorem iE {r sz:Nat}(h:r<16^sz):(dj r sz).length=sz:=by
 have:=fE sz r h
 unfold dj;simp;exact Wv this
theorem rX (l:List (List Nat)) (x:List Nat):cB (aG (l++[x])) (-1)= .str x:=by
 rw[my _ (by simp)];simp
section
variable {prog:Program}{w:World}{T:aX}{n:Nat}{a:mP}{fa:Addr}{c:tG}{A:Around}{L:Addr}{g:Heap}{os:OsState}{bu:Value}{K:PF→Ro→Led→Prop}{rest:Led}{fD fU eE fb fP iS fI eD ez e8 cA cR cQ bL bK ck cj cI cH bD bW c7 bJ bZ bB bA bz bU:Option PV}{dz aM aZ bx aK aJ aL:Option PV}
theorem Qp (D:Text T a) (G:cS T) (O:cU T (n+4) (lX fa c A L g os bu)) (Y:Lay (lX fa c A L g os bu)) {b bk:Addr}{l0 l1 l2 l3 l4 l5:Int}{sz:Nat}(gB:sz≤7) (h3:3≤sz) (H:qN sz)
  (k: ∀eE eD ez e8,
   SE prog w (lX fa c A L g os bu) (lB 7) (fL bU bz bA bB bZ bJ c7 bW bD cH cI cj ck bK bL cQ cR cA e8 ez eD (some (.int ((16^sz-1:Nat):Int))) (some (.int sz)) fP fb eE (some (.ref b)) fD) ((bk,az (aG ([l0,l1,l2].map (dv sz))))::(b,az (dK [l0,l1,l2,l3,l4,l5]))::(c.k,ae dz)::(c.order,ae aM)::(c.book,ae (some (.ref bk)))::(c.bw,ae bx)::(c.kinds,ae aK)::(c.one,ae aJ)::(c.two,ae aL)::rest) K):
  SE prog w (lX fa c A L g os bu) (lB 6) (fL bU bz bA bB bZ bJ c7 bW bD cH cI cj ck bK bL cQ cR cA e8 ez eD (some (.int ((16^sz-1:Nat):Int))) (some (.int sz)) fP fb eE (some (.ref b)) fD) ((bk,az [])::(b,az (dK [l0,l1,l2,l3,l4,l5]))::(c.k,ae dz)::(c.order,ae aM)::(c.book,ae (some (.ref bk)))::(c.bw,ae bx)::(c.kinds,ae aK)::(c.one,ae aJ)::(c.two,ae aL)::rest) K:=by
 have xO:sl (dK [l0,l1,l2,l3,l4,l5]) none (some 3)=dK [l0,l1,l2]:=rfl;have hw:0<16^sz-1:=by
  have:16^1≤16^sz:=Nat.pow_le_pow_right (by decide) (ė h3)
  exact ņ this
 have Rq:16^sz≤16^7:=Nat.pow_le_pow_right (by decide) gB;refine af (Dg O.hh (fun q i ρ σ'=> ∃eE eD ez e8,ρ=(fL bU bz bA bB bZ bJ c7 bW bD cH cI cj ck bK bL cQ cR cA e8 ez eD (some (.int ((16^sz-1:Nat):Int))) (some (.int sz)) fP fb eE (some (.ref b)) fD)∧
   σ'=(q,az (dK [l0,l1,l2]))::(bk,az (aG (([l0,l1,l2].map (dv sz)).take i)))::(b,az (dK [l0,l1,l2,l3,l4,l5]))::(c.k,ae dz)::(c.order,ae aM)::(c.book,ae (some (.ref bk)))::(c.bw,ae bx)::(c.kinds,ae aK)::(c.one,ae aJ)::(c.two,ae aL)::rest)
  (xO ▸ fc (ag Y 1 rfl) (.inl (by trivial)) bS (aV ai) (by show 6≤16777216;decide)) (fun q=>⟨_,_,_,_,rfl,rfl⟩) (fun q i ρ σ' h=>by refine K4 h fun U U U U U ah=> ?_;clear h;subst ah;exact .head _) ?_ ?_)
 ·rintro q I i ρ σ' hi ⟨eE,eD,ez,e8,rfl,rfl⟩ hI;have hi:i<3:=hi;have e:(dK [l0,l1,l2]).getD i .none= .int ([l0,l1,l2].getD i 0):=Rh i hi rfl rfl rfl;rw[e];refine⟨_,_,fun u hu=>aq Y uF2 hu,?_⟩;have ht:([l0,l1,l2].map (dv sz)).take (i+1)=([l0,l1,l2].map (dv sz)).take i++[dv sz ([l0,l1,l2].getD i 0)]:=Rh i hi rfl rfl rfl;generalize [l0,l1,l2].getD i 0=num at ht ⊢
  have hr:=cO num (b:=((16^sz-1:Nat):Int)) (OA hw);have er:=Int.toNat_of_nonneg hr.1;obtain⟨r0,LV⟩: ∃r0,(num.fmod ((16^sz-1:Nat):Int)).toNat=r0:=⟨_,rfl⟩;rw[LV] at er
  have df:r0<16^sz-1:=ZJ hr.2 er;refine Ke (H r0 df) fun H1 H2 H3 H4=> ?_
  have F5:dv sz num=dj (c5 sz r0*16^hO sz (c5 sz r0)%(16^sz-1)) sz:=by unfold dv vt;rw[LV]
  refine af (aI Y (v:=.int (r0:Nat)) (by rw[er];exact cG (ag Y 2 rfl) (ag Y 6 rfl) (IQ H1)) uF7 ?_);have h15:((r0:Int)*15).fmod ((16^sz-1:Nat):Int)=((r0*15%(16^sz-1):Nat):Int):=by
   rw[←bV _ _ hw];simp
  have vK:SE prog w (lX fa c A L g os bu) ((iM (cx (bodyOf (ST 21)) 6)).drop 2) (fL bU bz bA bB bZ bJ c7 bW bD cH cI cj ck bK bL cQ cR cA e8 ez (some (.int (c5 sz r0:Nat))) (some (.int ((16^sz-1:Nat):Int))) (some (.int sz)) fP fb (some (.int num)) (some (.ref b)) fD)
   ((I,uw q I (i+1))::(q,az (dK [l0,l1,l2]))::(bk,az (aG (([l0,l1,l2].map (dv sz)).take i)))::(b,az (dK [l0,l1,l2,l3,l4,l5]))::(c.k,ae dz)::(c.order,ae aM)::(c.book,ae (some (.ref bk)))::(c.bw,ae bx)::(c.kinds,ae aK)::(c.one,ae aJ)::(c.two,ae aL)::rest)
   (jR (JX prog w (lX fa c A L g os bu) (lB 7) K) fun eJ ak=> ∃aR,(∃eE eD ez e8,eJ=(fL bU bz bA bB bZ bJ c7 bW bD cH cI cj ck bK bL cQ cR cA e8 ez eD (some (.int ((16^sz-1:Nat):Int))) (some (.int sz)) fP fb eE (some (.ref b)) fD)∧
   aR=(q,az (dK [l0,l1,l2]))::(bk,az (aG (([l0,l1,l2].map (dv sz)).take (i+1))))::(b,az (dK [l0,l1,l2,l3,l4,l5]))::(c.k,ae dz)::(c.order,ae aM)::(c.book,ae (some (.ref bk)))::(c.bw,ae bx)::(c.kinds,ae aK)::(c.one,ae aJ)::(c.two,ae aL)::rest)∧((I,uw q I (i+1))::aR).Sublist ak):=by
   generalize hrg:c5 sz r0=r at*
   generalize nP:hO sz r=tn at*
   have h8:r<16^8:=W7 Rq H1;refine af (aI Y (v:=.str (dj r sz)) (cZ (k:=2) O (.inl rfl) D.word.isFn (cP O rfl D.F7) (Bp (eO (ag Y 7 rfl)) (ag Y 5 rfl)) (by
    have:=vf (prog:=prog) (w:=w) (n:=0) D G (i:= -(r:Int)) (sz:=sz) (ē h8) (by rw[Int.natAbs_neg,Int.natAbs_natCast];exact fE sz r (o4 H1)) (N9 gB)
    rw[Int.natAbs_neg,Int.natAbs_natCast] at this
    exact this) Ox) uF8 ?_)
   have jA:(dj r sz).length=sz:=iE (o4 H1);refine af (aI Y (v:=.int (tn:Nat)) (by
    rw[←H2];exact cZ (k:=1) O (.inl rfl) D.turn.isFn (cP O rfl D.F8) (gQ (ag Y 8 rfl)) (vg (n:=0) D G (NM h3 jA) (Nj gB jA)) ğ) Pk ?_)
   have ME:16^tn≤16^7:=Nat.pow_le_pow_right (by decide) (WG gB H3);have hm:((r:Int)*16^(tn:Int).toNat).fmod ((16^sz-1:Nat):Int)=((r*16^tn%(16^sz-1):Nat):Int):=by
    rw[←bV _ _ hw];simp
   have RT:=Nat.mod_lt (r*16^tn) hw;refine af (eY (a:=bk) (ps:=aG (([l0,l1,l2].map (dv sz)).take i)) (ay (c:=c.book) rfl rfl rfl (by trivial)) (aQ (v:=.str (dv sz num)) (by
    rw[F5];refine cZ (k:=2) O (.inl rfl) D.word.isFn (cP O rfl D.F7) (Bp (v:=.int ((r*16^tn%(16^sz-1):Nat):Int)) (by
     rw[←hm];exact cG (iZ (ag Y 7 rfl) (oB ai (ag Y 9 rfl) sH (WH gB H3) (by decide)) (rN (đ h8))) (ag Y 6 rfl) (IQ RT)) (ag Y 5 rfl)) ?_ Ox
    have:=vf (prog:=prog) (w:=w) (n:=0) D G (i:=((r*16^tn%(16^sz-1):Nat):Int)) (sz:=sz) (W8 Rq RT) (by rw[Int.natAbs_natCast];exact fE sz _ (o4 RT)) (N9 gB)
    rw[Int.natAbs_natCast] at this
    exact this)) (fun v σ' r=> ?_) (by trivial) (by rw[aO,List.length_take];simp;exact Ŀ))
   refine bo r fun ah aU=> ?_;clear r;subst ah;subst aU
   refine⟨_,(by trivial),?_⟩;rw[show aG (([l0,l1,l2].map (dv sz)).take i)++[PV.str (dv sz num)]=aG (([l0,l1,l2].map (dv sz)).take (i+1)) by rw[ht,←gK]];have hlen:(aG (([l0,l1,l2].map (dv sz)).take (i+1))).length=i+1:=by rw[aO,List.length_take];simp;exact ċ hi
   refine af (bH (c:=false) (by
    have e0:(dv sz num != sl (dj r sz) (some (tn:Int)) none++sl (dj r sz) none (some (tn:Int)))=false:=by
     rw[F5,H4,ft,jq];simp
    rw[←e0];refine bb (bR (i:= -1) (p:=.str (dv sz num)) (ay (c:=c.book) rfl rfl rfl (by trivial)) (.inl (by trivial)) (eO ai) (by exact XZ hlen) (by exact Al) (by exact Xq hi hlen) (by rw[ht];exact rX _ _)) (bh (cb (ag Y 8 rfl) (aV (ag Y 9 rfl)) bS (by exact z9 gB jA)) (cb (ag Y 8 rfl) bS (aV (ag Y 9 rfl)) (by exact z9 gB jA)) ?_) uL;rw[ft,jq];simp;exact Uu gB jA) (fun h=>by cases h) (fun U=> ?_))
   exact aj (aj ⟨_,⟨_,_,_,_,rfl,rfl⟩,.refl _⟩)
  refine af (bH (c:=(((r0*15%(16^sz-1):Nat):Int)==0)) (by
   rw[←h15];exact bb (cG (iZ (ag Y 7 rfl) ai (rN (W6 Rq df))) (ag Y 6 rfl) (IQ H1)) ai zV) (fun h=> ?_) (fun h=> ?_))
  ·have h0:r0*15%(16^sz-1)=0:=by have:=beq_iff_eq.mp h;exact Ĭ this
   have e1:c5 sz r0=r0+1:=by unfold c5;rw[if_pos h0]
   refine af (lS (fZ Y (.tail _ (.tail _ (.tail _ (.tail _ (.tail _ (.tail _ (.tail _ (.head _))))))))) ai oM (fun u hu=>aq Y uF7 hu) (aj ?_));rw[e1] at vK
   exact vK
  ·have h0: ¬r0*15%(16^sz-1)=0:=by have:=beq_eq_false_iff_ne.mp h;exact ī this
   have e1:c5 sz r0=r0:=by unfold c5;rw[if_neg h0]
   rw[e1] at vK
   exact aj vK
 ·rintro q ρ σ' ⟨eE,eD,ez,e8,rfl,rfl⟩;exact aj (SE.sub (k _ _ _ _) (.cons _ (.refl _)))
end
noncomputable def ka (o k:Nat):Nat:=o/3^k%3
def bG (bs:List (List Nat)) (o:Nat):List (List Nat):=(List.range 4).map fun k=>bs.getD (ka o k) []
theorem ej (a b:Nat):(a:Int).fdiv b=((a/b:Nat):Int):=by
 rw[Int.fdiv_eq_ediv_of_nonneg _ sH];simp
theorem fv {l:List (List Nat)}{i:Nat}(h:i<l.length):cB (aG l) (i:Int)= .str (l.getD i []):=by
 unfold cB aG;rw[if_neg (NA h)];simp[List.getD_eq_getElem?_getD,h]
theorem QN: ∀i:Nat,i<4→(3:Nat)^i≤27:=by decide
section
variable {prog:Program}{w:World}{T:aX}{n:Nat}{a:mP}{fa:Addr}{c:tG}{A:Around}{L:Addr}{g:Heap}{os:OsState}{bu:Value}{K:PF→Ro→Led→Prop}{rest:Led}{fD fU eE fb fP iS fI eD ez e8 cA cR cQ bL bK ck cj cI cH bD bW c7 bJ bZ bB bA bz bU:Option PV}{dz aM aZ bx aK aJ aL:Option PV}
theorem Qo (D:Text T a) (G:cS T) (O:cU T n (lX fa c A L g os bu)) (Y:Lay (lX fa c A L g os bu)) {bk:Addr}{bs:List (List Nat)}(HY:bs.length=3) {o:Nat}
  (k: ∀st,SE prog w (lX fa c A L g os bu) (lB 8) (fL bU bz bA bB bZ bJ c7 bW bD cH cI cj ck bK bL cQ cR cA e8 ez eD fI iS fP fb eE fU fD) ((st,az (aG (bG bs o)))::(bk,az (aG bs))::(c.k,ae dz)::(c.order,ae (some (.int o)))::(c.book,ae (some (.ref bk)))::(c.bw,ae (some (.ref st)))::(c.kinds,ae aK)::(c.one,ae aJ)::(c.two,ae aL)::rest) K):
  SE prog w (lX fa c A L g os bu) (lB 7) (fL bU bz bA bB bZ bJ c7 bW bD cH cI cj ck bK bL cQ cR cA e8 ez eD fI iS fP fb eE fU fD) ((bk,az (aG bs))::(c.k,ae dz)::(c.order,ae (some (.int o)))::(c.book,ae (some (.ref bk)))::(c.bw,ae bx)::(c.kinds,ae aK)::(c.one,ae aJ)::(c.two,ae aL)::rest) K:=by
 refine af (dc (b0 (mn (cl:=[("order",c.order),("book",c.book)]) (a:=0) (b:=4) 4 rfl (fun i=>.str (bs.getD (ka o i) [])) rfl O.hh rfl dC rfl dC rfl
  (eF (aC O rfl G.range.1 G.range.2) ai (dA (ÿ HY) (ý HY) (þ HY) (ü HY))) dC (fun C aD i hi hm=> ?_))) (fun v σ' r=> ?_))
 ·rw[Int.zero_add];have h3:=QN i hi;have hp:0<3^i:=Nat.pow_pos dC;have hx:((o:Int).fdiv ((3:Int)^((i:Int)).toNat)).fmod 3=((ka o i:Nat):Int):=by
   rw[Int.toNat_natCast,show (3:Int)^i=((3^i:Nat):Int) by simp,ej];exact bV _ 3 dC
  have df:ka o i<3:=Nat.mod_lt _ dC;refine bR (ps:=aG bs) (i:=((ka o i:Nat):Int)) (ay (c:=c.book) rfl rfl rfl (hm _ (.tail _ (by trivial)))) (.inl (hm _ (.tail _ (by trivial)))) ?_ kU (by rw[aO];exact Xd HY df) (by rw[aO];exact û HY) (fv (Xc HY df));rw[←hx];refine cG (eQ (ay (c:=c.order) rfl rfl rfl (hm _ (.tail _ (by trivial)))) (oB ai (cW (Lay.comp rfl rfl) (.head _)) sH (Jd hi) dC) ?_ (gv ?_)) ai dC
  ·rw[Int.toNat_natCast,show (3:Int)^i=((3^i:Nat):Int) by simp];exact Ai hp
  ·rw[Int.toNat_natCast,show (3:Int)^i=((3^i:Nat):Int) by simp];exact Ò h3
 ·refine aF r fun st ah aU=> ?_;clear r;subst ah;subst aU
  refine⟨_,_,fun u hu=>cw (c:=c.bw) (v₀:=bx) rfl rfl rfl (by trivial) hu,?_⟩;have e:((List.range 4).map fun i=>PV.str (bs.getD (ka o i) []))=aG (bG bs o):=by unfold aG bG;rw[List.map_map];rfl
  rw[e];exact k st
end
noncomputable def aP:List Nat:=[173,847,6150,6155,6156,6157,8203,8204,8205,8288,65279]++(List.range 16).map (65024+ ·)
def aw (m j:Nat):Nat:=[aP.getD (m/16%27) 0,aP.getD ((m/16+1+m/432%26)%27) 0].getD j 0
noncomputable def aN (m k:Nat):Nat:=m/2^k%2
def eK (sz o k:Nat) (wd:List Nat):List Nat:=(List.range sz).map fun j=>bY (wd.getD j 0) ((o/81+3*k+j:Nat):Int)
def eN (sz o m k:Nat) (wd:List Nat):List Nat:=
 (eK sz o k wd).take ((m/1296+k)%(sz+1))++List.replicate ((m/432+k)%3) (aP.getD ((m/16+k)%27) 0)++(eK sz o k wd).drop ((m/1296+k)%(sz+1))++[aw m (aN m k)]
theorem kC {i:Nat}(h:i<27):dD aP (i:Int)=aP.getD i 0:=kh
theorem kZ (c n:Nat):rep [c] (n:Int)=List.replicate n c:=by
 unfold rep;rw[Int.toNat_natCast]
 induction n with
 | zero=>rfl
 | succ n ih=>rw[List.replicate_succ,List.replicate_succ,List.flatten_cons,ih];rfl
section
variable {prog:Program}{w:World}{T:aX}{n:Nat}{a:mP}{fa:Addr}{c:tG}{A:Around}{L:Addr}{g:Heap}{os:OsState}{bu:Value}{K:PF→Ro→Led→Prop}{rest:Led}{fD fU eE fb fP iS fI eD ez e8 cA cR cQ bL bK ck cj cI cH bD bW c7 bJ bZ bB bA bz bU:Option PV}{dz aM aZ bx aK aJ aL:Option PV}
theorem Qn (D:Text T a) (G:cS T) (O:cU T n (lX fa c A L g os bu)) (Y:Lay (lX fa c A L g os bu)) {m:Nat}{σ:Led}
  (k: ∀cm,SE prog w (lX fa c A L g os bu) (lB 10) (fL bU bz bA bB bZ bJ c7 bW bD cH cI cj ck bK bL cQ (some (.ref cm)) (some (.str aP)) e8 ez eD fI iS (some (.int m)) fb eE fU fD) ((cm,az (aG [[aw m 0],[aw m 1]]))::σ) K):
  SE prog w (lX fa c A L g os bu) (lB 8) (fL bU bz bA bB bZ bJ c7 bW bD cH cI cj ck bK bL cQ cR cA e8 ez eD fI iS (some (.int m)) fb eE fU fD) σ K:=by
 have hj:((List.range 16).map fun (i:Nat)=>PV.str [(65024+(i:Int)).toNat])=aG ((List.range 16).map fun i=>[65024+i]):=rfl;refine af (aI Y (v:=.str aP) (bh (a:=[173,847,6150,6155,6156,6157,8203,8204,8205,8288,65279]) (b:=aB [] ((List.range 16).map fun i=>[65024+i])) aT (iw aT (hj ▸ mn (cl:=[]) (a:=65024) (b:=65040) 16 rfl (fun i=>.str [(65024+(i:Int)).toNat]) rfl O.hh rfl dC rfl dC rfl
  (ki (aC O rfl G.range.1 G.range.2) ai ai (dA ar8 arm ar9 arn)) dC (fun C aD i hi hm=> ?_)) dC) dC) Qd ?_)
 ·exact bg (aC (O.comp rfl) rfl G.chr.1 G.chr.2) (gQ (cW (Lay.comp rfl rfl) (.head _))) (vX (č hi) (Ď hi))
 have ME:(m:Int).fdiv 16=((m/16:Nat):Int):=ej m 16;have Sl:(m:Int).fdiv 432=((m/432:Nat):Int):=ej m 432;have m27:m/16%27<27:=Nat.mod_lt _ dC;have Rg:(m/16+1+m/432%26)%27<27:=Nat.mod_lt _ dC;have ul:aP.length=27:=rfl;refine af (du Y (ρf:=fun cm=>(fL bU bz bA bB bZ bJ c7 bW bD cH cI cj ck bK bL cQ (some (.ref cm)) (some (.str aP)) e8 ez eD fI iS (some (.int m)) fb eE fU fD)) (P:=az (aG [[aw m 0],[aw m 1]])) (eR (vs:=aG [[aw m 0],[aw m 1]]) (.cons (v:=.str [aw m 0]) ?_ (.cons (v:=.str [aw m 1]) ?_ .nil)) (by show 2≤16777216;decide)) (fun b=>Qc) (fun b hb=>k b))
 ·have e:aw m 0=dD aP ((m/16%27:Nat):Int):=(kC m27).symm;have e2:((m/16%27:Nat):Int)=((m:Int).fdiv 16).fmod 27:=by rw[ME];exact(bV _ 27 dC).symm
  rw[e,e2];refine eP (ag Y 10 rfl) (cG (eQ (ag Y 4 rfl) ai dC (gv dC)) ai dC) ?_ ?_ dC
  ·have:=(cO ((m:Int).fdiv 16) (b:=27) dC);rw[ul];exact OQ this.1
  ·have:=(cO ((m:Int).fdiv 16) (b:=27) dC);rw[ul];exact OO this.2
 ·have e:aw m 1=dD aP (((m/16+1+m/432%26)%27:Nat):Int):=(kC Rg).symm;have e2:(((m/16+1+m/432%26)%27:Nat):Int)=((m:Int).fdiv 16+1+((m:Int).fdiv 432).fmod 26).fmod 27:=by
   rw[ME,Sl];have e3:((m/432:Nat):Int).fmod 26=((m/432%26:Nat):Int):=bV _ 26 dC;rw[e3,←bV _ 27 dC];rfl
  rw[e,e2]
  have:=(cO ((m:Int).fdiv 16+1+((m:Int).fdiv 432).fmod 26) (b:=27) dC)
  refine eP (ag Y 10 rfl) (cG (bQ (bQ (eQ (ag Y 4 rfl) ai dC (gv dC)) ai) (cG (eQ (ag Y 4 rfl) ai dC (gv dC)) ai dC)) ai dC) ?_ ?_ dC
  ·rw[ul];exact OQ this.1
  ·rw[ul];exact OO this.2
end
theorem rT:(["script","numbers","number","shape","marks","size","whole","ring","text","begin","unseen","commas","pieces","typed","spot","width","room","maker","rows","cut","page","told","sign","wants","due","fore","aft","place"]:List Str).Nodup:=by decide
theorem QO: ∀i:Nat,i<8→(2:Nat)^i≤128:=by decide
def bq (m i:Nat):List Int:=(List.range i).map fun k=>(aN m k:Int)
def bE (sz o m:Nat) (sw:List (List Nat)) (i:Nat):List (List Nat):=(List.range i).map fun k=>eN sz o m k (sw.getD k [])
noncomputable def hH (sz:Nat) (sw:List (List Nat)):Prop:=sw.length=4∧ ∀x∈sw,x.length=sz∧ ∀ch∈x,97≤ch∧ch≤112
theorem hH.get {sz:Nat}{sw:List (List Nat)}(h:hH sz sw) {i:Nat}(hi:i<4):(sw.getD i []).length=sz∧ ∀ch∈sw.getD i [],97≤ch∧ch≤112:=by
 have hl:i<sw.length:=by rw[h.1];exact hi
 rw[List.getD_eq_getElem?_getD,List.getElem?_eq_getElem hl];exact h.2 _ (List.getElem_mem hl)
theorem b8 {α:Type}{l:List α}{i:Nat}{d:α}(h:i<l.length):l.getD i d∈l:=by
 rw[List.getD_eq_getElem?_getD,List.getElem?_eq_getElem h];exact List.getElem_mem h
section
variable {prog:Program}{w:World}{T:aX}{n:Nat}{a:mP}{fa:Addr}{c:tG}{A:Around}{L:Addr}{g:Heap}{os:OsState}{bu:Value}{K:PF→Ro→Led→Prop}{rest:Led}{fD fU eE fb fP iS fI eD ez e8 cA cR cQ bL bK ck cj cI cH bD bW c7 bJ bZ bB bA bz bU:Option PV}{dz aM aZ bx aK aJ aL:Option PV}
theorem KU (O:cU T n (lX fa c A L g os bu)) (Y:Lay (lX fa c A L g os bu)) {σ:Led}{e1 e2:Addr×(Obj→Prop)}
  (k: ∀kd pc,SE prog w (lX fa c A L g os bu) (lB 11) (fL bU bz bA bB bZ bJ c7 bW bD cH cI cj ck bK bL (some (.ref pc)) cR cA e8 ez eD fI iS fP fb eE fU fD) ((pc,az [])::(kd,az [])::e1::e2::(c.k,ae dz)::(c.order,ae aM)::(c.book,ae aZ)::(c.bw,ae bx)::(c.kinds,ae (some (.ref kd)))::(c.one,ae aJ)::(c.two,ae aL)::σ) K):
  SE prog w (lX fa c A L g os bu) (lB 10) (fL bU bz bA bB bZ bJ c7 bW bD cH cI cj ck bK bL cQ cR cA e8 ez eD fI iS fP fb eE fU fD) (e1::e2::(c.k,ae dz)::(c.order,ae aM)::(c.book,ae aZ)::(c.bw,ae bx)::(c.kinds,ae aK)::(c.one,ae aJ)::(c.two,ae aL)::σ) K:=by
 refine af (iG (ts:=[assign _ _,assign _ _]) (iB rfl (fA (b0 (eR .nil)) fun v σ' r=>fA (b0 (eR .nil)) fun v σ' r=>gZ) (fun vs σ' r=> ?_)) (fun v σ' r=> ?_) rfl)
 ·refine DJ r fun v aD lD ak ah U U U=> ?_;clear r;subst ah
  simp
 ·obtain⟨t,vs,aD,rfl,rfl,v,ak,r,rfl,⟨kd,rfl,rfl⟩,lD,aR,kQ,rfl,⟨pc,rfl,rfl⟩,rfl,rfl⟩:=r;refine⟨t,_,rfl,fz O.hh (.head _),rfl,cD (fR (fun u hu=>cw (c:=c.kinds) (v₀:=aK) rfl rfl rfl (by trivial) hu)) (cD (fR (fun u hu=>aq Y Qb hu)) (gV ?_))⟩;exact SE.sub (k kd pc) (.cons _ (.refl _))
theorem Qm (D:Text T a) (G:cS T) (O:cU T (n+1) (lX fa c A L g os bu)) (Y:Lay (lX fa c A L g os bu)) {kd pc cm st:Addr}{sz o m:Nat}{sw:List (List Nat)}(hW:hH sz sw) (gB:sz≤7)
  (k: ∀bL bK dz,SE prog w (lX fa c A L g os bu) (lB 12) (fL bU bz bA bB bZ bJ c7 bW bD cH cI cj ck bK bL (some (.ref pc)) (some (.ref cm)) (some (.str aP)) e8 ez eD fI (some (.int sz)) (some (.int m)) fb eE fU fD) ((pc,az (aG (bE sz o m sw 4)))::(kd,az (dK (bq m 4)))::(cm,az (aG [[aw m 0],[aw m 1]]))::(st,az (aG sw))::(c.k,ae dz)::(c.order,ae (some (.int o)))::(c.book,ae aZ)::(c.bw,ae (some (.ref st)))::(c.kinds,ae (some (.ref kd)))::(c.one,ae aJ)::(c.two,ae aL)::rest) K):
  SE prog w (lX fa c A L g os bu) (lB 11) (fL bU bz bA bB bZ bJ c7 bW bD cH cI cj ck bK bL (some (.ref pc)) (some (.ref cm)) (some (.str aP)) e8 ez eD fI (some (.int sz)) (some (.int m)) fb eE fU fD) ((pc,az [])::(kd,az [])::(cm,az (aG [[aw m 0],[aw m 1]]))::(st,az (aG sw))::(c.k,ae dz)::(c.order,ae (some (.int o)))::(c.book,ae aZ)::(c.bw,ae (some (.ref st)))::(c.kinds,ae (some (.ref kd)))::(c.one,ae aJ)::(c.two,ae aL)::rest) K:=by
 refine af (gJ (a:=0) (b:=4) 4 (Z8 gB) O.hh (fun i ρ σ'=> ∃bL bK dz,ρ=(fL bU bz bA bB bZ bJ c7 bW bD cH cI cj ck bK bL (some (.ref pc)) (some (.ref cm)) (some (.str aP)) e8 ez eD fI (some (.int sz)) (some (.int m)) fb eE fU fD)∧
   σ'=(pc,az (aG (bE sz o m sw i)))::(kd,az (dK (bq m i)))::(cm,az (aG [[aw m 0],[aw m 1]]))::(st,az (aG sw))::(c.k,ae dz)::(c.order,ae (some (.int o)))::(c.book,ae aZ)::(c.bw,ae (some (.ref st)))::(c.kinds,ae (some (.ref kd)))::(c.one,ae aJ)::(c.two,ae aL)::rest)
  (eF (aC O rfl G.range.1 G.range.2) ai (dA (Â gB) (À gB) (Á gB) (Z7 gB))) ⟨_,_,_,rfl,rfl⟩ ?_ ?_)
 ·rintro I i ρ σ' hi ⟨bL,bK,dz,rfl,rfl⟩ hI;refine⟨_,_,fun u hu=>cw (c:=c.k) (v₀:=dz) rfl rfl rfl (by trivial) hu,?_⟩;rw[Int.zero_add];have vE:=hW.get hi;have Ko:cB (aG sw) (i:Int)= .str (sw.getD i []):=fv (by rw[hW.1];exact hi);have gM:sw.length=4:=hW.1;have LX:aG (bE sz o m sw i)++[.str (eN sz o m i (sw.getD i []))]=aG (bE sz o m sw (i+1)):=by
   rw[gK];unfold bE;rw[List.range_succ,List.map_append];rfl
  generalize sw.getD i []=wd at vE Ko LX
  have vG:(eK sz o i wd).length=sz:=by simp[eK]
  have hj:((List.range sz).map fun (j:Nat)=>PV.str [bY (wd.getD j 0) ((o/81+3*i+j:Nat):Int)])=aG ((List.range sz).map fun j=>[bY (wd.getD j 0) ((o/81+3*i+j:Nat):Int)]):=by unfold aG;rw[List.map_map];rfl
  have Mq:aB [] ((List.range sz).map fun j=>[bY (wd.getD j 0) ((o/81+3*i+j:Nat):Int)])=eK sz o i wd:=by
   rw[dN];exact km (List.range sz) (fun j=>bY (wd.getD j 0) ((o/81+3*i+j:Nat):Int))
  refine af (aI Y (v:=.str (eK sz o i wd)) (by
   rw[←Mq];refine iw aT (hj ▸ mn (cl:=[("sent",c.bw),("order",c.order),("k",c.k)]) (a:=0) (b:=sz) sz OB (fun j=>.str [bY (wd.getD j 0) ((o/81+3*i+j:Nat):Int)]) rfl O.hh rfl dC rfl dC rfl
    (eF (aC O rfl G.range.1 G.range.2) (ag Y 5 rfl) (dA OD NR E6 (Z6 gB))) (N8 gB) (fun C aD j Bn hm=> ?_)) ?_
   ·rw[Int.zero_add];have HU:=vE.2 _ (b8 (d:=0) (i:=j) (IK vE.1 Bn));refine cZ (k:=1) (O.comp rfl) (.inr ⟨_,hm _ (.head _),rT⟩) D.typed.isFn (cP (O.comp rfl) rfl D.zt) (Bp (v:=.str [wd.getD j 0]) (u:=.int ((o/81+3*i+j:Nat):Int)) ?_ ?_) (rk (n:=0) D G (Ov HU.1) (Oa HU.2)) E2
    ·rw[←kh];exact eP (bR (ps:=aG sw) (ay (c:=c.bw) rfl rfl rfl (hm _ (.tail _ (by trivial)))) (.inl (hm _ (.tail _ (by trivial)))) (ay (c:=c.k) rfl rfl rfl (hm _ (.tail _ (by trivial)))) kU (by rw[aO];exact NF hi gM) (by rw[aO];exact ky gM) Ko) (cW (Lay.comp rfl rfl) (.head _)) kU (UX vE.1 Bn) (z9 gB vE.1)
    ·have e:((o/81+3*i+j:Nat):Int)=(o:Int).fdiv 81+3*(i:Int)+(j:Int):=by
      rw[show (o:Int).fdiv 81=((o/81:Nat):Int) from ej o 81];simp
     rw[e];exact bQ (bQ (eQ (ay (c:=c.order) rfl rfl rfl (hm _ (.tail _ (by trivial)))) ai dC (gv dC)) (iZ ai (ay (c:=c.k) rfl rfl rfl (hm _ (.tail _ (by trivial)))) (rN (a:=3) dC))) (cW (Lay.comp rfl rfl) (.head _))
   ·rw[rp (List.range sz) (fun j=>[bY (wd.getD j 0) ((o/81+3*i+j:Nat):Int)]) fun U U=>rfl,List.length_range,List.length_nil];exact XB gB) Qa ?_)
  have hk1:dK (bq m i)++[.int (aN m i:Nat)]=dK (bq m (i+1)):=by unfold bq dK;rw[List.range_succ,List.map_append,List.map_append];rfl
  have hpk:=QO i (Ĉ hi);have hp0:0<2^i:=Nat.pow_pos dC;have r5:(aG (bE sz o m sw i)).length=i:=by rw[aO];simp[bE]
  have Mf:(dK (bq m i)).length=i:=by rw[cK];simp[bq]
  have Md:(dK (bq m (i+1))).length=i+1:=by rw[cK];simp[bq]
  obtain⟨sp,lr⟩: ∃sp,sp=(m/1296+i)%(sz+1):=⟨_,rfl⟩;have aak:sp≤sz:=by have:=Nat.mod_lt (m/1296+i) (show 0<sz+1 by exact Jh);exact Vm lr this
  refine af (aI Y (v:=.int (sp:Nat)) (by
   have e:((sp:Nat):Int)=((m:Int).fdiv 1296+(i:Int)).fmod ((sz:Int)+1):=by
    rw[show (m:Int).fdiv 1296=((m/1296:Nat):Int) from ej m 1296,lr,←bV _ _ (show 0<sz+1 by exact Jh)];simp
   rw[e];exact cG (bQ (eQ (ag Y 4 rfl) ai dC (gv dC)) (ay (c:=c.k) rfl rfl rfl (by trivial))) (bQ (ag Y 5 rfl) ai) ŗ) P9 ?_)
  refine af (eY (a:=kd) (ps:=dK (bq m i)) (ay (c:=c.kinds) rfl rfl rfl (by trivial)) (aQ (v:=.int (aN m i:Nat)) (by
   have e:((aN m i:Nat):Int)=((m:Int).fdiv ((2:Int)^((i:Int)).toNat)).fmod 2:=by
    rw[Int.toNat_natCast,show (2:Int)^i=((2^i:Nat):Int) by simp,ej]
    exact(bV _ 2 dC).symm
   rw[e];refine cG (eQ (ag Y 4 rfl) (oB ai (ay (c:=c.k) rfl rfl rfl (by trivial)) sH (Jd hi) dC) ?_ (gv ?_)) ai dC
   ·rw[Int.toNat_natCast,show (2:Int)^i=((2^i:Nat):Int) by simp];exact Ai hp0
   ·rw[Int.toNat_natCast,show (2:Int)^i=((2^i:Nat):Int) by simp];exact Þ hpk)) (fun v σ' r=> ?_) (by trivial) (by rw[Mf];exact Ot hi))
  refine bo r fun ah aU=> ?_;clear r;subst ah;subst aU
  refine⟨_,(by trivial),?_⟩;rw[hk1];have Pw:aP.length=27:=rfl;have aam:(m/16+i)%27<27:=Nat.mod_lt _ dC;have hm3:(m/432+i)%3<3:=Nat.mod_lt _ dC;have hkN:aN m i<2:=Nat.mod_lt _ dC;have hpc:eN sz o m i wd=sl (eK sz o i wd) none (some (sp:Int))++rep [aP.getD ((m/16+i)%27) 0] (((m/432+i)%3:Nat):Int)++sl (eK sz o i wd) (some (sp:Int)) none++[aw m (aN m i)]:=by
   rw[kZ,ft,jq,lr];rfl
  have hlen:(eN sz o m i wd).length≤10:=by unfold eN;simp[vG];exact TK gB
  refine af (eY (a:=pc) (ps:=aG (bE sz o m sw i)) (ag Y 12 rfl) (aQ (v:=.str (eN sz o m i wd)) (by
   rw[hpc];refine bh (bh (bh (cb (ag Y 13 rfl) bS (aV (ag Y 14 rfl)) (z9 gB vG)) (yM (eP (a:=aP) (i:=(((m/16+i)%27:Nat):Int)) (ag Y 10 rfl) ?_ V6 (by rw[Pw];exact ZI) dC) ?_ (by show 1≤16;decide) Zn ZH) ?_) (cb (ag Y 13 rfl) (aV (ag Y 14 rfl)) bS (z9 gB vG)) ?_) (bR (ps:=aG [[aw m 0],[aw m 1]]) (i:=((aN m i:Nat):Int)) (p:=.str [aw m (aN m i)]) (ag Y 11 rfl) (.inl (by trivial))
    (bR (ps:=dK (bq m (i+1))) (i:=(i:Int)) (p:=.int (aN m i:Nat)) (ay (c:=c.kinds) rfl rfl rfl (by trivial)) (.inl (by trivial)) (ay (c:=c.k) rfl rfl rfl (by trivial)) kU (Xh Md) (Xp hi Md) ?_) kU (by show _<(2:Int);exact Ou hkN) (by show 2≤16777216;decide) ?_) ?_
   ·have e:(((m/16+i)%27:Nat):Int)=((m:Int).fdiv 16+(i:Int)).fmod 27:=by
     rw[show (m:Int).fdiv 16=((m/16:Nat):Int) from ej m 16];rw[←bV _ 27 dC];simp
    rw[e];exact cG (bQ (eQ (ag Y 4 rfl) ai dC (gv dC)) (ay (c:=c.k) rfl rfl rfl (by trivial))) ai dC
   ·have e:(((m/432+i)%3:Nat):Int)=((m:Int).fdiv 432+(i:Int)).fmod 3:=by
     rw[show (m:Int).fdiv 432=((m/432:Nat):Int) from ej m 432];rw[←bV _ 3 dC];simp
    rw[e];exact cG (bQ (eQ (ag Y 4 rfl) ai dC (gv dC)) (ay (c:=c.k) rfl rfl rfl (by trivial))) ai dC
   ·rw[jq,kZ];simp[vG];exact TH gB
   ·rw[jq,ft,kZ];simp[vG];exact TL gB
   ·rw[lq (by simp[bq])];simp[bq]
   ·match aN m i,hkN with
    | 0,_=>rfl
    | 1,_=>rfl
   ·rw[jq,ft,kZ];simp[vG];exact TJ gB)) (fun v σ' r=> ?_) (by trivial) (by rw[r5];exact Ot hi))
  refine bo r fun ah aU=> ?_;clear r;subst ah;subst aU
  refine⟨_,(by trivial),?_⟩;rw[LX];exact aj ⟨_,⟨_,_,_,rfl,rfl⟩,.refl _⟩
 ·rintro ρ σ' ⟨bL,bK,dz,rfl,rfl⟩;exact aj (k _ _ _)
end
section
variable {prog:Program}{w:World}{X:Cx}{ρ bC:Ro}{σ σ':Led}{T:aX}{n:Nat}{R R':PV→Led→Prop}{K:PF→Ro→Led→Prop}
theorem VX.fit {t:Sem Value}(h:VX prog w X t ρ σ R) (k: ∀v σ',R v σ'→ ∃σ'',fQ σ'' σ'∧R' v σ''):VX prog w X t ρ σ R':=fun s I=>wpAny_mono (h s I) (fun u s' q=>by
 refine jU q fun v σ' r z I'=> ?_
 refine aF (k _ _ r) fun σ'' hf r'=> ?_
 exact⟨v,σ'',r',z,I'.fit hf⟩) fun U U f=>f
theorem DB {v e:Expr}{pos:Pos}{i:Nat}{p:PV}(hv:GE prog w X v ρ σ R) (hR: ∀u σ',R u σ'→ ∃a ps,u= .ref a∧(a,gG ps)∈σ'∧ps[i]? =some p∧ps.length≤16777216∧σ.Sublist σ') (he: ∀σ',PE prog w X e ρ σ' (.int i))
  (hs: ∀x y,subscripted e false x y=operate [x,y] (getItem x y):=by intro _ _;rfl):PE prog w X (.Subscript v e pos) ρ σ p:=fun s I=>by
 refine PyProof.Rows.Subscript_ (wpAny_mono (hv s I) (fun u s₁ q=> ?_) fun U U f=>f);refine jU q fun v' σ' r FN aS=> ?_
 refine Q7 (hR v' σ' r) fun a ps ah hm h1 hn hB=> ?_;subst ah
 refine vR FN ?_
 refine wpAny_mono (he σ' s₁ aS) (fun y au q'=> ?_) fun U U f=>f
 refine bo q' fun wW aH=> ?_
 refine vI wW fun t=> ?_
 have Ec:At X σ' a (gG ps):=.inl hm;refine aF (Ec.obj aH) fun o ho po=> ?_
 refine Hi (po.tuple ho) fun vs o' k de ig hc hd=> ?_
 refine aF (de.m5 h1) fun u hu r=> ?_
 have hi:i<ps.length:=by
  rcases Nat.lt_or_ge i ps.length with h | h
  ·exact h
  ·rw[List.getElem?_eq_none h] at h1;cases h1
 have hlen:=de.length;exact kY (F9 Ec aH) (hs _ _) (getItem_tuple ⟨o',ig,hc,k,hd⟩ OJ (Nn hn hi) (j:=i) (by
  have h1: ¬((i:Int)<0):=Ae;have h2:i<vs.length:=Nc hi hlen;simp[seqIndex?,h1,h2]) hu ⟨r,aH.sub hB⟩)
theorem zz {e1 e2 iter:Expr}{kk:Nat}{tp:Pos}{x:Str}{px pos:Pos}{scope:Scope}{cl:List (Str×Addr)}{a b:Int}(k:Nat) (hk:b=a+k) (f:Nat→Int×Int) (gy:X.FL=X.L) (hh:X.A.handled=none)
  (eT:closureFor scope X.env=pure cl) (bM: ∀y∈scope.names,y.2≠ .cell) (cC:scope.kind= .function)
  (dE: ∀y∈scope.names,y.2= .local→scope.names.lookup y.1=some .local) (hx:scope.names.lookup x=some .local)
  (hi:vc prog w X iter ρ σ fun I=>tv a b I 0) (hl:k≤16777216)
  (eS: ∀C aD i,i<k→(∀p∈(X.L,isNs ρ)::σ,p∈aD)→PE prog w (X.comp scope cl C x) e1 [(x,some (.int (a+i)))] aD (.int (f i).1)∧PE prog w (X.comp scope cl C x) e2 [(x,some (.int (a+i)))] aD (.int (f i).2))
  (he: ∀C,backTo tp (starEach [e1,e2] (X.comp scope cl C x).env)=[e1,e2].map (fun e=>(false,eval e (X.comp scope cl C x).env)):=by intro C;rfl)
  (hs: ∀x,foldedSetIterable iter X.env x=pure x:=by intro _;rfl) (mC:(x==("__debug__":Str))=false:=by decide):
  GE prog w X (.ListComp (.Tuple [e1,e2] kk tp) [⟨.Name x px,iter,[],0⟩] scope pos) ρ σ (fun v σ'=> ∃(l:Addr) (ts:List P2),v= .ref l∧σ'=(l,az (ts.map fun t=>.ref t.1))::(kc ts.reverse++σ)∧ts.map (·.2)=(List.range k).map f):=
 (oP (g5 (jt a b k hk)) (fun i zs da=> ∃ts:List P2,zs=(ts.map fun t=>.ref t.1)∧da=kc ts.reverse++σ∧ts.map (·.2)=(List.range i).map f) gy hh eT bM cC dE hx hi ⟨[],rfl,rfl,rfl⟩ (fun U U U U U=>trivial)
  (fun i zs da hi h=>by
   revert h;refine fun z0=>gR z0 fun ts ah aU h=> ?_;clear z0;subst ah;subst aU
   have:=congrArg List.length h
   simp at this ⊢;exact UQ hl hi this)
  (fun I C D i zs da uC h=>by
   revert h;refine fun z0=>gR z0 fun ts ah aU h=> ?_;clear z0;subst ah;subst aU
   refine⟨true,kp,nofun,fun U=> ?_⟩;have hm: ∀p∈(X.L,isNs ρ)::σ,p∈(I,tv a b I (i+1))::(D,az (ts.map fun t=>.ref t.1))::(X.L,isNs ρ)::(kc ts.reverse++σ):=fun p hp=>by
    refine .tail _ (.tail _ ?_);rcases List.mem_cons.mp hp with rfl | hp
    ·exact .head _
    ·exact .tail _ (List.mem_append_right _ hp)
   refine bo (eS C _ i uC hm) fun h1 h2=> ?_
   refine VX.fit (b0 (fW (.cons h1 (.cons h2 .nil)) (by show 2≤16777216;decide) (he C))) (fun v σ' r=> ?_);refine aF r fun t ah aU=> ?_;clear r;subst ah;subst aU
   refine⟨_,fQ.dM (List.perm_middle (l₁:=[_,_,_])).symm,_,⟨ts++[(t,f i)],by simp,?_,?_⟩,.refl _⟩
   ·rw[List.reverse_append];rfl
   ·rw[List.map_append,h,List.range_succ,List.map_append];rfl) hs mC).mono fun v σ' r=>by
  refine Q6 r fun l ts ah aU h=> ?_;clear r;subst ah;subst aU
  exact⟨l,ts,rfl,rfl,h⟩
end
def lI (b t:Int×Int):Int×Int:=if H0 t.1 t.2 b.1 b.2 then t else b
def kN:List (Int×Int)→Int×Int
 | []=>(0,0)
 | t::ts=>ts.foldl lI t
theorem n9: ∀(ts:List P2) (t:P2),(ts.foldl f9 t).2=(ts.map (·.2)).foldl lI t.2
 | [],t=>rfl
 | u::ts,t=>by
  rw[List.foldl_cons,n9 ts,List.map_cons,List.foldl_cons];congr 1;unfold f9 lI;split<;>rfl
theorem n8: ∀(ts:List P2) (t:P2),ts.foldl f9 t∈t::ts
 | [],t=>.head _
 | u::ts,t=>by
  rw[List.foldl_cons]
  have:=n8 ts (f9 t u)
  rcases List.mem_cons.mp this with h | h
  ·rw[h];unfold f9;split
   ·exact .tail _ (.head _)
   ·exact .head _
  ·exact .tail _ (.tail _ h)
section
variable {prog:Program}{w:World}{X:Cx}{ρ bC:Ro}{σ σ':Led}{T:aX}{n:Nat}{R R':PV→Led→Prop}{K:PF→Ro→Led→Prop}
theorem DC (O:cU T n X) {e e1:Expr}{x:Str}{p pos pos':Pos}{k:Nat}{f:Nat→Int×Int}(hk:0<k) (hf:XE prog w X (.Name x p) ρ σ (.builtin "max"))
  (h:GE prog w X e ρ σ (fun v σ'=> ∃(l:Addr) (ts:List P2),v= .ref l∧σ'=(l,az (ts.map fun t=>.ref t.1))::(kc ts.reverse++σ)∧ts.map (·.2)=(List.range k).map f))
  (h1: ∀σ',PE prog w X e1 ρ σ' (.int 1)) (he:starEach [e] X.env=[(false,eval e X.env)]:=by rfl)
  (hs: ∀x y,subscripted e1 false x y=operate [x,y] (getItem x y):=by intro _ _;rfl):
  PE prog w X (.Subscript (.Call (.Name x p) [e] [] pos) e1 pos') ρ σ (.int (kN ((List.range k).map f)).2):=by
 refine DB (i:=1) (R:=fun v σ'=> ∃t ts,v= .ref (ts.foldl f9 t).1∧(∃l,σ'=(l,az ((t::ts).map fun t=>.ref t.1))::(kc (t::ts).reverse++σ))∧(t::ts).map (·.2)=(List.range k).map f)
  (nX hf (PN h he) (fun vs σ' r us hv=> ?_) (by rw[he];rfl)) (fun u σ' r=> ?_) h1 hs
 ·refine Q5 r fun l ts ah aU hm=> ?_;clear r;subst ah;subst aU
  cases ts with
  | nil=>
   have:=congrArg List.length hm
   simp at this;omega
  | cons t ts=>
   have mZ: ∀u∈t::ts,(u.1,gG [.int u.2.1,.int u.2.2])∈(l,az ((t::ts).map fun t=>.ref t.1))::(kc (t::ts).reverse++σ):=fun u hu=>by
    refine .tail _ (List.mem_append_left _ ?_);exact List.mem_map.mpr ⟨u,List.mem_reverse.mpr hu,rfl⟩
   refine(jj (Ip O.hh (by have:=O.un;exact Y5 this) (.head _) mZ us hv)).mono fun v σ' r=> ?_
   refine bo r fun ah aU=> ?_;clear r;subst ah;subst aU
   exact⟨t,ts,rfl,⟨l,rfl⟩,hm⟩
 ·refine Q4 r fun t ts l ah aU hm=> ?_;clear r;subst ah;subst aU
  refine⟨_,[.int (ts.foldl f9 t).2.1,.int (ts.foldl f9 t).2.2],rfl,?_,?_,by show 2≤16777216;decide,.cons _ (List.sublist_append_right _ _)⟩
  ·exact .tail _ (List.mem_append_left _ (List.mem_map.mpr ⟨_,List.mem_reverse.mpr (n8 ts t),rfl⟩))
  ·rw[←hm,List.map_cons];show some (PV.int (ts.foldl f9 t).2.2)=some (PV.int ((ts.map (·.2)).foldl lI t.2).2);rw[n9]
end
structure Fm (T:aX) (f:gf):Prop where
 fm:T.mg "_ValueFormatter"=some (.ref f.C)
 mks:makesIn T.K f.C=true
 call:specialIn T.K (.ref f.C) "__call__"=some (some (.builtin "type.__call__"))
theorem ae4 {prog:Program}{w:World}{X:Cx}{ρ:Ro}{σ:Led}{e f g h:Expr}{pos:Pos}{v u x y:PV}(h1:PE prog w X e ρ σ v) (h2:PE prog w X f ρ σ u) (h3:PE prog w X g ρ σ x) (h4:PE prog w X h ρ σ y)
  (he:starEach [e,f,g,h] X.env=[(false,eval e X.env),(false,eval f X.env),(false,eval g X.env),(false,eval h X.env)]:=by rfl):AE prog w X [e,f,g,h] pos ρ σ [v,u,x,y]:=
 v5 (t:=eval e X.env) (r:=[(false,eval f X.env),(false,eval g X.env),(false,eval h X.env)]) (by rw[he];rfl) (eL h1 (eL h2 (eL h3 (eL h4 lK))))
theorem DA {α:Type}(x d l y dy P Q:α) (O R:List α):(x::d::l::y::dy::(O++P::Q::R)).Perm (y::dy::l::x::d::P::Q::(O++R)):=by
 have h1:(O++P::Q::R).Perm (P::Q::(O++R)):=List.perm_middle.trans (List.Perm.cons _ List.perm_middle);have h2:([x,d,l,y,dy]:List α).Perm [y,dy,l,x,d]:=
  (List.perm_middle (a:=y) (l₁:=[x,d,l]) (l₂:=[dy])).trans (.cons _ ((List.perm_middle (a:=dy) (l₁:=[x,d,l]) (l₂:=[])).trans (.cons _ (List.perm_middle (a:=l) (l₁:=[x,d]) (l₂:=[])))))
 exact(List.Perm.append_left [x,d,l,y,dy] h1).trans (List.Perm.append_right (P::Q::(O++R)) h2)
section
variable {prog:Program}{w:World}{T:aX}{n:Nat}{a:mP}{f:gf}{aa:fH}{fa:Addr}{c:tG}{A:Around}{L:Addr}{g:Heap}{os:OsState}{bu:Value}{K:PF→Ro→Led→Prop}{rest:Led}{fD fU eE fb fP iS fI eD ez e8 cA cR cQ bL bK ck cj cI cH bD bW c7 bJ bZ bB bA bz bU:Option PV}{dz aM aZ bx aK aJ aL:Option PV}
theorem Ql (B:FK prog T f aa) (Lk:Fm T f) (O:cU T (n+4) (lX fa c A L g os bu)) (Y:Lay (lX fa c A L g os bu)) {cm:Addr}{sz s m:Nat}{σ:Led}(h3:3≤sz) (gB:sz≤7) (hcm:(cm,az (aG [[aw m 0],[aw m 1]]))∈σ)
  (k: ∀rw(F:v7),ie F f aa→SE prog w (lX fa c A L g os bu) (lB 15) (fL bU bz bA bB bZ bJ c7 bW bD (some (.ref rw)) (some (.ref F.y)) (some (.int (s/63%8:Nat))) (some (.int (sz+s/3%(3*sz):Nat))) bK bL cQ (some (.ref cm)) cA (some (.int (0:Nat))) ez eD fI (some (.int sz)) fP (some (.int s)) eE fU fD)
   (cn F (sz+s/3%(3*sz):Nat) [aw m 1,aw m 0] [] [] (s/63%8:Nat)++((rw,az (aG []))::(σ++rest))) K):
  SE prog w (lX fa c A L g os bu) (lB 12) (fL bU bz bA bB bZ bJ c7 bW bD cH cI cj ck bK bL cQ (some (.ref cm)) cA e8 ez eD fI (some (.int sz)) fP (some (.int s)) eE fU fD) (σ++((aa.Plen,bX)::(aa.Pstr,bX)::rest)) K:=by
 have Mw: ∀τ:Led,(cm,az (aG [[aw m 0],[aw m 1]]))∈σ++τ:=fun τ=>List.mem_append_left _ hcm
 have e1:((sz+s/3%(3*sz):Nat):Int)=(sz:Int)+((s:Int).fdiv 3).fmod (3*(sz:Int)):=by
  rw[show (s:Int).fdiv 3=((s/3:Nat):Int) from ej s 3,show (3*(sz:Int))=((3*sz:Nat):Int) by simp,bV _ _ (Ow h3)];simp
 have e2:((s/63%8:Nat):Int)=((s:Int).fdiv 63).fmod 8:=by
  rw[show (s:Int).fdiv 63=((s/63:Nat):Int) from ej s 63];exact(bV _ 8 dC).symm
 refine af (fX (names:=["width","room"]) (b0 (fW (vs:=[.int (sz+s/3%(3*sz):Nat),.int (s/63%8:Nat)]) (.cons (by
   rw[e1];exact bQ (ag Y 5 rfl) (cG (eQ (ag Y 3 rfl) ai dC (gv dC)) (iZ ai (ag Y 5 rfl) (rN (a:=3) dC)) (ę h3))) (.cons (by
   rw[e2];exact cG (eQ (ag Y 3 rfl) ai dC (gv dC)) ai dC) .nil)) (by show 2≤16777216;decide))) (fun v σ' r=> ?_))
 refine aF r fun t ah aU=> ?_;clear r;subst ah;subst aU
 refine⟨t,_,rfl,fz O.hh (.head _),rfl,cD (fq (fun u hu=>aq Y GP hu)) (cD (fq (fun u hu=>aq Y P8 hu)) (gV ?_))⟩;refine SE.sub ?_ (.cons _ (.refl _));generalize (sz+s/3%(3*sz):Nat)=wd at*
 generalize (s/63%8:Nat)=rm at*
 refine af (dc (Ei (n:=n+3) O rfl B.E.cls (cP O rfl Lk.fm) Lk.mks Lk.call B.E.init.kS B.E.init.typ (vs:=[.int rm,.int wd,.str [32],.str [aw m 1,aw m 0]]) (R₂:=fun y dy σ'=> ∃l x d,σ'=(x,isA aa.C d [])::(d,fe [(("_initial_size":Str),some (.int rm))])::(l,az [])::(y,y7 f.C dy fM)::(dy,fe [(("_current_line":Str),some (.ref x)),(("_lines":Str),some (.ref l)),(("_splitchars":Str),some (.str [aw m 1,aw m 0])),(("_continuation_ws_len":Str),some (.int 1)),(("_continuation_ws":Str),some (.str [32])),(("_maxlen":Str),some (.int wd))])::(σ++((aa.Plen,bX)::(aa.Pstr,bX)::rest))) ?_ (fun x d=>zI B.E B.D B.S B.G)) (fun v σ' r=> ?_))
 ·refine ae4 (ag Y 16 rfl) (ag Y 15 rfl) aT ?_
  refine bh (a:=[aw m 1]) (b:=[aw m 0]) (bR (i:=1) (ps:=aG [[aw m 0],[aw m 1]]) (ag Y 11 rfl) (.inl (Mw _)) ai (by show-(2:Int)≤1;decide) (by show (1:Int)<2;decide) (by show 2≤16777216;decide) rfl)
   (bR (i:=0) (ps:=aG [[aw m 0],[aw m 1]]) (ag Y 11 rfl) (.inl (Mw _)) ai (by show-(2:Int)≤0;decide) (by show (0:Int)<2;decide) (by show 2≤16777216;decide) rfl) (by show 2≤16777216;decide)
 ·refine QX r fun y dy l x d ah aU=> ?_;clear r;subst ah;subst aU
  refine⟨_,_,fun u hu=>aq Y P7 hu,?_⟩;refine SE.fit (fQ.dM (DA _ _ _ _ _ _ _ σ rest)) ?_
  refine af (fX (names:=["rows","begin"]) (iB rfl (fA (b0 (eR .nil)) fun v σ' r=>fA (aQ ai) fun v σ' r=>gZ) (fun vs σ' r=> ?_)) (fun v σ' r=> ?_))
  ·refine DJ r fun v aD lD ak ah U U U=> ?_;clear r;subst ah
   simp
  ·obtain⟨t,vs,aD,rfl,rfl,v,ak,r,rfl,⟨iU,rfl,rfl⟩,lD,aR,kQ,rfl,⟨rfl,rfl⟩,rfl,rfl⟩:=r;refine⟨t,_,rfl,fz O.hh (.head _),rfl,cD (fq (fun u hu=>aq Y Pk hu)) (cD (fq (fun u hu=>aq Y P6 hu)) (gV ?_))⟩;refine SE.sub ?_ (.cons _ (.refl _));refine SE.fit (fQ.dM (List.perm_middle (l₁:=cn ⟨y,dy,l,x,d,aa.Plen,aa.Pstr,f.C,aa.C⟩ wd [aw m 1,aw m 0] [] [] rm)).symm) ?_
   exact k iU ⟨y,dy,l,x,d,aa.Plen,aa.Pstr,f.C,aa.C⟩ ⟨rfl,rfl,rfl,rfl⟩
end
noncomputable def cJ (ps:List (List Nat)) (b e:Nat):List Nat:=((ps.drop b).take (e-b)).flatten
noncomputable def jz (ks:Nat→Nat) (b k:Nat):List (Int×Int):=(List.range (k-b)).map fun i=>(((ks (b+i):Nat):Int),((b+i:Nat):Int))
def gj (ks:Nat→Nat) (b k:Nat):Nat:=((kN (jz ks b k)).2+1).toNat
def cz (ks:Nat→Nat) (width room:Nat) (ps:List (List Nat)):Nat→List (List Nat)×Nat×Nat×List (List Nat)
 | 0=>([],0,room,ps)
 | k+1=>match cz ks width room ps k with
  | (rows,b,rm,qs)=>
   if width<rm+(cJ qs b (k+1)).length then
    if b<k then (rows++[cJ qs b (gj ks b k)],gj ks b k,0,qs)
    else if rm≠0 then (rows++[[]],b,0,qs.set 0 (32::qs.getD 0 []))
    else (rows,b,rm,qs)
   else (rows,b,rm,qs)
def iV (ks:Nat→Nat) (width room:Nat) (ps:List (List Nat)) (sp:List Nat):Nat→List (List Nat)×List Pr×Nat
 | 0=>([],[],room)
 | k+1=>match iV ks width room ps sp k with
  | (l,t,z)=>dG l t z width sp [] ((cz ks width room ps k).2.2.2.getD k [])
theorem xl: ∀(l:List (Int×Int)),l≠[]→kN l∈l:=by
 intro l h;cases l with
 | nil=>exact absurd rfl h
 | cons t ts=>
  show ts.foldl lI t∈t::ts;clear h
  induction ts generalizing t with
  | nil=>exact .head _
  | cons u ts ih=>
   rw[List.foldl_cons];rcases List.mem_cons.mp (ih (lI t u)) with h | h
   ·rw[h];unfold lI;split
    ·exact .tail _ (.head _)
    ·exact .head _
   ·exact .tail _ (.tail _ h)
theorem vW {ks:Nat→Nat}{b k:Nat}(h:b<k):(kN (jz ks b k)).2+1=(gj ks b k:Nat)∧b<gj ks b k∧gj ks b k≤k:=by
 have hm:=xl (jz ks b k) (by unfold jz;intro e;have:=congrArg List.length e;simp at this;exact NC h this);unfold jz at hm
 refine aF (List.mem_map.mp hm) fun i hi e=> ?_
 have hi:=List.mem_range.mp hi
 have:(kN (jz ks b k)).2=((b+i:Nat):Int):=by unfold jz;rw[←e]
 unfold gj;rw[this];exact U6 hi
structure mK (ks:Nat→Nat) (width room:Nat) (ps:List (List Nat)) (sp:List Nat) (k:Nat):Prop where
 len:(cz ks width room ps k).2.2.2.length=4
 short: ∀x∈(cz ks width room ps k).2.2.2,x.length≤20
 rows:(cz ks width room ps k).1.length≤10
 b:(cz ks width room ps k).2.1≤4
 rm:(cz ks width room ps k).2.2.1≤7
 small:Small ((iV ks width room ps sp k).2.1++[([],(cz ks width room ps k).2.2.2.getD k [])]) (iV ks width room ps sp k).2.2
 n:(iV ks width room ps sp k).2.1.length≤10
 ll:(iV ks width room ps sp k).1.length≤10
 sp:0<(iV ks width room ps sp k).2.2→dR ((iV ks width room ps sp k).2.1++[([],(cz ks width room ps k).2.2.2.getD k [])]) sp=none→Txt.isspace (mk (tS (cf (iV ks width room ps sp k).2.1)))=false
theorem gY {l:List (List Nat)}{m:Nat}(h: ∀x∈l,x.length≤m):(l.map (·.length)).sum≤l.length*m:=by
 induction l with
 | nil=>simp
 | cons x l ih=>
  have h1:=h x (.head _);have h2:=ih fun y hy=>h y (.tail _ hy)
  simp only[List.map_cons,List.sum_cons,List.length_cons,Nat.add_mul]
  exact TV h1 h2
theorem C9 (l:List (List Nat)) (b e:Nat):sl (aG l) (some (b:Int)) (some (e:Int))=aG ((l.drop b).take (e-b)):=by
 rw[om];unfold aG;rw[List.map_take,List.map_drop]
section
variable {prog:Program}{w:World}{T:aX}{n:Nat}{a:mP}{f:gf}{aa:fH}{fa:Addr}{c:tG}{A:Around}{L:Addr}{g:Heap}{os:OsState}{bu:Value}{K:PF→Ro→Led→Prop}{rest:Led}{fD fU eE fb fP iS fI eD ez e8 cA cR cQ bL bK ck cj cI cH bD bW c7 bJ bZ bB bA bz bU:Option PV}{dz aM aZ bx aK aJ aL:Option PV}
theorem rJ {X:Cx}{ρ:Ro}{σ:Led}{x v e1 e2:Expr}{apos p pos pos':Pos}{pl:Sem Bool}{l:List (List Nat)}{q:Addr}{b e:Nat}(hx:PE prog w X x ρ σ (.str [])) (hv:PE prog w X v ρ σ (.ref q)) (hm:(q,az (aG l))∈σ) (h1:PE prog w X e1 ρ σ (.int b)) (h2:PE prog w X e2 ρ σ (.int e)) (hs: ∀x∈l,x.length≤20) (hl:l.length≤10)
  (hq:eval ((x.Attribute ("join":Str) apos).Call [.Subscript v (.Slice (some e1) (some e2) none p) pos] [] pos') X.env=(do let ov ←eval x X.env;standAt apos.atName;let fx ←holding [ov] (getMethod ov ("join":Str) pl);match fx with | (f,first)=>callWith pos' f first (backTo pos' (starEach [.Subscript v (.Slice (some e1) (some e2) none p) pos] X.env)) []))
  (he:starEach [.Subscript v (.Slice (some e1) (some e2) none p) pos] X.env=[(false,eval (.Subscript v (.Slice (some e1) (some e2) none p) pos) X.env)])
  (ht: ∀x r,letTemporaryGo v (.ref x) r=pure ()):
  PE prog w X (.Call (.Attribute x ("join":Str) apos) [.Subscript v (.Slice (some e1) (some e2) none p) pos] [] pos') ρ σ (.str (cJ l b e)):=by
 have h:cJ l b e=aB [] ((l.drop b).take (e-b)):=(dN _).symm;rw[h];have hn:((l.drop b).take (e-b)).length≤10:=by rw[List.length_take,List.length_drop];exact Ux hl
 have Rx:=gY (l:=(l.drop b).take (e-b)) (m:=20) fun x hx=>hs x (List.mem_of_mem_drop (List.mem_of_mem_take hx))
 exact iw hx (C9 l b e ▸ fc hv (.inl hm) (aV h1) (aV h2) (by rw[aO];exact I8 hl) ht) (by simp only[List.length_nil,Nat.mul_zero,Nat.add_zero];exact W3 hn Rx) hq he
theorem Um.app {a:Addr}{Q P:Obj→Prop}{σ σ':Led}(l:Led) (h:Um a Q P σ σ'):Um a Q P (l++σ) (l++σ'):=by
 induction l with
 | nil=>exact h
 | cons x l ih=>exact .there ih
theorem zX (B:FK prog T f aa) {F:v7}(AF:ie F f aa) {ml:Int}{sp:List Nat}{lines:List (List Nat)}{ts:List (Addr×Pr)}{z:Nat}(O:Led) {u s:List Nat}(hn:ts.length≤800) (hs:Small (ts.map (·.2)++[(u,s)]) z) (jB:lines.length≤100000)
  (lr:0<z→dR (ts.map (·.2)++[(u,s)]) sp=none→Txt.isspace (mk (tS (cf (ts.map (·.2)))))=false):
  Fn prog w T (n+8) (.ref f.chunk) [.ref F.y,.str u,.str s] (O++(cn F ml sp lines ts z++rest)) (fun r σ'=>r= .none∧ ∃us:List (Addr×Pr),us.map (·.2)=(dG lines (ts.map (·.2)) z ml sp u s).2.1∧σ'=O++(cn F ml sp (dG lines (ts.map (·.2)) z ml sp u s).1 us (dG lines (ts.map (·.2)) z ml sp u s).2.2++rest)):=
 ((zW B AF (rest:=O++rest) hn hs jB lr).fit (fun v σ' h=>by
  refine DK h fun us h1 h2 ah=> ?_;clear h;subst ah
  exact⟨_,fQ.dM (List.perm_append_comm_assoc _ _ _),h1,us,h2,rfl⟩)).from (fQ.dM (List.perm_append_comm_assoc _ _ _))
theorem Qk (B:FK prog T f aa) (G:cS T) (O:cU T (n+9) (lX fa c A L g os bu)) (Y:Lay (lX fa c A L g os bu)) {cm kd pc iU:Addr}{F:v7}(AF:ie F f aa) {m wd jT:Nat}{ps:List (List Nat)}{sp:List Nat}{e1 e2:Addr×(Obj→Prop)}(vE:wd≤1000)
  (H: ∀k,k<4→mK (aN m) wd jT ps sp k)
  (k: ∀bD dz us,us.map (·.2)=(iV (aN m) wd jT ps sp 4).2.1→SE prog w (lX fa c A L g os bu) (lB 16) (fL bU bz bA bB bZ bJ c7 bW bD (some (.ref iU)) (some (.ref F.y)) (some (.int ((cz (aN m) wd jT ps 4).2.2.1:Nat))) (some (.int (wd:Nat))) bK bL (some (.ref pc)) (some (.ref cm)) cA (some (.int ((cz (aN m) wd jT ps 4).2.1:Nat))) ez eD fI iS fP fb eE fU fD) ((iU,az (aG (cz (aN m) wd jT ps 4).1))::(pc,az (aG (cz (aN m) wd jT ps 4).2.2.2))::(kd,az (dK (bq m 4)))::e1::e2::(c.k,ae (dz))::(c.order,ae aM)::(c.book,ae aZ)::(c.bw,ae bx)::(c.kinds,ae (some (.ref kd)))::(c.one,ae aJ)::(c.two,ae aL)::(cn F (wd:Nat) sp (iV (aN m) wd jT ps sp 4).1 us (iV (aN m) wd jT ps sp 4).2.2++rest)) K):
  SE prog w (lX fa c A L g os bu) (lB 15) (fL bU bz bA bB bZ bJ c7 bW bD (some (.ref iU)) (some (.ref F.y)) (some (.int (jT:Nat))) (some (.int (wd:Nat))) bK bL (some (.ref pc)) (some (.ref cm)) cA (some (.int (0:Nat))) ez eD fI iS fP fb eE fU fD) ((iU,az (aG []))::(pc,az (aG ps))::(kd,az (dK (bq m 4)))::e1::e2::(c.k,ae (dz))::(c.order,ae aM)::(c.book,ae aZ)::(c.bw,ae bx)::(c.kinds,ae (some (.ref kd)))::(c.one,ae aJ)::(c.two,ae aL)::(cn F (wd:Nat) sp [] [] jT++rest)) K:=by
 refine af (gJ (a:=0) (b:=4) 4 (è vE) O.hh (fun i ρ σ'=>(∃bD dz us,us.map (·.2)=(iV (aN m) wd jT ps sp i).2.1∧ρ=(fL bU bz bA bB bZ bJ c7 bW bD (some (.ref iU)) (some (.ref F.y)) (some (.int ((cz (aN m) wd jT ps i).2.2.1:Nat))) (some (.int (wd:Nat))) bK bL (some (.ref pc)) (some (.ref cm)) cA (some (.int ((cz (aN m) wd jT ps i).2.1:Nat))) ez eD fI iS fP fb eE fU fD)∧σ'=(iU,az (aG (cz (aN m) wd jT ps i).1))::(pc,az (aG (cz (aN m) wd jT ps i).2.2.2))::(kd,az (dK (bq m 4)))::e1::e2::(c.k,ae (dz))::(c.order,ae aM)::(c.book,ae aZ)::(c.bw,ae bx)::(c.kinds,ae (some (.ref kd)))::(c.one,ae aJ)::(c.two,ae aL)::(cn F (wd:Nat) sp (iV (aN m) wd jT ps sp i).1 us (iV (aN m) wd jT ps sp i).2.2++rest)))
  (eF (aC O rfl G.range.1 G.range.2) ai (dA (Oh vE) (Og vE) (ê vE) (ç vE))) ⟨_,_,[],rfl,rfl,rfl⟩ ?_ ?_)
 ·rintro I i ρ σ' hi ⟨bD,dz,us,ia,rfl,rfl⟩ hI;refine⟨_,_,fun u hu=>cw (c:=c.k) (v₀:=dz) rfl rfl rfl (by trivial) hu,?_⟩;rw[Int.zero_add];have S:=H i hi;have MB:(iV (aN m) wd jT ps sp (i+1))=dG (iV (aN m) wd jT ps sp i).1 (iV (aN m) wd jT ps sp i).2.1 (iV (aN m) wd jT ps sp i).2.2 wd sp [] ((cz (aN m) wd jT ps i).2.2.2.getD i []):=rfl;have vM:(cz (aN m) wd jT ps (i+1))=(match (cz (aN m) wd jT ps i) with
  | (rows,b,rm,qs)=>
   if wd<rm+(cJ qs b (i+1)).length then
    if b<i then (rows++[cJ qs b (gj (aN m) b i)],gj (aN m) b i,0,qs)
    else if rm≠0 then (rows++[[]],b,0,qs.set 0 (32::qs.getD 0 []))
    else (rows,b,rm,qs)
   else (rows,b,rm,qs)):=rfl
  have ta:=S.len;have mL:=S.short;have Gk:=S.rows;have Sb:=S.b;have Srm:=S.rm;have JY:=S.small;have Sn:=S.n;have Sll:=S.ll;have Ssp:=S.sp;clear S;generalize (iV (aN m) wd jT ps sp (i+1))=M1 at MB ⊢
  generalize (iV (aN m) wd jT ps sp i)=M0 at*
  generalize (cz (aN m) wd jT ps (i+1))=R1 at vM ⊢
  generalize (cz (aN m) wd jT ps i)=R0 at*
  obtain⟨rows,b,rm,qs⟩:=R0;obtain⟨ln,pr,z⟩:=M0;dsimp only at*
  subst ia;have hqi:cB (aG qs) (i:Int)= .str (qs.getD i []):=fv (ND hi ta);have nQ:(aG qs).length=4:=by rw[aO];exact ta
  refine af (fu (eU (k:=n+8) O rfl B.E.cls B.E.chunk (ag Y 17 rfl) (mj (d:=F.dy) (by rw[←AF.cF];exact(by trivial)) (by trivial)) (by show (_:Str)∉[("_current_line":Str),"_lines","_splitchars","_continuation_ws_len","_continuation_ws","_maxlen"];decide)
   (bO (Bp (v:=.str []) aT (bR (ps:=aG qs) (i:=(i:Int)) (p:=.str (qs.getD i [])) (ag Y 12 rfl) (.inl (by trivial)) (ay (c:=c.k) rfl rfl rfl (by trivial)) kU (NF hi nQ) (ky nQ) hqi))) į (fun vs σ' h=>by
    refine bo h fun h1 h2=> ?_
    subst h1;subst h2;exact zX B AF (((I,tv 0 4 I (i+1))::(iU,az (aG rows))::(pc,az (aG qs))::(kd,az (dK (bq m 4)))::e1::e2::(c.k,ae (some (.int i)))::(c.order,ae aM)::(c.book,ae aZ)::(c.bw,ae bx)::(c.kinds,ae (some (.ref kd)))::(c.one,ae aJ)::(c.two,ae aL)::[])) (by rw[List.length_map] at Sn;omega) JY (ñ Sll) Ssp)) (fun v σ' h=> ?_))
  refine DK h fun yh ah Lz aU=> ?_;clear h;subst ah;subst aU
  rw[←MB] at Lz ⊢
  refine⟨rfl,?_⟩;have R3:(cJ qs b (i+1)).length≤200:=by
   unfold cJ;rw[List.length_flatten]
   have:=gY (l:=(qs.drop b).take (i+1-b)) (m:=20) fun x hx=>mL x (List.mem_of_mem_drop (List.mem_of_mem_take hx))
   have hn:((qs.drop b).take (i+1-b)).length≤10:=by rw[List.length_take,List.length_drop];exact UG ta
   exact Nat.le_trans this (Oj hn)
  have fin: ∀(bD:Option PV),R1=R1→ ∀τ,τ=(I,tv 0 4 I (i+1))::(iU,az (aG R1.1))::(pc,az (aG R1.2.2.2))::(kd,az (dK (bq m 4)))::e1::e2::(c.k,ae (some (.int i)))::(c.order,ae aM)::(c.book,ae aZ)::(c.bw,ae bx)::(c.kinds,ae (some (.ref kd)))::(c.one,ae aJ)::(c.two,ae aL)::(cn F (wd:Nat) sp M1.1 yh M1.2.2++rest)→
    SE prog w (lX fa c A L g os bu) [] (fL bU bz bA bB bZ bJ c7 bW bD (some (.ref iU)) (some (.ref F.y)) (some (.int (R1.2.2.1:Nat))) (some (.int (wd:Nat))) bK bL (some (.ref pc)) (some (.ref cm)) cA (some (.int (R1.2.1:Nat))) ez eD fI iS fP fb eE fU fD) τ
     (jR (JX prog w (lX fa c A L g os bu) (lB 16) K) fun eJ ak=> ∃aR,(∃bD dz us,us.map (·.2)=M1.2.1∧eJ=(fL bU bz bA bB bZ bJ c7 bW bD (some (.ref iU)) (some (.ref F.y)) (some (.int (R1.2.2.1:Nat))) (some (.int (wd:Nat))) bK bL (some (.ref pc)) (some (.ref cm)) cA (some (.int (R1.2.1:Nat))) ez eD fI iS fP fb eE fU fD)∧
      aR=(iU,az (aG R1.1))::(pc,az (aG R1.2.2.2))::(kd,az (dK (bq m 4)))::e1::e2::(c.k,ae (dz))::(c.order,ae aM)::(c.book,ae aZ)::(c.bw,ae bx)::(c.kinds,ae (some (.ref kd)))::(c.one,ae aJ)::(c.two,ae aL)::(cn F (wd:Nat) sp M1.1 us M1.2.2++rest))∧((I,tv 0 4 I (i+1))::aR).Sublist ak):=by
   rintro bD _ τ rfl;exact aj ⟨_,⟨_,_,yh,Lz,rfl,rfl⟩,.refl _⟩
  have Sg:decide (wd<rm+(cJ qs b (i+1)).length)=decide ((wd:Int)<(rm:Int)+((cJ qs b (i+1)).length:Int)):=by
   by_cases h:wd<rm+(cJ qs b (i+1)).length
   ·rw[decide_eq_true h,decide_eq_true (VC h)]
   ·rw[decide_eq_false h,decide_eq_false (Uo h)]
  refine af (bH (c:=decide (wd<rm+(cJ qs b (i+1)).length)) (by
   rw[Sg];exact bb (bQ (ag Y 16 rfl) (bg (aC O rfl G.len.1 G.len.2) (gQ (rJ (b:=b) (e:=i+1) aT (ag Y 12 rfl) (by trivial) (ag Y 9 rfl) (by rw[show ((i+1:Nat):Int)=(i:Int)+1 by exact Ţ];exact bQ (ay (c:=c.k) rfl rfl rfl (by trivial)) ai) mL (Ol ta) rfl rfl (by intro _ _;rfl))) (fj (Ó R3)))) (ag Y 15 rfl) mG) (fun h=> ?_) (fun h=> ?_))
  ·have h:=of_decide_eq_true h;rw[if_pos h] at vM
   have hbi:decide (b<i)=decide ((b:Int)<(i:Int)):=by
    by_cases h:b<i
    ·rw[decide_eq_true h,decide_eq_true (EW h)]
    ·rw[decide_eq_false h,decide_eq_false (Wl h)]
   refine af (bH (c:=decide (b<i)) (by
    rw[hbi];exact bb (ag Y 9 rfl) (ay (c:=c.k) rfl rfl rfl (by trivial)) zQ) (fun h2=> ?_) (fun h2=> ?_))
   ·have h2:=of_decide_eq_true h2;rw[if_pos h2] at vM
    refine Pq (vW (ks:=aN m) h2) fun c1 c2 c3=> ?_
    subst vM;have Sf:(gj (aN m) b i:Int)=(kN ((List.range (i-b)).map fun j=>(((aN m (b+j):Nat):Int),((b+j:Nat):Int)))).2+1:=c1.symm;refine af (aI Y (v:=.int (gj (aN m) b i:Nat)) (by
     rw[Sf];refine bQ (DC O (k:=i-b) (f:=fun j=>(((aN m (b+j):Nat):Int),((b+j:Nat):Int))) (U0 c2 c3) (aC O rfl G.max.1 G.max.2) (zz (cl:=[("kinds",c.kinds)]) (a:=b) (b:=i) (i-b) (U1 c2 c3) (fun j=>(((aN m (b+j):Nat):Int),((b+j:Nat):Int))) rfl O.hh rfl dC rfl dC rfl
      (ki (aC O rfl G.range.1 G.range.2) (ag Y 9 rfl) (ay (c:=c.k) rfl rfl rfl (by trivial)) (dA E6 (Ë Sb) E6 (Jd hi))) (Yn hi) (fun C aD j hj hm=> ?_)) (fun U=>ai)) ai
     rw[show (b:Int)+(j:Int)=((b+j:Nat):Int) by exact xo];refine⟨bR (ps:=dK (bq m 4)) (i:=((b+j:Nat):Int)) (ay (c:=c.kinds) rfl rfl rfl (hm _ (.tail _ (by trivial)))) (.inl (hm _ (.tail _ (by trivial)))) (cW (Lay.comp rfl rfl) (.head _)) V5 (by rw[cK];simp[bq];exact UK hi hj) (by rw[cK];simp[bq]) ?_,cW (Lay.comp rfl rfl) (.head _)⟩;rw[lq (by simp[bq];exact M6 hi hj)]
     have:b+j<4:=M6 hi hj
     simp[bq,List.getD_eq_getElem?_getD,List.getElem?_range this]) P5 ?_)
    have aan:(cJ qs b (gj (aN m) b i)).length≤200:=by
     unfold cJ;rw[List.length_flatten]
     have:=gY (l:=(qs.drop b).take (gj (aN m) b i-b)) (m:=20) fun x hx=>mL x (List.mem_of_mem_drop (List.mem_of_mem_take hx))
     have hn:((qs.drop b).take (gj (aN m) b i-b)).length≤10:=by rw[List.length_take,List.length_drop];exact UE ta
     exact Nat.le_trans this (Oj hn)
    refine af (eY (a:=iU) (ps:=aG rows) (ag Y 18 rfl) (aQ (v:=.str (cJ qs b (gj (aN m) b i))) (rJ (b:=b) (e:=gj (aN m) b i) aT (ag Y 12 rfl) (by trivial) (ag Y 9 rfl) (ag Y 19 rfl) mL (Ol ta) rfl rfl (by intro _ _;rfl))) (fun v σ' r=> ?_) (by trivial) (by rw[aO];exact I8 Gk));refine bo r fun ah aU=> ?_;clear r;subst ah;subst aU
    refine⟨_,(by trivial),?_⟩;rw[gK];refine af (fX (names:=["begin","room"]) (b0 (fW (vs:=[.int (gj (aN m) b i:Nat),.int (0:Nat)]) (.cons (ag Y 19 rfl) (.cons ai .nil)) (by show 2≤16777216;decide))) (fun v σ' r=> ?_));refine aF r fun t ah aU=> ?_;clear r;subst ah;subst aU
    refine⟨t,_,rfl,fz O.hh (.head _),rfl,cD (fq (fun u hu=>aq Y GP hu)) (cD (fq (fun u hu=>aq Y Pk hu)) (gV ?_))⟩;refine SE.sub ?_ (.cons _ (.refl _));exact aj (aj (fin _ rfl _ rfl))
   ·have h2:=of_decide_eq_false h2;rw[if_neg h2] at vM
    refine af (bH (c:=((rm:Nat):Int) != 0) (eH (ag Y 16 rfl) (fun u s h I=>tT u s h I)) (fun h3=> ?_) (fun h3=> ?_))
    ·have h3:rm≠0:=by intro e;subst e;simp at h3
     rw[if_pos h3] at vM
     subst vM;refine af (eY (a:=iU) (ps:=aG rows) (ag Y 18 rfl) (aQ (v:=.str []) aT) (fun v σ' r=> ?_) (by trivial) (by rw[aO];exact I8 Gk));refine bo r fun ah aU=> ?_;clear r;subst ah;subst aU
     refine⟨_,(by trivial),?_⟩;rw[gK];have Kj:(qs.getD 0 []).length≤20:=mL _ (b8 (Om ta));have h0:cB (aG qs) (0:Int)= .str (qs.getD 0 []):=fv (i:=0) (Om ta);refine af (Df (a:=pc) (ps:=aG qs) (k:=0) (v:=.str (32::qs.getD 0 [])) (bh (a:=[32]) (b:=qs.getD 0 []) aT (bR (ps:=aG qs) (i:=0) (ag Y 12 rfl) (.inl (by trivial)) ai Ak (E0 nQ) (ky nQ) h0) (by show 1+_≤16777216;exact Ô Kj)) (ag Y 12 rfl) ai dC (E0 nQ) (ky nQ) (by trivial) ?_);have D5:(aG qs).set (0:Int).toNat (.str (32::qs.getD 0 []))=aG (qs.set 0 (32::qs.getD 0 [])):=by unfold aG;rw[List.map_set];rfl
     rw[D5];refine af (aI Y (v:=.int (0:Nat)) ai GP ?_);exact aj (aj (aj (fin bD rfl _ rfl)))
    ·have h3: ¬rm≠0:=by intro e;apply e;simpa using h3
     rw[if_neg h3] at vM
     subst vM;exact aj (aj (aj (fin bD rfl _ rfl)))
  ·have h:=of_decide_eq_false h;rw[if_neg h] at vM
   subst vM;exact aj (fin _ rfl _ rfl)
 ·rintro ρ σ' ⟨bD,dz,us,ia,rfl,rfl⟩;exact aj (k _ _ _ ia)
end
theorem vP (l:List Nat) (c:Nat):sb l [c]=l.contains c:=by
 unfold sb;have key: ∀(l:List Nat) (lo:Nat),(∃i,lo≤i∧i+1≤l.length∧iQ l [c] i=true)↔c∈l.drop lo:=by
  intro l lo;constructor
  ·rintro ⟨i,h1,h2,h3⟩;unfold iQ at h3
   have h3:=beq_iff_eq.mp h3
   have:c∈(l.drop i).take [c].length:=by rw[h3];exact .head _
   have:=List.mem_of_mem_take this
   have e:l.drop i=(l.drop lo).drop (i-lo):=by rw[List.drop_drop];congr 1;exact Wr h1
   rw[e] at this
   exact List.mem_of_mem_drop this
  ·intro h;obtain⟨j,hj,e⟩:=List.mem_iff_getElem.mp h;rw[List.length_drop] at hj
   refine⟨lo+j,by exact EV,by exact U5 hj,?_⟩;unfold iQ;rw[List.getElem_drop] at e
   rw[List.drop_eq_getElem_cons (M7 hj),e];simp
 have hf:=f6 l [c] 0 l.length;unfold kS at hf
 have hk:=key l 0;rw[List.drop_zero] at hk
 rw[show (mk l).length=l.length from aA l];generalize PySem.Builtin.Str.occurrences (mk l) (mk [c]) 0 l.length 1=oc at*
 cases oc with
 | nil=>
  rcases hf with ⟨_,h⟩ | ⟨i,h,_⟩
  ·have:c∉l:=fun hm=>by
    refine gR (hk.mpr hm) fun i h1 h2 h3=> ?_
    rw[h i h1 h2] at h3;cases h3
   simp[this]
  ·simp at h
 | cons q oc=>
  rcases hf with ⟨h,_⟩ | ⟨i,h,h1,h2,h3,_⟩
  ·simp at h
  ·have:c∈l:=hk.mp ⟨i,h1,h2,h3⟩
   simp[this]
def eM (ch:Nat):Bool:=(aP++[32,10]).contains ch
def cy:List Nat→List Nat
 | []=>[]
 | ch::r=>(if eM ch then [] else xT ch)++cy r
theorem EJ (ch:Nat):decide ((ch:Int)∈Kr)=aP.contains ch:=by
 have e:Kr=aP.map fun (i:Nat)=>(i:Int):=by decide
 rw[e];by_cases h:ch∈aP
 ·rw[decide_eq_true (List.mem_map.mpr ⟨ch,h,rfl⟩)];simp[h]
 ·rw[decide_eq_false fun hm=>h (by refine aF (List.mem_map.mp hm) fun i hi e=> ?_;rwa [show i=ch from Int.ofNat.inj e] at hi)];simp[h]
theorem iY: ∀(l:List Nat) (ch:Nat),cy (l++[ch])=cy l++(if eM ch then [] else xT ch)
 | [],ch=>by simp[cy]
 | x::l,ch=>by rw[List.cons_append,cy.eq_2,iY l ch,cy.eq_2];simp
section
variable {prog:Program}{w:World}{T:aX}{n:Nat}{a:mP}{f:gf}{aa:fH}{fa:Addr}{c:tG}{A:Around}{L:Addr}{g:Heap}{os:OsState}{bu:Value}{K:PF→Ro→Led→Prop}{rest:Led}{fD fU eE fb fP iS fI eD ez e8 cA cR cQ bL bK ck cj cI cH bD bW c7 bJ bZ bB bA bz bU:Option PV}{dz aM aZ bx aK aJ aL:Option PV}
theorem nv: ∀(l:List Nat),(∀ch∈l,eM ch=false→(xT ch).length≤1000)→(cy l).length≤l.length*1000
 | [],_=>by simp[cy]
 | ch::r,h=>by
  have ih:=nv r fun x hx=>h x (.tail _ hx)
  have h1:=h ch (.head _);rw[cy.eq_2,List.length_append,List.length_cons,Nat.add_mul];cases hs:eM ch with
  | true=>simp;exact XS ih
  | false=>have:=h1 hs;simp only[Bool.false_eq_true,if_false];exact UW ih this
theorem Eo (B:FK prog T f aa) {F:v7}(AF:ie F f aa) {ml:Int}{sp sep:List Nat}{lines:List (List Nat)}{ts:List (Addr×Pr)}{z:Nat}(O:Led) (hs:Small (cf (ts.map (·.2))) z) (hn:ts.length≤900) (lr:Txt.isspace (mk (tS (cf (ts.map (·.2)))))=false) (ib:0<z+wS (cf (ts.map (·.2)))) (jB:lines.length≤1000)
  (hj:((lines++[tS (cf (ts.map (·.2)))]).map (·.length)).sum+(lines++[tS (cf (ts.map (·.2)))]).length*sep.length≤16777216):
  Fn prog w T (n+7) (.ref f.str) [.ref F.y,.str sep] (O++(cn F ml sp lines ts z++rest)) (fun r σ'=>r= .str (aB sep (lines++[tS (cf (ts.map (·.2)))]))∧σ'=O++(cn F ml sp (lines++[tS (cf (ts.map (·.2)))]) [] 0++rest)):=
 ((En B AF (rest:=O++rest) hs hn lr ib jB hj).fit (fun v σ' h=>by
  refine bo h fun h1 ah=> ?_;clear h;subst ah
  exact⟨_,fQ.dM (List.perm_append_comm_assoc _ _ _),h1,rfl⟩)).from (fQ.dM (List.perm_append_comm_assoc _ _ _))
theorem Qj (B:FK prog T f aa) (D:Text T a) (G:cS T) (O:cU T (n+9) (lX fa c A L g os bu)) (Y:Lay (lX fa c A L g os bu)) {st kd pc iU:Addr}{F:v7}(AF:ie F f aa) {m wd:Nat}{sp:List Nat}{e1:Addr×(Obj→Prop)}
  {rows lines qs sw:List (List Nat)}{b z:Nat}{us:List (Addr×Pr)}{page tl:List Nat}
  (LW:aB [10] (lines++[tS (cf (us.map (·.2)))])=page) (LO:aB [10] (rows++[(qs.drop b).flatten])=page)
  (hs:Small (cf (us.map (·.2))) z) (hn:us.length≤100) (lr:Txt.isspace (mk (tS (cf (us.map (·.2)))))=false) (ib:0<z+wS (cf (us.map (·.2)))) (jB:lines.length≤100) (PA: ∀x∈lines,x.length≤1000) (df:(tS (cf (us.map (·.2)))).length≤1000)
  (qR:rows.length≤10) (vH: ∀x∈rows,x.length≤1000) (nQ:qs.length=4) (D7: ∀x∈qs,x.length≤20) (uA:page.length≤10000)
  (LD:cy page=tl) (hsw:sw.flatten=tl) (gM:sw.length=4) (Rv: ∀x∈sw,x.length≤7) (Mb: ∀ch∈page,eM ch=false→(Txt.lower (mk [ch])).length≤1000∧(xT ch).length≤1000)
  (k: ∀bW bJ,SE prog w (lX fa c A L g os bu) (lB 21) (fL bU bz bA bB bZ bJ (some (.str tl)) bW bD (some (.ref iU)) (some (.ref F.y)) cj ck bK bL (some (.ref pc)) cR (some (.str aP)) (some (.int (b:Nat))) ez eD fI iS fP fb eE fU fD) ((iU,az (aG rows))::(pc,az (aG qs))::(kd,az (dK (bq m 4)))::e1::(st,az (aG sw))::(c.k,ae (dz))::(c.order,ae aM)::(c.book,ae aZ)::(c.bw,ae (some (.ref st)))::(c.kinds,ae (some (.ref kd)))::(c.one,ae aJ)::(c.two,ae aL)::(aa.Plen,bX)::(aa.Pstr,bX)::rest) K):
  SE prog w (lX fa c A L g os bu) (lB 16) (fL bU bz bA bB bZ bJ c7 bW bD (some (.ref iU)) (some (.ref F.y)) cj ck bK bL (some (.ref pc)) cR (some (.str aP)) (some (.int (b:Nat))) ez eD fI iS fP fb eE fU fD) ((iU,az (aG rows))::(pc,az (aG qs))::(kd,az (dK (bq m 4)))::e1::(st,az (aG sw))::(c.k,ae (dz))::(c.order,ae aM)::(c.book,ae aZ)::(c.bw,ae (some (.ref st)))::(c.kinds,ae (some (.ref kd)))::(c.one,ae aJ)::(c.two,ae aL)::(cn F (wd:Nat) sp lines us z++rest)) K:=by
 have hj:((lines++[tS (cf (us.map (·.2)))]).map (·.length)).sum+(lines++[tS (cf (us.map (·.2)))]).length*([10]:List Nat).length≤16777216:=by
  have h1:=gY (l:=lines++[tS (cf (us.map (·.2)))]) (m:=1000) (fun x hx=>by
   rcases List.mem_append.mp hx with hx | hx
   ·exact PA x hx
   ·rw[List.mem_singleton.mp hx];exact df)
  have h2:(lines++[tS (cf (us.map (·.2)))]).length≤101:=by rw[List.length_append];simp;exact ï jB
  have h3:([10]:List Nat).length=1:=rfl;rw[h3];have h4:(lines++[tS (cf (us.map (·.2)))]).length*1000≤101*1000:=Nat.mul_le_mul_right _ h2;generalize ((lines++[tS (cf (us.map (·.2)))]).map (·.length)).sum=q at*
  exact YL h4 h1
 refine af (dc (R:=fun v σ'=>v= .str page∧σ'=(iU,az (aG rows))::(pc,az (aG qs))::(kd,az (dK (bq m 4)))::e1::(st,az (aG sw))::(c.k,ae (dz))::(c.order,ae aM)::(c.book,ae aZ)::(c.bw,ae (some (.ref st)))::(c.kinds,ae (some (.ref kd)))::(c.one,ae aJ)::(c.two,ae aL)::(aa.Plen,bX)::(aa.Pstr,bX)::rest) (VX.fit (eU (k:=n+7) (R₂:=fun r σ'=>r= .str page∧σ'=((iU,az (aG rows))::(pc,az (aG qs))::(kd,az (dK (bq m 4)))::e1::(st,az (aG sw))::(c.k,ae (dz))::(c.order,ae aM)::(c.book,ae aZ)::(c.bw,ae (some (.ref st)))::(c.kinds,ae (some (.ref kd)))::(c.one,ae aJ)::(c.two,ae aL)::[])++(cn F (wd:Nat) sp (lines++[tS (cf (us.map (·.2)))]) [] 0++rest)) O rfl B.E.cls B.E.str (ag Y 17 rfl) (mj (d:=F.dy) (by rw[←AF.cF];exact(by trivial)) (by trivial)) (by show (_:Str)∉[("_current_line":Str),"_lines","_splitchars","_continuation_ws_len","_continuation_ws","_maxlen"];decide)
  (bO (gQ (v:=.str [10]) aT)) İ (fun vs σ' h=>by
   refine bo h fun h1 h2=> ?_
   subst h1;subst h2;rw[←LW];exact Eo B AF ((iU,az (aG rows))::(pc,az (aG qs))::(kd,az (dK (bq m 4)))::e1::(st,az (aG sw))::(c.k,ae (dz))::(c.order,ae aM)::(c.book,ae aZ)::(c.bw,ae (some (.ref st)))::(c.kinds,ae (some (.ref kd)))::(c.one,ae aJ)::(c.two,ae aL)::[]) hs (ì hn) lr ib (î jB) hj)) (fun v σ' h=> ?_)) (fun v σ' h=> ?_))
 ·refine bo h fun h1 ah=> ?_;clear h;subst ah
  refine⟨_,fQ.oH ?_,h1,rfl⟩;rw[←AF.P,←AF.Q];refine List.Sublist.append_left (l:=((iU,az (aG rows))::(pc,az (aG qs))::(kd,az (dK (bq m 4)))::e1::(st,az (aG sw))::(c.k,ae (dz))::(c.order,ae aM)::(c.book,ae aZ)::(c.bw,ae (some (.ref st)))::(c.kinds,ae (some (.ref kd)))::(c.one,ae aJ)::(c.two,ae aL)::[])) ?_
  exact .cons _ (.cons _ (.cons _ (.cons _ (.cons _ (.cons₂ _ (.cons₂ _ (.refl _)))))))
 ·refine bo h fun ah aU=> ?_;clear h;subst ah;subst aU
  refine⟨_,_,fun u hu=>aq Y P4 hu,?_⟩;have F2: ∀x∈qs.drop b,x.length≤20:=fun x hx=>D7 x (List.mem_of_mem_drop hx)
  have r9:(qs.drop b).length≤4:=by rw[List.length_drop];exact XY nQ
  have tB:(qs.drop b).flatten.length≤80:=by
   rw[List.length_flatten];exact Nat.le_trans (gY (m:=20) F2) (Ì r9)
  have xO:sl (aG qs) (some (b:Int)) none=aG (qs.drop b):=by rw[ft];unfold aG;rw[List.map_drop]
  have hj2:((rows++[(qs.drop b).flatten]).map (·.length)).sum+(rows++[(qs.drop b).flatten]).length*([10]:List Nat).length≤16777216:=by
   have h1:=gY (l:=rows++[(qs.drop b).flatten]) (m:=1000) (fun x hx=>by
    rcases List.mem_append.mp hx with hx | hx
    ·exact vH x hx
    ·rw[List.mem_singleton.mp hx];exact Z4 tB)
   have h2:(rows++[(qs.drop b).flatten]).length≤11:=by rw[List.length_append];simp;exact ó qR
   have h3:([10]:List Nat).length=1:=rfl;rw[h3];have h4:(rows++[(qs.drop b).flatten]).length*1000≤11*1000:=Nat.mul_le_mul_right _ h2;generalize ((rows++[(qs.drop b).flatten]).map (·.length)).sum=q at*
   exact YK h4 h1
  refine af (bH (c:=false) (by
   have e0:(page != aB [10] (rows++[(qs.drop b).flatten]))=false:=by rw[LO];simp
   rw[←e0];refine bb (ag Y 20 rfl) (lg (l:=rows++[(qs.drop b).flatten]) (R:=fun v σ'=> ∃q τ,v= .ref q∧σ'=(q,az (aG (rows++[(qs.drop b).flatten])))::τ∧((iU,az (aG rows))::(pc,az (aG qs))::(kd,az (dK (bq m 4)))::e1::(st,az (aG sw))::(c.k,ae (dz))::(c.order,ae aM)::(c.book,ae aZ)::(c.bw,ae (some (.ref st)))::(c.kinds,ae (some (.ref kd)))::(c.one,ae aJ)::(c.two,ae aL)::(aa.Plen,bX)::(aa.Pstr,bX)::rest).Sublist τ) aT ?_ (fun v σ' r=>by refine jU r fun q τ ah aU h=> ?_;clear r;subst ah;subst aU;exact⟨q,rfl,.head _,.cons _ h⟩) hj2) uL;refine H6 (aQ (ag Y 18 rfl)) (R₂:=fun U U lD ak=> ∃q,lD= .ref q∧ak=(q,az (aG [(qs.drop b).flatten]))::(iU,az (aG rows))::(pc,az (aG qs))::(kd,az (dK (bq m 4)))::e1::(st,az (aG sw))::(c.k,ae (dz))::(c.order,ae aM)::(c.book,ae aZ)::(c.bw,ae (some (.ref st)))::(c.kinds,ae (some (.ref kd)))::(c.one,ae aJ)::(c.two,ae aL)::(aa.Plen,bX)::(aa.Pstr,bX)::rest) (fun v σ' r=> ?_) (fun v σ' lD ak r kQ u gH hu Ly=> ?_)
   ·refine bo r fun ah aU=> ?_;clear r;subst ah;subst aU
    refine b0 (eR (vs:=aG [(qs.drop b).flatten]) (.cons ?_ .nil) (by show 1≤16777216;decide));rw[←dN];exact iw aT (xO ▸ fc (ag Y 12 rfl) (.inl (by trivial)) (aV (ag Y 9 rfl)) bS (by rw[aO];exact ky nQ)) (by
     have:=gY (m:=20) F2
     simp only[List.length_nil,Nat.mul_zero,Nat.add_zero];exact WM r9 this)
   ·refine bo r fun ah aU=> ?_;clear r;subst ah;subst aU
    refine aF kQ fun q ah aU=> ?_;clear kQ;subst ah;subst aU
    have e:aG rows++aG [(qs.drop b).flatten]=aG (rows++[(qs.drop b).flatten]):=by unfold aG;rw[List.map_append]
    rw[←e]
    exact(ra (CV (.inl (by trivial)) (.inl (.head _)) (by rw[aO,aO];simp;exact ð qR) u gH hu Ly)).mono fun v σ' r=>by
     refine aF r fun q' ah aU=> ?_;clear r;subst ah;subst aU
     exact⟨q',_,rfl,rfl,.cons _ (.refl _)⟩) (fun h=>by cases h) (fun U=>aj ?_))
  refine af (aI Y (v:=.str []) aT KC ?_);refine af (js (lO (l:=page)) O.hh (fun i ρ σ'=> ∃bJ,ρ=(fL bU bz bA bB bZ bJ (some (.str (cy (page.take i)))) (some (.str page)) bD (some (.ref iU)) (some (.ref F.y)) cj ck bK bL (some (.ref pc)) cR (some (.str aP)) (some (.int (b:Nat))) ez eD fI iS fP fb eE fU fD)∧σ'=(iU,az (aG rows))::(pc,az (aG qs))::(kd,az (dK (bq m 4)))::e1::(st,az (aG sw))::(c.k,ae (dz))::(c.order,ae aM)::(c.book,ae aZ)::(c.bw,ae (some (.ref st)))::(c.kinds,ae (some (.ref kd)))::(c.one,ae aJ)::(c.two,ae aL)::(aa.Plen,bX)::(aa.Pstr,bX)::rest)
   (y4 (ag Y 20 rfl)) ⟨_,rfl,rfl⟩ (fun U U U U=>trivial) ?_ ?_)
  ·rintro I i ρ σ' hi ⟨bJ,rfl,rfl⟩ hI;refine⟨_,_,fun u hu=>aq Y P1 hu,?_⟩;have HU:page.getD i 0∈page:=b8 hi;have LJ:page.take (i+1)=page.take i++[page.getD i 0]:=by
    rw[List.take_succ,List.getD_eq_getElem?_getD,List.getElem?_eq_getElem hi];rfl
   have hlen:(cy (page.take i)).length≤10000*1000:=by
    refine Nat.le_trans (nv _ fun ch hc hs=>(Mb ch (List.mem_of_mem_take hc) hs).2) ?_
    rw[List.length_take];exact WY uA
   have hl:=Mb _ HU;generalize page.getD i 0=ch at*
   refine af (bH (c:=false) (by
    have e0:((decide ((ch:Int)∈Kr) != sb aP [ch])||((([ch]:List Nat)==[32]) != (([ch]:List Nat)==[32])||false))=false:=by
     rw[EJ,vP];simp
    rw[←e0];exact kx (bb (cZ (k:=1) O (.inl rfl) D.b1.isFn (cP O rfl D.gb1) (gQ (ag Y 22 rfl)) (MY (n:=0) D G) Ah) (fN (ag Y 22 rfl) (ag Y 10 rfl) MO) eu) fun U=>
     kx (bb (cZ (k:=1) O (.inl rfl) D.MV.isFn (cP O rfl D.Sx) (gQ (ag Y 22 rfl)) (Iu (n:=0) D.MV) Ah) (fN (ag Y 22 rfl) aT gD) eu) fun U=>uO) (fun h=>by cases h) (fun U=>aj ?_))
   refine af (bH (c:= !eM ch) (by
    have e0:(!eM ch)= !sb (aP++[32,10]) [ch]:=by rw[vP];rfl
    rw[e0];exact bb (ag Y 22 rfl) (bh (a:=aP) (b:=[32,10]) (ag Y 10 rfl) aT dC) sv) (fun h=> ?_) (fun h=>aj ?_))
   ·have hs:eM ch=false:=by simpa using h
    have hl:=hl hs;refine af (lS (fZ Y (.tail _ (.tail _ (.tail _ (.tail _ (.tail _ (.tail _ (.tail _ (.tail _ (.tail _ (.tail _ (.tail _ (.tail _ (.tail _ (.tail _ (.tail _ (.tail _ (.tail _ (.tail _ (.tail _ (.tail _ (.tail _ (.head _))))))))))))))))))))))) (cZ (k:=1) O (.inl rfl) D.b3.isFn (cP O rfl D.gb3) (gQ (ag Y 22 rfl)) (MX (n:=0) D G (xt hl.1)) Ah) (Ht (XT hlen hl.2)) (fun u hu=>aq Y KC hu) ?_);refine aj (aj ⟨_,⟨some (.str [ch]),?_,rfl⟩,.refl _⟩);rw[LJ,iY,hs];rfl
   ·have hs:eM ch=true:=by simpa using h
    refine aj ⟨_,⟨some (.str [ch]),?_,rfl⟩,.refl _⟩;rw[LJ,iY,hs];simp
  ·rintro ρ σ' ⟨bJ,rfl,rfl⟩;rw[List.take_length,LD];refine aj (af (bH (c:=false) (by
    have e0:(tl != aB [] sw)=false:=by rw[dN,hsw];simp
    rw[←e0];refine bb (ag Y 21 rfl) (lg (l:=sw) (R:=fun v σ'=>v= .ref st∧σ'=(iU,az (aG rows))::(pc,az (aG qs))::(kd,az (dK (bq m 4)))::e1::(st,az (aG sw))::(c.k,ae (dz))::(c.order,ae aM)::(c.book,ae aZ)::(c.bw,ae (some (.ref st)))::(c.kinds,ae (some (.ref kd)))::(c.one,ae aJ)::(c.two,ae aL)::(aa.Plen,bX)::(aa.Pstr,bX)::rest) aT (aQ (ay (c:=c.bw) rfl rfl rfl (by trivial))) (fun v σ' r=>by refine bo r fun ah aU=> ?_;clear r;subst ah;subst aU;exact⟨st,rfl,(by trivial),.refl _⟩) ?_) uL
    have:=gY (m:=7) Rv
    show (sw.map (·.length)).sum+sw.length*0≤16777216;exact Xa gM this) (fun h=>by cases h) (fun U=>aj ?_)))
   exact k _ _
end
theorem tX {α:Type}(l:List α) (h:l≠[]):sl l none (some (-1))=l.dropLast:=by
 unfold sl;simp only[Option.elim];have hp:0<l.length:=List.length_pos_iff.mpr h;have e:clipAt l.length (-1)=l.length-1:=by
  have:=clipAt_cast l.length (-1)
  omega
 rw[e,List.drop_zero,List.dropLast_eq_take];rfl
theorem yw {α:Type}(l:List α) (h:2≤l.length):sl l (some (-2)) none=l.drop (l.length-2):=by
 unfold sl;simp only[Option.elim];have e:clipAt l.length (-2)=l.length-2:=by
  have:=clipAt_cast l.length (-2)
  omega
 rw[e,List.take_of_length_le (by rw[List.length_drop];exact Į)]
noncomputable def cq (tl:List Nat):Nat:=tl.getD (tl.length-1) 0
def fJ (sz:Nat) (tl:List Nat):List (List (List Nat)):=
 [[tl],[tl.take sz,tl.drop sz],[tl.drop 1],[tl.dropLast],[tl.dropLast++[cq tl-32]],[tl,[cq tl]],[[],tl.dropLast,tl.drop (tl.length-2),[]],[[],tl.drop 1,[cq tl]]]
noncomputable def m6 (sw:List (List Nat)) (one two:List Nat):Bool:=(List.range 4).any fun k=>sw.getD k []==one&&(sw.drop (k+1)).any (· ==two)
section
variable {prog:Program}{w:World}{X:Cx}{ρ:Ro}{σ:Led}{R:PV→Led→Prop}
theorem vx {l r:Expr}{op:CmpOp}{pos:Pos}{a:PV}{c:Bool}(hl:PE prog w X l ρ σ a) (hr:GE prog w X r ρ σ R) (h: ∀v σ',R v σ'→σ.Sublist σ'∧Cm prog w X op a v ρ σ' c) (hb:behindInMarks op r=false:=by rfl):PE prog w X (.Compare l [op] [r] pos) ρ σ (.bool c):=fun s I=>
 wpAny_Compare1 (wpAny_mono (hl s I) (fun jW s₁ q₁=>wpAny_mono (hr s₁ q₁.2) (fun gH au dg=>by
  refine jU dg fun v σ' hR hv aH=> ?_
  exact wpAny_mono ((h v σ' hR).2 jW gH q₁.1 hv au aH) (fun r c6 q=>by
   refine bo q fun ah I=> ?_;clear q;subst ah
   exact⟨.bool _,I.sub (h v σ' hR).1⟩) fun U U f=>f) fun U U f=>f) fun U U f=>f) hb
end
section
variable {prog:Program}{w:World}{T:aX}{n:Nat}{a:mP}{fa:Addr}{c:tG}{A:Around}{L:Addr}{g:Heap}{os:OsState}{bu:Value}{K:PF→Ro→Led→Prop}{rest:Led}{fD fU eE fb fP iS fI eD ez e8 cA cR cQ bL bK ck cj cI cH bD bW c7 bJ bZ bB bA bz bU:Option PV}{dz aM aZ bx aK aJ aL:Option PV}
theorem yP {X:Cx}{ρ:Ro}{σ:Led}(D:Text T a) (G:cS T) (O:cU T (n+1) X) (hF:tq X σ) {x:Str}{p pos:Pos}{e1 e2:Expr}{ps:List (List Nat)}{got:List Nat}{b:Bool}(hb:eA ps got=b) (hx:x="_ellipsis_match") (hk:X.env.kindOf x=some .globalImplicit)
  (h1:PE prog w X e1 ρ σ (.str (aB aE ps))) (h2:PE prog w X e2 ρ σ (.str got)) (h0:ps≠[]) (hf: ∀p∈ps,46∉p) (hg:got.length≤1000) (hp: ∀p∈ps,p.length≤1000) (hl:ps.length≤5)
  (he:starEach [e1,e2] X.env=[(false,eval e1 X.env),(false,eval e2 X.env)]):PE prog w X (.Call (.Name x p) [e1,e2] [] pos) ρ σ (.bool b):=by
 subst hx;subst hb;have hj: ∀ps:List (List Nat),(∀p∈ps,p.length≤1000)→(aB aE ps).length≤ps.length*1003:=by
  intro ps
  induction ps with
  | nil=>intro _;simp[aB]
  | cons x r ih=>
   intro h;have hx:=h x (.head _);have ihr:=ih fun p hp=>h p (.tail _ hp)
   cases r with
   | nil=>simp[aB];exact ã hx
   | cons y r=>
    rw[aB.eq_3,List.length_append,List.length_append]
    have:aE.length=3:=rfl
    simp only[List.length_cons] at ihr ⊢
    rw[Nat.add_mul];exact TY hx ihr this
 have:=hj ps hp
 exact cZ (k:=1) O hF D.Gb.isFn (cP O hk D.Sw) (Bp h1 h2 he) (H9 (n:=0) D G h0 hf (I7 hg) (WK hl this) (fun p hq=>by have:=hp p hq;exact I7 this) (Ç hl)) E2
structure kz (sz:Nat) (bs sw:List (List Nat)) (tl:List Nat):Prop where
 len:tl.length=4*sz
 sz3:3≤sz
 Pl:sz≤7
 let': ∀ch∈tl,97≤ch∧ch≤112
 bl:bs.length=3
 sl:sw.length=4
 bs: ∀x∈bs,x.length=sz∧ ∀ch∈x,97≤ch∧ch≤112
 sw: ∀x∈sw,x.length=sz∧ ∀ch∈x,97≤ch∧ch≤112
 wants: ∀k,k<8→eA ((fJ sz tl).getD k []) tl=decide (k<2)
theorem Qi (D:Text T a) (G:cS T) (O:cU T (n+9) (lX fa c A L g os bu)) (Y:Lay (lX fa c A L g os bu)) {st bk:Addr}{sz o:Nat}{bs sw:List (List Nat)}{tl:List Nat}{p1 p2:Addr×(Obj→Prop)}(H:kz sz bs sw tl)
  (k: ∀bZ dz,SE prog w (lX fa c A L g os bu) (lB 23) (fL bU bz bA bB bZ bJ (some (.str tl)) bW bD cH cI cj ck bK bL cQ cR cA e8 ez eD fI (some (.int sz)) fP fb eE fU fD) ((st,az (aG sw))::(c.k,ae (dz))::(c.order,ae (some (.int o)))::(c.book,ae (some (.ref bk)))::(c.bw,ae (some (.ref st)))::(c.kinds,ae aK)::(c.one,ae aJ)::(c.two,ae aL)::p1::p2::(bk,az (aG bs))::rest) K):
  SE prog w (lX fa c A L g os bu) (lB 21) (fL bU bz bA bB bZ bJ (some (.str tl)) bW bD cH cI cj ck bK bL cQ cR cA e8 ez eD fI (some (.int sz)) fP fb eE fU fD) ((st,az (aG sw))::(c.k,ae dz)::(c.order,ae (some (.int o)))::(c.book,ae (some (.ref bk)))::(c.bw,ae (some (.ref st)))::(c.kinds,ae aK)::(c.one,ae aJ)::(c.two,ae aL)::p1::p2::(bk,az (aG bs))::rest) K:=by
 have h1:=H.len;have h3:=H.sz3;have h7:=H.Pl;have dm:tl≠[]:=by intro e;rw[e] at h1;simp at h1;exact ĥ h1 h3
 have r6:cq tl∈tl:=b8 (X8 h1 h3);have jB:=H.let' _ r6;have R7:dD tl (-1)=cq tl:=by
  rw[nO dC];unfold cq;congr 1;exact OG
 have hty:bY (cq tl) 10=cq tl-32:=by
  unfold bY;rw[if_pos dC,show (10:Int).fmod 2=0 by decide];exact Ł
 have hw:(fJ sz tl).map (aB aE)=[tl,tl.take sz++aE++tl.drop sz,tl.drop 1,tl.dropLast,tl.dropLast++[cq tl-32],tl++aE++[cq tl],aE++tl.dropLast++aE++tl.drop (tl.length-2)++aE,aE++tl.drop 1++aE++[cq tl]]:=by
  simp[fJ,aB]
 have r9:tl.dropLast.length=4*sz-1:=by rw[List.length_dropLast,h1]
 have d3:aE.length=3:=rfl;have e1:sl tl none (some (sz:Int))=tl.take sz:=jq tl sz;have e2:sl tl (some (sz:Int)) none=tl.drop sz:=ft tl sz;have e3:sl tl (some (1:Int)) none=tl.drop 1:=ft tl 1;have e4:sl tl none (some (-1))=tl.dropLast:=tX tl dm;have e5:sl tl (some (-2)) none=tl.drop (tl.length-2):=yw tl (X7 h1 h3);have l1:(tl.take sz).length≤28:=by rw[List.length_take];exact XC h7
 have l2:(tl.drop sz).length≤28:=by rw[List.length_drop];exact X3 h1 h7
 have l3:(tl.drop 1).length≤28:=by rw[List.length_drop];exact X4 h1 h7
 have l5:(tl.drop (tl.length-2)).length≤28:=by rw[List.length_drop];exact ĭ
 refine af (du Y (ρf:=fun wl=>(fL bU bz bA bB (some (.ref wl)) bJ (some (.str tl)) bW bD cH cI cj ck bK bL cQ cR cA e8 ez eD fI (some (.int sz)) fP fb eE fU fD)) (P:=az (aG ((fJ sz tl).map (aB aE)))) (by
  rw[hw];refine eR (vs:=aG [tl,tl.take sz++aE++tl.drop sz,tl.drop 1,tl.dropLast,tl.dropLast++[cq tl-32],tl++aE++[cq tl],aE++tl.dropLast++aE++tl.drop (tl.length-2)++aE,aE++tl.drop 1++aE++[cq tl]])
   (.cons (ag Y 21 rfl) (.cons ?_ (.cons ?_ (.cons ?_ (.cons ?_ (.cons ?_ (.cons ?_ (.cons ?_ .nil)))))))) (by show 8≤16777216;decide)
  ·rw[←e1,←e2];refine bh (bh (cb (ag Y 21 rfl) bS (aV (ag Y 5 rfl)) (iT h1 h7)) aT ?_) (cb (ag Y 21 rfl) (aV (ag Y 5 rfl)) bS (iT h1 h7)) ?_
   ·rw[e1];show _+3≤16777216;exact Î l1
   ·rw[e1,e2,List.length_append];show _+3+_≤16777216;exact XF l1 l2
  ·rw[←e3];exact cb (ag Y 21 rfl) (aV ai) bS (iT h1 h7)
  ·rw[←e4];exact cb (ag Y 21 rfl) bS (aV (eO ai)) (iT h1 h7)
  ·rw[←e4,←hty];refine bh (cb (ag Y 21 rfl) bS (aV (eO ai)) (iT h1 h7)) (cZ (k:=1) O (.inl rfl) D.typed.isFn (cP O rfl D.zt) (Bp (v:=.str [cq tl]) ?_ ai) (rk (n:=0) D G (Ov jB.1) (Oa jB.2)) Ah) (by rw[e4,r9];show _+1≤16777216;exact Ä h7);rw[←R7];exact eP (ag Y 21 rfl) (eO ai) (IU h1 h3) Al (iT h1 h7)
  ·rw[←R7];exact bh (bh (ag Y 21 rfl) aT (by show _+3≤16777216;exact X5 h1 h7)) (eP (ag Y 21 rfl) (eO ai) (IU h1 h3) Al (iT h1 h7)) (by rw[List.length_append];show _+3+1≤16777216;exact X6 h1 h7)
  ·rw[←e4,←e5];refine bh (bh (bh (bh aT (cb (ag Y 21 rfl) bS (aV (eO ai)) (iT h1 h7)) ?_) aT ?_) (cb (ag Y 21 rfl) (aV (eO ai)) bS (iT h1 h7)) ?_) aT ?_
   ·rw[e4,r9];show 3+_≤16777216;exact Z9 h7
   ·rw[e4,List.length_append,r9];show 3+_+3≤16777216;exact Ã h7
   ·rw[e4,e5,List.length_append,List.length_append,r9];show 3+_+3+_≤16777216;exact Xy h7 l5
   ·rw[e4,e5,List.length_append,List.length_append,List.length_append,r9];show 3+_+3+_+3≤16777216;exact Xz h7 l5
  ·rw[←e3,←R7];refine bh (bh (bh aT (cb (ag Y 21 rfl) (aV ai) bS (iT h1 h7)) ?_) aT ?_) (eP (ag Y 21 rfl) (eO ai) (IU h1 h3) Al (iT h1 h7)) ?_
   ·rw[e3];show 3+_≤16777216;exact Ï l3
   ·rw[e3,List.length_append];show 3+_+3≤16777216;exact Ð l3
   ·rw[e3,List.length_append,List.length_append];show 3+_+3+1≤16777216;exact Ñ l3) (fun b=>P0) (fun wl jA=> ?_))
 refine af (gJ (a:=0) (b:=8) 8 aro O.hh (fun i ρ σ'=> ∃dz,ρ=(fL bU bz bA bB (some (.ref wl)) bJ (some (.str tl)) bW bD cH cI cj ck bK bL cQ cR cA e8 ez eD fI (some (.int sz)) fP fb eE fU fD)∧σ'=(wl,az (aG ((fJ sz tl).map (aB aE))))::(st,az (aG sw))::(c.k,ae (dz))::(c.order,ae (some (.int o)))::(c.book,ae (some (.ref bk)))::(c.bw,ae (some (.ref st)))::(c.kinds,ae aK)::(c.one,ae aJ)::(c.two,ae aL)::p1::p2::(bk,az (aG bs))::rest)
  (eF (aC O rfl G.range.1 G.range.2) ai (dA OD NR ara arp)) ⟨_,rfl,rfl⟩ ?_ ?_)
 ·rintro I i ρ σ' hi ⟨dz,rfl,rfl⟩ hI;refine⟨_,_,fun u hu=>cw (c:=c.k) (v₀:=dz) rfl rfl rfl (by trivial) hu,?_⟩;rw[Int.zero_add];have hwi:=H.wants i hi;have Ko:cB (aG ((fJ sz tl).map (aB aE))) (i:Int)= .str (aB aE ((fJ sz tl).getD i [])):=by
   rw[fv (by rw[List.length_map];exact hi)]
   have:i<(fJ sz tl).length:=hi
   simp[List.getD_eq_getElem?_getD,this]
  have mZ: ∀ps∈fJ sz tl,ps≠[]∧(∀p∈ps,46∉p)∧(∀p∈ps,p.length≤1000)∧ps.length≤5:=by
   have ok: ∀p:List Nat,(∀ch∈p,ch∈tl)→p.length≤1000→46∉p∧p.length≤1000:=fun p h hl=>⟨fun hm=>by have:=H.let' 46 (h 46 hm);exact OS this.1,hl⟩
   have k1:=ok tl (fun U h=>h) (oZ h1 h7);have k2:=ok (tl.take sz) (fun U h=>List.mem_of_mem_take h) (EX l1);have k3:=ok (tl.drop sz) (fun U h=>List.mem_of_mem_drop h) (EX l2);have k4:=ok (tl.drop 1) (fun U h=>List.mem_of_mem_drop h) (EX l3);have k5:=ok tl.dropLast (fun U h=>List.dropLast_subset _ h) (WD h7 r9);have k6:=ok (tl.drop (tl.length-2)) (fun U h=>List.mem_of_mem_drop h) (EX l5);have k7:=ok [cq tl] (fun ch h=>by rw[List.mem_singleton.mp h];exact r6) (by simp);have k8:46∉([]:List Nat)∧([]:List Nat).length≤1000:=⟨by simp,by simp⟩;have k9:46∉tl.dropLast++[cq tl-32]∧(tl.dropLast++[cq tl-32]).length≤1000:=by
    refine⟨fun hm=> ?_,by rw[List.length_append,r9];show _+1≤1000;exact Å h7⟩;rcases List.mem_append.mp hm with h | h
    ·exact k5.1 h
    ·have:=List.mem_singleton.mp h;exact Ĕ jB.1 this
   intro ps D8;simp only[fJ,List.mem_cons,List.not_mem_nil,or_false] at D8
   rcases D8 with rfl | rfl | rfl | rfl | rfl | rfl | rfl | rfl
   all_goals
    refine⟨by simp,?_,?_,by simp⟩
    all_goals
     intro p hp;simp only[List.mem_cons,List.not_mem_nil,or_false] at hp
   all_goals first | (rcases hp with rfl | rfl | rfl | rfl) | (rcases hp with rfl | rfl | rfl) | (rcases hp with rfl | rfl) | subst hp
   all_goals first | exact k1.1 | exact k1.2 | exact k2.1 | exact k2.2 | exact k3.1 | exact k3.2 | exact k4.1 | exact k4.2 | exact k5.1 | exact k5.2 | exact k6.1 | exact k6.2 | exact k7.1 | exact k7.2 | exact k8.1 | exact k8.2 | exact k9.1 | exact k9.2
  refine Ke (mZ _ (b8 (i:=i) (d:=[]) hi)) fun m1 m2 m3 m4=> ?_
  have Ls:(aG ((fJ sz tl).map (aB aE))).length=8:=by rw[aO];rfl
  refine af (bH (c:=false) (by
   have e0:(decide (i<2) != decide ((i:Int)<2))=false:=by
    by_cases h:i<2
    ·rw[decide_eq_true h,decide_eq_true (Ou h)];rfl
    ·rw[decide_eq_false h,decide_eq_false (ZP h)];rfl
   rw[←e0];exact bb (yP (n:=0) D G (O.le sI) (.inl rfl) hwi rfl rfl (bR (ag Y 23 rfl) (.inl (by trivial)) (ay (c:=c.k) rfl rfl rfl (by trivial)) kU (Yl hi Ls) (ú Ls) Ko) (ag Y 21 rfl) m1 m2 (oZ h1 h7) m3 m4 rfl) (fN (ay (c:=c.k) rfl rfl rfl (by trivial)) ai zQ) eu) (fun h=>by cases h) (fun U=> ?_))
  exact aj (aj ⟨_,⟨_,rfl,rfl⟩,.refl _⟩)
 ·rintro ρ σ' ⟨dz,rfl,rfl⟩;exact aj (SE.sub (k _ _) (.cons _ (.refl _)))
end
structure lC (bs sw:List (List Nat)) (tl:List Nat):Prop where
 fst: ∀x∈bs,eA [x,[]] tl=(sw.getD 0 []==x)
 lst: ∀x∈bs,eA [[],x] tl=(sw.getD 3 []==x)
 both: ∀x∈bs,∀y∈bs,eA [[],x,y,[]] tl=m6 sw x y
 Sy: ∀x∈bs,∀y∈bs,eA [x,y,[]] tl=((sw.getD 0 []==x)&&(sw.drop 1).any (· ==y))
 aft: ∀x∈bs,∀y∈bs,eA [[],x,y] tl=((sw.getD 3 []==y)&&(sw.take 3).any (· ==x))
 ends: ∀x∈bs,∀y∈bs,eA [x,y] tl=((sw.getD 0 []==x)&&(sw.getD 3 []==y))
theorem j1 (x:List Nat):aB aE [x,[]]=x++aE:=by simp[aB]
theorem j2 (x:List Nat):aB aE [[],x]=aE++x:=by simp[aB]
theorem j3 (x y:List Nat):aB aE [[],x,y,[]]=aE++x++aE++y++aE:=by simp[aB]
theorem j4 (x y:List Nat):aB aE [x,y,[]]=x++aE++y++aE:=by simp[aB]
theorem j5 (x y:List Nat):aB aE [[],x,y]=aE++x++aE++y:=by simp[aB]
theorem j6 (x y:List Nat):aB aE [x,y]=x++aE++y:=by simp[aB]
theorem j7 (x:List Nat):aB aE [[],x,[]]=aE++x++aE:=by simp[aB]
noncomputable def xK (ps:List (List Nat)):Prop:= ∀p∈ps,46∉p∧p.length≤10
theorem xK.nil:xK []:=fun U h=>by cases h
theorem xK.cons {x:List Nat}{ps:List (List Nat)}(hx:46∉x∧x.length≤10) (h:xK ps):xK (x::ps):=fun p hp=>by
 rcases List.mem_cons.mp hp with rfl | hp
 ·exact hx
 ·exact h p hp
theorem ru (l:List (List Nat)) (k:Nat):sl (aG l) (some (k:Int)) none=aG (l.drop k):=by rw[ft];unfold aG;rw[List.map_drop]
theorem yv (l:List (List Nat)) (k:Nat):sl (aG l) none (some (k:Int))=aG (l.take k):=by rw[jq];unfold aG;rw[List.map_take]
noncomputable def jK (sw:List (List Nat)) (x y:List Nat) (k:Nat):Bool:=sw.getD k []==x&&(sw.drop (k+1)).any (· ==y)
theorem Eu (sw:List (List Nat)) (x y:List Nat):m6 sw x y= !decide (((List.range 4).filter (jK sw x y)).map (fun (i:Nat)=>(i:Int))=[]):=by
 have e:m6 sw x y=(List.range 4).any (jK sw x y):=rfl;rw[e];cases h:(List.range 4).any (jK sw x y) with
 | true=>
  refine aF (List.any_eq_true.mp h) fun k h1 h2=> ?_
  have:k∈(List.range 4).filter (jK sw x y):=List.mem_filter.mpr ⟨h1,h2⟩
  rw[decide_eq_false fun q=>by rw[List.map_eq_nil_iff] at q;rw[q] at this;cases this];rfl
 | false=>
  have:(List.range 4).filter (jK sw x y)=[]:=by
   rw[List.filter_eq_nil_iff];intro k hk hp;rw[List.any_eq_true.mpr ⟨k,hk,hp⟩] at h;cases h
  rw[this];rfl
theorem kM:46∉([]:List Nat)∧([]:List Nat).length≤10:=⟨by simp,by simp⟩
section
variable {prog:Program}{w:World}{T:aX}{n:Nat}{a:mP}{fa:Addr}{c:tG}{A:Around}{L:Addr}{g:Heap}{os:OsState}{bu:Value}{K:PF→Ro→Led→Prop}{rest:Led}{fD fU eE fb fP iS fI eD ez e8 cA cR cQ bL bK ck cj cI cH bD bW c7 bJ bZ bB bA bz bU:Option PV}{dz aM aZ bx aK aJ aL:Option PV}
theorem g7 {X:Cx}{ρ:Ro}{σ:Led}(D:Text T a) (G:cS T) (O:cU T (n+1) X) (hF:tq X σ) {x:Str}{p pos:Pos}{e1 e2:Expr}{ps:List (List Nat)}{got:List Nat}{b:Bool}(hb:eA ps got=b) (hf:xK ps) (hx:x="_ellipsis_match") (hk:X.env.kindOf x=some .globalImplicit)
  (h1:PE prog w X e1 ρ σ (.str (aB aE ps))) (h2:PE prog w X e2 ρ σ (.str got)) (h0:ps≠[]) (hg:got.length≤1000) (hl:ps.length≤5)
  (he:starEach [e1,e2] X.env=[(false,eval e1 X.env),(false,eval e2 X.env)]):PE prog w X (.Call (.Name x p) [e1,e2] [] pos) ρ σ (.bool b):=
 yP D G O hF hb hx hk h1 h2 h0 (fun p hp=>(hf p hp).1) hg (fun p hp=>by have:=(hf p hp).2;exact ò this) hl he
theorem iD {sz:Nat}{x:List Nat}(h7:sz≤7) (h:x.length=sz∧ ∀ch∈x,97≤ch∧ch≤112):46∉x∧x.length≤10:=⟨fun hm=>by have:=h.2 46 hm;exact OS this.1,by exact WC h7 h.1⟩
theorem KS (D:Text T a) (G:cS T) (O:cU T (n+9) (lX fa c A L g os bu)) (Y:Lay (lX fa c A L g os bu)) {st bk:Addr}{sz o:Nat}{bs sw:List (List Nat)}{tl x y:List Nat}{p1 p2:Addr×(Obj→Prop)}(H:kz sz bs sw tl) (W:lC bs sw tl) (hx:x∈bs) (hy:y∈bs) {σ':Led}
  (Hv:σ'=(st,az (aG sw))::(c.k,ae dz)::(c.order,ae (some (.int o)))::(c.book,ae (some (.ref bk)))::(c.bw,ae (some (.ref st)))::(c.kinds,ae aK)::(c.one,ae (some (.str x)))::(c.two,ae (some (.str y)))::p1::p2::(bk,az (aG bs))::rest) {Q:Addr×(Obj→Prop)}{Q2:Addr×(Obj→Prop)}
  (k: ∀bB bA bz,K .next (fL bU bz bA bB bZ bJ (some (.str tl)) bW bD cH cI cj ck bK bL cQ cR cA e8 ez eD fI (some (.int sz)) fP fb eE fU fD) (Q::Q2::σ')):
  SE prog w (lX fa c A L g os bu) (iM (cx (iM (cx (bodyOf (ST 21)) 23)) 1)) (fL bU bz bA bB bZ bJ (some (.str tl)) bW bD cH cI cj ck bK bL cQ cR cA e8 ez eD fI (some (.int sz)) fP fb eE fU fD) (Q::Q2::σ') K:=by
 subst Hv;have h1:=H.len;have h7:=H.Pl;have fx:=iD h7 (H.bs x hx);have fy:=iD h7 (H.bs y hy);have hxl:=(H.bs x hx).1;have hyl:=(H.bs y hy).1;have d3:aE.length=3:=rfl;have gM:(aG sw).length=4:=by rw[aO];exact H.sl
 have g0:cB (aG sw) 0= .str (sw.getD 0 []):=fv (i:=0) (by rw[H.sl];decide);have g3:cB (aG sw) 3= .str (sw.getD 3 []):=fv (i:=3) (by rw[H.sl];decide);refine af (aI Y (v:=.bool (m6 sw x y)) (by
  rw[Eu];refine Hd O (ns:=((List.range 4).filter (jK sw x y)).map (fun (i:Nat)=>(i:Int))) (ms:=[]) (fV (oP (cl:=[("two",c.two),("sent",c.bw),("one",c.one)]) (g5 (a:=0) (b:=4) (jt 0 4 4 dC)) (fun i zs da=>zs=dK (((List.range i).filter (jK sw x y)).map (fun (i:Nat)=>(i:Int)))∧da=Q::Q2::(st,az (aG sw))::(c.k,ae dz)::(c.order,ae (some (.int o)))::(c.book,ae (some (.ref bk)))::(c.bw,ae (some (.ref st)))::(c.kinds,ae aK)::(c.one,ae (some (.str x)))::(c.two,ae (some (.str y)))::p1::p2::(bk,az (aG bs))::rest) rfl O.hh rfl dC rfl dC rfl
   (eF (aC O rfl G.range.1 G.range.2) ai (dA OD NR ar7 arl)) ⟨rfl,rfl⟩ (fun U U U U U=>trivial) (fun i zs da hi h=> ?_) (fun I C D i zs da hi h=> ?_)) (fun v σ' r=> ?_)) (fun U=>eR .nil (by show 0≤16777216;decide))
  ·refine bo h fun ah aU=> ?_;clear h;subst ah;subst aU
   rw[cK,List.length_map]
   have:=List.length_filter_le (jK sw x y) (List.range i)
   rw[List.length_range] at this
   exact WL hi this
  ·refine bo h fun ah aU=> ?_;clear h;subst ah;subst aU
   rw[Int.zero_add];have hgi:cB (aG sw) (i:Int)= .str (sw.getD i []):=fv (by rw[H.sl];exact hi);have vH:(List.range (i+1)).filter (jK sw x y)=(List.range i).filter (jK sw x y)++if jK sw x y i then [i] else []:=by
    rw[List.range_succ,List.filter_append];congr 1;simp only[List.filter_cons,List.filter_nil]
   have xO:sl (aG sw) (some ((i:Int)+1)) none=aG (sw.drop (i+1)):=ru sw (i+1);refine⟨jK sw x y i,w3 (by
    have e:jK sw x y i=((sw.getD i []==x)&&((sw.drop (i+1)).any (· ==y)&&true)):=by unfold jK;rw[Bool.and_true]
    rw[e];refine dw (bb (bR (ps:=aG sw) (ay (c:=c.bw) rfl rfl rfl (by trivial)) (.inl (by trivial)) (cW (Lay.comp rfl rfl) (.head _)) kU (Xb gM hi) (ky gM) hgi) (ay (c:=c.one) rfl rfl rfl (by trivial)) gD) fun U=>dw (vZ (ay (c:=c.two) rfl rfl rfl (by trivial)) (b0 (xO ▸ fc (ps:=aG sw) (ay (c:=c.bw) rfl rfl rfl (by trivial)) (.inl (by trivial)) (aV (bQ (cW (Lay.comp rfl rfl) (.head _)) ai)) bS (ky gM))) (fun v σ' r=> ?_)) fun U=>iP
    refine aF r fun q ah aU=> ?_;clear r;subst ah;subst aU
    exact⟨.cons _ (.refl _),lA (.inl (.head _))⟩),fun hb=> ?_,fun hb=> ?_⟩
   ·rw[vH,hb];simp
   ·refine(aQ (cW (Lay.comp rfl rfl) (.head _))).mono fun v σ' r=> ?_
    refine bo r fun ah aU=> ?_;clear r;subst ah;subst aU
    refine⟨_,⟨?_,rfl⟩,.refl _⟩;rw[vH,hb];unfold dK;simp
  ·refine Hg r fun q ah aU=> ?_;clear r;subst ah;subst aU
   exact⟨q,rfl,.refl _⟩) PZ ?_)
 refine af (bH (c:=false) (by
  have e0:(m6 sw x y != m6 sw x y)=false:=by simp
  rw[←e0];refine bb (g7 (n:=0) D G (O.le sI) (.inl rfl) (W.both x hx y hy) (.cons kM (.cons fx (.cons fy (.cons kM .nil)))) rfl rfl (by
   rw[j3];refine bh (bh (bh (bh aT (ay (c:=c.one) rfl rfl rfl (by trivial)) ?_) aT ?_) (ay (c:=c.two) rfl rfl rfl (by trivial)) ?_) aT ?_
   ·show 3+_≤16777216;exact EZ fx.2
   ·rw[List.length_append];show 3+_+3≤16777216;exact Ja fx.2
   ·rw[List.length_append,List.length_append];show 3+_+3+_≤16777216;exact Nw fx.2 fy.2
   ·rw[List.length_append,List.length_append,List.length_append];show 3+_+3+_+3≤16777216;exact XQ fx.2 fy.2) (ag Y 21 rfl) (by simp) (oZ h1 h7) (by show 4≤5;decide) rfl) (ag Y 24 rfl) eu) (fun h=>by cases h) (fun U=>aj ?_))
 refine af (fX (names:=["fore","aft"]) (b0 (fW (vs:=[.bool (sw.getD 0 []==x),.bool (sw.getD 3 []==y)]) (.cons (fN (bR (ps:=aG sw) (ay (c:=c.bw) rfl rfl rfl (by trivial)) (.inl (by trivial)) ai Ak (E0 gM) (ky gM) g0) (ay (c:=c.one) rfl rfl rfl (by trivial)) gD) (.cons (fN (bR (ps:=aG sw) (ay (c:=c.bw) rfl rfl rfl (by trivial)) (.inl (by trivial)) ai OI (Oo gM) (ky gM) g3) (ay (c:=c.two) rfl rfl rfl (by trivial)) gD) .nil)) (by show 2≤16777216;decide))) (fun v σ' r=> ?_));refine aF r fun t ah aU=> ?_;clear r;subst ah;subst aU
 refine⟨t,_,rfl,fz O.hh (.head _),rfl,cD (fq (fun u hu=>aq Y PX hu)) (cD (fq (fun u hu=>aq Y PY hu)) (gV ?_))⟩;refine SE.sub ?_ (.cons _ (.refl _));have PC:sl (aG sw) (some 1) none=aG (sw.drop 1):=ru sw 1;have ht3:sl (aG sw) none (some 3)=aG (sw.take 3):=yv sw 3;refine af (bH (c:=false) (by
  have e0:((((sw.getD 0 []==x)&&(sw.drop 1).any (· ==y)) != ((sw.getD 0 []==x)&&(sw.drop 1).any (· ==y)))||((((sw.getD 3 []==y)&&(sw.take 3).any (· ==x)) != ((sw.getD 3 []==y)&&(sw.take 3).any (· ==x)))||false))=false:=by simp
  rw[←e0];refine kx (bb (g7 (n:=0) D G (O.le sI) (.inl rfl) (W.Sy x hx y hy) (.cons fx (.cons fy (.cons kM .nil))) rfl rfl (by
    rw[j4];refine bh (bh (bh (ay (c:=c.one) rfl rfl rfl (by trivial)) aT ?_) (ay (c:=c.two) rfl rfl rfl (by trivial)) ?_) aT ?_
    ·show _+3≤16777216;exact I9 fx.2
    ·rw[List.length_append];show _+3+_≤16777216;exact Nv fx.2 fy.2
    ·rw[List.length_append,List.length_append];show _+3+_+3≤16777216;exact XO fx.2 fy.2) (ag Y 21 rfl) (by simp) (oZ h1 h7) (by show 3≤5;decide) rfl)
    (lh (ag Y 25 rfl) fun U=>vx (ay (c:=c.two) rfl rfl rfl (by trivial)) (b0 (PC ▸ fc (ps:=aG sw) (ay (c:=c.bw) rfl rfl rfl (by trivial)) (.inl (by trivial)) (aV ai) bS (ky gM))) (fun v σ' r=>by
     refine aF r fun q ah aU=> ?_;clear r;subst ah;subst aU
     exact⟨.cons _ (.refl _),lA (.inl (.head _))⟩)) eu) fun U=>
   kx (bb (g7 (n:=0) D G (O.le sI) (.inl rfl) (W.aft x hx y hy) (.cons kM (.cons fx (.cons fy .nil))) rfl rfl (by
    rw[j5];refine bh (bh (bh aT (ay (c:=c.one) rfl rfl rfl (by trivial)) ?_) aT ?_) (ay (c:=c.two) rfl rfl rfl (by trivial)) ?_
    ·show 3+_≤16777216;exact EZ fx.2
    ·rw[List.length_append];show 3+_+3≤16777216;exact Ja fx.2
    ·rw[List.length_append,List.length_append];show 3+_+3+_≤16777216;exact Nw fx.2 fy.2) (ag Y 21 rfl) (by simp) (oZ h1 h7) (by show 3≤5;decide) rfl)
    (lh (ag Y 26 rfl) fun U=>vx (ay (c:=c.one) rfl rfl rfl (by trivial)) (b0 (ht3 ▸ fc (ps:=aG sw) (ay (c:=c.bw) rfl rfl rfl (by trivial)) (.inl (by trivial)) bS (aV ai) (ky gM))) (fun v σ' r=>by
     refine aF r fun q ah aU=> ?_;clear r;subst ah;subst aU
     exact⟨.cons _ (.refl _),lA (.inl (.head _))⟩)) eu) fun U=>uO) (fun h=>by cases h) (fun U=>aj ?_))
 refine af (bH (c:=false) (by
  have e0:(((sw.getD 0 []==x)&&(sw.getD 3 []==y)) != ((sw.getD 0 []==x)&&(sw.getD 3 []==y)))=false:=by simp
  rw[←e0];refine bb (g7 (n:=0) D G (O.le sI) (.inl rfl) (W.ends x hx y hy) (.cons fx (.cons fy .nil)) rfl rfl (by
   rw[j6];refine bh (bh (ay (c:=c.one) rfl rfl rfl (by trivial)) aT ?_) (ay (c:=c.two) rfl rfl rfl (by trivial)) ?_
   ·show _+3≤16777216;exact I9 fx.2
   ·rw[List.length_append];show _+3+_≤16777216;exact Nv fx.2 fy.2) (ag Y 21 rfl) (by simp) (oZ h1 h7) (by show 2≤5;decide) rfl) (lh (ag Y 25 rfl) fun U=>ag Y 26 rfl) eu) (fun h=>by cases h) (fun U=>aj ?_))
 exact aj (k _ _ _)
end
section
variable {prog:Program}{w:World}{T:aX}{n:Nat}{a:mP}{fa:Addr}{c:tG}{A:Around}{L:Addr}{g:Heap}{os:OsState}{bu:Value}{K:PF→Ro→Led→Prop}{rest:Led}{fD fU eE fb fP iS fI eD ez e8 cA cR cQ bL bK ck cj cI cH bD bW c7 bJ bZ bB bA bz bU:Option PV}{dz aM aZ bx aK aJ aL:Option PV}
theorem Qh (D:Text T a) (G:cS T) (O:cU T (n+9) (lX fa c A L g os bu)) (Y:Lay (lX fa c A L g os bu)) {st bk:Addr}{sz o:Nat}{bs sw:List (List Nat)}{tl:List Nat}{p1 p2:Addr×(Obj→Prop)}(H:kz sz bs sw tl) (W:lC bs sw tl)
  (k: ∀bB bA bz aJ aL,SE prog w (lX fa c A L g os bu) (lB 24) (fL bU bz bA bB bZ bJ (some (.str tl)) bW bD cH cI cj ck bK bL cQ cR cA e8 ez eD fI (some (.int sz)) fP fb eE fU fD) ((st,az (aG sw))::(c.k,ae dz)::(c.order,ae (some (.int o)))::(c.book,ae (some (.ref bk)))::(c.bw,ae (some (.ref st)))::(c.kinds,ae aK)::(c.one,ae aJ)::(c.two,ae aL)::p1::p2::(bk,az (aG bs))::rest) K):
  SE prog w (lX fa c A L g os bu) (lB 23) (fL bU bz bA bB bZ bJ (some (.str tl)) bW bD cH cI cj ck bK bL cQ cR cA e8 ez eD fI (some (.int sz)) fP fb eE fU fD) ((st,az (aG sw))::(c.k,ae dz)::(c.order,ae (some (.int o)))::(c.book,ae (some (.ref bk)))::(c.bw,ae (some (.ref st)))::(c.kinds,ae aK)::(c.one,ae aJ)::(c.two,ae aL)::p1::p2::(bk,az (aG bs))::rest) K:=by
 have zo:(aG bs).length=3:=by rw[aO];exact H.bl
 have h1:=H.len;have h7:=H.Pl;have gM:(aG sw).length=4:=by rw[aO];exact H.sl
 have g0:cB (aG sw) 0= .str (sw.getD 0 []):=fv (i:=0) (by rw[H.sl];decide);have g3:cB (aG sw) 3= .str (sw.getD 3 []):=fv (i:=3) (by rw[H.sl];decide);have d3:aE.length=3:=rfl;refine af (js (dq (ax:=bk) (ps:=aG bs) (S:=fun σ=>(bk,az (aG bs))∈σ) fun U h=>h) O.hh (fun i ρ σ'=> ∃bB bA bz aJ aL,ρ=(fL bU bz bA bB bZ bJ (some (.str tl)) bW bD cH cI cj ck bK bL cQ cR cA e8 ez eD fI (some (.int sz)) fP fb eE fU fD)∧σ'=(st,az (aG sw))::(c.k,ae dz)::(c.order,ae (some (.int o)))::(c.book,ae (some (.ref bk)))::(c.bw,ae (some (.ref st)))::(c.kinds,ae aK)::(c.one,ae aJ)::(c.two,ae aL)::p1::p2::(bk,az (aG bs))::rest)
  (oK (ay (c:=c.book) rfl rfl rfl (by trivial)) (by trivial)) ⟨_,_,_,_,_,rfl,rfl⟩ (fun i ρ σ' h=>by refine QY h fun U U U U U U ah=> ?_;clear h;subst ah;exact(by trivial)) ?_ ?_)
 ·rintro I i ρ σ' hi ⟨bB,bA,bz,aJ,aL,rfl,rfl⟩ hI;have Kl:i<bs.length:=by rw[aO] at hi;exact hi
  rw[jv bs i Kl];have hx:bs.getD i []∈bs:=b8 Kl;generalize bs.getD i []=x at hx
  have fx:=iD h7 (H.bs x hx);have hxl:=(H.bs x hx).1;refine⟨_,_,fun u hu=>cw (c:=c.one) (v₀:=aJ) rfl rfl rfl (by trivial) hu,?_⟩;refine af (bH (c:=false) (by
   have e0:(((sw.getD 0 []==x) != (sw.getD 0 []==x))||(((sw.getD 3 []==x) != (sw.getD 3 []==x))||false))=false:=by simp
   rw[←e0];refine kx (bb (g7 (n:=0) D G (O.le sI) (.inl rfl) (W.fst x hx) (.cons fx (.cons kM .nil)) rfl rfl (by
     rw[j1];refine bh (ay (c:=c.one) rfl rfl rfl (by trivial)) aT ?_
     show _+3≤16777216;exact I9 fx.2) (ag Y 21 rfl) (by simp) (oZ h1 h7) (by show 2≤5;decide) rfl) (fN (bR (ps:=aG sw) (ay (c:=c.bw) rfl rfl rfl (by trivial)) (.inl (by trivial)) ai Ak (E0 gM) (ky gM) g0) (ay (c:=c.one) rfl rfl rfl (by trivial)) gD) eu) fun U=>
    kx (bb (g7 (n:=0) D G (O.le sI) (.inl rfl) (W.lst x hx) (.cons kM (.cons fx .nil)) rfl rfl (by
     rw[j2];refine bh aT (ay (c:=c.one) rfl rfl rfl (by trivial)) ?_
     show 3+_≤16777216;exact EZ fx.2) (ag Y 21 rfl) (by simp) (oZ h1 h7) (by show 2≤5;decide) rfl) (fN (bR (ps:=aG sw) (ay (c:=c.bw) rfl rfl rfl (by trivial)) (.inl (by trivial)) ai OI (Oo gM) (ky gM) g3) (ay (c:=c.one) rfl rfl rfl (by trivial)) gD) eu) fun U=>uO) (fun h=>by cases h) (fun U=>aj ?_))
  refine af (js (dq (ax:=bk) (ps:=aG bs) (S:=fun σ=>(bk,az (aG bs))∈σ) fun U h=>h) O.hh (fun j ρ σ'=> ∃bB bA bz aL,ρ=(fL bU bz bA bB bZ bJ (some (.str tl)) bW bD cH cI cj ck bK bL cQ cR cA e8 ez eD fI (some (.int sz)) fP fb eE fU fD)∧σ'=(I,uw bk I (i+1))::(st,az (aG sw))::(c.k,ae dz)::(c.order,ae (some (.int o)))::(c.book,ae (some (.ref bk)))::(c.bw,ae (some (.ref st)))::(c.kinds,ae aK)::(c.one,ae (some (.str x)))::(c.two,ae aL)::p1::p2::(bk,az (aG bs))::rest)
   (oK (ay (c:=c.book) rfl rfl rfl (by trivial)) (by trivial)) ⟨_,_,_,_,rfl,rfl⟩ (fun i ρ σ' h=>by refine K4 h fun U U U U U ah=> ?_;clear h;subst ah;exact(by trivial)) ?_ ?_)
  ·rintro I2 j ρ σ' hj ⟨bB,bA,bz,aL,rfl,rfl⟩ hI2;have hj3:j<bs.length:=by rw[aO] at hj;exact hj
   rw[jv bs j hj3];have hy:bs.getD j []∈bs:=b8 hj3;generalize bs.getD j []=y at hy
   refine⟨_,_,fun u hu=>cw (c:=c.two) (v₀:=aL) rfl rfl rfl (by trivial) hu,?_⟩;exact KS D G O Y H W hx hy rfl fun bB bA bz=>⟨_,⟨bB,bA,bz,_,rfl,rfl⟩,.refl _⟩
  ·rintro ρ σ' ⟨bB,bA,bz,aL,rfl,rfl⟩;exact aj (aj ⟨_,⟨_,_,_,_,_,rfl,rfl⟩,.refl _⟩)
 ·rintro ρ σ' ⟨bB,bA,bz,aJ,aL,rfl,rfl⟩;exact aj (k _ _ _ _ _)
end
def qO (sz:Nat) (sw:List (List Nat)) (tl:List Nat):Prop:= ∀p b,1≤p→p<3*sz→jk (dH ((tl.drop p).take sz)) sz=some b→b<sz∧
 eA [[],((tl.drop p).take sz).drop b++((tl.drop p).take sz).take b,[]] tl=sw.any (· ==((tl.drop p).take sz).drop b++((tl.drop p).take sz).take b)
theorem G1 {a b:Int}(h1: -1000000≤a) (h2:a≤1000000) (h3: -1000000≤b) (h4:b≤1000000):Builtin.Range.small a b 2=true:=by
 unfold Builtin.Range.small;have hr: -10000000≤Builtin.Range.rangeSize a b 2∧Builtin.Range.rangeSize a b 2≤10000000:=by
  unfold Builtin.Range.rangeSize;simp only[show ((2:Int)>0) by decide,if_true];split<;>omega
 simp only[show ((2:Int)>0) by decide,if_true]
 rw[fits_of (xx h1) (xv h2),fits_of (xx h3) (xv h4),fits_of ar3 ari,fits_of hr.1 hr.2,fits_of (ŷ h3) (ŭ h4)];simp
section
variable {prog:Program}{w:World}{T:aX}{n:Nat}{a:mP}{fa:Addr}{c:tG}{A:Around}{L:Addr}{g:Heap}{os:OsState}{bu:Value}{K:PF→Ro→Led→Prop}{rest:Led}{fD fU eE fb fP iS fI eD ez e8 cA cR cQ bL bK ck cj cI cH bD bW c7 bJ bZ bB bA bz bU:Option PV}{dz aM aZ bx aK aJ aL:Option PV}
theorem Qg (D:Text T a) (G:cS T) (O:cU T (n+9) (lX fa c A L g os bu)) (Y:Lay (lX fa c A L g os bu)) {st bk:Addr}{sz o:Nat}{bs sw:List (List Nat)}{tl:List Nat}{p1 p2:Addr×(Obj→Prop)}(H:kz sz bs sw tl) (P:qO sz sw tl)
  (k: ∀bC aJ,K (.ret (.bool true)) bC ((st,az (aG sw))::(c.k,ae dz)::(c.order,ae (some (.int o)))::(c.book,ae (some (.ref bk)))::(c.bw,ae (some (.ref st)))::(c.kinds,ae aK)::(c.one,ae aJ)::(c.two,ae aL)::p1::p2::(bk,az (aG bs))::rest)):
  SE prog w (lX fa c A L g os bu) (lB 24) (fL bU bz bA bB bZ bJ (some (.str tl)) bW bD cH cI cj ck bK bL cQ cR cA e8 ez eD fI (some (.int sz)) fP fb eE fU fD) ((st,az (aG sw))::(c.k,ae dz)::(c.order,ae (some (.int o)))::(c.book,ae (some (.ref bk)))::(c.bw,ae (some (.ref st)))::(c.kinds,ae aK)::(c.one,ae aJ)::(c.two,ae aL)::p1::p2::(bk,az (aG bs))::rest) K:=by
 have h1:=H.len;have h3:=H.sz3;have h7:=H.Pl;have gM:(aG sw).length=4:=by rw[aO];exact H.sl
 have ho2:=Nat.mod_lt o (show 0<2 by decide);have eo:(1:Int)+(o:Int).fmod 2=((1+o%2:Nat):Int):=by
  have:(o:Int).fmod 2=((o%2:Nat):Int):=bV o 2 dC
  rw[this];simp
 have es:3*(sz:Int)=((3*sz:Nat):Int):=by simp
 obtain⟨kk,Kk⟩: ∃kk:Nat,Builtin.Range.rangeSize ((1+o%2:Nat):Int) ((3*sz:Nat):Int) 2=kk:=by
  refine⟨(Builtin.Range.rangeSize ((1+o%2:Nat):Int) ((3*sz:Nat):Int) 2).toNat,?_⟩;unfold Builtin.Range.rangeSize;simp only[show ((2:Int)>0) by decide,if_true];split<;>omega
 have RZ: ∀i:Nat,i<kk→1+o%2+2*i<3*sz:=by
  intro i hi;unfold Builtin.Range.rangeSize at Kk
  simp only[show ((2:Int)>0) by decide,if_true] at Kk
  split at Kk<;>omega
 refine af (js (wj Kk) O.hh (fun i ρ σ'=> ∃e8 bU aJ,ρ=(fL bU bz bA bB bZ bJ (some (.str tl)) bW bD cH cI cj ck bK bL cQ cR cA e8 ez eD fI (some (.int sz)) fP fb eE fU fD)∧σ'=(st,az (aG sw))::(c.k,ae dz)::(c.order,ae (some (.int o)))::(c.book,ae (some (.ref bk)))::(c.bw,ae (some (.ref st)))::(c.kinds,ae aK)::(c.one,ae aJ)::(c.two,ae aL)::p1::p2::(bk,az (aG bs))::rest)
  (by
   refine DU (aC O rfl G.range.1 G.range.2) ?_ ?_ ai dC (G1 ŕ ţ Ŕ (Æ h7)) (gv dC)
   ·rw[←eo];exact bQ ai (cG (ay (c:=c.order) rfl rfl rfl (by trivial)) ai dC)
   ·rw[←es];exact iZ ai (ag Y 5 rfl) (rN (a:=3) dC)) ⟨_,_,_,rfl,rfl⟩ (fun U U U U=>trivial) ?_ ?_)
 ·rintro I i ρ σ' hi ⟨e8,bU,aJ,rfl,rfl⟩ hI;refine⟨_,_,fun u hu=>aq Y PU hu,?_⟩;have hp:=RZ i hi;have ep:((1+o%2:Nat):Int)+(i:Int)*2=((1+o%2+2*i:Nat):Int):=ZG;rw[ep];have LX:1≤1+o%2+2*i:=Yt;generalize 1+o%2+2*i=p at hp LX ⊢
  have d3:aE.length=3:=rfl;have jA:((tl.drop p).take sz).length=sz:=by rw[List.length_take,List.length_drop];exact UZ h1 hp
  have ew:sl tl (some (p:Int)) (some ((p:Int)+(sz:Int)))=(tl.drop p).take sz:=by
   rw[show (p:Int)+(sz:Int)=((p+sz:Nat):Int) by exact xo,om];congr 1;exact I3
  have hPl:=P p;have FX: ∀ch∈(tl.drop p).take sz,97≤ch∧ch≤112:=fun ch h=>H.let' ch (List.mem_of_mem_drop (List.mem_of_mem_take h))
  have Rp: ∀b:Nat,b≤sz→sl tl (some ((p:Int)+(b:Int))) (some ((p:Int)+(sz:Int)))=((tl.drop p).take sz).drop b∧sl tl (some (p:Int)) (some ((p:Int)+(b:Int)))=((tl.drop p).take sz).take b:=by
   intro b hb;rw[show (p:Int)+(sz:Int)=((p+sz:Nat):Int) by exact xo,show (p:Int)+(b:Int)=((p+b:Nat):Int) by exact xo,om,om];constructor
   ·rw[List.drop_take,List.drop_drop];congr 1;exact V7
   ·rw[List.take_take,Nat.min_eq_left hb];congr 1;exact I3
  generalize (tl.drop p).take sz=win at*
  refine af (aI Y (v:=.int (gq win)) (cZ (k:=1) O (.inl rfl) D.turn.isFn (cP O rfl D.F8) (gQ (ew ▸ cb (ag Y 21 rfl) (aV (ag Y 27 rfl)) (aV (bQ (ag Y 27 rfl) (ag Y 5 rfl))) (iT h1 h7))) (vg (n:=0) D G (NM h3 jA) (Nj h7 jA)) Ah) Pk ?_);have ht:gq win=vh (jk (dH win) sz):=by unfold gq;rw[jA]
  cases Ru:jk (dH win) sz with
  | none=>
   rw[ht,Ru];show SE _ _ _ _ (fL (some (.int (p:Nat))) bz bA bB bZ bJ (some (.str tl)) bW bD cH cI cj ck bK bL cQ cR cA (some (.int (-1))) ez eD fI (some (.int sz)) fP fb eE fU fD) _ _;refine af (dc (aQ (v:=.str (sl tl (some ((p:Int)+(-1))) (some ((p:Int)+(sz:Int)))++sl tl (some (p:Int)) (some ((p:Int)+(-1))))) (bh (cb (ag Y 21 rfl) (aV (bQ (ag Y 27 rfl) (ag Y 9 rfl))) (aV (bQ (ag Y 27 rfl) (ag Y 5 rfl))) (iT h1 h7)) (cb (ag Y 21 rfl) (aV (ag Y 27 rfl)) (aV (bQ (ag Y 27 rfl) (ag Y 9 rfl))) (iT h1 h7)) ?_)) (fun v σ' r=> ?_))
   ·have hle: ∀(lo hi:Option Int),(sl tl lo hi).length≤28:=fun lo hi=>by
     unfold sl;rw[List.length_take,List.length_drop];exact TC h1 h7
    have q1:=hle (some ((p:Int)+(-1))) (some ((p:Int)+(sz:Int)));have q2:=hle (some (p:Int)) (some ((p:Int)+(-1)));exact XD q1 q2
   ·refine bo r fun ah aU=> ?_;clear r;subst ah;subst aU
    refine⟨_,_,fun u hu=>cw (c:=c.one) (v₀:=aJ) rfl rfl rfl (by trivial) hu,?_⟩;refine af (bH (c:=false&&true) (dw (bb (ag Y 9 rfl) ai zU) nofun) (fun h=>by cases h) (fun U=>aj ?_));exact aj ⟨_,⟨_,_,_,rfl,rfl⟩,.refl _⟩
  | some b=>
   refine bo (hPl b LX hp Ru) fun hb hPb=> ?_
   refine bo (Rp b (IV hb)) fun w1 w2=> ?_
   rw[ht,Ru];show SE _ _ _ _ (fL (some (.int (p:Nat))) bz bA bB bZ bJ (some (.str tl)) bW bD cH cI cj ck bK bL cQ cR cA (some (.int (b:Nat))) ez eD fI (some (.int sz)) fP fb eE fU fD) _ _;have qS:(win.drop b++win.take b).length=sz:=by rw[List.length_append,List.length_drop,List.length_take];exact Nb jA
   refine af (dc (aQ (v:=.str (win.drop b++win.take b)) (by
    rw[←w1,←w2];refine bh (cb (ag Y 21 rfl) (aV (bQ (ag Y 27 rfl) (ag Y 9 rfl))) (aV (bQ (ag Y 27 rfl) (ag Y 5 rfl))) (iT h1 h7)) (cb (ag Y 21 rfl) (aV (ag Y 27 rfl)) (aV (bQ (ag Y 27 rfl) (ag Y 9 rfl))) (iT h1 h7)) ?_
    rw[w1,w2,←List.length_append,qS];exact N8 h7)) (fun v σ' r=> ?_))
   refine bo r fun ah aU=> ?_;clear r;subst ah;subst aU
   refine⟨_,_,fun u hu=>cw (c:=c.one) (v₀:=aJ) rfl rfl rfl (by trivial) hu,?_⟩;have hof: ∀ch∈win.drop b++win.take b,97≤ch∧ch≤112:=fun ch h=>by
    rcases List.mem_append.mp h with h | h
    ·exact FX ch (List.mem_of_mem_drop h)
    ·exact FX ch (List.mem_of_mem_take h)
   generalize win.drop b++win.take b=one at*
   have fo:46∉one∧one.length≤10:=iD h7 ⟨qS,hof⟩;refine af (bH (c:=decide ((0:Int)≤(b:Int))&&false) (dw (bb (ag Y 9 rfl) ai zU) fun U=>(by
    have e0:((sw.any (· ==one) != sw.any (· ==one))&&true)=false:=by simp
    rw[←e0];refine dw (bb (g7 (n:=0) D G (O.le sI) (.inl rfl) hPb (.cons kM (.cons fo (.cons kM .nil))) rfl rfl (by
     rw[j7];refine bh (bh aT (ay (c:=c.one) rfl rfl rfl (by trivial)) ?_) aT ?_
     ·show 3+_≤16777216;exact EZ fo.2
     ·rw[List.length_append];show 3+_+3≤16777216;exact Ja fo.2) (ag Y 21 rfl) (by simp) (oZ h1 h7) (by show 3≤5;decide) rfl) (fN (ay (c:=c.one) rfl rfl rfl (by trivial)) (ay (c:=c.bw) rfl rfl rfl (by trivial)) (lA (.inl (by trivial)))) eu) fun U=>iP)) (fun h=>by simp at h) (fun U=>aj ?_))
   exact aj ⟨_,⟨_,_,_,rfl,rfl⟩,.refl _⟩
 ·rintro ρ σ' ⟨e8,bU,aJ,rfl,rfl⟩;exact aj (af (bf iI (k _ _)))
end
abbrev RS (sz o m wd rm:Nat) (bs:List (List Nat)) (k:Nat):=cz (aN m) wd rm (bE sz o m (bG bs o) 4) k
abbrev MS (sz o m wd rm:Nat) (bs:List (List Nat)) (k:Nat):=iV (aN m) wd rm (bE sz o m (bG bs o) 4) [aw m 1,aw m 0] k
def kI (sz o m wd rm:Nat) (bs:List (List Nat)):List Nat:=aB [10] ((RS sz o m wd rm bs 4).1++[((RS sz o m wd rm bs 4).2.2.2.drop (RS sz o m wd rm bs 4).2.1).flatten])
structure PlainAt (sz o m wd rm:Nat) (bs:List (List Nat)):Prop where
 words:hH sz (bG bs o)
 step: ∀k,k<4→mK (aN m) wd rm (bE sz o m (bG bs o) 4) [aw m 1,aw m 0] k
 page:aB [10] ((MS sz o m wd rm bs 4).1++[tS (cf (MS sz o m wd rm bs 4).2.1)])=kI sz o m wd rm bs
 small:Small (cf (MS sz o m wd rm bs 4).2.1) (MS sz o m wd rm bs 4).2.2
 n:(MS sz o m wd rm bs 4).2.1.length≤100
 sp:Txt.isspace (mk (tS (cf (MS sz o m wd rm bs 4).2.1)))=false
 pos:0<(MS sz o m wd rm bs 4).2.2+wS (cf (MS sz o m wd rm bs 4).2.1)
 ll:(MS sz o m wd rm bs 4).1.length≤100
 ls: ∀x∈(MS sz o m wd rm bs 4).1,x.length≤1000
 lt:(tS (cf (MS sz o m wd rm bs 4).2.1)).length≤1000
 rl:(RS sz o m wd rm bs 4).1.length≤10
 rs: ∀x∈(RS sz o m wd rm bs 4).1,x.length≤1000
 ql:(RS sz o m wd rm bs 4).2.2.2.length=4
 qs: ∀x∈(RS sz o m wd rm bs 4).2.2.2,x.length≤20
 pl:(kI sz o m wd rm bs).length≤10000
 told:cy (kI sz o m wd rm bs)=(bG bs o).flatten
 low: ∀ch∈kI sz o m wd rm bs,eM ch=false→(Txt.lower (mk [ch])).length≤1000∧(xT ch).length≤1000
 ok:kz sz bs (bG bs o) (bG bs o).flatten
 win:lC bs (bG bs o) (bG bs o).flatten
 place:qO sz (bG bs o) (bG bs o).flatten
section
variable {prog:Program}{w:World}{T:aX}{n:Nat}{a:mP}{f:gf}{aa:fH}{fa:Addr}{c:tG}{A:Around}{L:Addr}{g:Heap}{os:OsState}{bu:Value}{rest:Led}{fD fU eE fb fP iS fI eD ez e8 cA cR cQ bL bK ck cj cI cH bD bW c7 bJ bZ bB bA bz bU:Option PV}{dz aM aZ bx aK aJ aL:Option PV}
theorem y3 (B:FK prog T f aa) (Lk:Fm T f) (D:Text T a) (G:cS T) (O:cU T (n+9) (lX fa c A L g os bu)) (Y:Lay (lX fa c A L g os bu)) {ns:List Int}{sa:Addr}(hs: ∃o,g.get? sa=some o∧az (dK ns) o) (hn:ns.length≤1000)
  (HR: ∀sz,sz=3∨sz=5∨sz=7→qN sz)
  (HP: ∀sz o m wd rm (l0 l1 l2:Int),sz=3∨sz=5∨sz=7→sz≤wd→wd<4*sz→rm<8→PlainAt sz o m wd rm ([l0,l1,l2].map (dv sz))):
  SE prog w (lX fa c A L g os bu) (lB 0) (fL bU bz bA bB bZ bJ c7 bW bD cH cI cj ck bK bL cQ cR cA e8 ez eD fI iS fP fb eE fU (some (.ref sa))) ((c.k,ae dz)::(c.order,ae aM)::(c.book,ae aZ)::(c.bw,ae bx)::(c.kinds,ae aK)::(c.one,ae aJ)::(c.two,ae aL)::(aa.Plen,bX)::(aa.Pstr,bX)::rest) (fun f' U σ'=>f'= .ret (.bool true)∧(aa.Plen,bX)∈σ'∧(aa.Pstr,bX)∈σ'):=by
 refine Qr G O Y hs hn fun b l xk hl=> ?_
 refine Qq G O Y hl fun bk s o m sz gw ho hm gB=> ?_
 obtain⟨l0,l1,l2,l3,l4,l5,rfl⟩:=Lg hl;have hm3:=Nat.mod_lt s (show 0<3 by decide);have hz:sz=3∨sz=5∨sz=7:=Yb gB;have h3:3≤sz:=ľ hz;have h7:sz≤7:=Ľ hz;refine Qp (n:=n+5) D G O Y h7 h3 (HR sz hz) fun U U U U=> ?_
 have vE:=Nat.mod_lt (s/3) (show 0<3*sz by exact Ow h3);have xP:=Nat.mod_lt (s/63) (show 0<8 by decide);have P:=HP sz o m (sz+s/3%(3*sz)) (s/63%8) l0 l1 l2 hz EV (Xr vE) xP;have zo:([l0,l1,l2].map (dv sz)).length=3:=rfl;generalize [l0,l1,l2].map (dv sz)=bs at*
 refine SE.sub ?_ (.cons₂ _ (.cons _ (.refl _)));refine Qo D G O Y zo (o:=o) fun st=> ?_
 refine SE.fit (fQ.dM (σ'':=(st,az (aG (bG bs o)))::(c.k,ae (xk))::(c.order,ae (some (.int o)))::(c.book,ae (some (.ref bk)))::(c.bw,ae (some (.ref st)))::(c.kinds,ae aK)::(c.one,ae aJ)::(c.two,ae aL)::(bk,az (aG bs))::(aa.Plen,bX)::(aa.Pstr,bX)::rest) (List.Perm.cons _ (List.perm_middle (l₁:=(c.k,ae (xk))::(c.order,ae (some (.int o)))::(c.book,ae (some (.ref bk)))::(c.bw,ae (some (.ref st)))::(c.kinds,ae aK)::(c.one,ae aJ)::(c.two,ae aL)::[])).symm)) ?_
 refine Qn D G O Y fun cm=> ?_
 refine KU O Y fun kd pc=> ?_
 refine Qm (n:=n+8) D G O Y P.words h7 fun U U PT=> ?_
 refine SE.fit (fQ.dM (σ'':=((pc,az (aG (bE sz o m (bG bs o) 4)))::(kd,az (dK (bq m 4)))::(cm,az (aG [[aw m 0],[aw m 1]]))::(st,az (aG (bG bs o)))::(c.k,ae (PT))::(c.order,ae (some (.int o)))::(c.book,ae (some (.ref bk)))::(c.bw,ae (some (.ref st)))::(c.kinds,ae (some (.ref kd)))::(c.one,ae aJ)::(c.two,ae aL)::(bk,az (aG bs))::[])++((aa.Plen,bX)::(aa.Pstr,bX)::rest)) (.refl _)) ?_
 refine Ql (n:=n+5) B Lk O Y h3 h7 (m:=m) (by trivial) fun iU F AF=> ?_
 refine SE.fit (fQ.dM (σ'':=(iU,az (aG []))::(pc,az (aG (bE sz o m (bG bs o) 4)))::(kd,az (dK (bq m 4)))::(cm,az (aG [[aw m 0],[aw m 1]]))::(st,az (aG (bG bs o)))::(c.k,ae (PT))::(c.order,ae (some (.int o)))::(c.book,ae (some (.ref bk)))::(c.bw,ae (some (.ref st)))::(c.kinds,ae (some (.ref kd)))::(c.one,ae aJ)::(c.two,ae aL)::
  (cn F (sz+s/3%(3*sz):Nat) [aw m 1,aw m 0] [] [] (s/63%8:Nat)++((bk,az (aG bs))::rest))) ?_) ?_
 ·exact List.perm_append_comm_assoc _ ((iU,az (aG []))::(pc,az (aG (bE sz o m (bG bs o) 4)))::(kd,az (dK (bq m 4)))::(cm,az (aG [[aw m 0],[aw m 1]]))::(st,az (aG (bG bs o)))::(c.k,ae (PT))::(c.order,ae (some (.int o)))::(c.book,ae (some (.ref bk)))::(c.bw,ae (some (.ref st)))::(c.kinds,ae (some (.ref kd)))::(c.one,ae aJ)::(c.two,ae aL)::[]) ((bk,az (aG bs))::rest)
 refine Qk (n:=n) B G O Y AF (XA h7 vE) P.step fun U U us ia=> ?_
 have hn:=P.n;have FU:=P.page;have qR:aB [10] ((RS sz o m (sz+s/3%(3*sz)) (s/63%8) bs 4).1++[((RS sz o m (sz+s/3%(3*sz)) (s/63%8) bs 4).2.2.2.drop (RS sz o m (sz+s/3%(3*sz)) (s/63%8) bs 4).2.1).flatten])=kI sz o m (sz+s/3%(3*sz)) (s/63%8) bs:=rfl;have Rz:=P.small;have lr:=P.sp;have D8:=P.pos;have jB:=P.ll;have PA:=P.ls;have df:=P.lt;have LR:=P.rl;have vH:=P.rs;have nQ:=P.ql;have D7:=P.qs;have uA:=P.pl;have htd:=P.told;have hlw:=P.low;simp only[RS,MS] at FU qR Rz lr D8 jB PA df LR vH nQ D7 hn
 generalize cz (aN m) (sz+s/3%(3*sz)) (s/63%8) (bE sz o m (bG bs o) 4) 4=R4 at*
 generalize iV (aN m) (sz+s/3%(3*sz)) (s/63%8) (bE sz o m (bG bs o) 4) [aw m 1,aw m 0] 4=M4 at*
 generalize kI sz o m (sz+s/3%(3*sz)) (s/63%8) bs=pg at*
 rw[←ia] at FU Rz lr D8 df hn
 refine Qj (n:=n) B D G O Y AF (page:=pg) (tl:=(bG bs o).flatten) FU qR Rz (by rw[List.length_map] at hn;exact hn) lr D8 jB PA df LR vH nQ D7 uA htd rfl P.words.1 (fun x hx=>by have:=(P.words.2 x hx).1;exact WB h7 this) hlw fun U U=> ?_
 refine SE.sub (σ':=(st,az (aG (bG bs o)))::_) ?_ (.cons _ (.cons _ (.cons _ (.cons _ (.refl _)))));refine Qi (n:=n) D G O Y P.ok fun U U=> ?_
 refine Qh (n:=n) D G O Y P.ok P.win fun U U U U U=> ?_
 exact Qg (n:=n) D G O Y P.ok P.place fun U U=>⟨rfl,(by trivial),(by trivial)⟩
end
theorem oI {h:Heap}{a:Addr}{m:Str→Option Value}{l:List Addr}(x:h.Ns a m) (ha:a∉l):(hideAll h l).Ns a m:=by
 refine aF (PyProof.Rows.LCg.ns_obj x) fun o ho hn=> ?_
 exact hn.ns (hideAll_get l ho ha)
theorem FD:bX {cls:=.none,data:=.fields #[]}:=⟨#[],rfl,by constructor⟩
theorem enter {prog:Program}{w:World}{T:aX}{s:Shared}{a:mP}{f:gf}{aa:fH}{fa sa:Addr}{o:Obj}{pm cd doc:Value}{ns:List Int}
  (B:FK prog T f aa) (Lk:Fm T f) (D:Text T a) (G:cS T)
  (HR: ∀sz,sz=3∨sz=5∨sz=7→qN sz)
  (HP: ∀sz o m wd rm (l0 l1 l2:Int),sz=3∨sz=5∨sz=7→sz≤wd→wd<4*sz→rm<8→PlainAt sz o m wd rm ([l0,l1,l2].map (dv sz)))
  (hT:T.K.In s.heap) (hPK: ∀p∈[aa.Plen,aa.Pstr],T.K.lookup p=none) (dm:aa.Plen≠aa.Pstr)
  (hg:s.heap.Ns mainGlobals T.mg) (hb:s.heap.Ns builtinsNs T.mb) (hl:s.heap.NoLimit) (iL:mainGlobals∉[aa.Plen,aa.Pstr]∧builtinsNs∉[aa.Plen,aa.Pstr]∧cStatics∉[aa.Plen,aa.Pstr])
  (h1:s.heap.get? aa.Plen=some {cls:=.none,data:=.fields #[]}) (h2:s.heap.get? aa.Pstr=some {cls:=.none,data:=.fields #[]})
  (ho:s.heap.get? fa=some o) (hd:o.data= .func (Calls.docDef "law" (dh (ST 21)) (bodyOf (ST 21)) (ao (ST 21)) pm cd doc)) (HV:s.heap.CodeRec cd "law")
  (hs: ∃o,s.heap.get? sa=some o∧az (dK ns) o) (RC:sa∉[aa.Plen,aa.Pstr]) (hn:ns.length≤1000) (Mp:AllBare s.gens):
  codeAny (model prog w) callerA (.call (.ref fa) ⟨[.ref sa],[]⟩) (fun r s'=>r= .ok (.ret (.bool true))∧(∀b o,b∉[aa.Plen,aa.Pstr]→s.heap.get? b=some o→s'.heap.get? b=some o)∧
   (∀b∈[aa.Plen,aa.Pstr],∃op,s'.heap.get? b=some op∧bX op)∧s'.os=s.os∧AllBare s'.gens) s:=by
 refine call_cellsN_ret (binds:=[(("script":Str),.ref sa)]) dC ho hd hl HV rfl (by intro x hx;rw[List.mem_singleton.mp hx];exact .inl rfl) dC (fun dk tk cells F N C=> ?_);obtain⟨L,hL⟩: ∃L,L=s.heap.objs.size:=⟨_,rfl⟩;rw[←hL] at F N C ⊢
 have PD:cellsFrom (L+1) (ao (ST 21)).names []=SV ⟨L+1,L+2,L+3,L+4,L+5,L+6,L+7⟩:=rfl
 let c:tG:=⟨L+1,L+2,L+3,L+4,L+5,L+6,L+7⟩
 let X:Cx:=lX fa c (callerA.deeper (envX "law" (ao (ST 21)) L fa cd (SV c))) L (hideAll s.heap [aa.Plen,aa.Pstr]) s.os cd
 have zl:envOfC "law" (ao (ST 21)) L fa cd=X.env:=rfl;have hA:callerA.deeper (envOfC "law" (ao (ST 21)) L fa cd)=X.A:=rfl;rw[zl] at C
 rw[hA,zl];have mZ: ∀p∈[aa.Plen,aa.Pstr],∃o,s.heap.get? p=some o:=fun p hp=>by
  rcases List.mem_cons.mp hp with rfl | hp
  ·exact⟨_,h1⟩
  ·rw[List.mem_singleton.mp hp];exact⟨_,h2⟩
 have O:cU T 9 X:=by
  refine⟨?_,⟨callerA,hideAll s.heap [aa.Plen,aa.Pstr],[],X.env,below_caller _,rfl,rfl,rfl⟩,?_,?_,oI hg iL.1,oI hb iL.2.1,by show callerA.depth+1+9<900;decide,by show callerA.units+3+90<9000;decide,rfl,rfl,rfl,rfl⟩
  ·show (hideAll s.heap [aa.Plen,aa.Pstr]).objs.size≤L;rw[hideAll_size];exact Nat.le_of_eq hL.symm
  ·refine aF hl fun mc x y=> ?_
   exact⟨mc,oI x iL.2.2,y⟩
  ·intro b o' hk;exact hideAll_get _ (hT b o' hk) fun hm=>by rw[hPK b hm] at hk;cases hk
 have Y:Lay X:=lay_of (scope:=ao (ST 21)) (by show mw (ao (ST 21)) ["script","numbers","number","shape","marks","size","whole","ring","text","begin","unseen","commas","pieces","typed","spot","width","room","maker","rows","cut","page","told","sign","wants","due","fore","aft","place"]=true;decide) rfl rfl rfl;have F':Fr X.g L dk (bindL X.env.kindOf [(("script":Str),.ref sa)] fun U=>none):=⟨F.ns,fun b o' e=>F.keep b o' (of_hideAll _ e),by show (hideAll s.heap [aa.Plen,aa.Pstr]).objs.size≤L;rw[hideAll_size];exact F.above⟩;have low: ∀p∈[aa.Plen,aa.Pstr],p<L:=fun p hp=>by refine gF (mZ p hp) fun o' e=> ?_;rw[hL];exact Heap.lt_size e
 have lP:=low aa.Plen (.head _);have lQ:=low aa.Pstr (.tail _ (.head _));have hC: ∃k1 k2 k3 k4 k5 k6 k7:Obj,cells=[(L+7,k7),(L+6,k6),(L+5,k5),(L+4,k4),(L+3,k3),(L+2,k2),(L+1,k1)]∧k1.data= .cell none∧k2.data= .cell none∧k3.data= .cell none∧k4.data= .cell none∧k5.data= .cell none∧k6.data= .cell none∧k7.data= .cell none:=by
  rw[PD] at C
  cases C with
  | cons d7 C=>cases C with
   | cons d6 C=>cases C with
    | cons d5 C=>cases C with
     | cons d4 C=>cases C with
      | cons d3 C=>cases C with
       | cons d2 C=>cases C with
        | cons d1 C=>cases C with
         | nil=>exact⟨_,_,_,_,_,_,_,rfl,d1,d2,d3,d4,d5,d6,d7⟩
 refine QW hC fun k1 k2 k3 k4 k5 k6 k7 ah d1 d2 d3 d4 d5 d6 d7=> ?_;clear hC;subst ah
 have bM: ∀{o:Obj},o.data= .cell none→ae none o:=fun h=>⟨none,.none,h⟩
 have N':News X.g L dk ([(L+7,k7),(L+6,k6),(L+5,k5),(L+4,k4),(L+3,k3),(L+2,k2),(L+1,k1)]++[(aa.Plen,{cls:=.none,data:=.fields #[]}),(aa.Pstr,{cls:=.none,data:=.fields #[]})]):=by
  intro p hp;rcases List.mem_append.mp hp with h | h
  ·have:=N p h
   refine⟨this.1,this.2.1,?_⟩;cases q:X.g.get? p.1 with
   | none=>rfl
   | some o'=>have e:=this.2.2;rw[of_hideAll _ q] at e;cases e
  ·rcases List.mem_cons.mp h with rfl | h
   ·exact⟨F.keep _ _ h1,Nat.ne_of_lt lP,hideAll_none _ (.head _)⟩
   ·rw[List.mem_singleton.mp h];exact⟨F.keep _ _ h2,Nat.ne_of_lt lQ,hideAll_none _ (.tail _ (.head _))⟩
 have hm:(bindL X.env.kindOf [(("script":Str),.ref sa)] fun U=>none)=fun y=>((["script"]:List Str).zip [Value.ref sa]).reverse.lookup y:=by
  funext y
  show (if y=("script":Str) then some (Value.ref sa) else none)=(match y==("script":Str) with | true=>some (Value.ref sa) | false=>none);by_cases h:y=("script":Str)
  ·rw[if_pos h,h];rfl
  ·rw[if_neg h,beq_eq_false_iff_ne.mpr h]
 have RI:gE (fL none none none none none none none none none none none none none none none none none none none none none none none none none none none (some (.ref sa))) (bindL X.env.kindOf [(("script":Str),.ref sa)] fun U=>none):=by
  rw[hm];exact oN (names:=["script"]) (args:=[.ref sa]) (rest:=["numbers","number","shape","marks","size","whole","ring","text","begin","unseen","commas","pieces","typed","spot","width","room","maker","rows","cut","page","told","sign","wants","due","fore","aft","place"]) (.cons (.ref _) .nil) rfl dC
 have Dl:ey ([(c.two,ae none),(c.one,ae none),(c.kinds,ae none),(c.bw,ae none),(c.book,ae none),(c.order,ae none),(c.k,ae none)]++[(aa.Plen,bX),(aa.Pstr,bX)]) ([(L+7,k7),(L+6,k6),(L+5,k5),(L+4,k4),(L+3,k3),(L+2,k2),(L+1,k1)]++[(aa.Plen,{cls:=.none,data:=.fields #[]}),(aa.Pstr,{cls:=.none,data:=.fields #[]})]):=
  .cons (bM d7) (.cons (bM d6) (.cons (bM d5) (.cons (bM d4) (.cons (bM d3) (.cons (bM d2) (.cons (bM d1) (.cons FD (.cons FD .nil))))))))
 have iC:Inv X (fL none none none none none none none none none none none none none none none none none none none none none none none none none none none (some (.ref sa))) ([(c.two,ae none),(c.one,ae none),(c.kinds,ae none),(c.bw,ae none),(c.book,ae none),(c.order,ae none),(c.k,ae none)]++[(aa.Plen,bX),(aa.Pstr,bX)]) {s with heap:=dk,toks:=tk}:=by
  refine⟨⟨_,_,F',N',RI,Dl⟩,?_,rfl,rT,Mp,rfl⟩;show ([L+7,L+6,L+5,L+4,L+3,L+2,L+1,aa.Plen,aa.Pstr]:List Nat).Nodup;have lP': @LT.lt Nat _ aa.Plen L:=lP;have lQ': @LT.lt Nat _ aa.Pstr L:=lQ;have RQ: @Ne Nat aa.Plen aa.Pstr:=dm;exact wC (ks:=[7,6,5,4,3,2,1]) lP' lQ' RQ dC
 have I:Inv X (fL none none none none none none none none none none none none none none none none none none none none none none none none none none none (some (.ref sa))) ((c.k,ae none)::(c.order,ae none)::(c.book,ae none)::(c.bw,ae none)::(c.kinds,ae none)::(c.one,ae none)::(c.two,ae none)::(aa.Plen,bX)::(aa.Pstr,bX)::[]) {s with heap:=dk,toks:=tk}:=iC.perm (List.Perm.append_right _ (List.reverse_perm (l:=[(c.k,ae none),(c.order,ae none),(c.book,ae none),(c.bw,ae none),(c.kinds,ae none),(c.one,ae none),(c.two,ae none)])));have gw: ∃o,X.g.get? sa=some o∧az (dK ns) o:=by
  refine aF hs fun o' e q=> ?_
  exact⟨o',hideAll_get _ e RC,q⟩
 refine wpAny_mono (y3 (w:=w) (n:=0) (rest:=[]) B Lk D G O Y gw hn HR HP _ I) (fun fl s' q=> ?_) fun U U f=>f
 refine QV q fun bC σ' m1 m2 zh I'=> ?_
 cases zh with
 | ret hv=>
  refine vB hv ?_
  refine⟨rfl,fun b o' hb e=>I'.keep (hideAll_get _ e hb),fun b hb=> ?_,I'.os,I'.gens⟩;rcases List.mem_cons.mp hb with rfl | hb
  ·refine aF (I'.obj m1) fun op e q=> ?_
   exact⟨op,e,q⟩
  ·rw[List.mem_singleton.mp hb];refine aF (I'.obj m2) fun op e q=> ?_
   exact⟨op,e,q⟩
section
variable (tb:String→Option Builtin) (p:Program) (w:World) (n₀:Nat) (ann:Option Value) (q₀:Pos) (c:Code)
noncomputable def Rn (n:Nat) {α:Type}(x:Sem α) (s:Shared) (q:Pos) (a:α) (s':Shared) (q':Pos):Prop:=
 ∀(K:α→Sem Fin) (H:Value→Sem Fin) (gd:Bool→Bool) (lv:List Value→List Value) (N:Nat) (r:Shared),topRun tb p w n₀ ann N s' ⟨K a,c,q',[topFrame q₀]⟩=some r→topRun tb p w n₀ ann (n+N) s ⟨x.wrap K H gd lv,c,q,[topFrame q₀]⟩=some r
end
section
variable {tb:String→Option Builtin}{p:Program}{w:World}{n₀:Nat}{ann:Option Value}{q₀:Pos}{c:Code}{α β:Type}{s s₁ au s':Shared}{q q₁ dg q':Pos}{n m:Nat}
theorem Rn.le {x:Sem α}{a:α}(h:Rn tb p w n₀ ann q₀ c n x s q a s' q') (k:n≤m):Rn tb p w n₀ ann q₀ c m x s q a s' q':=fun K H gd lv N r hr=>by
 have:=topRun_mono (m-n) _ _ _ _ (h K H gd lv N r hr)
 rwa [show n+N+(m-n)=m+N by exact Vi k] at this
theorem aW {a:α}:Rn tb p w n₀ ann q₀ c 0 (pure a) s q a s q:=fun K H gd lv N r h=>by rw[Nat.zero_add];exact h
theorem av {x:Sem α}{f:α→Sem β}{a:α}{b:β}(h:Rn tb p w n₀ ann q₀ c n x s q a s₁ q₁) (k:Rn tb p w n₀ ann q₀ c m (f a) s₁ q₁ b au dg):Rn tb p w n₀ ann q₀ c (n+m) (x >>= f) s q b au dg:=fun K H gd lv N r hr=>by
 rw[Sem.bind_eq_wrap',Sem.wrap_wrap,Nat.add_assoc];exact h (fun a=>(f a).wrap K H gd lv) (fun e=>(Sem.raise e:Sem β).wrap K H gd lv) (fun g=>gd (id g)) (fun l=>lv (id l)) _ _ (k K H gd lv N r hr)
theorem Dr {x:Sem α}{a:α}{vs:List Value}(h:Rn tb p w n₀ ann q₀ c n x s q a s' q'):Rn tb p w n₀ ann q₀ c n (x.keep vs) s q a s' q':=fun K H gd lv=>by
 rw[Sem.keep_eq_wrap,Sem.wrap_wrap];exact h _ _ _ _
theorem b7 {x:Sem α}{a:α}{vs:List Value}(h:Rn tb p w n₀ ann q₀ c n x s q a s' q'):Rn tb p w n₀ ann q₀ c n (holding vs x) s q a s' q':=by
 unfold holding;split
 ·exact h
 ·exact Dr h
theorem uc {x:Sem α}{a:α}{k:Value→Sem Unit}(h:Rn tb p w n₀ ann q₀ c n x s q a s' q'):Rn tb p w n₀ ann q₀ c n (x.onRaise k) s q a s' q':=fun K H gd lv=>by
 rw[Sem.onRaise_eq_wrap,Sem.wrap_wrap];exact h _ _ _ _
theorem nF {x:Sem α}{y:Sem α}(h: ∀(K:α→Sem Fin) (H:Value→Sem Fin) (gd:Bool→Bool) (lv:List Value→List Value),stepOk n₀ ann ⟨x.wrap K H gd lv,c,q,[topFrame q₀]⟩=true∧through ⟨x.wrap K H gd lv,c,q,[topFrame q₀]⟩=false∧
   step (denote tb) p w s ⟨x.wrap K H gd lv,c,q,[topFrame q₀]⟩= .go s₁ ⟨y.wrap K H gd lv,c,q₁,[topFrame q₀]⟩) {a:α}(k:Rn tb p w n₀ ann q₀ c n y s₁ q₁ a s' q'):Rn tb p w n₀ ann q₀ c (n+1) x s q a s' q':=fun K H gd lv N r hr=>by
 refine Pq (h K H gd lv) fun h1 h2 h3=> ?_
 rw[show n+1+N=n+N+1 by exact Zv];unfold topRun;rw[h1,h2,h3];exact k K H gd lv N r hr
theorem vn {t:String}:Rn tb p w n₀ ann q₀ c 1 (rule t) s q () s q:=nF (y:=pure ()) (fun U U U U=>⟨rfl,rfl,by obtain⟨h,g,d,t,o⟩:=s;rfl⟩) aW
theorem vr {pos:Pos}:Rn tb p w n₀ ann q₀ c 1 (standAt pos) s q () s pos:=nF (y:=pure ()) (fun U U U U=>⟨rfl,rfl,by obtain⟨h,g,d,t,o⟩:=s;rfl⟩) aW
theorem rA:Rn tb p w n₀ ann q₀ c 1 fresh s q s.toks {s with toks:=s.toks+1} q:=nF (y:=pure s.toks) (fun U U U U=>⟨rfl,rfl,by obtain⟨h,g,d,t,o⟩:=s;rfl⟩) aW
theorem fB {a:Addr}{pt:Option Value}{o:Obj}(ho:s.heap.get? a=some o):Rn tb p w n₀ ann q₀ c 1 (loadPart a pt) s q o s q:=nF (y:=pure o) (fun U U U U=>⟨rfl,rfl,by obtain⟨h,g,d,t,o⟩:=s;dsimp only at ho;show (match h.get? a with | some o=>_ | none=>_)=_;rw[ho];rfl⟩) aW
theorem mX {a:Addr}{pt:Option Value}{f:Obj→Obj}{o:Obj}(ho:s.heap.get? a=some o) (hn:n₀≤a):Rn tb p w n₀ ann q₀ c 1 (updatePart a pt f) s q () {s with heap:=s.heap.update a f} q:=
 nF (y:=pure ()) (fun U U U U=>⟨by show (_&&(Nat.ble n₀ a||_||_||_))=true;rw[Nat.ble_eq_true_of_le hn];rfl,rfl,by obtain⟨h,g,d,t,o⟩:=s;dsimp only at ho;show (if (h.get? a).isSome=true then _ else _)=_;rw[ho];rfl⟩) aW
theorem rC {o:Obj}:Rn tb p w n₀ ann q₀ c 1 (alloc o) s q s.heap.objs.size {s with heap:=s.heap.push o} q:=nF (y:=pure _) (fun U U U U=>⟨rfl,rfl,by obtain⟨h,g,d,t,o⟩:=s;rfl⟩) aW
theorem lV {x:Sem α}{res:α→Flow}{f:Flow}{a:α}(h: ∀gd lv,segRun tb p w n₀ ann 1 n s ⟨x.wrap (fun a=>.pure (.done (res a))) deadEnd gd lv,c,q,[topFrame q₀]⟩=some (f,s',c,q')) (hr: ∀b,res b=f→b=a):Rn tb p w n₀ ann q₀ c n x s q a s' q':=fun K H gd lv N r=>by
 refine aF (seg_top (res:=res) (K':=K) (H':=H) (gd:=gd) (lv:=lv) (B:=[topFrame q₀]) rfl n s ⟨x.wrap (fun a=>.pure (.done (res a))) deadEnd gd lv,c,q,[topFrame q₀]⟩ ⟨x.wrap K H gd lv,c,q,[topFrame q₀]⟩ _ _ _ _ ⟨rfl,rfl,.inl ⟨rfl,rfl,_,rfl,rfl⟩⟩ (h gd lv)) fun b hb hN=> ?_
 obtain rfl:=hr b hb;exact hN N r
theorem Dn {st:Stmt}{env:Env}{rest:List Stmt}(h:Rn tb p w n₀ ann q₀ c n (exec st env) s q .next s' q') {N:Nat}{r:Shared}(hr:topRun tb p w n₀ ann N s' (restOf rest env c q' [topFrame q₀])=some r):topRun tb p w n₀ ann (n+N) s (restOf (st::rest) env c q [topFrame q₀])=some r:=by
 unfold restOf;rw[execs_cons_wrap];exact h (fun f=>match f with | .next=>(execs rest env).wrap doneF (leaveH env) id id | f=>doneF f) (leaveH env) id id N r hr
end
theorem jn:treeTable=PySem.W.Fast.tw14364793385576792824:=PySem.W.Fast.te14364793385576792824
theorem vj: @segRun= @PySem.W.Fast.tw14374325043358763698:=PySem.W.Fast.te14374325043358763698
section
variable {p:Program}{w:World}{n₀:Nat}{ann:Option Value}{q₀:Pos}{c:Code}{α β:Type}{s s₁ au s':Shared}{q q₁ dg q':Pos}
theorem h9 {k:Int}{t:Tok}:Rn treeTable p w n₀ ann q₀ c 20 (specialOf (.int k t) "__hash__") s q (some (.builtin "int.__hash__")) s q:=
 lV (res:=fun h=>match h with | some v=>.ret v | none=>.brk) (n:=20) (f:=.ret (.builtin "int.__hash__")) (fun gd lv=>by
  rw[show @specialOf=PySem.W.Fast.tw4214721358667687652 from PySem.W.Fast.te4214721358667687652,vj,jn]
  kernel_rfl) (fun b hb=>by cases b with | none=>cases hb | some v=>cases hb;rfl)
theorem lY (b:Bool) {k:Int}{t:Tok}{x:Sem Value}:Rn treeTable p (w.withFollow "special-get-raises" b) n₀ ann q₀ c 40 (callSpecialIfBoundUnlessNone? (.int k t) "__hash__" x) s q (some (.int (rawHash k) s.toks)) {s with toks:=s.toks+1} q:=
 lV (res:=fun h=>match h with | some v=>.ret v | none=>.brk) (n:=40) (f:=.ret (.int (rawHash k) s.toks)) (fun gd lv=>by
  rw[show @callSpecialIfBoundUnlessNone? =PySem.W.Fast.tw16697807410369149715 from PySem.W.Fast.te16697807410369149715,vj,jn];obtain⟨h,g,d,tk,o⟩:=s;cases b<;>kernel_rfl) (fun b hb=>by cases b with | none=>cases hb | some v=>cases hb;rfl)
theorem ot {k:Int}{t:Tok}{x:Sem Value}:Rn treeTable p w n₀ ann q₀ c 40 (callSpecialIfBoundUnlessNone? (.int k t) "__hash__" x) s q (some (.int (rawHash k) s.toks)) {s with toks:=s.toks+1} q:=by
 have:=lY (w:=w) (p:=p) (n₀:=n₀) (ann:=ann) (q₀:=q₀) (c:=c) (s:=s) (q:=q) (w.params.followText "special-get-raises") (k:=k) (t:=t) (x:=x)
 rwa [World.withFollow_self] at this
theorem Ds {k:Int}{t:Tok}:Rn treeTable p w n₀ ann q₀ c 80 (pyHash (.int k t)) s q (hashInt k) {s with toks:=s.toks+1} q:=by
 have hr:=rawHash_range k;unfold pyHash pyHashByItsType;have hv:[Value.int k t].any Value.onHeap=false:=rfl;refine Rn.le (av (a:=()) (s₁:=s) (q₁:=q) (n:=0) (by unfold cRoomFor;rw[hv,if_neg dC];exact aW) (av h9 (m:=60) ?_)) dC;rw[if_neg dC];refine Rn.le (av h9 (m:=40) ?_) dC;rw[if_neg dC];refine Rn.le (av ot (m:=0) ?_) dC;show Rn _ _ _ _ _ _ _ _ (if (decide (-(2:Int)^63≤rawHash k)&&decide (rawHash k<2^63))=true then _ else _) _ _ _ _ _;rw[if_pos (by rw[decide_eq_true hr.1,decide_eq_true hr.2];rfl)];exact aW
noncomputable abbrev bN (es:List DictEntry) (n:Nat):Obj:={cls:=.type "dict",data:=.dict es.toArray n}
theorem g6 {d:Addr}{pt:Option Value}{es:List DictEntry}{n:Nat}(ho:s.heap.get? d=some (bN es n)):Rn treeTable p w n₀ ann q₀ c 1 (dictEntries d pt) s q es.toArray s q:=by
 unfold dictEntries;exact av (m:=0) (fB ho) aW
theorem rB {d:Addr}{pt:Option Value}{es:List DictEntry}{n:Nat}(ho:s.heap.get? d=some (bN es n)):Rn treeTable p w n₀ ann q₀ c 1 (dictEpoch d pt) s q n s q:=by
 unfold dictEpoch;exact av (m:=0) (fB ho) aW
theorem rH {es:List DictEntry}{h:Int}(hn: ∀e∈es,e.hash≠h):placesWithHash es.toArray.size (fun i=>es.toArray[i]?.map (·.hash)) h=[]:=by
 unfold placesWithHash;rw[List.filter_eq_nil_iff];intro i hi;have jC:i<es.length:=by simpa using hi
 simp only[List.getElem?_toArray,List.getElem?_eq_getElem jC,Option.map_some,beq_iff_eq,Option.some.injEq]
 exact hn _ (List.getElem_mem _)
theorem vq {d:Addr}{k h:Int}{t:Tok}{es:List DictEntry}{n:Nat}(ho:s.heap.get? d=some (bN es n)) (hn: ∀e∈es,e.hash≠h):Rn treeTable p w n₀ ann q₀ c 1 (dictFind d (.int k t) h) s q none s q:=by
 unfold dictFind;refine b7 (av (n:=1) (m:=0) (g6 ho) ?_);dsimp only;rw[rH hn];show Rn _ _ _ _ _ _ _ _ (if ([Value.int k t].all carriedByValue)=true then _ else _) _ _ _ _ _;rw[if_pos (show [Value.int k t].all carriedByValue=true from rfl)];unfold dictWalkPlain;exact aW
theorem uE {h:Heap}{a:Addr}{f:Obj→Obj}{o:Obj}(ho:h.get? a=some o) (hf:(f o).isFreed=false):(h.update a f).get? a=some (f o):=Heap.get?_update_self f ho hf
theorem lW {d:Addr}{pt:Option Value}{e:DictEntry}{es:List DictEntry}{n:Nat}(ho:s.heap.get? d=some (bN es n)) (hd:n₀≤d) (hz:es.length+1≤100000):
  Rn treeTable p w n₀ ann q₀ c 3 (updateDictKeys d (·.push e) pt) s q () {s with heap:=s.heap.update d (Obj.mapDictKeys (·.push e))} q:=by
 have hg:=uE (f:=Obj.mapDictKeys (·.push e)) ho rfl;unfold updateDictKeys;refine av (n:=1) (m:=2) (fB ho) ?_
 dsimp only
 refine av (n:=1) (m:=1) (mX ho hd) ?_
 unfold lookBehind;refine av (n:=1) (m:=0) (fB hg) ?_
 have:(Obj.mapDictKeys (·.push e) (bN es n)).data.pastItsLine=none:=by
  show (Data.dict (es.toArray.push e) (n+1)).pastItsLine=none;exact pastItsLine_dict (by rw[sizeLine_eq];simp;exact ĸ hz)
 rw[this];exact aW
theorem G9 {d:Addr}{k h:Int}{t:Tok}{v:Value}{es:List DictEntry}{n:Nat}(ho:s.heap.get? d=some (bN es n)) (hn: ∀e∈es,e.hash≠h) (hd:n₀≤d) (hz:es.length+1≤100000):
  Rn treeTable p w n₀ ann q₀ c 4 (dictPut d h (.int k t) v) s q () {s with heap:=s.heap.update d (Obj.mapDictKeys (·.push ⟨h,.int k t,v⟩))} q:=by
 unfold dictPut;exact av (n:=1) (m:=3) (vq ho hn) (lW ho hd hz)
theorem yF {d:Addr}{k:Int}{t:Tok}{v:Value}{es:List DictEntry}{n:Nat}(ho:s.heap.get? d=some (bN es n)) (hn: ∀e∈es,e.hash≠hashInt k) (hd:n₀≤d) (hz:es.length+1≤100000):
  Rn treeTable p w n₀ ann q₀ c 85 (dictSet d (.int k t) v) s q () {s with heap:=s.heap.update d (Obj.mapDictKeys (·.push ⟨hashInt k,.int k t,v⟩)),toks:=s.toks+1} q:=by
 unfold dictSet;refine b7 (av (n:=80) (m:=5) Ds ?_);unfold dictSetHashed;refine b7 (av (n:=1) (m:=4) (vq (s:={s with toks:=s.toks+1}) ho hn) ?_);exact av (n:=1) (m:=3) vn (lW (s:={s with toks:=s.toks+1}) ho hd hz)
end
noncomputable def cV (h:Heap) (d:Addr) (o:Obj):Heap:=h.update d fun U=>o
theorem rv (h:Heap) (d:Addr) (o:Obj) (f:Obj→Obj):(cV h d o).update d f=cV h d (f o):=by
 obtain⟨objs,l⟩:=h;show Heap.mk ((objs.modify d fun U=>o).modify d f) l=Heap.mk (objs.modify d fun U=>f o) l;congr 1;apply Array.ext_getElem?;intro i;simp only[Array.getElem?_modify];by_cases e:d=i
 ·subst e;simp[Function.comp_def]
 ·simp[e]
theorem j8 (h:Heap) (d:Addr) (o o':Obj):cV (cV h d o) d o'=cV h d o':=rv h d o _
theorem gp {h:Heap}{d:Addr}{o:Obj}{f:Obj→Obj}(ho:h.get? d=some o):h.update d f=cV h d (f o):=by
 have ig:h.objs[d]? =some o:=by
  unfold Heap.get? at ho
  split at ho
  ·cases ho
  ·exact ho
 obtain⟨objs,l⟩:=h;show Heap.mk (objs.modify d f) l=Heap.mk (objs.modify d fun U=>f o) l;congr 1;apply Array.ext_getElem?;intro i;simp only[Array.getElem?_modify];by_cases e:d=i
 ·subst e
  have:objs[d]? =some o:=ig
  simp[this]
 ·simp[e]
theorem j9 {h:Heap}{d:Addr}{o:Obj}(ho:h.get? d=some o):cV h d o=h:=by
 have:h.update d id=cV h d o:=gp (f:=id) ho
 rw[←this];obtain⟨objs,l⟩:=h;show Heap.mk (objs.modify d id) l=Heap.mk objs l;congr 1;apply Array.ext_getElem?;intro i;simp only[Array.getElem?_modify];by_cases e:d=i<;>simp[e]
theorem mE {h:Heap}{d:Addr}{o o':Obj}(ho:h.get? d=some o) (hf:o'.isFreed=false):(cV h d o').get? d=some o':=Heap.get?_update_self (fun U=>o') ho hf
theorem kL {h:Heap}{d a:Addr}{o':Obj}(dm:a≠d):(cV h d o').get? a=h.get? a:=Heap.get?_update_ne _ _ _ _ dm
theorem nA {h:Heap}{d:Addr}{o x:Obj}(dm:d≠h.objs.size):cV (h.push x) d o=(cV h d o).push x:=Heap.update_push h d _ x dm
theorem lN {h:Heap}{o o':Obj}:cV (h.push o) h.objs.size o'=h.push o':=by
 obtain⟨objs,l⟩:=h;show Heap.mk ((objs.push o).modify objs.size fun U=>o') l=Heap.mk (objs.push o') l;congr 1;apply Array.ext_getElem?;intro i;simp only[Array.getElem?_modify,Array.getElem?_push];by_cases e:objs.size=i
 ·subst e;simp
 ·simp[e,Ne.symm e]
noncomputable def aY (st:Nat):Nat→List (Int×Str)→List DictEntry
 | _,[]=>[]
 | t,(k,x)::r=>⟨hashInt k,.int k t,.str x (t+1)⟩::aY st (t+st) r
theorem b9 (st:Nat): ∀(L:List (Int×Str)) (t:Nat),(aY st t L).length=L.length
 | [],_=>rfl
 | (k,x)::r,t=>by simp only[aY,List.length_cons,b9 st r]
theorem fh (st:Nat): ∀(L:List (Int×Str)) (t:Nat),(aY st t L).map (·.hash)=L.map fun d=>hashInt d.1
 | [],_=>rfl
 | (k,x)::r,t=>by simp only[aY,List.map_cons,fh st r]
theorem kq (st:Nat): ∀(L:List (Int×Str)) (t:Nat),gz (aY st t L) L
 | [],_=>.nil
 | (k,x)::r,t=>.cons k t x (t+1) (kq st r (t+st))
theorem gz.append {a b:List DictEntry}{l m:List (Int×Str)}(h:gz a l) (k:gz b m):gz (a++b) (l++m):=by
 induction h with
 | nil=>exact k
 | cons i t v u h ih=>exact .cons i t v u ih
section
variable (p:Program) (w:World) (n₀:Nat) (ann:Option Value) (q₀:Pos) (c:Code) (pos:Pos)
structure JZ (P:Sem Value×Sem Value) (d:Int×Str):Prop where
 key: ∀s q,Rn treeTable p w n₀ ann q₀ c 1 P.1 s q (.int d.1 s.toks) {s with toks:=s.toks+1} q
 val: ∀s q,Rn treeTable p w n₀ ann q₀ c 2 P.2 s q (.str d.2 s.toks) {s with toks:=s.toks+1} pos
inductive bP:List (Sem Value×Sem Value)→List (Int×Str)→Prop
 | nil:bP [] []
 | cons {P d Ps L} (h:JZ p w n₀ ann q₀ c pos P d) (r:bP Ps L):bP (P::Ps) (d::L)
end
section
variable {p:Program}{w:World}{n₀:Nat}{ann:Option Value}{q₀:Pos}{c:Code}{α β:Type}{s s₁ au s':Shared}{q q₁ dg q' pos:Pos}
theorem bP.length {Ps:List (Sem Value×Sem Value)}{L:List (Int×Str)}(h:bP p w n₀ ann q₀ c pos Ps L):Ps.length=L.length:=by
 induction h with
 | nil=>rfl
 | cons _ _ ih=>simp[ih]
theorem Dq {d:Addr}{Ps:List (Sem Value×Sem Value)}{L:List (Int×Str)}(h:bP p w n₀ ann q₀ c pos Ps L): ∀{s:Shared}{q:Pos}{es:List DictEntry}{n:Nat},s.heap.get? d=some (bN es n)→n₀≤d→es.length+L.length≤100000→
  (es.map (·.hash)++L.map fun d=>hashInt d.1).Nodup→
  Rn treeTable p w n₀ ann q₀ c (90*L.length) (forIn Ps PUnit.unit fun (x:Sem Value×Sem Value) (_:PUnit)=>(do let kv ←x.1;let vv ←holding [kv] x.2;holding [kv,vv] (dictSet d kv vv);pure (ForInStep.yield PUnit.unit):Sem (ForInStep PUnit))) s q PUnit.unit
   {s with heap:=cV s.heap d (bN (es++aY 3 s.toks L) (n+L.length)),toks:=s.toks+3*L.length} (if L.isEmpty then q else pos):=by
 induction h with
 | nil=>
  intro s q es n ho hd hz hn;rw[List.forIn_nil];have e:{s with heap:=cV s.heap d (bN (es++aY 3 s.toks []) (n+([]:List (Int×Str)).length)),toks:=s.toks+3*([]:List (Int×Str)).length}=s:=by
   have:es++aY 3 s.toks []=es:=by simp[aY]
   rw[this];show ({s with heap:=cV s.heap d (bN es n),toks:=s.toks}:Shared)=s;rw[j9 ho]
  rw[e];exact aW
 | @cons P dd Ps L hP hr ih=>
  intro s q es n ho hd hz hn;obtain⟨k,x⟩:=dd;rw[List.forIn_cons];rw[List.map_cons] at hn
  have xQ:=List.nodup_append.mp hn;simp only[List.length_cons] at hz
  refine Rn.le (av (n:=88) (a:=ForInStep.yield PUnit.unit) (s₁:={s with heap:=cV s.heap d (bN (es++[⟨hashInt k,.int k s.toks,.str x (s.toks+1)⟩]) (n+1)),toks:=s.toks+3}) (q₁:=pos) ?_ (m:=90*L.length) ?_) (by simp only[List.length_cons];exact ł)
  ·refine av (n:=1) (m:=87) (hP.key s q) ?_
   refine av (n:=2) (m:=85) (b7 (hP.val {s with toks:=s.toks+1} q)) ?_
   refine av (n:=85) (m:=0) (a:=()) (b7 (yF (s:={s with toks:=s.toks+1+1}) (d:=d) (es:=es) (n:=n) ho (fun e he=> ?_) hd (IZ hz))) ?_
   ·exact xQ.2.2 _ (List.mem_map_of_mem he) _ (.head _)
   ·have:s.heap.update d (Obj.mapDictKeys fun Pj=>Pj.push ⟨hashInt k,.int k s.toks,.str x (s.toks+1)⟩)=cV s.heap d (bN (es++[⟨hashInt k,.int k s.toks,.str x (s.toks+1)⟩]) (n+1)):=by
     rw[gp ho];congr 1;show (⟨_,_,Data.dict (es.toArray.push _) (n+1),_⟩:Obj)=_;rw[List.push_toArray]
    show Rn _ _ _ _ _ _ _ _ _ {s with heap:=s.heap.update d _,toks:=s.toks+1+1+1} _ _ _ _;rw[this];exact aW
  ·have:=ih (s:={s with heap:=cV s.heap d (bN (es++[⟨hashInt k,.int k s.toks,.str x (s.toks+1)⟩]) (n+1)),toks:=s.toks+3}) (q:=pos) (es:=es++[⟨hashInt k,.int k s.toks,.str x (s.toks+1)⟩]) (n:=n+1) (mE ho rfl) hd (by simp;exact I0 hz) (by simpa using hn)
   have e:({s with heap:=cV (cV s.heap d (bN (es++[⟨hashInt k,.int k s.toks,.str x (s.toks+1)⟩]) (n+1))) d (bN (es++[⟨hashInt k,.int k s.toks,.str x (s.toks+1)⟩]++aY 3 (s.toks+3) L) (n+1+L.length)),toks:=s.toks+3+3*L.length}:Shared)=
     {s with heap:=cV s.heap d (bN (es++aY 3 s.toks ((k,x)::L)) (n+((k,x)::L).length)),toks:=s.toks+3*((k,x)::L).length}:=by
    rw[j8];have e1:es++[⟨hashInt k,.int k s.toks,.str x (s.toks+1)⟩]++aY 3 (s.toks+3) L=es++aY 3 s.toks ((k,x)::L):=by simp[aY]
    have e2:n+1+L.length=n+((k,x)::L).length:=by simp;exact xq
    have e3:s.toks+3+3*L.length=s.toks+3*((k,x)::L).length:=by simp;exact Zr
    rw[e1,e2,e3]
   dsimp only at this
   rw[e] at this
   have hq:(if L.isEmpty=true then pos else pos)=(if ((k,x)::L).isEmpty=true then q else pos):=by simp
   rw[hq] at this
   exact this
theorem lU {Ps:List (Sem Value×Sem Value)}{L:List (Int×Str)}(h:bP p w n₀ ann q₀ c pos Ps L) (hl:15<Ps.length) (hd:n₀≤s.heap.objs.size) (hz:L.length≤100000) (hn:(L.map fun d=>hashInt d.1).Nodup):
  Rn treeTable p w n₀ ann q₀ c (90*L.length+2) (subDict Ps) s q s.heap.objs.size {s with heap:=s.heap.push (bN (aY 3 s.toks L) L.length),toks:=s.toks+3*L.length} pos:=by
 unfold subDict;refine Rn.le (av (n:=1) (m:=1+90*L.length+0) rC ?_) Ŋ;refine av (m:=0) (a:=PUnit.unit) (b7 ?_) aW;rw[if_neg (Ĝ hl)];refine av (n:=1) vn ?_
 have:=Dq h (s:={s with heap:=s.heap.push {cls:=.type "dict",data:=.dict #[]}}) (q:=q) (d:=s.heap.objs.size) (es:=[]) (n:=0) (Heap.get?_push_size _ rfl) hd (by simpa using hz) (by simpa using hn)
 dsimp only at this
 rw[lN] at this
 have hq:(if L.isEmpty=true then q else pos)=pos:=by
  have:=h.length
  cases L with
  | nil=>simp at this;subst this;simp at hl
  | cons _ _=>rfl
 rw[hq] at this
 simpa using this
theorem yG {Ps:List (Sem Value×Sem Value)}{L:List (Int×Str)}(h:bP p w n₀ ann q₀ c pos Ps L): ∀{s:Shared}{q:Pos},∃vs,(∀e,vs=e→True)∧Rn treeTable p w n₀ ann q₀ c (3*L.length) (evalPairs Ps) s q vs {s with toks:=s.toks+2*L.length} (if L.isEmpty then q else pos)∧vs=(aY 2 s.toks L).map fun e=>(e.key,e.val):=by
 induction h with
 | nil=>intro s q;exact⟨[],fun U U=>trivial,aW,rfl⟩
 | @cons P dd Ps L hP hr ih=>
  intro s q;obtain⟨k,x⟩:=dd;refine oB2 (ih (s:={s with toks:=s.toks+2}) (q:=pos)) fun U hv=> ?_
  refine⟨_,fun U U=>trivial,?_,rfl⟩;unfold evalPairs;refine Rn.le (av (n:=1) (hP.key s q) (av (n:=2) (b7 (hP.val {s with toks:=s.toks+1} q)) (m:=3*L.length+0) ?_)) (by simp only[List.length_cons];exact ŉ);have hq:(if L.isEmpty=true then pos else pos)=(if ((k,x)::L).isEmpty=true then q else pos):=by simp
  rw[hq] at hv
  have e3:s.toks+2+2*L.length=s.toks+2*((k,x)::L).length:=by simp;exact Zt
  dsimp only at hv
  rw[e3] at hv
  exact av (b7 hv) aW
theorem nE {d:Addr}: ∀(L:List (Int×Str)) {t:Nat}{s:Shared}{q:Pos}{es:List DictEntry}{n:Nat},s.heap.get? d=some (bN es n)→n₀≤d→es.length+L.length≤100000→(es.map (·.hash)++L.map fun d=>hashInt d.1).Nodup→
  Rn treeTable p w n₀ ann q₀ c (90*L.length) (forIn ((aY 2 t L).map fun e=>(e.key,e.val)) PUnit.unit fun (x:Value×Value) (_:PUnit)=>(do dictSet d x.1 x.2;pure (ForInStep.yield PUnit.unit):Sem (ForInStep PUnit))) s q PUnit.unit
   {s with heap:=cV s.heap d (bN (es++aY 2 t L) (n+L.length)),toks:=s.toks+L.length} q
 | [],t,s,q,es,n,ho,hd,hz,hn=>by
  have e:{s with heap:=cV s.heap d (bN (es++aY 2 t []) (n+([]:List (Int×Str)).length)),toks:=s.toks+([]:List (Int×Str)).length}=s:=by
   have:es++aY 2 t []=es:=by simp[aY]
   rw[this];show ({s with heap:=cV s.heap d (bN es n),toks:=s.toks}:Shared)=s;rw[j9 ho]
  rw[e];show Rn _ _ _ _ _ _ _ _ (forIn [] _ _) _ _ _ _ _;rw[List.forIn_nil];exact aW
 | (k,x)::L,t,s,q,es,n,ho,hd,hz,hn=>by
  show Rn _ _ _ _ _ _ _ _ (forIn (_::_) _ _) _ _ _ _ _;rw[List.forIn_cons];rw[List.map_cons] at hn
  have xQ:=List.nodup_append.mp hn;simp only[List.length_cons] at hz
  refine Rn.le (av (n:=85) (m:=90*L.length) (a:=ForInStep.yield PUnit.unit) (s₁:={s with heap:=cV s.heap d (bN (es++[⟨hashInt k,.int k t,.str x (t+1)⟩]) (n+1)),toks:=s.toks+1}) (q₁:=q) ?_ ?_) (by simp only[List.length_cons];exact Ń)
  ·refine av (n:=85) (m:=0) (a:=()) (yF (d:=d) (es:=es) (n:=n) ho (fun e he=> ?_) hd (IZ hz)) ?_
   ·exact xQ.2.2 _ (List.mem_map_of_mem he) _ (.head _)
   ·have:s.heap.update d (Obj.mapDictKeys fun Pj=>Pj.push ⟨hashInt k,.int k t,.str x (t+1)⟩)=cV s.heap d (bN (es++[⟨hashInt k,.int k t,.str x (t+1)⟩]) (n+1)):=by
     rw[gp ho];congr 1;show (⟨_,_,Data.dict (es.toArray.push _) (n+1),_⟩:Obj)=_;rw[List.push_toArray]
    rw[this];exact aW
  ·have:=nE L (t:=t+2) (s:={s with heap:=cV s.heap d (bN (es++[⟨hashInt k,.int k t,.str x (t+1)⟩]) (n+1)),toks:=s.toks+1}) (q:=q) (es:=es++[⟨hashInt k,.int k t,.str x (t+1)⟩]) (n:=n+1) (mE ho rfl) hd (by simp;exact I0 hz) (by simpa using hn)
   dsimp only at this
   have e:({s with heap:=cV (cV s.heap d (bN (es++[⟨hashInt k,.int k t,.str x (t+1)⟩]) (n+1))) d (bN (es++[⟨hashInt k,.int k t,.str x (t+1)⟩]++aY 2 (t+2) L) (n+1+L.length)),toks:=s.toks+1+L.length}:Shared)=
     {s with heap:=cV s.heap d (bN (es++aY 2 t ((k,x)::L)) (n+((k,x)::L).length)),toks:=s.toks+((k,x)::L).length}:=by
    rw[j8];have e1:es++[⟨hashInt k,.int k t,.str x (t+1)⟩]++aY 2 (t+2) L=es++aY 2 t ((k,x)::L):=by simp[aY]
    have e2:n+1+L.length=n+((k,x)::L).length:=by simp;exact xq
    have e3:s.toks+1+L.length=s.toks+((k,x)::L).length:=by simp;exact xq
    rw[e1,e2,e3]
   rw[e] at this
   exact this
theorem rz {Ps:List (Sem Value×Sem Value)}{L:List (Int×Str)}(h:bP p w n₀ ann q₀ c pos Ps L) (hl:Ps.length≤15) (h0:L≠[]) (hd:n₀≤s.heap.objs.size) (hn:(L.map fun d=>hashInt d.1).Nodup):
  Rn treeTable p w n₀ ann q₀ c (100*L.length+2) (subDict Ps) s q s.heap.objs.size {s with heap:=s.heap.push (bN (aY 2 s.toks L) L.length),toks:=s.toks+3*L.length} pos:=by
 unfold subDict;refine Rn.le (av (n:=1) (m:=3*L.length+90*L.length+0) rC ?_) ŋ;refine av (m:=0) (a:=PUnit.unit) (b7 ?_) aW;rw[if_pos hl];refine oB2 (yG h (s:={s with heap:=s.heap.push {cls:=.type "dict",data:=.dict #[]}}) (q:=q)) fun U hv=> ?_
 have hq:(if L.isEmpty=true then q else pos)=pos:=by cases L with | nil=>exact absurd rfl h0 | cons _ _=>rfl
 rw[hq] at hv
 refine av hv (b7 ?_)
 have:=nE L (t:=s.toks) (s:={s with heap:=s.heap.push {cls:=.type "dict",data:=.dict #[]},toks:=s.toks+2*L.length}) (q:=pos) (d:=s.heap.objs.size) (es:=[]) (n:=0) (p:=p) (w:=w) (n₀:=n₀) (ann:=ann) (q₀:=q₀) (c:=c) (Heap.get?_push_size _ rfl) hd (by have:=h.length;simp;exact WR hl this) (by simpa using hn)
 dsimp only at this
 rw[lN] at this
 have e3:s.toks+2*L.length+L.length=s.toks+3*L.length:=Zz;rw[e3] at this
 simpa using this
end
section
variable {p:Program}{w:World}{n₀:Nat}{ann:Option Value}{q₀:Pos}{c:Code}{α β:Type}{s s₁ au s':Shared}{q q₁ dg q' pos:Pos}
theorem ry {a:Addr}{es:List DictEntry}{n:Nat}(ho:s.heap.get? a=some (bN es n)):Rn treeTable p w n₀ ann q₀ c 1 (typeOf (.ref a)) s q (.type "dict") s q:=av (n:=1) (m:=0) (fB ho) aW
theorem Dm:Rn treeTable p w n₀ ann q₀ c 30 (isSubtype (.type "dict") (.type "dict")) s q true s q:=
 lV (res:=fun b=>match b with | true=>.next | false=>.brk) (n:=30) (f:=.next) (fun gd lv=>by
  rw[show @isSubtype=PySem.W.Fast.tw16098473122060591676 from PySem.W.Fast.te16098473122060591676,vj,jn]
  kernel_rfl) (fun b hb=>by cases b with | true=>rfl | false=>cases hb)
theorem yI:Rn treeTable p w n₀ ann q₀ c 30 (typeLookup (.type "dict") "__iter__") s q (some (.builtin "dict.__iter__")) s q:=
 lV (res:=fun h=>match h with | some v=>.ret v | none=>.brk) (n:=30) (f:=.ret (.builtin "dict.__iter__")) (fun gd lv=>by
  rw[show @typeLookup=PySem.W.Fast.tw1381439984260040727 from PySem.W.Fast.te1381439984260040727,vj,jn]
  kernel_rfl) (fun b hb=>by cases b with | none=>cases hb | some v=>cases hb;rfl)
noncomputable def Fo (es:List DictEntry):Prop:= ∀e∈es,∃k t,e.key= .int k t
theorem kr (st:Nat): ∀(L:List (Int×Str)) (t:Nat),Fo (aY st t L)
 | [],_=>fun e he=>by cases he
 | (k,x)::r,t=>fun e he=>by
  rcases List.mem_cons.mp he with rfl | he
  ·exact⟨k,t,rfl⟩
  ·exact kr st r _ e he
theorem ju {d a:Addr}{S:List DictEntry}{m:Nat}(hi:Fo S) (dm:a≠d) (hd:n₀≤d)
  (f:Nat→PUnit→Sem (ForInStep PUnit)) (hf: ∀(i:Nat) (e:DictEntry) (s:Shared) (q:Pos) (es:List DictEntry) (n:Nat),S[i]? =some e→s.heap.get? d=some (bN es n)→s.heap.get? a=some (bN S m)→(∀e'∈es,e'.hash≠e.hash)→es.length+1≤100000→
   Rn treeTable p w n₀ ann q₀ c 6 (f i PUnit.unit) s q (.yield PUnit.unit) {s with heap:=cV s.heap d (bN (es++[e]) (n+1))} q):
  ∀(j i:Nat) (s:Shared) (es:List DictEntry) (n:Nat),i+j=S.length→s.heap.get? d=some (bN es n)→s.heap.get? a=some (bN S m)→es.length+j≤100000→(es.map (·.hash)++(S.drop i).map (·.hash)).Nodup→
   Rn treeTable p w n₀ ann q₀ c (6*j) (forIn (List.range' i j) PUnit.unit f) s q PUnit.unit {s with heap:=cV s.heap d (bN (es++S.drop i) (n+j))} q
 | 0,i,s,es,n,hl,ho,ha,hz,hn=>by
  have e:S.drop i=[]:=List.drop_of_length_le (YG hl);rw[List.range'_zero,List.forIn_nil,e,List.append_nil]
  have:({s with heap:=cV s.heap d (bN es (n+0))}:Shared)=s:=by
   rw[Nat.add_zero,j9 ho]
  rw[this];exact aW
 | j+1,i,s,es,n,hl,ho,ha,hz,hn=>by
  have jC:i<S.length:=VW hl;have tC:S.drop i=S[i]::S.drop (i+1):=List.drop_eq_getElem_cons jC;rw[tC,List.map_cons] at hn
  have xQ:=List.nodup_append.mp hn;rw[List.range'_succ,List.forIn_cons];refine Rn.le (av (n:=6) (m:=6*j) (hf i S[i] s q es n (List.getElem?_eq_getElem jC) ho ha (fun e' he=>xQ.2.2 _ (List.mem_map_of_mem he) _ (.head _)) (IZ hz)) ?_) ń
  have:=ju hi dm hd f hf j (i+1) {s with heap:=cV s.heap d (bN (es++[S[i]]) (n+1))} (es++[S[i]]) (n+1) (V0 hl) (mE ho rfl) (by rw[kL dm];exact ha) (by simp;exact I0 hz) (by simpa using hn)
  dsimp only at this
  rw[j8] at this
  rw[tC];have e1:es++[S[i]]++S.drop (i+1)=es++S[i]::S.drop (i+1):=by simp
  have e2:n+1+j=n+(j+1):=xq;rw[e1,e2] at this
  exact this
theorem yH {d a:Addr}{S es:List DictEntry}{m n:Nat}(hi:Fo S) (dm:a≠d) (hd:n₀≤d) (ho:s.heap.get? d=some (bN es n)) (ha:s.heap.get? a=some (bN S m)) (hs:(a==sysModules)=false) (h0:es≠[]) (hz:es.length+S.length≤100000) (hn:(es.map (·.hash)++S.map (·.hash)).Nodup):
  Rn treeTable p w n₀ ann q₀ c (70+6*S.length) (mergeMapping d (.ref a) false) s q () {s with heap:=cV s.heap d (bN (es++S) (n+S.length))} q:=by
 unfold mergeMapping isInstance specialOf;refine Rn.le (av (n:=1+30) (m:=1+30+(0+(1+(1+(1+(6*S.length+0)))))) (a:=true) (av (ry ha) Dm) ?_) Š;rw[if_pos rfl];refine av (av (ry ha) yI) ?_
 rw[beq_self_eq_true];refine av aW ?_
 dsimp only
 rw[hs,if_neg dC];refine av (g6 ho) ?_
 rw[if_neg (by cases es with | nil=>exact absurd rfl h0 | cons _ _=>simp)];refine av (g6 ha) ?_
 refine av (rB ha) ?_
 have e:List.range S.toArray.size=List.range' 0 S.length:=by rw[List.range_eq_range'];simp
 rw[e];rw[show es++S=es++S.drop 0 by simp];refine av (ju hi dm hd _ (fun i e s q es n hS ho ha hh hz=> ?_) S.length 0 s es n Ő ho ha hz (by simpa using hn)) aW
 ·refine av (n:=1) (m:=5) (g6 ha) ?_
  have:S.toArray[i]? =some e:=by simpa using hS
  rw[this];dsimp only;refine K3 (hi e (List.mem_of_getElem? hS)) fun k t hk=> ?_
  obtain⟨h,key,v⟩:=e;dsimp only at hk hh
  subst hk;refine av (n:=4) (m:=1+0) (a:=()) (b7 (by rw[if_neg dC];exact G9 ho hh hd (Ĺ hz))) ?_
  have e2:s.heap.update d (Obj.mapDictKeys fun x=>x.push ⟨h,.int k t,v⟩)=cV s.heap d (bN (es++[⟨h,.int k t,v⟩]) (n+1)):=by
   rw[gp ho];congr 1;show (⟨_,_,Data.dict (es.toArray.push _) (n+1),_⟩:Obj)=_;rw[List.push_toArray]
  rw[e2];refine av (rB (es:=S) (n:=m) (by show (cV s.heap d _).get? a=_;rw[kL dm];exact ha)) ?_
  rw[if_neg (by simp)];exact aW
end
noncomputable def fC (h:Heap) (os:List Obj):Heap:=os.foldl Heap.push h
theorem uf (h:Heap) (os:List Obj) (o:Obj):fC h (os++[o])=(fC h os).push o:=by unfold fC;rw[List.foldl_append];rfl
theorem size_push (h:Heap) (o:Obj):(h.push o).objs.size=h.objs.size+1:=Heap.size_push h o
theorem lL (os:List Obj): ∀(h:Heap),(fC h os).objs.size=h.objs.size+os.length:=by
 induction os with
 | nil=>intro h;rfl
 | cons o os ih=>intro h;show (fC (h.push o) os).objs.size=_;rw[ih,size_push];simp;exact xq
theorem wY {os:List Obj}: ∀{h:Heap}{a:Addr}{o:Obj},h.get? a=some o→(fC h os).get? a=some o:=by
 induction os with
 | nil=>intro h a o e;exact e
 | cons x os ih=>intro h a o e;exact ih (Heap.get?_push_of_some _ e)
theorem tZ {os:List Obj}: ∀{h:Heap}{d:Addr}{o:Obj},d<h.objs.size→cV (fC h os) d o=fC (cV h d o) os:=by
 induction os with
 | nil=>intro h d o _;rfl
 | cons x os ih=>
  intro h d o hd;show cV (fC (h.push x) os) d o=fC ((cV h d o).push x) os;rw[ih (by rw[size_push];exact Nat.lt_succ_of_lt hd),nA (h:=h) (d:=d) (Nat.ne_of_lt hd)]
def jY (s:Shared) (h:Heap) (E:List DictEntry) (n:Nat) (subs:List Obj) (t:Nat):Shared:={s with heap:=fC (h.push (bN E n)) subs,toks:=t}
theorem yr {s:Shared}{h:Heap}{E:List DictEntry}{n:Nat}{subs:List Obj}{t:Nat}:(jY s h E n subs t).heap.get? h.objs.size=some (bN E n):=wY (Heap.get?_push_size _ rfl)
theorem lJ {s:Shared}{h:Heap}{E:List DictEntry}{n:Nat}{subs:List Obj}{t:Nat}:(jY s h E n subs t).heap.objs.size=h.objs.size+1+subs.length:=by
 show (fC _ _).objs.size=_;rw[lL,size_push]
noncomputable def jd (run:List (Sem Value×Sem Value)) (m:Option Addr):Sem (Option Addr):=
 if run.isEmpty then pure m else match m with
  | none=>do let d ←subDict run;pure (some d)
  | some d=>do
   let sub ←holding [.ref d] (subDict run)
   (holding [.ref d,.ref sub] (mergeMapping d (.ref sub) false)).onRaise fun x=>do let _ ←holding [.ref d,x] (runValue (.builtin "proto.let_go" {}));pure ()
   pure (some d)
noncomputable abbrev og:=Option (Sem Value)×Sem Value→Option Addr×List (Sem Value×Sem Value)→Sem (ForInStep (Option Addr×List (Sem Value×Sem Value)))
structure mM (f:og):Prop where
 low: ∀(P:Sem Value×Sem Value) (m:Option Addr) (run:List (Sem Value×Sem Value)),run.length+1<17→f (some P.1,P.2) (m,run)=pure (.yield (m,run++[P]))
 full: ∀(P:Sem Value×Sem Value) (m:Option Addr) (run:List (Sem Value×Sem Value)),run.length+1=17→f (some P.1,P.2) (m,run)=(do let m' ←jd (run++[P]) m;pure (.yield (m',[])))
noncomputable abbrev vi (Ps:List (Sem Value×Sem Value)):List (Option (Sem Value)×Sem Value):=Ps.map fun P=>(some P.1,P.2)
theorem gather {f:og}(F:mM f): ∀(Ps:List (Sem Value×Sem Value)) (m:Option Addr) (run:List (Sem Value×Sem Value)),run.length+Ps.length<17→forIn (vi Ps) (m,run) f=pure (m,run++Ps)
 | [],m,run,_=>by simp
 | P::Ps,m,run,h=>by
  simp only[List.length_cons] at h
  show forIn ((some P.1,P.2)::vi Ps) (m,run) f=_;rw[List.forIn_cons,F.low P m run (Y1 h),pure_bind]
  have:=gather F Ps m (run++[P]) (by simp;exact Y2 h)
  simpa using this
theorem sg {f:og}(F:mM f) (R:List (Sem Value×Sem Value)): ∀(Ps:List (Sem Value×Sem Value)) (P:Sem Value×Sem Value) (m:Option Addr) (run:List (Sem Value×Sem Value)),run.length+Ps.length+1=17→
  forIn (vi (Ps++P::R)) (m,run) f=(do let m' ←jd (run++Ps++[P]) m;forIn (vi R) (m',([]:List (Sem Value×Sem Value))) f)
 | [],P,m,run,h=>by
  show forIn ((some P.1,P.2)::vi R) (m,run) f=_;rw[List.forIn_cons,F.full P m run (by simpa using h)];simp
 | A::Ps,P,m,run,h=>by
  simp only[List.length_cons] at h
  show forIn ((some A.1,A.2)::vi (Ps++P::R)) (m,run) f=_;rw[List.forIn_cons,F.low A m run (Zx h),pure_bind]
  have:=sg F R Ps P m (run++[A]) (by simp;exact Zy h)
  simpa using this
theorem vO {f:og}(F:mM f) {A R:List (Sem Value×Sem Value)}{m:Option Addr}(h:A.length=17):forIn (vi (A++R)) (m,([]:List (Sem Value×Sem Value))) f=(do let m' ←jd A m;forIn (vi R) (m',([]:List (Sem Value×Sem Value))) f):=by
 have dm:A≠[]:=by intro e;rw[e] at h;cases h
 have e:=List.dropLast_concat_getLast dm
 have:=sg F R A.dropLast (A.getLast dm) m [] (by simp[h])
 rw[List.nil_append] at this
 have e2:A.dropLast++A.getLast dm::R=A++R:=by conv=>rhs;rw[←e];simp
 rw[e2] at this
 rw[e] at this
 exact this
section
variable {p:Program}{w:World}{n₀:Nat}{ann:Option Value}{q₀:Pos}{c:Code}{α β:Type}{s s₁ au s':Shared}{q q₁ dg q' pos:Pos}
theorem wm {A:List (Sem Value×Sem Value)}{LA:List (Int×Str)}(h:bP p w n₀ ann q₀ c pos A LA) (hl:A.length=17) (hd:n₀≤s.heap.objs.size) (hn:(LA.map fun d=>hashInt d.1).Nodup):
  Rn treeTable p w n₀ ann q₀ c 1600 (jd A none) s q (some s.heap.objs.size) (jY s s.heap (aY 3 s.toks LA) 17 [] (s.toks+51)) pos:=by
 unfold jd;rw[if_neg (by cases A with | nil=>cases hl | cons _ _=>simp)];have e:=h.length
 have:=lU h (s:=s) (q:=q) (Oq hl) hd (Xg hl e) hn
 rw[←e,hl] at this
 exact Rn.le (av this aW) dC
theorem nG {A:List (Sem Value×Sem Value)}{LA:List (Int×Str)}{h:Heap}{E:List DictEntry}{n:Nat}{subs:List Obj}{t m:Nat}{es:List DictEntry}(dm:A≠[]) (hs:sysModules<h.objs.size) (hd:n₀≤h.objs.size) (h0:E≠[]) (hz:E.length+es.length≤100000)
  (hi:Fo es) (hn:(E.map (·.hash)++es.map (·.hash)).Nodup) {t':Nat}
  (hB:Rn treeTable p w n₀ ann q₀ c m (subDict A) (jY s h E n subs t) q (jY s h E n subs t).heap.objs.size {jY s h E n subs t with heap:=(jY s h E n subs t).heap.push (bN es es.length),toks:=t'} pos):
  Rn treeTable p w n₀ ann q₀ c (m+(70+6*es.length)) (jd A (some h.objs.size)) (jY s h E n subs t) q (some h.objs.size) (jY s h (E++es) (n+es.length) (subs++[bN es es.length]) t') pos:=by
 unfold jd;rw[if_neg (by cases A with | nil=>exact absurd rfl dm | cons _ _=>simp)];refine av (b7 hB) ?_
 have gB:=lJ (s:=s) (h:=h) (E:=E) (n:=n) (subs:=subs) (t:=t);have key:Rn treeTable p w n₀ ann q₀ c (70+6*es.length) (mergeMapping h.objs.size (.ref (jY s h E n subs t).heap.objs.size) false) {jY s h E n subs t with heap:=(jY s h E n subs t).heap.push (bN es es.length),toks:=t'} pos () _ pos:=
  yH (s:={jY s h E n subs t with heap:=(jY s h E n subs t).heap.push (bN es es.length),toks:=t'}) (es:=E) (n:=n) (S:=es) (m:=es.length) hi (by rw[gB];exact Nat.ne_of_gt NK) hd (Heap.get?_push_of_some _ (yr (s:=s) (t:=t))) (Heap.get?_push_size _ rfl) (by rw[gB];exact beq_eq_false_iff_ne.mpr (Nat.ne_of_gt (Nat.lt_of_lt_of_le hs XU))) h0 hz hn
 refine av (m:=0) (uc (b7 key)) ?_
 have e:({s with heap:=cV ((jY s h E n subs t).heap.push (bN es es.length)) h.objs.size (bN (E++es) (n+es.length)),toks:=t'}:Shared)=jY s h (E++es) (n+es.length) (subs++[bN es es.length]) t':=by
  unfold jY;congr 1;dsimp only;rw[uf,nA (h:=fC (h.push (bN E n)) subs) (d:=h.objs.size) (by rw[lL,size_push];exact Nat.ne_of_lt NK),tZ (by rw[size_push];exact Nat.lt_succ_self _),lN]
 show Rn _ _ _ _ _ _ _ _ _ {s with heap:=cV ((jY s h E n subs t).heap.push (bN es es.length)) h.objs.size (bN (E++es) (n+es.length)),toks:=t'} _ _ _ _;rw[e];exact aW
end
def ip:Nat→Nat→List (Int×Str)→List Obj
 | 0,_,_=>[]
 | j+1,t,L=>bN (aY 3 t (L.take 17)) 17::ip j (t+51) (L.drop 17)
theorem ku (st:Nat): ∀(A B:List (Int×Str)) (t:Nat),aY st t (A++B)=aY st t A++aY st (t+st*A.length) B
 | [],B,t=>by simp[aY]
 | (k,x)::A,B,t=>by
  simp only[List.cons_append,aY,ku st A B,List.length_cons]
  have e:t+st+st*A.length=t+st*(A.length+1):=by rw[Nat.mul_add];exact V9
  rw[e]
section
variable {p:Program}{w:World}{n₀:Nat}{ann:Option Value}{q₀:Pos}{c:Code}{α β:Type}{s s₁ au s':Shared}{q q₁ dg q' pos:Pos}
theorem bP.take {Ps:List (Sem Value×Sem Value)}{L:List (Int×Str)}(h:bP p w n₀ ann q₀ c pos Ps L): ∀k,bP p w n₀ ann q₀ c pos (Ps.take k) (L.take k):=by
 induction h with
 | nil=>intro k;simp;exact .nil
 | cons h r ih=>intro k;cases k with | zero=>exact .nil | succ k=>simpa using .cons h (ih k)
theorem bP.drop {Ps:List (Sem Value×Sem Value)}{L:List (Int×Str)}(h:bP p w n₀ ann q₀ c pos Ps L): ∀k,bP p w n₀ ann q₀ c pos (Ps.drop k) (L.drop k):=by
 induction h with
 | nil=>intro k;simp;exact .nil
 | cons h r ih=>intro k;cases k with | zero=>exact .cons h r | succ k=>simpa using ih k
theorem nH {x y:Sem α}{a:α}{n:Nat}(h:Rn treeTable p w n₀ ann q₀ c n x s q a s' q') (e:y=x):Rn treeTable p w n₀ ann q₀ c n y s q a s' q':=e ▸ h
theorem vp {f:og}(F:mM f) {s:Shared}{h:Heap}(hs:sysModules<h.objs.size) (hd:n₀≤h.objs.size) {res:Option Addr×List (Sem Value×Sem Value)}{s':Shared}{q':Pos}{m:Nat}:
  ∀(j:Nat) {Ps:List (Sem Value×Sem Value)}{L:List (Int×Str)}{E:List DictEntry}{n:Nat}{subs:List Obj}{t:Nat}{q:Pos},bP p w n₀ ann q₀ c pos Ps L→17*j≤L.length→E≠[]→E.length+L.length≤100000→(E.map (·.hash)++L.map fun d=>hashInt d.1).Nodup→
  Rn treeTable p w n₀ ann q₀ c m (forIn (vi (Ps.drop (17*j))) (some h.objs.size,([]:List (Sem Value×Sem Value))) f) (jY s h (E++aY 3 t (L.take (17*j))) (n+17*j) (subs++ip j t L) (t+51*j)) (if j=0 then q else pos) res s' q'→
  Rn treeTable p w n₀ ann q₀ c (2000*j+m) (forIn (vi Ps) (some h.objs.size,([]:List (Sem Value×Sem Value))) f) (jY s h E n subs t) q res s' q'
 | 0,Ps,L,E,n,subs,t,q,hp,hl,h0,hz,hn,H=>by simpa [ip,aY] using H
 | j+1,Ps,L,E,n,subs,t,q,hp,hl,h0,hz,hn,H=>by
  have hlen:=hp.length;have hA:(Ps.take 17).length=17:=by rw[List.length_take];exact V2 hl hlen
  have xS:(L.take 17).length=17:=by rw[List.length_take];exact Zc hl
  have e:=vO F (A:=Ps.take 17) (R:=Ps.drop 17) (m:=some h.objs.size) hA;rw[List.take_append_drop] at e
  refine nH ?_ e;have hsplit:L.map (fun d=>hashInt d.1)=(L.take 17).map (fun d=>hashInt d.1)++(L.drop 17).map (fun d=>hashInt d.1):=by rw[←List.map_append,List.take_append_drop]
  have L9:=hn;rw[hsplit,←List.append_assoc] at L9
  have hn3:=(List.nodup_append.mp L9).1;have hB:=lU (hp.take 17) (s:=jY s h E n subs t) (q:=q) (Oq hA) (by rw[lJ];exact M8 hd) (Ā xS) (List.nodup_append.mp hn3).2.1;rw[xS] at hB
  have tB:=nG (A:=Ps.take 17) (LA:=L.take 17) (es:=aY 3 t (L.take 17)) (t':=t+51) (s:=s) (h:=h) (E:=E) (n:=n) (subs:=subs) (t:=t) (q:=q) (pos:=pos) (p:=p) (w:=w) (n₀:=n₀) (ann:=ann) (q₀:=q₀) (c:=c)
   (by intro e;rw[e] at hA;cases hA) hs hd h0 (by rw[b9,xS];exact V3 hl hz) (kr 3 _ _) (by rw[fh];exact hn3) (by rw[b9,xS];exact hB)
  rw[b9,xS] at tB
  refine Rn.le (av tB (m:=2000*j+m) ?_) ZF;refine vp F hs hd j (L:=L.drop 17) (hp.drop 17) (by rw[List.length_drop];exact Zd hl) (by intro e;exact h0 (List.append_eq_nil_iff.mp e).1) (by rw[List.length_append,b9,xS,List.length_drop];exact V1 hl hz) (by rw[List.map_append,fh];exact L9) ?_
  have e1:(Ps.drop 17).drop (17*j)=Ps.drop (17*(j+1)):=by rw[List.drop_drop];congr 1;exact Jj
  have e2:E++aY 3 t (L.take 17)++aY 3 (t+51) ((L.drop 17).take (17*j))=E++aY 3 t (L.take (17*(j+1))):=by
   have:L.take (17*(j+1))=L.take 17++(L.drop 17).take (17*j):=by
    rw[show 17*(j+1)=17+17*j by exact OH,List.take_add]
   rw[this,ku,xS,List.append_assoc]
  have e3:n+17+17*j=n+17*(j+1):=Zu;have e4:subs++[bN (aY 3 t (L.take 17)) 17]++ip j (t+51) (L.drop 17)=subs++ip (j+1) t L:=by simp[ip]
  have e5:t+51+51*j=t+51*(j+1):=N3;have e6:(if j=0 then pos else pos)=(if j+1=0 then q else pos):=by simp
  rw[e1,e2,e3,e4,e5,e6];exact H
def iW (t:Nat) (L:List (Int×Str)) (j:Nat):List DictEntry:=aY 3 t (L.take (17*(j+1)))++aY 2 (t+51*(j+1)) (L.drop (17*(j+1)))
def bF (t:Nat) (L:List (Int×Str)) (j:Nat):List Obj:=ip j (t+51) (L.drop 17)++[bN (aY 2 (t+51*(j+1)) (L.drop (17*(j+1)))) (L.drop (17*(j+1))).length]
theorem w4 (t:Nat) (L:List (Int×Str)) (j:Nat):gz (iW t L j) L:=by
 have:=(kq 3 (L.take (17*(j+1))) t).append (kq 2 (L.drop (17*(j+1))) (t+51*(j+1)))
 rwa [List.take_append_drop] at this
theorem Dp {f:og}(F:mM f) {s:Shared}{Ps:List (Sem Value×Sem Value)}{L:List (Int×Str)}{j:Nat}(hp:bP p w n₀ ann q₀ c pos Ps L) (h1:17*(j+1)<L.length) (h2:L.length≤17*(j+1)+15) (hz:L.length≤100000) (hn:(L.map fun d=>hashInt d.1).Nodup) (hs:sysModules<s.heap.objs.size) (hd:n₀≤s.heap.objs.size):
  Rn treeTable p w n₀ ann q₀ c (2000*(j+1)) (forIn (vi Ps) ((none:Option Addr),([]:List (Sem Value×Sem Value))) f) s q (some s.heap.objs.size,Ps.drop (17*(j+1))) (jY s s.heap (aY 3 s.toks (L.take (17*(j+1)))) (17*(j+1)) (ip j (s.toks+51) (L.drop 17)) (s.toks+51*(j+1))) pos:=by
 have hlen:=hp.length;have hA:(Ps.take 17).length=17:=by rw[List.length_take];exact Nh h1 hlen
 have xS:(L.take 17).length=17:=by rw[List.length_take];exact N0 h1
 have hsplit: ∀k,L.map (fun d=>hashInt d.1)=(L.take k).map (fun d=>hashInt d.1)++(L.drop k).map (fun d=>hashInt d.1):=fun k=>by rw[←List.map_append,List.take_append_drop]
 have RO: ∀k,((L.take k).map (fun d=>hashInt d.1)).Nodup∧((L.drop k).map (fun d=>hashInt d.1)).Nodup:=fun k=>by
  have:=hn;rw[hsplit k] at this
  exact⟨(List.nodup_append.mp this).1,(List.nodup_append.mp this).2.1⟩
 have e:=vO F (A:=Ps.take 17) (R:=Ps.drop 17) (m:=none) hA;rw[List.take_append_drop] at e
 refine nH ?_ e;refine Rn.le (av (wm (hp.take 17) hA hd (RO 17).1) (m:=2000*j+0) ?_) Ň;refine vp F hs hd j (L:=L.drop 17) (Ps:=Ps.drop 17) (hp.drop 17) (by rw[List.length_drop];exact Zg h1) (by intro e;have:=congrArg List.length e;rw[b9,xS] at this;cases this) (by rw[b9,xS,List.length_drop];exact á hz) (by rw[fh,←hsplit];exact hn) ?_
 have e1:(Ps.drop 17).drop (17*j)=Ps.drop (17*(j+1)):=by rw[List.drop_drop];congr 1;exact Jj
 have e2:aY 3 s.toks (L.take 17)++aY 3 (s.toks+51) ((L.drop 17).take (17*j))=aY 3 s.toks (L.take (17*(j+1))):=by
  have:L.take (17*(j+1))=L.take 17++(L.drop 17).take (17*j):=by
   rw[show 17*(j+1)=17+17*j by exact OH,List.take_add]
  rw[this,ku,xS]
 have e3:17+17*j=17*(j+1):=Jj;have e5:s.toks+51+51*j=s.toks+51*(j+1):=N3;rw[e1,e2,e3,e5,List.nil_append,ite_self];have g:=gather F (Ps.drop (17*(j+1))) (some s.heap.objs.size) [] (by rw[List.length_drop];simp;exact Uz h2 hlen);rw[List.nil_append] at g
 exact nH aW g
theorem ud {s:Shared}{Ps:List (Sem Value×Sem Value)}{L:List (Int×Str)}{j:Nat}(hp:bP p w n₀ ann q₀ c pos Ps L) (h1:17*(j+1)<L.length) (h2:L.length≤17*(j+1)+15) (hz:L.length≤100000) (hn:(L.map fun d=>hashInt d.1).Nodup) (hs:sysModules<s.heap.objs.size) (hd:n₀≤s.heap.objs.size):
  Rn treeTable p w n₀ ann q₀ c (2000*(j+2)) (dictDisplay (vi Ps)) s q (.ref s.heap.objs.size) (jY s s.heap (iW s.toks L j) L.length (bF s.toks L j) (s.toks+3*L.length)) pos:=by
 have hlen:=hp.length;have hA:(Ps.take 17).length=17:=by rw[List.length_take];exact Nh h1 hlen
 have xS:(L.take 17).length=17:=by rw[List.length_take];exact N0 h1
 have hsplit: ∀k,L.map (fun d=>hashInt d.1)=(L.take k).map (fun d=>hashInt d.1)++(L.drop k).map (fun d=>hashInt d.1):=fun k=>by rw[←List.map_append,List.take_append_drop]
 have RO: ∀k,((L.take k).map (fun d=>hashInt d.1)).Nodup∧((L.drop k).map (fun d=>hashInt d.1)).Nodup:=fun k=>by
  have:=hn;rw[hsplit k] at this
  exact⟨(List.nodup_append.mp this).1,(List.nodup_append.mp this).2.1⟩
 unfold dictDisplay;dsimp only;refine Rn.le (av (Dp (j:=j) ?_ hp h1 h2 hz hn hs hd) (m:=2000) ?_) ş
 ·refine⟨fun P m run h=> ?_,fun P m run h=> ?_⟩
  ·have dm:((run++[(P.1,P.2)]).length==17)=false:=by simp;exact ļ h
   simp only[dm,Bool.false_eq_true,if_false]
  ·have dm:((run++[(P.1,P.2)]).length==17)=true:=by simp;exact Ļ h
   simp only[dm,if_true]
   rfl
 ·have dm:Ps.drop (17*(j+1))≠[]:=by intro e;have:=congrArg List.length e;rw[List.length_drop] at this;simp at this;exact V4 h1 hlen this
  have RP:L.drop (17*(j+1))≠[]:=by intro e;have:=congrArg List.length e;rw[List.length_drop] at this;simp at this;exact Ze h1 this
  have hB:=rz (hp.drop (17*(j+1))) (s:=jY s s.heap (aY 3 s.toks (L.take (17*(j+1)))) (17*(j+1)) (ip j (s.toks+51) (L.drop 17)) (s.toks+51*(j+1))) (q:=pos) (by rw[List.length_drop];exact Uy h2 hlen) RP (by rw[lJ];exact M8 hd) (RO _).2;have et:(jY s s.heap (aY 3 s.toks (L.take (17*(j+1)))) (17*(j+1)) (ip j (s.toks+51) (L.drop 17)) (s.toks+51*(j+1))).toks=s.toks+51*(j+1):=rfl;rw[et] at hB
  have FY:=b9 2 (L.drop (17*(j+1))) (s.toks+51*(j+1));have tB:=nG (A:=Ps.drop (17*(j+1))) (es:=aY 2 (s.toks+51*(j+1)) (L.drop (17*(j+1)))) (t':=s.toks+51*(j+1)+3*(L.drop (17*(j+1))).length) (s:=s) (h:=s.heap) (E:=aY 3 s.toks (L.take (17*(j+1)))) (n:=17*(j+1)) (subs:=ip j (s.toks+51) (L.drop 17)) (t:=s.toks+51*(j+1)) (q:=pos) (pos:=pos) (p:=p) (w:=w) (n₀:=n₀) (ann:=ann) (q₀:=q₀) (c:=c) (LA:=[])
   dm hs hd (by intro e;have:=congrArg List.length e;rw[b9,List.length_take,List.length_nil] at this;exact Zf h1 this) (by rw[b9,FY,List.length_take,List.length_drop];exact WX hz) (kr 2 _ _) (by rw[fh,fh,←hsplit];exact hn) (by rw[FY];exact hB)
  rw[FY] at tB
  have e3:17*(j+1)+(L.drop (17*(j+1))).length=L.length:=by rw[List.length_drop];exact Zh h1
  have e4:s.toks+51*(j+1)+3*(L.drop (17*(j+1))).length=s.toks+3*L.length:=by rw[List.length_drop];exact Uh e3
  rw[e3,e4] at tB
  exact Rn.le (av tB aW) (by rw[List.length_drop];exact XW h2)
end
noncomputable def GV:List (Option Expr)→List Expr→List (Int×Nat×Pos×Str×Nat×Pos)
 | some (.Constant (.int k) a b)::ks,.Constant (.str s) d e::vs=>(k,a,b,s,d,e)::GV ks vs
 | _,_=>[]
noncomputable def wg (l:List (Int×Nat×Pos×Str×Nat×Pos)):List (Option Expr)×List Expr×List (Int×Str):=(l.map fun x=>some (.Constant (.int x.1) x.2.1 x.2.2.1),l.map fun x=>.Constant (.str x.2.2.2.1) x.2.2.2.2.1 x.2.2.2.2.2,l.map fun x=>(x.1,x.2.2.2.1))
inductive xH:List (Option Expr)→List Expr→List (Int×Str)→Prop
 | nil:xH [] [] []
 | cons (k:Int) (a:Nat) (b:Pos) (s:Str) (d:Nat) (e:Pos) {ks vs L} (h:xH ks vs L):xH (some (.Constant (.int k) a b)::ks) (.Constant (.str s) d e::vs) ((k,s)::L)
theorem GU (D):xH (wg D).1 (wg D).2.1 (wg D).2.2:=by
 induction D with
 | nil=>exact .nil
 | cons x D ih=>exact .cons x.1 x.2.1 x.2.2.1 x.2.2.2.1 x.2.2.2.2.1 x.2.2.2.2.2 ih
theorem C4 {D} (ks:List (Option Expr)) (vs:List Expr) (L) (h:wg D=(ks,vs,L)):xH ks vs L:=by
 have t:=GU D;rw[h] at t
 exact t
section
variable {p:Program}{w:World}{n₀:Nat}{ann:Option Value}{q₀:Pos}{c:Code}{α β:Type}{s s₁ au s':Shared}{q q₁ dg q' pos:Pos}
theorem yQ {env:Env}{ks:List (Option Expr)}{vs:List Expr}{L:List (Int×Str)}(h:xH ks vs L):
  ∃Ps,(evalEachOpt ks env).zip ((evalEach vs env).map fun v=>(do let x ←v;standAt pos;pure x:Sem Value))=vi Ps∧bP p w n₀ ann q₀ c pos Ps L:=by
 induction h with
 | nil=>exact⟨[],rfl,.nil⟩
 | @cons k a b x d e ks vs L h ih=>
  refine aF ih fun Ps e hp=> ?_
  refine⟨(mkInt k,do let y ←mkText x;standAt pos;pure y)::Ps,?_,.cons ⟨fun s q=> ?_,fun s q=> ?_⟩ hp⟩
  ·show (some (mkInt k),_)::((evalEachOpt ks env).zip ((evalEach vs env).map fun v=>(do let x ←v;standAt pos;pure x:Sem Value)))=(some (mkInt k),_)::vi Ps;rw[e];rfl
  ·exact av (n:=1) (m:=0) rA aW
  ·exact av (n:=1) (m:=1) (av (n:=1) (m:=0) rA aW) (av (n:=1) (m:=0) vr aW)
theorem yE {x:Str}{xp dp ap:Pos}{ks:List (Option Expr)}{vs:List Expr}{env:Env}{L:List (Int×Str)}{j m:Nat}{au:Shared}{dg:Pos}(hL:wg (GV ks vs)=(ks,vs,L)) (h1:17*(j+1)<L.length) (h2:L.length≤17*(j+1)+15) (hz:L.length≤100000) (hn:(L.map fun d=>hashInt d.1).Nodup) (hs:sysModules<s.heap.objs.size) (hd:n₀≤s.heap.objs.size)
  (hw:swapsWith (.Dict ks vs dp) (some (.Name x xp)) ap.line env=pure false)
  (hb:Rn treeTable p w n₀ ann q₀ c m (bindName env x (.ref s.heap.objs.size)) (jY s s.heap (iW s.toks L j) L.length (bF s.toks L j) (s.toks+3*L.length)) xp () au dg):
  Rn treeTable p w n₀ ann q₀ c (2000*(j+2)+m+3) (exec (.Assign [.Name x xp] (.Dict ks vs dp) ap) env) s q .next au dg:=by
 refine aF (yQ (pos:=dp) (p:=p) (w:=w) (n₀:=n₀) (ann:=ann) (q₀:=q₀) (c:=c) (env:=env) (C4 ks vs L hL)) fun Ps e hp=> ?_
 refine nH ?_ (exec_Assign_Name env x xp (.Dict ks vs dp) ap hw);have Ms:=ud (s:=s) (q:=dp) (j:=j) hp h1 h2 hz hn hs hd;refine Rn.le (av (n:=1) vr (av (n:=1+2000*(j+2)) (q₁:=dp) (a:=.ref s.heap.objs.size) ?_ (av (n:=1) vr (av hb aW)))) Zi;refine nH ?_ (arm_eval_Dict ks vs dp env);refine av (n:=1) vr ?_
 exact nH Ms (by rw[e])
end
theorem ug (h:Heap) (o:Obj) (os:List Obj):fC h (o::os)=fC (h.push o) os:=rfl
noncomputable def D0:BT→Nat→List Obj→BT
 | t,_,[]=>t
 | t,n,o::os=>D0 (t.ins n o) (n+1) os
noncomputable def vD:BT→Nat→List Obj→Bool
 | _,_,[]=>true
 | t,n,o::os=>((t.ins n o).get n).isSome&&vD (t.ins n o) (n+1) os
theorem nK {life:Life}: ∀(os:List Obj) (t:BT) (n:Nat),vD t n os=true→fC (absHeap t n life) os=absHeap (D0 t n os) (n+os.length) life
 | [],t,n,_=>rfl
 | o::os,t,n,h=>by
  unfold vD at h
  refine bo (Bool.and_eq_true_iff.mp h) fun h1 h2=> ?_
  show fC ((absHeap t n life).push o) os=absHeap (D0 (t.ins n o) (n+1) os) (n+(os.length+1)) life;rw[←absHeap_ins h1,nK os _ _ h2];congr 1;exact xq
noncomputable def lZ:List Int→Bool
 | a::b::r=>decide (a<b)&&lZ (b::r)
 | _=>true
theorem rD: ∀(l:List Int) (a:Int),lZ (a::l)=true→ ∀x∈l,a<x
 | [],_,_,x,hx=>by cases hx
 | b::r,a,h,x,hx=>by
  unfold lZ at h
  refine bo (Bool.and_eq_true_iff.mp h) fun h1 h2=> ?_
  have h1:=of_decide_eq_true h1;rcases List.mem_cons.mp hx with rfl | hx
  ·exact h1
  ·exact Int.lt_trans h1 (rD r b h2 x hx)
theorem kG: ∀(l:List Int),lZ l=true→l.Nodup
 | [],_=>.nil
 | [a],_=>by simp
 | a::b::r,h=>by
  rw[List.nodup_cons];have h2:lZ (b::r)=true:=by unfold lZ at h;exact(Bool.and_eq_true_iff.mp h).2
  exact⟨fun hm=>Int.lt_irrefl _ (rD _ _ h a hm),kG _ h2⟩
noncomputable abbrev eW:=PySem.W.Fast.tw10110043849684766642
noncomputable abbrev yB:=PySem.W.Fast.tw14374325043358763698
noncomputable abbrev fK:=PySem.W.Fast.tw14364793385576792824
noncomputable abbrev tE:=PySem.W.Fast.tw12563942051412417395
noncomputable abbrev Ss:=PySem.W.Fast.tw15667345088766844465
noncomputable abbrev G7:=PySem.W.Fast.tw14082659384304107361
noncomputable abbrev Ic:=PySem.W.Fast.tw11892475500146522536
noncomputable abbrev z8:=PySem.W.Fast.tw7536695828754713326
theorem yA: @segRunT= @eW:=PySem.W.Fast.te10110043849684766642
theorem G5: @segRun= @yB:=PySem.W.Fast.te14374325043358763698
theorem SG: @execs= @tE:=PySem.W.Fast.te12563942051412417395
theorem Sr: @topGo= @Ss:=PySem.W.Fast.te15667345088766844465
theorem KX: @topRun= @G7:=PySem.W.Fast.te14082659384304107361
theorem ML: @denote= @Ic:=PySem.W.Fast.te11892475500146522536
theorem Iw: @bindName= @z8:=PySem.W.Fast.te7536695828754713326
section
variable {p:Program}{w:World}{n₀ n N:Nat}{ann:Option Value}{q:Pos}{c:Code}{env:Env}{S S':SharedT}{s s' r:Shared}{l rest:List Stmt}{pos pos':Pos}
theorem eX (h:eW fK p w n₀ ann 1 n S ⟨(tE l env).wrap doneF deadEnd id id,c,pos,[topFrame q]⟩=some (.next,S',c,pos')) (k:topRun treeTable p w n₀ ann N S'.abs (restOf rest env c pos' [topFrame q])=some r):
  topRun treeTable p w n₀ ann (n+N) S.abs (restOf (l++rest) env c pos [topFrame q])=some r:=
 piece_app (segRun_of (by rw[yA,jn];unfold piecesOf;rw[SG];exact h)) k
theorem we {b:List Stmt}(h:yB fK p w n₀ ann 1 n s (blockOf b env c pos [topFrame q])=some (.next,s',c,pos')) (k:topRun treeTable p w n₀ ann N s' (restOf b env c pos' [topFrame q])=some r):
  topRun treeTable p w n₀ ann (n+N) s ⟨denote treeTable (.body b env),c,pos,[topFrame q]⟩=some r:=
 piece_block (by rw[G5,jn];exact h) k
theorem C1 {t:Thread}(h:Ss fK p w n₀ ann n s t=some (s',⟨Ic fK c,c,pos,[topFrame q]⟩)) (k:topRun treeTable p w n₀ ann N s' ⟨denote treeTable c,c,pos,[topFrame q]⟩=some r):topRun treeTable p w n₀ ann (n+N) s t=some r:=
 go_top (by rw[Sr,jn,h,ML]) k
theorem C2 {t:Thread}(h:G7 fK p w n₀ ann n s t=some r):topRun treeTable p w n₀ ann n s t=some r:=by rw[KX,jn];exact h
theorem yJ {x:Str}{v:Value}(h: ∀gd lv,eW fK p w n₀ ann 1 n S ⟨(z8 env x v).wrap (fun U=>.pure (.done .next)) deadEnd gd lv,c,pos,[topFrame q]⟩=some (.next,S',c,pos')):
  Rn treeTable p w n₀ ann q c n (bindName env x v) S.abs pos () S'.abs pos':=
 lV (res:=fun U=>.next) (f:=.next) (fun gd lv=>segRun_of (by rw[yA,jn,Iw];exact h gd lv)) (fun U U=>rfl)
end
noncomputable abbrev Zs (l:List Nat):Str:=Str.mk (Array.mk l)
abbrev ek (P:Params) (l:List Nat) (t:Nat) (v:Value):DictEntry:=⟨PyData.keyHash P (Zs l),.str (Zs l) t,v⟩
noncomputable abbrev lf (o:Obj):BT:=.node o .nil .nil
noncomputable abbrev PW:Program:=PySem.Challenge.pw_wr0055_02
noncomputable def Hr:Stmt→List (Option Expr) | .Assign _ (.Dict ks _ _) _=>ks | _=>[]
noncomputable def GL:Stmt→List Expr | .Assign _ (.Dict _ vs _) _=>vs | _=>[]
def dF:Env:={scope:=PW.main.scope,locals:=mainNs,globals:=mainNs,cells:=[],code:=.ref 13,frame:=some 14}
def cM:Code:=.body (behindTheImports PW) dF
noncomputable def qM:Pos:=⟨0,0,0,0⟩
noncomputable def dQ (P:Params):Obj:=⟨(.type "tuple"),none,(.seq (Array.mk []) 0),Array.mk []⟩
noncomputable def eV (P:Params):Obj:=⟨Value.none,none,(.fields (Array.mk [])),Array.mk []⟩
noncomputable def dI:List Nat:=[47,99,108,97,105,109,47,99,117,116,46,112,121]
noncomputable def jV:List Nat:=[99,112,121,51,49,51,46,101,109,97,105,108,46,104,101,97,100,101,114]
noncomputable def qQ:List Nat:=[115,101,108,102]
noncomputable def tu:List Nat:=[95,86,97,108,117,101,70,111,114,109,97,116,116,101,114]
noncomputable def tH:List Nat:=[95,65,99,99,117,109,117,108,97,116,111,114]
noncomputable def ve:List Nat:=[95,119,97,108,108]
noncomputable def vd:List Nat:=[95,101,108,108,105,112,115,105,115,95,109,97,116,99,104]
noncomputable def xU:List Nat:=[73,110,116,50,65,80]
noncomputable def Bk:List Nat:=[95,95,100,111,99,95,95]
noncomputable def Bj:List Nat:=[95,95,105,110,105,116,95,95]
noncomputable def mR:List Nat:=[95,95,115,116,114,95,95]
noncomputable def oh:List Nat:=[105,110,95,116,97,98,108,101,95,98,49]
noncomputable def q9:List Nat:=[95,95,110,97,109,101,95,95]
noncomputable def q8:List Nat:=[95,95,112,97,99,107,97,103,101,95,95]
noncomputable def q7:List Nat:=[95,95,108,111,97,100,101,114,95,95]
noncomputable def q6:List Nat:=[95,95,115,112,101,99,95,95]
noncomputable def q5:List Nat:=[95,95,97,110,110,111,116,97,116,105,111,110,115,95,95]
noncomputable def q4:List Nat:=[95,95,98,117,105,108,116,105,110,115,95,95]
noncomputable def qZ:List Nat:=[95,95,102,105,108,101,95,95]
noncomputable def qY:List Nat:=[95,95,99,97,99,104,101,100,95,95]
noncomputable def qX:List Nat:=[69,76,76,73,80,83,73,83,95,77,65,82,75,69,82]
noncomputable def qW:List Nat:=[46,46,46]
noncomputable def qU:List Nat:=[69,77,80,84,89,83,84,82,73,78,71]
noncomputable def tO:List Nat:=[99,112,121,51,49,51,46,115,116,114,105,110,103,112,114,101,112]
noncomputable def tN:List Nat:=[109,97,112,95,116,97,98,108,101,95,98,51]
noncomputable def tM:List Nat:=[105,110,95,116,97,98,108,101,95,99,49,49]
noncomputable def tL:List Nat:=[95,108,97,119,95,119,111,114,100]
noncomputable def tK:List Nat:=[95,108,97,119,95,116,121,112,101,100]
noncomputable def tJ:List Nat:=[95,108,97,119,95,116,117,114,110]
noncomputable def tI:List Nat:=[108,97,119]
noncomputable def wa:List Nat:=[95,95,99,108,97,115,115,95,95]
noncomputable def yc:List Nat:=[95,115,116,114]
noncomputable def yb:List Nat:=[110,101,119,108,105,110,101]
noncomputable def ya:List Nat:=[97,100,100,95,116,114,97,110,115,105,116,105,111,110]
noncomputable def x9:List Nat:=[102,101,101,100]
noncomputable def x8:List Nat:=[95,109,97,120,108,101,110,103,116,104,115]
noncomputable def x7:List Nat:=[95,97,115,99,105,105,95,115,112,108,105,116]
noncomputable def x6:List Nat:=[95,97,112,112,101,110,100,95,99,104,117,110,107]
noncomputable def x5:List Nat:=[112,117,115,104]
noncomputable def x4:List Nat:=[112,111,112,95,102,114,111,109]
noncomputable def x3:List Nat:=[112,111,112]
noncomputable def xZ:List Nat:=[95,95,108,101,110,95,95]
noncomputable def xY:List Nat:=[114,101,115,101,116]
noncomputable def xX:List Nat:=[105,115,95,111,110,108,121,119,115]
noncomputable def xW:List Nat:=[112,97,114,116,95,99,111,117,110,116]
noncomputable def xV:List Nat:=[108,97,119,95,119,114,48,48,53,53,95,48,50]
noncomputable def CQ:List Nat:=[95,95,109,111,100,117,108,101,95,95]
noncomputable def CP:List Nat:=[95,95,102,105,114,115,116,108,105,110,101,110,111,95,95]
noncomputable def CO:List Nat:=[95,95,115,116,97,116,105,99,95,97,116,116,114,105,98,117,116,101,115,95,95]
noncomputable def CN:List Nat:=[102,119,115]
noncomputable def CM:List Nat:=[115,116,114,105,110,103]
noncomputable def CL:List Nat:=[95,95,100,105,99,116,95,95]
noncomputable def CK:List Nat:=[95,95,119,101,97,107,114,101,102,95,95]
noncomputable def CJ:List Nat:=[98,49,95,115,101,116]
noncomputable def CI:List Nat:=[98,51,95,101,120,99,101,112,116,105,111,110,115]
noncomputable def GJ:List Nat:=[95,86,97,108,117,101,70,111,114,109,97,116,116,101,114,46,95,95,105,110,105,116,95,95]
noncomputable def GI:List Nat:=[95,86,97,108,117,101,70,111,114,109,97,116,116,101,114,46,95,115,116,114]
noncomputable def GH:List Nat:=[95,86,97,108,117,101,70,111,114,109,97,116,116,101,114,46,95,95,115,116,114,95,95]
noncomputable def GF:List Nat:=[95,86,97,108,117,101,70,111,114,109,97,116,116,101,114,46,110,101,119,108,105,110,101]
noncomputable def GD:List Nat:=[95,86,97,108,117,101,70,111,114,109,97,116,116,101,114,46,97,100,100,95,116,114,97,110,115,105,116,105,111,110]
noncomputable def GC:List Nat:=[95,86,97,108,117,101,70,111,114,109,97,116,116,101,114,46,102,101,101,100]
noncomputable def GB:List Nat:=[95,86,97,108,117,101,70,111,114,109,97,116,116,101,114,46,95,109,97,120,108,101,110,103,116,104,115]
noncomputable def GA:List Nat:=[95,86,97,108,117,101,70,111,114,109,97,116,116,101,114,46,95,97,115,99,105,105,95,115,112,108,105,116]
noncomputable def Gz:List Nat:=[95,86,97,108,117,101,70,111,114,109,97,116,116,101,114,46,95,97,112,112,101,110,100,95,99,104,117,110,107]
noncomputable def Gy:List Nat:=[95,65,99,99,117,109,117,108,97,116,111,114,46,95,95,105,110,105,116,95,95]
noncomputable def Gx:List Nat:=[95,65,99,99,117,109,117,108,97,116,111,114,46,112,117,115,104]
noncomputable def Gw:List Nat:=[95,65,99,99,117,109,117,108,97,116,111,114,46,112,111,112,95,102,114,111,109]
noncomputable def Gv:List Nat:=[95,65,99,99,117,109,117,108,97,116,111,114,46,112,111,112]
noncomputable def Gu:List Nat:=[95,65,99,99,117,109,117,108,97,116,111,114,46,95,95,108,101,110,95,95]
noncomputable def Gr:List Nat:=[95,65,99,99,117,109,117,108,97,116,111,114,46,95,95,115,116,114,95,95]
noncomputable def Gq:List Nat:=[95,65,99,99,117,109,117,108,97,116,111,114,46,114,101,115,101,116]
noncomputable def Gp:List Nat:=[95,65,99,99,117,109,117,108,97,116,111,114,46,105,115,95,111,110,108,121,119,115]
noncomputable def Gn:List Nat:=[95,65,99,99,117,109,117,108,97,116,111,114,46,112,97,114,116,95,99,111,117,110,116]
noncomputable def Kz:List Nat:=[60,109,111,100,117,108,101,62]
noncomputable def Ky:List Nat:=[95,95,113,117,97,108,110,97,109,101,95,95]
noncomputable def Kx:List Nat:=[115,112,108,105,116,99,104,97,114,115]
noncomputable def zs(l:List Nat)(t:Nat):Value:=.str (Zs l) t
noncomputable def zi(i:Int):Value:=.int i 0
noncomputable def zA(c:Value)(d:Data):Obj:=⟨c,none,d,Array.mk []⟩
def zT(l:List Value):Obj:=zA (.type "tuple") (.seq (Array.mk l) 0)
def zF(l:List Value):Obj:=zA .none (.fields (Array.mk l))
def zC(l:List Value):Obj:=zA (.type "code") (.fields (Array.mk l))
noncomputable def zR(l:List (Option Value)):Obj:=⟨.type "frame",none,.plain,Array.mk l⟩
def zG(c:Value)(A B:List Nat)(S:Stmt)(k:Nat)(p q r s t u:Value):Obj:=zA c (.func ⟨Zs A,Zs B,dh S,.stmts (bodyOf S),ao S,k,[],p,q,r,s,none,t,u,0⟩)
section
variable (P:Params)
def dP:Obj:=zC [zs Kz 182,zs Kz 183,zs dI 184,zi 1,zi 0,zi 0,zi 0,zi 0,.ref 11,.bool false,zi 181,.ref 12,.none,.none,.none,.none,zi 185,zi 1,zs dI 186]
def dO:Obj:=zR [some (.ref 13),some (.ref 3),some (.ref 3),none,some (zs [95,95,109,97,105,110,95,95] 164),none,some (.ref 0)]
def aag:Obj:=zA (.type "dict") (.dict (Array.mk [ek P q9 165 (zs jV 210),ek P Bk 166 .none,ek P q8 167 .none,ek P q7 168 (.builtin "__main__.__loader__#opaque"),ek P q6 169 .none,ek P q5 170 (.ref 6),ek P q4 171 (.ref 4),ek P qZ 173 (zs dI 172),ek P qY 174 .none,ek P ve 193 (.ref 21),ek P qX 197 (zs qW 196),ek P vd 209 (.ref 28),ek P [78,76] 213 (zs [10] 212),ek P qU 215 (zs [] 214)]) 14)
def O7:Obj:=zF [zi 1,zi 0,.ref 20,zi 6,zi 0,.ref 27]
def eg:Obj:=zT []
def ef:Obj:=zF []
def ed:Obj:=zT [zs [107] 190]
def ec:Obj:=zT []
def ei:Obj:=zG .none ve ve (ST 0) 0 .none .none .none .none .none .none
def d9:Obj:=zC [zs ve 187,zs ve 188,zs dI 189,zi 1,zi 1,zi 0,zi 0,zi 3,.ref 15,.bool true,zi 181,.ref 16,.none,.ref 17,.ref 18,.ref 19,zi 191,zi 1,zs dI 192]
def d8:Obj:=zG (.type "function") ve ve (ST 0) 3 .none .none .none (zs [95,95,109,97,105,110,95,95] 164) (.ref 20) .none
def dZ:Obj:=zT []
def dY:Obj:=zF []
def dX:Obj:=zT [zs [119,97,110,116] 201,zs [103,111,116] 202,zs [119,115] 203,zs [115,116,97,114,116,112,111,115] 204,zs [101,110,100,112,111,115] 205,zs [119] 206]
def dW:Obj:=zT []
def eh:Obj:=zG .none vd vd (ST 3) 0 .none .none .none .none .none .none
def dU:Obj:=zC [zs vd 198,zs vd 199,zs dI 200,zi 6,zi 2,zi 0,zi 0,zi 3,.ref 22,.bool true,zi 181,.ref 23,.none,.ref 24,.ref 25,.ref 26,zi 207,zi 6,zs dI 208]
def Aq:Obj:=zG (.type "function") vd vd (ST 3) 3 .none .none .none (zs [99,112,121,51,49,51,46,100,111,99,116,101,115,116] 194) (.ref 27) .none
def aaf:Obj:=zA (.type "dict") (.dict (Array.mk [ek P q9 165 (zs jV 210),ek P Bk 166 .none,ek P q8 167 .none,ek P q7 168 (.builtin "__main__.__loader__#opaque"),ek P q6 169 .none,ek P q5 170 (.ref 6),ek P q4 171 (.ref 4),ek P qZ 173 (zs dI 172),ek P qY 174 .none,ek P ve 193 (.ref 21),ek P qX 197 (zs qW 196),ek P vd 209 (.ref 28),ek P [78,76] 213 (zs [10] 212),ek P qU 215 (zs [] 214),ek P tu 323 (.ref 101)]) 15)
def O6:Obj:=zF [zi 1,zi 0,.ref 20,zi 6,zi 0,.ref 27,zi 37,zi 0,.ref 34]
def CG:Obj:=zT []
def CE:Obj:=zA (.type "builtin_function_or_method") (.fields (Array.mk [.builtin "type.__prepare__",.type "type"]))
def CD:Obj:=zA (.type "dict") (.dict (Array.mk [ek P CQ 223 (zs jV 210),ek P Ky 225 (zs tu 224),ek P CP 227 (.int 37 226),ek P Bj 238 (.ref 42),ek P yc 246 (.ref 49),ek P mR 253 (.ref 56),ek P yb 261 (.ref 63),ek P ya 268 (.ref 70),ek P x9 278 (.ref 77),ek P x8 285 (.ref 84),ek P x7 295 (.ref 91),ek P x6 309 (.ref 98),ek P CO 316 (.ref 99)]) 13)
def CC:Obj:=zT []
def Fj:Obj:=zF [zi 39,zi 4,.ref 41,zi 47,zi 4,.ref 48,zi 51,zi 4,.ref 55,zi 54,zi 4,.ref 62,zi 65,zi 4,.ref 69,zi 68,zi 4,.ref 76,zi 71,zi 4,.ref 83,zi 74,zi 4,.ref 90,zi 77,zi 4,.ref 97]
def CB:Obj:=zC [zs tu 218,zs tu 219,zs dI 220,zi 37,zi 0,zi 0,zi 0,zi 0,.ref 32,.bool false,zi 181,.ref 33,.none,.none,.none,.none,zi 221,zi 37,zs dI 222]
def CA:Obj:=zR [some (.ref 34),some (.ref 3),some (.ref 31),none,some (zs jV 210),none,some (.ref 0)]
def Cz:Obj:=zT []
def Cy:Obj:=zF []
def Cw:Obj:=zT [zs qQ 231,zs [104,101,97,100,101,114,108,101,110] 232,zs [109,97,120,108,101,110] 233,zs [99,111,110,116,105,110,117,97,116,105,111,110,95,119,115] 234,zs Kx 235]
def Cv:Obj:=zT []
def Fi:Obj:=zG .none Bj GJ (cx (bodyOf (ST 7)) 0) 0 .none .none .none .none .none .none
def Cu:Obj:=zC [zs Bj 228,zs GJ 229,zs dI 230,zi 39,zi 5,zi 0,zi 0,zi 3,.ref 36,.bool true,zi 181,.ref 37,.none,.ref 38,.ref 39,.ref 40,zi 236,zi 39,zs dI 237]
def Ct:Obj:=zG (.type "function") Bj GJ (cx (bodyOf (ST 7)) 0) 3 .none .none .none (zs jV 210) (.ref 41) .none
def Cr:Obj:=zT []
def Cq:Obj:=zF []
def Cp:Obj:=zT [zs qQ 242,zs [108,105,110,101,115,101,112] 243]
def Ck:Obj:=zT []
def Fh:Obj:=zG .none yc GI (cx (bodyOf (ST 7)) 1) 0 .none .none .none .none .none .none
def Cj:Obj:=zC [zs yc 239,zs GI 240,zs dI 241,zi 47,zi 2,zi 0,zi 0,zi 3,.ref 43,.bool true,zi 181,.ref 44,.none,.ref 45,.ref 46,.ref 47,zi 244,zi 47,zs dI 245]
def Ci:Obj:=zG (.type "function") yc GI (cx (bodyOf (ST 7)) 1) 3 .none .none .none (zs jV 210) (.ref 48) .none
def Cg:Obj:=zT []
def Ce:Obj:=zF []
def Cd:Obj:=zT [zs qQ 250]
def Cb:Obj:=zT []
def Fg:Obj:=zG .none mR GH (cx (bodyOf (ST 7)) 2) 0 .none .none .none .none .none .none
def Ca:Obj:=zC [zs mR 247,zs GH 248,zs dI 249,zi 51,zi 1,zi 0,zi 0,zi 3,.ref 50,.bool true,zi 181,.ref 51,.none,.ref 52,.ref 53,.ref 54,zi 251,zi 51,zs dI 252]
def B9:Obj:=zG (.type "function") mR GH (cx (bodyOf (ST 7)) 2) 3 .none .none .none (zs jV 210) (.ref 55) .none
def B8:Obj:=zT []
def B7:Obj:=zF []
def B6:Obj:=zT [zs qQ 257,zs [101,110,100,95,111,102,95,108,105,110,101] 258]
def B5:Obj:=zT []
def Ff:Obj:=zG .none yb GF (cx (bodyOf (ST 7)) 3) 0 .none .none .none .none .none .none
def B4:Obj:=zC [zs yb 254,zs GF 255,zs dI 256,zi 54,zi 1,zi 0,zi 0,zi 3,.ref 57,.bool true,zi 181,.ref 58,.none,.ref 59,.ref 60,.ref 61,zi 259,zi 54,zs dI 260]
def B3:Obj:=zG (.type "function") yb GF (cx (bodyOf (ST 7)) 3) 3 .none .none .none (zs jV 210) (.ref 62) .none
def B2:Obj:=zT []
def B1:Obj:=zF []
def BZ:Obj:=zT [zs qQ 265]
def BX:Obj:=zT []
def Fe:Obj:=zG .none ya GD (cx (bodyOf (ST 7)) 4) 0 .none .none .none .none .none .none
def BW:Obj:=zC [zs ya 262,zs GD 263,zs dI 264,zi 65,zi 1,zi 0,zi 0,zi 3,.ref 64,.bool true,zi 181,.ref 65,.none,.ref 66,.ref 67,.ref 68,zi 266,zi 65,zs dI 267]
def BV:Obj:=zG (.type "function") ya GD (cx (bodyOf (ST 7)) 4) 3 .none .none .none (zs jV 210) (.ref 69) .none
def BU:Obj:=zT []
def BR:Obj:=zF []
def BQ:Obj:=zT [zs qQ 272,zs CN 273,zs CM 274,zs [99,104,97,114,115,101,116] 275]
def BP:Obj:=zT []
def Fd:Obj:=zG .none x9 GC (cx (bodyOf (ST 7)) 5) 0 .none .none .none .none .none .none
def BO:Obj:=zC [zs x9 269,zs GC 270,zs dI 271,zi 68,zi 4,zi 0,zi 0,zi 3,.ref 71,.bool true,zi 181,.ref 72,.none,.ref 73,.ref 74,.ref 75,zi 276,zi 68,zs dI 277]
def BM:Obj:=zG (.type "function") x9 GC (cx (bodyOf (ST 7)) 5) 3 .none .none .none (zs jV 210) (.ref 76) .none
def BL:Obj:=zT []
def BK:Obj:=zF []
def BJ:Obj:=zT [zs qQ 282]
def BI:Obj:=zT []
def Fc:Obj:=zG .none x8 GB (cx (bodyOf (ST 7)) 6) 0 .none .none .none .none .none .none
def BH:Obj:=zC [zs x8 279,zs GB 280,zs dI 281,zi 71,zi 1,zi 0,zi 0,zi 3,.ref 78,.bool true,zi 181,.ref 79,.none,.ref 80,.ref 81,.ref 82,zi 283,zi 71,zs dI 284]
def BF:Obj:=zG (.type "function") x8 GB (cx (bodyOf (ST 7)) 6) 3 .none .none .none (zs jV 210) (.ref 83) .none
def BD:Obj:=zT []
def BC:Obj:=zF []
def BA:Obj:=zT [zs qQ 289,zs CN 290,zs CM 291,zs Kx 292]
def Bz:Obj:=zT []
def Fb:Obj:=zG .none x7 GA (cx (bodyOf (ST 7)) 7) 0 .none .none .none .none .none .none
def By:Obj:=zC [zs x7 286,zs GA 287,zs dI 288,zi 74,zi 4,zi 0,zi 0,zi 3,.ref 85,.bool true,zi 181,.ref 86,.none,.ref 87,.ref 88,.ref 89,zi 293,zi 74,zs dI 294]
def Bx:Obj:=zG (.type "function") x7 GA (cx (bodyOf (ST 7)) 7) 3 .none .none .none (zs jV 210) (.ref 90) .none
def Bw:Obj:=zT []
def Bv:Obj:=zF []
def Bu:Obj:=zT [zs qQ 299,zs CN 300,zs CM 301,zs [99,104] 302,zs [105] 303,zs [112,114,101,118,112,97,114,116] 304,zs [112,97,114,116] 305,zs [114,101,109,97,105,110,100,101,114] 306]
def Bt:Obj:=zT []
def E9:Obj:=zG .none x6 Gz (cx (bodyOf (ST 7)) 8) 0 .none .none .none .none .none .none
def Bs:Obj:=zC [zs x6 296,zs Gz 297,zs dI 298,zi 77,zi 3,zi 0,zi 0,zi 3,.ref 92,.bool true,zi 181,.ref 93,.none,.ref 94,.ref 95,.ref 96,zi 307,zi 77,zs dI 308]
def Br:Obj:=zG (.type "function") x6 Gz (cx (bodyOf (ST 7)) 8) 3 .none .none .none (zs jV 210) (.ref 97) .none
def Bq:Obj:=zT [zs [95,99,111,110,116,105,110,117,97,116,105,111,110,95,119,115] 310,zs [95,99,111,110,116,105,110,117,97,116,105,111,110,95,119,115,95,108,101,110] 311,zs [95,99,117,114,114,101,110,116,95,108,105,110,101] 312,zs [95,108,105,110,101,115] 313,zs [95,109,97,120,108,101,110] 314,zs [95,115,112,108,105,116,99,104,97,114,115] 315]
def ni:Obj:=zA (.type "dict") (.dict (Array.mk [ek P CQ 223 (zs jV 210),ek P CP 227 (.int 37 226),ek P Bj 238 (.ref 42),ek P yc 246 (.ref 49),ek P mR 253 (.ref 56),ek P yb 261 (.ref 63),ek P ya 268 (.ref 70),ek P x9 278 (.ref 77),ek P x8 285 (.ref 84),ek P x7 295 (.ref 91),ek P x6 309 (.ref 98),ek P CO 316 (.ref 99),ek P CL 318 (.ref 102),ek P CK 320 (.ref 103),ek P Bk 321 .none]) 4)
def nh:Obj:=⟨(.type "type"),none,(.cls ⟨(Zs tu),[.type "object"],[.ref 101,.type "object"],100,(Zs tu),true,[],[],false,none,false⟩),Array.mk [none,none,some (zs tu 216),some (zs tu 224),some (.builtin "object.__new__"),some (.bool true)]⟩
def ng:Obj:=zA (.type "getset_descriptor") (.fields (Array.mk [zs CL 317,.ref 101,.builtin "function.__dict__",.builtin "function.__dict__#set"]))
def nf:Obj:=zA (.type "getset_descriptor") (.fields (Array.mk [zs CK 319,.ref 101,.builtin "ExceptionGroup.__weakref__",.none]))
def nc:Obj:=zA (.type "super") (.fields (Array.mk [.ref 101,.ref 101,.ref 101]))
def m9:Obj:=zA (.type "builtin_function_or_method") (.fields (Array.mk [.builtin "object.__init_subclass__",.ref 101]))
def aae:Obj:=zA (.type "dict") (.dict (Array.mk [ek P q9 165 (zs jV 210),ek P Bk 166 .none,ek P q8 167 .none,ek P q7 168 (.builtin "__main__.__loader__#opaque"),ek P q6 169 .none,ek P q5 170 (.ref 6),ek P q4 171 (.ref 4),ek P qZ 173 (zs dI 172),ek P qY 174 .none,ek P ve 193 (.ref 21),ek P qX 197 (zs qW 196),ek P vd 209 (.ref 28),ek P [78,76] 213 (zs [10] 212),ek P qU 215 (zs [] 214),ek P tu 323 (.ref 101),ek P tH 419 (.ref 185)]) 16)
def O5:Obj:=zF [zi 1,zi 0,.ref 20,zi 6,zi 0,.ref 27,zi 37,zi 0,.ref 34,zi 103,zi 0,.ref 112]
def qK:Obj:=zT [.type "list"]
def qJ:Obj:=zA (.type "builtin_function_or_method") (.fields (Array.mk [.builtin "type.__prepare__",.type "type"]))
def qI:Obj:=zA (.type "dict") (.dict (Array.mk [ek P CQ 331 (zs jV 210),ek P Ky 333 (zs tH 332),ek P CP 335 (.int 103 334),ek P Bj 345 (.ref 122),ek P x5 354 (.ref 129),ek P x4 364 (.ref 137),ek P x3 372 (.ref 145),ek P xZ 379 (.ref 152),ek P mR 386 (.ref 159),ek P xY 394 (.ref 167),ek P xX 401 (.ref 174),ek P xW 409 (.ref 182),ek P CO 411 (.ref 183),ek P [95,95,99,108,97,115,115,99,101,108,108,95,95] 412 (.ref 109)]) 14)
def qH:Obj:=zA (.type "cell") (.cell (some (.ref 185)))
def qG:Obj:=zT []
def s9:Obj:=zF [zi 105,zi 4,.ref 121,zi 109,zi 4,.ref 128,zi 112,zi 4,.ref 136,zi 117,zi 4,.ref 144,zi 122,zi 4,.ref 151,zi 125,zi 4,.ref 158,zi 128,zi 4,.ref 166,zi 134,zi 4,.ref 173,zi 137,zi 4,.ref 181]
def qF:Obj:=zC [zs tH 326,zs tH 327,zs dI 328,zi 103,zi 0,zi 0,zi 0,zi 0,.ref 110,.bool false,zi 181,.ref 111,.none,.none,.none,.none,zi 329,zi 103,zs dI 330]
def qE:Obj:=zR [some (.ref 112),some (.ref 3),some (.ref 108),none,some (zs jV 210),none,some (.ref 0)]
def qD:Obj:=zT [(.int 0 336)]
def qC:Obj:=zT [.ref 109]
def qB:Obj:=zT [zs wa 340]
def qA:Obj:=zF []
def qz:Obj:=zT [zs qQ 341,zs [105,110,105,116,105,97,108,95,115,105,122,101] 342]
def qy:Obj:=zT []
def sZ:Obj:=zG .none Bj Gy (cx (bodyOf (ST 8)) 0) 0 .none .none .none .none .none .none
def qx:Obj:=zC [zs Bj 337,zs Gy 338,zs dI 339,zi 105,zi 2,zi 0,zi 0,zi 3,.ref 116,.bool true,zi 181,.ref 117,.none,.ref 118,.ref 119,.ref 120,zi 343,zi 105,zs dI 344]
def qw:Obj:=zA (.type "function") (.func ⟨(Zs Bj),(Zs Gy),dh (cx (bodyOf (ST 8)) 0),.stmts (bodyOf (cx (bodyOf (ST 8)) 0)),ao (cx (bodyOf (ST 8)) 0),3,[((Zs wa),109)],.ref 114,.none,.none,zs jV 210,none,.ref 121,.ref 115,0⟩)
def qv:Obj:=zT []
def qu:Obj:=zF []
def qt:Obj:=zT [zs qQ 349,zs CN 350,zs CM 351]
def qq:Obj:=zT []
def sY:Obj:=zG .none x5 Gx (cx (bodyOf (ST 8)) 1) 0 .none .none .none .none .none .none
def qp:Obj:=zC [zs x5 346,zs Gx 347,zs dI 348,zi 109,zi 3,zi 0,zi 0,zi 3,.ref 123,.bool true,zi 181,.ref 124,.none,.ref 125,.ref 126,.ref 127,zi 352,zi 109,zs dI 353]
def qo:Obj:=zG (.type "function") x5 Gx (cx (bodyOf (ST 8)) 1) 3 .none .none .none (zs jV 210) (.ref 128) .none
def qm:Obj:=zT [(.int 0 355)]
def qk:Obj:=zT []
def qj:Obj:=zF []
def qi:Obj:=zT [zs qQ 359,zs [105] 360,zs [112,111,112,112,101,100] 361]
def qh:Obj:=zT []
def sX:Obj:=zG .none x4 Gw (cx (bodyOf (ST 8)) 2) 0 .none .none .none .none .none .none
def qg:Obj:=zC [zs x4 356,zs Gw 357,zs dI 358,zi 112,zi 2,zi 0,zi 0,zi 3,.ref 131,.bool true,zi 181,.ref 132,.none,.ref 133,.ref 134,.ref 135,zi 362,zi 112,zs dI 363]
def qf:Obj:=zG (.type "function") x4 Gw (cx (bodyOf (ST 8)) 2) 3 (.ref 130) .none .none (zs jV 210) (.ref 136) .none
def qe:Obj:=zT [.ref 109]
def qd:Obj:=zT [zs wa 368]
def qc:Obj:=zF []
def qb:Obj:=zT [zs qQ 369]
def qa:Obj:=zT []
def sW:Obj:=zG .none x3 Gv (cx (bodyOf (ST 8)) 3) 0 .none .none .none .none .none .none
def p8:Obj:=zC [zs x3 365,zs Gv 366,zs dI 367,zi 117,zi 1,zi 0,zi 0,zi 3,.ref 139,.bool true,zi 181,.ref 140,.none,.ref 141,.ref 142,.ref 143,zi 370,zi 117,zs dI 371]
def pZ:Obj:=zA (.type "function") (.func ⟨(Zs x3),(Zs Gv),dh (cx (bodyOf (ST 8)) 3),.stmts (bodyOf (cx (bodyOf (ST 8)) 3)),ao (cx (bodyOf (ST 8)) 3),3,[((Zs wa),109)],.none,.none,.none,zs jV 210,none,.ref 144,.ref 138,0⟩)
def pY:Obj:=zT []
def pX:Obj:=zF []
def pW:Obj:=zT [zs qQ 376]
def pV:Obj:=zT []
def sV:Obj:=zG .none xZ Gu (cx (bodyOf (ST 8)) 4) 0 .none .none .none .none .none .none
def pU:Obj:=zC [zs xZ 373,zs Gu 374,zs dI 375,zi 122,zi 1,zi 0,zi 0,zi 3,.ref 146,.bool true,zi 181,.ref 147,.none,.ref 148,.ref 149,.ref 150,zi 377,zi 122,zs dI 378]
def pT:Obj:=zG (.type "function") xZ Gu (cx (bodyOf (ST 8)) 4) 3 .none .none .none (zs jV 210) (.ref 151) .none
def pS:Obj:=zT []
def pR:Obj:=zF []
def pQ:Obj:=zT [zs qQ 383]
def pP:Obj:=zT []
def sU:Obj:=zG .none mR Gr (cx (bodyOf (ST 8)) 5) 0 .none .none .none .none .none .none
def pO:Obj:=zC [zs mR 380,zs Gr 381,zs dI 382,zi 125,zi 1,zi 0,zi 0,zi 3,.ref 153,.bool true,zi 181,.ref 154,.none,.ref 155,.ref 156,.ref 157,zi 384,zi 125,zs dI 385]
def pN:Obj:=zG (.type "function") mR Gr (cx (bodyOf (ST 8)) 5) 3 .none .none .none (zs jV 210) (.ref 158) .none
def pM:Obj:=zT [.none]
def pL:Obj:=zT []
def pK:Obj:=zF []
def pJ:Obj:=zT [zs qQ 390,zs [115,116,97,114,116,118,97,108] 391]
def pI:Obj:=zT []
def sT:Obj:=zG .none xY Gq (cx (bodyOf (ST 8)) 6) 0 .none .none .none .none .none .none
def pH:Obj:=zC [zs xY 387,zs Gq 388,zs dI 389,zi 128,zi 2,zi 0,zi 0,zi 3,.ref 161,.bool true,zi 181,.ref 162,.none,.ref 163,.ref 164,.ref 165,zi 392,zi 128,zs dI 393]
def pG:Obj:=zG (.type "function") xY Gq (cx (bodyOf (ST 8)) 6) 3 (.ref 160) .none .none (zs jV 210) (.ref 166) .none
def pF:Obj:=zT []
def pE:Obj:=zF []
def pD:Obj:=zT [zs qQ 398]
def pC:Obj:=zT []
def sS:Obj:=zG .none xX Gp (cx (bodyOf (ST 8)) 7) 0 .none .none .none .none .none .none
def pB:Obj:=zC [zs xX 395,zs Gp 396,zs dI 397,zi 134,zi 1,zi 0,zi 0,zi 3,.ref 168,.bool true,zi 181,.ref 169,.none,.ref 170,.ref 171,.ref 172,zi 399,zi 134,zs dI 400]
def pA:Obj:=zG (.type "function") xX Gp (cx (bodyOf (ST 8)) 7) 3 .none .none .none (zs jV 210) (.ref 173) .none
def pz:Obj:=zT [.ref 109]
def pw:Obj:=zT [zs wa 405]
def pq:Obj:=zF []
def pn:Obj:=zT [zs qQ 406]
def pk:Obj:=zT []
def sR:Obj:=zG .none xW Gn (cx (bodyOf (ST 8)) 8) 0 .none .none .none .none .none .none
def pj:Obj:=zC [zs xW 402,zs Gn 403,zs dI 404,zi 137,zi 1,zi 0,zi 0,zi 3,.ref 176,.bool true,zi 181,.ref 177,.none,.ref 178,.ref 179,.ref 180,zi 407,zi 137,zs dI 408]
def ph:Obj:=zA (.type "function") (.func ⟨(Zs xW),(Zs Gn),dh (cx (bodyOf (ST 8)) 8),.stmts (bodyOf (cx (bodyOf (ST 8)) 8)),ao (cx (bodyOf (ST 8)) 8),3,[((Zs wa),109)],.none,.none,.none,zs jV 210,none,.ref 181,.ref 175,0⟩)
def pf:Obj:=zT [zs [95,105,110,105,116,105,97,108,95,115,105,122,101] 410]
def pe:Obj:=zA (.type "dict") (.dict (Array.mk [ek P CQ 331 (zs jV 210),ek P CP 335 (.int 103 334),ek P Bj 345 (.ref 122),ek P x5 354 (.ref 129),ek P x4 364 (.ref 137),ek P x3 372 (.ref 145),ek P xZ 379 (.ref 152),ek P mR 386 (.ref 159),ek P xY 394 (.ref 167),ek P xX 401 (.ref 174),ek P xW 409 (.ref 182),ek P CO 411 (.ref 183),ek P CL 414 (.ref 186),ek P CK 416 (.ref 187),ek P Bk 417 .none]) 5)
def o9:Obj:=⟨(.type "type"),none,(.cls ⟨(Zs tH),[.type "list"],[.ref 185,.type "list",.type "object"],184,(Zs tH),true,[],[],false,none,false⟩),Array.mk [some (.ref 106),none,some (zs tH 324),some (zs tH 332),some (.builtin "list.__new__"),some (.bool true)]⟩
def o8:Obj:=zA (.type "getset_descriptor") (.fields (Array.mk [zs CL 413,.ref 185,.builtin "function.__dict__",.builtin "function.__dict__#set"]))
def o7:Obj:=zA (.type "getset_descriptor") (.fields (Array.mk [zs CK 415,.ref 185,.builtin "ExceptionGroup.__weakref__",.none]))
def o6:Obj:=zA (.type "super") (.fields (Array.mk [.ref 185,.ref 185,.ref 185]))
def o5:Obj:=zA (.type "builtin_function_or_method") (.fields (Array.mk [.builtin "object.__init_subclass__",.ref 185]))
def aad:Obj:=zA (.type "dict") (.dict (Array.mk [ek P q9 165 (zs tO 432),ek P Bk 166 .none,ek P q8 167 .none,ek P q7 168 (.builtin "__main__.__loader__#opaque"),ek P q6 169 .none,ek P q5 170 (.ref 6),ek P q4 171 (.ref 4),ek P qZ 173 (zs dI 172),ek P qY 174 .none,ek P ve 193 (.ref 21),ek P qX 197 (zs qW 196),ek P vd 209 (.ref 28),ek P [78,76] 213 (zs [10] 212),ek P qU 215 (zs [] 214),ek P tu 323 (.ref 101),ek P tH 419 (.ref 185),ek P xU 431 (.ref 196)]) 17)
def Gi:Obj:=zF [zi 1,zi 0,.ref 20,zi 6,zi 0,.ref 27,zi 37,zi 0,.ref 34,zi 103,zi 0,.ref 112,zi 140,zi 0,.ref 195]
def sQ:Obj:=zT []
def sP:Obj:=zF []
def sO:Obj:=zT [zs [110,117,109] 425,zs [118,97,108] 426,zs [65,80] 427,zs [109,111,100] 428]
def sN:Obj:=zT []
def u5:Obj:=zG .none xU xU (ST 10) 0 .none .none .none .none .none .none
def sM:Obj:=zC [zs xU 422,zs xU 423,zs dI 424,zi 140,zi 1,zi 0,zi 0,zi 3,.ref 190,.bool true,zi 181,.ref 191,.none,.ref 192,.ref 193,.ref 194,zi 429,zi 140,zs dI 430]
def sL:Obj:=zG (.type "function") xU xU (ST 10) 3 .none .none .none (zs [99,112,121,51,49,51,46,105,109,97,112,108,105,98] 420) (.ref 195) .none
def aac:Obj:=zA (.type "dict") (.dict (Array.mk [ek P q9 165 (zs tO 432),ek P Bk 166 .none,ek P q8 167 .none,ek P q7 168 (.builtin "__main__.__loader__#opaque"),ek P q6 169 .none,ek P q5 170 (.ref 6),ek P q4 171 (.ref 4),ek P qZ 173 (zs dI 172),ek P qY 174 .none,ek P ve 193 (.ref 21),ek P qX 197 (zs qW 196),ek P vd 209 (.ref 28),ek P [78,76] 213 (zs [10] 212),ek P qU 215 (zs [] 214),ek P tu 323 (.ref 101),ek P tH 419 (.ref 185),ek P xU 431 (.ref 196),ek P CJ 493 (.ref 204)]) 18)
def uZ:Obj:=zA (.type "list") (.seq (Array.mk [(.int 173 434),(.int 847 435),(.int 6150 436),(.int 6155 437),(.int 6156 438),(.int 6157 439),(.int 8203 440),(.int 8204 441),(.int 8205 442),(.int 8288 443),(.int 65279 444)]) 0)
def uY:Obj:=zA (.type "range") (.fields (Array.mk [(.int 65024 445),(.int 65040 446),(.int 1 447)]))
def uX:Obj:=zA (.type "list") (.seq (Array.mk [(.int 65024 450),(.int 65025 451),(.int 65026 452),(.int 65027 453),(.int 65028 454),(.int 65029 455),(.int 65030 456),(.int 65031 457),(.int 65032 458),(.int 65033 459),(.int 65034 460),(.int 65035 461),(.int 65036 462),(.int 65037 463),(.int 65038 464),(.int 65039 465)]) 18)
def uW:Obj:=zA (.type "range_iterator") (.fields (Array.mk [zi 65040,zi 0,zi 1]))
def uV:Obj:=zT []
def uU:Obj:=zA (.type "StopIteration") (.fields (Array.mk [.ref 201,.none,.none,.none,.bool false,.none]))
def uT:Obj:=zA (.type "list") (.seq (Array.mk [(.int 173 434),(.int 847 435),(.int 6150 436),(.int 6155 437),(.int 6156 438),(.int 6157 439),(.int 8203 440),(.int 8204 441),(.int 8205 442),(.int 8288 443),(.int 65279 444),(.int 65024 450),(.int 65025 451),(.int 65026 452),(.int 65027 453),(.int 65028 454),(.int 65029 455),(.int 65030 456),(.int 65031 457),(.int 65032 458),(.int 65033 459),(.int 65034 460),(.int 65035 461),(.int 65036 462),(.int 65037 463),(.int 65038 464),(.int 65039 465)]) 0)
def sJ:Obj:=zA (.type "set") (.set (Array.mk [(65024,(.int 65024 450)),(65025,(.int 65025 451)),(65026,(.int 65026 452)),(65027,(.int 65027 453)),(65028,(.int 65028 454)),(65029,(.int 65029 455)),(6150,(.int 6150 436)),(65030,(.int 65030 456)),(65031,(.int 65031 457)),(65032,(.int 65032 458)),(65033,(.int 65033 459)),(6155,(.int 6155 437)),(6156,(.int 6156 438)),(6157,(.int 6157 439)),(8203,(.int 8203 440)),(8204,(.int 8204 441)),(8205,(.int 8205 442)),(65034,(.int 65034 460)),(65035,(.int 65035 461)),(65036,(.int 65036 462)),(65037,(.int 65037 463)),(65038,(.int 65038 464)),(65039,(.int 65039 465)),(173,(.int 173 434)),(847,(.int 847 435)),(8288,(.int 8288 443)),(65279,(.int 65279 444))]) 29 (match P.followText "set-order" with | true=>⟨127,Array.mk [0,1,2,3,4,5,6,7,8,9,10,11,12,13,14,15,16,17,18,19,20,21,22,45,79,96,127],Array.mk [],0,false,2,true⟩ | false=>⟨127,Array.mk [0,1,2,3,4,5,6,7,8,9,10,11,12,13,14,15,16,17,18,19,20,21,22,45,79,96,127],Array.mk [],0,true,2,true⟩))
def uS:Obj:=zA (.type "list_iterator") (.fields (Array.mk [.none,zi 27]))
def uR:Obj:=zT []
def uQ:Obj:=zA (.type "StopIteration") (.fields (Array.mk [.ref 206,.none,.none,.none,.bool false,.none]))
def OV:Obj:=zA (.type "dict") (.dict (Array.mk [ek P q9 165 (zs tO 432),ek P Bk 166 .none,ek P q8 167 .none,ek P q7 168 (.builtin "__main__.__loader__#opaque"),ek P q6 169 .none,ek P q5 170 (.ref 6),ek P q4 171 (.ref 4),ek P qZ 173 (zs dI 172),ek P qY 174 .none,ek P ve 193 (.ref 21),ek P qX 197 (zs qW 196),ek P vd 209 (.ref 28),ek P [78,76] 213 (zs [10] 212),ek P qU 215 (zs [] 214),ek P tu 323 (.ref 101),ek P tH 419 (.ref 185),ek P xU 431 (.ref 196),ek P CJ 493 (.ref 204),ek P oh 500 (.ref 214)]) 19)
def Bf:Obj:=zF [zi 1,zi 0,.ref 20,zi 6,zi 0,.ref 27,zi 37,zi 0,.ref 34,zi 103,zi 0,.ref 112,zi 140,zi 0,.ref 195,zi 150,zi 0,.ref 213]
def xG:Obj:=zT []
def xF:Obj:=zF []
def xE:Obj:=zT [zs [99,111,100,101] 497]
def xD:Obj:=zT []
def Be:Obj:=zG .none oh oh (ST 13) 0 .none .none .none .none .none .none
def xC:Obj:=zC [zs oh 494,zs oh 495,zs dI 496,zi 150,zi 1,zi 0,zi 0,zi 3,.ref 208,.bool true,zi 181,.ref 209,.none,.ref 210,.ref 211,.ref 212,zi 498,zi 150,zs dI 499]
def xB:Obj:=zG (.type "function") oh oh (ST 13) 3 .none .none .none (zs tO 432) (.ref 213) .none
def Bd:Obj:=bN (iW 501 eI 37) 650
def Bc:Obj:=(bF 501 eI 37).getD 0 default
def Bb:Obj:=(bF 501 eI 37).getD 1 default
def Ba:Obj:=(bF 501 eI 37).getD 2 default
def A9:Obj:=(bF 501 eI 37).getD 3 default
def A8:Obj:=(bF 501 eI 37).getD 4 default
def A7:Obj:=(bF 501 eI 37).getD 5 default
def A6:Obj:=(bF 501 eI 37).getD 6 default
def A5:Obj:=(bF 501 eI 37).getD 7 default
def A4:Obj:=(bF 501 eI 37).getD 8 default
def A3:Obj:=(bF 501 eI 37).getD 9 default
def A2:Obj:=(bF 501 eI 37).getD 10 default
def A1:Obj:=(bF 501 eI 37).getD 11 default
def A0:Obj:=(bF 501 eI 37).getD 12 default
def AZ:Obj:=(bF 501 eI 37).getD 13 default
def AY:Obj:=(bF 501 eI 37).getD 14 default
def AX:Obj:=(bF 501 eI 37).getD 15 default
def AW:Obj:=(bF 501 eI 37).getD 16 default
def AV:Obj:=(bF 501 eI 37).getD 17 default
def AU:Obj:=(bF 501 eI 37).getD 18 default
def AR:Obj:=(bF 501 eI 37).getD 19 default
def AQ:Obj:=(bF 501 eI 37).getD 20 default
def AP:Obj:=(bF 501 eI 37).getD 21 default
def AO:Obj:=(bF 501 eI 37).getD 22 default
def AK:Obj:=(bF 501 eI 37).getD 23 default
def AJ:Obj:=(bF 501 eI 37).getD 24 default
def AI:Obj:=(bF 501 eI 37).getD 25 default
def AH:Obj:=(bF 501 eI 37).getD 26 default
def AD:Obj:=(bF 501 eI 37).getD 27 default
def AB:Obj:=(bF 501 eI 37).getD 28 default
def AA:Obj:=(bF 501 eI 37).getD 29 default
def Az:Obj:=(bF 501 eI 37).getD 30 default
def Ay:Obj:=(bF 501 eI 37).getD 31 default
def Ax:Obj:=(bF 501 eI 37).getD 32 default
def Aw:Obj:=(bF 501 eI 37).getD 33 default
def Av:Obj:=(bF 501 eI 37).getD 34 default
def Au:Obj:=(bF 501 eI 37).getD 35 default
def As:Obj:=(bF 501 eI 37).getD 36 default
def Ar:Obj:=(bF 501 eI 37).getD 37 default
def ſ:Obj:=zA (.type "dict") (.dict (Array.mk [ek P q9 165 (zs tO 432),ek P Bk 166 .none,ek P q8 167 .none,ek P q7 168 (.builtin "__main__.__loader__#opaque"),ek P q6 169 .none,ek P q5 170 (.ref 6),ek P q4 171 (.ref 4),ek P qZ 173 (zs dI 172),ek P qY 174 .none,ek P ve 193 (.ref 21),ek P qX 197 (zs qW 196),ek P vd 209 (.ref 28),ek P [78,76] 213 (zs [10] 212),ek P qU 215 (zs [] 214),ek P tu 323 (.ref 101),ek P tH 419 (.ref 185),ek P xU 431 (.ref 196),ek P CJ 493 (.ref 204),ek P oh 500 (.ref 214),ek P CI 2451 (.ref 215)]) 20)
def Jp:Obj:=zA (.type "dict") (.dict (Array.mk [ek P q9 165 (zs xV 2467),ek P Bk 166 .none,ek P q8 167 .none,ek P q7 168 (.builtin "__main__.__loader__#opaque"),ek P q6 169 .none,ek P q5 170 (.ref 6),ek P q4 171 (.ref 4),ek P qZ 173 (zs dI 172),ek P qY 174 .none,ek P ve 193 (.ref 21),ek P qX 197 (zs qW 196),ek P vd 209 (.ref 28),ek P [78,76] 213 (zs [10] 212),ek P qU 215 (zs [] 214),ek P tu 323 (.ref 101),ek P tH 419 (.ref 185),ek P xU 431 (.ref 196),ek P CJ 493 (.ref 204),ek P oh 500 (.ref 214),ek P CI 2451 (.ref 215),ek P tN 2459 (.ref 260),ek P tM 2466 (.ref 267),ek P tL 2474 (.ref 272),ek P tK 2483 (.ref 279),ek P tJ 2494 (.ref 286),ek P tI 2500 (.ref 291)]) 26)
def Gh:Obj:=zF [zi 1,zi 0,.ref 20,zi 6,zi 0,.ref 27,zi 37,zi 0,.ref 34,zi 103,zi 0,.ref 112,zi 140,zi 0,.ref 195,zi 150,zi 0,.ref 213,zi 153,zi 0,.ref 259,zi 158,zi 0,.ref 266,zi 161,zi 0,.ref 271,zi 166,zi 0,.ref 278,zi 171,zi 0,.ref 285,zi 183,zi 0,.ref 290]
def JW:Obj:=zT []
def JV:Obj:=zF []
def JU:Obj:=zT [zs [99,111,100,101] 2455,zs [114] 2456]
def JT:Obj:=zT []
def O4:Obj:=zG .none tN tN (ST 15) 0 .none .none .none .none .none .none
def JS:Obj:=zC [zs tN 2452,zs tN 2453,zs dI 2454,zi 153,zi 1,zi 0,zi 0,zi 3,.ref 254,.bool true,zi 181,.ref 255,.none,.ref 256,.ref 257,.ref 258,zi 2457,zi 153,zs dI 2458]
def JR:Obj:=zG (.type "function") tN tN (ST 15) 3 .none .none .none (zs tO 432) (.ref 259) .none
def JQ:Obj:=zT []
def JP:Obj:=zF []
def JO:Obj:=zT [zs [99,111,100,101] 2463]
def JN:Obj:=zT []
def O0:Obj:=zG .none tM tM (ST 16) 0 .none .none .none .none .none .none
def JM:Obj:=zC [zs tM 2460,zs tM 2461,zs dI 2462,zi 158,zi 1,zi 0,zi 0,zi 3,.ref 261,.bool true,zi 181,.ref 262,.none,.ref 263,.ref 264,.ref 265,zi 2464,zi 158,zs dI 2465]
def JL:Obj:=zG (.type "function") tM tM (ST 16) 3 .none .none .none (zs tO 432) (.ref 266) .none
def JK:Obj:=zT []
def JI:Obj:=zF []
def OZ:Obj:=zG .none tL tL (ST 18) 0 .none .none .none .none .none .none
def JH:Obj:=zC [zs tL 2469,zs tL 2470,zs dI 2471,zi 161,zi 2,zi 0,zi 0,zi 3,.ref 268,.bool true,zi 181,.ref 269,.none,.none,.none,.ref 270,zi 2472,zi 161,zs dI 2473]
def JG:Obj:=zG (.type "function") tL tL (ST 18) 3 .none .none .none (zs xV 2467) (.ref 271) .none
def JF:Obj:=zT []
def JE:Obj:=zF []
def JD:Obj:=zT [zs [108,101,116,116,101,114] 2478,zs [119,97,121] 2479,zs [97,108,112,104,97,98,101,116,115] 2480]
def JC:Obj:=zT []
def OY:Obj:=zG .none tK tK (ST 19) 0 .none .none .none .none .none .none
def JB:Obj:=zC [zs tK 2475,zs tK 2476,zs dI 2477,zi 166,zi 2,zi 0,zi 0,zi 3,.ref 273,.bool true,zi 181,.ref 274,.none,.ref 275,.ref 276,.ref 277,zi 2481,zi 166,zs dI 2482]
def JA:Obj:=zG (.type "function") tK tK (ST 19) 3 .none .none .none (zs xV 2467) (.ref 278) .none
def Jz:Obj:=zT []
def Jy:Obj:=zF []
def Jx:Obj:=zT [zs [114,105,110,103] 2487,zs [115,105,122,101] 2488,zs [107] 2489,zs [115,116,101,112,115] 2490,zs [106] 2491]
def Jw:Obj:=zT []
def OX:Obj:=zG .none tJ tJ (ST 20) 0 .none .none .none .none .none .none
def Jv:Obj:=zC [zs tJ 2484,zs tJ 2485,zs dI 2486,zi 171,zi 1,zi 0,zi 0,zi 3,.ref 280,.bool true,zi 181,.ref 281,.none,.ref 282,.ref 283,.ref 284,zi 2492,zi 171,zs dI 2493]
def Ju:Obj:=zG (.type "function") tJ tJ (ST 20) 3 .none .none .none (zs xV 2467) (.ref 285) .none
def Jt:Obj:=zT []
def Js:Obj:=zF []
def OW:Obj:=zG .none tI tI (ST 21) 0 .none .none .none .none .none .none
def Jr:Obj:=zC [zs tI 2495,zs tI 2496,zs dI 2497,zi 183,zi 1,zi 0,zi 0,zi 3,.ref 287,.bool true,zi 181,.ref 288,.none,.none,.none,.ref 289,zi 2498,zi 183,zs dI 2499]
def Jq:Obj:=zG (.type "function") tI tI (ST 21) 3 .none .none .none (zs xV 2467) (.ref 290) .none
end
def hA (P:Params):Heap:=⟨Array.mk [boot_o_0 P,boot_o_1 P,boot_o_2 P,boot_o_3 P,boot_o_4 P,boot_o_5 P,boot_o_6 P,boot_o_7 P,boot_o_8 P,boot_o_9 P,boot_o_10 P,dQ P,eV P,dP,dO],⟨[],[],[],0,[],[],false,Array.mk [],[],0,false,false,false,0,[2000,10,10],false,0,true,[],[],0,false⟩⟩
def t0 (P:Params):BT:=(.node (boot_o_0 P) (.node (boot_o_1 P) (.node (boot_o_3 P) (lf (boot_o_7 P)) (lf (dQ P))) (.node (boot_o_5 P) (lf (boot_o_9 P)) (lf dP))) (.node (boot_o_2 P) (.node (boot_o_4 P) (lf (boot_o_8 P)) (lf (eV P))) (.node (boot_o_6 P) (lf (boot_o_10 P)) (lf dO))))
def s0 (w:World) (os:OsState):SharedT:=⟨t0 w.params,15,⟨[],[],[],0,[],[],false,Array.mk [],[],0,false,false,false,0,[2000,10,10],false,0,true,[],[],0,false⟩,#[],⟨0,0,0,0⟩,187,os⟩
def t1 (P:Params):BT:=(.node (boot_o_0 P) (.node (boot_o_1 P) (.node (aag P) (.node (boot_o_7 P) (lf eg) (lf dY)) (.node (dQ P) (lf ei) (lf dU))) (.node (boot_o_5 P) (.node (boot_o_9 P) (lf ed) (lf dW)) (.node dP (lf d8) .nil))) (.node (boot_o_2 P) (.node (boot_o_4 P) (.node (boot_o_8 P) (lf ef) (lf dX)) (.node O7 (lf d9) (lf Aq))) (.node (boot_o_6 P) (.node (boot_o_10 P) (lf ec) (lf eh)) (.node dO (lf dZ) .nil))))
def s1 (w:World) (os:OsState):SharedT:=⟨t1 w.params,29,⟨[],[],[],0,[],[],false,Array.mk [],[],0,false,false,false,0,[2000,10,10],false,0,true,[],[],0,false⟩,#[],⟨0,0,0,0⟩,216,os⟩
def t2 (P:Params):BT:=(.node (boot_o_0 P) (.node (boot_o_1 P) (.node (aaf P) (.node (boot_o_7 P) (.node eg (.node (CD P) (lf B3) (lf Bt)) (.node Fh (lf BK) .nil)) (.node dY (.node Cv (lf BU) (lf nf)) (.node Ca (lf BA) .nil))) (.node (dQ P) (.node ei (.node CA (lf BX) (lf Bq)) (.node Ce (lf BH) .nil)) (.node dU (.node Cr (lf Fd) .nil) (.node B6 (lf Bx) .nil)))) (.node (boot_o_5 P) (.node (boot_o_9 P) (.node ed (.node Fj (lf B1) (lf Bs)) (.node Ci (lf BI) .nil)) (.node dW (.node Cu (lf BQ) (lf m9)) (.node B8 (lf Fb) .nil))) (.node dP (.node d8 (.node Cy (lf BW) (lf nh)) (.node Cb (lf BD) .nil)) (.node CG (.node Cp (lf BM) .nil) (.node Ff (lf Bv) .nil))))) (.node (boot_o_2 P) (.node (boot_o_4 P) (.node (boot_o_8 P) (.node ef (.node CC (lf B2) (lf E9)) (.node Cj (lf BJ) .nil)) (.node dX (.node Fi (lf BR) (lf nc)) (.node B9 (lf Bz) .nil))) (.node O6 (.node d9 (.node Cz (lf Fe) (lf (ni P))) (.node Cd (lf BF) .nil)) (.node Aq (.node Cq (lf BO) .nil) (.node B5 (lf Bw) .nil)))) (.node (boot_o_6 P) (.node (boot_o_10 P) (.node ec (.node CB (lf BZ) (lf Br)) (.node Cg (lf Fc) .nil)) (.node eh (.node Ct (lf BP) .nil) (.node B7 (lf By) .nil))) (.node dO (.node dZ (.node Cw (lf BV) (lf ng)) (.node Fg (lf BC) .nil)) (.node CE (.node Ck (lf BL) .nil) (.node B4 (lf Bu) .nil))))))
def s2 (w:World) (os:OsState):SharedT:=⟨t2 w.params,106,⟨[],[],[],0,[],[],false,Array.mk [],[],0,false,false,false,0,[2000,10,10],false,0,true,[],[],0,false⟩,#[],⟨0,0,0,0⟩,324,os⟩
def t3 (P:Params):BT:=(.node (boot_o_0 P) (.node (boot_o_1 P) (.node (aae P) (.node (boot_o_7 P) (.node eg (.node (CD P) (.node B3 (lf sY) .nil) (.node Bt (lf pN) .nil)) (.node Fh (.node BK (lf sW) .nil) (.node s9 (lf pz) .nil))) (.node dY (.node Cv (.node BU (lf sX) .nil) (.node nf (lf pG) .nil)) (.node Ca (.node BA (lf pU) .nil) (.node qy (lf pf) .nil)))) (.node (dQ P) (.node ei (.node CA (.node BX (lf qk) .nil) (.node Bq (lf pJ) .nil)) (.node Ce (.node BH (lf pX) .nil) (.node qC (lf pk) .nil))) (.node dU (.node Cr (.node Fd (lf qd) .nil) (.node qJ (lf pC) .nil)) (.node B6 (.node Bx (lf pQ) .nil) (.node qv (lf o7) .nil))))) (.node (boot_o_5 P) (.node (boot_o_9 P) (.node ed (.node Fj (.node B1 (lf qo) .nil) (.node Bs (lf pL) .nil)) (.node Ci (.node BI (lf pZ) .nil) (.node qE (lf pq) .nil))) (.node dW (.node Cu (.node BQ (lf qf) .nil) (.node m9 (lf pE) .nil)) (.node B8 (.node Fb (lf pS) .nil) (.node qx (lf o9) .nil)))) (.node dP (.node d8 (.node Cy (.node BW (lf qi) .nil) (.node nh (lf sT) .nil)) (.node Cb (.node BD (lf pV) .nil) (.node qA (lf pj) .nil))) (.node CG (.node Cp (.node BM (lf qb) .nil) (.node qH (lf pB) .nil)) (.node Ff (.node Bv (lf sU) .nil) (.node qt (lf o5) .nil)))))) (.node (boot_o_2 P) (.node (boot_o_4 P) (.node (boot_o_8 P) (.node ef (.node CC (.node B2 (lf qp) .nil) (.node E9 (lf pM) .nil)) (.node Cj (.node BJ (lf p8) .nil) (.node qF (lf pw) .nil))) (.node dX (.node Fi (.node BR (lf qg) .nil) (.node nc (lf pF) .nil)) (.node B9 (.node Bz (lf pT) .nil) (.node sZ (lf (pe P)) .nil)))) (.node O5 (.node d9 (.node Cz (.node Fe (lf qj) .nil) (.node (ni P) (lf pI) .nil)) (.node Cd (.node BF (lf pW) .nil) (.node qB (lf sR) .nil))) (.node Aq (.node Cq (.node BO (lf qc) .nil) (.node (qI P) (lf sS) .nil)) (.node B5 (.node Bw (lf pP) .nil) (.node qu (lf o6) .nil))))) (.node (boot_o_6 P) (.node (boot_o_10 P) (.node ec (.node CB (.node BZ (lf qm) .nil) (.node Br (lf pK) .nil)) (.node Cg (.node Fc (lf pY) .nil) (.node qD (lf pn) .nil))) (.node eh (.node Ct (.node BP (lf qe) .nil) (.node qK (lf pD) .nil)) (.node B7 (.node By (lf pR) .nil) (.node qw (lf o8) .nil)))) (.node dO (.node dZ (.node Cw (.node BV (lf qh) .nil) (.node ng (lf pH) .nil)) (.node Fg (.node BC (lf sV) .nil) (.node qz (lf ph) .nil))) (.node CE (.node Ck (.node BL (lf qa) .nil) (.node qG (lf pA) .nil)) (.node B4 (.node Bu (lf pO) .nil) (lf qq)))))))
def s3 (w:World) (os:OsState):SharedT:=⟨t3 w.params,190,⟨[],[],[],0,[],[],false,Array.mk [],[],0,false,false,false,0,[2000,10,10],false,0,true,[],[],0,false⟩,#[],⟨0,0,0,0⟩,420,os⟩
def t4 (P:Params):BT:=(.node (boot_o_0 P) (.node (boot_o_1 P) (.node (aad P) (.node (boot_o_7 P) (.node eg (.node (CD P) (.node B3 (lf sY) (lf sP)) (.node Bt (lf pN) .nil)) (.node Fh (.node BK (lf sW) .nil) (.node s9 (lf pz) .nil))) (.node dY (.node Cv (.node BU (lf sX) .nil) (.node nf (lf pG) .nil)) (.node Ca (.node BA (lf pU) .nil) (.node qy (lf pf) .nil)))) (.node (dQ P) (.node ei (.node CA (.node BX (lf qk) (lf sM)) (.node Bq (lf pJ) .nil)) (.node Ce (.node BH (lf pX) .nil) (.node qC (lf pk) .nil))) (.node dU (.node Cr (.node Fd (lf qd) .nil) (.node qJ (lf pC) .nil)) (.node B6 (.node Bx (lf pQ) .nil) (.node qv (lf o7) .nil))))) (.node (boot_o_5 P) (.node (boot_o_9 P) (.node ed (.node Fj (.node B1 (lf qo) (lf sN)) (.node Bs (lf pL) .nil)) (.node Ci (.node BI (lf pZ) .nil) (.node qE (lf pq) .nil))) (.node dW (.node Cu (.node BQ (lf qf) .nil) (.node m9 (lf pE) .nil)) (.node B8 (.node Fb (lf pS) .nil) (.node qx (lf o9) .nil)))) (.node dP (.node d8 (.node Cy (.node BW (lf qi) .nil) (.node nh (lf sT) .nil)) (.node Cb (.node BD (lf pV) .nil) (.node qA (lf pj) .nil))) (.node CG (.node Cp (.node BM (lf qb) .nil) (.node qH (lf pB) .nil)) (.node Ff (.node Bv (lf sU) .nil) (.node qt (lf o5) .nil)))))) (.node (boot_o_2 P) (.node (boot_o_4 P) (.node (boot_o_8 P) (.node ef (.node CC (.node B2 (lf qp) (lf sO)) (.node E9 (lf pM) .nil)) (.node Cj (.node BJ (lf p8) .nil) (.node qF (lf pw) .nil))) (.node dX (.node Fi (.node BR (lf qg) .nil) (.node nc (lf pF) .nil)) (.node B9 (.node Bz (lf pT) .nil) (.node sZ (lf (pe P)) .nil)))) (.node Gi (.node d9 (.node Cz (.node Fe (lf qj) (lf sL)) (.node (ni P) (lf pI) .nil)) (.node Cd (.node BF (lf pW) .nil) (.node qB (lf sR) .nil))) (.node Aq (.node Cq (.node BO (lf qc) .nil) (.node (qI P) (lf sS) .nil)) (.node B5 (.node Bw (lf pP) .nil) (.node qu (lf o6) .nil))))) (.node (boot_o_6 P) (.node (boot_o_10 P) (.node ec (.node CB (.node BZ (lf qm) (lf u5)) (.node Br (lf pK) .nil)) (.node Cg (.node Fc (lf pY) .nil) (.node qD (lf pn) .nil))) (.node eh (.node Ct (.node BP (lf qe) .nil) (.node qK (lf pD) .nil)) (.node B7 (.node By (lf pR) .nil) (.node qw (lf o8) .nil)))) (.node dO (.node dZ (.node Cw (.node BV (lf qh) .nil) (.node ng (lf pH) .nil)) (.node Fg (.node BC (lf sV) .nil) (.node qz (lf ph) .nil))) (.node CE (.node Ck (.node BL (lf qa) .nil) (.node qG (lf pA) .nil)) (.node B4 (.node Bu (lf pO) .nil) (.node qq (lf sQ) .nil)))))))
def s4 (w:World) (os:OsState):SharedT:=⟨t4 w.params,197,⟨[],[],[],0,[],[],false,Array.mk [],[],0,false,false,false,0,[2000,10,10],false,0,true,[],[],0,false⟩,#[],⟨0,0,0,0⟩,434,os⟩
def t5 (P:Params):BT:=(.node (boot_o_0 P) (.node (boot_o_1 P) (.node (aac P) (.node (boot_o_7 P) (.node eg (.node (CD P) (.node B3 (lf sY) (lf sP)) (.node Bt (lf pN) .nil)) (.node Fh (.node BK (lf sW) (lf uQ)) (.node s9 (lf pz) .nil))) (.node dY (.node Cv (.node BU (lf sX) (lf uX)) (.node nf (lf pG) .nil)) (.node Ca (.node BA (lf pU) .nil) (.node qy (lf pf) .nil)))) (.node (dQ P) (.node ei (.node CA (.node BX (lf qk) (lf sM)) (.node Bq (lf pJ) .nil)) (.node Ce (.node BH (lf pX) .nil) (.node qC (lf pk) .nil))) (.node dU (.node Cr (.node Fd (lf qd) (lf uT)) (.node qJ (lf pC) .nil)) (.node B6 (.node Bx (lf pQ) .nil) (.node qv (lf o7) .nil))))) (.node (boot_o_5 P) (.node (boot_o_9 P) (.node ed (.node Fj (.node B1 (lf qo) (lf sN)) (.node Bs (lf pL) .nil)) (.node Ci (.node BI (lf pZ) .nil) (.node qE (lf pq) .nil))) (.node dW (.node Cu (.node BQ (lf qf) (lf uV)) (.node m9 (lf pE) .nil)) (.node B8 (.node Fb (lf pS) .nil) (.node qx (lf o9) .nil)))) (.node dP (.node d8 (.node Cy (.node BW (lf qi) (lf uZ)) (.node nh (lf sT) .nil)) (.node Cb (.node BD (lf pV) .nil) (.node qA (lf pj) .nil))) (.node CG (.node Cp (.node BM (lf qb) (lf uS)) (.node qH (lf pB) .nil)) (.node Ff (.node Bv (lf sU) .nil) (.node qt (lf o5) .nil)))))) (.node (boot_o_2 P) (.node (boot_o_4 P) (.node (boot_o_8 P) (.node ef (.node CC (.node B2 (lf qp) (lf sO)) (.node E9 (lf pM) .nil)) (.node Cj (.node BJ (lf p8) .nil) (.node qF (lf pw) .nil))) (.node dX (.node Fi (.node BR (lf qg) (lf uW)) (.node nc (lf pF) .nil)) (.node B9 (.node Bz (lf pT) .nil) (.node sZ (lf (pe P)) .nil)))) (.node Gi (.node d9 (.node Cz (.node Fe (lf qj) (lf sL)) (.node (ni P) (lf pI) .nil)) (.node Cd (.node BF (lf pW) .nil) (.node qB (lf sR) .nil))) (.node Aq (.node Cq (.node BO (lf qc) (lf (sJ P))) (.node (qI P) (lf sS) .nil)) (.node B5 (.node Bw (lf pP) .nil) (.node qu (lf o6) .nil))))) (.node (boot_o_6 P) (.node (boot_o_10 P) (.node ec (.node CB (.node BZ (lf qm) (lf u5)) (.node Br (lf pK) .nil)) (.node Cg (.node Fc (lf pY) .nil) (.node qD (lf pn) .nil))) (.node eh (.node Ct (.node BP (lf qe) (lf uU)) (.node qK (lf pD) .nil)) (.node B7 (.node By (lf pR) .nil) (.node qw (lf o8) .nil)))) (.node dO (.node dZ (.node Cw (.node BV (lf qh) (lf uY)) (.node ng (lf pH) .nil)) (.node Fg (.node BC (lf sV) .nil) (.node qz (lf ph) .nil))) (.node CE (.node Ck (.node BL (lf qa) (lf uR)) (.node qG (lf pA) .nil)) (.node B4 (.node Bu (lf pO) .nil) (.node qq (lf sQ) .nil)))))))
def s5 (w:World) (os:OsState):SharedT:=⟨t5 w.params,208,⟨[],[],[],0,[],[],false,Array.mk [],[],0,false,false,false,0,[2000,10,10],false,0,true,[],[],0,false⟩,#[],⟨0,0,0,0⟩,494,os⟩
def t6 (P:Params):BT:=(.node (boot_o_0 P) (.node (boot_o_1 P) (.node (OV P) (.node (boot_o_7 P) (.node eg (.node (CD P) (.node B3 (lf sY) (lf sP)) (.node Bt (lf pN) .nil)) (.node Fh (.node BK (lf sW) (lf uQ)) (.node s9 (lf pz) .nil))) (.node dY (.node Cv (.node BU (lf sX) (lf uX)) (.node nf (lf pG) .nil)) (.node Ca (.node BA (lf pU) .nil) (.node qy (lf pf) .nil)))) (.node (dQ P) (.node ei (.node CA (.node BX (lf qk) (lf sM)) (.node Bq (lf pJ) .nil)) (.node Ce (.node BH (lf pX) (lf xD)) (.node qC (lf pk) .nil))) (.node dU (.node Cr (.node Fd (lf qd) (lf uT)) (.node qJ (lf pC) .nil)) (.node B6 (.node Bx (lf pQ) .nil) (.node qv (lf o7) .nil))))) (.node (boot_o_5 P) (.node (boot_o_9 P) (.node ed (.node Fj (.node B1 (lf qo) (lf sN)) (.node Bs (lf pL) .nil)) (.node Ci (.node BI (lf pZ) (lf xF)) (.node qE (lf pq) .nil))) (.node dW (.node Cu (.node BQ (lf qf) (lf uV)) (.node m9 (lf pE) .nil)) (.node B8 (.node Fb (lf pS) .nil) (.node qx (lf o9) .nil)))) (.node dP (.node d8 (.node Cy (.node BW (lf qi) (lf uZ)) (.node nh (lf sT) .nil)) (.node Cb (.node BD (lf pV) (lf xC)) (.node qA (lf pj) .nil))) (.node CG (.node Cp (.node BM (lf qb) (lf uS)) (.node qH (lf pB) .nil)) (.node Ff (.node Bv (lf sU) .nil) (.node qt (lf o5) .nil)))))) (.node (boot_o_2 P) (.node (boot_o_4 P) (.node (boot_o_8 P) (.node ef (.node CC (.node B2 (lf qp) (lf sO)) (.node E9 (lf pM) .nil)) (.node Cj (.node BJ (lf p8) (lf xG)) (.node qF (lf pw) .nil))) (.node dX (.node Fi (.node BR (lf qg) (lf uW)) (.node nc (lf pF) .nil)) (.node B9 (.node Bz (lf pT) .nil) (.node sZ (lf (pe P)) .nil)))) (.node Bf (.node d9 (.node Cz (.node Fe (lf qj) (lf sL)) (.node (ni P) (lf pI) .nil)) (.node Cd (.node BF (lf pW) (lf Be)) (.node qB (lf sR) .nil))) (.node Aq (.node Cq (.node BO (lf qc) (lf (sJ P))) (.node (qI P) (lf sS) .nil)) (.node B5 (.node Bw (lf pP) .nil) (.node qu (lf o6) .nil))))) (.node (boot_o_6 P) (.node (boot_o_10 P) (.node ec (.node CB (.node BZ (lf qm) (lf u5)) (.node Br (lf pK) .nil)) (.node Cg (.node Fc (lf pY) (lf xE)) (.node qD (lf pn) .nil))) (.node eh (.node Ct (.node BP (lf qe) (lf uU)) (.node qK (lf pD) .nil)) (.node B7 (.node By (lf pR) .nil) (.node qw (lf o8) .nil)))) (.node dO (.node dZ (.node Cw (.node BV (lf qh) (lf uY)) (.node ng (lf pH) .nil)) (.node Fg (.node BC (lf sV) (lf xB)) (.node qz (lf ph) .nil))) (.node CE (.node Ck (.node BL (lf qa) (lf uR)) (.node qG (lf pA) .nil)) (.node B4 (.node Bu (lf pO) .nil) (.node qq (lf sQ) .nil)))))))
def s6 (w:World) (os:OsState):SharedT:=⟨t6 w.params,215,⟨[],[],[],0,[],[],false,Array.mk [],[],0,false,false,false,0,[2000,10,10],false,0,true,[],[],0,false⟩,#[],⟨0,0,0,0⟩,501,os⟩
def tD (P:Params):BT:=(.node (boot_o_0 P) (.node (boot_o_1 P) (.node (OV P) (.node (boot_o_7 P) (.node eg (.node (CD P) (.node B3 (lf sY) (lf sP)) (.node Bt (lf pN) (lf A5))) (.node Fh (.node BK (lf sW) (lf uQ)) (.node s9 (lf pz) (lf AK)))) (.node dY (.node Cv (.node BU (lf sX) (lf uX)) (.node nf (lf pG) (lf AX))) (.node Ca (.node BA (lf pU) (lf Bd)) (.node qy (lf pf) (lf Ay))))) (.node (dQ P) (.node ei (.node CA (.node BX (lf qk) (lf sM)) (.node Bq (lf pJ) (lf A1))) (.node Ce (.node BH (lf pX) (lf xD)) (.node qC (lf pk) (lf AD)))) (.node dU (.node Cr (.node Fd (lf qd) (lf uT)) (.node qJ (lf pC) (lf AR))) (.node B6 (.node Bx (lf pQ) (lf A9)) (.node qv (lf o7) (lf Au)))))) (.node (boot_o_5 P) (.node (boot_o_9 P) (.node ed (.node Fj (.node B1 (lf qo) (lf sN)) (.node Bs (lf pL) (lf A3))) (.node Ci (.node BI (lf pZ) (lf xF)) (.node qE (lf pq) (lf AI)))) (.node dW (.node Cu (.node BQ (lf qf) (lf uV)) (.node m9 (lf pE) (lf AV))) (.node B8 (.node Fb (lf pS) (lf Bb)) (.node qx (lf o9) (lf Aw))))) (.node dP (.node d8 (.node Cy (.node BW (lf qi) (lf uZ)) (.node nh (lf sT) (lf AZ))) (.node Cb (.node BD (lf pV) (lf xC)) (.node qA (lf pj) (lf AA)))) (.node CG (.node Cp (.node BM (lf qb) (lf uS)) (.node qH (lf pB) (lf AP))) (.node Ff (.node Bv (lf sU) (lf A7)) (.node qt (lf o5) (lf Ar))))))) (.node (boot_o_2 P) (.node (boot_o_4 P) (.node (boot_o_8 P) (.node ef (.node CC (.node B2 (lf qp) (lf sO)) (.node E9 (lf pM) (lf A4))) (.node Cj (.node BJ (lf p8) (lf xG)) (.node qF (lf pw) (lf AJ)))) (.node dX (.node Fi (.node BR (lf qg) (lf uW)) (.node nc (lf pF) (lf AW))) (.node B9 (.node Bz (lf pT) (lf Bc)) (.node sZ (lf (pe P)) (lf Ax))))) (.node Bf (.node d9 (.node Cz (.node Fe (lf qj) (lf sL)) (.node (ni P) (lf pI) (lf A0))) (.node Cd (.node BF (lf pW) (lf Be)) (.node qB (lf sR) (lf AB)))) (.node Aq (.node Cq (.node BO (lf qc) (lf (sJ P))) (.node (qI P) (lf sS) (lf AQ))) (.node B5 (.node Bw (lf pP) (lf A8)) (.node qu (lf o6) (lf As)))))) (.node (boot_o_6 P) (.node (boot_o_10 P) (.node ec (.node CB (.node BZ (lf qm) (lf u5)) (.node Br (lf pK) (lf A2))) (.node Cg (.node Fc (lf pY) (lf xE)) (.node qD (lf pn) (lf AH)))) (.node eh (.node Ct (.node BP (lf qe) (lf uU)) (.node qK (lf pD) (lf AU))) (.node B7 (.node By (lf pR) (lf Ba)) (.node qw (lf o8) (lf Av))))) (.node dO (.node dZ (.node Cw (.node BV (lf qh) (lf uY)) (.node ng (lf pH) (lf AY))) (.node Fg (.node BC (lf sV) (lf xB)) (.node qz (lf ph) (lf Az)))) (.node CE (.node Ck (.node BL (lf qa) (lf uR)) (.node qG (lf pA) (lf AO))) (.node B4 (.node Bu (lf pO) (lf A6)) (.node qq (lf sQ) .nil)))))))
def sD (w:World) (os:OsState):SharedT:=⟨tD w.params,254,⟨[],[],[],0,[],[],false,Array.mk [],[],0,false,false,false,0,[2000,10,10],false,0,true,[],[],0,false⟩,#[],⟨0,0,0,0⟩,2451,os⟩
def t7 (P:Params):BT:=(.node (boot_o_0 P) (.node (boot_o_1 P) (.node (ſ P) (.node (boot_o_7 P) (.node eg (.node (CD P) (.node B3 (lf sY) (lf sP)) (.node Bt (lf pN) (lf A5))) (.node Fh (.node BK (lf sW) (lf uQ)) (.node s9 (lf pz) (lf AK)))) (.node dY (.node Cv (.node BU (lf sX) (lf uX)) (.node nf (lf pG) (lf AX))) (.node Ca (.node BA (lf pU) (lf Bd)) (.node qy (lf pf) (lf Ay))))) (.node (dQ P) (.node ei (.node CA (.node BX (lf qk) (lf sM)) (.node Bq (lf pJ) (lf A1))) (.node Ce (.node BH (lf pX) (lf xD)) (.node qC (lf pk) (lf AD)))) (.node dU (.node Cr (.node Fd (lf qd) (lf uT)) (.node qJ (lf pC) (lf AR))) (.node B6 (.node Bx (lf pQ) (lf A9)) (.node qv (lf o7) (lf Au)))))) (.node (boot_o_5 P) (.node (boot_o_9 P) (.node ed (.node Fj (.node B1 (lf qo) (lf sN)) (.node Bs (lf pL) (lf A3))) (.node Ci (.node BI (lf pZ) (lf xF)) (.node qE (lf pq) (lf AI)))) (.node dW (.node Cu (.node BQ (lf qf) (lf uV)) (.node m9 (lf pE) (lf AV))) (.node B8 (.node Fb (lf pS) (lf Bb)) (.node qx (lf o9) (lf Aw))))) (.node dP (.node d8 (.node Cy (.node BW (lf qi) (lf uZ)) (.node nh (lf sT) (lf AZ))) (.node Cb (.node BD (lf pV) (lf xC)) (.node qA (lf pj) (lf AA)))) (.node CG (.node Cp (.node BM (lf qb) (lf uS)) (.node qH (lf pB) (lf AP))) (.node Ff (.node Bv (lf sU) (lf A7)) (.node qt (lf o5) (lf Ar))))))) (.node (boot_o_2 P) (.node (boot_o_4 P) (.node (boot_o_8 P) (.node ef (.node CC (.node B2 (lf qp) (lf sO)) (.node E9 (lf pM) (lf A4))) (.node Cj (.node BJ (lf p8) (lf xG)) (.node qF (lf pw) (lf AJ)))) (.node dX (.node Fi (.node BR (lf qg) (lf uW)) (.node nc (lf pF) (lf AW))) (.node B9 (.node Bz (lf pT) (lf Bc)) (.node sZ (lf (pe P)) (lf Ax))))) (.node Bf (.node d9 (.node Cz (.node Fe (lf qj) (lf sL)) (.node (ni P) (lf pI) (lf A0))) (.node Cd (.node BF (lf pW) (lf Be)) (.node qB (lf sR) (lf AB)))) (.node Aq (.node Cq (.node BO (lf qc) (lf (sJ P))) (.node (qI P) (lf sS) (lf AQ))) (.node B5 (.node Bw (lf pP) (lf A8)) (.node qu (lf o6) (lf As)))))) (.node (boot_o_6 P) (.node (boot_o_10 P) (.node ec (.node CB (.node BZ (lf qm) (lf u5)) (.node Br (lf pK) (lf A2))) (.node Cg (.node Fc (lf pY) (lf xE)) (.node qD (lf pn) (lf AH)))) (.node eh (.node Ct (.node BP (lf qe) (lf uU)) (.node qK (lf pD) (lf AU))) (.node B7 (.node By (lf pR) (lf Ba)) (.node qw (lf o8) (lf Av))))) (.node dO (.node dZ (.node Cw (.node BV (lf qh) (lf uY)) (.node ng (lf pH) (lf AY))) (.node Fg (.node BC (lf sV) (lf xB)) (.node qz (lf ph) (lf Az)))) (.node CE (.node Ck (.node BL (lf qa) (lf uR)) (.node qG (lf pA) (lf AO))) (.node B4 (.node Bu (lf pO) (lf A6)) (.node qq (lf sQ) .nil)))))))
def s7 (w:World) (os:OsState):SharedT:=⟨t7 w.params,254,⟨[],[],[],0,[],[],false,Array.mk [],[],0,false,false,false,0,[2000,10,10],false,0,true,[],[],0,false⟩,#[],⟨0,0,0,0⟩,2452,os⟩
def t8 (P:Params):BT:=(.node (boot_o_0 P) (.node (boot_o_1 P) (.node (Jp P) (.node (boot_o_7 P) (.node eg (.node (CD P) (.node B3 (.node sY (lf JV) .nil) (lf sP)) (.node Bt (.node pN (lf Jt) .nil) (lf A5))) (.node Fh (.node BK (.node sW (lf JH) .nil) (lf uQ)) (.node s9 (lf pz) (lf AK)))) (.node dY (.node Cv (.node BU (.node sX (lf JO) .nil) (lf uX)) (.node nf (lf pG) (lf AX))) (.node Ca (.node BA (.node pU (lf JA) .nil) (lf Bd)) (.node qy (lf pf) (lf Ay))))) (.node (dQ P) (.node ei (.node CA (.node BX (.node qk (lf JS) .nil) (lf sM)) (.node Bq (.node pJ (lf Jq) .nil) (lf A1))) (.node Ce (.node BH (.node pX (lf JD) .nil) (lf xD)) (.node qC (lf pk) (lf AD)))) (.node dU (.node Cr (.node Fd (.node qd (lf JL) .nil) (lf uT)) (.node qJ (lf pC) (lf AR))) (.node B6 (.node Bx (.node pQ (lf Jw) .nil) (lf A9)) (.node qv (lf o7) (lf Au)))))) (.node (boot_o_5 P) (.node (boot_o_9 P) (.node ed (.node Fj (.node B1 (.node qo (lf JT) .nil) (lf sN)) (.node Bs (.node pL (lf OW) .nil) (lf A3))) (.node Ci (.node BI (.node pZ (lf JF) .nil) (lf xF)) (.node qE (lf pq) (lf AI)))) (.node dW (.node Cu (.node BQ (.node qf (lf O0) .nil) (lf uV)) (.node m9 (lf pE) (lf AV))) (.node B8 (.node Fb (.node pS (lf Jy) .nil) (lf Bb)) (.node qx (lf o9) (lf Aw))))) (.node dP (.node d8 (.node Cy (.node BW (.node qi (lf JQ) .nil) (lf uZ)) (.node nh (lf sT) (lf AZ))) (.node Cb (.node BD (.node pV (lf OY) .nil) (lf xC)) (.node qA (lf pj) (lf AA)))) (.node CG (.node Cp (.node BM (.node qb (lf JI) .nil) (lf uS)) (.node qH (lf pB) (lf AP))) (.node Ff (.node Bv (.node sU (lf Jv) .nil) (lf A7)) (.node qt (lf o5) (lf Ar))))))) (.node (boot_o_2 P) (.node (boot_o_4 P) (.node (boot_o_8 P) (.node ef (.node CC (.node B2 (.node qp (lf JU) .nil) (lf sO)) (.node E9 (.node pM (lf Js) .nil) (lf A4))) (.node Cj (.node BJ (.node p8 (lf JG) .nil) (lf xG)) (.node qF (lf pw) (lf AJ)))) (.node dX (.node Fi (.node BR (.node qg (lf JN) .nil) (lf uW)) (.node nc (lf pF) (lf AW))) (.node B9 (.node Bz (.node pT (lf Jz) .nil) (lf Bc)) (.node sZ (lf (pe P)) (lf Ax))))) (.node Gh (.node d9 (.node Cz (.node Fe (.node qj (lf JR) .nil) (lf sL)) (.node (ni P) (lf pI) (lf A0))) (.node Cd (.node BF (.node pW (lf JC) .nil) (lf Be)) (.node qB (lf sR) (lf AB)))) (.node Aq (.node Cq (.node BO (.node qc (lf JK) .nil) (lf (sJ P))) (.node (qI P) (lf sS) (lf AQ))) (.node B5 (.node Bw (.node pP (lf OX) .nil) (lf A8)) (.node qu (lf o6) (lf As)))))) (.node (boot_o_6 P) (.node (boot_o_10 P) (.node ec (.node CB (.node BZ (.node qm (lf O4) .nil) (lf u5)) (.node Br (.node pK (lf Jr) .nil) (lf A2))) (.node Cg (.node Fc (.node pY (lf JE) .nil) (lf xE)) (.node qD (lf pn) (lf AH)))) (.node eh (.node Ct (.node BP (.node qe (lf JM) .nil) (lf uU)) (.node qK (lf pD) (lf AU))) (.node B7 (.node By (.node pR (lf Jx) .nil) (lf Ba)) (.node qw (lf o8) (lf Av))))) (.node dO (.node dZ (.node Cw (.node BV (.node qh (lf JP) .nil) (lf uY)) (.node ng (lf pH) (lf AY))) (.node Fg (.node BC (.node sV (lf JB) .nil) (lf xB)) (.node qz (lf ph) (lf Az)))) (.node CE (.node Ck (.node BL (.node qa (lf OZ) .nil) (lf uR)) (.node qG (lf pA) (lf AO))) (.node B4 (.node Bu (.node pO (lf Ju) .nil) (lf A6)) (.node qq (lf sQ) (lf JW))))))))
def s8 (w:World) (os:OsState):SharedT:=⟨t8 w.params,292,⟨[],[],[],0,[],[],false,Array.mk [],[],0,false,false,false,0,[2000,10,10],false,0,true,[],[],0,false⟩,#[],⟨0,0,0,0⟩,2501,os⟩
theorem QM: ∀(w:World) (os:OsState),Ss fK PW w 11 (some (.ref 6)) 12 ⟨boot_heap w.params,#[],boot_drawn,boot_toks,os⟩ (topStub PW)=some (⟨hA w.params,#[],⟨0,0,0,0⟩,187,os⟩,⟨Ic fK cM,cM,⟨0,0,0,0⟩,[topFrame qM]⟩):=by
 intro w os;kernel_rfl
theorem Iv: ∀(w:World) (os:OsState),yB fK PW w 11 (some (.ref 6)) 1 1 ⟨hA w.params,#[],⟨0,0,0,0⟩,187,os⟩ (blockOf (behindTheImports PW) dF cM ⟨0,0,0,0⟩ [topFrame qM])=some (.next,(s0 w os).abs,cM,⟨0,0,0,0⟩):=by
 intro w os;kernel_rfl
theorem QH: ∀(w:World) (os:OsState),eW fK PW w 11 (some (.ref 6)) 1 109 (s0 w os) ⟨(tE (((behindTheImports PW).drop 0).take 7) dF).wrap doneF deadEnd id id,cM,⟨0,0,0,0⟩,[topFrame qM]⟩=some (.next,s1 w os,cM,⟨36,0,36,11⟩):=by
 intro w os;kernel_rfl
theorem Qz: ∀(w:World) (os:OsState) (N:Nat) (r:Shared),topRun treeTable PW w 11 (some (.ref 6)) N (s1 w os).abs (restOf ((behindTheImports PW).drop 7) dF cM ⟨36,0,36,11⟩ [topFrame qM])=some r→topRun treeTable PW w 11 (some (.ref 6)) (109+N) (s0 w os).abs (restOf ((behindTheImports PW).drop 0) dF cM ⟨0,0,0,0⟩ [topFrame qM])=some r:=fun w os N r h=>
 eX (l:=((behindTheImports PW).drop 0).take 7) (rest:=(behindTheImports PW).drop 7) (QH w os) h
theorem QG: ∀(w:World) (os:OsState),eW fK PW w 11 (some (.ref 6)) 1 494 (s1 w os) ⟨(tE (((behindTheImports PW).drop 7).take 1) dF).wrap doneF deadEnd id id,cM,⟨36,0,36,11⟩,[topFrame qM]⟩=some (.next,s2 w os,cM,⟨37,0,102,47⟩):=by
 intro w os;kernel_rfl
theorem Qy: ∀(w:World) (os:OsState) (N:Nat) (r:Shared),topRun treeTable PW w 11 (some (.ref 6)) N (s2 w os).abs (restOf ((behindTheImports PW).drop 8) dF cM ⟨37,0,102,47⟩ [topFrame qM])=some r→topRun treeTable PW w 11 (some (.ref 6)) (494+N) (s1 w os).abs (restOf ((behindTheImports PW).drop 7) dF cM ⟨36,0,36,11⟩ [topFrame qM])=some r:=fun w os N r h=>
 eX (l:=((behindTheImports PW).drop 7).take 1) (rest:=(behindTheImports PW).drop 8) (QG w os) h
theorem QF: ∀(w:World) (os:OsState),eW fK PW w 11 (some (.ref 6)) 1 505 (s2 w os) ⟨(tE (((behindTheImports PW).drop 8).take 1) dF).wrap doneF deadEnd id id,cM,⟨37,0,102,47⟩,[topFrame qM]⟩=some (.next,s3 w os,cM,⟨103,0,138,32⟩):=by
 intro w os;kernel_rfl
theorem Qx: ∀(w:World) (os:OsState) (N:Nat) (r:Shared),topRun treeTable PW w 11 (some (.ref 6)) N (s3 w os).abs (restOf ((behindTheImports PW).drop 9) dF cM ⟨103,0,138,32⟩ [topFrame qM])=some r→topRun treeTable PW w 11 (some (.ref 6)) (505+N) (s2 w os).abs (restOf ((behindTheImports PW).drop 8) dF cM ⟨37,0,102,47⟩ [topFrame qM])=some r:=fun w os N r h=>
 eX (l:=((behindTheImports PW).drop 8).take 1) (rest:=(behindTheImports PW).drop 9) (QF w os) h
theorem QE: ∀(w:World) (os:OsState),eW fK PW w 11 (some (.ref 6)) 1 51 (s3 w os) ⟨(tE (((behindTheImports PW).drop 9).take 3) dF).wrap doneF deadEnd id id,cM,⟨103,0,138,32⟩,[topFrame qM]⟩=some (.next,s4 w os,cM,⟨148,0,148,8⟩):=by
 intro w os;kernel_rfl
theorem Qw: ∀(w:World) (os:OsState) (N:Nat) (r:Shared),topRun treeTable PW w 11 (some (.ref 6)) N (s4 w os).abs (restOf ((behindTheImports PW).drop 12) dF cM ⟨148,0,148,8⟩ [topFrame qM])=some r→topRun treeTable PW w 11 (some (.ref 6)) (51+N) (s3 w os).abs (restOf ((behindTheImports PW).drop 9) dF cM ⟨103,0,138,32⟩ [topFrame qM])=some r:=fun w os N r h=>
 eX (l:=((behindTheImports PW).drop 9).take 3) (rest:=(behindTheImports PW).drop 12) (QE w os) h
theorem lT: ∀(w:World) (os:OsState),eW fK PW ((w.withFollow "special-get-raises" false).withFollow "set-order" false) 11 (some (.ref 6)) 1 999 (s4 ((w.withFollow "special-get-raises" false).withFollow "set-order" false) os) ⟨(tE (((behindTheImports PW).drop 12).take 1) dF).wrap doneF deadEnd id id,cM,⟨148,0,148,8⟩,[topFrame qM]⟩=some (.next,s5 ((w.withFollow "special-get-raises" false).withFollow "set-order" false) os,cM,⟨149,0,149,6⟩):=by
 intro w os;kernel_rfl
theorem mW: ∀(w:World) (os:OsState),eW fK PW ((w.withFollow "special-get-raises" true).withFollow "set-order" false) 11 (some (.ref 6)) 1 999 (s4 ((w.withFollow "special-get-raises" true).withFollow "set-order" false) os) ⟨(tE (((behindTheImports PW).drop 12).take 1) dF).wrap doneF deadEnd id id,cM,⟨148,0,148,8⟩,[topFrame qM]⟩=some (.next,s5 ((w.withFollow "special-get-raises" true).withFollow "set-order" false) os,cM,⟨149,0,149,6⟩):=by
 intro w os;kernel_rfl
theorem mV: ∀(w:World) (os:OsState),eW fK PW ((w.withFollow "special-get-raises" false).withFollow "set-order" true) 11 (some (.ref 6)) 1 999 (s4 ((w.withFollow "special-get-raises" false).withFollow "set-order" true) os) ⟨(tE (((behindTheImports PW).drop 12).take 1) dF).wrap doneF deadEnd id id,cM,⟨148,0,148,8⟩,[topFrame qM]⟩=some (.next,s5 ((w.withFollow "special-get-raises" false).withFollow "set-order" true) os,cM,⟨149,0,149,6⟩):=by
 intro w os;kernel_rfl
theorem oq: ∀(w:World) (os:OsState),eW fK PW ((w.withFollow "special-get-raises" true).withFollow "set-order" true) 11 (some (.ref 6)) 1 999 (s4 ((w.withFollow "special-get-raises" true).withFollow "set-order" true) os) ⟨(tE (((behindTheImports PW).drop 12).take 1) dF).wrap doneF deadEnd id id,cM,⟨148,0,148,8⟩,[topFrame qM]⟩=some (.next,s5 ((w.withFollow "special-get-raises" true).withFollow "set-order" true) os,cM,⟨149,0,149,6⟩):=by
 intro w os;kernel_rfl
theorem QD: ∀(w:World) (os:OsState),eW fK PW w 11 (some (.ref 6)) 1 999 (s4 w os) ⟨(tE (((behindTheImports PW).drop 12).take 1) dF).wrap doneF deadEnd id id,cM,⟨148,0,148,8⟩,[topFrame qM]⟩=some (.next,s5 w os,cM,⟨149,0,149,6⟩):=fun w os=>byRow2 "set-order" (P:=fun w=>eW fK PW w 11 (some (.ref 6)) 1 999 (s4 w os) ⟨(tE (((behindTheImports PW).drop 12).take 1) dF).wrap doneF deadEnd id id,cM,⟨148,0,148,8⟩,[topFrame qM]⟩=some (.next,s5 w os,cM,⟨149,0,149,6⟩))
 (byRow2 "special-get-raises" (P:=fun w=>eW fK PW (w.withFollow "set-order" false) 11 (some (.ref 6)) 1 999 (s4 (w.withFollow "set-order" false) os) ⟨(tE (((behindTheImports PW).drop 12).take 1) dF).wrap doneF deadEnd id id,cM,⟨148,0,148,8⟩,[topFrame qM]⟩=some (.next,s5 (w.withFollow "set-order" false) os,cM,⟨149,0,149,6⟩)) (fun w=>lT w os) (fun w=>mW w os))
 (byRow2 "special-get-raises" (P:=fun w=>eW fK PW (w.withFollow "set-order" true) 11 (some (.ref 6)) 1 999 (s4 (w.withFollow "set-order" true) os) ⟨(tE (((behindTheImports PW).drop 12).take 1) dF).wrap doneF deadEnd id id,cM,⟨148,0,148,8⟩,[topFrame qM]⟩=some (.next,s5 (w.withFollow "set-order" true) os,cM,⟨149,0,149,6⟩)) (fun w=>mV w os) (fun w=>oq w os)) w
theorem Qv: ∀(w:World) (os:OsState) (N:Nat) (r:Shared),topRun treeTable PW w 11 (some (.ref 6)) N (s5 w os).abs (restOf ((behindTheImports PW).drop 13) dF cM ⟨149,0,149,6⟩ [topFrame qM])=some r→topRun treeTable PW w 11 (some (.ref 6)) (999+N) (s4 w os).abs (restOf ((behindTheImports PW).drop 12) dF cM ⟨148,0,148,8⟩ [topFrame qM])=some r:=fun w os N r h=>
 eX (l:=((behindTheImports PW).drop 12).take 1) (rest:=(behindTheImports PW).drop 13) (QD w os) h
theorem QC: ∀(w:World) (os:OsState),eW fK PW w 11 (some (.ref 6)) 1 30 (s5 w os) ⟨(tE (((behindTheImports PW).drop 13).take 1) dF).wrap doneF deadEnd id id,cM,⟨149,0,149,6⟩,[topFrame qM]⟩=some (.next,s6 w os,cM,⟨150,0,151,30⟩):=by
 intro w os;kernel_rfl
theorem Qu: ∀(w:World) (os:OsState) (N:Nat) (r:Shared),topRun treeTable PW w 11 (some (.ref 6)) N (s6 w os).abs (restOf ((behindTheImports PW).drop 14) dF cM ⟨150,0,151,30⟩ [topFrame qM])=some r→topRun treeTable PW w 11 (some (.ref 6)) (30+N) (s5 w os).abs (restOf ((behindTheImports PW).drop 13) dF cM ⟨149,0,149,6⟩ [topFrame qM])=some r:=fun w os N r h=>
 eX (l:=((behindTheImports PW).drop 13).take 1) (rest:=(behindTheImports PW).drop 14) (QC w os) h
theorem w6:ST 14= .Assign [.Name (Zs CI) ⟨152,0,152,13⟩] (.Dict (Hr (ST 14)) (GL (ST 14)) ⟨152,16,152,8704⟩) ⟨152,0,152,8704⟩:=by kernel_rfl
theorem Ew:wg (GV (Hr (ST 14)) (GL (ST 14)))=((Hr (ST 14)),(GL (ST 14)),eI):=by kernel_rfl
theorem lz:eI.length=650:=by kernel_rfl
theorem w7:lZ (eI.map fun d=>hashInt d.1)=true:=by kernel_rfl
theorem Ib: ∀P:Params,vD (t6 P) 215 (bN (iW 501 eI 37) 650::bF 501 eI 37)=true:=by intro P;kernel_rfl
theorem Ex: ∀P:Params,D0 (t6 P) 215 (bN (iW 501 eI 37) 650::bF 501 eI 37)=tD P:=by intro P;kernel_rfl
theorem MI:215+(bN (iW 501 eI 37) 650::bF 501 eI 37).length=254:=by kernel_rfl
theorem Ia: ∀(w:World) (os:OsState),jY (s6 w os).abs (s6 w os).abs.heap (iW 501 eI 37) eI.length (bF 501 eI 37) (501+3*eI.length)=(sD w os).abs:=by
 intro w os;have e:=nK (life:=⟨[],[],[],0,[],[],false,Array.mk [],[],0,false,false,false,0,[2000,10,10],false,0,true,[],[],0,false⟩) _ _ _ (Ib w.params);rw[Ex,MI,ug] at e
 rw[lz];exact congrArg (fun h=>(⟨h,#[],⟨0,0,0,0⟩,2451,os⟩:Shared)) e
theorem dictSize: ∀(w:World) (os:OsState),(s6 w os).abs.heap.objs.size=215:=fun w os=>absHeap_size _ _ _
theorem zM: ∀(w:World) (os:OsState) gd lv,eW fK PW w 11 (some (.ref 6)) 1 60 (sD w os) ⟨(z8 dF (Zs CI) (.ref 215)).wrap (fun U=>.pure (.done .next)) deadEnd gd lv,cM,⟨152,0,152,13⟩,[topFrame qM]⟩=some (.next,s7 w os,cM,⟨152,0,152,13⟩):=by
 intro w os gd lv;kernel_rfl
theorem Qt: ∀(w:World) (os:OsState) (N:Nat) (r:Shared),topRun treeTable PW w 11 (some (.ref 6)) N (s7 w os).abs (restOf ((behindTheImports PW).drop 15) dF cM ⟨152,0,152,13⟩ [topFrame qM])=some r→topRun treeTable PW w 11 (some (.ref 6)) (78063+N) (s6 w os).abs (restOf ((behindTheImports PW).drop 14) dF cM ⟨150,0,151,30⟩ [topFrame qM])=some r:=by
 intro w os N r h;have hR:Rn treeTable PW w 11 (some (.ref 6)) qM cM (2000*(37+2)+60+3) (exec (ST 14) dF) (s6 w os).abs ⟨150,0,151,30⟩ .next (s7 w os).abs ⟨152,0,152,13⟩:=by
  rw[w6];refine yE (j:=37) Ew (by rw[lz];decide) (by rw[lz];decide) (by rw[lz];decide) (kG _ w7) (by rw[dictSize];decide) (by rw[dictSize];decide) (by rfl) ?_
  rw[dictSize];have ht:(s6 w os).abs.toks=501:=rfl;rw[ht,Ia];exact yJ (zM w os)
 exact Dn (st:=ST 14) (rest:=(behindTheImports PW).drop 15) hR h
theorem QB: ∀(w:World) (os:OsState),eW fK PW w 11 (some (.ref 6)) 1 185 (s7 w os) ⟨(tE (((behindTheImports PW).drop 15).take 7) dF).wrap doneF deadEnd id id,cM,⟨152,0,152,13⟩,[topFrame qM]⟩=some (.next,s8 w os,cM,⟨183,0,255,15⟩):=by
 intro w os;kernel_rfl
theorem Qs: ∀(w:World) (os:OsState) (N:Nat) (r:Shared),topRun treeTable PW w 11 (some (.ref 6)) N (s8 w os).abs (restOf ((behindTheImports PW).drop 22) dF cM ⟨183,0,255,15⟩ [topFrame qM])=some r→topRun treeTable PW w 11 (some (.ref 6)) (185+N) (s7 w os).abs (restOf ((behindTheImports PW).drop 15) dF cM ⟨152,0,152,13⟩ [topFrame qM])=some r:=fun w os N r h=>
 eX (l:=((behindTheImports PW).drop 15).take 7) (rest:=(behindTheImports PW).drop 22) (QB w os) h
theorem SD: ∀(w:World) (os:OsState),G7 fK PW w 11 (some (.ref 6)) 2 (s8 w os).abs ⟨doneF .next,cM,⟨183,0,255,15⟩,[topFrame qM]⟩=some (s8 w os).abs:=by
 intro w os;kernel_rfl
theorem Qe: ∀(w:World) (os:OsState),topRun treeTable PW w 11 (some (.ref 6)) (12+(1+(109+(494+(505+(51+(999+(30+(78063+(185+2)))))))))) ⟨boot_heap w.params,#[],boot_drawn,boot_toks,os⟩ (topStub PW)=some (s8 w os).abs:=fun w os=>
 have SA:topRun treeTable PW w 11 (some (.ref 6)) 2 (s8 w os).abs (restOf ((behindTheImports PW).drop 22) dF cM ⟨183,0,255,15⟩ [topFrame qM])=some (s8 w os).abs:=C2 (SD w os)
 C1 (QM w os) (we (Iv w os) (Qz w os _ _ (Qy w os _ _ (Qx w os _ _ (Qw w os _ _ (Qv w os _ _ (Qu w os _ _ (Qt w os _ _ (Qs w os _ _ SA)))))))))
def hF (P:Params):Heap:=⟨Array.mk [boot_o_0 P,boot_o_1 P,boot_o_2 P,Jp P,boot_o_4 P,boot_o_5 P,boot_o_6 P,boot_o_7 P,boot_o_8 P,boot_o_9 P,boot_o_10 P,dQ P,Gh,dP,dO,eg,ef,ed,ec,ei,d9,d8,dZ,dY,dX,dW,eh,dU,Aq,CG,CE,CD P,CC,Fj,CB,CA,Cz,Cy,Cw,Cv,Fi,Cu,Ct,Cr,Cq,Cp,Ck,Fh,Cj,Ci,Cg,Ce,Cd,Cb,Fg,Ca,B9,B8,B7,B6,B5,Ff,B4,B3,B2,B1,BZ,BX,Fe,BW,BV,BU,BR,BQ,BP,Fd,BO,BM,BL,BK,BJ,BI,Fc,BH,BF,BD,BC,BA,Bz,Fb,By,Bx,Bw,Bv,Bu,Bt,E9,Bs,Br,Bq,ni P,nh,ng,nf,nc,m9,qK,qJ,qI P,qH,qG,s9,qF,qE,qD,qC,qB,qA,qz,qy,sZ,qx,qw,qv,qu,qt,qq,sY,qp,qo,qm,qk,qj,qi,qh,sX,qg,qf,qe,qd,qc,qb,qa,sW,p8,pZ,pY,pX,pW,pV,sV,pU,pT,pS,pR,pQ,pP,sU,pO,pN,pM,pL,pK,pJ,pI,sT,pH,pG,pF,pE,pD,pC,sS,pB,pA,pz,pw,pq,pn,pk,sR,pj,ph,pf,pe P,o9,o8,o7,o6,o5,sQ,sP,sO,sN,u5,sM,sL,uZ,uY,uX,uW,uV,uU,uT,sJ P,uS,uR,uQ,xG,xF,xE,xD,Be,xC,xB,Bd,Bc,Bb,Ba,A9,A8,A7,A6,A5,A4,A3,A2,A1,A0,AZ,AY,AX,AW,AV,AU,AR,AQ,AP,AO,AK,AJ,AI,AH,AD,AB,AA,Az,Ay,Ax,Aw,Av,Au,As,Ar,JW,JV,JU,JT,O4,JS,JR,JQ,JP,JO,JN,O0,JM,JL,JK,JI,OZ,JH,JG,JF,JE,JD,JC,OY,JB,JA,Jz,Jy,Jx,Jw,OX,Jv,Ju,Jt,Js,OW,Jr,Jq],⟨[],[],[],0,[],[],false,Array.mk [],[],0,false,false,false,0,[2000,10,10],false,0,true,[],[],0,false⟩⟩
theorem MD: ∀P:Params,absHeap (t8 P) 292 ⟨[],[],[],0,[],[],false,Array.mk [],[],0,false,false,false,0,[2000,10,10],false,0,true,[],[],0,false⟩=hF P:=by intro P;kernel_rfl
noncomputable def asF:List Nat:=[0,1,2,3,4,5,6,7,9,10,11,13,14,15,17,18,20,21,22,24,25,27,28,29,30,31,32,34,35,36,38,39,41,42,43,45,46,48,49,50,52,53,55,56,57,59,60,62,63,64,66,67,69,70,71,73,74,76,77,78,80,81,83,84,85,87,88,90,91,92,94,95,97,98,99,100,101,102,103,104,105,106,107,108,109,110,112,113,114,115,116,118,119,121,122,123,125,126,128,129,130,131,133,134,136,137,138,139,141,142,144,145,146,148,149,151,152,153,155,156,158,159,160,161,163,164,166,167,168,170,171,173,174,175,176,178,179,181,182,183,184,185,186,187,188,189,190,192,193,195,196,197,198,199,200,201,202,203,204,205,206,207,208,210,211,213,214,215,216,217,218,219,220,221,222,223,224,225,226,227,228,229,230,231,232,233,234,235,236,237,238,239,240,241,242,243,244,245,246,247,248,249,250,251,252,253,254,256,257,259,260,261,263,264,266,267,268,271,272,273,275,276,278,279,280,282,283,285,286,287,290,291]
def KF (P:Params):Frag:=[(0,boot_o_0 P),(1,boot_o_1 P),(2,boot_o_2 P),(3,Jp P),(4,boot_o_4 P),(5,boot_o_5 P),(6,boot_o_6 P),(7,boot_o_7 P),(9,boot_o_9 P),(10,boot_o_10 P),(11,dQ P),(13,dP),(14,dO),(15,eg),(17,ed),(18,ec),(20,d9),(21,d8),(22,dZ),(24,dX),(25,dW),(27,dU),(28,Aq),(29,CG),(30,CE),(31,CD P),(32,CC),(34,CB),(35,CA),(36,Cz),(38,Cw),(39,Cv),(41,Cu),(42,Ct),(43,Cr),(45,Cp),(46,Ck),(48,Cj),(49,Ci),(50,Cg),(52,Cd),(53,Cb),(55,Ca),(56,B9),(57,B8),(59,B6),(60,B5),(62,B4),(63,B3),(64,B2),(66,BZ),(67,BX),(69,BW),(70,BV),(71,BU),(73,BQ),(74,BP),(76,BO),(77,BM),(78,BL),(80,BJ),(81,BI),(83,BH),(84,BF),(85,BD),(87,BA),(88,Bz),(90,By),(91,Bx),(92,Bw),(94,Bu),(95,Bt),(97,Bs),(98,Br),(99,Bq),(100,ni P),(101,nh),(102,ng),(103,nf),(104,nc),(105,m9),(106,qK),(107,qJ),(108,qI P),(109,qH),(110,qG),(112,qF),(113,qE),(114,qD),(115,qC),(116,qB),(118,qz),(119,qy),(121,qx),(122,qw),(123,qv),(125,qt),(126,qq),(128,qp),(129,qo),(130,qm),(131,qk),(133,qi),(134,qh),(136,qg),(137,qf),(138,qe),(139,qd),(141,qb),(142,qa),(144,p8),(145,pZ),(146,pY),(148,pW),(149,pV),(151,pU),(152,pT),(153,pS),(155,pQ),(156,pP),(158,pO),(159,pN),(160,pM),(161,pL),(163,pJ),(164,pI),(166,pH),(167,pG),(168,pF),(170,pD),(171,pC),(173,pB),(174,pA),(175,pz),(176,pw),(178,pn),(179,pk),(181,pj),(182,ph),(183,pf),(184,pe P),(185,o9),(186,o8),(187,o7),(188,o6),(189,o5),(190,sQ),(192,sO),(193,sN),(195,sM),(196,sL),(197,uZ),(198,uY),(199,uX),(200,uW),(201,uV),(202,uU),(203,uT),(204,sJ P),(205,uS),(206,uR),(207,uQ),(208,xG),(210,xE),(211,xD),(213,xC),(214,xB),(215,Bd),(216,Bc),(217,Bb),(218,Ba),(219,A9),(220,A8),(221,A7),(222,A6),(223,A5),(224,A4),(225,A3),(226,A2),(227,A1),(228,A0),(229,AZ),(230,AY),(231,AX),(232,AW),(233,AV),(234,AU),(235,AR),(236,AQ),(237,AP),(238,AO),(239,AK),(240,AJ),(241,AI),(242,AH),(243,AD),(244,AB),(245,AA),(246,Az),(247,Ay),(248,Ax),(249,Aw),(250,Av),(251,Au),(252,As),(253,Ar),(254,JW),(256,JU),(257,JT),(259,JS),(260,JR),(261,JQ),(263,JO),(264,JN),(266,JM),(267,JL),(268,JK),(271,JH),(272,JG),(273,JF),(275,JD),(276,JC),(278,JB),(279,JA),(280,Jz),(282,Jx),(283,Jw),(285,Jv),(286,Ju),(287,Jt),(290,Jr),(291,Jq)]
def S0:List Nat:=asF++[8,16,23,37,44,51,58,65,72,79,86,93,117,124,132,140,147,154,162,169,177,191,209,255,262,269,274,281,288]
def KW (P:Params):Frag:=KF P++[(8,boot_o_8 P),(16,ef),(23,dY),(37,Cy),(44,Cq),(51,Ce),(58,B7),(65,B1),(72,BR),(79,BK),(86,BC),(93,Bv),(117,qA),(124,qu),(132,qj),(140,qc),(147,pX),(154,pR),(162,pK),(169,pE),(177,pq),(191,sP),(209,xF),(255,JV),(262,JP),(269,JI),(274,JE),(281,Jy),(288,Js)]
theorem IE: ∀P:Params,S0=(KW P).map (·.1):=fun P=>by kernel_rfl
theorem Lf: ∀(w:World) (os:OsState),S0.map (⟨hF w.params,#[],⟨0,0,0,0⟩,2501,os⟩:Shared).heap.get? =(KW w.params).map fun p=>some p.2:=by
 intro w os;kernel_rfl
def qV:Program:={PW with main:={PW.main with body:=[ST 21]}}
noncomputable def mr:List Str:=["_wall","ELLIPSIS_MARKER","_ellipsis_match","NL","EMPTYSTRING","_ValueFormatter","_Accumulator","Int2AP","b1_set","in_table_b1","b3_exceptions","map_table_b3","in_table_c11","_law_word","_law_typed","_law_turn"]
theorem KZ: ∀w:World,(fencedOpening treeTable PW w 100000).map (fun s=>(s.heap,s.gens,s.drawn,s.toks))=some (boot_heap w.params,Array.mk [],boot_drawn,boot_toks):=
 boot_open (by kernel_rfl) dC (fun s=>by kernel_rfl)
theorem KQ: ∀w:World,((boot_heap w.params).isNs mainGlobals&&(Array.mk ([]:List GenState)).size==0,(boot_heap w.params).objs.size,(boot_heap w.params).nsMap mainGlobals "__annotations__")=(true,11,(some (.ref 6))):=by
 intro w;kernel_rfl
theorem Ld: ∀(w:World) (os:OsState),(staticsOk (importedModules PW.main.body) (boot_heap w.params) (hF w.params)&&namesBound PW (hF w.params)&&gensDone (⟨hF w.params,#[],⟨0,0,0,0⟩,2501,os⟩:Shared)&&laidKept (boot_heap w.params) (hF w.params))=true:=by
 intro w os;kernel_rfl
theorem Le: ∀(w:World) (os:OsState),openSeen qV mr (importedModules PW.main.body) (fun U=>true) true (⟨hF w.params,#[],⟨0,0,0,0⟩,2501,os⟩:Shared)=openGood qV mr:=by
 intro w os;rw[show @openSeen=PySem.W.Fast.tw4187177175401517315 from PySem.W.Fast.te4187177175401517315]
 kernel_rfl
theorem Li:LeftO PW qV mr (fun U=>true) (fun s=>S0.map s.heap.get?) (fun w=>(KW w.params).map fun p=>some p.2) 100000:=
 LeftO.of_pieces (H₁:=hF) KZ KQ (fun w os=>(Qe w os).trans (by show some (⟨absHeap (t8 w.params) 292 ⟨[],[],[],0,[],[],false,Array.mk [],[],0,false,false,false,0,[2000,10,10],false,0,true,[],[],0,false⟩,#[],⟨0,0,0,0⟩,2501,os⟩:Shared)=_;rw[MD])) dC (fun w=>funext fun os=>by rw[Ld,Le,Lf])
section
variable {P:Params}{mg mb:Str→Option Value}
noncomputable def adV:mP:=⟨196,272,279,286,28,214,267,260,204,215⟩
theorem SR:dS ⟨KF P,mg,mb⟩ "Int2AP" "Int2AP" (ST 10) 196:=⟨_,_,_,_,_,_,_,rfl,rfl,by kernel_rfl⟩
theorem Ie:dS ⟨KF P,mg,mb⟩ "_law_word" "_law_word" (ST 18) 272:=⟨_,_,_,_,_,_,_,rfl,rfl,by kernel_rfl⟩
theorem Ey:dS ⟨KF P,mg,mb⟩ "_law_typed" "_law_typed" (ST 19) 279:=⟨_,_,_,_,_,_,_,rfl,rfl,by kernel_rfl⟩
theorem Ig:dS ⟨KF P,mg,mb⟩ "_law_turn" "_law_turn" (ST 20) 286:=⟨_,_,_,_,_,_,_,rfl,rfl,by kernel_rfl⟩
theorem MM:dS ⟨KF P,mg,mb⟩ "_ellipsis_match" "_ellipsis_match" (ST 3) 28:=⟨_,_,_,_,_,_,_,rfl,rfl,by kernel_rfl⟩
theorem SQ:dS ⟨KF P,mg,mb⟩ "in_table_b1" "in_table_b1" (ST 13) 214:=⟨_,_,_,_,_,_,_,rfl,rfl,by kernel_rfl⟩
theorem MN:dS ⟨KF P,mg,mb⟩ "in_table_c11" "in_table_c11" (ST 16) 267:=⟨_,_,_,_,_,_,_,rfl,rfl,by kernel_rfl⟩
theorem SN:dS ⟨KF P,mg,mb⟩ "map_table_b3" "map_table_b3" (ST 15) 260:=⟨_,_,_,_,_,_,_,rfl,rfl,by kernel_rfl⟩
structure th (P:Params) (mg mb:Str→Option Value):Prop where
 g: ∀x v,nsIn (KF P) mainGlobals x=some (some v)→mg x=some v
 n: ∀x,nsIn (KF P) mainGlobals x=some none→mg x=none
 b: ∀x:Str,x≠("__name__":Str)→mb x=bootBuiltins x
theorem rM (M:th P mg mb):cS ⟨KF P,mg,mb⟩:=by
 refine⟨⟨M.n _ ?_,(M.b _ ?_).trans ?_⟩,⟨M.n _ ?_,(M.b _ ?_).trans ?_⟩,⟨M.n _ ?_,(M.b _ ?_).trans ?_⟩,⟨M.n _ ?_,(M.b _ ?_).trans ?_⟩,⟨M.n _ ?_,(M.b _ ?_).trans ?_⟩,⟨M.n _ ?_,(M.b _ ?_).trans ?_⟩,⟨M.n _ ?_,(M.b _ ?_).trans ?_⟩,⟨M.n _ ?_,(M.b _ ?_).trans ?_⟩,⟨M.n _ ?_,(M.b _ ?_).trans ?_⟩⟩
 all_goals first | decide | kernel_rfl
noncomputable def G4 (es:List (Int×Value)) (l:List Int):Bool:=(es.all fun e=>match e.2 with | .int k _=>e.1==hashInt k&&l.contains k | _=>false)&&l.all fun k=>es.any fun e=>match e.2 with | .int k' _=>k==k' | _=>false
theorem G3 {o:Obj}{es:Array (Int×Value)}{ep:Nat}{t:SetTable}{l:List Int}(h1:o.ExactSet) (h2:o.data= .set es ep t) (h3:G4 es.toList l=true) (h4:es.size<scanBound) (h5:t.fits es.size=true):wL l o:=by
 have h3:=Bool.and_eq_true_iff.mp h3;refine⟨es,ep,t,h1,h2,fun e he=> ?_,fun k hk=> ?_,h4,h5⟩
 ·have:=List.all_eq_true.mp h3.1 e he
  obtain⟨x,v⟩:=e;cases v with
  | int k u=>
   have:=Bool.and_eq_true_iff.mp this
   exact⟨k,u,by rw[show x=hashInt k from beq_iff_eq.mp this.1],List.contains_iff_mem.mp this.2⟩
  | _=>cases this
 ·refine aF (List.any_eq_true.mp (List.all_eq_true.mp h3.2 k hk)) fun e he h=> ?_
  obtain⟨x,v⟩:=e;cases v with
  | int k' u=>exact⟨_,he,u,by rw[show k=k' from beq_iff_eq.mp h]⟩
  | _=>cases h
theorem G2:wL Kr (sJ P):=G3 ⟨rfl,rfl,rfl⟩ rfl (by kernel_rfl) (by show 27<4096;decide) (by generalize P.followText "set-order"=q;cases q<;>rfl)
theorem GR:wK eI (bN (iW 501 eI 37) 650):=⟨(iW 501 eI 37).toArray,_,⟨rfl,rfl,rfl⟩,rfl,w4 501 eI 37⟩
theorem C3 (M:th P mg mb):Text ⟨KF P,mg,mb⟩ adV:=by
 refine⟨SR,M.g _ _ ?_,Ie,M.g _ _ ?_,Ey,M.g _ _ ?_,MM,M.g _ _ ?_,SQ,M.g _ _ ?_,SN,M.g _ _ ?_,MN,M.g _ _ ?_,M.g _ _ ?_,⟨_,rfl,G2⟩,M.g _ _ ?_,⟨_,rfl,GR⟩,rfl,⟨196,M.g _ _ ?_⟩,⟨212,M.g _ _ ?_⟩,⟨214,M.g _ _ ?_⟩,Ig,M.g _ _ ?_⟩
 all_goals kernel_rfl
end
section
variable {P:Params}{mg mb:Str→Option Value}
def SX:ClassData:=⟨Zs tH,[.type "list"],[.ref 185,.type "list",.type "object"],184,Zs tH,true,[],[],false,none,false⟩
def cdF:ClassData:=⟨Zs tu,[.type "object"],[.ref 101,.type "object"],100,Zs tu,true,[],[],false,none,false⟩
def qT:fH:={C:=185,cd:=SX,cc:=109,init:=122,push:=129,popf:=137,pop:=145,len:=152,str:=159,reset:=167,only:=174,count:=182,cinit:=121,cpop:=144,ccount:=181,clen:=151,cstr:=158,Plen:=147,Pstr:=154,vpush:=.ref 128,vpopf:=.ref 136,vreset:=.ref 166,vonly:=.ref 173,dinit:=114,dpopf:=130,dreset:=160}
def PK:gf:={C:=101,cd:=cdF,init:=42,str:=49,newline:=63,chunk:=98,vinit:=.ref 41,vstr:=.ref 48,vnewline:=.ref 62,vchunk:=.ref 97}
theorem MQ:c9 (KF P) 185 SX:=⟨by kernel_rfl,rfl,rfl,by kernel_rfl,fun U=>rfl,.inr ⟨by kernel_rfl,by kernel_rfl⟩,by kernel_rfl,by kernel_rfl,by kernel_rfl⟩
theorem MP:c9 (KF P) 101 cdF:=⟨by kernel_rfl,rfl,rfl,by kernel_rfl,fun U=>rfl,.inl (by kernel_rfl),by kernel_rfl,by kernel_rfl,by kernel_rfl⟩
theorem Lc:J4 (KF P) 185 SX:=⟨MQ,by kernel_rfl,by kernel_rfl,by kernel_rfl,by kernel_rfl,by kernel_rfl,by kernel_rfl,by kernel_rfl,by kernel_rfl,by kernel_rfl⟩
theorem Jo:mQ ⟨KF P,mg,mb⟩ qT where
 lk:=Lc
 no:=by kernel_rfl
 push:=⟨by kernel_rfl,by kernel_rfl,⟨_,_,_,_,_,_,rfl,rfl,rfl,by kernel_rfl⟩⟩
 count:=⟨by kernel_rfl,by kernel_rfl,⟨_,_,_,_,_,_,rfl,rfl,rfl,by kernel_rfl⟩⟩
 pop:=⟨by kernel_rfl,by kernel_rfl,⟨_,_,_,_,_,_,rfl,rfl,rfl,by kernel_rfl⟩⟩
 init:=⟨by kernel_rfl,by kernel_rfl,⟨_,_,_,_,_,_,rfl,rfl,rfl,by kernel_rfl⟩⟩
 popf:=⟨by kernel_rfl,by kernel_rfl,⟨_,_,_,_,_,_,rfl,rfl,rfl,by kernel_rfl⟩⟩
 len:=⟨by kernel_rfl,by kernel_rfl,⟨_,_,_,_,_,_,rfl,rfl,rfl,by kernel_rfl⟩⟩
 str:=⟨by kernel_rfl,by kernel_rfl,⟨_,_,_,_,_,_,rfl,rfl,rfl,by kernel_rfl⟩⟩
 reset:=⟨by kernel_rfl,by kernel_rfl,⟨_,_,_,_,_,_,rfl,rfl,rfl,by kernel_rfl⟩⟩
 vinit:=⟨_,_,_,rfl,rfl⟩
 KA:=⟨_,_,_,rfl,rfl⟩
 GN:=⟨_,_,rfl,rfl⟩
 only:=⟨by kernel_rfl,by kernel_rfl,⟨_,_,_,_,_,_,rfl,rfl,rfl,by kernel_rfl⟩⟩
theorem H7 (M:th P mg mb):FmT ⟨KF P,mg,mb⟩ PK qT where
 cls:=MP
 no:=fun y hy=>by
  simp only[List.mem_cons,List.not_mem_nil,or_false] at hy
  rcases hy with rfl | rfl | rfl | rfl | rfl | rfl<;>kernel_rfl
 init:=⟨by kernel_rfl,by kernel_rfl,⟨_,_,_,_,_,_,rfl,rfl,rfl,by kernel_rfl⟩⟩
 str:=⟨by kernel_rfl,by kernel_rfl,⟨_,_,_,_,_,_,rfl,rfl,rfl,by kernel_rfl⟩⟩
 newline:=⟨by kernel_rfl,by kernel_rfl,⟨_,_,_,_,_,_,rfl,rfl,rfl,by kernel_rfl⟩⟩
 chunk:=⟨by kernel_rfl,by kernel_rfl,⟨_,_,_,_,_,_,rfl,rfl,rfl,by kernel_rfl⟩⟩
 acc:=M.g _ _ (by kernel_rfl)
 sl:=by kernel_rfl
 del:=rfl
 call:=by kernel_rfl
 inst:=by kernel_rfl
theorem GZ (M:th P mg mb):u6 PW ⟨KF P,mg,mb⟩ qT where
 cell:=⟨_,rfl,rfl⟩
 code:=fun c hc=>by
  simp only[List.mem_cons,List.not_mem_nil,or_false] at hc
  rcases hc with rfl | rfl | rfl
  ·exact⟨_,_,_,_,rfl,rfl,rfl,by kernel_rfl⟩
  ·exact⟨_,_,_,_,rfl,rfl,rfl,by kernel_rfl⟩
  ·exact⟨_,_,_,_,rfl,rfl,rfl,by kernel_rfl⟩
 top:=by kernel_rfl
 glob:=⟨M.n _ (by kernel_rfl),(M.b _ dC).trans (by kernel_rfl)⟩
 third:=by kernel_rfl
 len:=by kernel_rfl
 pop:=by kernel_rfl
 init:=by kernel_rfl
 typ:=by kernel_rfl
 qual:=by kernel_rfl
 Fx:=by kernel_rfl
theorem H5 (M:th P mg mb):ti ⟨KF P,mg,mb⟩ qT 4 (boot_o_4 P) where
 len:=⟨by decide,_,_,_,_,_,_,_,_,_,rfl,rfl,rfl,rfl,rfl,rfl,rfl⟩
 str:=⟨by decide,_,_,_,_,_,_,_,_,_,rfl,rfl,rfl,rfl,rfl,rfl,rfl⟩
 bi:=M.g _ _ (by kernel_rfl)
 bn:=by decide
 bl:=rfl
 bc:=rfl
 bd:=rfl
 bp:=rfl
 sum:=⟨M.n _ (by kernel_rfl),(M.b _ dC).trans (by kernel_rfl)⟩
 empty:=⟨214,M.g _ _ (by kernel_rfl)⟩
theorem MF (M:th P mg mb):FK PW ⟨KF P,mg,mb⟩ PK qT where
 E:=H7 M
 D:=Jo
 S:=GZ M
 G:=rM M
 Gs:=⟨M.n _ (by kernel_rfl),(M.b _ dC).trans (by kernel_rfl)⟩
 hs:=by kernel_rfl
 H:=⟨4,_,H5 M⟩
 star:=⟨by kernel_rfl,by kernel_rfl,by kernel_rfl,by kernel_rfl,by kernel_rfl⟩
theorem DS (M:th P mg mb):Fm ⟨KF P,mg,mb⟩ PK where
 fm:=M.g _ _ (by kernel_rfl)
 mks:=by kernel_rfl
 call:=by kernel_rfl
end
noncomputable def eB:Nat→Nat→List Nat
 | 0,_=>[]
 | k+1,x=>eB k (x/16)++[x%16]
theorem sr: ∀k x,(eB k x).length=k
 | 0,_=>rfl
 | k+1,x=>by rw[eB.eq_2,List.length_append,sr k];rfl
theorem vV: ∀k x,∀d∈eB k x,d<16
 | 0,_=>by intro d h;cases h
 | k+1,x=>by
  intro d h;rw[eB.eq_2] at h
  rcases List.mem_append.mp h with h | h
  ·exact vV k _ d h
  ·rw[List.mem_singleton.mp h];exact Nat.mod_lt _ dC
theorem n3: ∀k,eB k 0=List.replicate k 0
 | 0=>rfl
 | k+1=>by rw[eB.eq_2,Nat.zero_div,n3 k,List.replicate_succ']
theorem nR: ∀(k n:Nat),n<16^k→List.replicate (k-(ic n).length) 0++ic n=eB k n
 | 0,n,h=>by
  have:n=0:=by simpa using h
  subst this;simp[eG,eB]
 | k+1,n,h=>by
  by_cases e:n=0
  ·subst e;rw[n3];simp[eG]
  ·have hn:n/16<16^k:=by rw[Nat.div_lt_iff_lt_mul dC];rwa [Nat.pow_succ] at h
   have ih:=nR k (n/16) hn;have hl:=fE k (n/16) hn;rw[iz e,eB.eq_2,←ih,List.length_append];have e2:k+1-((ic (n/16)).length+[n%16].length)=k-(ic (n/16)).length:=by simp
   rw[e2,List.append_assoc]
theorem gU {k n:Nat}(h:n<16^k):dj n k=(eB k n).map (97+ ·):=by
 rw[←nR k n h];unfold dj;rw[List.map_append,List.map_replicate]
theorem jg: ∀(b a hi lo:Nat),lo<16^b→eB (a+b) (hi*16^b+lo)=eB a hi++eB b lo
 | 0,a,hi,lo,h=>by
  have:lo=0:=by simpa using h
  subst this;simp[eB]
 | b+1,a,hi,lo,h=>by
  have ME:0<16:=by decide
  have e0:hi*16^(b+1)=16*(hi*16^b):=by rw[Nat.pow_succ,←Nat.mul_assoc,Nat.mul_comm]
  have e1:(hi*16^(b+1)+lo)/16=hi*16^b+lo/16:=by rw[e0];exact Wc
  have e2:(hi*16^(b+1)+lo)%16=lo%16:=by rw[e0];exact We
  rw[←Nat.add_assoc,eB.eq_2,e1,e2,jg b a hi (lo/16) (by rw[Nat.div_lt_iff_lt_mul ME];rwa [Nat.pow_succ] at h),eB,List.append_assoc]
theorem w5 {n r t:Nat}(ht:t≤n) (hr:r<16^n-1):r*16^t%(16^n-1)<16^n∧eB n (r*16^t%(16^n-1))=(eB n r).drop t++(eB n r).take t:=by
 refine gF (Nat.exists_eq_add_of_le ht) fun u ah=> ?_;subst ah
 have hu:0<16^u:=Nat.pow_pos dC;have htp:0<16^t:=Nat.pow_pos dC;have uz:16^(t+u)=16^t*16^u:=Nat.pow_add ..;have xR:=Nat.div_add_mod r (16^u);have FW:=Nat.mod_lt r hu;have HJ:r/16^u<16^t:=by rw[Nat.div_lt_iff_lt_mul hu,←uz];exact o4 hr
 generalize r/16^u=hi at*
 generalize r%16^u=lo at*
 have RG:r=hi*16^u+lo:=by rw[Nat.mul_comm] at xR;exact xR.symm
 have key:r*16^t=hi*(16^(t+u)-1)+(lo*16^t+hi):=by
  rw[RG,Nat.add_mul,Nat.mul_assoc,Nat.mul_comm (16^u),←uz,Nat.mul_sub,Nat.mul_one]
  have:hi≤hi*16^(t+u):=Nat.le_mul_of_pos_right _ (by rw[uz];exact Nat.mul_pos htp hu)
  exact TZ this
 have hb:lo*16^t+hi<16^(t+u):=by
  have:(lo+1)*16^t≤16^u*16^t:=Nat.mul_le_mul_right _ FW
  rw[Nat.add_mul,Nat.one_mul] at this
  rw[uz,Nat.mul_comm (16^t)];exact TF HJ this
 have dm:lo*16^t+hi≠16^(t+u)-1:=by
  intro e;have e1:(lo+1)*16^t=16^u*16^t:=by
   have h1:(lo+1)*16^t≤16^u*16^t:=Nat.mul_le_mul_right _ FW;have h2:(16^u-1)*16^t<(lo+1)*16^t:=by
    rw[Nat.sub_mul,Nat.one_mul,Nat.add_mul,Nat.one_mul];rw[uz,Nat.mul_comm (16^t)] at e
    have:16^t≤16^u*16^t:=Nat.le_mul_of_pos_left _ hu
    exact Tw HJ e
   have h3:=Nat.lt_of_mul_lt_mul_right h2
   have:lo+1=16^u:=Yh FW h3
   rw[this]
  have e2:lo+1=16^u:=Nat.eq_of_mul_eq_mul_right htp e1;have e3:hi+1=16^t:=by
   rw[uz,Nat.mul_comm (16^t),←e2,Nat.add_mul,Nat.one_mul] at e
   exact Vz HJ e
  rw[RG] at hr
  have:hi*16^u+lo+1=16^(t+u):=by
   rw[Nat.add_assoc,e2,←Nat.succ_mul,Nat.succ_eq_add_one,e3,uz]
  exact Ug hr this
 have hm:r*16^t%(16^(t+u)-1)=lo*16^t+hi:=by
  rw[key,Nat.mul_comm hi,Nat.mul_add_mod,Nat.mod_eq_of_lt (Ue hb dm)]
 rw[hm];refine⟨hb,?_⟩;have d1:eB (t+u) r=eB t hi++eB u lo:=by rw[RG];exact jg u t hi lo FW
 have d2:eB (t+u) (lo*16^t+hi)=eB u lo++eB t hi:=by rw[Nat.add_comm t u];exact jg t u lo hi HJ
 rw[d2,d1];have hl:(eB t hi).length=t:=sr t hi;rw[List.drop_append_of_le_length (Nq hl),List.drop_of_length_le (Nz hl),List.take_append_of_le_length (Nq hl),List.take_of_length_le (Nz hl),List.nil_append]
noncomputable def DP:List Bool→Nat→Bool→Bool
 | [],st,first=>st==0&& !first
 | c::r,0,first=>DP r 1 first
 | c::r,st+1,first=>if c then ((if first then (st+2)%2==1 else (st+2)%2==0)&&DP r 0 false) else DP r (st+2) first
def LP (c:List Bool):Bool:=DP c 1 true
noncomputable def kR (X:List Nat):List Bool:=(List.range (X.length-1)).map fun i=>decide (X.getD i 0<X.getD (i+1) 0)
noncomputable def allB:Nat→List (List Bool)
 | 0=>[[]]
 | n+1=>(allB n).flatMap fun l=>[false::l,true::l]
theorem ix: ∀(l:List Bool),l∈allB l.length
 | []=>.head _
 | b::r=>by
  refine List.mem_flatMap.mpr ⟨r,ix r,?_⟩;cases b
  ·exact .head _
  ·exact .tail _ (.head _)
noncomputable def G8 (B:List Bool) (n t:Nat):List Bool:=(List.range (n-1)).map fun j=>B.getD ((t+j+1)%n) false
def jm (n:Nat):Bool:=(allB n).all fun B=>match jk (fun i=>B.getD (i%n) false) n with
 | some t=>decide (t<n)&&LP (G8 B n t)
 | none=>B.all (! ·)||B.all (·)
theorem KL:jm 3=true:=by decide+kernel
theorem KJ:jm 5=true:=by decide+kernel
theorem KH:jm 7=true:=by decide+kernel
def sA (n:Nat):Bool:=((allB (n-1)).filter LP).all fun cX=>((allB (n-1)).filter LP).all fun cY=>[false,true].all fun J=>(List.range (n-1)).all fun i=> !LP (cX.drop (i+1)++[J]++cY.take i)
theorem cf3:sA 3=true:=by decide+kernel
theorem cf5:sA 5=true:=by decide+kernel
theorem cf7:sA 7=true:=by decide+kernel
def rQ (n:Nat):Bool:=(allB (n-1)).all fun c=> !LP c||c.any (·)
theorem Rk:rQ 3=true:=by decide+kernel
theorem Rj:rQ 5=true:=by decide+kernel
theorem Ri:rQ 7=true:=by decide+kernel
noncomputable def jQ (n:Nat):Prop:=n=3∨n=5∨n=7
theorem yl {n:Nat}(h:jQ n):jm n=true:=by
 rcases h with rfl | rfl | rfl
 ·exact KL
 ·exact KJ
 ·exact KH
theorem Im {n:Nat}(h:jQ n):sA n=true:=by
 rcases h with rfl | rfl | rfl
 ·exact cf3
 ·exact cf5
 ·exact cf7
theorem DN {n:Nat}(h:jQ n):rQ n=true:=by
 rcases h with rfl | rfl | rfl
 ·exact Rk
 ·exact Rj
 ·exact Ri
theorem rot_getD {L:List Nat}{t j:Nat}(ht:t<L.length) (hj:j<L.length):(L.drop t++L.take t).getD j 0=L.getD ((t+j)%L.length) 0:=by
 simp only[List.getD_eq_getElem?_getD]
 congr 1
 by_cases h:j<L.length-t
 ·rw[List.getElem?_append_left (by rw[List.length_drop];exact h),List.getElem?_drop,Nat.mod_eq_of_lt (M7 h)]
 ·rw[List.getElem?_append_right (by rw[List.length_drop];exact Ui h),List.length_drop,List.getElem?_take_of_lt (Vv hj h)];congr 1;rw[show t+j=j-(L.length-t)+L.length by exact Vt ht h,Nat.add_mod_right,Nat.mod_eq_of_lt (Vw hj)]
def hG (L:List Nat):List Bool:=(List.range L.length).map (dH L)
theorem uN (L:List Nat):(hG L).length=L.length:=by simp[hG]
theorem n7 {L:List Nat}(h:2≤L.length) (i:Nat):dH L i=(hG L).getD (i%L.length) false:=by
 have hm:=Nat.mod_lt i (show 0<L.length by exact xu h);unfold hG;rw[List.getD_eq_getElem?_getD,List.getElem?_map,List.getElem?_range hm];show dH L i=dH L (i%L.length)
 exact(z7 L h i).symm
theorem D2 {L:List Nat}(h:2≤L.length) {t:Nat}(ht:t<L.length):kR (L.drop t++L.take t)=G8 (hG L) L.length t:=by
 unfold kR G8;have hl:(L.drop t++L.take t).length=L.length:=by rw[List.length_append,List.length_drop,List.length_take];exact N1
 rw[hl];refine List.map_congr_left fun j hj=> ?_
 have hj:=List.mem_range.mp hj;rw[rot_getD ht (o4 hj),rot_getD ht (IX hj),←n7 h];unfold dH;rw[show t+j+1+L.length-1=t+j+L.length by exact Wh,Nat.add_mod_right,show t+(j+1)=t+j+1 by exact YZ]
theorem zN {L:List Nat}(h:2≤L.length) (hb: ∀i,i<L.length→dH L i=false): ∃d,L=List.replicate L.length d:=by
 have hs: ∀i,i+1<L.length→L.getD (i+1) 0≤L.getD i 0:=by
  intro i hi
  have:=hb (i+1) hi
  unfold dH at this
  have:=of_decide_eq_false this
  rw[show i+1+L.length-1=i+L.length by exact N4,Nat.add_mod_right,Nat.mod_eq_of_lt (Ad hi),Nat.mod_eq_of_lt hi] at this
  exact EL this
 have h0:L.getD 0 0≤L.getD (L.length-1) 0:=by
  have:=hb 0 (xu h)
  unfold dH at this
  have:=of_decide_eq_false this
  rw[Nat.zero_add,Nat.mod_eq_of_lt (Jg h),Nat.mod_eq_of_lt (xu h)] at this
  exact EL this
 have hd: ∀j i,i≤j→j<L.length→L.getD j 0≤L.getD i 0:=by
  intro j
  induction j with
  | zero=>intro i hi _;rw[show i=0 by exact Jb hi];exact Af
  | succ j ih=>
   intro i hi hj;rcases Nat.lt_or_ge j i with q | q
   ·rw[show i=j+1 by exact XR hi q];exact Af
   ·have:=ih i q (Ad hj)
    have:=hs j hj
    (apply Ur<;>assumption)
 refine⟨L.getD 0 0,?_⟩;apply List.ext_getElem
 ·simp
 ·intro i h1 h2;have a:=hd i 0 E3 h1;have b:=hd (L.length-1) i (Ye h1) (Xl h1);rw[List.getElem_replicate];have e:L.getD i 0=L[i]:=by rw[List.getD_eq_getElem?_getD,List.getElem?_eq_getElem h1];rfl
  exact TG h0 a b e
theorem Hk {L:List Nat}(h:2≤L.length) (hb: ∀i,i<L.length→dH L i=true):False:=by
 have hs: ∀i,i+1<L.length→L.getD i 0<L.getD (i+1) 0:=by
  intro i hi
  have:=hb (i+1) hi
  unfold dH at this
  have:=of_decide_eq_true this
  rw[show i+1+L.length-1=i+L.length by exact N4,Nat.add_mod_right,Nat.mod_eq_of_lt (Ad hi),Nat.mod_eq_of_lt hi] at this
  exact this
 have h0:L.getD (L.length-1) 0<L.getD 0 0:=by
  have:=hb 0 (xu h)
  unfold dH at this
  have:=of_decide_eq_true this
  rw[Nat.zero_add,Nat.mod_eq_of_lt (Jg h),Nat.mod_eq_of_lt (xu h)] at this
  exact this
 have hd: ∀j,j<L.length→L.getD 0 0≤L.getD j 0:=by
  intro j
  induction j with
  | zero=>intro _;exact Af
  | succ j ih=>
   intro hj
   have:=ih (Ad hj)
   have:=hs j hj
   (apply Vf<;>assumption)
 have:=hd (L.length-1) (Jg h)
 exact Yc h0 this
theorem nq {n:Nat}(h:jQ n) {L:List Nat}(hl:L.length=n):(∃t,jk (dH L) n=some t∧t<n∧LP (kR (L.drop t++L.take t))=true)∨(jk (dH L) n=none∧ ∃d,L=List.replicate n d):=by
 have h2:2≤L.length:=by rcases h with h | h | h<;>omega
 have hc:=yl h;unfold jm at hc
 have hm:=ix (hG L);rw[uN,hl] at hm
 have:=List.all_eq_true.mp hc _ hm
 have hf:dH L=fun i=>(hG L).getD (i%n) false:=by funext i;rw[←hl];exact n7 h2 i
 rw[hf];cases ht:jk (fun i=>(hG L).getD (i%n) false) n with
 | some t=>
  rw[ht] at this
  have:=Bool.and_eq_true_iff.mp this
  refine .inl ⟨t,rfl,of_decide_eq_true this.1,?_⟩;rw[D2 h2 (by rw[hl];exact of_decide_eq_true this.1),hl];exact this.2
 | none=>
  rw[ht] at this
  have mZ: ∀i,i<L.length→dH L i∈hG L:=fun i hi=>List.mem_map.mpr ⟨i,List.mem_range.mpr hi,rfl⟩
  rcases Bool.or_eq_true_iff.mp this with q | q
  ·refine .inr ⟨rfl,?_⟩;rw[←hl];refine zN h2 fun i hi=> ?_
   have:=List.all_eq_true.mp q _ (mZ i hi)
   simpa using this
  ·exact(Hk h2 fun i hi=>by have:=List.all_eq_true.mp q _ (mZ i hi);simpa using this).elim
noncomputable def yg (l:List Nat):Nat:=l.foldl (fun a d=>a*16+d) 0
theorem nk: ∀(k n:Nat),n<16^k→yg (eB k n)=n
 | 0,n,h=>by
  have:n=0:=by simpa using h
  subst this;rfl
 | k+1,n,h=>by
  have ih:=nk k (n/16) (by rw[Nat.div_lt_iff_lt_mul dC];rwa [Nat.pow_succ] at h);unfold yg at ih ⊢
  rw[eB.eq_2,List.foldl_append,ih];show n/16*16+n%16=n;exact š
theorem rg (d:Nat): ∀k,yg (List.replicate k d)*15+d=d*16^k
 | 0=>by simp[yg]
 | k+1=>by
  have ih:=rg d k;unfold yg at ih ⊢
  rw[List.replicate_succ',List.foldl_append];show (List.foldl (fun a d=>a*16+d) 0 (List.replicate k d)*16+d)*15+d=d*16^(k+1);rw[Nat.pow_succ,←Nat.mul_assoc,←ih];exact Wb ih
theorem rE {n r0:Nat}(h:jQ n) (hr:r0<16^n-1):c5 n r0<16^n-1∧c5 n r0*15%(16^n-1)≠0:=by
 have hw:4095≤16^n-1:=by rcases h with rfl | rfl | rfl<;>decide
 unfold c5;split
 ·rename_i e
  generalize 16^n-1=W at*
  have h1:(r0+1)*15%W=15:=by
   rw[Nat.add_mul,Nat.add_mod,e,Nat.zero_add,Nat.one_mul,Nat.mod_mod,Nat.mod_eq_of_lt (Ė hw)]
  refine⟨?_,by exact ā h1⟩;rcases Nat.lt_or_ge (r0+1) W with q | q
  ·exact q
  ·have e2:r0+1=W:=Yj hr q;rw[e2,Nat.mul_mod_right] at h1
   cases h1
 ·rename_i e
  exact⟨hr,e⟩
theorem nI {n r0:Nat}(h:jQ n) (hr:r0<16^n-1): ∃t,jk (dH (dj (c5 n r0) n)) n=some t∧t<n∧LP (kR ((dj (c5 n r0) n).drop t++(dj (c5 n r0) n).take t))=true:=by
 refine bo (rE h hr) fun h1 h2=> ?_
 generalize c5 n r0=r at*
 have df:r<16^n:=o4 h1;rcases nq h (iE df) with ⟨t,a,b,c⟩ | ⟨_,d,hd⟩
 ·exact⟨t,a,b,c⟩
 ·exfalso;rw[gU df] at hd
  have tC:eB n r=List.replicate n (d-97):=by
   have:=congrArg (List.map (· -97)) hd
   rw[List.map_map,List.map_replicate] at this
   rw[←this]
   conv=>lhs;rw[←List.map_id (eB n r)]
   refine List.map_congr_left fun x U=> ?_
   show x=97+x-97;exact ă
  have hv:=rg (d-97) n;rw[←tC,nk n r df] at hv
  apply h2
  have:r*15=(d-97)*(16^n-1):=by
   rw[Nat.mul_sub,Nat.mul_one];exact arms hv
  rw[this,Nat.mul_mod_left]
theorem yK {n:Nat}(h:jQ n):qN n:=by
 intro r0 hr;refine bo (rE h hr) fun h1 U=> ?_
 refine gR (nI h hr) fun t ht nP U=> ?_
 generalize c5 n r0=r at*
 have df:r<16^n:=o4 h1;have jA:=iE df;have hs:gq (dj r n)=(t:Nat):=by unfold gq;rw[jA,ht];rfl
 have hn:hO n r=t:=by unfold hO;rw[hs];rfl
 rw[hn];refine⟨h1,hs,nP,?_⟩;refine bo (w5 (n:=n) (r:=r) (t:=t) (IV nP) h1) fun a b=> ?_
 rw[gU a,gU df,b,List.map_append,List.map_drop,List.map_take]
structure Wd (n:Nat) (x:List Nat):Prop where
 len:x.length=n
 let': ∀ch∈x,97≤ch∧ch≤112
 lp:LP (kR x)=true
theorem nj {r k:Nat}(h:r<16^k): ∀ch∈dj r k,97≤ch∧ch≤112:=by
 rw[gU h];intro ch hm;refine aF (List.mem_map.mp hm) fun d hd ah=> ?_;subst ah
 have:=vV k r d hd
 exact Č this
theorem z6 {n:Nat}(h:jQ n) (l:Int):Wd n (dv n l):=by
 have hw:0<16^n-1:=by rcases h with rfl | rfl | rfl<;>decide
 have hr:=cO l (b:=((16^n-1:Nat):Int)) (OA hw);obtain⟨r0,LV⟩: ∃r0,(l.fmod ((16^n-1:Nat):Int)).toNat=r0:=⟨_,rfl⟩;have df:r0<16^n-1:=ZM hr.1 hr.2 LV;refine Ke (yK h r0 df) fun h1 h2 h3 h4=> ?_
 refine gR (nI h df) fun t ht nP r5=> ?_
 unfold dv vt;rw[LV];generalize c5 n r0=r at*
 have qR:r<16^n:=o4 h1;have jA:=iE qR;have hs:gq (dj r n)=(t:Nat):=by unfold gq;rw[jA,ht];rfl
 have hn:hO n r=t:=by unfold hO;rw[hs];rfl
 rw[hn] at h4 ⊢
 rw[h4];refine⟨by rw[List.length_append,List.length_drop,List.length_take];exact Nb jA,fun ch hm=> ?_,r5⟩;rcases List.mem_append.mp hm with q | q
 ·exact nj qR ch (List.mem_of_mem_drop q)
 ·exact nj qR ch (List.mem_of_mem_take q)
theorem fT (X:List Nat):(kR X).length=X.length-1:=by simp[kR]
theorem oO (X:List Nat) (i:Nat) (h:i+1<X.length):(kR X)[i]? =some (decide (X.getD i 0<X.getD (i+1) 0)):=by
 unfold kR;rw[List.getElem?_map,List.getElem?_range (NV h)];rfl
theorem D3 {n i:Nat}{X Y:List Nat}(hX:X.length=n) (hY:Y.length=n) (hi:i+1<n):
  kR (((X++Y).drop (i+1)).take n)=(kR X).drop (i+1)++[decide (X.getD (n-1) 0<Y.getD 0 0)]++(kR Y).take i:=by
 apply List.ext_getElem?
 intro j;have hl:(((X++Y).drop (i+1)).take n).length=n:=by rw[List.length_take,List.length_drop,List.length_append];exact TR hX hY hi
 have hg: ∀k,k<n→(((X++Y).drop (i+1)).take n).getD k 0=(X++Y).getD (i+1+k) 0:=by
  intro k hk;rw[List.getD_eq_getElem?_getD,List.getElem?_take_of_lt hk,List.getElem?_drop,List.getD_eq_getElem?_getD]
 have hx: ∀k,k<n→(X++Y).getD k 0=X.getD k 0:=by
  intro k hk;rw[List.getD_eq_getElem?_getD,List.getElem?_append_left (IK hX hk),List.getD_eq_getElem?_getD]
 have hy: ∀k,n≤k→(X++Y).getD k 0=Y.getD (k-n) 0:=by
  intro k hk;rw[List.getD_eq_getElem?_getD,List.getElem?_append_right (Vl hX hk),hX,List.getD_eq_getElem?_getD]
 by_cases hj:j+1<n
 ·rw[oO _ _ (UY hl hj),hg j (Ad hj),hg (j+1) (NW hj)];by_cases h1:j<n-1-(i+1)
  ·rw[List.append_assoc,List.getElem?_append_left (by rw[List.length_drop,fT];exact TQ hX h1),List.getElem?_drop,oO _ _ (TB hX h1),hx _ (Vb h1),hx _ (Vc h1)];rfl
  ·rw[List.append_assoc,List.getElem?_append_right (by rw[List.length_drop,fT];exact T1 hX h1),List.length_drop,fT,hX];by_cases h2:j=n-1-(i+1)
   ·rw[show j-(n-1-(i+1))=0 by exact Vq h2,hx _ (VL hi h2),hy _ (UH h2)];show _ =some _;rw[show i+1+j=n-1 by exact VK hi h2,show i+1+(j+1)-n=0 by exact VM hi h2]
   ·rw[show j-(n-1-(i+1))=(j-(n-1-(i+1))-1)+1 by exact Uq h1 h2];rw[show (([decide (X.getD (n-1) 0<Y.getD 0 0)]:List Bool)++(kR Y).take i)[j-(n-1-(i+1))-1+1]? =((kR Y).take i)[j-(n-1-(i+1))-1]? from rfl];rw[List.getElem?_take_of_lt (VP hj h1 h2),oO _ _ (Tv hY hj),hy _ (Uk h1 h2),hy _ (Ul h1)];congr 3
    ·congr 1;exact VO hi
    ·congr 1;exact VJ hi h1 h2
 ·rw[List.getElem?_eq_none (by rw[fT];exact Vk hl hj),List.getElem?_eq_none];rw[List.length_append,List.length_append,List.length_drop,List.length_take,fT,fT];simp;exact Tn hX hi hj
theorem uK {n i:Nat}(h:jQ n) {X Y Z:List Nat}(hX:Wd n X) (hY:Wd n Y) (hi:i+1<n) (hZ:((X++Y).drop (i+1)).take n=Z):LP (kR Z)=false:=by
 subst hZ;rw[D3 hX.len hY.len hi];have hc:=Im h;unfold sA at hc
 have m1:kR X∈(allB (n-1)).filter LP:=List.mem_filter.mpr ⟨by have:=ix (kR X);rwa [fT,hX.len] at this,hX.lp⟩;have m2:kR Y∈(allB (n-1)).filter LP:=List.mem_filter.mpr ⟨by have:=ix (kR Y);rwa [fT,hY.len] at this,hY.lp⟩;have h1:=List.all_eq_true.mp hc _ m1;have h2:=List.all_eq_true.mp h1 _ m2;have h3:=List.all_eq_true.mp h2 (decide (X.getD (n-1) 0<Y.getD 0 0)) (by cases decide (X.getD (n-1) 0<Y.getD 0 0)<;>simp);have h4:=List.all_eq_true.mp h3 i (List.mem_range.mpr (NV hi));simpa using h4
theorem nU {n:Nat}: ∀(q:Nat) (sw:List (List Nat)),(∀x∈sw,x.length=n)→q≤sw.length→sw.flatten.drop (q*n)=(sw.drop q).flatten
 | 0,sw,_,_=>by simp
 | q+1,[],_,h=>by simp at h
 | q+1,x::sw,hl,h=>by
  have hx:=hl x (.head _);rw[List.flatten_cons,Nat.add_mul,Nat.one_mul,List.drop_append,show q*n+n-x.length=q*n by exact UC hx,List.drop_of_length_le (Vn hx),List.nil_append,nU q sw (fun y hy=>hl y (.tail _ hy)) (by simpa using h)];rfl
theorem sj {n:Nat}: ∀(sw:List (List Nat)),(∀x∈sw,x.length=n)→sw.flatten.length=sw.length*n
 | [],_=>by simp
 | x::sw,hl=>by
  rw[List.flatten_cons,List.length_append,sj sw fun y hy=>hl y (.tail _ hy),hl x (.head _),List.length_cons,Nat.add_mul];exact Y3
theorem occ_spec {n:Nat}(h:jQ n) {sw:List (List Nat)}(hs: ∀x∈sw,Wd n x) {x:List Nat}(hx:x.length=n) (r5:LP (kR x)=true) {p:Nat}(hp:p+n≤sw.length*n):
  iQ sw.flatten x p=(p%n==0&&sw.getD (p/n) []==x):=by
 have n0:0<n:=by rcases h with rfl | rfl | rfl<;>decide
 have hl: ∀x∈sw,x.length=n:=fun y hy=>(hs y hy).len
 have xR:=Nat.div_add_mod p n;have hm:=Nat.mod_lt p n0;unfold iQ;rw[hx];generalize p/n=q at*
 generalize hi:p%n=i at*
 have hq:q<sw.length:=by
  rcases Nat.lt_or_ge q sw.length with g | g
  ·exact g
  ·have:sw.length*n≤q*n:=Nat.mul_le_mul_right _ g
   rw[Nat.mul_comm n q] at xR;exact To hp hm xR this
 have e1:sw.flatten.drop p=((sw.drop q).flatten).drop i:=by
  rw[←nU q sw hl (IV hq),List.drop_drop];congr 1;rw[Nat.mul_comm];exact Ud xR
 rw[e1,List.drop_eq_getElem_cons hq,List.flatten_cons];have hX:=hs _ (List.getElem_mem hq);have Ko:sw.getD q []=sw[q]:=by rw[List.getD_eq_getElem?_getD,List.getElem?_eq_getElem hq];rfl
 rw[Ko];cases i with
 | zero=>
  rw[List.drop_zero,List.take_append_of_le_length (by rw[hX.len];exact Af),List.take_of_length_le (by rw[hX.len];exact Af)];simp
 | succ i=>
  have hq2:q+1<sw.length:=by
   rcases Nat.lt_or_ge (q+1) sw.length with g | g
   ·exact g
   ·have:sw.length*n≤(q+1)*n:=Nat.mul_le_mul_right _ g
    rw[Nat.add_mul,Nat.one_mul,Nat.mul_comm q n] at this;exact Tp hp xR this
  have hY:=hs _ (List.getElem_mem hq2);rw[List.drop_eq_getElem_cons hq2,List.flatten_cons,←List.append_assoc];have e2:(((sw[q]++sw[q+1])++(sw.drop (q+1+1)).flatten).drop (i+1)).take n=((sw[q]++sw[q+1]).drop (i+1)).take n:=by
   have hXl:=hX.len;have hYl:=hY.len;rw[List.drop_append_of_le_length (by rw[List.length_append];exact T8 hm hYl),List.take_append_of_le_length (by rw[List.length_drop,List.length_append];exact T5 hm hXl hYl)]
  rw[e2];have dm:((sw[q]++sw[q+1]).drop (i+1)).take n≠x:=fun e=>by
   have:=uK h hX hY (NW hm) e
   rw[r5] at this;cases this
  simp[dm]
theorem zE {n:Nat}(h:jQ n) {sw:List (List Nat)}(hs: ∀x∈sw,Wd n x) {x:List Nat}(hx:x.length=n) (r5:LP (kR x)=true) {a hi:Nat}(HJ:hi≤sw.length*n):
  (kS sw.flatten x (a*n) hi= -1∧ ∀k,a≤k→(k+1)*n≤hi→sw.getD k []≠x)∨ ∃k:Nat,kS sw.flatten x (a*n) hi=((k*n:Nat):Int)∧a≤k∧(k+1)*n≤hi∧sw.getD k []=x∧ ∀j,a≤j→j<k→sw.getD j []≠x:=by
 have n0:0<n:=by rcases h with rfl | rfl | rfl<;>decide
 have at_: ∀k,(k+1)*n≤hi→iQ sw.flatten x (k*n)=(sw.getD k []==x):=by
  intro k hk;rw[occ_spec h hs hx r5 (by rw[Nat.add_mul] at hk;exact Tu HJ hk),Nat.mul_mod_left,Nat.mul_div_cancel _ n0];simp
 rcases f6 sw.flatten x (a*n) hi with ⟨e,mA⟩ | ⟨p,e,h1,h2,h3,h4⟩
 ·refine .inl ⟨e,fun k hk R2 Kh=> ?_⟩
  have:=mA (k*n) (Nat.mul_le_mul_right _ hk) (by rw[hx];rw[Nat.add_mul] at R2;exact Wa R2)
  rw[at_ k R2,Kh] at this
  simp at this
 ·rw[hx] at h2
  rw[occ_spec h hs hx r5 (Tt HJ h2)] at h3
  have h3:=Bool.and_eq_true_iff.mp h3;have hm:=beq_iff_eq.mp h3.1;have xR:=Nat.div_add_mod p n;rw[hm,Nat.add_zero,Nat.mul_comm] at xR
  refine .inr ⟨p/n,by rw[xR];exact e,?_,by rw[Nat.add_mul,xR];exact VH h2,beq_iff_eq.mp h3.2,fun j hj R5 Kh=> ?_⟩
  ·rw[Nat.le_div_iff_mul_le n0];exact h1
  ·have Mm:(j+1)*n≤p:=by rw[←xR];exact Nat.mul_le_mul_right _ R5
   have:=h4 (j*n) (Nat.mul_le_mul_right _ hj) (by rw[Nat.add_mul] at Mm;exact VD n0 Mm)
   rw[at_ j (T4 h2 Mm),Kh] at this
   simp at this
theorem v3 (l:List Nat) (i:Nat):iQ l [] i=true:=by unfold iQ;simp
theorem Ep (l:List Nat) {lo hi:Nat}(h:lo≤hi):kS l [] lo hi=(lo:Nat):=by
 rcases f6 l [] lo hi with ⟨_,mA⟩ | ⟨p,e,h1,h2,h3,h4⟩
 ·have:=mA lo (Nat.le_refl _) (by simpa using h)
  rw[v3] at this;cases this
 ·rcases Nat.lt_or_ge lo p with q | q
  ·have:=h4 lo (Nat.le_refl _) q
   rw[v3] at this;cases this
  ·rw[e,show p=lo by exact Wq h1 q]
theorem iA {got:List Nat}{r:List (List Nat)}{s e:Nat}(h:s≤e):b6 got ([]::r) s e=b6 got r s e:=by
 rw[b6.eq_2,Ep got h,if_neg (Xu h)];simp
structure Line (n:Nat) (sw:List (List Nat)):Prop where
 odd:jQ n
 four:sw.length=4
 wd: ∀x∈sw,Wd n x
section
variable {n:Nat}{sw:List (List Nat)}(Ln:Line n sw)
include Ln
theorem Line.n0:3≤n∧n≤7:=by rcases Ln.odd with h | h | h<;>omega
theorem Line.len:sw.flatten.length=4*n:=by rw[sj sw fun x hx=>(Ln.wd x hx).len,Ln.four]
theorem Line.get {k:Nat}(h:k<4):Wd n (sw.getD k []):=Ln.wd _ (b8 (by rw[Ln.four];exact h))
theorem Line.pre {x:List Nat}(hx:x.length=n):x.isPrefixOf sw.flatten=(sw.getD 0 []==x):=by
 cases sw with
 | nil=>exact nomatch Ln.four
 | cons a sw=>
  have ha:=(Ln.wd a (.head _)).len;show x.isPrefixOf (a++sw.flatten)=(a==x);by_cases h:a=x
  ·subst h
   have:a <+: a++sw.flatten:=List.prefix_append _ _
   rw[List.isPrefixOf_iff_prefix.mpr this];simp
  ·have: ¬x <+: a++sw.flatten:=fun ⟨t,ht⟩=>h (List.append_inj_left ht (M9 hx ha)).symm
   have e:x.isPrefixOf (a++sw.flatten)=false:=by
    cases q:x.isPrefixOf (a++sw.flatten) with
    | true=>exact absurd (List.isPrefixOf_iff_prefix.mp q) this
    | false=>rfl
   rw[e];simp[h]
theorem Line.KO {x:List Nat}(hx:x.length=n):x.isSuffixOf sw.flatten=(sw.getD 3 []==x):=by
 match sw,Ln with
 | [a,b,c,d],Ln=>
  have hd:=(Ln.wd d (by simp)).len;have e0:[a,b,c,d].flatten=(a++b++c)++d:=by simp
  rw[e0];show x.isSuffixOf ((a++b++c)++d)=(d==x);by_cases h:d=x
  ·subst h
   have:d <:+ (a++b++c)++d:=List.suffix_append _ _
   rw[List.isSuffixOf_iff_suffix.mpr this];simp
  ·have: ¬x <:+ (a++b++c)++d:=fun ⟨t,ht⟩=>h (List.append_inj_right' ht (M9 hx hd)).symm
   have e:x.isSuffixOf ((a++b++c)++d)=false:=by
    cases q:x.isSuffixOf ((a++b++c)++d) with
    | true=>exact absurd (List.isSuffixOf_iff_suffix.mp q) this
    | false=>rfl
   rw[e];simp[h]
theorem Line.go {x:List Nat}(hx:x.length=n) (r5:LP (kR x)=true) {r:List (List Nat)}{a b:Nat}(hb:b≤4):
  (b6 sw.flatten (x::r) (a*n) (b*n)=false∧ ∀k,a≤k→k<b→sw.getD k []≠x)∨
  ∃k,a≤k∧k<b∧sw.getD k []=x∧(∀j,a≤j→j<k→sw.getD j []≠x)∧b6 sw.flatten (x::r) (a*n) (b*n)=b6 sw.flatten r ((k+1)*n) (b*n):=by
 have n0:=Ln.n0;have HZ:b*n≤sw.length*n:=by rw[Ln.four];exact Nat.mul_le_mul_right _ hb
 have cv: ∀k,(k+1)*n≤b*n↔k<b:=fun k=>⟨fun h=>Nat.le_of_mul_le_mul_right h (Ę n0.1),fun h=>Nat.mul_le_mul_right _ h⟩
 rcases zE Ln.odd Ln.wd hx r5 (a:=a) (hi:=b*n) HZ with ⟨e,h⟩ | ⟨k,e,h1,h2,h3,h4⟩
 ·refine .inl ⟨?_,fun k hk RZ=>h k hk ((cv k).mpr RZ)⟩;rw[b6.eq_2,e,if_pos dC]
 ·refine .inr ⟨k,h1,(cv k).mp h2,h3,h4,?_⟩;rw[b6.eq_2,e,if_neg Wo,Int.toNat_natCast,hx,Nat.add_mul,Nat.one_mul]
theorem Line.ne {x:List Nat}(hx:x.length=n):x≠[]:=by
 intro e;subst e;have:=Ln.n0;simp at hx;exact ģ hx this.1
theorem Line.Ao {x:List Nat}{a b:Nat}(hb:b≤4):((sw.drop a).take (b-a)).any (· ==x)=true↔ ∃k,a≤k∧k<b∧sw.getD k []=x:=by
 rw[List.any_eq_true];constructor
 ·rintro ⟨y,hy,e⟩;obtain⟨i,hi,rfl⟩:=List.mem_iff_getElem.mp hy;rw[List.length_take,List.length_drop,Ln.four] at hi
  refine⟨a+i,by exact EV,by exact U9 hi,?_⟩;rw[List.getElem_take,List.getElem_drop] at e
  rw[List.getD_eq_getElem?_getD,List.getElem?_eq_getElem (by rw[Ln.four];exact Va hi)];exact beq_iff_eq.mp e
 ·rintro ⟨k,h1,h2,e⟩;refine⟨x,?_,by simp⟩;have hk:k<sw.length:=by rw[Ln.four];exact WN hb h2
  rw[List.getD_eq_getElem?_getD,List.getElem?_eq_getElem hk] at e
  rw[←(show sw[k]=x from e)];refine List.mem_iff_getElem.mpr ⟨k-a,by rw[List.length_take,List.length_drop,Ln.four];exact Uv hb h1 h2,?_⟩;rw[List.getElem_take,List.getElem_drop];congr 1;exact IT h1
theorem Line.PJ {x:List Nat}(hx:x.length=n) (r5:LP (kR x)=true) {r:List (List Nat)}(hr:r=[]∨r=[[]]) {a b:Nat}(hb:b≤4):b6 sw.flatten (x::r) (a*n) (b*n)=((sw.drop a).take (b-a)).any (· ==x):=by
 have key:=Ln.Ao (x:=x) (a:=a) hb;rcases Ln.go hx r5 (r:=r) (a:=a) hb with ⟨e,h⟩ | ⟨k,h1,h2,h3,h4,e⟩
 ·rw[e];symm;cases q:((sw.drop a).take (b-a)).any (· ==x) with
  | false=>rfl
  | true=>refine gR (key.mp q) fun k q1 q2 q3=> ?_;exact absurd q3 (h k q1 q2)
 ·rw[e,key.mpr ⟨k,h1,h2,h3⟩];rcases hr with rfl | rfl
  ·rfl
  ·rw[iA (Nat.mul_le_mul_right _ h2)];rfl
end
section
variable {n:Nat}{sw:List (List Nat)}(Ln:Line n sw)
include Ln
theorem Line.take3 (x:List Nat) (a:Nat):((sw.drop a).take (4-a))=sw.drop a:=List.take_of_length_le (by rw[List.length_drop,Ln.four];exact Ji)
theorem Line.mJ {x:List Nat}(hx:x.length=n) {ps:List (List Nat)}(hp:ps≠[]) (v:Bool) (h:(sw.getD 0 []==x)=true→di sw.flatten ps n=v):eA (x::ps) sw.flatten=((sw.getD 0 []==x)&&v):=by
 have h2: ¬(x::ps).length<2:=by
  cases ps with
  | nil=>exact absurd rfl hp
  | cons y r=>simp
 have dm:=Ln.ne hx;cases q:(sw.getD 0 []==x) with
 | false=>rw[vU h2 dm (by show x.isPrefixOf _ =false;rw[Ln.pre hx,q])];rfl
 | true=>
  rw[ly h2 dm (by show x.isPrefixOf _ =true;rw[Ln.pre hx,q])];show di sw.flatten ps x.length=_;rw[hx,h q];rfl
theorem Line.oY {x:List Nat}(hx:x.length=n) {ws:List (List Nat)}{s:Nat}(hs:s≤3*n) (v:Bool) (h:(sw.getD 3 []==x)=true→b6 sw.flatten ws s (3*n)=v):di sw.flatten (ws++[x]) s=((sw.getD 3 []==x)&&v):=by
 have hl:(ws++[x]).getLastD []=x:=by simp
 have dm:=Ln.ne hx;have hlen:=Ln.len;cases q:(sw.getD 3 []==x) with
 | false=>rw[nY (by rw[hl];exact dm) (by rw[hl,Ln.KO hx,q])];rfl
 | true=>
  rw[gO (by rw[hl];exact dm) (by rw[hl,Ln.KO hx,q]),hl,hx,hlen,show 4*n-n=3*n by exact Ş,if_neg (W5 hs),List.dropLast_concat,h q];rfl
theorem Line.jx {ws:List (List Nat)}{s:Nat}(hs:s≤4*n):di sw.flatten (ws++[[]]) s=b6 sw.flatten (ws++[[]]) s (4*n):=by
 rw[jf (by simp),Ln.len,if_neg (W4 hs)]
theorem Line.g9 {ps:List (List Nat)}(hp:ps≠[]):eA ([]::ps) sw.flatten=di sw.flatten ([]::ps) 0:=by
 refine jJ ?_ rfl;cases ps with
 | nil=>exact absurd rfl hp
 | cons y r=>simp
theorem CU {bs:List (List Nat)}(hb: ∀x∈bs,Wd n x):lC bs sw sw.flatten:=by
 have n0:=Ln.n0;refine⟨fun x hx=> ?_,fun x hx=> ?_,fun x hx y hy=> ?_,fun x hx y hy=> ?_,fun x hx y hy=> ?_,fun x hx y hy=> ?_⟩
 ·have hw:=hb x hx;rw[Ln.mJ hw.len (by simp) true fun U=> ?_,Bool.and_true];rw[show ([[]]:List (List Nat))=[]++[[]] from rfl,Ln.jx Jc];show b6 _ [[]] _ _ =_;rw[iA Jc];rfl
 ·have hw:=hb x hx;rw[Ln.g9 (by simp),show ([[],x]:List (List Nat))=[[]]++[x] from rfl,Ln.oY hw.len E5 true fun U=> ?_,Bool.and_true];rw[iA E5];rfl
 ·have hw:=hb x hx;have hv:=hb y hy;rw[Ln.g9 (by simp),show ([[],x,y,[]]:List (List Nat))=[[],x,y]++[[]] from rfl,Ln.jx E4];show b6 _ ([]::x::y::[[]]) _ _ =_;rw[iA E4];have Mx: ∀(k:Nat) (z:List Nat),(sw.drop k).any (· ==z)=true↔ ∃j,k≤j∧j<4∧sw.getD j []=z:=fun k z=>by
   have:=Ln.Ao (x:=z) (a:=k) (b:=4) Am
   rwa [Ln.take3 z k] at this
  have HN:m6 sw x y=true↔ ∃k,k<4∧sw.getD k []=x∧(sw.drop (k+1)).any (· ==y)=true:=by
   unfold m6;rw[List.any_eq_true];constructor
   ·rintro ⟨k,hk,h⟩;have h:=Bool.and_eq_true_iff.mp h;exact⟨k,List.mem_range.mp hk,beq_iff_eq.mp h.1,h.2⟩
   ·rintro ⟨k,hk,h1,h2⟩;exact⟨k,List.mem_range.mpr hk,by rw[h1,h2];simp⟩
  have h0:b6 sw.flatten (x::y::[[]]) 0 (4*n)=b6 sw.flatten (x::y::[[]]) (0*n) (4*n):=by rw[Nat.zero_mul]
  rw[h0];rcases Ln.go hw.len hw.lp (r:=y::[[]]) (a:=0) (b:=4) Am with ⟨e,h⟩ | ⟨k,h1,h2,h3,h4,e⟩
  ·rw[e];symm;cases q:m6 sw x y with
   | false=>rfl
   | true=>refine gR (HN.mp q) fun k q1 q2 U=> ?_;exact absurd q2 (h k E3 q1)
  ·rw[e,Ln.PJ hv.len hv.lp (.inr rfl) Am,Ln.take3 y (k+1)];cases q:(sw.drop (k+1)).any (· ==y) with
   | true=>exact(HN.mpr ⟨k,h2,h3,q⟩).symm
   | false=>
    symm
    cases q2:m6 sw x y with
    | false=>rfl
    | true=>
     refine gR (HN.mp q2) fun j j1 j2 j3=> ?_
     have R5:k≤j:=by
      rcases Nat.lt_or_ge j k with g | g
      ·exact absurd j2 (h4 j E3 g)
      ·exact g
     refine gR ((Mx (j+1) y).mp j3) fun i i1 i2 i3=> ?_
     have:=(Mx (k+1) y).mpr ⟨i,by exact Vg R5 i1,i2,i3⟩
     rw[q] at this;cases this
 ·have hw:=hb x hx;have hv:=hb y hy;refine Ln.mJ hw.len (by simp) _ fun U=> ?_
  rw[show ([y,[]]:List (List Nat))=[y]++[[]] from rfl,Ln.jx Jc];show b6 _ (y::[[]]) n _ =_;have h1:b6 sw.flatten (y::[[]]) n (4*n)=b6 sw.flatten (y::[[]]) (1*n) (4*n):=by rw[Nat.one_mul]
  rw[h1,Ln.PJ hv.len hv.lp (.inr rfl) Am,Ln.take3 y 1]
 ·have hw:=hb x hx;have hv:=hb y hy;rw[Ln.g9 (by simp),show ([[],x,y]:List (List Nat))=[[],x]++[y] from rfl];refine Ln.oY hv.len E5 _ fun U=> ?_
  rw[iA E5];have h1:b6 sw.flatten [x] 0 (3*n)=b6 sw.flatten [x] (0*n) (3*n):=by rw[Nat.zero_mul]
  rw[h1,Ln.PJ hw.len hw.lp (.inl rfl) ary,List.drop_zero]
 ·have hw:=hb x hx;have hv:=hb y hy;refine Ln.mJ hw.len (by simp) _ fun U=> ?_
  rw[show ([y]:List (List Nat))=[]++[y] from rfl,Ln.oY hv.len ö true fun U=>rfl,Bool.and_true]
theorem placeOk:qO n sw sw.flatten:=by
 intro p b h1 h2 ht;have n0:=Ln.n0;have jA:((sw.flatten.drop p).take n).length=n:=by rw[List.length_take,List.length_drop,Ln.len];exact Xs h2
 rcases nq Ln.odd jA with ⟨t,e,nP,r5⟩ | ⟨e,_⟩
 ·rw[ht] at e
  cases e
  refine⟨nP,?_⟩;clear ht;generalize (sw.flatten.drop p).take n=win at*
  have qS:(win.drop b++win.take b).length=n:=by rw[List.length_append,List.length_drop,List.length_take,jA];exact N1
  generalize win.drop b++win.take b=one at*
  rw[Ln.g9 (by simp),show ([[],one,[]]:List (List Nat))=[[],one]++[[]] from rfl,Ln.jx E4];show b6 _ ([]::one::[[]]) _ _ =_;rw[iA E4];have h1:b6 sw.flatten (one::[[]]) 0 (4*n)=b6 sw.flatten (one::[[]]) (0*n) (4*n):=by rw[Nat.zero_mul]
  rw[h1,Ln.PJ qS r5 (.inr rfl) Am,List.drop_zero];rw[List.take_of_length_le (by rw[Ln.four];exact arz)]
 ·rw[ht] at e;cases e
theorem Line.lets: ∀ch∈sw.flatten,97≤ch∧ch≤112:=fun ch h=>by
 refine aF (List.mem_flatten.mp h) fun x hx h=> ?_
 exact(Ln.wd x hx).let' ch h
theorem Line.rise: ∃i,i+1<n∧sw.flatten.getD i 0<sw.flatten.getD (i+1) 0:=by
 have hw:=Ln.get (k:=0) dC;have hl:=DN Ln.odd;unfold rQ at hl
 have:=List.all_eq_true.mp hl _ (by have:=ix (kR (sw.getD 0 []));rwa [fT,hw.len] at this)
 rw[hw.lp] at this
 simp only[Bool.not_true,Bool.false_or] at this
 refine aF (List.any_eq_true.mp this) fun b hb e=> ?_
 unfold kR at hb
 refine aF (List.mem_map.mp hb) fun i hi ah=> ?_;subst ah
 have hi:=List.mem_range.mp hi;rw[hw.len] at hi
 refine⟨i,by exact IX hi,?_⟩;have e:=of_decide_eq_true e;have hg: ∀j,j<n→sw.flatten.getD j 0=(sw.getD 0 []).getD j 0:=by
  intro j hj;have ha:=hw.len;clear this hi;cases sw with
  | nil=>exact nomatch Ln.four
  | cons a sw=>
   show (a++sw.flatten).getD j 0=a.getD j 0;rw[List.getD_eq_getElem?_getD,List.getElem?_append_left (by exact Vu hj ha),List.getD_eq_getElem?_getD]
 rw[hg i (o4 hi),hg (i+1) (IX hi)];exact e
theorem wants: ∀k,k<8→eA ((fJ n sw.flatten).getD k []) sw.flatten=decide (k<2):=by
 have n0:=Ln.n0;have hlen:=Ln.len;have Mh:=Ln.lets;refine aF Ln.rise fun ri Bm FT=> ?_
 generalize sw.flatten=tl at*
 have dm:tl≠[]:=by intro e;subst e;simp at hlen;exact YY Bm hlen
 have r6:tl=tl.dropLast++[cq tl]:=by
  have e:cq tl=tl.getLast dm:=by
   unfold cq;rw[List.getLast_eq_getElem,List.getD_eq_getElem?_getD,List.getElem?_eq_getElem (IL Bm hlen)];rfl
  rw[e,List.dropLast_concat_getLast]
 have hlm:=Mh (cq tl) (b8 (IL Bm hlen));have r9:tl.dropLast.length=4*n-1:=by rw[List.length_dropLast,hlen]
 have pre: ∀x:List Nat,x <+: tl→x.isPrefixOf tl=true:=fun x h=>List.isPrefixOf_iff_prefix.mpr h
 have KO: ∀x:List Nat,x <:+ tl→x.isSuffixOf tl=true:=fun x h=>List.isSuffixOf_iff_suffix.mpr h
 have single: ∀x:List Nat,eA [x] tl=(x==tl):=fun x=>rfl
 have Ft:([cq tl]:List Nat).isSuffixOf tl=true:=KO _ ⟨tl.dropLast,r6.symm⟩;intro k hk;refine lt8 k hk ?_ ?_ ?_ ?_ ?_ ?_ ?_ ?_
 ·show eA [tl] tl=true;rw[single];simp
 ·
  show eA [tl.take n,tl.drop n] tl=true;have h1:tl.take n≠[]:=by intro e;have:=congrArg List.length e;rw[List.length_take,List.length_nil] at this;exact VU Bm hlen this
  have h2:tl.drop n≠[]:=by intro e;have:=congrArg List.length e;rw[List.length_drop,List.length_nil] at this;exact VQ Bm hlen this
  rw[ly (ps:=[tl.take n,tl.drop n]) (by simp) (by exact h1) (by exact pre _ (List.take_prefix _ _))];show di tl [tl.drop n] (tl.take n).length=true;rw[gO (ws:=[tl.drop n]) (by exact h2) (by exact KO _ (List.drop_suffix _ _))];show (if tl.length-(tl.drop n).length<(tl.take n).length then false else b6 tl [] (tl.take n).length (tl.length-(tl.drop n).length))=true;rw[List.length_drop,List.length_take,if_neg Wn];rfl
 ·
  show eA [tl.drop 1] tl=false;rw[single];refine beq_eq_false_iff_ne.mpr fun e=> ?_
  have:=congrArg List.length e;rw[List.length_drop] at this;exact VS Bm hlen this
 ·
  show eA [tl.dropLast] tl=false;rw[single];refine beq_eq_false_iff_ne.mpr fun e=> ?_
  have:=congrArg List.length e;exact T9 Bm hlen r9 this
 ·
  show eA [tl.dropLast++[cq tl-32]] tl=false;rw[single];refine beq_eq_false_iff_ne.mpr fun e=> ?_
  have:tl.dropLast++[cq tl-32]=tl.dropLast++[cq tl]:=e.trans r6
  have:=List.append_cancel_left this
  have:=List.cons.inj this
  exact ĕ hlm.1 this.1
 ·
  show eA [tl,[cq tl]] tl=false;rw[ly (ps:=[tl,[cq tl]]) (by simp) (by exact dm) (by exact pre _ ⟨[],by simp⟩)];show di tl [[cq tl]] tl.length=false;rw[gO (ws:=[[cq tl]]) (by simp) (by exact Ft)];show (if tl.length-1<tl.length then false else _)=false;rw[if_pos (IL Bm hlen)]
 ·
  show eA [[],tl.dropLast,tl.drop (tl.length-2),[]] tl=false;rw[jJ (ps:=[[],tl.dropLast,tl.drop (tl.length-2),[]]) (by simp) rfl];show di tl [[],tl.dropLast,tl.drop (tl.length-2),[]] 0=false;rw[jf rfl,if_neg ZT,iA E3,b6.eq_2];have hd2:(tl.drop (tl.length-2)).length=2:=by rw[List.length_drop];exact VG Bm hlen
  rcases f6 tl tl.dropLast 0 tl.length with ⟨e,_⟩ | ⟨p,e,_,h2,_,_⟩
  ·rw[e,if_pos dC]
  ·rw[e,if_neg Ae,Int.toNat_natCast,b6.eq_2];rcases f6 tl (tl.drop (tl.length-2)) (p+tl.dropLast.length) tl.length with ⟨e2,_⟩ | ⟨q,_,h3,h4,_,_⟩
   ·rw[e2,if_pos dC]
   ·exfalso;exact Tj hlen r9 hd2 h3 h4
 ·
  show eA [[],tl.drop 1,[cq tl]] tl=false;rw[jJ (ps:=[[],tl.drop 1,[cq tl]]) (by simp) rfl];show di tl [[],tl.drop 1,[cq tl]] 0=false;rw[gO (ws:=[[],tl.drop 1,[cq tl]]) (by simp) (by exact Ft)];show (if tl.length-1<0 then false else b6 tl [[],tl.drop 1] 0 (tl.length-1))=false;rw[if_neg ZW,iA ġ,b6.eq_2];have PC:(tl.drop 1).length=4*n-1:=by rw[List.length_drop];exact X9 hlen
  rcases f6 tl (tl.drop 1) 0 (tl.length-1) with ⟨e,_⟩ | ⟨p,e,_,h2,h3,_⟩
  ·rw[e,if_pos dC]
  ·exfalso;have hp:p=0:=TS hlen PC h2;subst hp;unfold iQ at h3
   have h3:=beq_iff_eq.mp h3;rw[List.drop_zero] at h3
   have:(tl.take (tl.drop 1).length)[ri]? =(tl.drop 1)[ri]? :=by rw[h3]
   rw[List.getElem?_take_of_lt (VN Bm PC),List.getElem?_drop] at this
   rw[List.getD_eq_getElem?_getD,List.getD_eq_getElem?_getD,this,Nat.add_comm 1 ri] at FT
   exact Ą FT
theorem GQ {bs:List (List Nat)}(hb: ∀x∈bs,Wd n x) (zo:bs.length=3):kz n bs sw sw.flatten:=
 ⟨Ln.len,Ln.n0.1,Ln.n0.2,Ln.lets,zo,Ln.four,fun x hx=>⟨(hb x hx).len,(hb x hx).let'⟩,fun x hx=>⟨(Ln.wd x hx).len,(Ln.wd x hx).let'⟩,wants Ln⟩
end
theorem rh:(aP.all fun c=> !Txt.isspace (mk [c]))=true:=by decide+kernel
theorem oj:aP.Nodup:=by decide+kernel
def yi (l:List (Int×Str)):Bool:=(List.range 16).all fun d=>(List.range 12).all fun v=>
 let t:=bY (97+d) (v:Int)
 !eM t&&(match l.lookup (t:Int) with | some s=>s.cps.toList==[97+d] | none=>(Txt.lower (mk [t])).cps.toList==[97+d])
theorem wc:yi eI=true:=by decide+kernel
def Hn:Bool:=(List.range 16).all fun d=>(List.range 12).all fun v=>(Txt.lower (mk [bY (97+d) (v:Int)])).cps.toList.length≤3
theorem DQ:Hn=true:=by decide+kernel
noncomputable def cat (p:Pr):List Nat:=p.1++p.2
noncomputable def mH (c0 c1 v:Nat):Nat:=if v=1 then c1 else c0
noncomputable def gN (vs:List Nat) (v:Nat):Nat→Option Nat
 | 0=>none
 | k+1=>if vs.getD k 2==v then some (k+1) else gN vs v k
noncomputable def vC (vs:List Nat) (b:Nat):List (Int×Int):=(List.range vs.length).map fun i=>(((vs.getD i 0:Nat):Int),((b+i:Nat):Int))
def Ii (vs:List Nat):Option Nat:=match gN vs 1 vs.length with | some i=>some i | none=>gN vs 0 vs.length
noncomputable def vals:Nat→List (List Nat)
 | 0=>[[]]
 | n+1=>(vals n).flatMap fun l=>[0::l,1::l]
theorem rO: ∀(l:List Nat),(∀v∈l,v<2)→l∈vals l.length
 | [],_=>.head _
 | b::r,h=>by
  refine List.mem_flatMap.mpr ⟨r,rO r fun v hv=>h v (.tail _ hv),?_⟩
  have:=h b (.head _)
  rcases (show b=0∨b=1 by exact E1 this) with rfl | rfl
  ·exact .head _
  ·exact .tail _ (.head _)
theorem Ez:((List.range 4).all fun b=>(List.range 5).all fun n=>(vals n).all fun vs=>n==0||Ii vs==some (((kN (vC vs b)).2+1).toNat-b))=true:=by decide+kernel
theorem Ih {b:Nat}(hb:b<4) {vs:List Nat}(hv: ∀v∈vs,v<2) (hn:vs.length≤4) (h0:vs≠[]):Ii vs=some (((kN (vC vs b)).2+1).toNat-b):=by
 have h1:=List.all_eq_true.mp Ez b (List.mem_range.mpr hb);have h2:=List.all_eq_true.mp h1 vs.length (List.mem_range.mpr (Ê hn));have h3:=List.all_eq_true.mp h2 vs (rO vs hv)
 have: ¬vs.length=0:=fun e=>h0 (List.eq_nil_of_length_eq_zero e)
 simpa [this] using h3
structure Kv (ks:Nat→Nat) (c0 c1:Nat) (ps:List (List Nat)):Prop where
 four:ps.length=4
 len: ∀x∈ps,x.length≤10
 last: ∀k,k<4→(ps.getD k []).getLast? =some (mH c0 c1 (ks k))
 two: ∀k,ks k<2
 ne:c0≠c1
 s0:Txt.isspace (mk [c0])=false
 s1:Txt.isspace (mk [c1])=false
theorem HF {ks:Nat→Nat}{c0 c1:Nat}{ts:List Pr}{ch b i:Nat}(hs:Txt.isspace (mk [ch])=false) (hi:0<i) (hl:(ts.map fun p=>p.2.getLast?)[i-1]? =some (some (mH c0 c1 (ks (b+(i-1)))))):wQ ts ch i=(mH c0 c1 (ks (b+(i-1)))==ch):=by
 unfold wQ;rw[hs,Bool.false_and,Bool.false_or];have e:(ts.getD (i-1) ([],[])).2.getLast? =some (mH c0 c1 (ks (b+(i-1)))):=by
  rw[List.getElem?_map] at hl
  rw[List.getD_eq_getElem?_getD];cases q:ts[i-1]? with
  | none=>rw[q] at hl;cases hl
  | some p=>rw[q] at hl;simpa using hl
 rw[e];simp
theorem oS {ks:Nat→Nat}{c0 c1 b:Nat}{ts:List Pr}{ch v:Nat}(hs:Txt.isspace (mk [ch])=false) (hv: ∀j,(mH c0 c1 (ks j)==ch)=(ks j==v)):
  ∀k,k≤ts.length→(∀i,i<k→(ts.map fun p=>p.2.getLast?)[i]? =some (some (mH c0 c1 (ks (b+i)))))→f7 ts ch k=gN ((List.range ts.length).map fun i=>ks (b+i)) v k
 | 0,_,_=>rfl
 | k+1,hk,hl=>by
  rw[f7,gN.eq_2,HF (b:=b) hs (YX hk) (hl k (YW hk)),Nat.add_sub_cancel,hv,oS hs hv k (IY hk) fun i hi=>hl i (NB hi)];congr 2;rw[List.getD_eq_getElem?_getD,List.getElem?_map,List.getElem?_range (YV hk)];rfl
theorem nV {vs ws:List Nat}{v:Nat}: ∀k,(∀i,i<k→vs.getD i 2=ws.getD i 2)→gN vs v k=gN ws v k
 | 0,_=>rfl
 | k+1,h=>by rw[gN.eq_2,gN.eq_2,h k ď,nV k fun i hi=>h i (NB hi)]
theorem sq {ks:Nat→Nat}{c0 c1 b k:Nat}{ts:List Pr}(h2: ∀k,ks k<2) (dm:c0≠c1) (s0:Txt.isspace (mk [c0])=false) (s1:Txt.isspace (mk [c1])=false) (hb:b<k) (hk:k<4) (FO:ts.length=k+1-b)
  (hl: ∀i,i<k-b→(ts.map fun p=>p.2.getLast?)[i]? =some (some (mH c0 c1 (ks (b+i))))):dR ts [c1,c0]=some (gj ks b k-b):=by
 have v1: ∀j,(mH c0 c1 (ks j)==c1)=(ks j==1):=by
  intro j;unfold mH
  have:=h2 j
  rcases (show ks j=0∨ks j=1 by exact E1 this) with e | e<;>rw[e]<;>simp[dm]
 have v0: ∀j,(mH c0 c1 (ks j)==c0)=(ks j==0):=by
  intro j;unfold mH
  have:=h2 j
  rcases (show ks j=0∨ks j=1 by exact E1 this) with e | e<;>rw[e]<;>simp[Ne.symm dm]
 have hlen:ts.length-1=k-b:=Vs FO;have ext: ∀v,gN ((List.range ts.length).map fun i=>ks (b+i)) v (k-b)=gN ((List.range (k-b)).map fun i=>ks (b+i)) v (k-b):=fun v=>nV _ fun i hi=>by
  rw[List.getD_eq_getElem?_getD,List.getElem?_map,List.getElem?_range (T6 hlen hi),List.getD_eq_getElem?_getD,List.getElem?_map,List.getElem?_range (VA hi)]
 have hc:=Ih (b:=b) (Yd hb hk) (vs:=(List.range (k-b)).map fun i=>ks (b+i)) (fun v hv=>by refine aF (List.mem_map.mp hv) fun i U ah=> ?_;subst ah;exact h2 _) (by simp;exact Ym hk) (by intro e;have:=congrArg List.length e;simp at this;exact NC hb this);have Mk:vC ((List.range (k-b)).map fun i=>ks (b+i)) b=jz ks b k:=by
  unfold vC jz;rw[List.length_map,List.length_range];refine List.map_congr_left fun i hi=> ?_
  have hi:=List.mem_range.mp hi;rw[List.getD_eq_getElem?_getD,List.getElem?_map,List.getElem?_range hi];rfl
 rw[Mk] at hc
 unfold dR dR dR;rw[hlen,oS s1 v1 (k-b) (Nf hlen) hl,oS s0 v0 (k-b) (Nf hlen) hl,ext,ext];unfold Ii at hc
 rw[List.length_map,List.length_range] at hc
 show _ =some (gj ks b k-b);unfold gj;rw[←hc];cases gN ((List.range (k-b)).map fun i=>ks (b+i)) 1 (k-b) with
 | some i=>rfl
 | none=>cases gN ((List.range (k-b)).map fun i=>ks (b+i)) 0 (k-b)<;>rfl
structure jN (ks:Nat→Nat) (c0 c1:Nat) (room:Nat) (ps:List (List Nat)) (k:Nat) (R:List (List Nat)×Nat×Nat×List (List Nat)) (M:List (List Nat)×List Pr×Nat):Prop where
 b:R.2.1≤k∧(k=0∨R.2.1<k)
 l:M.1=R.1
 z:M.2.2=R.2.2.1
 rm:R.2.2.1≤room∧(R.2.2.1≠0→R.2.1=0)
 tx:M.2.1.map cat=(R.2.2.2.drop R.2.1).take (k-R.2.1)
 tl:M.2.1.map (fun (p:Pr)=>p.2.getLast?)=(List.range (k-R.2.1)).map fun i=>some (mH c0 c1 (ks (R.2.1+i)))
 ql:R.2.2.2.length=4
 q0:R.2.2.2=ps∨(1≤k∧R.2.2.2=ps.set 0 (32::ps.getD 0 []))
 rl:R.1.length≤k
 rs: ∀x∈R.1,x.length≤44
 fl:R.1.flatten=(R.2.2.2.take R.2.1).flatten
theorem jN.qs {ks:Nat→Nat}{c0 c1 room:Nat}{ps:List (List Nat)}{k:Nat}{R:List (List Nat)×Nat×Nat×List (List Nat)}{M:List (List Nat)×List Pr×Nat}(P:Kv ks c0 c1 ps) (S:jN ks c0 c1 room ps k R M): ∀x∈R.2.2.2,x.length≤11:=by
 intro x hx;rcases S.q0 with e | ⟨_,e⟩
 ·rw[e] at hx;have:=P.len x hx;exact Oi this
 ·rw[e] at hx
  rcases List.mem_or_eq_of_mem_set hx with h | h
  ·have:=P.len x h;exact Oi this
  ·subst h
   have:=P.len (ps.getD 0 []) (b8 (by rw[P.four];decide))
   show (ps.getD 0 []).length+1≤11;exact ô this
theorem jN.SY {ks:Nat→Nat}{c0 c1 room:Nat}{ps:List (List Nat)}{k:Nat}{R:List (List Nat)×Nat×Nat×List (List Nat)}{M:List (List Nat)×List Pr×Nat}(S:jN ks c0 c1 room ps k R M):R.2.2.2.getD k []=ps.getD k []:=by
 rcases S.q0 with e | ⟨h,e⟩
 ·rw[e]
 ·rw[e,List.getD_eq_getElem?_getD,List.getElem?_set_ne (ĝ h),List.getD_eq_getElem?_getD]
theorem ye (ts:List Pr):wS ts=((ts.map cat).flatten).length:=by
 rw[←jX];rfl
theorem take_snoc {l:List (List Nat)}{b k:Nat}(hb:b≤k) (hk:k<l.length):(l.drop b).take (k-b)++[l.getD k []]=(l.drop b).take (k+1-b):=by
 rw[show k+1-b=(k-b)+1 by exact Ni hb,List.take_succ,List.getElem?_drop,show b+(k-b)=k by exact IT hb,List.getD_eq_getElem?_getD,List.getElem?_eq_getElem hk];rfl
theorem oR {l:List (List Nat)}{m:Nat}(h: ∀x∈l,x.length≤m):l.flatten.length≤l.length*m:=by
 rw[List.length_flatten];exact gY h
section
variable {ks:Nat→Nat}{c0 c1 wd room:Nat}{ps:List (List Nat)}(P:Kv ks c0 c1 ps)
include P
theorem wi {k:Nat}(hk:k<4) (S:jN ks c0 c1 room ps k (cz ks wd room ps k) (iV ks wd room ps [c1,c0] k)):
  jN ks c0 c1 room ps (k+1) (cz ks wd room ps (k+1)) (iV ks wd room ps [c1,c0] (k+1)):=by
 have D7:=S.qs P;have zq:=S.SY;have hS:=S;have vM:cz ks wd room ps (k+1)=(match cz ks wd room ps k with
  | (rows,b,rm,qs)=>
   if wd<rm+(cJ qs b (k+1)).length then
    if b<k then (rows++[cJ qs b (gj ks b k)],gj ks b k,0,qs)
    else if rm≠0 then (rows++[[]],b,0,qs.set 0 (32::qs.getD 0 []))
    else (rows,b,rm,qs)
   else (rows,b,rm,qs)):=rfl
 have MB:iV ks wd room ps [c1,c0] (k+1)=dG (iV ks wd room ps [c1,c0] k).1 (iV ks wd room ps [c1,c0] k).2.1 (iV ks wd room ps [c1,c0] k).2.2 wd [c1,c0] [] ((cz ks wd room ps k).2.2.2.getD k []):=rfl;rw[vM,MB];clear vM MB;generalize cz ks wd room ps k=R at*
 generalize iV ks wd room ps [c1,c0] k=M at*
 obtain⟨rows,b,rm,qs⟩:=R;obtain⟨l,t,z⟩:=M;obtain⟨hb,hl,hz,xP,Px,vG,nQ,Kj,qR,vH,tB⟩:=S;dsimp only at*
 subst hl;subst hz;have hs:=P.last k hk;rw[←zq] at hs
 have za:(t++[([],qs.getD k [])]).map cat=(qs.drop b).take (k+1-b):=by
  rw[List.map_append,Px,←take_snoc hb.1 (ND hk nQ)];rfl
 have D4:(t++[([],qs.getD k [])]).map (fun (p:Pr)=>p.2.getLast?)=(List.range (k+1-b)).map fun i=>some (mH c0 c1 (ks (b+i))):=by
  rw[List.map_append,vG,show k+1-b=(k-b)+1 by exact Ni hb.1,List.range_succ,List.map_append];congr 1;show [(qs.getD k []).getLast?]=[some (mH c0 c1 (ks (b+(k-b))))];rw[hs,show b+(k-b)=k by exact IT hb.1]
 have nP:t.length=k-b:=by
  have:=congrArg List.length vG
  simpa using this
 have hw:wS (t++[([],qs.getD k [])])=(cJ qs b (k+1)).length:=by rw[ye,za];rfl
 generalize L8:t++[([],qs.getD k [])]=t' at*
 have LI:t'.length=k+1-b:=by rw[←L8];simp[nP];exact Ww hb.1
 unfold dG;rw[L8,hw];by_cases gC:wd<z+(cJ qs b (k+1)).length
 ·have hle: ¬((z+(cJ qs b (k+1)).length:Nat):Int)≤(wd:Int):=UL gC;rw[if_pos gC,if_neg hle];by_cases F5:b<k
  ·refine Pq (vW (ks:=ks) F5) fun c1' c2 c3=> ?_
   rw[if_pos F5,sq (b:=b) (k:=k) P.two P.ne P.s0 P.s1 F5 hk LI (fun i hi=>by rw[D4,List.getElem?_map,List.getElem?_range (VB hi)];rfl)];generalize gj ks b k=cut at*
   refine⟨⟨by show cut≤k+1;exact ER c3,.inr (by show cut<k+1;exact Nu c3)⟩,?_,rfl,⟨Nat.zero_le _,fun h=>absurd rfl h⟩,?_,?_,nQ,?_,?_,?_,?_⟩
   ·show l++[tS (t'.take (cut-b))]=l++[cJ qs b cut];congr 2;unfold tS cJ;rw[List.map_take];show ((t'.map cat).take (cut-b)).flatten=_;rw[za,List.take_take,Nat.min_eq_left (Vh c3)]
   ·show (t'.drop (cut-b)).map cat=(qs.drop cut).take (k+1-cut);rw[List.map_drop,za,List.drop_take,List.drop_drop];congr 1
    ·exact U2 c2
    ·congr 1;exact Yk c2
   ·show (t'.drop (cut-b)).map (fun (p:Pr)=>p.2.getLast?)=(List.range (k+1-cut)).map fun i=>some (mH c0 c1 (ks (cut+i)))
    rw[List.map_drop,D4];apply List.ext_getElem?;intro j;rw[List.getElem?_drop,List.getElem?_map,List.getElem?_map];by_cases hj:j<k+1-cut
    ·rw[List.getElem?_range (TU c2 hj),List.getElem?_range hj];show some (some (mH c0 c1 (ks (b+(cut-b+j)))))=some (some (mH c0 c1 (ks (cut+j))));rw[show b+(cut-b+j)=cut+j by exact Vx c2]
    ·rw[List.getElem?_eq_none (by rw[List.length_range];exact Tr hj),List.getElem?_eq_none (by rw[List.length_range];exact Un hj)];rfl
   ·rcases Kj with e | ⟨h1,e⟩
    ·exact .inl e
    ·exact .inr ⟨by exact E2,e⟩
   ·show (l++[cJ qs b cut]).length≤k+1;rw[List.length_append];simp;exact Ab qR
   ·intro x hx;rcases List.mem_append.mp hx with h | h
    ·exact vH x h
    ·rw[List.mem_singleton.mp h];unfold cJ
     have:=oR (l:=(qs.drop b).take (cut-b)) (m:=11) fun x hx=>D7 x (List.mem_of_mem_drop (List.mem_of_mem_take hx))
     have h4:((qs.drop b).take (cut-b)).length≤4:=by rw[List.length_take,List.length_drop];exact UD nQ
     exact Ny this h4
   ·show (l++[cJ qs b cut]).flatten=(qs.take cut).flatten;rw[List.flatten_append,tB];unfold cJ;rw[List.flatten_cons,List.flatten_nil,List.append_nil,←List.flatten_append];congr 1;rw[show cut=b+(cut-b) by exact Xj c2,List.take_add,show b+(cut-b)-b=cut-b by exact Zw]
  ·have HE:k=0:=Y9 hb.2 F5;subst HE;have hb0:b=0:=Jb hb.1;subst hb0;have ht0:t=[]:=List.eq_nil_of_length_eq_zero (Ă nP);subst ht0;rw[if_neg F5];have hfn:dR t' [c1,c0]=none:=by
    unfold dR dR dR;rw[LI];rfl
   rw[hfn];by_cases Lj:z=0
   ·subst Lj;rw[if_neg (by simp),if_pos rfl];refine⟨⟨by show 0≤1;exact art,.inr (by show 0<1;exact ars)⟩,rfl,rfl,⟨Nat.zero_le _,fun h=>absurd rfl h⟩,za,D4,nQ,?_,?_,vH,tB⟩
    ·rcases Kj with e | ⟨h1,e⟩
     ·exact .inl e
     ·omega
    ·show l.length≤1;exact õ qR
   ·rw[if_pos Lj,if_neg Lj];have hq:qs=ps:=by rcases Kj with e | ⟨h1,_⟩;exact e;omega
    have uB:l=[]:=List.eq_nil_of_length_eq_zero (Jb qR);subst uB;refine⟨⟨by show 0≤1;exact art,.inr (by show 0<1;exact ars)⟩,rfl,rfl,⟨Nat.zero_le _,fun h=>absurd rfl h⟩,?_,?_,?_,?_,?_,?_,?_⟩
    ·show [32::qs.getD 0 []]=((qs.set 0 (32::qs.getD 0 [])).drop 0).take 1;cases qs with
     | nil=>simp at nQ
     | cons x r=>rfl
    ·show [(qs.getD 0 []).getLast?]=[some (mH c0 c1 (ks (0+0)))];rw[hs]
    ·show (qs.set 0 _).length=4;rw[List.length_set];exact nQ
    ·exact .inr ⟨Nat.le_refl _,by rw[hq]⟩
    ·show 1≤1;exact arv
    ·intro x hx
     have:x=[]:=by simpa using hx
     rw[this];simp
    ·show ([[]]:List (List Nat)).flatten=((qs.set 0 _).take 0).flatten;rfl
 ·have hle:((z+(cJ qs b (k+1)).length:Nat):Int)≤(wd:Int):=Uj gC;rw[if_neg gC,if_pos hle];refine⟨⟨by show b≤k+1;exact ER hb.1,.inr (by show b<k+1;exact Nu hb.1)⟩,rfl,rfl,xP,za,D4,nQ,?_,?_,vH,tB⟩
  ·rcases Kj with e | ⟨h1,e⟩
   ·exact .inl e
   ·exact .inr ⟨by exact E2,e⟩
  ·show l.length≤k+1;exact ER qR
theorem lM: ∀k,k≤4→jN ks c0 c1 room ps k (cz ks wd room ps k) (iV ks wd room ps [c1,c0] k)
 | 0,_=>by
  refine⟨⟨Nat.le_refl _,.inl rfl⟩,rfl,rfl,⟨Nat.le_refl _,fun U=>rfl⟩,rfl,rfl,P.four,.inl rfl,Nat.le_refl _,(fun x hx=>nomatch hx),rfl⟩
 | k+1,hk=>wi P (ķ hk) (lM k (Ķ hk))
end
theorem dJ: ∀(a b:List Nat),cy (a++b)=cy a++cy b
 | [],b=>rfl
 | x::a,b=>by rw[List.cons_append,cy.eq_2,dJ a b,cy.eq_2,List.append_assoc]
theorem gW: ∀(a:List Nat),(∀ch∈a,eM ch=true)→cy a=[]
 | [],_=>rfl
 | x::a,h=>by rw[cy.eq_2,h x (.head _),gW a fun ch hc=>h ch (.tail _ hc)];rfl
theorem lH: ∀(l:List (List Nat)),cy l.flatten=(l.map cy).flatten
 | []=>rfl
 | x::l=>by rw[List.flatten_cons,dJ,lH l];rfl
theorem lG: ∀(l:List (List Nat)),cy (aB [10] l)=cy l.flatten
 | []=>rfl
 | [a]=>by simp[aB]
 | a::b::r=>by
  have ih:=lG (b::r)
  have:cy [10]=[]:=gW [10] dC
  rw[aB.eq_3,dJ,dJ,ih,this,List.append_nil,←dJ];rfl
theorem rU: ∀(l:List (List Nat)) (ch:Nat),ch∈aB [10] l→ch=10∨ch∈l.flatten
 | [],ch,h=>by cases h
 | [a],ch,h=>.inr (by simpa [aB] using h)
 | a::b::r,ch,h=>by
  rw[aB.eq_3] at h
  rcases List.mem_append.mp h with h | h
  ·rcases List.mem_append.mp h with h | h
   ·exact .inr (by rw[List.flatten_cons];exact List.mem_append_left _ h)
   ·exact .inl (List.mem_singleton.mp h)
  ·rcases rU (b::r) ch h with h | h
   ·exact .inl h
   ·exact .inr (by rw[List.flatten_cons];exact List.mem_append_right _ h)
theorem rV: ∀(l:List (List Nat)),(aB [10] l).length≤l.flatten.length+l.length
 | []=>by simp[aB]
 | [a]=>by simp[aB]
 | a::b::r=>by
  have ih:=rV (b::r);rw[aB.eq_3,List.length_append,List.length_append,List.flatten_cons,List.length_append];simp only[List.length_cons,List.length_nil] at ih ⊢
  exact TP ih
theorem gr {c:Nat}(h:c∈aP):eM c=true:=by
 unfold eM;rw[List.contains_iff_mem];exact List.mem_append_left _ h
theorem rj {c:Nat}{way:Int}(h1:97≤c) (h2:c≤112):eM (bY c way)=false∧xT (bY c way)=[c]∧(Txt.lower (mk [bY c way])).length≤3:=by
 have hr:=cO way (b:=12) dC;have ht:bY c way=bY (97+(c-97)) (((way.fmod 12).toNat:Nat):Int):=by
  have e1:(((way.fmod 12).toNat:Nat):Int).fmod 12=way.fmod 12:=by
   rw[Int.toNat_of_nonneg hr.1,Int.fmod_eq_emod_of_nonneg _ dC];exact Int.emod_eq_of_lt hr.1 hr.2
  have e2:(((way.fmod 12).toNat:Nat):Int).fmod 2=way.fmod 2:=by
   rw[Int.toNat_of_nonneg hr.1,Int.fmod_eq_emod_of_nonneg _ dC,Int.fmod_eq_emod_of_nonneg _ dC,Int.fmod_eq_emod_of_nonneg _ dC];exact Ż
  unfold bY;rw[e1,e2,show 97+(c-97)=c by exact Jf h1]
 rw[ht];have hd:=List.mem_range.mpr (show c-97<16 by exact ß h2);have hv:=List.mem_range.mpr (show (way.fmod 12).toNat<12 by exact ű hr.2);have k1:=List.all_eq_true.mp (List.all_eq_true.mp wc _ hd) _ hv;have k2:=List.all_eq_true.mp (List.all_eq_true.mp DQ _ hd) _ hv;have k1:=Bool.and_eq_true_iff.mp k1;have k2:=of_decide_eq_true k2;generalize bY (97+(c-97)) (((way.fmod 12).toNat:Nat):Int)=t at*
 refine⟨by simpa using k1.1,?_,by simpa [Str.length] using k2⟩;have k3:=k1.2;unfold xT;cases hq:eI.lookup (t:Int) with
 | some s=>
  rw[hq] at k3
  have:=beq_iff_eq.mp k3
  show s.cps.toList=[c];rw[this,show 97+(c-97)=c by exact Jf h1]
 | none=>
  rw[hq] at k3
  have:=beq_iff_eq.mp k3
  show (Txt.lower (mk [t])).cps.toList=[c];rw[this,show 97+(c-97)=c by exact Jf h1]
theorem iF {i:Nat}(h:i<27):aP.getD i 0∈aP:=b8 h
theorem iO (m j:Nat) (hj:j<2):aw m j∈aP:=by
 unfold aw
 match j,hj with
 | 0,_=>exact iF (Nat.mod_lt _ dC)
 | 1,_=>exact iF (Nat.mod_lt _ dC)
theorem lE {sz o k:Nat}{wd:List Nat}(hl:wd.length=sz) (hw: ∀ch∈wd,97≤ch∧ch≤112) {ch:Nat}(h:ch∈eK sz o k wd): ∃c way,97≤c∧c≤112∧ch=bY c way:=by
 refine aF (List.mem_map.mp h) fun j hj ah=> ?_;subst ah
 have hj:=List.mem_range.mp hj
 have:=hw _ (b8 (d:=0) (i:=j) (IK hl hj))
 exact⟨_,_,this.1,this.2,rfl⟩
theorem wz {sz o m k:Nat}{wd:List Nat}(hl:wd.length=sz) (hw: ∀ch∈wd,97≤ch∧ch≤112) {ch:Nat}(h:ch∈eN sz o m k wd):eM ch=true∨ ∃c way,97≤c∧c≤112∧ch=bY c way:=by
 unfold eN at h
 rcases List.mem_append.mp h with h | h
 ·rcases List.mem_append.mp h with h | h
  ·rcases List.mem_append.mp h with h | h
   ·exact .inr (lE hl hw (List.mem_of_mem_take h))
   ·rw[List.eq_of_mem_replicate h];exact .inl (gr (iF (Nat.mod_lt _ dC)))
  ·exact .inr (lE hl hw (List.mem_of_mem_drop h))
 ·rw[List.mem_singleton.mp h];exact .inl (gr (iO m _ (Nat.mod_lt _ dC)))
theorem kD: ∀(l:List Nat) (f:List Nat),(∀i,i<l.length→l.length=f.length→ ∃way,97≤f.getD i 0∧f.getD i 0≤112∧l.getD i 0=bY (f.getD i 0) way)→l.length=f.length→cy l=f
 | [],[],_,_=>rfl
 | [],_::_,_,h=>by simp at h
 | _::_,[],_,h=>by simp at h
 | x::l,y::f,hx,h=>by
  have h':l.length=f.length:=by simpa using h
  refine gR (hx 0 (by simp) h) fun way h1 h2 h3=> ?_
  have e1:(x::l).getD 0 0=x:=rfl;have e2:(y::f).getD 0 0=y:=rfl;rw[e1,e2] at h3
  rw[e2] at h1 h2
  have ht:=rj (way:=way) h1 h2;have ih:=kD l f (fun i hi U=>by
   have:=hx (i+1) (by simpa using hi) h
   simpa using this) h'
  rw[cy.eq_2,h3,ht.1,ih,ht.2.1];rfl
theorem rn {sz o m k:Nat}{wd:List Nat}(hl:wd.length=sz) (hw: ∀ch∈wd,97≤ch∧ch≤112):cy (eN sz o m k wd)=wd:=by
 unfold eN;rw[dJ,dJ,dJ,gW [aw m (aN m k)] (fun ch h=>by rw[List.mem_singleton.mp h];exact gr (iO m _ (Nat.mod_lt _ dC))),
  gW (List.replicate _ _) (fun ch h=>by rw[List.eq_of_mem_replicate h];exact gr (iF (Nat.mod_lt _ dC))),List.append_nil,List.append_nil,←dJ,List.take_append_drop]
 have vG:(eK sz o k wd).length=sz:=by simp[eK]
 refine kD _ _ (fun i hi U=> ?_) (by rw[vG,hl]);have jC:i<sz:=UB vG hi
 have:=hw _ (b8 (d:=0) (i:=i) (by (rw[hl];exact jC)))
 refine⟨((o/81+3*k+i:Nat):Int),this.1,this.2,?_⟩;unfold eK;rw[List.getD_eq_getElem?_getD,List.getElem?_map,List.getElem?_range jC];rfl
theorem zO (m:Nat):aw m 0≠aw m 1:=by
 show aP.getD (m/16%27) 0≠aP.getD ((m/16+1+m/432%26)%27) 0;have h1:=Nat.mod_lt (m/16) (show 0<27 by decide);have h2:=Nat.mod_lt (m/16+1+m/432%26) (show 0<27 by decide);have h3:=Nat.mod_lt (m/432) (show 0<26 by decide);have hl:aP.length=27:=rfl;intro e;rw[List.getD_eq_getElem?_getD,List.getElem?_eq_getElem (Xe hl),List.getD_eq_getElem?_getD,List.getElem?_eq_getElem (Xf hl)] at e
 have:=(List.getElem_inj oj).mp (show aP[m/16%27]=aP[(m/16+1+m/432%26)%27] from e)
 exact Ś this
theorem vy {c:Nat}(h:c∈aP):Txt.isspace (mk [c])=false:=by
 have:=List.all_eq_true.mp rh c h
 simpa using this
theorem He {sz o m:Nat}{sw:List (List Nat)}(h7:sz≤7) (hW:hH sz sw):Kv (aN m) (aw m 0) (aw m 1) (bE sz o m sw 4):=by
 refine⟨by simp[bE],fun x hx=> ?_,fun k hk=> ?_,fun k=>Nat.mod_lt _ dC,zO m,vy (iO m 0 dC),vy (iO m 1 dC)⟩
 ·refine aF (List.mem_map.mp hx) fun k U ah=> ?_;subst ah
  unfold eN;have vG:(eK sz o k (sw.getD k [])).length=sz:=by simp[eK]
  have h3:=Nat.mod_lt (m/432+k) (show 0<3 by decide);simp only[List.length_append,List.length_take,List.length_drop,List.length_replicate,List.length_cons,List.length_nil,vG];exact TN h7
 ·unfold bE;rw[List.getD_eq_getElem?_getD,List.getElem?_map,List.getElem?_range hk];show (eN sz o m k (sw.getD k [])).getLast? =_;unfold eN;rw[List.getLast?_append];show some (aw m (aN m k))=_
  have:aN m k<2:=Nat.mod_lt _ dC
  unfold mH;rcases (show aN m k=0∨aN m k=1 by exact E1 this) with e | e<;>rw[e]<;>rfl
theorem KP {c:Nat}{l:List Nat}(hc:Txt.isspace (mk [c])=false) (h:c∈l):Txt.isspace (mk l)=false:=by
 have h1:Unicode.isSpace c=false:=by
  unfold Txt.isspace at hc
  simpa [Str.length] using hc
 unfold Txt.isspace
 have:(mk l).cps.all Unicode.isSpace=false:=by
  rw[Array.all_eq_false'];exact⟨c,by simpa using h,by simp[h1]⟩
 rw[this,Bool.and_false]
theorem yz {bs:List (List Nat)}(hb:bs.length=3) (o:Nat): ∀x∈bG bs o,x∈bs:=by
 intro x hx;refine aF (List.mem_map.mp hx) fun k U ah=> ?_;subst ah
 exact b8 (by rw[hb];exact Nat.mod_lt _ dC)
section
variable {ks:Nat→Nat}{c0 c1 wd room:Nat}{ps:List (List Nat)}{k:Nat}{R:List (List Nat)×Nat×Nat×List (List Nat)}{M:List (List Nat)×List Pr×Nat}
theorem jN.join_le (P:Kv ks c0 c1 ps) (S:jN ks c0 c1 room ps k R M) (e:Nat):(cJ R.2.2.2 R.2.1 e).length≤44:=by
 unfold cJ
 have:=oR (l:=(R.2.2.2.drop R.2.1).take (e-R.2.1)) (m:=11) fun x hx=>S.qs P x (List.mem_of_mem_drop (List.mem_of_mem_take hx))
 have h4:((R.2.2.2.drop R.2.1).take (e-R.2.1)).length≤4:=by rw[List.length_take,List.length_drop,S.ql];exact TA this
 exact Ny this h4
theorem jN.KN (S:jN ks c0 c1 room ps k R M):M.2.1.length=k-R.2.1:=by
 have:=congrArg List.length S.tl
 simpa using this
theorem jN.stepOk (P:Kv ks c0 c1 ps) (hr:room≤7) (hk:k<4) (S:jN ks c0 c1 room ps k R M) (hR:cz ks wd room ps k=R) (hM:iV ks wd room ps [c1,c0] k=M):mK ks wd room ps [c1,c0] k:=by
 have hw:wS (M.2.1++[([],R.2.2.2.getD k [])])=(cJ R.2.2.2 R.2.1 (k+1)).length:=by
  rw[ye,List.map_append,S.tx];show ((((R.2.2.2.drop R.2.1).take (k-R.2.1))++[R.2.2.2.getD k []]).flatten).length=_;rw[take_snoc S.b.1 (by rw[S.ql];exact hk)];rfl
 have hj:=S.join_le P (k+1);have xP:=S.rm;have nP:=S.KN;subst hR;subst hM;refine⟨S.ql,fun x hx=>by have:=S.qs P x hx;exact Ob this,by have:=S.rl;exact Nt hk this,by have:=S.b.1;exact Xo hk this,by exact Wy hr xP.1,⟨by rw[S.z];exact Wz hr xP.1,by exact Nk hj hw,by rw[List.length_append];simp;exact U3 hk nP⟩,by exact U4 hk nP,by rw[S.l];have:=S.rl;exact Nt hk this,fun hz hf=> ?_⟩;rw[S.z] at hz
 have hb0:=xP.2 (Oy hz);rcases S.b.2 with h0 | h0
 ·subst h0
  have:(iV ks wd room ps [c1,c0] 0).2.1=[]:=rfl
  rw[this];rfl
 ·exfalso;rw[sq (b:=(cz ks wd room ps k).2.1) (k:=k) P.two P.ne P.s0 P.s1 h0 hk (by rw[List.length_append,nP];simp;exact Xm h0) (fun i hi=>by
   rw[List.map_append,List.getElem?_append_left (by rw[List.length_map,nP];exact hi),S.tl,List.getElem?_map,List.getElem?_range hi];rfl)] at hf
  cases hf
end
theorem mF (l:List (List Nat)) (b:Nat):(l.take b).flatten++(l.drop b).flatten=l.flatten:=by rw[←List.flatten_append,List.take_append_drop]
theorem yx (qs:List (List Nat)) (h:qs.length=4):(qs.set 0 (32::qs.getD 0 [])).map cy=qs.map cy:=by
 cases qs with
 | nil=>cases h
 | cons a r=>rfl
theorem uh {sz o m wd rm:Nat}{bs:List (List Nat)}{R:List (List Nat)×Nat×Nat×List (List Nat)}{M:List (List Nat)×List Pr×Nat}(ho:jQ sz) (hb: ∀x∈bs,Wd sz x) (zo:bs.length=3) (xP:rm<8)
  (hRS:RS sz o m wd rm bs 4=R) (hMS:MS sz o m wd rm bs 4=M) (S:jN (aN m) (aw m 0) (aw m 1) rm (bE sz o m (bG bs o) 4) 4 R M) (P:Kv (aN m) (aw m 0) (aw m 1) (bE sz o m (bG bs o) 4)) (Ln:Line sz (bG bs o)) (hW:hH sz (bG bs o))
  (uy: ∀k,k<4→mK (aN m) wd rm (bE sz o m (bG bs o) 4) [aw m 1,aw m 0] k)
  (FU:kI sz o m wd rm bs=aB [10] (R.1++[(R.2.2.2.drop R.2.1).flatten])):PlainAt sz o m wd rm bs:=by
 have n0:=Ln.n0;have D8:(bE sz o m (bG bs o) 4).map cy=bG bs o:=by
  unfold bE;rw[List.map_map];have e:(List.range 4).map (cy∘fun k=>eN sz o m k ((bG bs o).getD k []))=(List.range 4).map fun k=>(bG bs o).getD k []:=by
   refine List.map_congr_left fun k hk=> ?_
   have hw:=hW.get (List.mem_range.mp hk);exact rn hw.1 hw.2
  rw[e]
  have:=nJ (bG bs o) [] (fun x=>x)
  rw[Ln.four] at this
  rw[this,List.map_id']
 have vJ: ∀x∈bE sz o m (bG bs o) 4,∀ch∈x,eM ch=true∨ ∃c way,97≤c∧c≤112∧ch=bY c way:=fun x hx ch hc=>by
  refine aF (List.mem_map.mp hx) fun k hk ah=> ?_;subst ah
  have hw:=hW.get (List.mem_range.mp hk);exact wz hw.1 hw.2 hc
 have hqt:R.2.2.2.map cy=bG bs o:=by
  rcases S.q0 with e | ⟨_,e⟩
  ·rw[e,D8]
  ·rw[e,yx _ P.four,D8]
 have hqm: ∀x∈R.2.2.2,∀ch∈x,eM ch=true∨ ∃c way,97≤c∧c≤112∧ch=bY c way:=fun x hx ch hc=>by
  rcases S.q0 with e | ⟨_,e⟩
  ·rw[e] at hx;exact vJ x hx ch hc
  ·rw[e] at hx
   rcases List.mem_or_eq_of_mem_set hx with h | h
   ·exact vJ x h ch hc
   ·subst h;rcases List.mem_cons.mp hc with h | h
    ·subst h;exact .inl dC
    ·exact vJ _ (b8 (by rw[P.four];decide)) ch h
 have D7:=S.qs P;have R3:=S.join_le P 4;have nP:=S.KN;have s0:=P.s0;have s1:=P.s1;have h2:=P.two;have Sh:R.2.1<4:=by rcases S.b.2 with h | h;exact absurd h dC;exact h
 have dm:M.2.1≠[]:=by intro e;rw[e] at nP;simp at nP;exact Ĥ nP Sh
 have RV: ∃p v,M.2.1.getLast? =some p∧p.2.getLast? =some v∧Txt.isspace (mk [v])=false:=by
  have hl:(M.2.1.map (fun (p:Pr)=>p.2.getLast?)).getLast? =some (some (mH (aw m 0) (aw m 1) (aN m 3))):=by
   rw[S.tl,List.getLast?_map,show 4-R.2.1=(3-R.2.1)+1 by exact Ċ Sh,List.range_succ,List.getLast?_concat];show some (some (mH _ _ (aN m (R.2.1+(3-R.2.1)))))=_;rw[show R.2.1+(3-R.2.1)=3 by exact ĉ Sh]
  rw[List.getLast?_map] at hl
  cases q:M.2.1.getLast? with
  | none=>rw[q] at hl;cases hl
  | some p=>
   rw[q] at hl
   refine⟨p,mH (aw m 0) (aw m 1) (aN m 3),rfl,by simpa using hl,?_⟩;unfold mH;split
   ·exact s1
   ·exact s0
 refine jU RV fun p v hp hv de=> ?_
 have wO:cf M.2.1=M.2.1:=by
  unfold cf;rw[hp]
  have:p.2≠[]:=by intro e;rw[e] at hv;cases hv
  have e:(p.2==[])=false:=by
   cases hq:p.2 with
   | nil=>exact absurd hq this
   | cons _ _=>rfl
  show (if (p.1==[32]&&p.2==[])=true then _ else _)=_;rw[e,Bool.and_false];rfl
 have FO:tS M.2.1=(R.2.2.2.drop R.2.1).flatten:=by
  show (M.2.1.map cat).flatten=_;rw[S.tx,List.take_of_length_le (by rw[List.length_drop,S.ql];exact Ji)]
 have hvm:v∈tS M.2.1:=by
  refine List.mem_flatten.mpr ⟨cat p,List.mem_map.mpr ⟨p,List.mem_of_getLast? hp,rfl⟩,?_⟩;exact List.mem_append_right _ (List.mem_of_getLast? hv)
 have FP:(tS M.2.1).length≤44:=by
  rw[FO]
  have:cJ R.2.2.2 R.2.1 4=(R.2.2.2.drop R.2.1).flatten:=by
   unfold cJ;rw[List.take_of_length_le (by rw[List.length_drop,S.ql];exact Ji)]
  rw[←this];exact R3
 have FI:wS M.2.1=(tS M.2.1).length:=(jX _).symm;have ib:0<wS M.2.1:=by rw[FI];exact List.length_pos_of_mem hvm
 have qR:=S.rl;have vH:=S.rs;have tB:(R.1++[(R.2.2.2.drop R.2.1).flatten]).flatten=R.2.2.2.flatten:=by
  rw[List.flatten_append,S.fl,List.flatten_cons,List.flatten_nil,List.append_nil,mF]
 have uA:(kI sz o m wd rm bs).length≤100:=by
  rw[FU];have h1:=rV (R.1++[(R.2.2.2.drop R.2.1).flatten]);rw[tB] at h1
  have h2:=oR D7;rw[S.ql] at h2
  rw[List.length_append] at h1
  simp only[List.length_cons,List.length_nil] at h1
  exact UP qR h1 h2
 refine⟨hW,uy,?_,?_,?_,?_,?_,?_,?_,?_,?_,?_,?_,?_,by exact í uA,?_,fun ch HU Py=> ?_,GQ Ln hb zo,CU Ln hb,placeOk Ln⟩
 all_goals try rw[hRS]
 all_goals try rw[hMS]
 ·rw[wO,FU,S.l,FO]
 ·rw[wO];exact⟨by rw[S.z];have:=S.rm.1;exact Xn xP this,by exact Nk FP FI,by exact X0 nP⟩
 ·exact X2 nP
 ·rw[wO];exact KP de hvm
 ·rw[wO];exact Yv ib
 ·rw[S.l];exact È qR
 ·rw[S.l];intro x hx;have:=vH x hx;exact I5 this
 ·rw[wO];exact I5 FP
 ·exact É qR
 ·intro x hx;have:=vH x hx;exact I5 this
 ·exact S.ql
 ·intro x hx;have:=D7 x hx;exact Ob this
 ·rw[FU,lG,tB,lH,hqt]
 ·rw[FU] at HU
  rcases rU _ ch HU with h | h
  ·subst h
   have:eM 10=true:=by decide
   rw[this] at Py;cases Py
  ·rw[tB] at h
   refine aF (List.mem_flatten.mp h) fun x hx hc=> ?_
   rcases hqm x hx ch hc with h | ⟨c,way,h1,h2,rfl⟩
   ·rw[h] at Py;cases Py
   ·have:=rj (way:=way) h1 h2
    exact⟨by exact Í this.2.2,by rw[this.2.1];simp⟩
theorem Dy {sz o m wd rm:Nat}{bs:List (List Nat)}(ho:jQ sz) (hb: ∀x∈bs,Wd sz x) (zo:bs.length=3) (xP:rm<8):PlainAt sz o m wd rm bs:=by
 have Rw:=yz zo o;have Ln:Line sz (bG bs o):=⟨ho,by simp[bG],fun x hx=>hb x (Rw x hx)⟩;have n0:=Ln.n0;have hW:hH sz (bG bs o):=⟨Ln.four,fun x hx=>⟨(Ln.wd x hx).len,(Ln.wd x hx).let'⟩⟩;have P:=He (o:=o) (m:=m) n0.2 hW;have uy: ∀k,k<4→mK (aN m) wd rm (bE sz o m (bG bs o) 4) [aw m 1,aw m 0] k:=fun k hk=>(lM (wd:=wd) P k (ć hk)).stepOk P (Ć xP) hk rfl rfl
 exact uh ho hb zo xP rfl rfl (lM (wd:=wd) (room:=rm) P 4 (Nat.le_refl _)) P Ln hW uy rfl
theorem Dz: ∀sz o m wd rm (l0 l1 l2:Int),sz=3∨sz=5∨sz=7→sz≤wd→wd<4*sz→rm<8→PlainAt sz o m wd rm ([l0,l1,l2].map (dv sz)):=fun sz o m wd rm l0 l1 l2 h U U hr=>
 Dy h (fun x hx=>by
  refine aF (List.mem_map.mp hx) fun l U ah=> ?_;subst ah
  exact z6 h l) rfl hr
theorem yf: ∀{vs:List Value}{xs:List Int},IntsAre vs xs→cu (dK xs) vs:=by
 intro vs xs h
 induction h with
 | nil=>exact .nil
 | cons h t _ ih=>exact .cons (.int _ _) ih
theorem wI {K:Frag}{l:Frag}{a:Addr}{o:Obj}(h:K.lookup a=some o):(K++l).lookup a=some o:=by
 rw[List.lookup_append,h];rfl
theorem yn (w:World) (ro s₁:Shared) (mg mb:Str→Option Value) (G:Ground qV mr Challenge.rw_wr0055_02.row.records (fun x Pj=>True) w ro mg mb s₁.heap)
  (Y:(KW w.params).In s₁.heap) (fa:Addr) (o:Obj) (pm cd doc dV kV:Value) (ho:s₁.heap.get? fa=some o)
  (hd:o.data= .func {docDef "law" (dh (ST 21)) (bodyOf (ST 21)) (ao (ST 21)) pm cd doc with defaults:=dV,kwdefaults:=kV})
  (HV:s₁.heap.CodeRec cd "law") (hD:Dflts mg s₁.heap (dh (ST 21)) [] dV kV) (hmg:mg "law"=some (.ref fa)) (hg:s₁.gens= #[])
  (args:List WData) (vals:List Value) (as:List Addr) (HA:Challenge.rw_wr0055_02.row.claim.pre args=true) (jb:WData.layableAll args=true)
  (RF:ReadsAllW Challenge.rw_wr0055_02.row.records (classAt ro.heap) s₁.heap vals args as) (jA:WellAll w.params s₁.heap vals args) (FW: ∀a∈as,(a==sysModules)=false):
  wpAny (model Challenge.rw_wr0055_02.row.prog w) callerA (PySem.call (.ref fa) vals)
  (fun v s'=>GoodWG Challenge.rw_wr0055_02.row.claim (classAt ro.heap) (ExcName.means ro.heap) args s₁ (Except.ok (Flow.ret v)) s')
  (fun e s'=>GoodWG Challenge.rw_wr0055_02.row.claim (classAt ro.heap) (ExcName.means ro.heap) args s₁ (Except.error e) s') s₁:=by
 wrow_args HA jb RF jA FW
 rename_i ns _ _ _ _ _ _ _ sa vs _ hL _ w1 _ hI _ hlen _
 have hE: ∃n,s₁.heap.get? sa=some {cls:=.type "list",data:=.seq vs.toArray n}:=by
  refine oBn hL fun o' n e U e2=> ?_
  have w1':Well w.params s₁.heap (.ref sa) (.list (ofPys (ns.map PyData.int))):=w1;cases w1' with
  | list e3 _=>
   rw[e] at e3;cases e3
   cases e2
   exact⟨_,e⟩
 have T:=G.T;have K0:(KF w.params).In s₁.heap:=fun a o h=>Y a o (wI h)
 have M:th w.params mg mb:=⟨fun x v e=>mg_of K0 T.g e,fun x e=>mg_none_of K0 T.g e,T.builtins⟩;obtain rfl:dV= .none:=by rcases hD.pos with ⟨_,h⟩ | ⟨h,_⟩;exact h;exact absurd rfl h
 obtain rfl:kV= .none:=by rcases hD.kw with ⟨_,h⟩ | ⟨h,_⟩;exact h;exact absurd rfl h
 have h1:s₁.heap.get? qT.Plen=some {cls:=.none,data:=.fields #[]}:=Y _ _ (by rfl);have h2:s₁.heap.get? qT.Pstr=some {cls:=.none,data:=.fields #[]}:=Y _ _ (by rfl);have c1:isCodeTable s₁.heap qT.Plen:=⟨qT.clen,_,_,K0 _ _ (by rfl),rfl,rfl,by rfl⟩;have c2:isCodeTable s₁.heap qT.Pstr:=⟨qT.cstr,_,_,K0 _ _ (by rfl),rfl,rfl,by rfl⟩;have RC:sa∉[qT.Plen,qT.Pstr]:=by
  intro hm;refine gF hE fun n e=> ?_
  rcases List.mem_cons.mp hm with rfl | hm
  ·rw[h1] at e;cases e
  ·rw[List.mem_singleton.mp hm,h2] at e;cases e
 refine enter_call (codeAny_mono (enter (prog:=PySem.Challenge.pw_wr0055_02) (w:=w) (T:=⟨KF w.params,mg,mb⟩) (a:=adV) (f:=PK) (aa:=qT) (ns:=ns) (MF M) (DS M) (C3 M) (rM M) (fun sz h r0 hr=>yK h r0 hr) Dz K0 (by
  intro p hp;rcases List.mem_cons.mp hp with rfl | hp
  ·rfl
  ·rw[List.mem_singleton.mp hp];rfl) dC T.g T.b T.nolimit dC h1 h2 ho hd HV (by
  refine gF hE fun n e=> ?_
  exact⟨_,e,vs,n,yf hI,rfl⟩) RC (ZY hlen) (by rw[hg];exact .empty)) ?_)
 rintro res s' ⟨rfl,hk,hp,D9,hge⟩;refine⟨.inl ⟨.bool true,.bool true,[],rfl,fun cls=>rfl,.bool _,postW_of (by wrow_shape) (by wtm_val) (by str_meet;first | done | w_fin),fun U=>⟨.nil,nofun⟩⟩,⟨fun b o' e=> ?_,fun b o' e=> ?_⟩,D9,hge⟩
 ·by_cases hb:b∈[qT.Plen,qT.Pstr]
  ·refine oBx (hp b hb) fun ps e' U=> ?_
   rcases List.mem_cons.mp hb with rfl | hb
   ·rw[h1] at e;cases e
    exact .inr (.inl ⟨c1,rfl,#[],ps,rfl,by rw[e'];simp⟩)
   ·obtain rfl:=List.mem_singleton.mp hb;rw[h2] at e;cases e
    exact .inr (.inl ⟨c2,rfl,#[],ps,rfl,by rw[e'];simp⟩)
  ·exact .inl (hk b o' hb e)
 ·by_cases hb:b∈[qT.Plen,qT.Pstr]
  ·refine aF (hp b hb) fun op e' U=> ?_
   exact⟨op,e'⟩
  ·exact⟨_,hk b o' hb e⟩
theorem Dc:OpenLaw.wellSaid PySem.Challenge.rw_wr0055_02=true:=by
 rw[show @OpenLaw.wellSaid=PySem.W.Fast.tw9446332074065402090 from PySem.W.Fast.te9446332074065402090]
 kernel_rfl
end Mine
end
open Mine
theorem PySem.Challenge.cw_wr0055_02_holds : PySem.Challenge.rw_wr0055_02.Holds := by
 w_on
 refine holds_law Dc fun aai=> ?_
 refine holds_open (d:=(⟨"law",dh (ST 21),bodyOf (ST 21),ao (ST 21),_⟩:PySem.DefRec)) (q:=qV) (loose:=mr) (Xt:=fun U=>true) (XP:=fun U U=>True) (YP:=fun w h=>(KW w.params).In h) Li ?hY ?hYk (fun U U=>trivial) (fun U U U U U=>trivial) (by rfl) (by rfl) (by rfl) ?hRf (by rfl) (by first | assumption | decide+kernel) (by decide+kernel) ⟨rfl,rfl,rfl,rfl,rfl,by decide+kernel⟩ ?hw ?hc
 case hw=>w_witness2
 case hY=>exact fun w s e=>InK.of IE w s e
 case hYk=>exact fun w h h' x k=>InK.keeps w h h' x k
 case hRf=>exact fun s U=>recFacts_of (by rfl)
 case hc=>
  intro w ro s₁ mg mb G Y fa o pm cd doc dV kV ho hd HV hD hmg hg args vals as HA jb RF jA FW;exact yn w ro s₁ mg mb G Y fa o pm cd doc dV kV ho hd HV hD hmg hg args vals as HA jb RF jA FW

