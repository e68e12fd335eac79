import PyProof.Rows.All
import Wide.All
import OpenK.AllK
import Wide.FinOn
import PySem.Challenge.RW_wr0055_01
set_option Elab.async false
namespace Mine
section
open PySem PySem.W PyProof.Rows
theorem mI1 {α:Type}{a b0:α}{l:List α}:a∈b0::a::l:=.tail _ (.head _)
theorem mI2 {α:Type}{a b0 b1:α}{l:List α}:a∈b0::b1::a::l:=.tail _ mI1
theorem mI3 {α:Type}{a b0 b1 b2:α}{l:List α}:a∈b0::b1::b2::a::l:=.tail _ mI2
theorem mI4 {α:Type}{a b0 b1 b2 b3:α}{l:List α}:a∈b0::b1::b2::b3::a::l:=.tail _ mI3
theorem mI5 {α:Type}{a b0 b1 b2 b3 b4:α}{l:List α}:a∈b0::b1::b2::b3::b4::a::l:=.tail _ mI4
theorem mI6 {α:Type}{a b0 b1 b2 b3 b4 b5:α}{l:List α}:a∈b0::b1::b2::b3::b4::b5::a::l:=.tail _ mI5
theorem mI7 {α:Type}{a b0 b1 b2 b3 b4 b5 b6:α}{l:List α}:a∈b0::b1::b2::b3::b4::b5::b6::a::l:=.tail _ mI6
theorem mI8 {α:Type}{a b0 b1 b2 b3 b4 b5 b6 b7:α}{l:List α}:a∈b0::b1::b2::b3::b4::b5::b6::b7::a::l:=.tail _ mI7
theorem mI9 {α:Type}{a b0 b1 b2 b3 b4 b5 b6 b7 b8:α}{l:List α}:a∈b0::b1::b2::b3::b4::b5::b6::b7::b8::a::l:=.tail _ mI8
theorem mI10 {α:Type}{a b0 b1 b2 b3 b4 b5 b6 b7 b8 b9:α}{l:List α}:a∈b0::b1::b2::b3::b4::b5::b6::b7::b8::b9::a::l:=.tail _ mI9
theorem mI11 {α:Type}{a b0 b1 b2 b3 b4 b5 b6 b7 b8 b9 b10:α}{l:List α}:a∈b0::b1::b2::b3::b4::b5::b6::b7::b8::b9::b10::a::l:=.tail _ mI10
theorem mI12 {α:Type}{a b0 b1 b2 b3 b4 b5 b6 b7 b8 b9 b10 b11:α}{l:List α}:a∈b0::b1::b2::b3::b4::b5::b6::b7::b8::b9::b10::b11::a::l:=.tail _ mI11
theorem mI13 {α:Type}{a b0 b1 b2 b3 b4 b5 b6 b7 b8 b9 b10 b11 b12:α}{l:List α}:a∈b0::b1::b2::b3::b4::b5::b6::b7::b8::b9::b10::b11::b12::a::l:=.tail _ mI12
theorem mI14 {α:Type}{a b0 b1 b2 b3 b4 b5 b6 b7 b8 b9 b10 b11 b12 b13:α}{l:List α}:a∈b0::b1::b2::b3::b4::b5::b6::b7::b8::b9::b10::b11::b12::b13::a::l:=.tail _ mI13
theorem mI15 {α:Type}{a b0 b1 b2 b3 b4 b5 b6 b7 b8 b9 b10 b11 b12 b13 b14:α}{l:List α}:a∈b0::b1::b2::b3::b4::b5::b6::b7::b8::b9::b10::b11::b12::b13::b14::a::l:=.tail _ mI14
theorem mI16 {α:Type}{a b0 b1 b2 b3 b4 b5 b6 b7 b8 b9 b10 b11 b12 b13 b14 b15:α}{l:List α}:a∈b0::b1::b2::b3::b4::b5::b6::b7::b8::b9::b10::b11::b12::b13::b14::b15::a::l:=.tail _ mI15
theorem mI17 {α:Type}{a b0 b1 b2 b3 b4 b5 b6 b7 b8 b9 b10 b11 b12 b13 b14 b15 b16:α}{l:List α}:a∈b0::b1::b2::b3::b4::b5::b6::b7::b8::b9::b10::b11::b12::b13::b14::b15::b16::a::l:=.tail _ mI16
theorem mI18 {α:Type}{a b0 b1 b2 b3 b4 b5 b6 b7 b8 b9 b10 b11 b12 b13 b14 b15 b16 b17:α}{l:List α}:a∈b0::b1::b2::b3::b4::b5::b6::b7::b8::b9::b10::b11::b12::b13::b14::b15::b16::b17::a::l:=.tail _ mI17
theorem mI19 {α:Type}{a b0 b1 b2 b3 b4 b5 b6 b7 b8 b9 b10 b11 b12 b13 b14 b15 b16 b17 b18:α}{l:List α}:a∈b0::b1::b2::b3::b4::b5::b6::b7::b8::b9::b10::b11::b12::b13::b14::b15::b16::b17::b18::a::l:=.tail _ mI18
theorem mI20 {α:Type}{a b0 b1 b2 b3 b4 b5 b6 b7 b8 b9 b10 b11 b12 b13 b14 b15 b16 b17 b18 b19:α}{l:List α}:a∈b0::b1::b2::b3::b4::b5::b6::b7::b8::b9::b10::b11::b12::b13::b14::b15::b16::b17::b18::b19::a::l:=.tail _ mI19
end
end Mine
section
open PySem PySem.W PyProof.Rows
set_option maxRecDepth 100000
namespace Mine
noncomputable abbrev mk (l:List Nat):Str:=⟨l.toArray⟩
theorem mk_cps (s:Str):mk s.cps.toList=s:=by cases s;simp[mk]
inductive PV where
 | none | bool (b:Bool) | int (i:Int) | str (l:List Nat) | bytes (l:List UInt8) | ref (a:Addr)
inductive VR:PV→Value→Prop
 | none:VR .none .none
 | bool (b:Bool):VR (.bool b) (.bool b)
 | int (i:Int) (t:Tok):VR (.int i) (.int i t)
 | str (l:List Nat) (t:Tok):VR (.str l) (.str (mk l) t)
 | bytes (l:List UInt8) (t:Tok):VR (.bytes l) (.bytes l.toArray t)
 | ref (a:Addr):VR (.ref a) (.ref a)
inductive VRo:Option PV→Option Value→Prop
 | none:VRo .none .none
 | some {p v} (h:VR p v):VRo (.some p) (.some v)
inductive VRs:List PV→List Value→Prop
 | nil:VRs [] []
 | cons {p v ps vs} (h:VR p v) (r:VRs ps vs):VRs (p::ps) (v::vs)
theorem VRs.length {ps vs} (h:VRs ps vs):ps.length=vs.length:=by
 induction h with
 | nil=>rfl
 | cons _ _ ih=>simp[ih]
theorem VRs.get {ps vs} (h:VRs ps vs): ∀(i:Nat) (p:PV),ps[i]? =some p→ ∃v,vs[i]? =some v∧VR p v:=by
 induction h with
 | nil=>intro i p e;simp at e
 | cons h r ih=>
  intro i p e
  cases i with
  | zero=>simp at e;subst e;exact⟨_,rfl,h⟩
  | succ i=>simp at e;simpa using ih i p e
theorem VRs.append {ps vs qs us} (h:VRs ps vs) (h':VRs qs us):VRs (ps++qs) (vs++us):=by
 induction h with
 | nil=>exact h'
 | cons h r ih=>exact .cons h ih
noncomputable abbrev Led:=List (Addr×(Obj→Prop))
inductive LedIs:Led→List (Addr×Obj)→Prop
 | nil:LedIs [] []
 | cons {a P o σ n} (h:P o) (r:LedIs σ n):LedIs ((a,P)::σ) ((a,o)::n)
theorem LedIs.keys {σ n} (h:LedIs σ n):σ.map (·.1)=n.map (·.1):=by
 induction h with
 | nil=>rfl
 | cons h r ih=>simp[ih]
theorem LedIs.get {σ n} (h:LedIs σ n): ∀{a P},(a,P)∈σ→ ∃o,(a,o)∈n∧P o:=by
 induction h with
 | nil=>intro a P e;cases e
 | cons h r ih=>
  intro a P e
  cases e with
  | head=>exact⟨_,.head _,h⟩
  | tail _ e=>obtain⟨o,ho,p⟩:=ih e;exact⟨o,.tail _ ho,p⟩
noncomputable abbrev Ro:=List (Str×Option PV)
noncomputable def RoIs (ρ:Ro) (m:Str→Option Value):Prop:=(∀p∈ρ,VRo p.2 (m p.1))∧ ∀y,y∉ρ.map (·.1)→m y=none
structure Cx where
 A:Around
 env:Env
 L:Addr
 FL:Addr
 g:Heap
 os:OsState
 ks:List Str
structure Inv (X:Cx) (ρ:Ro) (σ:Led) (s:Shared):Prop where
 st: ∃m news,Fr X.g X.L s.heap m∧News X.g X.L s.heap news∧RoIs ρ m∧LedIs σ news
 nd:(σ.map (·.1)).Nodup
 ks:ρ.map (·.1)=X.ks
 kn:X.ks.Nodup
 gens:AllBare s.gens
 os:s.os=X.os
section
variable (prog:Program) (w:World)
noncomputable def Ev (X:Cx) {α:Type}(t:Sem α) (ρ:Ro) (σ:Led) (R:α→Shared→Prop):Prop:=
 ∀s,Inv X ρ σ s→wpAny (model prog w) X.A t R (fun _ _=>False) s
noncomputable def PEt (X:Cx) (t:Sem Value) (ρ:Ro) (σ:Led) (v:PV):Prop:=Ev prog w X t ρ σ fun u s'=>VR v u∧Inv X ρ σ s'
noncomputable def PE (X:Cx) (e:Expr) (ρ:Ro) (σ:Led) (v:PV):Prop:=PEt prog w X (eval e X.env) ρ σ v
noncomputable def NEt (X:Cx) (t:Sem Value) (ρ:Ro) (σ:Led) (P:Obj→Prop):Prop:=Ev prog w X t ρ σ fun u s'=> ∃a,u= .ref a∧Inv X ρ ((a,P)::σ) s'
noncomputable def NE (X:Cx) (e:Expr) (ρ:Ro) (σ:Led) (P:Obj→Prop):Prop:=NEt prog w X (eval e X.env) ρ σ P
noncomputable def BE (X:Cx) (e:Expr) (ρ:Ro) (σ:Led) (b:Bool):Prop:=Ev prog w X (isTrue e X.env (eval e X.env)) ρ σ fun u s'=>u=b∧Inv X ρ σ s'
end
section
variable {prog:Program}{w:World}{X:Cx}{ρ:Ro}{σ:Led}
theorem Ev.mono {α:Type}{t:Sem α}{R R':α→Shared→Prop}(h:Ev prog w X t ρ σ R) (k: ∀a s,R a s→R' a s):Ev prog w X t ρ σ R':=
 fun s I=>wpAny_mono (h s I) k fun _ _ f=>f
theorem Ev.go {α:Type}{t:Sem α}{R:α→Shared→Prop}{Q:α→Shared→Prop}{E:Value→Shared→Prop}{s:Shared}(h:Ev prog w X t ρ σ R) (I:Inv X ρ σ s) (k: ∀a s,R a s→Q a s):
  wpAny (model prog w) X.A t Q E s:=wpAny_mono (h s I) k fun _ _ f=>f.elim
theorem PE.go {e:Expr}{v:PV}{Q:Value→Shared→Prop}{E:Value→Shared→Prop}{s:Shared}(h:PE prog w X e ρ σ v) (I:Inv X ρ σ s) (k: ∀u s',VR v u→Inv X ρ σ s'→Q u s'):
  wpAny (model prog w) X.A (eval e X.env) Q E s:=wpAny_mono (h s I) (fun u s' r=>k u s' r.1 r.2) fun _ _ f=>f.elim
theorem Inv.tick {s:Shared}(I:Inv X ρ σ s) (t:Nat):Inv X ρ σ {s with toks:=t}:=⟨I.st,I.nd,I.ks,I.kn,I.gens,I.os⟩
theorem pe_int {i:Int}{k:Nat}{pos:Pos}:PE prog w X (.Constant (.int i) k pos) ρ σ (.int i):=
 fun _ I=>wpAny_Constant_int ⟨.int _ _,I.tick _⟩
theorem pe_bin {l r:Expr}{op:Operator}{pos:Pos}{a b v:PV}(hl:PE prog w X l ρ σ a) (hr:PE prog w X r ρ σ b)
  (h: ∀u₁ u₂,VR a u₁→VR b u₂→PEt prog w X (binaryOp op u₁ u₂) ρ σ v):PE prog w X (.BinOp l op r pos) ρ σ v:=
 fun _ I=>wpAny_BinOp (hl.go I fun u₁ _ r₁ I₁=>hr.go I₁ fun u₂ s₂ r₂ I₂=>h u₁ u₂ r₁ r₂ s₂ I₂)
theorem pe_add {l r:Expr}{pos:Pos}{a b:Int}(hl:PE prog w X l ρ σ (.int a)) (hr:PE prog w X r ρ σ (.int b)):PE prog w X (.BinOp l .Add r pos) ρ σ (.int (a+b)):=
 pe_bin hl hr fun _ _ h₁ h₂ _ I=>by cases h₁;cases h₂;exact add_int ⟨.int _ _,I.tick _⟩
theorem pe_sub {l r:Expr}{pos:Pos}{a b:Int}(hl:PE prog w X l ρ σ (.int a)) (hr:PE prog w X r ρ σ (.int b)):PE prog w X (.BinOp l .Sub r pos) ρ σ (.int (a-b)):=
 pe_bin hl hr fun _ _ h₁ h₂ _ I=>by cases h₁;cases h₂;exact sub_int ⟨.int _ _,I.tick _⟩
theorem pe_mod {l r:Expr}{pos:Pos}{a b:Int}(hl:PE prog w X l ρ σ (.int a)) (hr:PE prog w X r ρ σ (.int b)) (hb:b≠0):PE prog w X (.BinOp l .Mod r pos) ρ σ (.int (a.fmod b)):=
 pe_bin hl hr fun _ _ h₁ h₂ _ I=>by cases h₁;cases h₂;exact mod_int hb ⟨.int _ _,I.tick _⟩
end
end Mine
end
section
open PySem PySem.W PyProof.Rows PySem.Calls
set_option maxRecDepth 100000
namespace Mine
theorem RoIs.get {ρ:Ro}{m:Str→Option Value}(h:RoIs ρ m) {x:Str}{v:PV}(hm:(x,some v)∈ρ): ∃u,m x=some u∧VR v u:=by
 have:=h.1 _ hm
 generalize hq:m x=q at this
 cases this with
 | some h=>exact⟨_,rfl,h⟩
inductive Up (x:Str) (v:Option PV):Ro→Ro→Prop
 | here {u r}:Up x v ((x,u)::r) ((x,v)::r)
 | there {p r r'} (h:Up x v r r'):Up x v (p::r) (p::r')
theorem Up.keys {x v ρ ρ'} (h:Up x v ρ ρ'):ρ'.map (·.1)=ρ.map (·.1):=by
 induction h with
 | here=>rfl
 | there _ ih=>simp[ih]
theorem Up.mem_key {x v ρ ρ'} (h:Up x v ρ ρ'):x∈ρ.map (·.1):=by
 induction h with
 | here=>simp
 | there _ ih=>simp only[List.map_cons,List.mem_cons];exact .inr ih
theorem Up.mem {x v ρ ρ'} (h:Up x v ρ ρ'):(ρ.map (·.1)).Nodup→ ∀p∈ρ',p=(x,v)∨(p∈ρ∧p.1≠x):=by
 induction h with
 | @here u r=>
  intro nd p hp
  rw[List.map_cons,List.nodup_cons] at nd
  rcases List.mem_cons.mp hp with rfl | hp
  ·exact .inl rfl
  ·exact .inr ⟨.tail _ hp,fun e=>nd.1 (by have:=List.mem_map_of_mem (f:=Prod.fst) hp;rw[e] at this;exact this)⟩
 | @there q r r' h ih=>
  intro nd p hp
  rw[List.map_cons,List.nodup_cons] at nd
  rcases List.mem_cons.mp hp with rfl | hp
  ·exact .inr ⟨.head _,fun e=>nd.1 (e ▸ h.mem_key)⟩
  ·rcases ih nd.2 p hp with e | ⟨a,b⟩
   ·exact .inl e
   ·exact .inr ⟨.tail _ a,b⟩
theorem RoIs.up {ρ ρ':Ro}{m:Str→Option Value}{x:Str}{v:PV}{u:Value}(h:RoIs ρ m) (nd:(ρ.map (·.1)).Nodup) (hu:Up x (some v) ρ ρ') (hv:VR v u):
  RoIs ρ' (fun y=>if y=x then some u else m y):=by
 refine⟨fun p hp=> ?_,fun y hy=> ?_⟩
 ·rcases hu.mem nd p hp with rfl | ⟨a,b⟩
  ·simp only[if_true];exact .some hv
  ·simp only[if_neg b];exact h.1 p a
 ·rw[hu.keys] at hy
  have:y≠x:=fun e=>hy (e ▸ hu.mem_key)
  simp only[if_neg this];exact h.2 y hy
theorem LedIs.sub {σ n} (h:LedIs σ n): ∀{σ'},σ'.Sublist σ→ ∃n',LedIs σ' n'∧n'.Sublist n:=by
 induction h with
 | nil=>intro σ' hs;cases hs;exact⟨[],.nil,.slnil⟩
 | cons h r ih=>
  intro σ' hs
  cases hs with
  | cons _ hs=>obtain⟨n',a,b⟩:=ih hs;exact⟨n',a,.cons _ b⟩
  | cons_cons _ hs=>obtain⟨n',a,b⟩:=ih hs;exact⟨_,.cons h a,.cons_cons _ b⟩
section
variable {prog:Program}{w:World}{X:Cx}{ρ ρ':Ro}{σ σ':Led}
theorem Inv.sub {s:Shared}(I:Inv X ρ σ s) (h:σ'.Sublist σ):Inv X ρ σ' s:=by
 obtain⟨m,news,F,N,R,D⟩:=I.st
 obtain⟨n',D',hs⟩:=D.sub h
 exact⟨⟨m,n',F,fun p hp=>N p (hs.mem hp),R,D'⟩,I.nd.sublist (h.map _),I.ks,I.kn,I.gens,I.os⟩
theorem Inv.obj {s:Shared}(I:Inv X ρ σ s) {a:Addr}{P:Obj→Prop}(h:(a,P)∈σ): ∃o,s.heap.get? a=some o∧P o:=by
 obtain⟨m,news,F,N,R,D⟩:=I.st
 obtain⟨o,ho,p⟩:=D.get h
 exact⟨o,N.get ho,p⟩
theorem Inv.keep {s:Shared}(I:Inv X ρ σ s) {a:Addr}{o:Obj}(h:X.g.get? a=some o):s.heap.get? a=some o:=by
 obtain⟨m,news,F,N,R,D⟩:=I.st
 exact F.keep _ _ h
structure Lay (X:Cx):Prop where
 fn:X.env.scope.kind= .function
 loc:X.env.locals=X.L
 ks: ∀x∈X.ks,X.env.kindOf x=some .local∧(x==("__debug__":Str))=false
theorem pe_local (Y:Lay X) {x:Str}{pos:Pos}{v:PV}(hm:(x,some v)∈ρ):PE prog w X (.Name x pos) ρ σ v:=fun s I=>by
 obtain⟨m,news,F,N,R,D⟩:=I.st
 obtain⟨u,hu,hv⟩:=R.get hm
 have hk:=Y.ks x (I.ks ▸ List.mem_map_of_mem hm)
 exact wpAny_Name (wpAny_loadName_local Y.fn hk.1 (by rw[Y.loc];exact F.ns) hu ⟨hv,I⟩) hk.2
noncomputable def isCell (v:Option PV):Obj→Prop:=fun o=> ∃u,VRo v u∧o.data= .cell u
theorem cell_get {s:Shared}(I:Inv X ρ σ s) {c:Addr}{v:PV}(hm:(c,isCell (some v))∈σ): ∃u,s.heap.IsCell c (some u)∧VR v u:=by
 obtain⟨o,ho,u,hu,hd⟩:=I.obj hm
 cases hu with
 | some h=>exact⟨_,⟨o,ho,hd⟩,h⟩
theorem pe_cell {x:Str}{pos:Pos}{c:Addr}{v:PV}(hf:X.env.scope.kind= .function) (hk:X.env.kindOf x=some .cell) (hc:X.env.cells.lookup x=some c)
  (hm:(c,isCell (some v))∈σ) (hd:(x==("__debug__":Str))=false:=by decide):PE prog w X (.Name x pos) ρ σ v:=fun s I=>by
 obtain⟨u,hu,hv⟩:=cell_get I hm
 exact wpAny_Name (wpAny_loadName_cell hf hk hc hu ⟨hv,I⟩) hd
end
section
variable {X:Cx}{ρ:Ro}{σ σ':Led}
theorem LedIs.perm {σ σ':Led}(h:σ.Perm σ'): ∀{n},LedIs σ n→ ∃n',LedIs σ' n'∧n.Perm n':=by
 induction h with
 | nil=>intro n h;exact⟨n,h,.refl _⟩
 | cons x _ ih=>intro n h;cases h with | cons hp h=>obtain⟨n',d,p⟩:=ih h;exact⟨_,.cons hp d,p.cons _⟩
 | swap x y l=>intro n h;cases h with | cons hp h=>cases h with | cons hq h=>exact⟨_,.cons hq (.cons hp h),.swap _ _ _⟩
 | trans _ _ ih1 ih2=>intro n h;obtain⟨n₁,d₁,p₁⟩:=ih1 h;obtain⟨n₂,d₂,p₂⟩:=ih2 d₁;exact⟨n₂,d₂,p₁.trans p₂⟩
theorem Inv.perm {s:Shared}(I:Inv X ρ σ s) (h:σ.Perm σ'):Inv X ρ σ' s:=by
 obtain⟨⟨m,n,F,N,R,D⟩,nd,ks,kn,ge,os⟩:=I
 obtain⟨n',d,p⟩:=D.perm h
 exact⟨⟨m,n',F,fun q hq=>N q (p.mem_iff.mpr hq),R,d⟩,(h.map _).nodup_iff.mp nd,ks,kn,ge,os⟩
noncomputable def isNs (ρ:Ro):Obj→Prop:=fun o=> ∃m,RoIs ρ m∧PyProof.Rows.LCg.NsObj o m
theorem Inv.swap {s:Shared}{ρ₀:Ro}{F:Addr}{σ:Led}(I:Inv X ρ ((F,isNs ρ₀)::σ) s) (hF:X.g.objs.size≤F) (kn:(ρ₀.map (·.1)).Nodup):Inv {X with L:=F,ks:=ρ₀.map (·.1)} ρ₀ ((X.L,isNs ρ)::σ) s:=by
 obtain⟨⟨m,n,Fr,N,R,D⟩,nd,ks,kn',ge,os⟩:=I
 cases D with
 | cons hp D=>
  rename_i o n
  obtain⟨m₀,R₀,hm₀⟩:=hp
  have hn:=N _ (.head _)
  obtain⟨oL,hoL,hL⟩:=PyProof.Rows.LCg.ns_obj Fr.ns
  have nd':=nd
  rw[List.map_cons,List.nodup_cons] at nd'
  refine⟨⟨m₀,(X.L,oL)::n,⟨hm₀.ns hn.1,Fr.keep,hF⟩,fun p hp=> ?_,R₀,.cons ⟨m,R,hL⟩ D⟩,?_,rfl,kn,ge,os⟩
  ·rcases List.mem_cons.mp hp with rfl | hp
   ·refine⟨hoL,fun e=>hn.2.1 e.symm,?_⟩
    cases e:X.g.get? X.L with
    | none=>rfl
    | some o'=>exact absurd (Heap.lt_size e) (Nat.not_lt.mpr Fr.above)
   ·have z:=N p (.tail _ hp)
    exact⟨z.1,fun e=>nd'.1 (by rw[D.keys];exact List.mem_map.mpr ⟨p,hp,e⟩),z.2.2⟩
  ·rw[List.map_cons,List.nodup_cons]
   refine⟨fun hm=> ?_,nd'.2⟩
   rw[D.keys] at hm
   obtain⟨p,hp,e⟩:=List.mem_map.mp hm
   exact(N p (.tail _ hp)).2.1 e
noncomputable def CallF (X:Cx) (σ:Led):Prop:=X.FL=X.L∨ ∃ρ₀,(X.FL,isNs ρ₀)∈σ∧(ρ₀.map (·.1)).Nodup
theorem led_mem {σ:Led}{p} (h:p∈σ): ∃σ₁,σ.Perm (p::σ₁):=by
 obtain⟨a,b,rfl⟩:=List.append_of_mem h
 exact⟨_,List.perm_middle⟩
end
structure Tops where
 K:Frag
 mg:Str→Option Value
 mb:Str→Option Value
structure XOK (T:Tops) (n:Nat) (X:Cx):Prop where
 above:X.g.objs.size≤X.FL
 call: ∃A₀ base outer fenv,Below A₀ base outer X.g∧X.A.frames=some (fenv::outer)∧fenv.frame=some X.FL∧fenv.scope.kind= .function
 lim:X.g.NoLimit
 top:T.K.In X.g
 gm:X.g.Ns mainGlobals T.mg
 bm:X.g.Ns builtinsNs T.mb
 dep:X.A.depth+n<900
 un:X.A.units+10*n<9000
 hh:X.A.handled=none
 fn:X.env.scope.kind= .function
 gl:X.env.globals=mainGlobals
 bl:X.env.builtins=builtinsNs
theorem XOK.le {T n k X} (h:XOK T n X) (hk:k≤n):XOK T k X:=⟨h.above,h.call,h.lim,h.top,h.gm,h.bm,by have:=h.dep;omega,by have:=h.un;omega,h.hh,h.fn,h.gl,h.bl⟩
section
variable (prog:Program) (w:World)
noncomputable def XE (X:Cx) (e:Expr) (ρ:Ro) (σ:Led) (v:Value):Prop:=Ev prog w X (eval e X.env) ρ σ fun u s'=>u=v∧Inv X ρ σ s'
noncomputable def AE (X:Cx) (es:List Expr) (pos:Pos) (ρ:Ro) (σ:Led) (vs:List PV):Prop:=
 ∀f:Value,Ev prog w X (evalArgs f true (backTo pos (starEach es X.env)) []) ρ σ fun a s'=> ∃us,a=⟨us,[]⟩∧VRs vs us∧Inv X ρ σ s'
noncomputable def SpE (X:Cx) (t:List (Bool×Sem Value)) (ρ:Ro) (σ:Led) (vs:List PV):Prop:=Ev prog w X (spliced t) ρ σ fun us s'=>VRs vs us∧Inv X ρ σ s'
end
section
variable {prog:Program}{w:World}{X:Cx}{ρ ρ':Ro}{σ σ':Led}{T:Tops}{n:Nat}
theorem xe_glob (O:XOK T n X) {x:Str}{pos:Pos}{v:Value}(hk:X.env.kindOf x=some .globalImplicit) (hv:T.mg x=some v) (hd:(x==("__debug__":Str))=false:=by decide):
  XE prog w X (.Name x pos) ρ σ v:=fun s I=>by
 obtain⟨m,news,F,N,R,D⟩:=I.st
 exact Name_function_global O.fn hk (loadGlobal_global (by rw[O.gl];exact O.gm.keeps F.keep) hv ⟨rfl,I⟩) hd
theorem xe_built (O:XOK T n X) {x:Str}{pos:Pos}{v:Value}(hk:X.env.kindOf x=some .globalImplicit) (hg:T.mg x=none) (hv:T.mb x=some v) (hd:(x==("__debug__":Str))=false:=by decide):
  XE prog w X (.Name x pos) ρ σ v:=fun s I=>by
 obtain⟨m,news,F,N,R,D⟩:=I.st
 exact Name_function_global O.fn hk (loadGlobal_builtin (by rw[O.gl];exact O.gm.keeps F.keep) hg (by rw[O.bl];exact O.bm.keeps F.keep) hv ⟨rfl,I⟩) hd
theorem pe_of_xe {e:Expr}{v:Value}{p:PV}(h:XE prog w X e ρ σ v) (hv:VR p v):PE prog w X e ρ σ p:=fun s I=>wpAny_mono (h s I) (fun u s' r=>by obtain⟨rfl,I'⟩:=r;exact⟨hv,I'⟩) fun _ _ f=>f
theorem sp_nil:SpE prog w X [] ρ σ []:=fun s I=>spliced_nil ⟨.nil,I⟩
theorem sp_cons {t:Sem Value}{r:List (Bool×Sem Value)}{v:PV}{vs:List PV}(h:PEt prog w X t ρ σ v) (hr:SpE prog w X r ρ σ vs):SpE prog w X ((false,t)::r) ρ σ (v::vs):=fun s I=>
 spliced_cons (wpAny_mono (h s I) (fun u s₁ q=>wpAny_mono (hr s₁ q.2) (fun us s₂ q'=>⟨.cons q.1 q'.1,q'.2⟩) fun _ _ f=>f) fun _ _ f=>f)
theorem ae0 {pos:Pos}:AE prog w X [] pos ρ σ []:=fun f s I=>PyProof.Rows.evalArgs_none ⟨_,rfl,.nil,I⟩
theorem ae_of {es:List Expr}{pos:Pos}{vs:List PV}{t:Sem Value}{r:List (Bool×Sem Value)}(e:backTo pos (starEach es X.env)=(false,t)::r) (h:SpE prog w X ((false,t)::r) ρ σ vs):AE prog w X es pos ρ σ vs:=fun f s I=>by
 rw[e]
 exact evalArgs_plain (wpAny_mono (h s I) (fun us s' q=>⟨us,rfl,q.1,q.2⟩) fun _ _ f=>f)
end
end Mine
end
section
open PySem PySem.W PyProof.Rows PySem.Calls
set_option maxRecDepth 100000
namespace Mine
section
variable {prog:Program}{w:World}{X:Cx}{ρ ρ':Ro}{σ σ':Led}{T:Tops}{n:Nat}
theorem pe_call_b {x:Str}{p pos:Pos}{args:List Expr}{id:String}{vs:List PV}{v:PV}(hf:XE prog w X (.Name x p) ρ σ (.builtin id)) (ha:AE prog w X args pos ρ σ vs)
  (hc: ∀us,VRs vs us→PEt prog w X (call (.builtin id) us) ρ σ v) (hp:(backTo pos (starEach args X.env)).any (·.1)=false:=by rfl):PE prog w X (.Call (.Name x p) args [] pos) ρ σ v:=fun s I=>
 PyProof.Rows.Call_ (wpAny_mono (hf s I) (fun f s₁ q=>by
  obtain⟨rfl,I₁⟩:=q
  refine callWith_builtin hp (wpAny_mono (ha _ s₁ I₁) (fun a s₂ q=> ?_) fun _ _ f=>f)
  obtain⟨us,rfl,hv,I₂⟩:=q
  exact hc us hv s₂ I₂) fun _ _ f=>f) rfl
theorem pe_call_t {x:Str}{p pos:Pos}{args:List Expr}{t:String}{vs:List PV}{v:PV}(hf:XE prog w X (.Name x p) ρ σ (.type t)) (ha:AE prog w X args pos ρ σ vs)
  (hc: ∀us,VRs vs us→PEt prog w X (call (.type t) us) ρ σ v) (hp:(backTo pos (starEach args X.env)).any (·.1)=false:=by rfl):PE prog w X (.Call (.Name x p) args [] pos) ρ σ v:=fun s I=>
 PyProof.Rows.Call_ (wpAny_mono (hf s I) (fun f s₁ q=>by
  obtain⟨rfl,I₁⟩:=q
  refine PyProof.Rows.callWith_type hp (wpAny_mono (ha _ s₁ I₁) (fun a s₂ q=> ?_) fun _ _ f=>f)
  obtain⟨us,rfl,hv,I₂⟩:=q
  exact hc us hv s₂ I₂) fun _ _ f=>f) rfl
theorem pe_meth {o:Expr}{name:Str}{apos pos:Pos}{args:List Expr}{pl:Sem Bool}{a:PV}{id:String}{vs:List PV}{v:PV}(ho:PE prog w X o ρ σ a)
  (hm: ∀(u:Value) (s:Shared) (Q:Value×List Value→Shared→Prop),VR a u→Inv X ρ σ s→Q (.builtin id,[u]) s→wpAny (model prog w) X.A (getMethod u name pl) Q (fun _ _=>False) s)
  (ha:AE prog w X args pos ρ σ vs) (hc: ∀u us,VR a u→VRs vs us→PEt prog w X (call (.builtin id) (u::us)) ρ σ v)
  (heq:eval ((o.Attribute name apos).Call args [] pos) X.env=(do let ov ←eval o X.env;standAt apos.atName;let fx ←holding [ov] (getMethod ov name pl);match fx with | (f,first)=>callWith pos f first (backTo pos (starEach args X.env)) []):=by rfl)
  (hp:(backTo pos (starEach args X.env)).any (·.1)=false:=by rfl):PE prog w X (.Call (.Attribute o name apos) args [] pos) ρ σ v:=fun s I=>
 MethodCall_ (pl:=pl) (wpAny_mono (ho s I) (fun u s₁ q=>hm u s₁ _ q.1 q.2 (callWith_builtin hp (wpAny_mono (ha _ s₁ q.2) (fun b s₂ q'=>by
  obtain⟨us,rfl,hv,I₂⟩:=q'
  exact hc u us q.1 hv s₂ I₂) fun _ _ f=>f))) fun _ _ f=>f) heq
noncomputable def Fn (prog:Program) (w:World) (T:Tops) (n:Nat) (f:Value) (args:List PV) (σ:Led) (R:PV→Led→Prop):Prop:=
 ∀X ρ s,XOK T n X→X.FL=X.L→Inv X ρ σ s→ ∀us,VRs args us→codeAny (model prog w) X.A (.call f ⟨us,[]⟩) (fun r s'=> ∃u pv σ',r= .ok (.ret u)∧R pv σ'∧VR pv u∧Inv X ρ σ' s') s
noncomputable def FnP (prog:Program) (w:World) (T:Tops) (n:Nat) (f:Value) (args:List PV) (v:PV):Prop:= ∀σ,Fn prog w T n f args σ fun pv σ'=>pv=v∧σ'=σ
structure IsFn (T:Tops) (f:Addr):Prop where
 at_: ∀X n,XOK T n X→ ∃o fd,X.g.get? f=some o∧o.data= .func fd
theorem FnP.go {f:Value}{args:List PV}{v:PV}{s:Shared}(h:FnP prog w T n f args v) (O:XOK T n X) (hF:CallF X σ) (I:Inv X ρ σ s) {us:List Value}(hv:VRs args us):
  codeAny (model prog w) X.A (.call f ⟨us,[]⟩) (fun r s'=> ∃u,r= .ok (.ret u)∧VR v u∧Inv X ρ σ s') s:=by
 rcases hF with e | ⟨ρ₀,hm,kn⟩
 ·refine codeAny_mono (h σ X ρ s O e I us hv) fun r s' q=> ?_
  obtain⟨u,pv,σ',rfl,⟨rfl,rfl⟩,h1,h2⟩:=q
  exact⟨u,rfl,h1,h2⟩
 ·obtain⟨σ₁,hp⟩:=led_mem hm
  have I':=(I.perm hp).swap O.above kn
  have O':XOK T n {X with L:=X.FL,ks:=ρ₀.map (·.1)}:=⟨O.above,O.call,O.lim,O.top,O.gm,O.bm,O.dep,O.un,O.hh,O.fn,O.gl,O.bl⟩
  refine codeAny_mono (h _ _ ρ₀ s O' rfl I' us hv) fun r s' q=> ?_
  obtain⟨u,pv,σ',rfl,⟨rfl,rfl⟩,h1,h2⟩:=q
  obtain⟨m,news,F,N,R,D⟩:=I.st
  have J:=(h2.swap (X:={X with L:=X.FL,ks:=ρ₀.map (·.1)}) F.above (by rw[I.ks];exact I.kn)).perm hp.symm
  have ek:=I.ks
  refine⟨u,rfl,h1,?_⟩
  simp only[ek] at J
  exact J
theorem pe_call_f {x:Str}{p pos:Pos}{args:List Expr}{fa:Addr}{vs:List PV}{v:PV}(O:XOK T n X) (hF:CallF X σ) (hi:IsFn T fa) (hf:XE prog w X (.Name x p) ρ σ (.ref fa)) (ha:AE prog w X args pos ρ σ vs)
  (hc:FnP prog w T n (.ref fa) vs v):PE prog w X (.Call (.Name x p) args [] pos) ρ σ v:=fun s I=>
 PyProof.Rows.Call_ (wpAny_mono (hf s I) (fun f s₁ q=>by
  obtain⟨rfl,I₁⟩:=q
  obtain⟨o,fd,ho,hd⟩:=hi.at_ X n O
  refine callWith_function (o:=o) (fd:=fd) (wpAny_mono (ha _ s₁ I₁) (fun a s₂ q=> ?_) fun _ _ f=>f)
  obtain⟨us,rfl,hv,I₂⟩:=q
  refine⟨⟨I₂.keep ho,hd⟩,wpAny_call (codeAny_mono (hc.go O hF I₂ hv) fun r s' q=> ?_)⟩
  obtain⟨u,rfl,h1,h2⟩:=q
  exact⟨h1,h2⟩) fun _ _ f=>f) rfl
end
inductive PF where
 | next | brk | cont | ret (v:PV)
inductive FR:PF→Flow→Prop
 | next:FR .next .next
 | brk:FR .brk .brk
 | cont:FR .cont .cont
 | ret {p v} (h:VR p v):FR (.ret p) (.ret v)
section
variable (prog:Program) (w:World)
noncomputable def St (X:Cx) (t:Sem Flow) (ρ:Ro) (σ:Led) (K:PF→Ro→Led→Prop):Prop:=Ev prog w X t ρ σ fun fl s'=> ∃f ρ' σ',K f ρ' σ'∧FR f fl∧Inv X ρ' σ' s'
noncomputable def SE (X:Cx) (l:List Stmt) (ρ:Ro) (σ:Led) (K:PF→Ro→Led→Prop):Prop:=St prog w X (execs l X.env) ρ σ K
noncomputable def S1 (X:Cx) (st:Stmt) (ρ:Ro) (σ:Led) (K:PF→Ro→Led→Prop):Prop:=St prog w X (exec st X.env) ρ σ K
end
section
variable {prog:Program}{w:World}{X:Cx}{ρ ρ':Ro}{σ σ':Led}{T:Tops}{n:Nat}{K K':PF→Ro→Led→Prop}
theorem St.mono {t:Sem Flow}(h:St prog w X t ρ σ K) (k: ∀f ρ' σ',K f ρ' σ'→K' f ρ' σ'):St prog w X t ρ σ K':=fun s I=>
 wpAny_mono (h s I) (fun fl s' q=>by obtain⟨f,ρ',σ',a,b,c⟩:=q;exact⟨f,ρ',σ',k _ _ _ a,b,c⟩) fun _ _ f=>f
theorem SE.mono {l:List Stmt}(h:SE prog w X l ρ σ K) (k: ∀f ρ' σ',K f ρ' σ'→K' f ρ' σ'):SE prog w X l ρ σ K':=St.mono h k
theorem St.sub {t:Sem Flow}(h:St prog w X t ρ σ' K) (hs:σ'.Sublist σ):St prog w X t ρ σ K:=fun s I=>h s (I.sub hs)
theorem se_nil (h:K .next ρ σ):SE prog w X [] ρ σ K:=fun s I=>wpAny_execs_nil ⟨_,_,_,h,.next,I⟩
noncomputable def Then (prog:Program) (w:World) (X:Cx) (rest:List Stmt) (K:PF→Ro→Led→Prop):PF→Ro→Led→Prop
 | .next,ρ,σ=>SE prog w X rest ρ σ K
 | f,ρ,σ=>K f ρ σ
theorem se_cons {st:Stmt}{rest:List Stmt}(h:S1 prog w X st ρ σ (Then prog w X rest K)):SE prog w X (st::rest) ρ σ K:=fun s I=>
 wpAny_execs_cons (wpAny_mono (h s I) (fun fl s' q=>by
  obtain⟨f,ρ',σ',a,b,c⟩:=q
  cases b with
  | next=>exact a s' c
  | brk=>exact⟨_,_,_,a,.brk,c⟩
  | cont=>exact⟨_,_,_,a,.cont,c⟩
  | ret h=>exact⟨_,_,_,a,.ret h,c⟩) fun _ _ f=>f)
theorem s1_return {e:Expr}{pos:Pos}{v:PV}(h:PE prog w X e ρ σ v) (k:K (.ret v) ρ σ):S1 prog w X (.Return (some e) pos) ρ σ K:=fun s I=>
 wpAny_Return_some (wpAny_mono (h s I) (fun u s' q=>⟨_,_,_,k,.ret q.1,q.2⟩) fun _ _ f=>f)
theorem s1_return0 {pos:Pos}(k:K (.ret .none) ρ σ):S1 prog w X (.Return none pos) ρ σ K:=fun s I=>
 wpAny_Return_none ⟨_,_,_,k,.ret .none,I⟩
theorem s1_if {t:Expr}{a b:List Stmt}{pos:Pos}{c:Bool}(h:BE prog w X t ρ σ c) (h1:c=true→SE prog w X a ρ σ K) (h2:c=false→SE prog w X b ρ σ K):S1 prog w X (.If t a b pos) ρ σ K:=fun s I=>
 wpAny_If (wpAny_mono (h s I) (fun d s' q=>by
  obtain⟨rfl,I'⟩:=q
  cases d with
  | true=>exact h1 rfl s' I'
  | false=>exact h2 rfl s' I') fun _ _ f=>f)
theorem Inv.put {s:Shared}{h':Heap}{x:Str}{v:PV}{u:Value}{tk:Nat}{m:Str→Option Value}{news:List (Addr×Obj)}(I:Inv X ρ σ s) (R:RoIs ρ m) (D:LedIs σ news) (hu:Up x (some v) ρ ρ') (hv:VR v u)
  (F:Fr X.g X.L h' (fun y=>if y=x then some u else m y)) (N:News X.g X.L h' news):Inv X ρ' σ {s with heap:=h',toks:=tk}:=
 ⟨⟨_,news,F,N,R.up (by rw[I.ks];exact I.kn) hu hv,D⟩,I.nd,hu.keys.trans I.ks,I.kn,I.gens,I.os⟩
noncomputable def StoreE (prog:Program) (w:World) (X:Cx) (x:Str) (u:Value) (ρ:Ro) (σ:Led) (ρ':Ro) (σ':Led):Prop:=Ev prog w X (storeName X.env x u) ρ σ fun _ s'=>Inv X ρ' σ' s'
theorem store_local (Y:Lay X) {x:Str}{v:PV}{u:Value}(hu:Up x (some v) ρ ρ') (hv:VR v u):StoreE prog w X x u ρ σ ρ' σ:=fun s I=>by
 obtain⟨m,news,F,N,R,D⟩:=I.st
 have hk:=Y.ks x (I.ks ▸ hu.mem_key)
 have hL:=Y.loc
 refine wpAny_storeName_local hk.1 (by rw[hL];exact F.ns) (fun h' hn hs=> ?_) (by rw[Y.fn];rfl)
 rw[hL] at hn hs
 exact I.put R D hu hv (F.set hn hs) (N.set hs)
theorem s1_assign (Y:Lay X) {x:Str}{p pos:Pos}{e:Expr}{v:PV}(h:PE prog w X e ρ σ v) (hu:Up x (some v) ρ ρ') (k:K .next ρ' σ)
  (hs:swapsWith e (some (.Name x p)) pos.line X.env=pure false:=by rfl):S1 prog w X (.Assign [.Name x p] e pos) ρ σ K:=fun s I=>
 wpAny_Assign_Name (wpAny_mono (h s I) (fun u s' q=>wpAny_mono (store_local Y hu q.1 s' q.2) (fun _ s₂ q=>⟨_,_,_,k,.next,q⟩) fun _ _ f=>f) fun _ _ f=>f) hs
theorem s1_assign_new (Y:Lay X) {x:Str}{p pos:Pos}{e:Expr}{P:Obj→Prop}{ρf:Addr→Ro}(h:NE prog w X e ρ σ P) (hu: ∀a,Up x (some (.ref a)) ρ (ρf a)) (k: ∀a,a∉σ.map (·.1)→K .next (ρf a) ((a,P)::σ))
  (hs:swapsWith e (some (.Name x p)) pos.line X.env=pure false:=by rfl):S1 prog w X (.Assign [.Name x p] e pos) ρ σ K:=fun s I=>
 wpAny_Assign_Name (wpAny_mono (h s I) (fun u s' q=>by
  obtain⟨a,rfl,I'⟩:=q
  have nd:=I'.nd
  rw[List.map_cons,List.nodup_cons] at nd
  exact wpAny_mono (store_local Y (hu a) (.ref a) s' I') (fun _ s₂ q=>⟨_,_,_,k a nd.1,.next,q⟩) fun _ _ f=>f) fun _ _ f=>f) hs
theorem be_of_pe {e:Expr}{b:Bool}(h:PE prog w X e ρ σ (.bool b)) (he:isTrue e X.env (eval e X.env)=(do let v ←eval e X.env;standAt e.pos;holding [v] (truthy v)):=by rfl):BE prog w X e ρ σ b:=fun s I=>
 PyProof.Rows.isTrue_plain (wpAny_mono (h s I) (fun u s' q=>by
  obtain⟨h1,h2⟩:=q
  cases h1
  exact wpAny_truthy_bool ⟨rfl,h2⟩) fun _ _ f=>f) he
noncomputable def Cm (prog:Program) (w:World) (X:Cx) (op:CmpOp) (a b:PV) (ρ:Ro) (σ:Led) (c:Bool):Prop:= ∀u v,VR a u→VR b v→Ev prog w X (compareOp op u v) ρ σ fun r s'=>r= .bool c∧Inv X ρ σ s'
theorem pe_cmp {l r:Expr}{op:CmpOp}{pos:Pos}{a b:PV}{c:Bool}(hl:PE prog w X l ρ σ a) (hr:PE prog w X r ρ σ b) (h:Cm prog w X op a b ρ σ c) (hb:behindInMarks op r=false:=by rfl):
  PE prog w X (.Compare l [op] [r] pos) ρ σ (.bool c):=fun s I=>
 wpAny_Compare1 (wpAny_mono (hl s I) (fun u₁ s₁ q₁=>wpAny_mono (hr s₁ q₁.2) (fun u₂ s₂ q₂=>wpAny_mono (h u₁ u₂ q₁.1 q₂.1 s₂ q₂.2) (fun r s₃ q=>by obtain⟨rfl,I⟩:=q;exact⟨.bool _,I⟩) fun _ _ f=>f) fun _ _ f=>f) fun _ _ f=>f) hb
theorem be_cmp {l r:Expr}{op:CmpOp}{pos:Pos}{a b:PV}{c:Bool}(hl:PE prog w X l ρ σ a) (hr:PE prog w X r ρ σ b) (h:Cm prog w X op a b ρ σ c) (hb:behindInMarks op r=false:=by rfl):
  BE prog w X (.Compare l [op] [r] pos) ρ σ c:=fun s I=>
 wpAny_isTrue_Compare1 (wpAny_mono (hl s I) (fun u₁ s₁ q₁=>wpAny_mono (hr s₁ q₁.2) (fun u₂ s₂ q₂=>wpAny_mono (h u₁ u₂ q₁.1 q₂.1 s₂ q₂.2) (fun r s₃ q=>by obtain⟨rfl,I⟩:=q;exact wpAny_truthy_bool ⟨rfl,I⟩) fun _ _ f=>f) fun _ _ f=>f) fun _ _ f=>f) hb
theorem cm_lt {a b:Int}:Cm prog w X .Lt (.int a) (.int b) ρ σ (decide (a<b)):=fun u v h1 h2 s I=>by cases h1;cases h2;exact lt_int ⟨rfl,I⟩
theorem cm_gt {a b:Int}:Cm prog w X .Gt (.int a) (.int b) ρ σ (decide (b<a)):=fun u v h1 h2 s I=>by cases h1;cases h2;exact gt_int ⟨rfl,I⟩
theorem cm_ge {a b:Int}:Cm prog w X .GtE (.int a) (.int b) ρ σ (decide (b≤a)):=fun u v h1 h2 s I=>by cases h1;cases h2;exact ge_int ⟨rfl,I⟩
theorem cm_eq {a b:Int}:Cm prog w X .Eq (.int a) (.int b) ρ σ (a==b):=fun u v h1 h2 s I=>by cases h1;cases h2;exact eq_int ⟨rfl,I⟩
theorem mk_beq (a b:List Nat):(mk a==mk b)=(a==b):=by
 by_cases h:a=b
 ·subst h;simp
 ·have h2:mk a≠mk b:=fun e=>h (by have:=congrArg (fun s:Str=>s.cps.toList) e;simpa using this)
  have e1:(mk a==mk b)=false:=beq_eq_false_iff_ne.mpr h2
  have e2:(a==b)=false:=beq_eq_false_iff_ne.mpr h
  rw[e1,e2]
theorem cm_eqs {a b:List Nat}:Cm prog w X .Eq (.str a) (.str b) ρ σ (a==b):=fun u v h1 h2 s I=>by cases h1;cases h2;exact eq_str ⟨by rw[mk_beq],I⟩
theorem cm_nes {a b:List Nat}:Cm prog w X .NotEq (.str a) (.str b) ρ σ (a != b):=fun u v h1 h2 s I=>by
 cases h1;cases h2;exact ne_str ⟨by show Value.bool (!(mk a==mk b))=Value.bool (!(a==b));rw[mk_beq],I⟩
theorem cm_lts {a b:List Nat}:Cm prog w X .Lt (.str a) (.str b) ρ σ (decide (a<b)):=fun u v h1 h2 s I=>by cases h1;cases h2;exact lt_str ⟨rfl,I⟩
end
end Mine
end
section
open PySem PySem.W PyProof.Rows PySem.Calls
set_option maxRecDepth 100000
namespace Mine
noncomputable def PF.val:PF→PV
 | .ret v=>v
 | _=>.none
noncomputable def flv:Flow→Value
 | .ret v=>v
 | _=>.none
theorem FR.val {f:PF}{fl:Flow}(h:FR f fl):VR f.val (flv fl):=by
 cases h<;>first | exact .none | assumption
noncomputable def init (names:List Str) (args:List PV) (rest:List Str):Ro:=names.zip (args.map some)++rest.map fun y=>(y,none)
theorem init_keys {names:List Str}{args:List PV}{rest:List Str}(h:args.length=names.length):(init names args rest).map (·.1)=names++rest:=by
 unfold init
 rw[List.map_append,List.map_map]
 congr 1
 ·rw[List.map_fst_zip];simp[h]
 ·induction rest with
  | nil=>rfl
  | cons a r ih=>simp only[List.map_cons,ih];rfl
theorem zip_lookup: ∀{names:List Str}{args:List PV}{us:List Value},VRs args us→names.Nodup→ ∀p∈names.zip (args.map some),VRo p.2 ((names.zip us).lookup p.1)
 | [],_,_,_,_,p,hp=>by simp at hp
 | x::names,_,_,.nil,_,p,hp=>by simp at hp
 | x::names,a::args,u::us,.cons h r,nd,p,hp=>by
  rw[List.nodup_cons] at nd
  rw[List.map_cons,List.zip_cons_cons] at hp
  rcases List.mem_cons.mp hp with rfl | hp
  ·rw[List.zip_cons_cons,List.lookup_cons]
   simp only[beq_self_eq_true]
   exact .some h
  ·have hx:p.1∈names:=(List.of_mem_zip hp).1
   have ne:(p.1==x)=false:=beq_eq_false_iff_ne.mpr fun e=>nd.1 (e ▸ hx)
   rw[List.zip_cons_cons,List.lookup_cons,ne]
   exact zip_lookup r nd.2 p hp
theorem lookup_none {x:Str}: ∀{l:List (Str×Value)},x∉l.map (·.1)→l.lookup x=none
 | [],_=>rfl
 | (y,v)::l,h=>by
  rw[List.map_cons,List.mem_cons,not_or] at h
  rw[List.lookup_cons,beq_eq_false_iff_ne.mpr h.1]
  exact lookup_none h.2
theorem lookup_reverse {l:List (Str×Value)}(nd:(l.map (·.1)).Nodup) (x:Str):l.reverse.lookup x=l.lookup x:=by
 induction l with
 | nil=>rfl
 | cons p l ih=>
  obtain⟨y,v⟩:=p
  rw[List.map_cons,List.nodup_cons] at nd
  rw[List.reverse_cons,List.lookup_append,ih nd.2,List.lookup_cons]
  by_cases h:x=y
  ·subst h
   rw[lookup_none nd.1];simp
  ·have e:List.lookup x ((y,v)::l)=List.lookup x l:=by rw[List.lookup_cons,beq_eq_false_iff_ne.mpr h]
   rw[e,beq_eq_false_iff_ne.mpr h]
   cases hq:List.lookup x l with
   | some _=>rfl
   | none=>rfl
theorem init_is {names:List Str}{args:List PV}{rest:List Str}{us:List Value}(hv:VRs args us) (hl:args.length=names.length) (nd:(names++rest).Nodup):
  RoIs (init names args rest) (fun y=>(names.zip us).reverse.lookup y):=by
 have hlen:=hv.length
 have nd':=List.nodup_append.mp nd
 have e:(names.zip us).map (·.1)=names:=by rw[List.map_fst_zip];omega
 refine⟨fun p hp=> ?_,fun y hy=> ?_⟩
 ·show VRo p.2 ((names.zip us).reverse.lookup p.1)
  rw[lookup_reverse (by rw[e];exact nd'.1)]
  rcases List.mem_append.mp hp with hp | hp
  ·exact zip_lookup hv nd'.1 p hp
  ·obtain⟨y,hy,rfl⟩:=List.mem_map.mp hp
   rw[lookup_none (by rw[e];exact fun q=>nd'.2.2 _ q _ hy rfl)]
   exact .none
 ·rw[init_keys hl,List.mem_append,not_or] at hy
  show (names.zip us).reverse.lookup y=none
  rw[lookup_reverse (by rw[e];exact nd'.1)]
  exact lookup_none (by rw[e];exact hy.1)
noncomputable def layOK (scope:Scope) (ks:List Str):Bool:=ks.all fun x=>scope.names.lookup x==some .local&& !(x==("__debug__":Str))
theorem lay_of {X:Cx}{scope:Scope}(h:layOK scope X.ks=true) (he:X.env.scope=scope) (hf:X.env.scope.kind= .function) (hl:X.env.locals=X.L):Lay X:=by
 refine⟨hf,hl,fun x hx=> ?_⟩
 have:=List.all_eq_true.mp h x hx
 simp only[Bool.and_eq_true,beq_iff_eq,Bool.not_eq_true'] at this
 refine⟨?_,this.2⟩
 show X.env.scope.names.lookup x=_
 rw[he];exact this.1
section
variable {prog:Program}{w:World}{T:Tops}{n:Nat}
theorem fn_intro {fa:Addr}{fo:Obj}{name qual:Str}{params:Arguments}{body:List Stmt}{scope:Scope}{dV kV doc pm cdv ct:Value}{an:Option Addr}{args:List PV}{σ:Led}{R:PV→Led→Prop}
  (names rest:List Str) (hK:T.K.lookup fa=some fo) (hd:fo.data= .func (fnX name qual params body scope [] dV kV doc pm an cdv ct)) (hc:codeIn T.K cdv qual=true)
  (hb: ∀us:List Value,us.length=names.length→ ∀s,BindsTo s (fnX name qual params body scope [] dV kV doc pm an cdv ct) ⟨us,[]⟩ (names.zip us))
  (hnd:(names++rest).Nodup) (hlay:layOK scope (names++rest)=true) (hargs:args.length=names.length)
  (hcell: ∀x∈scope.names,x.2≠ .cell) (hco:scope.isCoroutine=false) (hgen:scope.isGenerator=false) (hk:scope.kind= .function)
  (h: ∀X,XOK T n X→Lay X→X.ks=names++rest→X.env=envX qual scope X.L fa cdv []→X.FL=X.L→SE prog w X body (init names args rest) σ fun f _ σ'=>R f.val σ'):Fn prog w T (n+1) (.ref fa) args σ R:=by
 intro X ρ s O hFL I us hv
 obtain⟨A₀,base,outer,fenv,B,hA,hf,hke⟩:=O.call
 obtain⟨m,news,F,N,RI,D⟩:=I.st
 have hlen:=hv.length
 have KI:T.K.In s.heap:=O.top.keeps F.keep
 have e:(names.zip us).map (·.1)=names:=by rw[List.map_fst_zip];omega
 refine callX_plain B F N O.lim hA (hf.trans (congrArg some hFL)) hke (KI _ _ hK) hd (codeRec_of KI hc) (by have:=O.dep;show X.A.depth<1000;omega) (hb us (by omega) s) ?_ ?_ hcell hco hgen hk
 ·intro y hy
  have hm:y.1∈names:=by rw[←e];exact List.mem_map_of_mem hy
  have:=List.all_eq_true.mp hlay y.1 (List.mem_append_left _ hm)
  simp only[Bool.and_eq_true,beq_iff_eq] at this
  exact this.1
 ·intro g L' h₁ FG F' N' B' st lt
  let env':Env:=envX qual scope L' fa cdv []
  let X':Cx:=⟨X.A.deeper env',env',L',L',g,X.os,names++rest⟩
  have O':XOK T n X':=by
   refine⟨F'.above,⟨X.A,base,fenv::outer,env',B',?_,rfl,hk⟩,O.lim.keeps st,O.top.keeps st,O.gm.keeps st,O.bm.keeps st,?_,?_,O.hh,hk,rfl,rfl⟩
   ·show X.A.frames.map (env':: ·)=_;rw[hA];rfl
   ·show X.A.depth+1+n<900;have:=O.dep;omega
   ·show X.A.units+3+10*n<9000;have:=O.un;omega
  have Y:Lay X':=lay_of (scope:=scope) hlay rfl hk rfl
  have I':Inv X' (init names args rest) σ {s with heap:=h₁,toks:=s.toks+(names.zip us).length}:=
   ⟨⟨_,news,F',N',init_is hv hargs hnd,D⟩,I.nd,init_keys hargs,hnd,I.gens,I.os⟩
  refine wpAny_mono (h X' O' Y rfl rfl rfl _ I') (fun fl s' q=> ?_) fun _ _ f=>f.elim
  obtain⟨f,ρ',σ',hR,hfr,I₂⟩:=q
  obtain⟨m',news',F₂,N₂,R₂,D₂⟩:=I₂.st
  refine leaveK_ F₂ N₂ fun F₃ N₃=>⟨flv fl,f.val,σ',by cases fl<;>rfl,hR,hfr.val,⟨⟨m,news',F₃,N₃,RI,D₂⟩,I₂.nd,I.ks,I.kn,I₂.gens,I₂.os⟩⟩
theorem fn_pure {f:Value}{args:List PV}{v:PV}(h: ∀σ,Fn prog w T n f args σ fun pv σ'=>pv=v∧σ.Sublist σ'):FnP prog w T n f args v:=fun σ X ρ s O e I us hv=>
 codeAny_mono (h σ X ρ s O e I us hv) fun r s' q=>by
  obtain⟨u,pv,σ',rfl,⟨rfl,hs⟩,hv,I'⟩:=q
  exact⟨u,pv,σ,rfl,⟨rfl,rfl⟩,hv,I'.sub hs⟩
theorem Fn.le {f:Value}{args:List PV}{σ:Led}{R:PV→Led→Prop}{k:Nat}(h:Fn prog w T n f args σ R) (hk:n≤k):Fn prog w T k f args σ R:=fun X ρ s O e I us hv=>h X ρ s (O.le hk) e I us hv
theorem FnP.le {f:Value}{args:List PV}{v:PV}{k:Nat}(h:FnP prog w T n f args v) (hk:n≤k):FnP prog w T k f args v:=fun σ=>(h σ).le hk
end
end Mine
end
section
open PySem PySem.W PyProof.Rows PySem.Calls
set_option maxRecDepth 100000
namespace Mine
noncomputable def sl {α:Type}(l:List α) (lo hi:Option Int):List α:=
 (l.drop (lo.elim 0 (clipAt l.length))).take (hi.elim l.length (clipAt l.length)-lo.elim 0 (clipAt l.length))
theorem mk_length (a:List Nat):(mk a).length=a.length:=by simp[Str.length]
theorem slice_mk (a:List Nat) (lo hi:Option Int):Txt.slice (mk a) lo hi=mk (sl a lo hi):=by
 have e:Builtin.Str.strSliceIndices lo hi 1 (mk a).length=(List.range (hi.elim a.length (clipAt a.length)-lo.elim 0 (clipAt a.length))).map (lo.elim 0 (clipAt a.length)+ ·):=by
  rw[mk_length,←sliceRange_one]
  have:=sliceBounds_plain lo hi a.length
  show sliceRange (sliceBounds lo hi none a.length).1 (sliceBounds lo hi none a.length).2.1 1=_
  rw[this]
 have k:((Builtin.Str.strSliceIndices lo hi 1 (mk a).length).filterMap ((mk a).cps[·]?))=sl a lo hi:=by
  rw[e,pick_run];rfl
 unfold Txt.slice
 split
 ·rename_i h
  simp only[Bool.and_eq_true,beq_iff_eq] at h
  have hl:=h.2
  have e2: ∀(l:List Nat) (n:Nat),l.length=n→l=l.take n:=fun l n hn=>by rw[←hn,List.take_length]
  have hl2:hi.elim a.length (clipAt a.length)-lo.elim 0 (clipAt a.length)=a.length:=by
   have:(Builtin.Str.strSliceIndices lo hi 1 (mk a).length).length=hi.elim a.length (clipAt a.length)-lo.elim 0 (clipAt a.length):=by rw[e];simp
   rw[hl,mk_length] at this
   exact this.symm
  have hb:hi.elim a.length (clipAt a.length)≤a.length:=by
   cases hi with
   | none=>exact Nat.le_refl _
   | some i=>
    show clipAt a.length i≤a.length
    have:=clipAt_cast a.length i
    omega
  have key:sl a lo hi=a:=by
   unfold sl
   generalize lo.elim 0 (clipAt a.length)=p at hl2 hb ⊢
   generalize hi.elim a.length (clipAt a.length)=q at hl2 hb ⊢
   by_cases h0:a.length=0
   ·have:a=[]:=List.eq_nil_of_length_eq_zero h0
    subst this;simp
   ·have p0:p=0:=by omega
    subst p0
    rw[List.drop_zero,List.take_of_length_le (by omega)]
  rw[key]
 ·rw[k]
section
variable {prog:Program}{w:World}{X:Cx}{ρ ρ':Ro}{σ σ':Led}{T:Tops}{n:Nat}
theorem pe_str {x:Str}{k:Nat}{pos:Pos}:PE prog w X (.Constant (.str x) k pos) ρ σ (.str x.cps.toList):=
 fun _ I=>wpAny_Constant_str ⟨by have:=VR.str x.cps.toList (Shared.toks ‹_›);rw[mk_cps] at this;exact this,I.tick _⟩
theorem pe_bool {b:Bool}{k:Nat}{pos:Pos}:PE prog w X (.Constant (.bool b) k pos) ρ σ (.bool b):=fun _ I=>wpAny_Constant_bool ⟨.bool _,I⟩
theorem pe_none {k:Nat}{pos:Pos}:PE prog w X (.Constant .none k pos) ρ σ .none:=fun _ I=>wpAny_Constant_none ⟨.none,I⟩
theorem pe_bytes {b:List UInt8}{k:Nat}{pos:Pos}:PE prog w X (.Constant (.bytes b) k pos) ρ σ (.bytes b):=fun _ I=>Constant_bytes ⟨.bytes _ _,I.tick _⟩
theorem pe_mul {l r:Expr}{pos:Pos}{a b:Int}(hl:PE prog w X l ρ σ (.int a)) (hr:PE prog w X r ρ σ (.int b)) (h:IntMulOk a b):PE prog w X (.BinOp l .Mult r pos) ρ σ (.int (a*b)):=
 pe_bin hl hr fun _ _ h₁ h₂ _ I=>by cases h₁;cases h₂;exact mul_int ⟨.int _ _,I.tick _⟩ h
theorem pe_fdiv {l r:Expr}{pos:Pos}{a b:Int}(hl:PE prog w X l ρ σ (.int a)) (hr:PE prog w X r ρ σ (.int b)) (hb:b≠0) (h:Builtin.divisionGoesByPylong a b=false):PE prog w X (.BinOp l .FloorDiv r pos) ρ σ (.int (a.fdiv b)):=
 pe_bin hl hr fun _ _ h₁ h₂ _ I=>by cases h₁;cases h₂;exact floordiv_int hb ⟨.int _ _,I.tick _⟩ (.inl h)
theorem pe_pow {l r:Expr}{pos:Pos}{a b:Int}(hl:PE prog w X l ρ σ (.int a)) (hr:PE prog w X r ρ σ (.int b)) (h0:0≤b) (h1:b≤1000000) (ha:a.natAbs<2^64):PE prog w X (.BinOp l .Pow r pos) ρ σ (.int (a^b.toNat)):=
 pe_bin hl hr fun _ _ h₁ h₂ _ I=>by cases h₁;cases h₂;exact pow_int_small h0 h1 ha ⟨.int _ _,I.tick _⟩
theorem pe_neg {e:Expr}{pos:Pos}{a:Int}(h:PE prog w X e ρ σ (.int a)):PE prog w X (.UnaryOp .USub e pos) ρ σ (.int (-a)):=fun s I=>
 wpAny_UnaryOp (wpAny_mono (h s I) (fun u s' q=>by obtain⟨h1,I'⟩:=q;cases h1;exact neg_int ⟨.int _ _,I'.tick _⟩) fun _ _ f=>f)
theorem pe_if {t a b:Expr}{pos:Pos}{c:Bool}{v:PV}(ht:BE prog w X t ρ σ c) (h1:c=true→PE prog w X a ρ σ v) (h2:c=false→PE prog w X b ρ σ v):PE prog w X (.IfExp t a b pos) ρ σ v:=fun s I=>
 IfExp_ (wpAny_mono (ht s I) (fun d s' q=>by
  obtain⟨rfl,I'⟩:=q
  cases d with
  | true=>exact h1 rfl s' I'
  | false=>exact h2 rfl s' I') fun _ _ f=>f)
theorem be_truthy {e:Expr}{v:PV}{b:Bool}(h:PE prog w X e ρ σ v) (ht: ∀u s,VR v u→Inv X ρ σ s→wpAny (model prog w) X.A (truthy u) (fun c s'=>c=b∧Inv X ρ σ s') (fun _ _=>False) s)
  (he:isTrue e X.env (eval e X.env)=(do let v ←eval e X.env;standAt e.pos;holding [v] (truthy v)):=by rfl):BE prog w X e ρ σ b:=fun s I=>
 PyProof.Rows.isTrue_plain (wpAny_mono (h s I) (fun u s' q=>ht u s' q.1 q.2) fun _ _ f=>f) he
theorem tr_str {a:List Nat}(hl:a.length<2^63) (u:Value) (s:Shared) (h:VR (.str a) u) (I:Inv X ρ σ s):wpAny (model prog w) X.A (truthy u) (fun c s'=>c=(!a.isEmpty)∧Inv X ρ σ s') (fun _ _=>False) s:=by
 cases h
 refine P.truthy_str (by rw[mk_length];omega) ⟨?_,I.tick _⟩
 rw[mk_length]
 cases a<;>simp<;>omega
theorem tr_int {a:Int}(u:Value) (s:Shared) (h:VR (.int a) u) (I:Inv X ρ σ s):wpAny (model prog w) X.A (truthy u) (fun c s'=>c=(a != 0)∧Inv X ρ σ s') (fun _ _=>False) s:=by
 cases h
 exact PyProof.Rows.truthy_int ⟨rfl,I⟩
theorem be_not {e:Expr}{pos:Pos}{b:Bool}(h:BE prog w X e ρ σ b):BE prog w X (.UnaryOp .Not e pos) ρ σ (!b):=fun s I=>
 isTrue_not (wpAny_mono (h s I) (fun c s' q=>by obtain⟨rfl,I'⟩:=q;exact⟨rfl,I'⟩) fun _ _ f=>f)
theorem pe_cat {l r:Expr}{pos:Pos}{a b:List Nat}(hl:PE prog w X l ρ σ (.str a)) (hr:PE prog w X r ρ σ (.str b)) (h:a.length+b.length≤16777216):PE prog w X (.BinOp l .Add r pos) ρ σ (.str (a++b)):=
 pe_bin hl hr fun _ _ h₁ h₂ _ I=>by
  cases h₁;cases h₂
  refine KOpn.add (by rw[mk_length,mk_length];exact h) fun t' k _=>⟨?_,I.tick _⟩
  have e:mk a++mk b=mk (a++b):=by apply Str.ext';simp[Str.cps_append]
  rw[e];exact .str _ _
noncomputable def rep (a:List Nat) (n:Int):List Nat:=(List.replicate n.toNat a).flatten
theorem foldl_cat: ∀(l:List (Array Nat)) (b:Array Nat),(l.foldl (· ++ ·) b).toList=b.toList++(l.map Array.toList).flatten
 | [],b=>by simp
 | a::l,b=>by rw[List.foldl_cons,foldl_cat l];simp
theorem mul_mk (a:List Nat) (n:Int):Txt.mul (mk a) n=mk (rep a n):=by
 unfold Txt.mul rep
 split
 ·have:n.toNat=0:=by omega
  rw[this];rfl
 ·split
  ·rename_i h0 h
   simp only[Bool.or_eq_true,beq_iff_eq] at h
   rcases h with h | h
   ·subst h;simp[show (1:Int).toNat=1 from rfl]
   ·rw[mk_length] at h
    have:a=[]:=List.eq_nil_of_length_eq_zero h
    subst this;simp
  ·congr 1
   apply Array.toList_inj.mp
   rw[foldl_cat]
   simp
theorem pe_rep {l r:Expr}{pos:Pos}{a:List Nat}{n:Int}(hl:PE prog w X l ρ σ (.str a)) (hr:PE prog w X r ρ σ (.int n)) (h1:a.length≤16) (h2: -2^63≤n) (h3:n≤1048576):PE prog w X (.BinOp l .Mult r pos) ρ σ (.str (rep a n)):=
 pe_bin hl hr fun _ _ h₁ h₂ _ I=>by
  cases h₁;cases h₂
  refine KXi.mul (mk_length a) h1 h2 (by omega) fun t' k _ _=>⟨?_,I.tick _⟩
  rw[mul_mk];exact .str _ _
noncomputable def PaE (prog:Program) (w:World) (X:Cx) (e:Option Expr) (ρ:Ro) (σ:Led) (o:Option Int):Prop:=Ev prog w X (evalPart e X.env) ρ σ fun u s'=>IsPart u o∧Inv X ρ σ s'
theorem pa_none:PaE prog w X none ρ σ none:=fun s I=>by rw[evalPart_none];exact wpAny_pure ⟨.none,I⟩
theorem pa_some {e:Expr}{i:Int}(h:PE prog w X e ρ σ (.int i)):PaE prog w X (some e) ρ σ (some i):=fun s I=>by
 rw[evalPart_some]
 exact wpAny_mono (h s I) (fun u s' q=>by obtain⟨h1,I'⟩:=q;cases h1;exact⟨.int _ _,I'⟩) fun _ _ f=>f
theorem Inv.heap {s:Shared}{h':Heap}{tk:Nat}{m:Str→Option Value}{news:List (Addr×Obj)}(I:Inv X ρ σ s) (R:RoIs ρ m) (D:LedIs σ news) (F:Fr X.g X.L h' m) (N:News X.g X.L h' news):Inv X ρ σ {s with heap:=h',toks:=tk}:=
 ⟨⟨m,news,F,N,R,D⟩,I.nd,I.ks,I.kn,I.gens,I.os⟩
theorem pe_slice {v:Expr}{l u:Option Expr}{p pos:Pos}{a:List Nat}{lo hi:Option Int}(hv:PE prog w X v ρ σ (.str a)) (hl:PaE prog w X l ρ σ lo) (hu:PaE prog w X u ρ σ hi) (hn:a.length≤16777216)
  (ht: ∀x r,letTemporaryGo v (.str x 0) r=pure ():=by intro _ _;rfl):PE prog w X (.Subscript v (.Slice l u none p) pos) ρ σ (.str (sl a lo hi)):=fun s I=>by
 refine PyProof.Rows.Subscript_ (wpAny_mono (hv s I) (fun x s₁ q=> ?_) fun _ _ f=>f)
 obtain⟨h1,I₁⟩:=q
 cases h1 with
 | str _ t=>
 refine wpAny_Slice (wpAny_mono (hl s₁ I₁) (fun vl s₂ q=>wpAny_mono (hu s₂ q.2) (fun vu s₃ q'=> ?_) fun _ _ f=>f) fun _ _ f=>f)
 obtain⟨pl,I₂⟩:=q
 obtain⟨pu,I₃⟩:=q'
 rw[evalPart_none]
 refine wpAny_pure ?_
 obtain⟨m,news,F,N,R,D⟩:=I₃.st
 have fin: ∀(h':Heap) (t':Tok) (k:Nat),Fr X.g X.L h' m→News X.g X.L h' news→VR (.str (sl a lo hi)) (.str (Txt.slice (mk a) lo hi) t')∧Inv X ρ σ {s₃ with heap:=h',toks:=k}:=
  fun h' t' k F' N'=>⟨by rw[slice_mk];exact .str _ _,I₃.heap R D F' N'⟩
 have hlt: ∀r,letTemporaryGo v (.str (mk a) t) r=pure ():=fun r=>by have:=ht (mk a) r;cases v<;>first | rfl | exact this
 have hsz:(mk a).length≤sizeLine:=by rw[mk_length];exact hn
 cases pl<;>cases pu
 ·exact slice_strN_nn F N (fun h' t' k F' N'=>fin h' t' k F' N') rfl hlt hsz
 ·exact slice_strN_ns F N (fun h' t' k F' N'=>fin h' t' k F' N') rfl hlt hsz
 ·exact slice_strN_sn F N (fun h' t' k F' N'=>fin h' t' k F' N') rfl hlt hsz
 ·exact slice_strN_ss F N (fun h' t' k F' N'=>fin h' t' k F' N') rfl hlt hsz
end
end Mine
end
section
open PySem PySem.W PyProof.Rows PySem.Calls
set_option maxRecDepth 100000
namespace Mine
open PySem.Builtin.Str (occurrences subAt)
noncomputable def hasT (x y:List Nat):Bool:= !(occurrences (mk x) (mk y) 0 (mk x).length 1).isEmpty
noncomputable def fnd (x y:List Nat) (lo hi:Nat):Int:=match occurrences (mk x) (mk y) lo hi 1 with | k::_=>(k:Int) | []=> -1
theorem gives_find4 (x y:Str) (i j:Int) (t u v z:Tok):Gives (Builtin.«str.find» ⟨[.str x t,.str y u,.int i v,.int j z],[]⟩)
  (.int (match occurrences x y (fromIndex x.length i) (min (fromIndex x.length j) x.length) 1 with | k::_=>(k:Int) | []=> -1)):=by
 show Gives (match occurrences x y (fromIndex x.length i) (min (fromIndex x.length j) x.length) 1 with | k::_=>retInt k | []=>(do rule "str.find.not-found";retInt (-1))) _
 cases occurrences x y (fromIndex x.length i) (min (fromIndex x.length j) x.length) 1 with
 | nil=>exact .rule (.of_eq rfl)
 | cons k _=>exact .of_eq rfl
section
variable {prog:Program}{w:World}{X:Cx}{ρ ρ':Ro}{σ σ':Led}{T:Tops}{n:Nat}
theorem VRs.one {p:PV}{us:List Value}(h:VRs [p] us): ∃u,us=[u]∧VR p u:=by
 cases h with | cons h r=>cases r;exact⟨_,rfl,h⟩
theorem VRs.two {p q:PV}{us:List Value}(h:VRs [p,q] us): ∃u v,us=[u,v]∧VR p u∧VR q v:=by
 cases h with | cons h r=>obtain⟨v,rfl,h2⟩:=r.one;exact⟨_,_,rfl,h,h2⟩
theorem VRs.three {p q r:PV}{us:List Value}(h:VRs [p,q,r] us): ∃u v x,us=[u,v,x]∧VR p u∧VR q v∧VR r x:=by
 cases h with | cons h r=>obtain⟨v,x,rfl,h2,h3⟩:=r.two;exact⟨_,_,_,rfl,h,h2,h3⟩
theorem ae1 {e:Expr}{pos:Pos}{v:PV}(h:PE prog w X e ρ σ v) (he:starEach [e] X.env=[(false,eval e X.env)]:=by rfl):AE prog w X [e] pos ρ σ [v]:=
 ae_of (t:=eval e X.env) (r:=[]) (by rw[he];rfl) (sp_cons h sp_nil)
theorem ae2 {e f:Expr}{pos:Pos}{v u:PV}(h:PE prog w X e ρ σ v) (h2:PE prog w X f ρ σ u) (he:starEach [e,f] X.env=[(false,eval e X.env),(false,eval f X.env)]:=by rfl):AE prog w X [e,f] pos ρ σ [v,u]:=
 ae_of (t:=eval e X.env) (r:=[(false,eval f X.env)]) (by rw[he];rfl) (sp_cons h (sp_cons h2 sp_nil))
theorem ae3 {e f g:Expr}{pos:Pos}{v u x:PV}(h:PE prog w X e ρ σ v) (h2:PE prog w X f ρ σ u) (h3:PE prog w X g ρ σ x)
  (he:starEach [e,f,g] X.env=[(false,eval e X.env),(false,eval f X.env),(false,eval g X.env)]:=by rfl):AE prog w X [e,f,g] pos ρ σ [v,u,x]:=
 ae_of (t:=eval e X.env) (r:=[(false,eval f X.env),(false,eval g X.env)]) (by rw[he];rfl) (sp_cons h (sp_cons h2 (sp_cons h3 sp_nil)))
theorem c_chr {i:Int}(h0:0≤i) (h1:i≤1114111) (us:List Value) (h:VRs [.int i] us):PEt prog w X (call (.builtin "chr") us) ρ σ (.str [i.toNat]):=fun s I=>by
 obtain⟨u,rfl,hu⟩:=h.one
 cases hu
 exact chr_of_range h0 h1 ⟨.str [i.toNat] _,I.tick _⟩
theorem c_ord {c:Nat}(us:List Value) (h:VRs [.str [c]] us):PEt prog w X (call (.builtin "ord") us) ρ σ (.int c):=fun s I=>by
 obtain⟨u,rfl,hu⟩:=h.one
 cases hu
 exact P.ord_of_char ⟨.int _ _,I.tick _⟩
theorem c_len_str {a:List Nat}(hl:a.length<2^63) (us:List Value) (h:VRs [.str a] us):PEt prog w X (call (.builtin "len") us) ρ σ (.int a.length):=fun s I=>by
 obtain⟨u,rfl,hu⟩:=h.one
 cases hu
 refine P.len_str (by rw[mk_length];omega) ⟨?_,I.tick _⟩
 rw[mk_length];exact .int _ _
theorem c_len_bytes {a:List UInt8}(hl:a.length≤1099511627776) (us:List Value) (h:VRs [.bytes a] us):PEt prog w X (call (.builtin "len") us) ρ σ (.int a.length):=fun s I=>by
 obtain⟨u,rfl,hu⟩:=h.one
 cases hu
 refine len_bytes (by simpa using hl) ⟨?_,I.tick _⟩
 rw[List.size_toArray];exact .int _ _
theorem c_min {a b:Int}(hh:X.A.handled=none) (us:List Value) (h:VRs [.int a,.int b] us):PEt prog w X (call (.builtin "min") us) ρ σ (.int (if b<a then b else a)):=fun s I=>by
 obtain⟨u,v,rfl,hu,hv⟩:=h.two
 cases hu;cases hv
 obtain⟨m,news,F,N,R,D⟩:=I.st
 exact min_two_N hh F N fun h' tk F' N'=>⟨.int _ _,I.heap R D F' N'⟩
theorem c_abs {a:Int}(us:List Value) (h:VRs [.int a] us):PEt prog w X (call (.builtin "abs") us) ρ σ (.int (if a<0 then-a else a)):=fun s I=>by
 obtain⟨u,rfl,hu⟩:=h.one
 cases hu
 exact call_abs_int fun u tk=>⟨.int _ _,I.tick _⟩
noncomputable def itemT (a:List Nat) (i:Int):Nat:=a.getD (if i<0 then i+a.length else i).toNat 0
theorem item_mk {a:List Nat}{i:Int}(h0: -(a.length:Int)≤i) (h1:i<a.length):Txt.item (mk a) i=mk [itemT a i]:=by
 unfold Txt.item Txt.charAt itemT
 congr 2
 have hl:=mk_length a
 by_cases hi:i<0
 ·have e:PySem.seqIndex? i (mk a).length=some (i+a.length).toNat:=by
   unfold PySem.seqIndex?
   rw[hl];simp[hi];omega
  rw[e,if_pos hi]
  simp[List.getD_eq_getElem?_getD]
 ·have e:PySem.seqIndex? i (mk a).length=some i.toNat:=by
   unfold PySem.seqIndex?
   rw[hl];simp[hi];omega
  rw[e,if_neg hi]
  simp[List.getD_eq_getElem?_getD]
theorem pe_item {v e:Expr}{pos:Pos}{a:List Nat}{i:Int}(hv:PE prog w X v ρ σ (.str a)) (he:PE prog w X e ρ σ (.int i)) (h0: -(a.length:Int)≤i) (h1:i<a.length) (hn:a.length≤16777216)
  (hs: ∀x y,subscripted e false x y=operate [x,y] (getItem x y):=by intro _ _;rfl):PE prog w X (.Subscript v e pos) ρ σ (.str [itemT a i]):=fun s I=>by
 refine PyProof.Rows.Subscript_ (wpAny_mono (hv s I) (fun x s₁ q=>wpAny_mono (he s₁ q.2) (fun y s₂ q'=> ?_) fun _ _ f=>f) fun _ _ f=>f)
 obtain⟨h1',I₁⟩:=q
 obtain⟨h2',I₂⟩:=q'
 cases h1';cases h2'
 have hl:=mk_length a
 refine item_str (fitsSsize_of (N:=9223372036854775808) (by omega) (by omega) (Int.le_refl _)) (by omega) (by omega) (fun _=>⟨?_,I₂.tick _⟩) (hs _ _) (fun r=>by cases v<;>rfl)
 rw[item_mk h0 h1];exact .str _ _
theorem m_of {name:Str}{id:String}{a:List Nat}(h: ∀(x:Str) (t:Tok) (s:Shared) (pl:Sem Bool) (Q:Value×List Value→Shared→Prop),Q (.builtin id,[.str x t]) s→wpAny (model prog w) X.A (getMethod (.str x t) name pl) Q (fun _ _=>False) s)
  (pl:Sem Bool) (u:Value) (s:Shared) (Q:Value×List Value→Shared→Prop) (hu:VR (.str a) u) (I:Inv X ρ σ s) (hQ:Q (.builtin id,[u]) s):wpAny (model prog w) X.A (getMethod u name pl) Q (fun _ _=>False) s:=by
 cases hu;exact h _ _ _ _ _ hQ
theorem c_startswith {a b:List Nat}(u:Value) (us:List Value) (hu:VR (.str a) u) (h:VRs [.str b] us):PEt prog w X (call (.builtin "str.startswith") (u::us)) ρ σ (.bool (Txt.startswith (mk a) (mk b))):=fun s I=>by
 obtain⟨v,rfl,hv⟩:=h.one
 cases hu;cases hv
 exact SC.startswith ⟨.bool _,I⟩
theorem c_endswith {a b:List Nat}(u:Value) (us:List Value) (hu:VR (.str a) u) (h:VRs [.str b] us):PEt prog w X (call (.builtin "str.endswith") (u::us)) ρ σ (.bool (Txt.endswith (mk a) (mk b))):=fun s I=>by
 obtain⟨v,rfl,hv⟩:=h.one
 cases hu;cases hv
 exact SC.endswith ⟨.bool _,I⟩
theorem c_isspace {a:List Nat}(u:Value) (us:List Value) (hu:VR (.str a) u) (h:VRs [] us):PEt prog w X (call (.builtin "str.isspace") (u::us)) ρ σ (.bool (Txt.isspace (mk a))):=fun s I=>by
 cases h;cases hu
 exact SC.isspace ⟨.bool _,I⟩
theorem c_lower {a:List Nat}(hl:(Txt.lower (mk a)).length≤16777216) (u:Value) (us:List Value) (hu:VR (.str a) u) (h:VRs [] us):PEt prog w X (call (.builtin "str.lower") (u::us)) ρ σ (.str (Txt.lower (mk a)).cps.toList):=fun s I=>by
 cases h;cases hu
 refine SC.lower ?_ ⟨?_,I.tick _⟩
 ·show decide _ =false
  simp only[decide_eq_false_iff_not]
  rw[sizeLine_eq];omega
 ·have:=VR.str (Txt.lower (mk a)).cps.toList s.toks;rw[mk_cps] at this;exact this
theorem c_find4 {a b:List Nat}{i j:Int}(h0:0≤i) (h1:0≤j) (h2:j≤a.length) (u:Value) (us:List Value) (hu:VR (.str a) u) (h:VRs [.str b,.int i,.int j] us):
  PEt prog w X (call (.builtin "str.find") (u::us)) ρ σ (.int (fnd a b i.toNat j.toNat)):=fun s I=>by
 obtain⟨v,x,y,rfl,hv,hx,hy⟩:=h.three
 cases hu;cases hv;cases hx;cases hy
 have e1:fromIndex (mk a).length i=i.toNat:=by unfold fromIndex;rw[if_neg (by omega)];omega
 have e2:min (fromIndex (mk a).length j) (mk a).length=j.toNat:=by unfold fromIndex;rw[if_neg (by omega),mk_length];omega
 have g:=gives_find4 (mk a) (mk b) i j
 rw[e1,e2] at g
 exact call_gives F.slot_str_find (typeIs_str _ _ _) F.entry_str_find (F.args_str_find_4 _ _ _ _) (g _ _ _ _) ⟨.int _ _,I.tick _⟩
theorem cm_in {a b:List Nat}:Cm prog w X .In (.str b) (.str a) ρ σ (hasT a b):=fun u v h1 h2 s I=>by cases h1;cases h2;exact in_str ⟨rfl,I⟩
theorem cm_notin {a b:List Nat}:Cm prog w X .NotIn (.str b) (.str a) ρ σ (!hasT a b):=fun u v h1 h2 s I=>by cases h1;cases h2;exact notIn_str ⟨rfl,I⟩
theorem cm_isnot {a b:Bool}:Cm prog w X .IsNot (.bool a) (.bool b) ρ σ (a != b):=fun u v h1 h2 s I=>by cases h1;cases h2;exact isnot_bool ⟨rfl,I⟩
theorem cm_isnot_none {a:List Nat}:Cm prog w X .IsNot (.str a) .none ρ σ true:=fun u v h1 h2 s I=>by cases h1;cases h2;exact wpAny_isNot_other rfl (by intro x;cases x) ⟨rfl,I⟩
theorem cm_none_isnot:Cm prog w X .IsNot .none .none ρ σ false:=fun u v h1 h2 s I=>by cases h1;cases h2;exact fun _ _ _=>⟨rfl,I⟩
theorem be_and1 {a:Expr}{r:List Expr}{pos:Pos}{c d:Bool}(h:BE prog w X a ρ σ c) (hr:c=true→BE prog w X (.BoolOp .And r pos) ρ σ d):BE prog w X (.BoolOp .And (a::r) pos) ρ σ (c&&d):=fun s I=>
 isTrue_and (wpAny_mono (h s I) (fun x s' q=>by
  obtain⟨rfl,I'⟩:=q
  cases x with
  | true=>exact hr rfl s' I'
  | false=>exact⟨rfl,I'⟩) fun _ _ f=>f)
theorem be_and0 {pos:Pos}:BE prog w X (.BoolOp .And [] pos) ρ σ true:=fun s I=>isTrue_and_nil ⟨rfl,I⟩
theorem be_or1 {a:Expr}{r:List Expr}{pos:Pos}{c d:Bool}(h:BE prog w X a ρ σ c) (hr:c=false→BE prog w X (.BoolOp .Or r pos) ρ σ d):BE prog w X (.BoolOp .Or (a::r) pos) ρ σ (c||d):=fun s I=>
 isTrue_or (wpAny_mono (h s I) (fun x s' q=>by
  obtain⟨rfl,I'⟩:=q
  cases x with
  | true=>exact⟨rfl,I'⟩
  | false=>exact hr rfl s' I') fun _ _ f=>f)
theorem be_or0 {pos:Pos}:BE prog w X (.BoolOp .Or [] pos) ρ σ false:=fun s I=>isTrue_or_nil ⟨rfl,I⟩
theorem pe_and2 {a b:Expr}{pos:Pos}{c d:Bool}(h:PE prog w X a ρ σ (.bool c)) (hr:c=true→PE prog w X b ρ σ (.bool d)):PE prog w X (.BoolOp .And [a,b] pos) ρ σ (.bool (c&&d)):=fun s I=>
 BoolOp_and (wpAny_mono (h s I) (fun x s' q=>by
  obtain⟨h1,I'⟩:=q
  cases h1
  refine wpAny_truthy_bool ?_
  cases c with
  | true=>exact BoolOp_one (hr rfl s' I')
  | false=>exact⟨.bool _,I'⟩) fun _ _ f=>f)
end
end Mine
end
section
open PySem PySem.W PyProof.Rows PySem.Calls
set_option maxRecDepth 100000
namespace Mine
inductive Us (a:Addr) (P:Obj→Prop):Led→Led→Prop
 | here {Q r}:Us a P ((a,Q)::r) ((a,P)::r)
 | there {p r r'} (h:Us a P r r'):Us a P (p::r) (p::r')
theorem Us.keys {a P σ σ'} (h:Us a P σ σ'):σ'.map (·.1)=σ.map (·.1):=by
 induction h with
 | here=>rfl
 | there _ ih=>simp[ih]
theorem Us.mem_key {a P σ σ'} (h:Us a P σ σ'):a∈σ.map (·.1):=by
 induction h with
 | here=>simp
 | there _ ih=>simp only[List.map_cons,List.mem_cons];exact .inr ih
theorem Us.news {a:Addr}{P σ σ'} (h:Us a P σ σ'): ∀{news:List (Addr×Obj)}{g:Heap}{L:Addr}{h₀ h':Heap}{o':Obj},LedIs σ news→(σ.map (·.1)).Nodup→News g L h₀ news→Heap.SameBut a h₀ h'→h'.get? a=some o'→P o'→ ∃n',LedIs σ' n'∧News g L h' n':=by
 induction h with
 | here=>
  intro news g L h₀ h' o' D nd N hs ho hp
  cases D with
  | @cons _ _ o _ n h r=>
   rw[List.map_cons,List.nodup_cons] at nd
   refine⟨_,.cons hp r,fun p hpm=> ?_⟩
   have z:=N (a,o) (.head _)
   rcases List.mem_cons.mp hpm with rfl | hpm
   ·exact⟨ho,z.2⟩
   ·have y:=N p (.tail _ hpm)
    have ne:p.1≠a:=fun e=>nd.1 (by rw[r.keys,←e];exact List.mem_map_of_mem hpm)
    exact⟨(hs.2 _ ne).trans y.1,y.2⟩
 | @there q r r' h ih=>
  intro news g L h₀ h' o' D nd N hs ho hp
  cases D with
  | @cons b _ o _ n hq r=>
   rw[List.map_cons,List.nodup_cons] at nd
   obtain⟨n',D',N'⟩:=ih r nd.2 (fun p hpm=>N p (.tail _ hpm)) hs ho hp
   refine⟨_,.cons hq D',fun p hpm=> ?_⟩
   have z:=N (b,o) (.head _)
   rcases List.mem_cons.mp hpm with rfl | hpm
   ·have ne:b≠a:=fun e=>nd.1 (e ▸ h.mem_key)
    exact⟨(hs.2 _ ne).trans z.1,z.2⟩
   ·exact N' p hpm
section
variable {prog:Program}{w:World}{X:Cx}{ρ ρ':Ro}{σ σ':Led}{T:Tops}{n:Nat}
theorem Inv.push {s:Shared}(I:Inv X ρ σ s) {o:Obj}{P:Obj→Prop}(hp:P o) (hf:o.isFreed=false) {tk:Nat}:Inv X ρ ((s.heap.objs.size,P)::σ) {s with heap:=s.heap.push o,toks:=tk}:=by
 obtain⟨m,news,F,N,R,D⟩:=I.st
 refine⟨⟨m,_,F.push o,N.push F o hf,R,.cons hp D⟩,?_,I.ks,I.kn,I.gens,I.os⟩
 rw[List.map_cons,List.nodup_cons]
 refine⟨fun hm=> ?_,I.nd⟩
 rw[D.keys] at hm
 obtain⟨p,hp,e⟩:=List.mem_map.mp hm
 exact absurd (Heap.lt_size (N p hp).1) (by rw[e];exact Nat.lt_irrefl _)
theorem Inv.ne_L {s:Shared}(I:Inv X ρ σ s) {a:Addr}(h:a∈σ.map (·.1)):a≠X.L∧X.g.get? a=none:=by
 obtain⟨m,news,F,N,R,D⟩:=I.st
 rw[D.keys] at h
 obtain⟨p,hp,rfl⟩:=List.mem_map.mp h
 exact(N p hp).2
theorem Fr.sameBut {g:Heap}{L a:Addr}{h h':Heap}{m:Str→Option Value}(F:Fr g L h m) (hs:Heap.SameBut a h h') (hL:a≠L) (hg:g.get? a=none):Fr g L h' m:=
 ⟨F.ns.sameBut hs (Ne.symm hL),fun b o e=>(hs.2 b (fun q=>by rw[q,hg] at e;cases e)).trans (F.keep b o e),F.above⟩
theorem Inv.turn {s:Shared}(I:Inv X ρ σ s) {a:Addr}{P:Obj→Prop}{h':Heap}{o':Obj}{tk:Nat}(hu:Us a P σ σ') (hs:Heap.SameBut a s.heap h') (ho:h'.get? a=some o') (hp:P o'):Inv X ρ σ' {s with heap:=h',toks:=tk}:=by
 obtain⟨hL,hg⟩:=I.ne_L hu.mem_key
 obtain⟨m,news,F,N,R,D⟩:=I.st
 obtain⟨n',D',N'⟩:=hu.news D I.nd N hs ho hp
 exact⟨⟨m,n',Fr.sameBut F hs hL hg,N',R,D'⟩,by rw[hu.keys];exact I.nd,I.ks,I.kn,I.gens,I.os⟩
theorem Fr.extBut {g:Heap}{L a:Addr}{h h':Heap}{m:Str→Option Value}(F:Fr g L h m) (hs:Heap.ExtBut a h h') (hL:a≠L) (hg:g.get? a=none):Fr g L h' m:=
 ⟨F.ns.extBut hs (Ne.symm hL),fun b o e=>hs b o (fun q=>by rw[q,hg] at e;cases e) (F.keep b o e),F.above⟩
theorem Inv.done {s:Shared}{a:Addr}{P:Obj→Prop}(I:Inv X ρ ((a,P)::σ) s) {h':Heap}{tk:Nat}(hs:Heap.ExtBut a s.heap h'):Inv X ρ σ {s with heap:=h',toks:=tk}:=by
 obtain⟨hL,hg⟩:=I.ne_L (a:=a) (by simp)
 have nd:=I.nd
 obtain⟨m,news,F,N,R,D⟩:=I.st
 cases D with
 | @cons _ _ o _ n hq D=>
  rw[List.map_cons,List.nodup_cons] at nd
  refine⟨⟨m,n,Fr.extBut F hs hL hg,fun p hp=> ?_,R,D⟩,nd.2,I.ks,I.kn,I.gens,I.os⟩
  have z:=N p (.tail _ hp)
  have ne:p.1≠a:=fun e=>nd.1 (by rw[D.keys,←e];exact List.mem_map_of_mem hp)
  exact⟨hs _ _ ne z.1,z.2⟩
noncomputable def Nx (prog:Program) (w:World) (X:Cx) (I:Addr) (P P':Obj→Prop) (v:PV) (σ:Led):Prop:=
 ∀ρ s,Inv X ρ ((I,P)::σ) s→wpAny (model prog w) X.A (pyNext (.ref I)) (fun r s'=> ∃u,r=some u∧VR v u∧Inv X ρ ((I,P')::σ) s') (fun _ _=>False) s
noncomputable def Nx0 (prog:Program) (w:World) (X:Cx) (I:Addr) (P:Obj→Prop) (σ:Led):Prop:=
 ∀ρ s,Inv X ρ ((I,P)::σ) s→wpAny (model prog w) X.A (pyNext (.ref I)) (fun r s'=>r=none∧Inv X ρ σ s') (fun _ _=>False) s
noncomputable def ItE (prog:Program) (w:World) (X:Cx) (iter:Expr) (ρ:Ro) (σ:Led) (P:Addr→Obj→Prop):Prop:=
 Ev prog w X (eval iter X.env) ρ σ fun y s₁=>wpAny (model prog w) X.A (pyIter y) (fun u s'=> ∃I,u= .ref I∧Inv X ρ ((I,P I)::σ) s') (fun _ _=>False) s₁
noncomputable def LoopK (K:PF→Ro→Led→Prop) (J:Ro→Led→Prop):PF→Ro→Led→Prop
 | .next,ρ,σ | .cont,ρ,σ=>J ρ σ
 | .brk,ρ,σ=>K .next ρ σ
 | .ret v,ρ,σ=>K (.ret v) ρ σ
theorem SE.sub {l:List Stmt}{K:PF→Ro→Led→Prop}(h:SE prog w X l ρ σ' K) (hs:σ'.Sublist σ):SE prog w X l ρ σ K:=St.sub h hs
theorem s1_for {x:Str}{px pos:Pos}{iter:Expr}{body orelse:List Stmt}{K:PF→Ro→Led→Prop}(k:Nat) (xs:Nat→PV) (It:Addr→Nat→Obj→Prop) (J:Nat→Ro→Led→Prop)
  (hi:ItE prog w X iter ρ σ fun I=>It I 0)
  (h0:J 0 ρ σ)
  (hn: ∀I i ρ σ,i<k→J i ρ σ→Nx prog w X I (It I i) (It I (i+1)) (xs i) σ)
  (hd: ∀I ρ σ,J k ρ σ→Nx0 prog w X I (It I k) σ)
  (hb: ∀I i ρ σ,i<k→J i ρ σ→I∉σ.map (·.1)→ ∃ρ' σ',(∀u,VR (xs i) u→StoreE prog w X x u ρ ((I,It I (i+1))::σ) ρ' σ')∧
   SE prog w X body ρ' σ' (LoopK K fun ρ₂ σ₂=> ∃σ₃,J (i+1) ρ₂ σ₃∧((I,It I (i+1))::σ₃).Sublist σ₂))
  (he: ∀ρ σ,J k ρ σ→SE prog w X orelse ρ σ K)
  (hf: ∀x,foldedSetIterable iter X.env x=pure x:=by intro _;rfl):S1 prog w X (.For (.Name x px) iter body orelse pos) ρ σ K:=fun s I₀=>by
 refine wpAny_For (wpAny_mono (hi s I₀) (fun y s₁ q=>wpAny_mono q (fun u s₂ q=> ?_) fun _ _ f=>f) fun _ _ f=>f) hf
 obtain⟨I,rfl,hI⟩:=q
 refine codeAny_forLoop (fun m s=> ∃i ρ σ,i≤k∧m=k-i∧J i ρ σ∧Inv X ρ ((I,It I i)::σ) s) ?_ k ⟨0,ρ,σ,Nat.zero_le _,rfl,h0,hI⟩
 rintro m s₃ ⟨i,ρ₁,σ₁,hik,rfl,hJ,hI₃⟩
 by_cases hlt:i<k
 ·refine wpAny_mono (hn I i ρ₁ σ₁ hlt hJ ρ₁ s₃ hI₃) (fun r s₄ q=> ?_) fun _ _ f=>f.elim
  obtain⟨u,rfl,hv,hI₄⟩:=q
  have nd:=hI₄.nd
  rw[List.map_cons,List.nodup_cons] at nd
  obtain⟨ρ₂,σ₂,hst,hbody⟩:=hb I i ρ₁ σ₁ hlt hJ nd.1
  refine wpAny_assign_Name (wpAny_mono (hst u hv s₄ hI₄) (fun _ s₅ hI₅=> ?_) fun _ _ f=>f.elim)
  refine wpAny_mono (hbody s₅ hI₅) (fun fl s₆ q=> ?_) fun _ _ f=>f.elim
  obtain⟨f,ρ₃,σ₃,hK,hfr,hI₆⟩:=q
  cases hfr with
  | next=>obtain⟨σ₄,hJ',hs⟩:=hK;exact⟨k-(i+1),by omega,i+1,ρ₃,σ₄,hlt,rfl,hJ',hI₆.sub hs⟩
  | cont=>obtain⟨σ₄,hJ',hs⟩:=hK;exact⟨k-(i+1),by omega,i+1,ρ₃,σ₄,hlt,rfl,hJ',hI₆.sub hs⟩
  | brk=>exact⟨_,_,_,hK,.next,hI₆⟩
  | ret h=>exact⟨_,_,_,hK,.ret h,hI₆⟩
 ·have e:i=k:=by omega
  subst e
  refine wpAny_mono (hd I ρ₁ σ₁ hJ ρ₁ s₃ hI₃) (fun r s₄ q=> ?_) fun _ _ f=>f.elim
  obtain⟨rfl,hI₄⟩:=q
  exact wpAny_mono (he ρ₁ σ₁ hJ s₄ hI₄) (fun fl s' q=>q) fun _ _ f=>f.elim
end
end Mine
end
section
set_option maxRecDepth 100000
open PySem PySem.W PyProof.Rows PySem.Calls
namespace Mine
section
variable (prog:Program) (w:World)
noncomputable def VX (X:Cx) (t:Sem Value) (ρ:Ro) (σ:Led) (R:PV→Led→Prop):Prop:=Ev prog w X t ρ σ fun u s'=> ∃v σ',R v σ'∧VR v u∧Inv X ρ σ' s'
noncomputable def GE (X:Cx) (e:Expr) (ρ:Ro) (σ:Led) (R:PV→Led→Prop):Prop:=VX prog w X (eval e X.env) ρ σ R
noncomputable def AG (X:Cx) (es:List Expr) (pos:Pos) (ρ:Ro) (σ:Led) (R:List PV→Led→Prop):Prop:=
 ∀f:Value,Ev prog w X (evalArgs f true (backTo pos (starEach es X.env)) []) ρ σ fun a s'=> ∃us vs σ',a=⟨us,[]⟩∧R vs σ'∧VRs vs us∧Inv X ρ σ' s'
end
section
variable {prog:Program}{w:World}{X:Cx}{ρ ρ':Ro}{σ σ':Led}{T:Tops}{n:Nat}{R R':PV→Led→Prop}
theorem VX.mono {t:Sem Value}(h:VX prog w X t ρ σ R) (k: ∀v σ',R v σ'→R' v σ'):VX prog w X t ρ σ R':=fun s I=>wpAny_mono (h s I) (fun u s' q=>by obtain⟨v,σ',r,z⟩:=q;exact⟨v,σ',k _ _ r,z⟩) fun _ _ f=>f
theorem vx_of_pe {t:Sem Value}{v:PV}(h:PEt prog w X t ρ σ v):VX prog w X t ρ σ fun v' σ'=>v'=v∧σ'=σ:=fun s I=>wpAny_mono (h s I) (fun u s' q=>⟨v,σ,⟨rfl,rfl⟩,q⟩) fun _ _ f=>f
theorem ge_of_pe {e:Expr}{v:PV}(h:PE prog w X e ρ σ v):GE prog w X e ρ σ fun v' σ'=>v'=v∧σ'=σ:=vx_of_pe h
theorem vx_of_ne {t:Sem Value}{P:Obj→Prop}(h:NEt prog w X t ρ σ P):VX prog w X t ρ σ fun v' σ'=> ∃a,v'= .ref a∧σ'=(a,P)::σ:=fun s I=>wpAny_mono (h s I) (fun u s' q=>by
 obtain⟨a,rfl,I'⟩:=q;exact⟨.ref a,_,⟨a,rfl,rfl⟩,.ref a,I'⟩) fun _ _ f=>f
theorem ge_of_ne {e:Expr}{P:Obj→Prop}(h:NE prog w X e ρ σ P):GE prog w X e ρ σ fun v' σ'=> ∃a,v'= .ref a∧σ'=(a,P)::σ:=vx_of_ne h
theorem pet_of_vx {t:Sem Value}{v:PV}(h:VX prog w X t ρ σ R) (k: ∀v' σ',R v' σ'→v'=v∧σ.Sublist σ'):PEt prog w X t ρ σ v:=fun s I=>wpAny_mono (h s I) (fun u s' q=>by
 obtain⟨v',σ',r,z,I'⟩:=q
 obtain⟨rfl,hs⟩:=k _ _ r
 exact⟨z,I'.sub hs⟩) fun _ _ f=>f
theorem pe_of_ge {e:Expr}{v:PV}(h:GE prog w X e ρ σ R) (k: ∀v' σ',R v' σ'→v'=v∧σ.Sublist σ'):PE prog w X e ρ σ v:=pet_of_vx h k
theorem net_of_vx {t:Sem Value}{P:Obj→Prop}(h:VX prog w X t ρ σ R) (k: ∀v' σ',R v' σ'→ ∃a,v'= .ref a∧((a,P)::σ).Sublist σ'):NEt prog w X t ρ σ P:=fun s I=>wpAny_mono (h s I) (fun u s' q=>by
 obtain⟨v',σ',r,z,I'⟩:=q
 obtain⟨a,rfl,hs⟩:=k _ _ r
 cases z
 exact⟨a,rfl,I'.sub hs⟩) fun _ _ f=>f
theorem ag_of_ae {es:List Expr}{pos:Pos}{vs:List PV}(h:AE prog w X es pos ρ σ vs):AG prog w X es pos ρ σ fun vs' σ'=>vs'=vs∧σ'=σ:=fun f s I=>wpAny_mono (h f s I) (fun a s' q=>by
 obtain⟨us,rfl,hv,I'⟩:=q;exact⟨us,vs,σ,rfl,⟨rfl,rfl⟩,hv,I'⟩) fun _ _ f=>f
theorem ag1 {e:Expr}{pos:Pos}(h:GE prog w X e ρ σ R) (he:starEach [e] X.env=[(false,eval e X.env)]:=by rfl):AG prog w X [e] pos ρ σ fun vs σ'=> ∃v,vs=[v]∧R v σ':=fun f s I=>by
 rw[he]
 show wpAny _ _ (evalArgs f true [(false,eval e X.env)] []) _ _ s
 refine evalArgs_plain (spliced_cons (wpAny_mono (h s I) (fun u s₁ q=>(spliced_nil ?_)) fun _ _ f=>f))
 obtain⟨v,σ',r,z,I'⟩:=q
 exact⟨[u],[v],σ',rfl,⟨v,rfl,r⟩,.cons z .nil,I'⟩
theorem ev_call_b {Q:Value→Shared→Prop}{RA:List PV→Led→Prop}{x:Str}{p pos:Pos}{args:List Expr}{id:String}(hf:XE prog w X (.Name x p) ρ σ (.builtin id)) (ha:AG prog w X args pos ρ σ RA)
  (hc: ∀vs σ',RA vs σ'→ ∀us,VRs vs us→Ev prog w X (call (.builtin id) us) ρ σ' Q) (hp:(backTo pos (starEach args X.env)).any (·.1)=false:=by rfl):Ev prog w X (eval (.Call (.Name x p) args [] pos) X.env) ρ σ Q:=fun s I=>
 PyProof.Rows.Call_ (wpAny_mono (hf s I) (fun f s₁ q=>by
  obtain⟨rfl,I₁⟩:=q
  refine callWith_builtin hp (wpAny_mono (ha _ s₁ I₁) (fun a s₂ q=> ?_) fun _ _ f=>f)
  obtain⟨us,vs,σ',rfl,r,hv,I₂⟩:=q
  exact hc vs σ' r us hv s₂ I₂) fun _ _ f=>f) rfl
theorem ev_call_t {Q:Value→Shared→Prop}{RA:List PV→Led→Prop}{x:Str}{p pos:Pos}{args:List Expr}{t:String}(hf:XE prog w X (.Name x p) ρ σ (.type t)) (ha:AG prog w X args pos ρ σ RA)
  (hc: ∀vs σ',RA vs σ'→ ∀us,VRs vs us→Ev prog w X (call (.type t) us) ρ σ' Q) (hp:(backTo pos (starEach args X.env)).any (·.1)=false:=by rfl):Ev prog w X (eval (.Call (.Name x p) args [] pos) X.env) ρ σ Q:=fun s I=>
 PyProof.Rows.Call_ (wpAny_mono (hf s I) (fun f s₁ q=>by
  obtain⟨rfl,I₁⟩:=q
  refine PyProof.Rows.callWith_type hp (wpAny_mono (ha _ s₁ I₁) (fun a s₂ q=> ?_) fun _ _ f=>f)
  obtain⟨us,vs,σ',rfl,r,hv,I₂⟩:=q
  exact hc vs σ' r us hv s₂ I₂) fun _ _ f=>f) rfl
theorem ev_meth {Q:Value→Shared→Prop}{o:Expr}{name:Str}{apos pos:Pos}{args:List Expr}{pl:Sem Bool}{id:String}(ho:GE prog w X o ρ σ R)
  (hm: ∀v σ',R v σ'→(∀(u:Value) (s:Shared) (Q:Value×List Value→Shared→Prop),VR v u→Inv X ρ σ' s→Q (.builtin id,[u]) s→wpAny (model prog w) X.A (getMethod u name pl) Q (fun _ _=>False) s)∧
   ∃RA:List PV→Led→Prop,AG prog w X args pos ρ σ' RA∧ ∀vs σ₂,RA vs σ₂→ ∀u us,VR v u→VRs vs us→Ev prog w X (call (.builtin id) (u::us)) ρ σ₂ Q)
  (heq:eval ((o.Attribute name apos).Call args [] pos) X.env=(do let ov ←eval o X.env;standAt apos.atName;let fx ←holding [ov] (getMethod ov name pl);match fx with | (f,first)=>callWith pos f first (backTo pos (starEach args X.env)) []):=by rfl)
  (hp:(backTo pos (starEach args X.env)).any (·.1)=false:=by rfl):Ev prog w X (eval (.Call (.Attribute o name apos) args [] pos) X.env) ρ σ Q:=fun s I=>
 MethodCall_ (pl:=pl) (wpAny_mono (ho s I) (fun u s₁ q=>by
  obtain⟨v,σ',r,hv,I₁⟩:=q
  obtain⟨h1,RA,ha,hc⟩:=hm v σ' r
  refine h1 u s₁ _ hv I₁ (callWith_builtin hp (wpAny_mono (ha _ s₁ I₁) (fun b s₂ q'=> ?_) fun _ _ f=>f))
  obtain⟨us,vs,σ₂,rfl,r₂,hvs,I₂⟩:=q'
  exact hc vs σ₂ r₂ u us hv hvs s₂ I₂) fun _ _ f=>f) heq
end
structure Seqs (prog:Program) (w:World) (k:Nat) (xs:Nat→PV) (It:Addr→Nat→Obj→Prop) (S:Led→Prop):Prop where
 nx: ∀X I i σ,X.A.handled=none→i<k→S σ→Nx prog w X I (It I i) (It I (i+1)) (xs i) σ
 nd: ∀X I σ,X.A.handled=none→S σ→Nx0 prog w X I (It I k) σ
 self: ∀X I i ρ σ (s:Shared) (Q:Value→Shared→Prop) (E:Value→Shared→Prop),S σ→Inv X ρ ((I,It I i)::σ) s→Q (.ref I) s→wpAny (model prog w) X.A (pyIter (.ref I)) Q E s
noncomputable def isL (ps:List PV):Obj→Prop:=fun o=> ∃vs n,VRs ps vs∧o={cls:=.type "list",data:=.seq vs.toArray n}
noncomputable def isT (ps:List PV):Obj→Prop:=fun o=> ∃vs n,VRs ps vs∧o={cls:=.type "tuple",data:=.seq vs.toArray n}
noncomputable def At (X:Cx) (σ:Led) (a:Addr) (P:Obj→Prop):Prop:=(a,P)∈σ∨ ∃o,X.g.get? a=some o∧P o
section
variable {prog:Program}{w:World}{X:Cx}{ρ ρ':Ro}{σ σ':Led}{T:Tops}{n:Nat}{R R':PV→Led→Prop}
theorem At.obj {a:Addr}{P:Obj→Prop}{s:Shared}(h:At X σ a P) (I:Inv X ρ σ s): ∃o,s.heap.get? a=some o∧P o:=by
 rcases h with h | ⟨o,ho,p⟩
 ·exact I.obj h
 ·exact⟨o,I.keep ho,p⟩
theorem At.sub {a:Addr}{P:Obj→Prop}(h:At X σ a P) (hs:σ.Sublist σ'):At X σ' a P:=h.imp (fun h=>hs.mem h) id
theorem VRs.getE {ps:List PV}{vs:List Value}(h:VRs ps vs) {i:Nat}{p:PV}(e:ps[i]? =some p): ∃v,vs.toArray[i]? =some v∧VR p v:=by
 obtain⟨v,hv,r⟩:=h.get i p e
 exact⟨v,by simpa using hv,r⟩
theorem isL.list {ps:List PV}{o:Obj}{h:Heap}{a:Addr}(x:isL ps o) (e:h.get? a=some o): ∃vs,VRs ps vs∧h.IsList a vs.toArray:=by
 obtain⟨vs,n,r,rfl⟩:=x
 exact⟨vs,r,_,e,rfl,n,rfl⟩
theorem isT.tuple {ps:List PV}{o:Obj}{h:Heap}{a:Addr}(x:isT ps o) (e:h.get? a=some o): ∃vs,VRs ps vs∧h.IsTuple a vs.toArray:=by
 obtain⟨vs,n,r,rfl⟩:=x
 exact⟨vs,r,_,e,rfl,n,rfl⟩
noncomputable def rgI (a b:Int):Addr→Nat→Obj→Prop:=fun _ i o=>o={cls:=.type "range_iterator",dict:=none,data:=.fields #[rawInt (a+i),rawInt (Builtin.Range.rangeSize a b 1-i),rawInt 1],slots:= #[]}
theorem seqs_range {a b:Int}{k:Nat}(hk:Builtin.Range.rangeSize a b 1=k):Seqs prog w k (fun i=>.int (a+i)) (rgI a b) (fun _=>True) where
 nx X I i σ hh hi _ ρ s Is:=by
  obtain⟨o,ho,rfl⟩:=Is.obj (.head _)
  refine wpAny_pyNext_range_item (x:=a+i) (left:=Builtin.Range.rangeSize a b 1-i) (step:=1) ho (by rw[hk];omega) fun h' hi' hs'=>⟨_,rfl,.int _ _,?_⟩
  have e1:a+((i+1:Nat):Int)=a+i+1:=by omega
  have e2:Builtin.Range.rangeSize a b 1-((i+1:Nat):Int)=Builtin.Range.rangeSize a b 1-i-1:=by omega
  exact Is.turn .here hs' hi' (by rw[rgI,e1,e2])
 nd X I σ hh _ ρ s Is:=by
  obtain⟨o,ho,rfl⟩:=Is.obj (.head _)
  exact wpAny_pyNext_range_end hh (x:=a+k) (left:=Builtin.Range.rangeSize a b 1-k) (step:=1) ho (by rw[hk];omega) fun h' hs'=>⟨rfl,Is.done hs'⟩
 self X I i ρ σ s Q E _ Is hQ:=by
  obtain⟨o,ho,rfl⟩:=Is.obj (.head _)
  exact wpAny_pyIter_rangeiter (x:=a+i) (left:=Builtin.Range.rangeSize a b 1-i) (step:=1) ho hQ
noncomputable def rdI (a b:Int):Addr→Nat→Obj→Prop:=fun _ i o=>o={cls:=.type "range_iterator",dict:=none,data:=.fields #[rawInt (a-i),rawInt (Builtin.Range.rangeSize a b (-1)-i),rawInt (-1)],slots:= #[]}
theorem seqs_down {a b:Int}{k:Nat}(hk:Builtin.Range.rangeSize a b (-1)=k):Seqs prog w k (fun i=>.int (a-i)) (rdI a b) (fun _=>True) where
 nx X I i σ hh hi _ ρ s Is:=by
  obtain⟨o,ho,rfl⟩:=Is.obj (.head _)
  refine wpAny_pyNext_range_item (x:=a-i) (left:=Builtin.Range.rangeSize a b (-1)-i) (step:= -1) ho (by rw[hk];omega) fun h' hi' hs'=>⟨_,rfl,.int _ _,?_⟩
  have e1:a-((i+1:Nat):Int)=a-i+ -1:=by omega
  have e2:Builtin.Range.rangeSize a b (-1)-((i+1:Nat):Int)=Builtin.Range.rangeSize a b (-1)-i-1:=by omega
  exact Is.turn .here hs' hi' (by rw[rdI,e1,e2])
 nd X I σ hh _ ρ s Is:=by
  obtain⟨o,ho,rfl⟩:=Is.obj (.head _)
  exact wpAny_pyNext_range_end hh (x:=a-k) (left:=Builtin.Range.rangeSize a b (-1)-k) (step:= -1) ho (by rw[hk];omega) fun h' hs'=>⟨rfl,Is.done hs'⟩
 self X I i ρ σ s Q E _ Is hQ:=by
  obtain⟨o,ho,rfl⟩:=Is.obj (.head _)
  exact wpAny_pyIter_rangeiter (x:=a-i) (left:=Builtin.Range.rangeSize a b (-1)-i) (step:= -1) ho hQ
noncomputable def liI (ax:Addr):Addr→Nat→Obj→Prop:=fun _ i o=>o.cls= .type "list_iterator"∧o.data= .fields #[.ref ax,.int i 0]
theorem seqs_list {ax:Addr}{ps:List PV}{S:Led→Prop}(hS: ∀σ,S σ→(ax,isL ps)∈σ):Seqs prog w ps.length (fun i=>ps.getD i .none) (liI ax) S where
 nx X I i σ hh hi hs ρ s Is:=by
  obtain⟨o,ho,po⟩:=Is.obj (.head _)
  obtain⟨ol,hol,pl⟩:=Is.obj (.tail _ (hS σ hs))
  obtain⟨vs,hv,il⟩:=pl.list hol
  obtain⟨u,hu,r⟩:=hv.getE (i:=i) (p:=ps.getD i .none) (by rw[List.getD_eq_getElem?_getD,List.getElem?_eq_getElem hi];rfl)
  exact wpAny_pyNext_list_item ⟨_,ho,po.1,po.2⟩ il hu fun h' hi' hs'=>by
   obtain⟨o',ho',hc,hd⟩:=hi'
   refine⟨_,rfl,r,Is.turn (o':=o') .here hs' ho' ?_⟩
   exact⟨hc,hd⟩
 nd X I σ hh hs ρ s Is:=by
  obtain⟨o,ho,po⟩:=Is.obj (.head _)
  obtain⟨ol,hol,pl⟩:=Is.obj (.tail _ (hS σ hs))
  obtain⟨vs,hv,il⟩:=pl.list hol
  exact wpAny_pyNext_list_end hh ⟨_,ho,po.1,po.2⟩ il (by rw[hv.length];simp) fun h' hs'=>⟨rfl,Is.done hs'⟩
 self X I i ρ σ s Q E _ Is hQ:=by
  obtain⟨o,ho,po⟩:=Is.obj (.head _)
  exact wpAny_pyIter_listiter ⟨_,ho,po.1,po.2⟩ hQ
noncomputable def stI (l:List Nat):Addr→Nat→Obj→Prop:=fun _ i o=> ∃t,o.cls= .type (if l.all (· <128) then "str_ascii_iterator" else "str_iterator")∧o.data= .fields #[.str (mk l) t,.int i 0]
theorem seqs_str {l:List Nat}:Seqs prog w l.length (fun i=>.str [l.getD i 0]) (stI l) (fun _=>True) where
 nx X I i σ hh hi hs ρ s Is:=by
  obtain⟨o,ho,t,hc,hd⟩:=Is.obj (.head _)
  have e:(mk l).cps[i]? =some (l.getD i 0):=by rw[List.getD_eq_getElem?_getD,List.getElem?_eq_getElem hi];simp[hi]
  by_cases ha:l.all (· <128)
  ·rw[if_pos ha] at hc
   refine wpAny_pyNext_ascii_item ⟨_,ho,hc,hd⟩ e fun h' hi' hs'=> ?_
   obtain⟨o',ho',hc',hd'⟩:=hi'
   exact⟨_,rfl,.str _ _,Is.turn (o':=o') .here hs' ho' ⟨t,by rw[if_pos ha];exact hc',hd'⟩⟩
  ·rw[if_neg ha] at hc
   refine wpAny_pyNext_wide_item ⟨_,ho,hc,hd⟩ e fun h' hi' hs'=> ?_
   obtain⟨o',ho',hc',hd'⟩:=hi'
   exact⟨_,rfl,.str _ _,Is.turn (o':=o') .here hs' ho' ⟨t,by rw[if_neg ha];exact hc',hd'⟩⟩
 nd X I σ hh hs ρ s Is:=by
  obtain⟨o,ho,t,hc,hd⟩:=Is.obj (.head _)
  have e:(mk l).cps[l.length]? =none:=by simp
  by_cases ha:l.all (· <128)
  ·rw[if_pos ha] at hc
   exact wpAny_pyNext_ascii_end hh ⟨_,ho,hc,hd⟩ e fun h' hs'=>⟨rfl,Is.done hs'⟩
  ·rw[if_neg ha] at hc
   exact wpAny_pyNext_wide_end hh ⟨_,ho,hc,hd⟩ e fun h' hs'=>⟨rfl,Is.done hs'⟩
 self X I i ρ σ s Q E _ Is hQ:=by
  obtain⟨o,ho,t,hc,hd⟩:=Is.obj (.head _)
  by_cases ha:l.all (· <128)
  ·rw[if_pos ha] at hc
   exact wpAny_pyIter_striter_ascii ⟨_,ho,hc,hd⟩ hQ
  ·rw[if_neg ha] at hc
   exact wpAny_pyIter_striter_wide ⟨_,ho,hc,hd⟩ hQ
noncomputable def byI (l:List UInt8):Addr→Nat→Obj→Prop:=fun _ i o=> ∃t,o.cls= .type "bytes_iterator"∧o.data= .fields #[.bytes l.toArray t,.int i 0]
theorem seqs_bytes {l:List UInt8}:Seqs prog w l.length (fun i=>.int (l.getD i 0).toNat) (byI l) (fun _=>True) where
 nx X I i σ hh hi hs ρ s Is:=by
  obtain⟨o,ho,t,hc,hd⟩:=Is.obj (.head _)
  have e:l.toArray[i]? =some (l.getD i 0):=by rw[List.getD_eq_getElem?_getD,List.getElem?_eq_getElem hi];simp[hi]
  refine KBw.next_item (b:=l.toArray) (t:=t) ⟨_,ho,hc,hd⟩ e fun h' hi' hs'=> ?_
  obtain⟨o',ho',hc',hd'⟩:=hi'
  exact⟨_,rfl,.int _ _,Is.turn (o':=o') .here hs' ho' ⟨t,hc',hd'⟩⟩
 nd X I σ hh hs ρ s Is:=by
  obtain⟨o,ho,t,hc,hd⟩:=Is.obj (.head _)
  exact KBw.next_end (b:=l.toArray) (t:=t) hh ⟨_,ho,hc,hd⟩ (by simp) fun h' hs'=>⟨rfl,Is.done hs'⟩
 self X I i ρ σ s Q E _ Is hQ:=by
  obtain⟨o,ho,t,hc,hd⟩:=Is.obj (.head _)
  exact KBw.pyIter_self (b:=l.toArray) (t:=t) ⟨_,ho,hc,hd⟩ hQ
theorem it_str {e:Expr}{l:List Nat}(h:PE prog w X e ρ σ (.str l)):ItE prog w X e ρ σ (fun I=>stI l I 0):=fun s I=>wpAny_mono (h s I) (fun u s' q=>by
 obtain⟨hv,I'⟩:=q
 cases hv
 by_cases ha:l.all (· <128)
 ·refine wpAny_pyIter_ascii (by simpa using ha) ⟨_,rfl,I'.push ⟨_,by rw[if_pos ha],rfl⟩ rfl⟩
 ·refine wpAny_pyIter_wide (by simpa using ha) ⟨_,rfl,I'.push ⟨_,by rw[if_neg ha],rfl⟩ rfl⟩) fun _ _ f=>f
theorem it_bytes {e:Expr}{l:List UInt8}(h:PE prog w X e ρ σ (.bytes l)):ItE prog w X e ρ σ (fun I=>byI l I 0):=fun s I=>wpAny_mono (h s I) (fun u s' q=>by
 obtain⟨hv,I'⟩:=q
 cases hv
 exact KBw.pyIter_bytes ⟨_,rfl,I'.push ⟨_,rfl,rfl⟩ rfl⟩) fun _ _ f=>f
theorem it_list {e:Expr}{ax:Addr}{ps:List PV}(h:PE prog w X e ρ σ (.ref ax)) (hm:(ax,isL ps)∈σ):ItE prog w X e ρ σ (fun I=>liI ax I 0):=fun s I=>wpAny_mono (h s I) (fun u s' q=>by
 obtain⟨hv,I'⟩:=q
 cases hv
 obtain⟨ol,hol,pl⟩:=I'.obj hm
 obtain⟨vs,hv,il⟩:=pl.list hol
 exact wpAny_pyIter_list il ⟨_,rfl,I'.push ⟨rfl,rfl⟩ rfl⟩) fun _ _ f=>f
theorem it_range1 {x:Str}{p pos:Pos}{e:Expr}{b:Int}(hf:XE prog w X (.Name x p) ρ σ (.type "range")) (h:PE prog w X e ρ σ (.int b)) (hs:Builtin.Range.small 0 b 1=true) (he:starEach [e] X.env=[(false,eval e X.env)]:=by rfl):
  ItE prog w X (.Call (.Name x p) [e] [] pos) ρ σ (fun I=>rgI 0 b I 0):=
 ev_call_t hf (ag_of_ae (ae1 h he)) (fun vs σ' r us hv s I=>by
  obtain⟨rfl,rfl⟩:=r
  obtain⟨u,rfl,hu⟩:=hv.one
  cases hu
  refine call_range_1 (wpAny_pyIter_range (a:=0) (c:=1) (Heap.get?_push_size _ rfl) hs ⟨_,rfl,?_⟩)
  refine((I.push (P:=fun _=>True) trivial rfl (o:={cls:=.type "range",data:=.fields #[.int 0 s.toks,.int b _,.int 1 (s.toks+1)]}) (tk:=s.toks+1+1)).push (P:=rgI 0 b _ 0) (by show _ =_;simp) rfl).sub (.cons₂ _ (.cons _ (.refl _)))) (by rw[he];rfl)
theorem it_range2 {x:Str}{p pos:Pos}{e f:Expr}{a b:Int}(hf:XE prog w X (.Name x p) ρ σ (.type "range")) (h:PE prog w X e ρ σ (.int a)) (h2:PE prog w X f ρ σ (.int b)) (hs:Builtin.Range.small a b 1=true)
  (he:starEach [e,f] X.env=[(false,eval e X.env),(false,eval f X.env)]:=by rfl):
  ItE prog w X (.Call (.Name x p) [e,f] [] pos) ρ σ (fun I=>rgI a b I 0):=
 ev_call_t hf (ag_of_ae (ae2 h h2 he)) (fun vs σ' r us hv s I=>by
  obtain⟨rfl,rfl⟩:=r
  obtain⟨u,v,rfl,hu,hv2⟩:=hv.two
  cases hu;cases hv2
  refine call_range_2 ?_
  refine wpAny_pyIter_range (a:=a) (b:=b) (c:=1) (Heap.get?_push_size _ rfl) hs ?_
  refine⟨_,rfl,?_⟩
  refine((I.push (P:=fun _=>True) trivial rfl (o:={cls:=.type "range",data:=.fields #[.int a _,.int b _,.int 1 s.toks]}) (tk:=s.toks+1)).push (P:=rgI a b _ 0) (by show _ =_;simp) rfl).sub (.cons₂ _ (.cons _ (.refl _)))) (by rw[he];rfl)
theorem it_down {x:Str}{p pos:Pos}{e f g:Expr}{a b:Int}(hf:XE prog w X (.Name x p) ρ σ (.type "range")) (h:PE prog w X e ρ σ (.int a)) (h2:PE prog w X f ρ σ (.int b)) (h3:PE prog w X g ρ σ (.int (-1)))
  (hs:Builtin.Range.small a b (-1)=true) (hp:Builtin.divisionGoesByPylong (b-a) (-1)=false)
  (he:starEach [e,f,g] X.env=[(false,eval e X.env),(false,eval f X.env),(false,eval g X.env)]:=by rfl):
  ItE prog w X (.Call (.Name x p) [e,f,g] [] pos) ρ σ (fun I=>rdI a b I 0):=
 ev_call_t hf (ag_of_ae (ae3 h h2 h3 he)) (fun vs σ' r us hv s I=>by
  obtain⟨rfl,rfl⟩:=r
  obtain⟨u,v,z,rfl,hu,hv2,hz⟩:=hv.three
  cases hu;cases hv2;cases hz
  refine call_range_3 (by decide) ?_ (.inl hp)
  refine wpAny_pyIter_range (a:=a) (b:=b) (c:= -1) (Heap.get?_push_size _ rfl) hs ?_
  refine⟨_,rfl,?_⟩
  refine((I.push (P:=fun _=>True) trivial rfl (o:={cls:=.type "range",data:=.fields #[.int a _,.int b _,.int (-1) _]}) (tk:=s.toks)).push (P:=rdI a b _ 0) (by show _ =_;simp) rfl).sub (.cons₂ _ (.cons _ (.refl _)))) (by rw[he];rfl)
end
end Mine
end
section
set_option maxRecDepth 100000
open PySem PySem.W PyProof.Rows PySem.Calls
namespace Mine
noncomputable def Cx.comp (X:Cx) (scope:Scope) (cl:List (Str×Addr)) (C:Addr) (x:Str):Cx:={X with env:=compEnvC scope cl C X.env,L:=C,ks:=[x]}
noncomputable def testsOf (ifs:List Expr) (env:Env):Sem Bool:=forIn ifs true fun c r=>if r=true then do
  let ok ←PySem.isTrue c env (eval c env)
  pure (ForInStep.yield ok)
 else pure (ForInStep.yield r)
section
variable {prog:Program}{w:World}{X:Cx}{ρ ρ':Ro}{σ σ':Led}{T:Tops}{n:Nat}{R R':PV→Led→Prop}
theorem XOK.comp (O:XOK T n X) {scope:Scope}(hkind:scope.kind= .function) {cl:List (Str×Addr)}{C:Addr}{x:Str}:XOK T n (X.comp scope cl C x):=
 ⟨O.above,O.call,O.lim,O.top,O.gm,O.bm,O.dep,O.un,O.hh,hkind,O.gl,O.bl⟩
theorem Lay.comp {scope:Scope}(hkind:scope.kind= .function) {cl:List (Str×Addr)}{C:Addr}{x:Str}(hx:scope.names.lookup x=some .local) (hd:(x==("__debug__":Str))=false:=by decide):Lay (X.comp scope cl C x) where
 fn:=hkind
 loc:=rfl
 ks y hy:=by
  have e:y=x:=by simpa [Cx.comp] using hy
  subst e
  exact⟨lookup_relabel_local hx,hd⟩
theorem Inv.to {Y:Cx}{s:Shared}(I:Inv X ρ σ s) (hL:Y.L=X.L) (hg:Y.g=X.g) (hk:Y.ks=X.ks) (ho:Y.os=X.os):Inv Y ρ σ s:=by
 obtain⟨st,nd,ks,kn,ge,os⟩:=I
 exact⟨by rw[hL,hg];exact st,nd,by rw[hk];exact ks,by rw[hk];exact kn,ge,by rw[ho];exact os⟩
theorem Inv.isNs {s:Shared}(I:Inv X ρ σ s) {C:Addr}{ρ':Ro}(h:(C,Mine.isNs ρ')∈σ): ∃m,s.heap.Ns C m:=by
 obtain⟨o,ho,m,r,hm⟩:=I.obj h
 exact⟨m,hm.ns ho⟩
noncomputable def CompStep (prog:Program) (w:World) (X':Cx) (ifs:List Expr) (elt:Expr) (ρ':Ro) (σ':Led) (skip:Prop) (put:PV→Led→Prop):Prop:=
 ∃b,Ev prog w X' (testsOf ifs X'.env) ρ' σ' (fun ok s=>ok=b∧Inv X' ρ' σ' s)∧(b=false→skip)∧(b=true→GE prog w X' elt ρ' σ' put)
theorem ev_tests0:Ev prog w X (testsOf [] X.env) ρ σ (fun ok s=>ok=true∧Inv X ρ σ s):=fun s I=>wpAny_tests_nil ⟨rfl,I⟩
theorem ev_tests1 {e:Expr}{b:Bool}(h:BE prog w X e ρ σ b):Ev prog w X (testsOf [e] X.env) ρ σ (fun ok s=>ok=b∧Inv X ρ σ s):=fun s I=>by
 unfold testsOf
 rw[List.forIn_cons]
 simp only[if_true]
 refine wpAny_bind (wpAny_bind (wpAny_mono (h s I) (fun c s' q=> ?_) fun _ _ f=>f))
 refine wpAny_pure ?_
 dsimp only
 rw[List.forIn_nil]
 exact wpAny_pure q
theorem comp_core {elt iter:Expr}{x:Str}{px pos spos:Pos}{ifs:List Expr}{scope:Scope}{cl:List (Str×Addr)}{use:Option (Value→Sem Unit)}{Q:Value→Shared→Prop}{s:Shared}
  {k:Nat}{xs:Nat→PV}{It:Addr→Nat→Obj→Prop}{S:Led→Prop}(Sq:Seqs prog w k xs It S) (J:Nat→List PV→Led→Prop) (hFL:X.FL=X.L) (hh:X.A.handled=none)
  (hclos:closureFor scope X.env=pure cl) (hcell: ∀y∈scope.names,y.2≠ .cell) (hkind:scope.kind= .function)
  (hnames: ∀y∈scope.names,y.2= .local→scope.names.lookup y.1=some .local) (hx:scope.names.lookup x=some .local)
  (hi:ItE prog w X iter ρ σ fun I=>It I 0) (h0:J 0 [] σ)
  (hS: ∀i D ys σi,J i ys σi→S ((D,isL ys)::(X.L,isNs ρ)::σi))
  (hl: ∀i ys σi,i≤k→J i ys σi→ys.length≤16777216)
  (hstep: ∀I C D i ys σi,i<k→J i ys σi→CompStep prog w (X.comp scope cl C x) ifs elt [(x,some (xs i))] ((I,It I (i+1))::(D,isL ys)::(X.L,isNs ρ)::σi) (J (i+1) ys σi)
   (fun v σ₂=> ∃σ₃,J (i+1) (ys++[v]) σ₃∧((I,It I (i+1))::(D,isL ys)::(X.L,isNs ρ)::σ₃).Sublist σ₂))
  (hQ: ∀a C ys ρ' σ' s',J k ys σ'→Inv X ρ ((C,isNs ρ')::(a,isL ys)::σ') s'→compPost (model prog w) X.A (fun _ _=>False) use Q (.ref a) C (.ok .next) s')
  (I₀:Inv X ρ σ s) (hs: ∀x,foldedSetIterable iter X.env x=pure x:=by intro _;rfl) (hdb:(x==("__debug__":Str))=false:=by decide):
  wpAny (model prog w) X.A (comprehension (.ListComp elt [⟨.Name x px,iter,ifs,0⟩] scope pos) scope X.env spos (newList []) false (eval iter X.env) use) Q (fun _ _=>False) s:=by
 refine wpAny_comprehension_free (use:=use) rfl hs hclos hkind hnames (wpAny_mono (hi s I₀) (fun y s₁ q=>wpAny_mono q (fun u s₂ q=> ?_) fun _ _ f=>f) fun _ _ f=>f)
 obtain⟨I,rfl,hI⟩:=q
 refine wpAny_newObj_type (wpAny_newFunctionEnv hcell (by intro y hy;simp at hy) (fun h₁ hns₁ hsb₁=> ?_) hkind)
 dsimp only at hns₁ hsb₁ ⊢
 have I₁:=hI.push (P:=isL []) (o:={cls:=.type "list",data:=.seq ([]:List Value).toArray}) ⟨[],0,.nil,rfl⟩ rfl (tk:=s₂.toks)
 have I₂:=I₁.push (P:=fun _=>True) (o:={cls:=.type "dict",data:=.dict #[]}) trivial rfl (tk:=s₂.toks)
 obtain⟨oC,hoC,hC⟩:=PyProof.Rows.LCg.ns_obj hns₁
 have I₃:=I₂.turn (σ':=(_,isNs [(x,none)])::_) (tk:=s₂.toks+([]:List (Str×Value)).length) .here hsb₁ hoC ⟨_,⟨fun p hp=>by rw[List.mem_singleton.mp hp];exact .none,fun _ _=>rfl⟩,hC⟩
 dsimp only at I₃ ⊢
 generalize hCe:(s₂.heap.push {cls:=.type "list",data:=.seq ([]:List Value).toArray}).objs.size=C at I₃ hns₁ hsb₁ hoC ⊢
 generalize s₂.heap.objs.size=D at I₃ ⊢
 have above:X.g.objs.size≤C:=by
  obtain⟨m,news,F,N,R,Dd⟩:=I₁.st
  exact Nat.le_trans F.above (Nat.le_of_lt (hCe ▸ F.ns.lt))
 let X':=X.comp scope cl C x
 have I₄:Inv X' [(x,none)] ((I,It I 0)::(D,isL [])::(X.L,isNs ρ)::σ) _:=
  ((I₃.swap above (by simp)).to (Y:=X') rfl rfl rfl rfl).perm (by
   refine(List.Perm.swap _ _ _).trans ?_
   refine(List.Perm.cons _ (List.Perm.swap _ _ _)).trans ?_
   exact List.Perm.swap _ _ _)
 have hS': ∀i ys σi,J i ys σi→S ((D,isL ys)::(X.L,isNs ρ)::σi):=fun i ys σi h=>hS i D ys σi h
 have Y:Lay X':=Lay.comp hkind hx hdb
 have ρn:(ρ.map (·.1)).Nodup:=by rw[I₀.ks];exact I₀.kn
 show codeAny _ _ _ (compPost _ _ _ _ _ (.ref D) C) _
 have key: ∀s',Inv X' [(x,none)] ((I,It I 0)::(D,isL [])::(X.L,isNs ρ)::σ) s'→codeAny (model prog w) X.A (.compLoop (.ListComp elt [⟨.Name x px,iter,ifs,0⟩] scope pos) 0 (.ref I) (.ref D) X'.env)
   (compPost (model prog w) X.A (fun _ _=>False) use Q (.ref D) C) s':=fun s' I'=>by
  refine codeAny_compLoop_tests (fun m s=> ∃i ys σi vo,i≤k∧m=k-i∧J i ys σi∧Inv X' [(x,vo)] ((I,It I i)::(D,isL ys)::(X.L,isNs ρ)::σi) s) ?_ k ⟨0,[],σ,none,Nat.zero_le _,rfl,h0,I'⟩
  rintro m s₅ ⟨i,ys,σi,vo,hik,rfl,hJ,hI₅⟩
  by_cases hlt:i<k
  ·refine wpAny_mono (Sq.nx X' I i _ hh hlt (hS' _ _ _ hJ) _ s₅ hI₅) (fun r s₆ q=> ?_) fun _ _ f=>f.elim
   obtain⟨u,rfl,hv,hI₆⟩:=q
   refine wpAny_assign_Name (wpAny_mono (store_local Y (.here (x:=x) (v:=some (xs i))) hv s₆ hI₆) (fun _ s₇ hI₇=> ?_) fun _ _ f=>f.elim)
   obtain⟨b,ht,hf,hg⟩:=hstep I C D i ys σi hlt hJ
   refine wpAny_mono (ht s₇ hI₇) (fun ok s₈ q=> ?_) fun _ _ f=>f.elim
   obtain⟨rfl,hI₈⟩:=q
   cases ok with
   | false=>exact⟨k-(i+1),by omega,i+1,ys,σi,_,hlt,rfl,hf rfl,hI₈⟩
   | true=>
    refine wpAny_mono (hg rfl s₈ hI₈) (fun y s₉ q=> ?_) fun _ _ f=>f.elim
    obtain⟨v,σ₂,⟨σ₃,hJ',hs₃⟩,hv',hI₉⟩:=q
    have hI₉:=hI₉.sub hs₃
    obtain⟨oD,hoD,vs,nn,hvs,rfl⟩:=hI₉.obj mI1
    refine append_at hoD (fun h' hsb hD=>⟨k-(i+1),by omega,i+1,ys++[v],σ₃,_,hlt,rfl,hJ',hI₉.turn (tk:=s₉.toks) (.there .here) hsb hD ⟨vs++[y],_,hvs.append (.cons hv' .nil),by rw[List.push_toArray]⟩⟩) ?_
    show vs.toArray.size≤sizeLine
    rw[List.size_toArray,←hvs.length]
    exact hl i ys σi hik hJ
  ·have e:i=k:=by omega
   subst e
   refine wpAny_mono (Sq.nd X' I _ hh (hS' _ _ _ hJ) _ s₅ hI₅) (fun r s₆ q=> ?_) fun _ _ f=>f.elim
   obtain⟨rfl,hI₆⟩:=q
   have ek:=I₀.ks
   have aboveL:X'.g.objs.size≤X.L:=by obtain⟨m,news,F,_⟩:=I₀.st;exact F.above
   have J₁:=((hI₆.perm (List.Perm.swap _ _ _)).swap aboveL ρn).to (Y:=X) rfl rfl (by show X.ks=ρ.map (·.1);rw[ek]) rfl
   exact hQ D C ys [(x,vo)] σi s₆ hJ J₁
 exact codeAny_compStart_list (key _ I₄) (Sq.self X' I 0 _ _ _ _ _ (hS' _ _ _ h0) I₄ (key _ I₄))
theorem ge_comp {elt iter:Expr}{x:Str}{px pos:Pos}{ifs:List Expr}{scope:Scope}{cl:List (Str×Addr)}
  {k:Nat}{xs:Nat→PV}{It:Addr→Nat→Obj→Prop}{S:Led→Prop}(Sq:Seqs prog w k xs It S) (J:Nat→List PV→Led→Prop) (hFL:X.FL=X.L) (hh:X.A.handled=none)
  (hclos:closureFor scope X.env=pure cl) (hcell: ∀y∈scope.names,y.2≠ .cell) (hkind:scope.kind= .function)
  (hnames: ∀y∈scope.names,y.2= .local→scope.names.lookup y.1=some .local) (hx:scope.names.lookup x=some .local)
  (hi:ItE prog w X iter ρ σ fun I=>It I 0) (h0:J 0 [] σ)
  (hS: ∀i D ys σi,J i ys σi→S ((D,isL ys)::(X.L,isNs ρ)::σi))
  (hl: ∀i ys σi,i≤k→J i ys σi→ys.length≤16777216)
  (hstep: ∀I C D i ys σi,i<k→J i ys σi→CompStep prog w (X.comp scope cl C x) ifs elt [(x,some (xs i))] ((I,It I (i+1))::(D,isL ys)::(X.L,isNs ρ)::σi) (J (i+1) ys σi)
   (fun v σ₂=> ∃σ₃,J (i+1) (ys++[v]) σ₃∧((I,It I (i+1))::(D,isL ys)::(X.L,isNs ρ)::σ₃).Sublist σ₂))
  (hs: ∀x,foldedSetIterable iter X.env x=pure x:=by intro _;rfl) (hdb:(x==("__debug__":Str))=false:=by decide):
  GE prog w X (.ListComp elt [⟨.Name x px,iter,ifs,0⟩] scope pos) ρ σ (fun v σ''=> ∃a ys σ',v= .ref a∧σ''=(a,isL ys)::σ'∧J k ys σ'):=fun s I=>by
 rw[eval_ListComp]
 show wpAny _ _ (comprehension (.ListComp elt [⟨.Name x px,iter,ifs,0⟩] scope pos) scope X.env iter.pos (newList []) false (eval iter X.env) none) _ _ s
 refine comp_core Sq J hFL hh hclos hcell hkind hnames hx hi h0 hS hl hstep (fun a C ys ρ' σ' s' hJ I'=> ?_) I hs hdb
 obtain⟨m,hm⟩:=I'.isNs (.head _)
 exact⟨m,hm,fun h' hsb=>⟨.ref a,_,⟨a,ys,σ',rfl,rfl,hJ⟩,.ref a,I'.done hsb.extBut (tk:=s'.toks)⟩⟩
theorem ne_comp {elt iter:Expr}{x:Str}{px pos:Pos}{scope:Scope}{cl:List (Str×Addr)}
  {k:Nat}{xs:Nat→PV}{It:Addr→Nat→Obj→Prop}{S:Led→Prop}(Sq:Seqs prog w k xs It S) (ys:Nat→PV) (hFL:X.FL=X.L) (hh:X.A.handled=none)
  (hclos:closureFor scope X.env=pure cl) (hcell: ∀y∈scope.names,y.2≠ .cell) (hkind:scope.kind= .function)
  (hnames: ∀y∈scope.names,y.2= .local→scope.names.lookup y.1=some .local) (hx:scope.names.lookup x=some .local)
  (hi:ItE prog w X iter ρ σ fun I=>It I 0)
  (hS: ∀D zs,S ((D,isL zs)::(X.L,isNs ρ)::σ)) (hl:k≤16777216)
  (hstep: ∀C σ₁ i,i<k→(∀p∈(X.L,isNs ρ)::σ,p∈σ₁)→PE prog w (X.comp scope cl C x) elt [(x,some (xs i))] σ₁ (ys i))
  (hs: ∀x,foldedSetIterable iter X.env x=pure x:=by intro _;rfl) (hdb:(x==("__debug__":Str))=false:=by decide):
  NE prog w X (.ListComp elt [⟨.Name x px,iter,[],0⟩] scope pos) ρ σ (isL ((List.range k).map ys)):=
 net_of_vx (ge_comp Sq (fun i zs σi=>zs=(List.range i).map ys∧σi=σ) hFL hh hclos hcell hkind hnames hx hi ⟨rfl,rfl⟩ (fun i D zs σi h=>by obtain⟨rfl,rfl⟩:=h;exact hS D _)
  (fun i zs σi hi h=>by obtain⟨rfl,rfl⟩:=h;simp;omega)
  (fun I C D i zs σi hik h=>by
   obtain⟨rfl,rfl⟩:=h
   refine⟨true,ev_tests0,nofun,fun _=> ?_⟩
   refine(ge_of_pe (hstep C _ i hik fun p hp=> ?_)).mono fun v σ' r=> ?_
   ·exact .tail _ (.tail _ hp)
   ·obtain⟨rfl,rfl⟩:=r
    exact⟨σi,⟨by rw[List.range_succ,List.map_append];rfl,rfl⟩,.refl _⟩) hs hdb)
  (fun v σ' r=>by obtain⟨a,zs,σ₂,rfl,rfl,rfl,rfl⟩:=r;exact⟨a,rfl,.refl _⟩)
end
end Mine
end
section
set_option maxRecDepth 100000
open PySem PySem.W PyProof.Rows PySem.Calls
namespace Mine
theorem VRs.drop {ps:List PV}{vs:List Value}(h:VRs ps vs): ∀k,VRs (ps.drop k) (vs.drop k):=by
 induction h with
 | nil=>intro k;simp;exact .nil
 | cons h r ih=>intro k;cases k with | zero=>exact .cons h r | succ k=>simpa using ih k
theorem VRs.take {ps:List PV}{vs:List Value}(h:VRs ps vs): ∀k,VRs (ps.take k) (vs.take k):=by
 induction h with
 | nil=>intro k;simp;exact .nil
 | cons h r ih=>intro k;cases k with | zero=>exact .nil | succ k=>simpa using .cons h (ih k)
theorem VRs.slice {ps:List PV}{vs:List Value}(h:VRs ps vs) (lo hi:Option Int): ∃us,slicePick vs.toArray lo hi none=us.toArray∧VRs (sl ps lo hi) us:=by
 rw[slicePick_plain]
 refine⟨_,rfl,?_⟩
 unfold sl
 have e:vs.toArray.size=ps.length:=by simp[h.length]
 rw[e]
 exact(h.drop _).take _
theorem VRs.set {ps:List PV}{vs:List Value}{p:PV}{v:Value}(h:VRs ps vs) (hv:VR p v): ∀k,VRs (ps.set k p) (vs.set k v):=by
 induction h with
 | nil=>intro k;simp;exact .nil
 | cons h r ih=>intro k;cases k with | zero=>exact .cons hv r | succ k=>exact .cons h (ih k)
theorem VRs.erase {ps:List PV}{vs:List Value}(h:VRs ps vs): ∀k,VRs (ps.eraseIdx k) (vs.eraseIdx k):=by
 induction h with
 | nil=>intro k;simp;exact .nil
 | cons h r ih=>intro k;cases k with | zero=>exact r | succ k=>exact .cons h (ih k)
noncomputable def itemL (ps:List PV) (i:Int):PV:=ps.getD (if i<0 then i+ps.length else i).toNat .none
section
variable {prog:Program}{w:World}{X:Cx}{ρ ρ' ρ₁:Ro}{σ σ' σ₁:Led}{T:Tops}{n:Nat}{R R':PV→Led→Prop}{K:PF→Ro→Led→Prop}
theorem Inv.ext {s:Shared}(I:Inv X ρ σ s) {h':Heap}{tk:Nat}(hk: ∀b o,s.heap.get? b=some o→h'.get? b=some o):Inv X ρ σ {s with heap:=h',toks:=tk}:=by
 obtain⟨m,news,F,N,R,D⟩:=I.st
 exact I.heap R D (F.keeps hk) (N.grown hk)
noncomputable def SpG (prog:Program) (w:World) (X:Cx) (t:List (Bool×Sem Value)) (ρ:Ro) (σ:Led) (R:List PV→Led→Prop):Prop:=Ev prog w X (spliced t) ρ σ fun us s'=> ∃vs σ',R vs σ'∧VRs vs us∧Inv X ρ σ' s'
theorem spg_nil:SpG prog w X [] ρ σ (fun vs σ'=>vs=[]∧σ'=σ):=fun s I=>spliced_nil ⟨_,_,⟨rfl,rfl⟩,.nil,I⟩
theorem spg_cons {t:Sem Value}{r:List (Bool×Sem Value)}{R₂:PV→Led→List PV→Led→Prop}(h:VX prog w X t ρ σ R) (hr: ∀v σ',R v σ'→SpG prog w X r ρ σ' (R₂ v σ')):
  SpG prog w X ((false,t)::r) ρ σ (fun vs σ''=> ∃v σ' r,vs=v::r∧R v σ'∧R₂ v σ' r σ''):=fun s I=>
 spliced_cons (wpAny_mono (h s I) (fun u s₁ q=>by
  obtain⟨v,σ',r,hv,I₁⟩:=q
  exact wpAny_mono (hr v σ' r s₁ I₁) (fun us s₂ q'=>by
   obtain⟨vs,σ₂,r₂,hvs,I₂⟩:=q'
   exact⟨v::vs,σ₂,⟨v,σ',vs,rfl,r,r₂⟩,.cons hv hvs,I₂⟩) fun _ _ f=>f) fun _ _ f=>f)
theorem spg_of_sp {t:List (Bool×Sem Value)}{vs:List PV}(h:SpE prog w X t ρ σ vs):SpG prog w X t ρ σ (fun vs' σ'=>vs'=vs∧σ'=σ):=fun s I=>wpAny_mono (h s I) (fun us s' q=>⟨_,_,⟨rfl,rfl⟩,q⟩) fun _ _ f=>f
theorem ge_list {elts:List Expr}{pos:Pos}{RL:List PV→Led→Prop}{t:List (Bool×Sem Value)}(he:backTo pos (starEach elts X.env)=t) (h:SpG prog w X t ρ σ RL) (hl: ∀vs σ',RL vs σ'→vs.length≤16777216):
  GE prog w X (.List elts pos) ρ σ (fun v σ''=> ∃a vs σ',v= .ref a∧σ''=(a,isL vs)::σ'∧RL vs σ'):=fun s I=>wpAny_List (by
 rw[he]
 refine wpAny_mono (h s I) (fun us s' q=> ?_) fun _ _ f=>f
 obtain⟨vs,σ',r,hv,I'⟩:=q
 refine⟨by rw[←hv.length,sizeLine_eq];exact hl _ _ r,.ref _,_,⟨_,vs,σ',rfl,rfl,r⟩,.ref _,I'.push ⟨us,0,hv,rfl⟩ rfl (tk:=s'.toks)⟩)
theorem ge_tuple {elts:List Expr}{k:Nat}{pos:Pos}{RL:List PV→Led→Prop}{t:List (Bool×Sem Value)}(he:backTo pos (starEach elts X.env)=t) (h:SpG prog w X t ρ σ RL) (hl: ∀vs σ',RL vs σ'→vs.length≤16777216):
  GE prog w X (.Tuple elts k pos) ρ σ (fun v σ''=> ∃a vs σ',v= .ref a∧σ''=(a,isT vs)::σ'∧RL vs σ'):=fun s I=>wpAny_Tuple (by
 rw[he]
 refine wpAny_mono (h s I) (fun us s' q=> ?_) fun _ _ f=>f
 obtain⟨vs,σ',r,hv,I'⟩:=q
 refine⟨by rw[←hv.length,sizeLine_eq];exact hl _ _ r,.ref _,_,⟨_,vs,σ',rfl,rfl,r⟩,.ref _,I'.push ⟨us,0,hv,rfl⟩ rfl (tk:=s'.toks)⟩)
theorem pe_itemL {v e:Expr}{pos:Pos}{a:Addr}{ps:List PV}{i:Int}{p:PV}(hv:PE prog w X v ρ σ (.ref a)) (hm:At X σ a (isL ps)) (he:PE prog w X e ρ σ (.int i)) (h0: -(ps.length:Int)≤i) (h1:i<ps.length) (hn:ps.length≤16777216) (hp:itemL ps i=p)
  (hs: ∀x y,subscripted e false x y=operate [x,y] (getItem x y):=by intro _ _;rfl) (ht: ∀x r,letTemporaryGo v (.ref x) r=pure ():=by intro _ _;rfl):PE prog w X (.Subscript v e pos) ρ σ p:=fun s I=>by
 refine PyProof.Rows.Subscript_ (wpAny_mono (hv s I) (fun x s₁ q=>wpAny_mono (he s₁ q.2) (fun y s₂ q'=> ?_) fun _ _ f=>f) fun _ _ f=>f)
 obtain⟨h1',I₁⟩:=q
 obtain⟨h2',I₂⟩:=q'
 cases h1';cases h2'
 obtain⟨o,ho,po⟩:=hm.obj I₂
 obtain⟨vs,hvs,il⟩:=po.list ho
 subst hp
 have hlen:=hvs.length
 by_cases hneg:i<0
 ·obtain⟨u,hu,r⟩:=hvs.getE (i:=(i+ps.length).toNat) (p:=itemL ps i) (by
   unfold itemL;rw[if_pos hneg,List.getD_eq_getElem?_getD,List.getElem?_eq_getElem (by omega)];rfl)
  refine subscriptTail_builtin il.typeIs slot_list_getitem.lookup (wpAny_getItem_list_neg il hneg (by simp;omega) (by omega) (x:=u) (by simpa [←hlen] using hu) ⟨r,I₂⟩) (hs _ _) (ht _)
 ·obtain⟨u,hu,r⟩:=hvs.getE (i:=i.toNat) (p:=itemL ps i) (by
   unfold itemL;rw[if_neg hneg,List.getD_eq_getElem?_getD,List.getElem?_eq_getElem (by omega)];rfl)
  exact PyProof.Rows.item_list il (by omega) (by omega) hu ⟨r,I₂⟩ (hs _ _) (ht _)
theorem ne_sliceL {v:Expr}{l u:Option Expr}{p pos:Pos}{a:Addr}{ps:List PV}{lo hi:Option Int}(hv:PE prog w X v ρ σ (.ref a)) (hm:At X σ a (isL ps)) (hl:PaE prog w X l ρ σ lo) (hu:PaE prog w X u ρ σ hi) (hn:ps.length≤16777216)
  (ht: ∀x r,letTemporaryGo v (.ref x) r=pure ():=by intro _ _;rfl):NE prog w X (.Subscript v (.Slice l u none p) pos) ρ σ (isL (sl ps lo hi)):=fun s I=>by
 refine PyProof.Rows.Subscript_ (wpAny_mono (hv s I) (fun x s₁ q=> ?_) fun _ _ f=>f)
 obtain⟨h1,I₁⟩:=q
 cases h1
 refine wpAny_Slice (wpAny_mono (hl s₁ I₁) (fun vl s₂ q=>wpAny_mono (hu s₂ q.2) (fun vu s₃ q'=> ?_) fun _ _ f=>f) fun _ _ f=>f)
 obtain⟨pl,I₂⟩:=q
 obtain⟨pu,I₃⟩:=q'
 rw[evalPart_none]
 refine wpAny_pure ?_
 obtain⟨o,ho,po⟩:=hm.obj I₃
 obtain⟨vs,hvs,il⟩:=po.list ho
 obtain⟨us,e,hus⟩:=hvs.slice lo hi
 refine slice_listK il pl pu ?_ rfl (ht _) (by rw[List.size_toArray,←hvs.length,sizeLine_eq];exact hn)
 rw[e]
 have J:=(I₃.push (P:=fun _=>True) (o:={cls:=.type "slice",data:=.fields #[vl,vu,.none]}) trivial rfl (tk:=s₃.toks)).push (P:=isL (sl ps lo hi)) (o:={cls:=.type "list",data:=.seq us.toArray}) ⟨us,0,hus,rfl⟩ rfl (tk:=s₃.toks)
 dsimp only at J
 rw[Heap.size_push] at J
 exact⟨_,rfl,J.sub (.cons₂ _ (.cons _ (.refl _)))⟩
theorem vx_addL {a b:Addr}{ps qs:List PV}(ha:At X σ a (isL ps)) (hb:At X σ b (isL qs)) (hn:ps.length+qs.length≤16777216) (u v:Value) (hu:VR (.ref a) u) (hv:VR (.ref b) v):
  NEt prog w X (binaryOp .Add u v) ρ σ (isL (ps++qs)):=fun s I=>by
 cases hu;cases hv
 obtain⟨o,ho,po⟩:=ha.obj I
 obtain⟨vs,hvs,il⟩:=po.list ho
 obtain⟨o2,ho2,po2⟩:=hb.obj I
 obtain⟨us,hus,il2⟩:=po2.list ho2
 obtain⟨m,news,F,N,R,D⟩:=I.st
 refine add_arrays F N il il2 (fun h' F' N'=>⟨_,rfl,⟨m,_,F',N',R,.cons ⟨vs++us,0,hvs.append hus,by simp⟩ D⟩,?_,I.ks,I.kn,I.gens,I.os⟩) (by rw[List.size_toArray,List.size_toArray,←hvs.length,←hus.length,sizeLine_eq];exact hn)
 exact(I.push (P:=isL []) (o:={cls:=.type "list",data:=.seq ([]:List Value).toArray}) ⟨[],0,.nil,rfl⟩ rfl (tk:=s.toks)).nd
theorem ge_bin {l r:Expr}{op:Operator}{pos:Pos}{R₂:PV→Led→PV→Led→Prop}{R₃:PV→Led→Prop}(hl:GE prog w X l ρ σ R) (hr: ∀v σ',R v σ'→GE prog w X r ρ σ' (R₂ v σ'))
  (h: ∀v σ' v₂ σ₂,R v σ'→R₂ v σ' v₂ σ₂→ ∀u u₂,VR v u→VR v₂ u₂→VX prog w X (binaryOp op u u₂) ρ σ₂ R₃):GE prog w X (.BinOp l op r pos) ρ σ R₃:=fun s I=>
 wpAny_BinOp (wpAny_mono (hl s I) (fun u s₁ q=>by
  obtain⟨v,σ',r,hv,I₁⟩:=q
  exact wpAny_mono (hr v σ' r s₁ I₁) (fun u₂ s₂ q=>by
   obtain⟨v₂,σ₂,r₂,hv₂,I₂⟩:=q
   exact h v σ' v₂ σ₂ r r₂ u u₂ hv hv₂ s₂ I₂) fun _ _ f=>f) fun _ _ f=>f)
theorem ge_addL {l r:Expr}{pos:Pos}{a b:Addr}{ps qs:List PV}(hl:GE prog w X l ρ σ (fun v σ'=> ∃a,v= .ref a∧σ'=(a,isL ps)::σ))
  (hr: ∀a,GE prog w X r ρ ((a,isL ps)::σ) (fun v σ'=> ∃b,v= .ref b∧σ'=(b,isL qs)::(a,isL ps)::σ)) (hn:ps.length+qs.length≤16777216):
  NE prog w X (.BinOp l .Add r pos) ρ σ (isL (ps++qs)):=
 net_of_vx (ge_bin hl (R₂:=fun v σ' v₂ σ₂=> ∃a b,v= .ref a∧v₂= .ref b∧σ₂=(b,isL qs)::(a,isL ps)::σ) (R₃:=fun v σ'=> ∃c,v= .ref c∧((c,isL (ps++qs))::σ).Sublist σ')
  (fun v σ' r=>by obtain⟨a,rfl,rfl⟩:=r;exact(hr a).mono fun v₂ σ₂ r=>by obtain⟨b,rfl,rfl⟩:=r;exact⟨a,b,rfl,rfl,rfl⟩)
  (fun v σ' v₂ σ₂ r r₂ u u₂ hu hu₂=>by
   obtain⟨a,b,rfl,rfl,rfl⟩:=r₂
   exact(vx_of_ne (vx_addL (.inl mI1) (.inl (.head _)) hn u u₂ hu hu₂)).mono fun v σ' r=>by
    obtain⟨c,rfl,rfl⟩:=r
    exact⟨c,rfl,.cons₂ _ (.cons _ (.cons _ (.refl _)))⟩)) fun v σ' r=>r
theorem c_lenL {a:Addr}{ps:List PV}(hm:At X σ a (isL ps)) (hn:ps.length≤16777216) (us:List Value) (h:VRs [.ref a] us):PEt prog w X (call (.builtin "len") us) ρ σ (.int ps.length):=fun s I=>by
 obtain⟨u,rfl,hu⟩:=h.one
 cases hu
 obtain⟨o,ho,po⟩:=hm.obj I
 obtain⟨vs,hvs,il⟩:=po.list ho
 refine len_list il (by rw[List.size_toArray,←hvs.length];omega) ?_
 rw[List.size_toArray,←hvs.length]
 exact⟨.int _ _,I.tick _⟩
noncomputable def pvS (l:List (List Nat)):List PV:=l.map .str
theorem strs_are {l:List (List Nat)}{vs:List Value}(h:VRs (pvS l) vs):StrsAre vs (l.map mk):=by
 induction l generalizing vs with
 | nil=>cases h;exact .nil
 | cons x l ih=>cases h with | cons hx r=>cases hx;exact .cons _ _ (ih r)
noncomputable def joinT (x:List Nat) (l:List (List Nat)):List Nat:=(Txt.join (mk x) (l.map mk)).cps.toList
theorem c_join {a:Addr}{x:List Nat}{l:List (List Nat)}(hm:At X σ a (isL (pvS l))) (hn:(l.map (·.length)).sum+l.length*x.length≤16777216) (u:Value) (us:List Value) (hu:VR (.str x) u) (h:VRs [.ref a] us):
  PEt prog w X (call (.builtin "str.join") (u::us)) ρ σ (.str (joinT x l)):=fun s I=>by
 cases hu
 obtain⟨u,rfl,hu⟩:=h.one
 cases hu
 obtain⟨o,ho,po⟩:=hm.obj I
 obtain⟨vs,hvs,il⟩:=po.list ho
 refine PyProof.Rows.join_list il (strs_are hvs) (by simpa [Function.comp_def,mk_length] using hn) fun t' k=>⟨?_,I.tick _⟩
 have e:Txt.join (mk x) (l.map mk)=mk (joinT x l):=(mk_cps _).symm
 rw[e];exact .str _ _
noncomputable def pvI (l:List Int):List PV:=l.map .int
theorem ints_are {l:List Int}{vs:List Value}(h:VRs (pvI l) vs):IntsAre vs l:=by
 induction l generalizing vs with
 | nil=>cases h;exact .nil
 | cons x l ih=>cases h with | cons hx r=>cases hx;exact .cons _ _ (ih r)
theorem cm_notinLi {a:Addr}{l:List Int}{x:Int}(hm:At X σ a (isL (pvI l))):Cm prog w X .NotIn (.int x) (.ref a) ρ σ (!l.any (· ==x)):=fun u v h1 h2 s I=>by
 cases h1;cases h2
 obtain⟨o,ho,po⟩:=hm.obj I
 obtain⟨vs,hvs,il⟩:=po.list ho
 exact notin_list_ints il (ints_are hvs) ⟨rfl,I⟩
end
end Mine
end
section
set_option maxRecDepth 100000
open PySem PySem.W PyProof.Rows PySem.Calls
namespace Mine
section
variable {prog:Program}{w:World}{X:Cx}{ρ ρ' ρ₁:Ro}{σ σ' σ₁:Led}{T:Tops}{n:Nat}{R R':PV→Led→Prop}{K:PF→Ro→Led→Prop}
inductive Um (a:Addr) (Q P:Obj→Prop):Led→Led→Prop
 | here {r}:Um a Q P ((a,Q)::r) ((a,P)::r)
 | there {p r r'} (h:Um a Q P r r'):Um a Q P (p::r) (p::r')
theorem Um.us {a:Addr}{Q P:Obj→Prop}{σ σ'} (h:Um a Q P σ σ'):Us a P σ σ':=by
 induction h with | here=>exact .here | there h ih=>exact .there ih
theorem Um.mem {a:Addr}{Q P:Obj→Prop}{σ σ'} (h:Um a Q P σ σ'):(a,Q)∈σ:=by
 induction h with | here=>exact .head _ | there h ih=>exact .tail _ ih
theorem Um.mem' {a:Addr}{Q P:Obj→Prop}{σ σ'} (h:Um a Q P σ σ'):(a,P)∈σ':=by
 induction h with | here=>exact .head _ | there h ih=>exact .tail _ ih
theorem store_cell {x:Str}{c:Addr}{v₀:Option PV}{v:PV}{u:Value}(hf:X.env.scope.kind= .function) (hk:X.env.kindOf x=some .cell) (hc:X.env.cells.lookup x=some c) (hu:Um c (isCell v₀) (isCell (some v)) σ σ') (hv:VR v u):
  StoreE prog w X x u ρ σ ρ σ':=fun s I=>by
 obtain⟨o,ho,u₀,h0,hd⟩:=I.obj hu.mem
 refine wpAny_storeName_cell (v₀:=u₀) hf hk hc ⟨o,ho,hd⟩ (fun h' hi hs=> ?_)
 obtain⟨o',ho',hd'⟩:=hi
 exact I.turn hu.us hs ho' ⟨some u,.some hv,hd'⟩
theorem s1_assign_g {x:Str}{p pos:Pos}{e:Expr}(h:GE prog w X e ρ σ R) (k: ∀v σ',R v σ'→ ∃ρ' σ₂,(∀u,VR v u→StoreE prog w X x u ρ σ' ρ' σ₂)∧K .next ρ' σ₂)
  (hs:swapsWith e (some (.Name x p)) pos.line X.env=pure false:=by rfl):S1 prog w X (.Assign [.Name x p] e pos) ρ σ K:=fun s I=>
 wpAny_Assign_Name (wpAny_mono (h s I) (fun u s' q=>by
  obtain⟨v,σ',r,hv,I'⟩:=q
  obtain⟨ρ',σ₂,hst,hk⟩:=k v σ' r
  exact wpAny_mono (hst u hv s' I') (fun _ s₂ q=>⟨_,_,_,hk,.next,q⟩) fun _ _ f=>f) fun _ _ f=>f) hs
theorem s1_expr {e:Expr}{pos:Pos}(h:GE prog w X e ρ σ R) (k: ∀v σ',R v σ'→v= .none∧K .next ρ σ') (hi:interactive X.env=false:=by rfl) (hs:swapsWith e none pos.line X.env=pure false:=by rfl):S1 prog w X (.Expr e pos) ρ σ K:=fun s I=>
 wpAny_Expr (wpAny_mono (h s I) (fun u s' q=>by
  obtain⟨v,σ',r,hv,I'⟩:=q
  obtain⟨rfl,hk⟩:=k v σ' r
  cases hv
  exact⟨_,_,_,hk,.next,I'⟩) fun _ _ f=>f) hi hs
noncomputable def LoadE (prog:Program) (w:World) (X:Cx) (x:Str) (ρ:Ro) (σ:Led) (v:PV):Prop:=Ev prog w X (loadName X.env x) ρ σ fun u s'=>VR v u∧Inv X ρ σ s'
theorem load_local (Y:Lay X) {x:Str}{v:PV}(hm:(x,some v)∈ρ):LoadE prog w X x ρ σ v:=fun s I=>by
 obtain⟨m,news,F,N,R,D⟩:=I.st
 obtain⟨u,hu,hv⟩:=R.get hm
 have hk:=Y.ks x (I.ks ▸ List.mem_map_of_mem hm)
 exact wpAny_loadName_local Y.fn hk.1 (by rw[Y.loc];exact F.ns) hu ⟨hv,I⟩
noncomputable def InP (prog:Program) (w:World) (X:Cx) (op:Operator) (a b:PV) (ρ:Ro) (σ:Led) (c:PV):Prop:= ∀u v,VR a u→VR b v→PEt prog w X (inplaceOp op u v) ρ σ c
theorem ip_add {a b:Int}:InP prog w X .Add (.int a) (.int b) ρ σ (.int (a+b)):=fun u v h1 h2 s I=>by cases h1;cases h2;exact PyProof.Rows.iadd_int ⟨.int _ _,I.tick _⟩
theorem ip_sub {a b:Int}:InP prog w X .Sub (.int a) (.int b) ρ σ (.int (a-b)):=fun u v h1 h2 s I=>by cases h1;cases h2;exact PyProof.Rows.isub_int ⟨.int _ _,I.tick _⟩
theorem ip_cat {a b:List Nat}(hl:a.length+b.length≤16777216):InP prog w X .Add (.str a) (.str b) ρ σ (.str (a++b)):=fun u v h1 h2 s I=>by
 cases h1;cases h2
 refine PyProof.Rows.iadd_str (fun t' tk=>⟨?_,I.tick _⟩) (by rw[mk_length,mk_length,sizeLine_eq];exact hl)
 have e:mk a++mk b=mk (a++b):=by
  show (⟨a.toArray++b.toArray⟩:Str)=⟨(a++b).toArray⟩
  simp
 rw[e];exact .str _ _
theorem s1_aug {x:Str}{p pos:Pos}{op:Operator}{e:Expr}{v₀ v c:PV}(h0:LoadE prog w X x ρ σ v₀) (h:PE prog w X e ρ σ v) (hop:InP prog w X op v₀ v ρ σ c)
  (hs: ∀u,VR c u→StoreE prog w X x u ρ σ ρ' σ') (k:K .next ρ' σ'):S1 prog w X (.AugAssign (.Name x p) op e pos) ρ σ K:=fun s I=>
 wpAny_AugAssign_Name (wpAny_mono (h0 s I) (fun u₀ s₁ q=>wpAny_mono (h s₁ q.2) (fun u s₂ q₂=>wpAny_mono (hop u₀ u q.1 q₂.1 s₂ q₂.2) (fun r s₃ q₃=>
  wpAny_mono (hs r q₃.1 s₃ q₃.2) (fun _ s₄ q₄=>⟨_,_,_,k,.next,q₄⟩) fun _ _ f=>f) fun _ _ f=>f) fun _ _ f=>f) fun _ _ f=>f)
theorem c_append {a:Addr}{ps:List PV}{v:PV}(hm:Um a (isL ps) (isL (ps++[v])) σ σ') (hn:ps.length≤16777216) (u:Value) (us:List Value) (hu:VR (.ref a) u) (h:VRs [v] us):
  VX prog w X (call (.builtin "list.append") (u::us)) ρ σ (fun r σ₂=>r= .none∧σ₂=σ'):=fun s I=>by
 cases hu
 obtain⟨u,rfl,hu⟩:=h.one
 obtain⟨o,ho,vs,nn,hvs,rfl⟩:=I.obj hm.mem
 refine append_at ho (fun h' hsb hD=>⟨.none,σ',⟨rfl,rfl⟩,.none,I.turn (tk:=s.toks) hm.us hsb hD ⟨vs++[u],_,hvs.append (.cons hu .nil),by rw[List.push_toArray]⟩⟩) ?_
 rw[List.size_toArray,←hvs.length];exact hn
theorem m_append {a:Addr}{ps:List PV}(hm:(a,isL ps)∈σ) {pl:Sem Bool}(u:Value) (s:Shared) (Q:Value×List Value→Shared→Prop) (hu:VR (.ref a) u) (I:Inv X ρ σ s) (hQ:Q (.builtin "list.append",[u]) s):
  wpAny (model prog w) X.A (getMethod u ("append":Str) pl) Q (fun _ _=>False) s:=by
 cases hu
 obtain⟨m,news,F,N,R,D⟩:=I.st
 obtain⟨o,ho,vs,nn,hvs,rfl⟩:=D.get hm
 exact getMethod_append_N N ho hQ
theorem s1_append {x:Expr}{e:Expr}{apos p pos:Pos}{a:Addr}{ps:List PV}(hx:PE prog w X x ρ σ (.ref a)) (h:GE prog w X e ρ σ R)
  (k: ∀v σ',R v σ'→ ∃σ₂,Um a (isL ps) (isL (ps++[v])) σ' σ₂∧K .next ρ σ₂) (h0:(a,isL ps)∈σ) (hn:ps.length≤16777216)
  {pl:Sem Bool}
  (hq:eval ((x.Attribute ("append":Str) apos).Call [e] [] p) X.env=(do let ov ←eval x X.env;standAt apos.atName;let fx ←holding [ov] (getMethod ov ("append":Str) pl);match fx with | (f,first)=>callWith p f first (backTo p (starEach [e] X.env)) []):=by rfl)
  (he:starEach [e] X.env=[(false,eval e X.env)]:=by rfl) (hi:interactive X.env=false:=by rfl):
  S1 prog w X (.Expr (.Call (.Attribute x ("append":Str) apos) [e] [] p) pos) ρ σ K:=
 s1_expr (R:=fun v σ'=>v= .none∧K .next ρ σ') (ev_meth (R:=fun v σ'=>v= .ref a∧σ'=σ) (ge_of_pe hx) (fun v σ₀ r=>by
  obtain⟨rfl,e⟩:=r
  have e':=e.symm
  subst e'
  refine⟨m_append h0,_,ag1 h he,fun vs σ₂ r u us hu hus=> ?_⟩
  obtain⟨v,rfl,r⟩:=r
  obtain⟨σ₃,hm,hk⟩:=k v σ₂ r
  exact(c_append hm hn u us hu hus).mono fun v' σ₄ q=>by obtain⟨rfl,rfl⟩:=q;exact⟨rfl,hk⟩) hq (by rw[he];rfl)) (fun v σ' r=>r) hi
theorem setL {a:Addr}{ps:List PV}{i:Int}{v:PV}(hm:Um a (isL ps) (isL (ps.set i.toNat v)) σ σ') (h0:0≤i) (h1:i<ps.length) (hn:ps.length≤16777216) (u iu vu:Value) (hu:VR (.ref a) u) (hi:VR (.int i) iu) (hv:VR v vu):
  Ev prog w X (setItem u iu vu) ρ σ (fun _ s'=>Inv X ρ σ' s'):=fun s I=>by
 cases hu;cases hi
 obtain⟨o,ho,vs,nn,hvs,rfl⟩:=I.obj hm.mem
 have hl:=hvs.length
 refine ki_setAt (items:=vs.toArray) (n:=nn) ho h0 (by omega) (by rw[List.size_toArray];omega) ?_
 have q:=PySem.IsL.update (h:=s.heap) (l:=a) (items:=vs.toArray) (n:=nn) ho (fun xs=>xs.setIfInBounds i.toNat vu)
 have e:vs.toArray.setIfInBounds i.toNat vu=(vs.set i.toNat vu).toArray:=by simp
 rw[e] at q
 exact I.turn (tk:=s.toks) hm.us (Heap.SameBut.update ..) q ⟨vs.set i.toNat vu,_,hvs.set hv _,rfl⟩
theorem delL {a:Addr}{ps:List PV}{i:Int}{k:Nat}(hm:Um a (isL ps) (isL (ps.eraseIdx k)) σ σ') (h0: -9223372036854775808≤i) (h1:i<9223372036854775808) (hk:seqIndex? i ps.length=some k) (hn:ps.length≤16777216) (u iu:Value) (hu:VR (.ref a) u) (hi:VR (.int i) iu):
  Ev prog w X (delItem u iu) ρ σ (fun _ s'=>Inv X ρ σ' s'):=fun s I=>by
 cases hu;cases hi
 obtain⟨o,ho,vs,nn,hvs,rfl⟩:=I.obj hm.mem
 have hl:=hvs.length
 refine P.delItem_list (items:=vs.toArray) (n:=nn) ho (by unfold Builtin.List.listFitsIndex;simp only[Bool.and_eq_true,decide_eq_true_eq];omega) (by rw[List.size_toArray,←hl];exact hk) ?_ (by rw[List.size_toArray,←hl,sizeLine_eq];exact hn)
 have q:=PySem.IsL.update (h:=s.heap) (l:=a) (items:=vs.toArray) (n:=nn) ho (fun xs=>xs.eraseIdxIfInBounds k)
 have e:vs.toArray.eraseIdxIfInBounds k=(vs.eraseIdx k).toArray:=by simp
 rw[e] at q
 exact I.turn (tk:=s.toks) hm.us (Heap.SameBut.update ..) q ⟨vs.eraseIdx k,_,hvs.erase _,rfl⟩
end
end Mine
end
section
set_option maxRecDepth 100000
open PySem PySem.W PyProof.Rows PySem.Calls
namespace Mine
section
variable {prog:Program}{w:World}{X:Cx}{ρ ρ' ρ₁:Ro}{σ σ' σ₁:Led}{T:Tops}{n:Nat}{R R':PV→Led→Prop}{K:PF→Ro→Led→Prop}
theorem draw_seqs {k:Nat}{xs:Nat→PV}{It:Addr→Nat→Obj→Prop}{S:Led→Prop}(Sq:Seqs prog w k xs It S) (hh:X.A.handled=none) (hS:S σ) {I:Addr}:
  ∀(n i:Nat) (s:Shared),i+n≤k→Inv X ρ ((I,It I i)::σ) s→wpAny (model prog w) X.A (draw (.ref I) n) (fun us s'=>VRs ((List.range n).map fun j=>xs (i+j)) us∧Inv X ρ ((I,It I (i+n))::σ) s') (fun _ _=>False) s
 | 0,i,s,_,Is=>by
  show wpAny _ _ (pure []) _ _ s
  exact wpAny_pure ⟨.nil,Is⟩
 | n+1,i,s,hle,Is=>by
  show wpAny _ _ (pyNext (.ref I) >>= _) _ _ s
  refine wpAny_bind (wpAny_mono (Sq.nx X I i σ hh (by omega) hS ρ s Is) (fun r s₁ q=> ?_) fun _ _ f=>f)
  obtain⟨u,rfl,hv,I₁⟩:=q
  refine wpAny_bind (wpAny_holding (wpAny_mono (draw_seqs Sq hh hS n (i+1) s₁ (by omega) I₁) (fun us s₂ q=>wpAny_pure ?_) fun _ _ f=>f))
  obtain⟨hvs,I₂⟩:=q
  refine⟨?_,by rw[show i+(n+1)=i+1+n by omega];exact I₂⟩
  rw[List.range_succ_eq_map,List.map_cons,List.map_map]
  refine .cons (by simpa using hv) ?_
  have e:((fun j=>xs (i+j))∘Nat.succ)=fun j=>xs (i+1+j):=by funext j;show xs (i+(j+1))=_;congr 1;omega
  rw[e];exact hvs
theorem range_getD (ps:List PV):((List.range ps.length).map fun j=>ps.getD (0+j) .none)=ps:=by
 apply List.ext_getElem
 ·simp
 ·intro i h1 h2
  simp only[List.length_map,List.length_range] at h1
  simp[List.getD_eq_getElem?_getD,List.getElem?_eq_getElem h1]
noncomputable def UnI (prog:Program) (w:World) (X:Cx) (a:Addr) (ps:List PV) (ρ:Ro) (σ:Led):Prop:=Ev prog w X (unpackItems (.ref a) ps.length none) ρ σ fun us s'=>VRs ps us∧Inv X ρ σ s'
theorem un_list {a:Addr}{ps:List PV}(hh:X.A.handled=none) (hm:(a,isL ps)∈σ):UnI prog w X a ps ρ σ:=fun s I=>by
 obtain⟨o,ho,po⟩:=I.obj hm
 obtain⟨vs,hvs,il⟩:=po.list ho
 unfold unpackItems
 refine wpAny_bind ?_
 unfold notIterableAtAll
 refine wpAny_bind (wpAny_specialOf il.typeIs slot_list_iter.lookup ?_)
 refine wpAny_pure ?_
 simp only[Bool.false_eq_true,if_false]
 have Sq:=seqs_list (prog:=prog) (w:=w) (ax:=a) (ps:=ps) (S:=fun σ=>(a,isL ps)∈σ) fun _ h=>h
 refine wpAny_bind (wpAny_holding (wpAny_pyIter_list il ?_))
 have I₁:=I.push (P:=liI a s.heap.objs.size 0) (o:={cls:=.type "list_iterator",data:=.fields #[.ref a,.int 0 0]}) ⟨rfl,rfl⟩ rfl (tk:=s.toks)
 refine wpAny_bind (wpAny_holding (wpAny_mono (draw_seqs Sq hh hm ps.length 0 _ (by omega) I₁) (fun us s₂ q=> ?_) fun _ _ f=>f))
 obtain⟨hus,I₂⟩:=q
 rw[range_getD] at hus
 rw[if_neg (by rw[←hus.length];omega)]
 refine wpAny_bind (wpAny_holding (wpAny_mono (Sq.nd X _ σ hh hm ρ s₂ (by rw[Nat.zero_add] at I₂;exact I₂)) (fun r s₃ q=> ?_) fun _ _ f=>f))
 obtain⟨rfl,I₃⟩:=q
 simp only[Option.isSome_none,Bool.false_eq_true,if_false]
 exact wpAny_pure ⟨hus,I₃⟩
theorem un_tuple {a:Addr}{ps:List PV}(hh:X.A.handled=none) (hm:(a,isT ps)∈σ):UnI prog w X a ps ρ σ:=fun s I=>by
 obtain⟨o,ho,po⟩:=I.obj hm
 obtain⟨vs,hvs,it⟩:=po.tuple ho
 have e:ps.length=vs.toArray.size:=by rw[List.size_toArray,hvs.length]
 rw[e]
 refine wpAny_unpackItems_tuple hh it fun h' hx=>⟨hvs,I.ext (tk:=s.toks) fun b o e=>hx b o (Nat.ne_of_lt (Heap.lt_size e)) e⟩
noncomputable def TsE (prog:Program) (w:World) (X:Cx) (ts:List (Value→Sem Unit)) (ps:List PV) (ρ:Ro) (σ:Led) (K:Ro→Led→Prop):Prop:=
 ∀us,VRs ps us→Ev prog w X (assignInOrder ts us) ρ σ fun _ s'=> ∃ρ' σ',K ρ' σ'∧Inv X ρ' σ' s'
theorem ts_nil {Kn:Ro→Led→Prop}(h:Kn ρ σ):TsE prog w X [] [] ρ σ Kn:=fun us hu s I=>by
 show wpAny _ _ (pure ()) _ _ s
 exact wpAny_pure ⟨_,_,h,I⟩
theorem ts_cons {t:Value→Sem Unit}{ts:List (Value→Sem Unit)}{p:PV}{ps:List PV}{Kn:Ro→Led→Prop}(h: ∀u,VR p u→Ev prog w X (t u) ρ σ fun _ s'=>Inv X ρ₁ σ₁ s') (hr:TsE prog w X ts ps ρ₁ σ₁ Kn):
  TsE prog w X (t::ts) (p::ps) ρ σ Kn:=fun us hu s I=>by
 cases hu with
 | cons h1 h2=>
  show wpAny _ _ (do holding _ (t _);assignInOrder ts _) _ _ s
  exact wpAny_bind (wpAny_holding (wpAny_mono (h _ h1 s I) (fun _ s₁ I₁=>hr _ h2 s₁ I₁) fun _ _ f=>f))
theorem tg_name {x:Str}{p:Pos}{v:PV}(h: ∀u,VR v u→StoreE prog w X x u ρ σ ρ' σ') (u:Value) (hu:VR v u):Ev prog w X (assign (.Name x p) X.env u) ρ σ fun _ s'=>Inv X ρ' σ' s':=fun s I=>wpAny_assign_Name (h u hu s I)
theorem tg_bind {x:Str}{v:PV}(h: ∀u,VR v u→StoreE prog w X x u ρ σ ρ' σ') (u:Value) (hu:VR v u):Ev prog w X (bindName X.env x u) ρ σ fun _ s'=>Inv X ρ' σ' s':=fun s I=>wpAny_bindName (h u hu s I)
theorem s1_unpack {elts:List Expr}{k:Nat}{tpos pos:Pos}{value:Expr}{ts:List (Value→Sem Unit)}(h:GE prog w X value ρ σ R)
  (hk: ∀v σ',R v σ'→ ∃a ps,v= .ref a∧UnI prog w X a ps ρ σ'∧ps.length=ts.length∧TsE prog w X ts ps ρ σ' (fun ρ' σ'=>K .next ρ' σ'))
  (he:assignEach elts X.env=ts.map fun t=>(false,t))
  (hs:swapsWithSole [.Tuple elts k tpos] value pos.line X.env=pure false:=by rfl)
  (hw:swappedStores [.Tuple elts k tpos] value X.env=pure none:=by rfl):S1 prog w X (.Assign [.Tuple elts k tpos] value pos) ρ σ K:=fun s I=>
 Assign_Tuple (wpAny_mono (h s I) (fun u s₁ q=>by
  obtain⟨v,σ',r,hv,I₁⟩:=q
  obtain⟨a,ps,rfl,hu,hl,ht⟩:=hk v σ' r
  cases hv
  rw[assign_Tuple]
  refine wpAny_bind (wpAny_standAt ?_)
  unfold unpack
  rw[he,List.map_map]
  have e1:(ts.map fun t=>(false,t)).length=ps.length:=by rw[List.length_map,hl]
  have e2:(ts.map fun t=>(false,t)).findIdx? (·.1)=none:=by rw[List.findIdx?_eq_none_iff];intro x hx;obtain⟨t,_,rfl⟩:=List.mem_map.mp hx;rfl
  rw[e1,e2]
  refine wpAny_bind (wpAny_holding (wpAny_mono (hu s₁ I₁) (fun us s₂ q=> ?_) fun _ _ f=>f))
  obtain⟨hus,I₂⟩:=q
  have e3:(Prod.snd∘fun t:Value→Sem Unit=>(false,t))=id:=rfl
  rw[e3,List.map_id]
  exact wpAny_mono (ht us hus s₂ I₂) (fun _ s₃ q=>by obtain⟨ρ',σ',hk,I₃⟩:=q;exact⟨_,_,_,hk,.next,I₃⟩) fun _ _ f=>f) fun _ _ f=>f) hs hw
theorem s1_swapped {elts:List Expr}{k:Nat}{tpos pos:Pos}{value:Expr}{names:List Str}(h:GE prog w X value ρ σ R)
  (hk: ∀v σ',R v σ'→ ∃a ps,v= .ref a∧UnI prog w X a ps ρ σ'∧ps.length=names.length∧TsE prog w X (names.reverse.map fun n=>bindName X.env n) ps.reverse ρ σ' (fun ρ' σ'=>K .next ρ' σ'))
  (hs:swapsWithSole [.Tuple elts k tpos] value pos.line X.env=pure false:=by rfl)
  (hw:swappedStores [.Tuple elts k tpos] value X.env=pure (some names):=by rfl):S1 prog w X (.Assign [.Tuple elts k tpos] value pos) ρ σ K:=fun s I=>
 Assign_Tuple_swapped (names:=names) (wpAny_mono (h s I) (fun u s₁ q=>by
  obtain⟨v,σ',r,hv,I₁⟩:=q
  obtain⟨a,ps,rfl,hu,hl,ht⟩:=hk v σ' r
  cases hv
  rw[←hl]
  refine wpAny_mono (hu s₁ I₁) (fun us s₂ q=> ?_) fun _ _ f=>f
  obtain⟨hus,I₂⟩:=q
  have hrev:VRs ps.reverse us.reverse:=by
   clear ht hl hu
   induction hus with
   | nil=>exact .nil
   | cons h r ih=>simp only[List.reverse_cons];exact(ih).append (.cons h .nil)
  exact wpAny_mono (ht _ hrev s₂ I₂) (fun _ s₃ q=>by obtain⟨ρ',σ',hk,I₃⟩:=q;exact⟨_,_,_,hk,.next,I₃⟩) fun _ _ f=>f) fun _ _ f=>f) hs hw
theorem s1_while {test:Expr}{body orelse:List Stmt}{pos:Pos}(J:Nat→Ro→Led→Prop) (m:Nat) (h0:J m ρ σ)
  (hb: ∀m ρ σ,J m ρ σ→ ∃b,BE prog w X test ρ σ b∧(b=true→SE prog w X body ρ σ (LoopK K fun ρ₂ σ₂=> ∃m' σ₃,m'<m∧J m' ρ₂ σ₃∧σ₃.Sublist σ₂))∧(b=false→SE prog w X orelse ρ σ K)):
  S1 prog w X (.While test body orelse pos) ρ σ K:=fun s I=>by
 refine wpAny_While (codeAny_whileLoop (fun m s=> ∃ρ σ,J m ρ σ∧Inv X ρ σ s) (fun m s q=> ?_) m ⟨ρ,σ,h0,I⟩)
 obtain⟨ρ₁,σ₁,hJ,I₁⟩:=q
 obtain⟨b,ht,h1,h2⟩:=hb m ρ₁ σ₁ hJ
 refine wpAny_mono (ht s I₁) (fun c s₂ q=> ?_) fun _ _ f=>f.elim
 obtain⟨rfl,I₂⟩:=q
 cases c with
 | true=>
  rw[if_pos rfl]
  refine wpAny_mono (h1 rfl s₂ I₂) (fun fl s₃ q=> ?_) fun _ _ f=>f.elim
  obtain⟨f,ρ₃,σ₃,hK,hfr,I₃⟩:=q
  cases hfr with
  | next=>obtain⟨m',σ₄,hm,hJ',hs⟩:=hK;exact⟨m',hm,ρ₃,σ₄,hJ',I₃.sub hs⟩
  | cont=>obtain⟨m',σ₄,hm,hJ',hs⟩:=hK;exact⟨m',hm,ρ₃,σ₄,hJ',I₃.sub hs⟩
  | brk=>exact⟨_,_,_,hK,.next,I₃⟩
  | ret h=>exact⟨_,_,_,hK,.ret h,I₃⟩
 | false=>
  rw[if_neg (by decide)]
  exact wpAny_mono (h2 rfl s₂ I₂) (fun fl s₃ q=>q) fun _ _ f=>f.elim
theorem getItemL {a:Addr}{ps:List PV}{i:Int}{p:PV}(hm:At X σ a (isL ps)) (h0: -(ps.length:Int)≤i) (h1:i<ps.length) (hn:ps.length≤16777216) (hp:itemL ps i=p) (u iu:Value) (hu:VR (.ref a) u) (hi:VR (.int i) iu):PEt prog w X (getItem u iu) ρ σ p:=fun s I=>by
 cases hu;cases hi
 obtain⟨o,ho,po⟩:=hm.obj I
 obtain⟨vs,hvs,il⟩:=po.list ho
 subst hp
 have hlen:=hvs.length
 by_cases hneg:i<0
 ·obtain⟨u,hu,r⟩:=hvs.getE (i:=(i+ps.length).toNat) (p:=itemL ps i) (by
   unfold itemL;rw[if_pos hneg,List.getD_eq_getElem?_getD,List.getElem?_eq_getElem (by omega)];rfl)
  exact wpAny_getItem_list_neg il hneg (by simp;omega) (by omega) (x:=u) (by simpa [←hlen] using hu) ⟨r,I⟩
 ·obtain⟨u,hu,r⟩:=hvs.getE (i:=i.toNat) (p:=itemL ps i) (by
   unfold itemL;rw[if_neg hneg,List.getD_eq_getElem?_getD,List.getElem?_eq_getElem (by omega)];rfl)
  exact wpAny_getItem_list il (by omega) (by omega) hu ⟨r,I⟩
theorem s1_augL {x i e:Expr}{spos pos:Pos}{op:Operator}{a:Addr}{ps:List PV}{k:Int}{p v c:PV}(hx:PE prog w X x ρ σ (.ref a)) (hi:PE prog w X i ρ σ (.int k)) (he:PE prog w X e ρ σ v) (h0:0≤k) (h1:k<ps.length) (hn:ps.length≤16777216)
  (hp:itemL ps k=p) (hop:InP prog w X op p v ρ σ c) (hm:Um a (isL ps) (isL (ps.set k.toNat c)) σ σ') (hk:K .next ρ σ')
  (hs: ∀ov iv new,augStore i ov iv new=(do holding [new,ov,iv] (setItem ov iv new);release [new,ov,iv] [];pure .next):=by intros;rfl):S1 prog w X (.AugAssign (.Subscript x i spos) op e pos) ρ σ K:=fun s I=>
 wpAny_AugAssign_SubscriptAny (wpAny_mono (hx s I) (fun u s₁ q₁=>wpAny_mono (hi s₁ q₁.2) (fun iu s₂ q₂=>wpAny_mono (getItemL (.inl hm.mem) (by omega) h1 hn hp u iu q₁.1 q₂.1 s₂ q₂.2) (fun ou s₃ q₃=>
  wpAny_mono (he s₃ q₃.2) (fun vu s₄ q₄=>wpAny_mono (hop ou vu q₃.1 q₄.1 s₄ q₄.2) (fun r s₅ q₅=>wpAny_mono (setL hm h0 h1 hn u iu r q₁.1 q₂.1 q₅.1 s₅ q₅.2) (fun _ s₆ I₆=>⟨_,_,_,hk,.next,I₆⟩)
   fun _ _ f=>f) fun _ _ f=>f) fun _ _ f=>f) fun _ _ f=>f) fun _ _ f=>f) fun _ _ f=>f) hs
theorem s1_delL {x i:Expr}{spos pos:Pos}{a:Addr}{ps:List PV}{j:Int}{k:Nat}(hx:PE prog w X x ρ σ (.ref a)) (hi:PE prog w X i ρ σ (.int j)) (h0: -9223372036854775808≤j) (h1:j<9223372036854775808) (hj:seqIndex? j ps.length=some k) (hn:ps.length≤16777216)
  (hm:Um a (isL ps) (isL (ps.eraseIdx k)) σ σ') (hk:K .next ρ σ'):S1 prog w X (.Delete [.Subscript x i spos] pos) ρ σ K:=fun s I=>by
 refine wpAny_Delete (wpAny_deleteEach_cons ?_)
 rw[arm_delete_Subscript]
 refine wpAny_bind (wpAny_mono (hx s I) (fun u s₁ q₁=>wpAny_bind (wpAny_holding (wpAny_mono (hi s₁ q₁.2) (fun iu s₂ q₂=> ?_) fun _ _ f=>f))) fun _ _ f=>f)
 refine wpAny_bind (wpAny_standAt ?_)
 refine wpAny_bind (wpAny_holding (wpAny_mono (delL hm h0 h1 hj hn u iu q₁.1 q₂.1 s₂ q₂.2) (fun _ s₃ I₃=> ?_) fun _ _ f=>f))
 exact wpAny_release (wpAny_deleteEach_nil ⟨_,_,_,hk,.next,I₃⟩)
noncomputable def splitT (x y:List Nat):List (List Nat):=(Txt.split (mk x) (mk y)).map fun s=>s.cps.toList
theorem vrs_strs: ∀(l:List (Str×Tok)),VRs (pvS (l.map fun p=>p.1.cps.toList)) (strValues l)
 | []=>.nil
 | (x,t)::r=>.cons (by
   show VR (.str x.cps.toList) (.str x t)
   have:=VR.str x.cps.toList t
   rwa [mk_cps] at this) (vrs_strs r)
theorem c_split {x y:List Nat}(hy:y≠[]) (hn:x.length≤16777000) (u:Value) (us:List Value) (hu:VR (.str x) u) (h:VRs [.str y] us):NEt prog w X (call (.builtin "str.split") (u::us)) ρ σ (isL (pvS (splitT x y))):=fun s I=>by
 cases hu
 obtain⟨u,rfl,hu⟩:=h.one
 cases hu
 obtain⟨m,news,F,N,R,D⟩:=I.st
 refine splitN1 F N (by rw[mk_length];cases y with | nil=>exact absurd rfl hy | cons a r=>rfl) (fun l h' k hl F' N'=>⟨_,rfl,⟨m,_,F',N',R,.cons ⟨strValues l,0,?_,rfl⟩ D⟩,?_,I.ks,I.kn,I.gens,I.os⟩) (by rw[mk_length,sizeLine_eq];omega)
 ·have e:splitT x y=l.map fun p=>p.1.cps.toList:=by
   unfold splitT
   rw[←hl,List.map_map];rfl
  rw[e];exact vrs_strs l
 ·exact(I.push (P:=isL []) (o:={cls:=.type "list",data:=.seq ([]:List Value).toArray}) ⟨[],0,.nil,rfl⟩ rfl (tk:=s.toks)).nd
end
end Mine
end
section
set_option maxRecDepth 100000
open PySem PySem.W PyProof.Rows PySem.Calls
namespace Mine
noncomputable def bodyOf:Stmt→List Stmt | .FunctionDef _ _ b .. =>b | .ClassDef _ _ _ b .. =>b | _=>[]
noncomputable def parsOf:Stmt→Arguments | .FunctionDef _ a .. =>a | _=>{posonlyargs:=[],args:=[],vararg:=none,kwonlyargs:=[],kw_defaults:=[],kwarg:=none,defaults:=[]}
noncomputable def scopeOf:Stmt→Scope | .FunctionDef _ _ _ _ _ _ s .. =>s | .ClassDef _ _ _ _ _ _ s .. =>s | _=>default
noncomputable def nthS (l:List Stmt) (i:Nat):Stmt:=(l.drop i).headD (.Pass default)
structure IsDef (T:Tops) (name qual:Str) (st:Stmt) (fa:Addr):Prop where
 get: ∃fo kV doc pm cdv ct an,T.K.lookup fa=some fo∧fo.data= .func (fnX name qual (parsOf st) (bodyOf st) (scopeOf st) [] .none kV doc pm an cdv ct)∧codeIn T.K cdv qual=true
theorem IsDef.isFn {T:Tops}{name qual:Str}{st:Stmt}{fa:Addr}(D:IsDef T name qual st fa):IsFn T fa:=⟨fun X n O=>by
 obtain⟨fo,kV,doc,pm,cdv,ct,an,h1,h2,h3⟩:=D.get
 exact⟨fo,_,O.top _ _ h1,h2⟩⟩
section
variable {prog:Program}{w:World}{T:Tops}{n:Nat}
theorem def_intro {fa:Addr}{name qual:Str}{st:Stmt}(D:IsDef T name qual st fa) {args:List PV}{σ:Led}{R:PV→Led→Prop}(names rest:List Str)
  (hb: ∀kV doc pm an cdv ct,∀us:List Value,us.length=names.length→bindArgs (fnX name qual (parsOf st) (bodyOf st) (scopeOf st) [] .none kV doc pm an cdv ct) ⟨us,[]⟩=pure (names.zip us))
  (hnd:(names++rest).Nodup) (hlay:layOK (scopeOf st) (names++rest)=true) (hargs:args.length=names.length)
  (hcell: ∀x∈(scopeOf st).names,x.2≠ .cell) (hco:(scopeOf st).isCoroutine=false) (hgen:(scopeOf st).isGenerator=false) (hk:(scopeOf st).kind= .function)
  (h: ∀A L g os cdv,XOK T n ⟨A,envX qual (scopeOf st) L fa cdv [],L,L,g,os,names++rest⟩→Lay ⟨A,envX qual (scopeOf st) L fa cdv [],L,L,g,os,names++rest⟩→
   SE prog w ⟨A,envX qual (scopeOf st) L fa cdv [],L,L,g,os,names++rest⟩ (bodyOf st) (init names args rest) σ fun f _ σ'=>R f.val σ'):Fn prog w T (n+1) (.ref fa) args σ R:=by
 obtain⟨fo,kV,doc,pm,cdv,ct,an,h1,h2,h3⟩:=D.get
 refine fn_intro names rest h1 h2 h3 (fun us hl s=>BindsTo.of_eq (hb _ _ _ _ _ _ us hl)) hnd hlay hargs hcell hco hgen hk (fun X O Y hks he hFL=> ?_)
 obtain⟨A,env,L,FL,g,os,ks⟩:=X
 dsimp only at hks he hFL
 subst he
 subst hks
 subst hFL
 exact h A _ g os cdv O Y
theorem def_pure {fa:Addr}{name qual:Str}{st:Stmt}(D:IsDef T name qual st fa) {args:List PV}{v:PV}(names rest:List Str)
  (hb: ∀kV doc pm an cdv ct,∀us:List Value,us.length=names.length→bindArgs (fnX name qual (parsOf st) (bodyOf st) (scopeOf st) [] .none kV doc pm an cdv ct) ⟨us,[]⟩=pure (names.zip us))
  (hnd:(names++rest).Nodup) (hlay:layOK (scopeOf st) (names++rest)=true) (hargs:args.length=names.length)
  (hcell: ∀x∈(scopeOf st).names,x.2≠ .cell) (hco:(scopeOf st).isCoroutine=false) (hgen:(scopeOf st).isGenerator=false) (hk:(scopeOf st).kind= .function)
  (h: ∀A L g os cdv σ,XOK T n ⟨A,envX qual (scopeOf st) L fa cdv [],L,L,g,os,names++rest⟩→Lay ⟨A,envX qual (scopeOf st) L fa cdv [],L,L,g,os,names++rest⟩→
   SE prog w ⟨A,envX qual (scopeOf st) L fa cdv [],L,L,g,os,names++rest⟩ (bodyOf st) (init names args rest) σ fun f _ σ'=>f.val=v∧σ.Sublist σ'):FnP prog w T (n+1) (.ref fa) args v:=
 fn_pure fun σ=>def_intro D names rest hb hnd hlay hargs hcell hco hgen hk fun A L g os cdv O Y=>h A L g os cdv σ O Y
end
noncomputable def hexs:Nat→List Nat
 | 0=>[]
 | n+1=>hexs ((n+1)/16)++[(n+1)%16]
decreasing_by omega
end Mine
end
section
set_option maxRecDepth 100000
open PySem PySem.W PyProof.Rows PySem.Calls
namespace Mine
section
variable {prog:Program}{w:World}{X:Cx}{ρ ρ' ρ₁:Ro}{σ σ' σ₁:Led}{T:Tops}{n:Nat}{R R':PV→Led→Prop}{K:PF→Ro→Led→Prop}
theorem picked_list (b:List UInt8) (lo hi:Option Int):KBy.picked b.toArray lo hi=(sl b lo hi).toArray:=by
 rw[KBc.picked_eq]
 unfold sl
 simp
theorem pe_sliceB {v:Expr}{l u:Option Expr}{p pos:Pos}{a:List UInt8}{lo hi:Option Int}(hv:PE prog w X v ρ σ (.bytes a)) (hl:PaE prog w X l ρ σ lo) (hu:PaE prog w X u ρ σ hi) (hn:a.length≤16777216)
  (ht: ∀x r,letTemporaryGo v (.bytes x 0) r=pure ():=by intro _ _;rfl):PE prog w X (.Subscript v (.Slice l u none p) pos) ρ σ (.bytes (sl a lo hi)):=fun s I=>by
 refine PyProof.Rows.Subscript_ (wpAny_mono (hv s I) (fun x s₁ q=> ?_) fun _ _ f=>f)
 obtain⟨h1,I₁⟩:=q
 cases h1 with
 | bytes _ t=>
 refine wpAny_Slice (wpAny_mono (hl s₁ I₁) (fun vl s₂ q=>wpAny_mono (hu s₂ q.2) (fun vu s₃ q'=> ?_) fun _ _ f=>f) fun _ _ f=>f)
 obtain⟨pl,I₂⟩:=q
 obtain⟨pu,I₃⟩:=q'
 rw[evalPart_none]
 refine wpAny_pure ?_
 obtain⟨m,news,F,N,R,D⟩:=I₃.st
 have hlt: ∀r,letTemporaryGo v (.bytes a.toArray t) r=pure ():=fun r=>by have:=ht a.toArray r;cases v<;>first | rfl | exact this
 refine KBc.slice_K F N (ks:=a.map fun c=>(c.toNat:Int)) (KBw.ints_list a) pl pu (by simpa using hn) (fun h' t' k F' N' _=> ?_) rfl hlt
 rw[picked_list]
 exact⟨.bytes _ _,I₃.heap R D F' N'⟩
theorem pe_catB {l r:Expr}{pos:Pos}{a b:List UInt8}(hl:PE prog w X l ρ σ (.bytes a)) (hr:PE prog w X r ρ σ (.bytes b)) (h:a.length+b.length≤16777216):PE prog w X (.BinOp l .Add r pos) ρ σ (.bytes (a++b)):=
 pe_bin hl hr fun _ _ h₁ h₂ _ I=>by
  cases h₁;cases h₂
  exact bytes_add_K (by simpa using h) rfl fun t' k=>⟨.bytes _ _,I.tick _⟩
theorem cm_eqB {a b:List UInt8}:Cm prog w X .Eq (.bytes a) (.bytes b) ρ σ (a==b):=fun u v h1 h2 s I=>by cases h1;cases h2;exact eq_bytes ⟨by simp,I⟩
theorem c_int {a:Int}(us:List Value) (h:VRs [.int a] us):PEt prog w X (call (.type "int") us) ρ σ (.int a):=fun s I=>by
 obtain⟨u,rfl,hu⟩:=h.one
 cases hu
 exact call_int_int ⟨.int _ _,I⟩
theorem c_divmod {a b:Int}(hb:b≠0) (hp:Builtin.divisionGoesByPylong a b=false) (us:List Value) (h:VRs [.int a,.int b] us):NEt prog w X (call (.builtin "divmod") us) ρ σ (isT [.int (a.fdiv b),.int (a.fmod b)]):=fun s I=>by
 obtain⟨u,v,rfl,hu,hv⟩:=h.two
 cases hu;cases hv
 obtain⟨m,news,F,N,R,D⟩:=I.st
 refine divmod_N F N hb (fun h' F' N'=>⟨_,rfl,⟨m,_,F',N',R,.cons ⟨_,_,.cons (.int _ _) (.cons (.int _ _) .nil),rfl⟩ D⟩,?_,I.ks,I.kn,I.gens,I.os⟩) (.inl hp)
 exact(I.push (P:=isL []) (o:={cls:=.type "list",data:=.seq ([]:List Value).toArray}) ⟨[],0,.nil,rfl⟩ rfl (tk:=s.toks)).nd
theorem ne_call_b {x:Str}{p pos:Pos}{args:List Expr}{id:String}{vs:List PV}{P:Obj→Prop}(hf:XE prog w X (.Name x p) ρ σ (.builtin id)) (ha:AE prog w X args pos ρ σ vs)
  (hc: ∀us,VRs vs us→NEt prog w X (call (.builtin id) us) ρ σ P) (hp:(backTo pos (starEach args X.env)).any (·.1)=false:=by rfl):NE prog w X (.Call (.Name x p) args [] pos) ρ σ P:=
 ev_call_b hf (ag_of_ae ha) (fun vs' σ' r us hv=>by obtain⟨rfl,e⟩:=r;have e':=e.symm;subst e';exact hc us hv) hp
theorem noPyl {a b:Int}(h:b.natAbs<1073741824):Builtin.divisionGoesByPylong a b=false:=PyProof.noPylong_small h
end
end Mine
end
section
set_option maxRecDepth 100000
open PySem PySem.W PyProof.Rows PySem.Calls
namespace Mine
noncomputable def joinS (x:List Nat):List (List Nat)→List Nat
 | []=>[]
 | [a]=>a
 | a::b::r=>a++x++joinS x (b::r)
theorem joinT_eq (x:List Nat): ∀l,joinT x l=joinS x l:=by
 intro l
 have key: ∀l:List (List Nat),(Str.join (mk x) (l.map mk))=mk (joinS x l):=by
  intro l
  induction l with
  | nil=>rfl
  | cons a r ih=>
   cases r with
   | nil=>rfl
   | cons b r=>
    show mk a++mk x++Str.join (mk x) (mk b::r.map mk)=mk (a++x++joinS x (b::r))
    have ih':Str.join (mk x) (mk b::r.map mk)=mk (joinS x (b::r)):=ih
    rw[ih']
    show (⟨(a.toArray++x.toArray)++(joinS x (b::r)).toArray⟩:Str)=⟨(a++x++joinS x (b::r)).toArray⟩
    simp
 unfold joinT
 have e:Txt.join (mk x) (l.map mk)=Str.join (mk x) (l.map mk):=StrLaws.glued_eq_join _ _
 rw[e,key]
theorem joinS_nil: ∀l,joinS [] l=l.flatten
 | []=>rfl
 | [a]=>by simp[joinS]
 | a::b::r=>by
  have:=joinS_nil (b::r)
  simp only[joinS,this]
  simp
section
variable {prog:Program}{w:World}{X:Cx}{ρ ρ' ρ₁:Ro}{σ σ' σ₁:Led}{T:Tops}{n:Nat}{R R':PV→Led→Prop}{K:PF→Ro→Led→Prop}
theorem pe_join {x e:Expr}{apos p:Pos}{sep:List Nat}{l:List (List Nat)}{pl:Sem Bool}(hx:PE prog w X x ρ σ (.str sep)) (h:GE prog w X e ρ σ R) (hR: ∀v σ',R v σ'→ ∃a,v= .ref a∧(a,isL (pvS l))∈σ'∧σ.Sublist σ')
  (hn:(l.map (·.length)).sum+l.length*sep.length≤16777216)
  (hq:eval ((x.Attribute ("join":Str) apos).Call [e] [] p) X.env=(do let ov ←eval x X.env;standAt apos.atName;let fx ←holding [ov] (getMethod ov ("join":Str) pl);match fx with | (f,first)=>callWith p f first (backTo p (starEach [e] X.env)) []):=by rfl)
  (he:starEach [e] X.env=[(false,eval e X.env)]:=by rfl):
  PE prog w X (.Call (.Attribute x ("join":Str) apos) [e] [] p) ρ σ (.str (joinS sep l)):=
 pe_of_ge (R:=fun v σ'=>v= .str (joinS sep l)∧σ.Sublist σ') (ev_meth (R:=fun v σ'=>v= .str sep∧σ'=σ) (ge_of_pe hx) (fun v σ₀ r=>by
  obtain⟨rfl,e⟩:=r
  have e':=e.symm
  subst e'
  refine⟨m_of (fun x t s pl Q h=>GM.join h) _,_,ag1 h he,fun vs σ₂ r u us hu hus=> ?_⟩
  obtain⟨v,rfl,r⟩:=r
  obtain⟨a,rfl,hm,hs⟩:=hR v σ₂ r
  refine(vx_of_pe (c_join (.inl hm) hn u us hu hus)).mono fun v' σ₃ q=> ?_
  obtain⟨rfl,rfl⟩:=q
  exact⟨by rw[joinT_eq],hs⟩) hq (by rw[he];rfl)) fun v σ' r=>r
theorem pe_joinC {x e:Expr}{apos p:Pos}{sep:List Nat}{l:List (List Nat)}{pl:Sem Bool}(hx:PE prog w X x ρ σ (.str sep)) (h:NE prog w X e ρ σ (isL (pvS l)))
  (hn:(l.map (·.length)).sum+l.length*sep.length≤16777216)
  (hq:eval ((x.Attribute ("join":Str) apos).Call [e] [] p) X.env=(do let ov ←eval x X.env;standAt apos.atName;let fx ←holding [ov] (getMethod ov ("join":Str) pl);match fx with | (f,first)=>callWith p f first (backTo p (starEach [e] X.env)) []):=by rfl)
  (he:starEach [e] X.env=[(false,eval e X.env)]:=by rfl):
  PE prog w X (.Call (.Attribute x ("join":Str) apos) [e] [] p) ρ σ (.str (joinS sep l)):=
 pe_join hx (ge_of_ne h) (fun v σ' r=>by obtain⟨a,rfl,rfl⟩:=r;exact⟨a,rfl,.head _,.cons _ (.refl _)⟩) hn hq he
end
end Mine
namespace Mine
theorem range_map {α β:Type}(l:List α) (d:α) (g:α→β):((List.range l.length).map fun i=>g (l.getD i d))=l.map g:=by
 apply List.ext_getElem
 ·simp
 ·intro i h1 h2
  simp only[List.length_map,List.length_range] at h1
  simp[List.getD_eq_getElem?_getD,List.getElem?_eq_getElem h1]
theorem sum_ones {α:Type}(l:List α) (f:α→List Nat) (h: ∀a∈l,(f a).length=1):((l.map f).map (·.length)).sum=l.length:=by
 induction l with
 | nil=>rfl
 | cons a r ih=>
  simp only[List.map_cons,List.sum_cons,List.length_cons]
  rw[ih fun b hb=>h b (.tail _ hb),h a (.head _)];omega
theorem flat_ones {α:Type}(l:List α) (f:α→Nat):(l.map fun a=>[f a]).flatten=l.map f:=by
 induction l with
 | nil=>rfl
 | cons a r ih=>simp[ih]
end Mine
namespace Mine
theorem sl_to {α:Type}(l:List α) (k:Nat):sl l none (some (k:Int))=l.take k:=by
 unfold sl
 simp only[Option.elim,clipAt_nat,List.drop_zero,Nat.sub_zero]
 rcases Nat.le_total k l.length with h | h
 ·rw[Nat.min_eq_left h]
 ·rw[Nat.min_eq_right h,List.take_of_length_le (Nat.le_refl _),List.take_of_length_le h]
theorem sl_from {α:Type}(l:List α) (k:Nat):sl l (some (k:Int)) none=l.drop k:=by
 unfold sl
 simp only[Option.elim,clipAt_nat]
 rcases Nat.le_total k l.length with h | h
 ·rw[Nat.min_eq_left h,List.take_of_length_le (by simp)]
 ·rw[Nat.min_eq_right h];simp[List.drop_of_length_le h]
theorem sl_mid {α:Type}(l:List α) (a b:Nat):sl l (some (a:Int)) (some (b:Int))=(l.drop a).take (b-a):=by
 unfold sl
 simp only[Option.elim,clipAt_nat]
 rcases Nat.le_total a l.length with h | h
 ·rw[Nat.min_eq_left h]
  rcases Nat.le_total b l.length with h2 | h2
  ·rw[Nat.min_eq_left h2]
  ·rw[Nat.min_eq_right h2,List.take_of_length_le (by simp),List.take_of_length_le (by simp;omega)]
 ·rw[Nat.min_eq_right h];simp[List.drop_of_length_le h]
end Mine
end
section
set_option maxRecDepth 100000
open PySem PySem.W PyProof.Rows PySem.Calls
namespace Mine
noncomputable def isSI (l:List Int):Obj→Prop:=fun o=> ∃es ep t,o.ExactSet∧o.data= .set es ep t∧(∀e∈es.toList,∃k u,e=(hashInt k,.int k u)∧k∈l)∧(∀k∈l,∃e∈es.toList,∃u,e.2= .int k u)∧es.size<scanBound∧t.fits es.size=true
theorem isSI.set {prog:Program}{w:World}{l:List Int}{o:Obj}{h:Heap}{a:Addr}(x:isSI l o) (e:h.get? a=some o): ∃n,h.SetOf (intKind prog w) a (fun k=>decide (k∈l)) n:=by
 obtain⟨es,ep,t,h1,h2,h3,h4,h5,h6⟩:=x
 refine⟨es.size,o,es,ep,t,e,h1,h2,fun e he=> ?_,fun k=> ?_,h5,h6,rfl⟩
 ·obtain⟨k,u,rfl,_⟩:=h3 e he
  exact⟨⟨k,intKind_is prog w k u,rfl⟩,rfl⟩
 ·simp only[decide_eq_true_eq]
  constructor
  ·intro hk
   obtain⟨e,he,u,hu⟩:=h4 k hk
   exact⟨e,he,by rw[hu];exact intKind_is prog w k u⟩
  ·rintro ⟨e,he,hk⟩
   obtain⟨k',u,rfl,hm⟩:=h3 e he
   have:k=k':=by
    simp[intKind,Value.isInt] at hk
    exact hk.symm
   rw[this];exact hm
inductive TabIs:List DictEntry→List (Int×Str)→Prop
 | nil:TabIs [] []
 | cons (k:Int) (t:Tok) (v:Str) (u:Tok) {es l} (h:TabIs es l):TabIs (⟨hashInt k,.int k t,.str v u⟩::es) ((k,v)::l)
noncomputable def isTI (l:List (Int×Str)):Obj→Prop:=fun o=> ∃es ep,o.ExactDict∧o.data= .dict es ep∧TabIs es.toList l
theorem TabIs.find {es:List DictEntry}{l:List (Int×Str)}(h:TabIs es l) (k:Int): ∃f:Option Value,(es.find? fun e=>Value.isInt k e.key).map (·.val)=f∧VRo ((l.lookup k).map fun s=>.str s.cps.toList) f:=by
 induction h with
 | nil=>exact⟨none,rfl,.none⟩
 | cons k' t v u h ih=>
  by_cases e:k=k'
  ·subst e
   refine⟨some (.str v u),?_,?_⟩
   ·rw[List.find?_cons_of_pos (by simp[Value.isInt])];rfl
   ·rw[List.lookup_cons_self]
    have:=VR.str v.cps.toList u
    rw[mk_cps] at this
    exact .some this
  ·obtain⟨f,h1,h2⟩:=ih
   refine⟨f,?_,?_⟩
   ·rw[List.find?_cons_of_neg (by simp[Value.isInt];exact fun q=>e q.symm)];exact h1
   ·rw[List.lookup_cons,show (k==k')=false by simpa using e];exact h2
theorem TabIs.keys {prog:Program}{w:World}{es:List DictEntry}{l:List (Int×Str)}(h:TabIs es l): ∀e∈es,∃k,(intKind prog w).is k e.key=true∧e.hash=(intKind prog w).hash k:=by
 induction h with
 | nil=>intro e he;cases he
 | cons k t v u h ih=>
  intro e he
  rcases List.mem_cons.mp he with rfl | he
  ·exact⟨k,intKind_is prog w k t,rfl⟩
  ·exact ih e he
theorem isTI.map {prog:Program}{w:World}{l:List (Int×Str)}{o:Obj}{h:Heap}{a:Addr}(x:isTI l o) (e:h.get? a=some o): ∃f,h.MapOf (intKind prog w) a f∧ ∀k,VRo ((l.lookup k).map fun s=>.str s.cps.toList) (f k):=by
 obtain⟨es,ep,h1,h2,h3⟩:=x
 refine⟨findBy (intKind prog w).is es,⟨o,es,ep,e,h1,h2,fun e he=>h3.keys e (by simpa using he),fun k=>rfl⟩,fun k=> ?_⟩
 obtain⟨f,hf,hv⟩:=h3.find k
 have:findBy (intKind prog w).is es k=f:=by
  rw[←hf]
  unfold findBy
  rw[←Array.find?_toList];rfl
 rw[this];exact hv
section
variable {prog:Program}{w:World}{X:Cx}{ρ ρ' ρ₁:Ro}{σ σ' σ₁:Led}{T:Tops}{n:Nat}{R R':PV→Led→Prop}{K:PF→Ro→Led→Prop}
theorem cm_inSI {a:Addr}{l:List Int}{k:Int}(hm:At X σ a (isSI l)):Cm prog w X .In (.int k) (.ref a) ρ σ (decide (k∈l)):=fun u v h1 h2 s I=>by
 cases h1;cases h2
 obtain⟨o,ho,po⟩:=hm.obj I
 obtain⟨n,hs⟩:=po.set (prog:=prog) (w:=w) ho
 exact wpAny_inSet_of (intKind_is prog w _ _) rfl hs ⟨rfl,I.tick _⟩
theorem m_get {a:Addr}{l:List (Int×Str)}(hm:At X σ a (isTI l)) {pl:Sem Bool}(u:Value) (s:Shared) (Q:Value×List Value→Shared→Prop) (hu:VR (.ref a) u) (I:Inv X ρ σ s) (hQ:Q (.builtin "dict.get",[u]) s):
  wpAny (model prog w) X.A (getMethod u ("get":Str) pl) Q (fun _ _=>False) s:=by
 cases hu
 obtain⟨o,ho,po⟩:=hm.obj I
 obtain⟨f,hf,_⟩:=po.map (prog:=prog) (w:=w) ho
 exact getMethod_builtin hf.typeIs PySem.F.plainAttrs_dict PySem.F.slot_dict_get PySem.F.type_dict_get hf.noDict hQ
theorem c_get {a:Addr}{l:List (Int×Str)}{k:Int}{v:PV}(hm:At X σ a (isTI l)) (hs:(a==sysModules)=false) (hv:(match l.lookup k with | some s=>.str s.cps.toList | none=>.none)=v) (u:Value) (us:List Value) (hu:VR (.ref a) u) (h:VRs [.int k] us):
  PEt prog w X (call (.builtin "dict.get") (u::us)) ρ σ v:=fun s I=>by
 cases hu
 obtain⟨u,rfl,hu⟩:=h.one
 cases hu
 obtain⟨o,ho,po⟩:=hm.obj I
 obtain⟨f,hf,hfv⟩:=po.map (prog:=prog) (w:=w) ho
 refine call_meetsIn PySem.F.slot_dict_get hf.typeIs PySem.F.entry_dict_get (PySem.F.args_dict_get_2 _ _) (meets_dict_get (intKind prog w) a (intKind_is prog w _ _) hs) ⟨f,hf,?_,I.tick _⟩
 have q:=hfv k
 subst hv
 cases hl:l.lookup k with
 | none=>rw[hl] at q;cases hk:f k with | none=>exact .none | some v=>rw[hk] at q;cases q
 | some s=>rw[hl] at q;cases hk:f k with | none=>rw[hk] at q;cases q | some v=>rw[hk] at q;cases q with | some q=>exact q
end
end Mine
end
section
set_option maxRecDepth 100000
open PySem PySem.W PyProof.Rows PySem.Calls
namespace Mine
section
variable {prog:Program}{w:World}{X:Cx}{ρ ρ' ρ₁:Ro}{σ σ' σ₁:Led}{T:Tops}{n:Nat}{R R':PV→Led→Prop}{K:PF→Ro→Led→Prop}
theorem s1_assert {test:Expr}{msg:Option Expr}{pos:Pos}(h:BE prog w X test ρ σ true) (k:K .next ρ σ):S1 prog w X (.Assert test msg pos) ρ σ K:=fun s I=>
 wpAny_Assert_holds (wpAny_mono (h s I) (fun b s' q=>⟨q.1,_,_,_,k,.next,q.2⟩) fun _ _ f=>f)
theorem ne_meth {o:Expr}{name:Str}{apos pos:Pos}{args:List Expr}{pl:Sem Bool}{a:PV}{id:String}{vs:List PV}{P:Obj→Prop}(ho:PE prog w X o ρ σ a)
  (hm: ∀(u:Value) (s:Shared) (Q:Value×List Value→Shared→Prop),VR a u→Inv X ρ σ s→Q (.builtin id,[u]) s→wpAny (model prog w) X.A (getMethod u name pl) Q (fun _ _=>False) s)
  (ha:AE prog w X args pos ρ σ vs) (hc: ∀u us,VR a u→VRs vs us→NEt prog w X (call (.builtin id) (u::us)) ρ σ P)
  (heq:eval ((o.Attribute name apos).Call args [] pos) X.env=(do let ov ←eval o X.env;standAt apos.atName;let fx ←holding [ov] (getMethod ov name pl);match fx with | (f,first)=>callWith pos f first (backTo pos (starEach args X.env)) []):=by rfl)
  (hp:(backTo pos (starEach args X.env)).any (·.1)=false:=by rfl):NE prog w X (.Call (.Attribute o name apos) args [] pos) ρ σ P:=
 ev_meth (R:=fun v σ'=>v=a∧σ'=σ) (ge_of_pe ho) (fun v σ₀ r=>by
  obtain⟨rfl,e⟩:=r
  have e':=e.symm
  subst e'
  refine⟨hm,_,ag_of_ae ha,fun vs' σ₂ r u us hu hus=> ?_⟩
  obtain⟨rfl,rfl⟩:=r
  exact hc u us hu hus) heq hp
theorem pe_call_f' {x:Str}{p pos:Pos}{args:List Expr}{fa:Addr}{vs:List PV}{v:PV}{k:Nat}(O:XOK T n X) (hF:CallF X σ) (hi:IsFn T fa) (hf:XE prog w X (.Name x p) ρ σ (.ref fa)) (ha:AE prog w X args pos ρ σ vs)
  (hc:FnP prog w T k (.ref fa) vs v) (hk:k≤n):PE prog w X (.Call (.Name x p) args [] pos) ρ σ v:=pe_call_f O hF hi hf ha (hc.le hk)
end
end Mine
end
section
set_option maxRecDepth 100000
set_option maxHeartbeats 4000000
open PySem PySem.W PyProof.Rows PySem.Calls
namespace Mine
noncomputable def ST (i:Nat):Stmt:=nthS PySem.Challenge.pw_wr0055_01.main.body i
noncomputable def tabOf:Stmt→List (Int×Str)
 | .Assign _ (.Dict ks vs _) _=>(ks.zip vs).filterMap fun | (some (.Constant (.int k) _ _),.Constant (.str s) _ _)=>some (k,s) | _=>none
 | _=>[]
noncomputable def b1L:List Int:=[173,847,6150,6155,6156,6157,8203,8204,8205,8288,65279]++(List.range 16).map fun i=>((65024+i:Nat):Int)
noncomputable def b3L:List (Int×Str):=tabOf (ST 4)
structure Names (T:Tops):Prop where
 abs:T.mg "abs"=none∧T.mb "abs"=some (.builtin "abs")
 int:T.mg "int"=none∧T.mb "int"=some (.type "int")
 divmod:T.mg "divmod"=none∧T.mb "divmod"=some (.builtin "divmod")
 len:T.mg "len"=none∧T.mb "len"=some (.builtin "len")
 chr:T.mg "chr"=none∧T.mb "chr"=some (.builtin "chr")
 ord:T.mg "ord"=none∧T.mb "ord"=some (.builtin "ord")
 range:T.mg "range"=none∧T.mb "range"=some (.type "range")
 min:T.mg "min"=none∧T.mb "min"=some (.builtin "min")
 max:T.mg "max"=none∧T.mb "max"=some (.builtin "max")
structure Ads where
 ap:Addr
 word:Addr
 typed:Addr
 turn:Addr
 ell:Addr
 b1:Addr
 c11:Addr
 b3:Addr
 set:Addr
 tab:Addr
structure Text (T:Tops) (a:Ads):Prop where
 ap:IsDef T "Int2AP" "Int2AP" (ST 16) a.ap
 gap:T.mg "Int2AP"=some (.ref a.ap)
 word:IsDef T "_law_word" "_law_word" (ST 18) a.word
 gword:T.mg "_law_word"=some (.ref a.word)
 typed:IsDef T "_law_typed" "_law_typed" (ST 19) a.typed
 gtyped:T.mg "_law_typed"=some (.ref a.typed)
 ell:IsDef T "_ellipsis_match" "_ellipsis_match" (ST 9) a.ell
 gell:T.mg "_ellipsis_match"=some (.ref a.ell)
 b1:IsDef T "in_table_b1" "in_table_b1" (ST 3) a.b1
 gb1:T.mg "in_table_b1"=some (.ref a.b1)
 b3:IsDef T "map_table_b3" "map_table_b3" (ST 5) a.b3
 gb3:T.mg "map_table_b3"=some (.ref a.b3)
 c11:IsDef T "in_table_c11" "in_table_c11" (ST 6) a.c11
 gc11:T.mg "in_table_c11"=some (.ref a.c11)
 set:T.mg "b1_set"=some (.ref a.set)
 oset: ∃o,T.K.lookup a.set=some o∧isSI b1L o
 tab:T.mg "b3_exceptions"=some (.ref a.tab)
 otab: ∃o,T.K.lookup a.tab=some o∧isTI b3L o
 ntab:(a.tab==sysModules)=false
 dots: ∃t,T.mg "ELLIPSIS_MARKER"=some (.str (mk [46,46,46]) t)
 nl: ∃t,T.mg "NL"=some (.str (mk [10]) t)
 empty: ∃t,T.mg "EMPTYSTRING"=some (.str (mk []) t)
noncomputable def apB (n:Nat):List UInt8:=(hexs n).map fun d=>(65+d).toUInt8
section
variable {prog:Program}{w:World}{T:Tops}{n:Nat}
theorem c11_fn {fa:Addr}(D:IsDef T "in_table_c11" "in_table_c11" (ST 6) fa) {c:List Nat}:FnP prog w T (n+1) (.ref fa) [.str c] (.bool (c==[32])):=
 def_pure D ["code"] [] (fun _ _ _ _ _ _ us hl=>by match us,hl with | [u],_=>rfl) (by decide) (by decide) rfl (by decide) rfl rfl rfl (fun A L g os cdv σ O Y=>by
  show SE _ _ _ _ [(("code":Str),some (.str c))] σ _
  refine se_cons (s1_return ?_ ⟨rfl,.refl _⟩)
  exact pe_cmp (pe_local Y (.head _)) pe_str cm_eqs)
theorem hexs_pos {n:Nat}(h:n≠0):hexs n=hexs (n/16)++[n%16]:=by
 cases n with
 | zero=>exact absurd rfl h
 | succ n=>rw[hexs]
theorem hexs_len: ∀(k n:Nat),n<16^k→(hexs n).length≤k
 | 0,n,h=>by
  have:n=0:=by simpa using h
  subst this;simp[hexs]
 | k+1,n,h=>by
  by_cases e:n=0
  ·subst e;simp[hexs]
  ·rw[hexs_pos e,List.length_append]
   have:=hexs_len k (n/16) (by rw[Nat.div_lt_iff_lt_mul (by decide)];rwa [Nat.pow_succ] at h)
   simp;omega
theorem ap_cut: ∀r:Nat,r<16→sl [65,66,67,68,69,70,71,72,73,74,75,76,77,78,79,80] (some (r:Int)) (some ((r:Int)+1))=[(65+r).toUInt8]:=by decide
theorem ap_fn {fa:Addr}(D:IsDef T "Int2AP" "Int2AP" (ST 16) fa) (G:Names T) {i:Int}(hb:i.natAbs<16^8):FnP prog w T (n+1) (.ref fa) [.int i] (.bytes (apB i.natAbs)):=
 def_pure D ["num"] ["val","AP","mod"] (fun _ _ _ _ _ _ us hl=>by match us,hl with | [u],_=>rfl) (by decide) (by decide) rfl (by decide) rfl rfl rfl (fun A L g os cdv σ O Y=>by
  show SE _ _ _ _ [(("num":Str),some (.int i)),(("val":Str),none),(("AP":Str),none),(("mod":Str),none)] σ _
  refine se_cons (s1_assign Y pe_bytes (.there .here) ?_)
  refine se_cons (s1_assign Y pe_bytes (.there (.there .here)) ?_)
  refine se_cons (s1_assign Y (pe_call_t (xe_built O rfl G.int.1 G.int.2) (ae1 (pe_call_b (xe_built O rfl G.abs.1 G.abs.2) (ae1 (pe_local Y (.head _))) c_abs)) c_int) .here ?_)
  refine se_cons (s1_while (fun m ρ σ'=>σ'=σ∧ ∃(k:Nat) (l:List UInt8) (o:Option PV),m=k∧k<16^8∧ρ=[(("num":Str),some (.int k)),(("val":Str),some (.bytes l)),(("AP":Str),some (.bytes [65,66,67,68,69,70,71,72,73,74,75,76,77,78,79,80])),(("mod":Str),o)]∧apB k++l=apB i.natAbs∧l.length≤100000) i.natAbs
   ⟨rfl,i.natAbs,[],none,rfl,hb,?_,by simp,by simp⟩ ?_)
  ·have e:(if i<0 then-i else i)=(i.natAbs:Int):=by omega
   rw[e]
  ·rintro m ρ σ' ⟨rfl,k,l,o,rfl,hk,rfl,hl,hlen⟩
   refine⟨_,be_truthy (pe_local Y (.head _)) (fun u s h I=>tr_int u s h I),fun hne=> ?_,fun h0=> ?_⟩
   ·refine se_cons (s1_unpack (ts:=[assign _ _,assign _ _]) (ge_of_ne (ne_call_b (xe_built O rfl G.divmod.1 G.divmod.2) (ae2 (pe_local Y (.head _)) pe_int) (c_divmod (by decide) (noPyl (by decide))))) (fun v σ' r=> ?_) rfl)
    obtain⟨a,rfl,rfl⟩:=r
    refine⟨a,_,rfl,un_tuple O.hh (.head _),rfl,ts_cons (tg_name (fun u hu=>store_local Y .here hu)) (ts_cons (tg_name (fun u hu=>store_local Y (.there (.there (.there .here))) hu)) (ts_nil ?_))⟩
    have hm0:m≠0:=by intro e;subst e;simp at hne
    have e1:(m:Int).fdiv 16=((m/16:Nat):Int):=by rw[Int.fdiv_eq_ediv_of_nonneg _ (by omega)];omega
    have e2:(m:Int).fmod 16=((m%16:Nat):Int):=by rw[Int.fmod_eq_emod_of_nonneg _ (by omega)];omega
    have ha:=hl
    have e3:sl [65,66,67,68,69,70,71,72,73,74,75,76,77,78,79,80] (some ((m:Int).fmod 16)) (some ((m:Int).fmod 16+1))=[(65+m%16).toUInt8]:=by
     rw[e2]
     exact ap_cut _ (Nat.mod_lt _ (by decide))
    have hap:apB m=apB (m/16)++[(65+m%16).toUInt8]:=by
     unfold apB;rw[hexs_pos hm0,List.map_append];rfl
    refine se_cons (s1_assign Y (pe_catB (pe_sliceB (pe_local Y mI2) (pa_some (pe_local Y mI3)) (pa_some (pe_add (pe_local Y mI3) pe_int)) (by decide)) (pe_local Y mI1) ?_) (.there .here) ?_)
    ·rw[e3];simp;omega
    ·rw[e3,e1]
     refine se_nil ⟨m/16,σ',by omega,⟨rfl,m/16,_,_,rfl,by omega,rfl,?_,?_⟩,.cons _ (.refl _)⟩
     ·rw[←hl,hap];simp
     ·have h1:(apB m).length≤8:=by unfold apB;rw[List.length_map];exact hexs_len 8 m hk
      have h2:(apB i.natAbs).length≤8:=by unfold apB;rw[List.length_map];exact hexs_len 8 _ hb
      rw[←hl] at h2
      simp at h2 ⊢;omega
   ·have hm0:m=0:=by simpa using h0
    subst hm0
    refine se_nil (se_cons (s1_return (pe_local Y mI1) ⟨?_,.refl _⟩))
    have:apB 0=[]:=by simp[apB,hexs]
    rw[←hl,this];rfl)
noncomputable def wordS (n sz:Nat):List Nat:=List.replicate (sz-(hexs n).length) 97++(hexs n).map (97+ ·)
theorem hexs_lt: ∀(n:Nat),∀d∈hexs n,d<16:=by
 intro n
 induction n using Nat.strongRecOn with
 | ind n ih=>
  by_cases e:n=0
  ·subst e;simp[hexs]
  ·rw[hexs_pos e]
   intro d hd
   rcases List.mem_append.mp hd with h | h
   ·exact ih (n/16) (by omega) d h
   ·rw[List.mem_singleton.mp h];exact Nat.mod_lt _ (by decide)
theorem hexs_head: ∀(n:Nat),n≠0→ ∃d r,hexs n=d::r∧d≠0:=by
 intro n
 induction n using Nat.strongRecOn with
 | ind n ih=>
  intro e
  rw[hexs_pos e]
  by_cases h:n/16=0
  ·rw[h]
   exact⟨n%16,[],by simp[hexs],by omega⟩
  ·obtain⟨d,r,h1,h2⟩:=ih (n/16) (by omega) h
   exact⟨d,r++[n%16],by rw[h1];rfl,h2⟩
theorem apB_head (n:Nat):(sl (apB n) none (some 1)==[65])=false:=by
 by_cases e:n=0
 ·subst e;simp[apB,hexs,sl]
 ·obtain⟨d,r,h1,h2⟩:=hexs_head n e
  have hd:d<16:=hexs_lt n d (by rw[h1];exact .head _)
  have e2:sl (apB n) none (some 1)=[(65+d).toUInt8]:=by
   rw[show (some (1:Int))=some ((1:Nat):Int) from rfl,sl_to]
   unfold apB
   rw[h1];rfl
  rw[e2]
  have: ∀d:Nat,d<16→d≠0→([(65+d).toUInt8]==[65])=false:=by decide
  exact this d hd h2
theorem apB_up (n:Nat):(apB n).map (fun c=>((c.toNat:Int)+32).toNat)=(hexs n).map (97+ ·):=by
 unfold apB
 rw[List.map_map]
 refine List.map_congr_left fun d hd=> ?_
 have:=hexs_lt n d hd
 have key: ∀d:Nat,d<16→((((65+d).toUInt8.toNat:Nat):Int)+32).toNat=97+d:=by decide
 exact key d this
theorem word_fn {a:Ads}(D:Text T a) (G:Names T) {i:Int}{sz:Nat}(hb:i.natAbs<16^8) (hs:(hexs i.natAbs).length≤sz) (hz:sz≤1000):FnP prog w T (n+2) (.ref a.word) [.int i,.int sz] (.str (wordS i.natAbs sz)):=
 def_pure D.word ["number","size"] ["told"] (fun _ _ _ _ _ _ us hl=>by match us,hl with | [u,v],_=>rfl) (by decide) (by decide) rfl (by decide) rfl rfl rfl (fun A L g os cdv σ O Y=>by
  show SE _ _ _ _ [(("number":Str),some (.int i)),(("size":Str),some (.int sz)),(("told":Str),none)] σ _
  have h8:(apB i.natAbs).length≤8:=by unfold apB;rw[List.length_map];exact hexs_len 8 _ hb
  have hl:(apB i.natAbs).length=(hexs i.natAbs).length:=by unfold apB;rw[List.length_map]
  refine se_cons (s1_assign Y (pe_call_f O (.inl rfl) D.ap.isFn (xe_glob O rfl D.gap) (ae1 (pe_local Y (.head _))) ((ap_fn (n:=n) D.ap G hb).le (by omega))) (.there (.there .here)) ?_)
  refine se_cons (s1_if (be_cmp (pe_sliceB (pe_local Y mI2) pa_none (pa_some pe_int) (by omega)) pe_bytes cm_eqB) (fun h=> ?_) (fun _=>se_nil ?_))
  ·rw[apB_head] at h;cases h
  ·refine se_cons (s1_return (v:=.str (wordS i.natAbs sz)) ?_ ⟨rfl,.refl _⟩)
   have e:wordS i.natAbs sz=rep [97] ((sz:Int)-(apB i.natAbs).length)++joinS [] ((apB i.natAbs).map fun c=>[((c.toNat:Int)+32).toNat]):=by
    rw[joinS_nil,flat_ones]
    unfold wordS rep
    have e1:((sz:Int)-(apB i.natAbs).length).toNat=sz-(hexs i.natAbs).length:=by rw[hl];omega
    rw[e1]
    rw[apB_up]
    congr 1
    induction (sz-(hexs i.natAbs).length) with
    | zero=>rfl
    | succ k ih=>rw[List.replicate_succ,List.replicate_succ,List.flatten_cons,←ih];rfl
   rw[e]
   have hc:((List.range (apB i.natAbs).length).map fun j=>PV.str [((((apB i.natAbs).getD j 0).toNat:Int)+32).toNat])=pvS ((apB i.natAbs).map fun c=>[((c.toNat:Int)+32).toNat]):=by
    rw[range_map (apB i.natAbs) 0 (fun c=>PV.str [((c.toNat:Int)+32).toNat])]
    unfold pvS;rw[List.map_map];rfl
   refine pe_cat (pe_rep pe_str (pe_sub (pe_local Y mI1) (pe_call_b (xe_built O rfl G.len.1 G.len.2) (ae1 (pe_local Y mI2)) (c_len_bytes (by omega)))) ?_ ?_ ?_) (pe_joinC pe_str (hc ▸ ne_comp (cl:=[]) seqs_bytes (fun j=>.str [((((apB i.natAbs).getD j 0).toNat:Int)+32).toNat]) rfl O.hh rfl (by decide) rfl (by decide) rfl (it_bytes (pe_local Y mI2)) (fun _ _=>trivial) (by omega) (fun C σ₁ j hj hm=> ?_)) ?_) ?_
   ·decide
   ·omega
   ·omega
   ·exact pe_call_b (xe_built (O.comp rfl) rfl G.chr.1 G.chr.2) (ae1 (pe_add (pe_local (Lay.comp rfl rfl) (.head _)) pe_int)) (c_chr (by omega) (by have:=((apB i.natAbs).getD j 0).toNat_lt;omega))
   ·rw[sum_ones _ _ fun _ _=>rfl];simp;omega
   ·rw[joinS_nil,flat_ones];unfold rep;simp;omega)
noncomputable def alphs:List Nat:=[119808,119860,119912,120016,120172,120224,120276,120328,120380,120432]
noncomputable def typedS (c:Nat) (way:Int):Nat:=if 9<way.fmod 12 then ((c:Int)-32+way.fmod 2*32).toNat else itemT alphs (way.fmod 12)+c-97
theorem fmod_range (a:Int) {b:Int}(hb:0<b):0≤a.fmod b∧a.fmod b<b:=⟨Int.fmod_nonneg_of_pos a hb,Int.fmod_lt_of_pos a hb⟩
theorem alph_item: ∀k:Nat,k<10→119808≤itemT alphs k∧itemT alphs k≤120432:=by decide
theorem typed_fn {a:Ads}(D:Text T a) (G:Names T) {c:Nat}{way:Int}(h1:97≤c) (h2:c≤122):FnP prog w T (n+1) (.ref a.typed) [.str [c],.int way] (.str [typedS c way]):=
 def_pure D.typed ["letter","way"] ["alphabets"] (fun _ _ _ _ _ _ us hl=>by match us,hl with | [u,v],_=>rfl) (by decide) (by decide) rfl (by decide) rfl rfl rfl (fun A L g os cdv σ O Y=>by
  show SE _ _ _ _ [(("letter":Str),some (.str [c])),(("way":Str),some (.int way)),(("alphabets":Str),none)] σ _
  have hr:=fmod_range way (b:=12) (by decide)
  have hr2:=fmod_range way (b:=2) (by decide)
  refine se_cons (s1_if (be_cmp (pe_mod (pe_local Y mI1) pe_int (by decide)) pe_int cm_gt) (fun h=> ?_) (fun h=>se_nil ?_))
  ·have h:=of_decide_eq_true h
   refine se_cons (s1_return (v:=.str [typedS c way]) ?_ ⟨rfl,.refl _⟩)
   unfold typedS
   rw[if_pos h]
   exact pe_call_b (xe_built O rfl G.chr.1 G.chr.2) (ae1 (pe_add (pe_sub (pe_call_b (xe_built O rfl G.ord.1 G.ord.2) (ae1 (pe_local Y (.head _))) c_ord) pe_int) (pe_mul (pe_mod (pe_local Y mI1) pe_int (by decide)) pe_int (PySem.IntMulOk.of_right (by decide))))) (c_chr (by omega) (by omega))
  ·have h:=of_decide_eq_false h
   have hi:=alph_item (way.fmod 12).toNat (by omega)
   rw[show ((way.fmod 12).toNat:Int)=way.fmod 12 by omega] at hi
   refine se_cons (s1_assign Y pe_str (.there (.there .here)) ?_)
   refine se_cons (s1_return (v:=.str [typedS c way]) ?_ ⟨rfl,.refl _⟩)
   unfold typedS
   rw[if_neg h]
   have e:itemT alphs (way.fmod 12)+c-97=((itemT alphs (way.fmod 12):Int)+c-97).toNat:=by omega
   rw[e]
   exact pe_call_b (xe_built O rfl G.chr.1 G.chr.2) (ae1 (pe_sub (pe_add (pe_call_b (xe_built O rfl G.ord.1 G.ord.2) (ae1 (pe_item (a:=alphs) (pe_local Y mI2) (pe_mod (pe_local Y mI1) pe_int (by decide)) (by show-(10:Int)≤_;omega) (by show _<(10:Int);omega) (by decide))) c_ord) (pe_call_b (xe_built O rfl G.ord.1 G.ord.2) (ae1 (pe_local Y (.head _))) c_ord)) pe_int)) (c_chr (by omega) (by omega)))
theorem b1_fn {a:Ads}(D:Text T a) (G:Names T) {c:Nat}:FnP prog w T (n+1) (.ref a.b1) [.str [c]] (.bool (decide ((c:Int)∈b1L))):=
 def_pure D.b1 ["code"] [] (fun _ _ _ _ _ _ us hl=>by match us,hl with | [u],_=>rfl) (by decide) (by decide) rfl (by decide) rfl rfl rfl (fun A L g os cdv σ O Y=>by
  show SE _ _ _ _ [(("code":Str),some (.str [c]))] σ _
  obtain⟨o,h1,h2⟩:=D.oset
  refine se_cons (s1_return ?_ ⟨rfl,.refl _⟩)
  exact pe_cmp (pe_call_b (xe_built O rfl G.ord.1 G.ord.2) (ae1 (pe_local Y (.head _))) c_ord) (pe_of_xe (xe_glob O rfl D.set) (.ref _)) (cm_inSI (.inr ⟨o,O.top _ _ h1,h2⟩)))
noncomputable def b3S (c:Nat):List Nat:=match b3L.lookup (c:Int) with | some s=>s.cps.toList | none=>(Txt.lower (mk [c])).cps.toList
theorem b3_fn {a:Ads}(D:Text T a) (G:Names T) {c:Nat}(hl:(Txt.lower (mk [c])).length≤16777216):FnP prog w T (n+1) (.ref a.b3) [.str [c]] (.str (b3S c)):=
 def_pure D.b3 ["code"] ["r"] (fun _ _ _ _ _ _ us hl=>by match us,hl with | [u],_=>rfl) (by decide) (by decide) rfl (by decide) rfl rfl rfl (fun A L g os cdv σ O Y=>by
  show SE _ _ _ _ [(("code":Str),some (.str [c])),(("r":Str),none)] σ _
  obtain⟨o,h1,h2⟩:=D.otab
  cases hb:b3L.lookup (c:Int) with
  | some s=>
   refine se_cons (s1_assign Y (v:=.str s.cps.toList) (pe_meth (pe_of_xe (xe_glob O rfl D.tab) (.ref _)) (fun u s Q hu I hQ=>m_get (.inr ⟨o,O.top _ _ h1,h2⟩) u s Q hu I hQ) (ae1 (pe_call_b (xe_built O rfl G.ord.1 G.ord.2) (ae1 (pe_local Y (.head _))) c_ord)) (c_get (.inr ⟨o,O.top _ _ h1,h2⟩) D.ntab (by rw[hb]))) (.there .here) ?_)
   refine se_cons (s1_if (be_cmp (pe_local Y mI1) pe_none cm_isnot_none) (fun h=> ?_) (fun h=>by cases h))
   refine se_cons (s1_return (v:=.str (b3S c)) ?_ ⟨rfl,.refl _⟩)
   unfold b3S;rw[hb]
   exact pe_local Y mI1
  | none=>
   refine se_cons (s1_assign Y (v:=.none) (pe_meth (pe_of_xe (xe_glob O rfl D.tab) (.ref _)) (fun u s Q hu I hQ=>m_get (.inr ⟨o,O.top _ _ h1,h2⟩) u s Q hu I hQ) (ae1 (pe_call_b (xe_built O rfl G.ord.1 G.ord.2) (ae1 (pe_local Y (.head _))) c_ord)) (c_get (.inr ⟨o,O.top _ _ h1,h2⟩) D.ntab (by rw[hb]))) (.there .here) ?_)
   refine se_cons (s1_if (be_cmp (pe_local Y mI1) pe_none cm_none_isnot) (fun h=>by cases h) (fun h=>se_nil ?_))
   refine se_cons (s1_return (v:=.str (b3S c)) ?_ ⟨rfl,.refl _⟩)
   unfold b3S;rw[hb]
   exact pe_meth (pe_local Y (.head _)) (m_of (fun x t s pl Q h=>GM.lower h) _) ae0 (c_lower hl))
end
end Mine
end
section
set_option maxRecDepth 100000
open PySem PySem.W PyProof.Rows PySem.Calls PySem.Builtin.Str
namespace Mine
section
variable {prog:Program}{w:World}{X:Cx}{ρ ρ' ρ₁:Ro}{σ σ' σ₁:Led}{T:Tops}{n:Nat}{R R':PV→Led→Prop}{K:PF→Ro→Led→Prop}
inductive PEs (prog:Program) (w:World) (X:Cx) (ρ:Ro) (σ:Led):List Expr→List PV→Prop
 | nil:PEs prog w X ρ σ [] []
 | cons {e v es vs} (h:PE prog w X e ρ σ v) (r:PEs prog w X ρ σ es vs):PEs prog w X ρ σ (e::es) (v::vs)
theorem PEs.sp {es:List Expr}{vs:List PV}(h:PEs prog w X ρ σ es vs):SpE prog w X (es.map fun e=>(false,eval e X.env)) ρ σ vs:=by
 induction h with
 | nil=>exact sp_nil
 | cons h r ih=>exact sp_cons h ih
theorem ne_tupleP {elts:List Expr}{k:Nat}{pos:Pos}{vs:List PV}(h:PEs prog w X ρ σ elts vs) (hl:vs.length≤16777216:=by simp) (he:backTo pos (starEach elts X.env)=elts.map (fun e=>(false,eval e X.env)):=by rfl):NE prog w X (.Tuple elts k pos) ρ σ (isT vs):=
 net_of_vx (ge_tuple he (spg_of_sp h.sp) (fun vs' σ' r=>by rw[r.1];exact hl)) fun v σ' r=>by
  obtain⟨a,vs',σ₂,rfl,rfl,rfl,rfl⟩:=r
  exact⟨a,rfl,.refl _⟩
theorem ne_listP {elts:List Expr}{pos:Pos}{vs:List PV}(h:PEs prog w X ρ σ elts vs) (hl:vs.length≤16777216:=by simp) (he:backTo pos (starEach elts X.env)=elts.map (fun e=>(false,eval e X.env)):=by rfl):NE prog w X (.List elts pos) ρ σ (isL vs):=
 net_of_vx (ge_list he (spg_of_sp h.sp) (fun vs' σ' r=>by rw[r.1];exact hl)) fun v σ' r=>by
  obtain⟨a,vs',σ₂,rfl,rfl,rfl,rfl⟩:=r
  exact⟨a,rfl,.refl _⟩
theorem pvS_length (l:List (List Nat)):(pvS l).length=l.length:=by simp[pvS]
theorem pvS_getD (l:List (List Nat)) (i:Nat) (h:i<l.length):(pvS l).getD i .none= .str (l.getD i []):=by
 simp[pvS,List.getD_eq_getElem?_getD,List.getElem?_eq_getElem h]
theorem itemL_last (l:List (List Nat)) (h:l≠[]):itemL (pvS l) (-1)= .str (l.getLastD []):=by
 have hp:0<l.length:=List.length_pos_iff.mpr h
 unfold itemL
 rw[if_pos (by decide),pvS_length]
 have e:((-1:Int)+(l.length:Int)).toNat=l.length-1:=by omega
 rw[e,pvS_getD _ _ (by omega)]
 congr 1
 rw[List.getLastD_eq_getLast?,List.getLast?_eq_getElem?,List.getD_eq_getElem?_getD]
theorem itemL_first (l:List (List Nat)) (h:l≠[]):itemL (pvS l) 0= .str (l.headD []):=by
 cases l with
 | nil=>exact absurd rfl h
 | cons a r=>rfl
theorem pvS_dropLast (l:List (List Nat)):(pvS l).eraseIdx (l.length-1)=pvS l.dropLast:=by
 unfold pvS
 rw[List.map_dropLast]
 have e:(l.map PV.str).eraseIdx (l.length-1)=(l.map PV.str).dropLast:=by
  rw[List.dropLast_eq_take,List.length_map]
  by_cases h:l=[]
  ·subst h;rfl
  ·have hp:0<l.length:=List.length_pos_iff.mpr h
   rw[List.eraseIdx_eq_take_drop_succ,List.drop_of_length_le (by simp;omega),List.append_nil]
 rw[e]
theorem pvS_drop1 (l:List (List Nat)):(pvS l).eraseIdx 0=pvS l.tail:=by cases l<;>rfl
end
noncomputable def atL (x y:List Nat) (i:Nat):Bool:=(x.drop i).take y.length==y
theorem subAt_mk (x y:List Nat) (i:Nat):subAt (mk x) (mk y) i=atL x y i:=by
 rw[StrLaws.subAt_eq,mk_length];rfl
theorem fnd_spec (x y:List Nat) (lo hi:Nat):(fnd x y lo hi= -1∧ ∀i,lo≤i→i+y.length≤hi→atL x y i=false)∨
  ∃i:Nat,fnd x y lo hi=i∧lo≤i∧i+y.length≤hi∧atL x y i=true∧ ∀k,lo≤k→k<i→atL x y k=false:=by
 unfold fnd
 rw[StrLaws.occ_eq]
 rcases StrLaws.occ_first (mk x) (mk y) hi 1 (Nat.le_refl _) (List.range' lo (hi+1-lo)) lo (fun i hi=>by have:=List.mem_range'_1.mp hi;omega) with ⟨h0,hn⟩ | ⟨pre,a,post,e,h0,ha,hn⟩
 ·left
  rw[h0]
  refine⟨rfl,fun i h1 h2=> ?_⟩
  have:=hn i (by rw[List.mem_range'_1];omega)
  unfold StrLaws.At at this
  rw[mk_length,subAt_mk] at this
  cases h:atL x y i with
  | false=>rfl
  | true=>exact absurd ⟨h2,h⟩ this
 ·right
  have hm:a∈List.range' lo (hi+1-lo):=by rw[e];simp
  have hm':=List.mem_range'_1.mp hm
  unfold StrLaws.At at ha
  rw[mk_length,subAt_mk] at ha
  refine⟨a,?_,by omega,ha.1,ha.2,fun k h1 h2=> ?_⟩
  ·have: ∃r,(forIn (List.range' lo (hi+1-lo)) ((#[]:Array Nat),lo) (StrLaws.occBody (mk x) (mk y) hi 1)).run.fst.toList=a::r:=by
    generalize (forIn (List.range' lo (hi+1-lo)) ((#[]:Array Nat),lo) (StrLaws.occBody (mk x) (mk y) hi 1)).run.fst=z at h0
    obtain⟨l⟩:=z
    cases l with
    | nil=>simp at h0
    | cons b r=>simp at h0;exact⟨r,by simp[h0]⟩
   obtain⟨r,hr⟩:=this
   rw[hr]
  ·have hk:k∈pre:=by
    have hk':k∈List.range' lo (hi+1-lo):=by rw[List.mem_range'_1];omega
    rw[e] at hk'
    rcases List.mem_append.mp hk' with h | h
    ·exact h
    ·exfalso
     have hs:(List.range' lo (hi+1-lo)).Pairwise (· < ·):=List.pairwise_lt_range'
     rw[e] at hs
     have h3:=(List.pairwise_append.mp hs).2.1
     rcases List.mem_cons.mp h with h | h
     ·omega
     ·have:=(List.pairwise_cons.mp h3).1 k h;omega
   have:=hn k hk
   unfold StrLaws.At at this
   rw[mk_length,subAt_mk] at this
   cases h:atL x y k with
   | false=>rfl
   | true=>exact absurd ⟨by omega,h⟩ this
theorem starts_eq (x y:List Nat):Txt.startswith (mk x) (mk y)=y.isPrefixOf x:=by
 show (decide (0+(mk y).length≤(mk x).length)&&subAt (mk x) (mk y) 0)=_
 rw[subAt_mk,mk_length,mk_length]
 unfold atL
 rw[List.drop_zero,Bool.eq_iff_iff]
 simp only[Bool.and_eq_true,decide_eq_true_eq,beq_iff_eq,List.isPrefixOf_iff_prefix,Nat.zero_add]
 constructor
 ·rintro ⟨h1,h2⟩;exact⟨x.drop y.length,by rw[←h2,List.length_take,Nat.min_eq_left h1,List.take_append_drop]⟩
 ·rintro ⟨r,rfl⟩;simp
theorem ends_eq (x y:List Nat):Txt.endswith (mk x) (mk y)=y.isSuffixOf x:=by
 show (decide (0+(mk y).length≤(mk x).length)&&subAt (mk x) (mk y) ((mk x).length-(mk y).length))=_
 rw[subAt_mk,mk_length,mk_length]
 unfold atL
 rw[Bool.eq_iff_iff]
 simp only[Bool.and_eq_true,decide_eq_true_eq,beq_iff_eq,List.isSuffixOf_iff_suffix,Nat.zero_add]
 constructor
 ·rintro ⟨h1,h2⟩
  refine⟨x.take (x.length-y.length),?_⟩
  rw[List.take_of_length_le (by rw[List.length_drop];omega)] at h2
  conv=>lhs;rw[←h2]
  rw[List.length_drop,show x.length-(x.length-(x.length-y.length))=x.length-y.length by omega]
  exact List.take_append_drop _ _
 ·rintro ⟨r,rfl⟩;simp
noncomputable def occL (x y:List Nat) (hi:Nat):List Nat→Nat→Nat→List Nat
 | [],_,_=>[]
 | i::l,free,k=>if 0<k∧free≤i∧i+y.length≤hi∧atL x y i=true then i::occL x y hi l (i+y.length) (k-1) else occL x y hi l free k
theorem occ_loop (x y:List Nat) (hi limit:Nat): ∀(l:List Nat) (st:Array Nat×Nat),st.1.size≤limit→
  (forIn l st (StrLaws.occBody (mk x) (mk y) hi limit)).run.fst.toList=st.1.toList++occL x y hi l st.2 (limit-st.1.size)
 | [],st,_=>by simp[occL]
 | i::l,st,hs=>by
  rw[List.forIn_cons]
  unfold StrLaws.occBody
  rw[mk_length,subAt_mk]
  by_cases h:((st.fst.size<limit∧st.snd≤i)∧i+y.length≤hi)∧atL x y i=true
  ·rw[if_pos h]
   have ih:=occ_loop x y hi limit l (st.1.push i,i+y.length) (by simp;omega)
   unfold StrLaws.occBody at ih
   rw[mk_length] at ih
   simp only[pure_bind]
   refine ih.trans ?_
   rw[occL,if_pos ⟨by omega,h.1.1.2,h.1.2,h.2⟩]
   simp
   rfl
  ·rw[if_neg h]
   have ih:=occ_loop x y hi limit l st hs
   unfold StrLaws.occBody at ih
   rw[mk_length] at ih
   simp only[pure_bind]
   refine ih.trans ?_
   rw[occL,if_neg (fun q=>h ⟨⟨⟨by omega,q.2.1⟩,q.2.2.1⟩,q.2.2.2⟩)]
theorem occ_list (x y:List Nat) (lo hi limit:Nat):occurrences (mk x) (mk y) lo hi limit=occL x y hi (List.range' lo (hi+1-lo)) lo limit:=by
 rw[StrLaws.occ_eq,occ_loop x y hi limit _ _ (by simp)]
 simp
theorem occL_skip {x y:List Nat}{hi:Nat}: ∀(l r:List Nat) (free k:Nat),(∀i∈l,atL x y i=false∨i<free)→occL x y hi (l++r) free k=occL x y hi r free k
 | [],_,_,_,_=>rfl
 | i::l,r,free,k,h=>by
  rw[List.cons_append,occL,if_neg]
  ·exact occL_skip l r free k fun j hj=>h j (.tail _ hj)
  ·rintro ⟨_,h1,_,h2⟩
   rcases h i (.head _) with e | e
   ·rw[e] at h2;cases h2
   ·omega
theorem occL_shift {a b y:List Nat}{hi:Nat}: ∀(l:List Nat) (free k:Nat),occL (a++b) y (a.length+hi) (l.map (a.length+ ·)) (a.length+free) k=(occL b y hi l free k).map (a.length+ ·)
 | [],_,_=>rfl
 | i::l,free,k=>by
  have e:atL (a++b) y (a.length+i)=atL b y i:=by
   unfold atL
   rw[List.drop_append,List.drop_of_length_le (by omega),List.nil_append,show a.length+i-a.length=i by omega]
  rw[List.map_cons,occL,occL,e]
  by_cases h:0<k∧free≤i∧i+y.length≤hi∧atL b y i=true
  ·rw[if_pos h,if_pos ⟨h.1,by omega,by omega,h.2.2.2⟩,List.map_cons,show a.length+i+y.length=a.length+(i+y.length) by omega,occL_shift l]
  ·rw[if_neg h,if_neg (fun q=>h ⟨q.1,by omega,by omega,q.2.2.2⟩),occL_shift l]
theorem occL_room {x y:List Nat}{hi:Nat}: ∀(l:List Nat) (free k k':Nat),l.length≤k→l.length≤k'→occL x y hi l free k=occL x y hi l free k'
 | [],_,_,_,_,_=>rfl
 | i::l,free,k,k',h,h'=>by
  simp only[List.length_cons] at h h'
  rw[occL,occL]
  by_cases q:free≤i∧i+y.length≤hi∧atL x y i=true
  ·rw[if_pos ⟨by omega,q⟩,if_pos ⟨by omega,q⟩,occL_room l _ (k-1) (k'-1) (by omega) (by omega)]
  ·rw[if_neg (fun z=>q z.2),if_neg (fun z=>q z.2),occL_room l _ k k' (by omega) (by omega)]
noncomputable def dots:List Nat:=[46,46,46]
noncomputable def partsL (x:List Nat) (cuts:List Nat):List (List Nat):=((0::cuts.map (· +3)).zip (cuts++[x.length])).map fun p=>(x.drop p.1).take (p.2-p.1)
theorem parts_list (x:List Nat) (cuts:List Nat):(partsBetween (mk x) cuts 3).map (fun s=>s.cps.toList)=partsL x cuts:=by
 unfold partsBetween partsL
 rw[List.map_map,mk_length]
 refine List.map_congr_left fun p _=> ?_
 obtain⟨i,j⟩:=p
 exact StrLaws.strSub_toList _ _ _
noncomputable def cutsOf (x:List Nat):List Nat:=occL x dots x.length (List.range' 0 (x.length+1)) 0 (x.length+1)
theorem split_cuts (x:List Nat):splitT x dots=partsL x (cutsOf x):=by
 unfold splitT cutsOf
 show List.map _ (if (decide ((mk x).length<(mk dots).length)||decide (Builtin.Str.strKind (mk x)<Builtin.Str.strKind (mk dots)))=true then [mk x]
  else if (occurrences (mk x) (mk dots) 0 (mk x).length ((mk x).length+1)).isEmpty=true then [mk x]
  else partsBetween (mk x) (occurrences (mk x) (mk dots) 0 (mk x).length ((mk x).length+1)) (mk dots).length)=_
 rw[mk_length,mk_length,occ_list]
 have one:partsL x []=[x]:=by simp[partsL]
 split
 ·rename_i h
  have hs:Builtin.Str.strKind (mk dots)=1:=by decide+kernel
  rw[hs] at h
  have hk: ¬Builtin.Str.strKind (mk x)<1:=by unfold Builtin.Str.strKind;split<;>(try split)<;>omega
  simp only[hk,decide_false,Bool.or_false,decide_eq_true_eq] at h
  have:occL x dots x.length (List.range' 0 (x.length+1)) 0 (x.length+1)=[]:=by
   have:=occL_skip (x:=x) (y:=dots) (hi:=x.length) (List.range' 0 (x.length+1)) [] 0 (x.length+1) fun i _=>by
    left
    unfold atL
    rw[beq_eq_false_iff_ne]
    intro e
    have:=congrArg List.length e
    rw[List.length_take,List.length_drop] at this
    omega
   rw[List.append_nil] at this
   exact this
  rw[this,one];simp
 ·split
  ·rename_i h
   have:occL x dots x.length (List.range' 0 (x.length+1)) 0 (x.length+1)=[]:=by simpa using h
   rw[this,one];simp
  ·exact parts_list _ _
theorem partsL_shift (a b:List Nat) (cuts:List Nat):partsL (a++dots++b) (a.length::cuts.map ((a++dots).length+ ·))=a::partsL b cuts:=by
 unfold partsL
 simp only[List.map_cons,List.cons_append,List.zip_cons_cons,List.map_map]
 congr 1
 ·simp
 ·have hl:(a++dots).length=a.length+3:=by simp[dots]
  have e1:(a.length+3)::cuts.map ((fun x=>x+3)∘fun x=>(a++dots).length+x)=(0::cuts.map (· +3)).map ((a++dots).length+ ·):=by
   simp only[List.map_cons,List.map_map,hl]
   congr 1
  have e2:cuts.map ((a++dots).length+ ·)++[(a++dots++b).length]=(cuts++[b.length]).map ((a++dots).length+ ·):=by
   simp only[List.map_append,List.map_cons,List.map_nil,List.length_append]
  rw[e1,e2,List.zip_map,List.map_map]
  refine List.map_congr_left fun p _=> ?_
  obtain⟨i,j⟩:=p
  simp only[Function.comp,Prod.map]
  rw[List.drop_append,List.drop_of_length_le (by omega),List.nil_append]
  congr 1
  ·omega
  ·congr 1;omega
theorem atL_free {a r:List Nat}(h:46∉a) {i:Nat}(hi:i<a.length):atL (a++r) dots i=false:=by
 unfold atL
 rw[beq_eq_false_iff_ne]
 intro e
 have h1:((a++r).drop i).take 3=[46,46,46]:=e
 have h2:((a++r).drop i).head? =some a[i]:=by
  rw[List.head?_drop,List.getElem?_append_left hi,List.getElem?_eq_getElem hi]
 have h3:(((a++r).drop i).take 3).head? =some a[i]:=by rw[List.head?_take,h2];rfl
 rw[h1] at h3
 simp at h3
 exact h (h3 ▸ List.getElem_mem _)
theorem cuts_free {a:List Nat}(h:46∉a):cutsOf a=[]:=by
 unfold cutsOf
 have:=occL_skip (x:=a) (y:=dots) (hi:=a.length) (List.range' 0 (a.length+1)) [] 0 (a.length+1) fun i hi=>by
  left
  by_cases hl:i<a.length
  ·have:=atL_free (r:=[]) h hl
   rwa [List.append_nil] at this
  ·unfold atL;rw[List.drop_of_length_le (by omega)];rfl
 rw[List.append_nil] at this
 exact this
theorem cuts_cons {a b:List Nat}(h:46∉a):cutsOf (a++dots++b)=a.length::(cutsOf b).map ((a++dots).length+ ·):=by
 unfold cutsOf
 have hl:(a++dots).length=a.length+3:=by simp[dots]
 have hn:(a++dots++b).length=a.length+3+b.length:=by rw[List.length_append,hl]
 have hr:List.range' 0 ((a++dots++b).length+1)=List.range' 0 a.length++(a.length::(List.range' (a.length+1) 2++(List.range' 0 (b.length+1)).map ((a++dots).length+ ·))):=by
  rw[hn,hl,List.map_add_range',show a.length+3+b.length+1=a.length+(1+(2+(b.length+1))) by omega,←List.range'_append_1,←List.range'_append_1,←List.range'_append_1]
  simp
 rw[hr,occL_skip]
 ·have hat:atL (a++dots++b) dots a.length=true:=by
   unfold atL
   rw[List.append_assoc,List.drop_left]
   rfl
  rw[occL,if_pos ⟨by omega,Nat.zero_le _,by rw[hn];show a.length+3≤_;omega,hat⟩]
  congr 1
  rw[occL_skip]
  ·have e:=occL_shift (a:=a++dots) (b:=b) (y:=dots) (hi:=b.length) (List.range' 0 (b.length+1)) 0 ((a++dots++b).length+1-1)
   have e2:(a++dots++b).length=(a++dots).length+b.length:=by rw[List.length_append]
   rw[←e2] at e
   rw[show a.length+dots.length=(a++dots).length+0 by rw[List.length_append];rfl,e,occL_room _ _ _ (b.length+1)]
   ·simp[dots];try omega
   ·simp
  ·intro i hi
   right
   have:=List.mem_range'_1.mp hi
   show i<a.length+3
   omega
 ·intro i hi
  left
  have:=List.mem_range'_1.mp hi
  rw[List.append_assoc]
  exact atL_free h (by omega)
theorem split_parts: ∀(ps:List (List Nat)),ps≠[]→(∀a∈ps,46∉a)→partsL (joinS dots ps) (cutsOf (joinS dots ps))=ps
 | [],h,_=>absurd rfl h
 | [a],_,h=>by
  show partsL a (cutsOf a)=[a]
  rw[cuts_free (h a (.head _))];simp[partsL]
 | a::b::r,_,h=>by
  show partsL (a++dots++joinS dots (b::r)) (cutsOf (a++dots++joinS dots (b::r)))=_
  rw[cuts_cons (h a (.head _)),partsL_shift,split_parts (b::r) (by simp) fun c hc=>h c (.tail _ hc)]
theorem splitT_dots {ps:List (List Nat)}(h0:ps≠[]) (h: ∀a∈ps,46∉a):splitT (joinS dots ps) dots=ps:=by
 rw[split_cuts];exact split_parts ps h0 h
theorem hasT_dots {ps:List (List Nat)}(h0:ps≠[]) (h: ∀a∈ps,46∉a):hasT (joinS dots ps) dots=decide (2≤ps.length):=by
 unfold hasT
 rw[mk_length,occ_list]
 match ps,h0,h with
 | [a],_,h=>
  have:=cuts_free (h a (.head _))
  unfold cutsOf at this
  show (!(occL a dots a.length (List.range' 0 (a.length+1)) 0 1).isEmpty)=false
  have e:=occL_skip (x:=a) (y:=dots) (hi:=a.length) (List.range' 0 (a.length+1)) [] 0 1 fun i hi=>by
   left
   by_cases hl:i<a.length
   ·have:=atL_free (r:=[]) (h a (.head _)) hl
    rwa [List.append_nil] at this
   ·unfold atL;rw[List.drop_of_length_le (by omega)];rfl
  rw[List.append_nil] at e
  rw[e];rfl
 | a::b::r,_,h=>
  have hx:joinS dots (a::b::r)=a++dots++joinS dots (b::r):=rfl
  rw[hx]
  generalize joinS dots (b::r)=c
  have hn:(a++dots++c).length=a.length+3+c.length:=by simp[dots];omega
  have hr:List.range' 0 ((a++dots++c).length+1-0)=List.range' 0 a.length++(a.length::List.range' (a.length+1) (3+c.length)):=by
   rw[hn,show a.length+3+c.length+1-0=a.length+(1+(3+c.length)) by omega,←List.range'_append_1,←List.range'_append_1]
   simp
  rw[hr,occL_skip]
  ·have hat:atL (a++dots++c) dots a.length=true:=by
    unfold atL
    rw[List.append_assoc,List.drop_left]
    rfl
   rw[occL,if_pos ⟨by omega,Nat.zero_le _,by rw[hn];show a.length+3≤_;omega,hat⟩]
   simp
  ·intro i hi
   left
   have:=List.mem_range'_1.mp hi
   rw[List.append_assoc]
   exact atL_free (h a (.head _)) (by omega)
end Mine
end
section
set_option maxRecDepth 100000
set_option maxHeartbeats 4000000
open PySem PySem.W PyProof.Rows PySem.Calls
namespace Mine
noncomputable def ellGo (got:List Nat):List (List Nat)→Nat→Nat→Bool
 | [],_,_=>true
 | w::r,s,e=>if fnd got w s e<0 then false else ellGo got r ((fnd got w s e).toNat+w.length) e
noncomputable def ellEnd (got:List Nat) (ws:List (List Nat)) (s:Nat):Bool:=
 let wl:=ws.getLastD []
 if wl≠[]∧wl.isSuffixOf got=false then false else
 if got.length-wl.length<s then false else ellGo got (if wl=[] then ws else ws.dropLast) s (got.length-wl.length)
noncomputable def ellP (ps:List (List Nat)) (got:List Nat):Bool:=
 if ps.length<2 then joinS dots ps==got else
 if ps.headD []≠[]∧(ps.headD []).isPrefixOf got=false then false else
 ellEnd got (if ps.headD []=[] then ps else ps.tail) (ps.headD []).length
theorem ellEnd_ok {got:List Nat}{ws:List (List Nat)}{s:Nat}(h0:ws.getLastD []≠[]) (h:(ws.getLastD []).isSuffixOf got=true):
  ellEnd got ws s=if got.length-(ws.getLastD []).length<s then false else ellGo got ws.dropLast s (got.length-(ws.getLastD []).length):=by
 unfold ellEnd;simp only[h,Bool.true_eq_false,and_false,if_false,if_neg h0]
theorem ellEnd_no {got:List Nat}{ws:List (List Nat)}{s:Nat}(h0:ws.getLastD []≠[]) (h:(ws.getLastD []).isSuffixOf got=false):ellEnd got ws s=false:=by
 unfold ellEnd;rw[if_pos ⟨h0,h⟩]
theorem ellEnd_nil {got:List Nat}{ws:List (List Nat)}{s:Nat}(h0:ws.getLastD []=[]):ellEnd got ws s=if got.length<s then false else ellGo got ws s got.length:=by
 unfold ellEnd;rw[h0];simp
theorem ellP_ok {got:List Nat}{ps:List (List Nat)}(h2: ¬ps.length<2) (h0:ps.headD []≠[]) (h:(ps.headD []).isPrefixOf got=true):ellP ps got=ellEnd got ps.tail (ps.headD []).length:=by
 unfold ellP;rw[if_neg h2];simp only[h,Bool.true_eq_false,and_false,if_false,if_neg h0]
theorem ellP_no {got:List Nat}{ps:List (List Nat)}(h2: ¬ps.length<2) (h0:ps.headD []≠[]) (h:(ps.headD []).isPrefixOf got=false):ellP ps got=false:=by
 unfold ellP;rw[if_neg h2,if_pos ⟨h0,h⟩]
theorem ellP_nil {got:List Nat}{ps:List (List Nat)}(h2: ¬ps.length<2) (h0:ps.headD []=[]):ellP ps got=ellEnd got ps 0:=by
 unfold ellP;rw[if_neg h2,h0];simp
theorem seqIndex_zero {n:Nat}(h:0<n):seqIndex? 0 n=some 0:=by
 unfold seqIndex?
 have e:(decide ((0:Int)≤0)&&decide ((0:Int)<(n:Int)))=true:=by simp;exact h
 simp[h]
theorem fnd_range (got w:List Nat) (s e:Nat):(fnd got w s e= -1)∨(0≤fnd got w s e∧(fnd got w s e).toNat+w.length≤e):=by
 rcases fnd_spec got w s e with ⟨h,_⟩ | ⟨i,h,_,h2,_⟩
 ·exact .inl h
 ·right;rw[h];constructor<;>omega
section
variable {prog:Program}{w:World}{T:Tops}{n:Nat}
theorem ell_fn {a:Ads}(D:Text T a) (G:Names T) {ps:List (List Nat)}{got:List Nat}(h0:ps≠[]) (hf: ∀p∈ps,46∉p) (hg:got.length≤100000) (hw:(joinS dots ps).length≤100000) (hp: ∀p∈ps,p.length≤100000) (hl:ps.length≤1000):
  FnP prog w T (n+1) (.ref a.ell) [.str (joinS dots ps),.str got] (.bool (ellP ps got)):=
 def_pure D.ell ["want","got"] ["ws","startpos","endpos","w"] (fun _ _ _ _ _ _ us hl=>by match us,hl with | [u,v],_=>rfl) (by decide) (by decide) rfl (by decide) rfl rfl rfl (fun A L g os cdv σ O Y=>by
  show SE _ _ _ _ [(("want":Str),some (.str (joinS dots ps))),(("got":Str),some (.str got)),(("ws":Str),none),(("startpos":Str),none),(("endpos":Str),none),(("w":Str),none)] σ _
  obtain⟨td,gd⟩:=D.dots
  have hdots: ∀ρ σ pos,PE prog w _ (.Name ("ELLIPSIS_MARKER":Str) pos) ρ σ (.str dots):=fun ρ σ pos=>pe_of_xe (xe_glob O rfl gd) (.str dots td)
  have hhas:=hasT_dots h0 hf
  refine se_cons (s1_if (be_cmp (hdots _ _ _) (pe_local Y (.head _)) cm_notin) (fun h=> ?_) (fun h=>se_nil ?_))
  ·rw[hhas] at h
   have h2:ps.length<2:=by simpa using h
   refine se_cons (s1_return (v:=.bool (ellP ps got)) ?_ ⟨rfl,.refl _⟩)
   unfold ellP
   rw[if_pos h2]
   exact pe_cmp (pe_local Y (.head _)) (pe_local Y mI1) cm_eqs
  rw[hhas] at h
  have h2: ¬ps.length<2:=by simpa using h
  refine se_cons (s1_assign_new Y (ρf:=fun b=>[(("want":Str),some (.str (joinS dots ps))),(("got":Str),some (.str got)),(("ws":Str),some (.ref b)),(("startpos":Str),none),(("endpos":Str),none),(("w":Str),none)])
   (ne_meth (pe_local Y (.head _)) (m_of (fun x t s pl Q h=>GM.split h) _) (ae1 (hdots _ _ _)) (c_split (by decide) (by omega))) (fun b=>.there (.there .here)) (fun b hb=> ?_))
  rw[splitT_dots h0 hf]
  have hlen:(pvS ps).length=ps.length:=by simp[pvS]
  refine se_cons (s1_assert ?_ ?_)
  ·have e:decide (2≤((pvS ps).length:Int))=true:=by rw[decide_eq_true_eq,hlen];omega
   rw[←e]
   exact be_cmp (pe_call_b (xe_built O rfl G.len.1 G.len.2) (ae1 (pe_local Y mI2)) (c_lenL (.inl (.head _)) (by omega))) pe_int cm_ge
  have rest8: ∀(ws:List (List Nat)) (s e:Nat) (o:Option PV),e≤got.length→ws.length≤1000→(∀p∈ws,p.length≤100000)→
    SE prog w ⟨A,envX "_ellipsis_match" (scopeOf (ST 9)) L a.ell cdv [],L,L,g,os,(["want","got"]:List Str)++(["ws","startpos","endpos","w"]:List Str)⟩ ((bodyOf (ST 9)).drop 8)
     [(("want":Str),some (.str (joinS dots ps))),(("got":Str),some (.str got)),(("ws":Str),some (.ref b)),(("startpos":Str),some (.int s)),(("endpos":Str),some (.int e)),(("w":Str),o)]
     ((b,isL (pvS ws))::σ) (fun f _ σ'=>f.val= .bool (if e<s then false else ellGo got ws s e)∧σ.Sublist σ'):=by
   intro ws s e o he hwl hwp
   refine se_cons (s1_if (be_cmp (pe_local Y mI3) (pe_local Y mI4) cm_gt) (fun h=> ?_) (fun h=>se_nil ?_))
   ·have h:=of_decide_eq_true h
    refine se_cons (s1_return pe_bool ⟨?_,.cons _ (.refl _)⟩)
    rw[if_pos (by omega)];rfl
   have h:=of_decide_eq_false h
   rw[if_neg (by omega)]
   refine se_cons (s1_for (pvS ws).length (fun i=>(pvS ws).getD i .none) (liI b)
    (fun i ρ σ'=>σ'=(b,isL (pvS ws))::σ∧ ∃(s':Nat) (o:Option PV),ρ=[(("want":Str),some (.str (joinS dots ps))),(("got":Str),some (.str got)),(("ws":Str),some (.ref b)),(("startpos":Str),some (.int s')),(("endpos":Str),some (.int e)),(("w":Str),o)]∧s'≤1000000∧
     ellGo got (ws.drop i) s' e=ellGo got ws s e)
    (it_list (pe_local Y mI2) (.head _)) ⟨rfl,s,o,rfl,by omega,by simp⟩ ?_ ?_ ?_ ?_)
   ·rintro I i ρ σ' hi ⟨rfl,_⟩
    exact(seqs_list (S:=fun σ=>(b,isL (pvS ws))∈σ) fun _ h=>h).nx _ I i _ O.hh hi (.head _)
   ·rintro I ρ σ' ⟨rfl,_⟩
    exact(seqs_list (S:=fun σ=>(b,isL (pvS ws))∈σ) fun _ h=>h).nd _ I _ O.hh (.head _)
   ·rintro I i ρ σ' hi ⟨rfl,s',o,rfl,hs',hgo⟩ hI
    rw[pvS_length] at hi
    have hx:(pvS ws).getD i .none= .str (ws.getD i []):=pvS_getD ws i hi
    refine⟨_,_,fun u hu=>store_local Y (.there (.there (.there (.there (.there .here))))) hu,?_⟩
    rw[hx]
    have hd:ws.drop i=ws.getD i []::ws.drop (i+1):=by
     rw[List.drop_eq_getElem_cons hi,List.getD_eq_getElem?_getD,List.getElem?_eq_getElem hi];rfl
    have hwm:(ws.getD i []).length≤100000:=hwp _ (by rw[List.getD_eq_getElem?_getD,List.getElem?_eq_getElem hi];exact List.getElem_mem _)
    generalize ws.getD i []=x at hd hwm ⊢
    rw[hd] at hgo
    refine se_cons (s1_assign Y (pe_meth (pe_local Y mI1) (m_of (fun x t s pl Q h=>GM.find h) _) (ae3 (pe_local Y mI5) (pe_local Y mI3) (pe_local Y mI4)) (c_find4 (by omega) (by omega) (by omega))) (.there (.there (.there .here))) ?_)
    refine se_cons (s1_if (be_cmp (pe_local Y mI3) pe_int cm_lt) (fun h=> ?_) (fun h=>se_nil ?_))
    ·have h:=of_decide_eq_true h
     refine se_cons (s1_return pe_bool ⟨?_,.cons _ (.cons _ (.refl _))⟩)
     simp only[Int.toNat_natCast] at h
     rw[←hgo,ellGo,if_pos h];rfl
    ·have h:=of_decide_eq_false h
     simp only[Int.toNat_natCast] at h ⊢
     have hr:=fnd_range got x s' e
     refine se_cons (s1_aug (load_local Y mI3) (pe_call_b (xe_built O rfl G.len.1 G.len.2) (ae1 (pe_local Y mI5)) (c_len_str (by omega))) ip_add (fun u hu=>store_local Y (.there (.there (.there .here))) hu) ?_)
     have ev:fnd got x s' e+(x.length:Int)=(((fnd got x s' e).toNat+x.length:Nat):Int):=by omega
     refine se_nil ⟨_,⟨rfl,(fnd got x s' e).toNat+x.length,some (.str x),by rw[ev],by omega,?_⟩,.refl _⟩
     ·rw[←hgo]
      conv=>rhs;rw[ellGo,if_neg h]
   ·rintro ρ σ' ⟨rfl,s',o,rfl,hs',hgo⟩
    rw[pvS_length,List.drop_of_length_le (Nat.le_refl _)] at hgo
    refine se_nil (se_cons (s1_return pe_bool ⟨?_,.cons _ (.refl _)⟩))
    rw[←hgo];rfl
  have rest6: ∀(ws:List (List Nat)) (s:Nat) (o:Option PV),ws≠[]→ws.length≤1000→(∀p∈ws,p.length≤100000)→
    SE prog w ⟨A,envX "_ellipsis_match" (scopeOf (ST 9)) L a.ell cdv [],L,L,g,os,(["want","got"]:List Str)++(["ws","startpos","endpos","w"]:List Str)⟩ ((bodyOf (ST 9)).drop 6)
     [(("want":Str),some (.str (joinS dots ps))),(("got":Str),some (.str got)),(("ws":Str),some (.ref b)),(("startpos":Str),some (.int s)),(("endpos":Str),some (.int got.length)),(("w":Str),o)]
     ((b,isL (pvS ws))::σ) (fun f _ σ'=>f.val= .bool (ellEnd got ws s)∧σ.Sublist σ'):=by
   intro ws s o hne hwl hwp
   have hpos:0<ws.length:=List.length_pos_iff.mpr hne
   have hpl:=pvS_length ws
   refine se_cons (s1_assign Y (pe_itemL (i:= -1) (p:=.str (ws.getLastD [])) (pe_local Y mI2) (.inl (.head _)) (pe_neg pe_int) (by omega) (by omega) (by omega) (itemL_last ws hne)) (.there (.there (.there (.there (.there .here))))) ?_)
   have hwm:(ws.getLastD []).length≤100000:=by
    rw[List.getLastD_eq_getLast?,List.getLast?_eq_some_getLast hne]
    exact hwp _ (List.getLast_mem hne)
   refine se_cons (s1_if (be_truthy (pe_local Y mI5) (fun u s h I=>tr_str (by omega) u s h I)) (fun h=> ?_) (fun h=> ?_))
   ·have hl0:ws.getLastD []≠[]:=by intro e;rw[e] at h;simp at h
    refine se_cons (s1_if (be_of_pe (pe_meth (pe_local Y mI1) (m_of (fun x t s pl Q h=>GM.endswith h) _) (ae1 (pe_local Y mI5)) c_endswith)) (fun h=> ?_) (fun h=> ?_))
    ·rw[ends_eq] at h
     have hle:(ws.getLastD []).length≤got.length:=(List.isSuffixOf_iff_suffix.mp h).length_le
     refine se_cons (s1_aug (load_local Y mI4) (pe_call_b (xe_built O rfl G.len.1 G.len.2) (ae1 (pe_local Y mI5)) (c_len_str (by omega))) ip_sub (fun u hu=>store_local Y (.there (.there (.there (.there .here)))) hu) ?_)
     refine se_cons (s1_delL (j:= -1) (k:=ws.length-1) (pe_local Y mI2) (pe_neg pe_int) (by decide) (by decide) ?_ (by omega) .here ?_)
     ·rw[hpl,seqIndex_neg (by decide) (by omega)]
      congr 1;omega
     ·rw[pvS_dropLast,show (got.length:Int)-((ws.getLastD []).length:Int)=((got.length-(ws.getLastD []).length:Nat):Int) by omega]
      have:=rest8 ws.dropLast s (got.length-(ws.getLastD []).length) (some (.str (ws.getLastD []))) (by omega) (by rw[List.length_dropLast];omega) (fun p hp=>hwp p (List.dropLast_subset _ hp))
      refine se_nil (se_nil (this.mono fun f ρ' σ' q=>⟨q.1.trans ?_,q.2⟩))
      rw[ellEnd_ok hl0 h]
    ·rw[ends_eq] at h
     refine se_cons (s1_return pe_bool ⟨?_,.cons _ (.refl _)⟩)
     rw[ellEnd_no hl0 h];rfl
   ·have hl0:ws.getLastD []=[]:=by
     rcases hq:ws.getLastD [] with _ | ⟨c,r⟩
     ·rfl
     ·rw[hq] at h;simp at h
    refine se_nil (((rest8 ws s got.length (some (.str (ws.getLastD []))) (Nat.le_refl _) hwl hwp).mono fun f ρ' σ' q=>⟨q.1.trans ?_,q.2⟩))
    rw[ellEnd_nil hl0]
  have hpos:0<ps.length:=by omega
  refine se_cons (s1_swapped (names:=["startpos","endpos"]) (ge_of_ne (ne_tupleP (.cons pe_int (.cons (pe_call_b (xe_built O rfl G.len.1 G.len.2) (ae1 (pe_local Y mI1)) (c_len_str (by omega))) .nil)))) (fun v σ' r=> ?_))
  obtain⟨c,rfl,rfl⟩:=r
  refine⟨c,_,rfl,un_tuple O.hh (.head _),rfl,ts_cons (tg_bind (fun u hu=>store_local Y (.there (.there (.there (.there .here)))) hu)) (ts_cons (tg_bind (fun u hu=>store_local Y (.there (.there (.there .here))) hu)) (ts_nil ?_))⟩
  refine SE.sub ?_ (.cons _ (.refl _))
  have h1:=itemL_first ps h0
  refine se_cons (s1_assign Y (pe_itemL (i:=0) (p:=.str (ps.headD [])) (pe_local Y mI2) (.inl (.head _)) pe_int (by omega) (by omega) (by omega) h1) (.there (.there (.there (.there (.there .here))))) ?_)
  have hwm:(ps.headD []).length≤100000:=by
   cases ps with
   | nil=>exact absurd rfl h0
   | cons x r=>exact hp x (.head _)
  refine se_cons (s1_if (be_truthy (pe_local Y mI5) (fun u s h I=>tr_str (by omega) u s h I)) (fun h=> ?_) (fun h=> ?_))
  ·have hl0:ps.headD []≠[]:=by intro e;rw[e] at h;simp at h
   refine se_cons (s1_if (be_of_pe (pe_meth (pe_local Y mI1) (m_of (fun x t s pl Q h=>GM.startswith h) _) (ae1 (pe_local Y mI5)) c_startswith)) (fun h=> ?_) (fun h=> ?_))
   ·rw[starts_eq] at h
    refine se_cons (s1_assign Y (pe_call_b (xe_built O rfl G.len.1 G.len.2) (ae1 (pe_local Y mI5)) (c_len_str (by omega))) (.there (.there (.there .here))) ?_)
    refine se_cons (s1_delL (j:=0) (k:=0) (pe_local Y mI2) pe_int (by decide) (by decide) ?_ (by omega) .here ?_)
    ·rw[hlen];exact seqIndex_zero hpos
    ·rw[pvS_drop1]
     have:=rest6 ps.tail (ps.headD []).length (some (.str (ps.headD []))) (by intro e;have:=congrArg List.length e;rw[List.length_tail] at this;simp at this;omega) (by rw[List.length_tail];omega) (fun p hq=>hp p (List.mem_of_mem_tail hq))
     refine se_nil (se_nil (this.mono fun f ρ' σ' q=>⟨q.1.trans ?_,q.2⟩))
     rw[ellP_ok h2 hl0 h]
   ·rw[starts_eq] at h
    refine se_cons (s1_return pe_bool ⟨?_,.cons _ (.refl _)⟩)
    rw[ellP_no h2 hl0 h];rfl
  ·have hl0:ps.headD []=[]:=by
    rcases hq:ps.headD [] with _ | ⟨c,r⟩
    ·rfl
    ·rw[hq] at h;simp at h
   refine se_nil (((rest6 ps 0 (some (.str (ps.headD []))) h0 hl hp).mono fun f ρ' σ' q=>⟨q.1.trans ?_,q.2⟩))
   rw[ellP_nil h2 hl0])
end
end Mine
end
section
set_option maxRecDepth 100000
set_option maxHeartbeats 1000000
open PySem PySem.W PyProof.Rows PySem.Calls
namespace Mine
noncomputable def isNd (ρ:Ro):Obj→Prop:=fun o=> ∃m es ep,RoIs ρ m∧o.data= .dict es ep∧StrKeys es∧UniqKeys es∧ ∀name,nsFind es name=m name
theorem isNd.ns1 {ρ:Ro}{o:Obj}{h:Heap}{d:Addr}(x:isNd ρ o) (e:h.get? d=some o): ∃m,RoIs ρ m∧h.Ns1 d m:=by
 obtain⟨m,es,ep,r,hd,k,u,f⟩:=x
 exact⟨m,r,o,es,ep,e,hd,k,u,f⟩
theorem isNd_of {ρ:Ro}{m:Str→Option Value}{h:Heap}{d:Addr}(R:RoIs ρ m) (x:h.Ns1 d m): ∃o,h.get? d=some o∧isNd ρ o:=by
 obtain⟨o,es,ep,e,hd,k,u,f⟩:=x
 exact⟨o,e,m,es,ep,R,hd,k,u,f⟩
noncomputable def isO (C d:Addr) (data:Data→Prop):Obj→Prop:=fun o=>o.cls= .ref C∧o.dict=some d∧data o.data∧o.slots= #[]
noncomputable def plainD:Data→Prop:=fun x=>x= .plain
noncomputable def seqD (ps:List PV):Data→Prop:=fun x=> ∃vs n,VRs ps vs∧x= .seq vs.toArray n
theorem seqD.notCls {ps:List PV}{x:Data}(h:seqD ps x): ∀c,x≠ .cls c:=by obtain⟨vs,n,_,rfl⟩:=h;intro c e;cases e
theorem plainD.notCls {x:Data}(h:plainD x): ∀c,x≠ .cls c:=by cases h;intro c e;cases e
section
variable {prog:Program}{w:World}{A:Around}{E:Value→Shared→Prop}{s:Shared}{K:Frag}{C x d:Addr}{cd:ClassData}{m:Str→Option Value}
structure ClsK (K:Frag) (C:Addr) (cd:ClassData):Prop where
 cls:clsIn K C=some cd
 dict:cd.hasDict=true
 ne:cd.mro.isEmpty=false
 obj:cd.mro.contains (.type "object")=true
 pass: ∀self,refuseLoop self "__setattr__" cd.mro=pure ()
 ga:findIn K (.ref C) "__getattribute__"=some (some (.builtin "object.__getattribute__"))∨(findIn K (.ref C) "__getattribute__"=some (some (.builtin "list.__getattribute__"))∧cd.mro.contains (.type "list")=true)
 gk:findIn K (.ref C) "__getattr__"=some none
 sa:findIn K (.ref C) "__setattr__"=some (some (.builtin "object.__setattr__"))
 cop:(cd.mro.contains (.type "staticmethod")||cd.mro.contains (.type "classmethod"))=false
theorem ClsK.mro (Y:ClsK K C cd) (X:K.In s.heap) {M:Model}:Looks M s.heap (mroOf (.ref C)) cd.mro:=(looks_clsIn X Y.cls).andThen .now
theorem osa_nd {ox:Obj}{name:Str}{v:Value}{tk:Tok}{ns:List Str}{R:Result→Shared→Prop}(X:K.In s.heap) (Y:ClsK K C cd) (hx:s.heap.get? x=some ox) (hc:ox.cls= .ref C) (hno: ∀c,ox.data≠ .cls c) (hd:ox.dict=some d) (hn:s.heap.Ns1 d m)
  (hf:findIn K (.ref C) name=some none) (hw:Within m ns) (hz:ns.length≤1000)
  (hq: ∀h' tk,h'.Ns1 d (fun y=>if y=name then some v else m y)→Heap.SameBut d s.heap h'→R (.ok (.ret .none)) {s with heap:=h',toks:=tk}):
  codeAny (model prog w) A (.call (.builtin "object.__setattr__") ⟨[.ref x,.str name tk,v],[]⟩) R s:=by
 have SF:=PySem.F.store_object
 have T: ∀{M:Model},Looks M s.heap (typeOf (.ref x)) (.ref C):=hc ▸ (Looks.ld hx).andThen .now
 have sub:Looks (model prog w) s.heap (isInstance (.ref x) (.type "object")) true:=T.andThen (looks_mroIn X (by unfold mroIn;rw[Y.cls,Option.bind_some,if_neg (by rw[Y.ne];decide),Y.obj]))
 refine codeAny_call_builtin SF.slot.plain SF.entry (@check_slot (model prog w) _ _ s "object.__setattr__" "object" "__setattr__" (.ref x) [.str name tk,v] [] _ SF.kind SF.split sub (SF.args (.ref x) (.str name tk) v) ?_)
 rw[osa_eq,refuse_eq]
 refine wpAny_bind (wpAny_bind (T.here (wpAny_bind ((Y.mro X).here ?_))))
 rw[Y.pass]
 refine wpAny_pure (wpAny_bind (T.here (wpAny_bind ((looks_findIn X hf).here (wpAny_bind (wpAny_pure ?_))))))
 obtain⟨oc,odi,oda,osl⟩:=ox
 dsimp only at hc hd hno
 subst hc hd
 refine wpAny_bind (wpAny_pure (wpAny_bind (wpAny_bind (wpAny_loadPart hx ?_))))
 cases oda<;>first
  | exact absurd rfl (hno _)
  | (refine wpAny_bind ((looks_clsIn X Y.cls).here ?_)
     rw[Y.dict]
     refine wpAny_pure (a:=some d) (wpAny_bind (wpAny_pure (wpAny_bind ?_)))
     refine wpAny_nsSet1 hn fun h' hn' hs'=> ?_
     obtain⟨oD,esD,epD,hoD,hdD,hcD⟩:=hn'.count (Within.cons name v hw)
     refine wpAny_bind (wpAny_lookBehind hoD (by rw[hdD];exact pastItsLine_dict (by rw[List.length_cons] at hcD;rw[sizeLine_eq];omega)) ?_)
     exact wpAny_pure (hq _ _ hn' hs'))
theorem setattr_nd {ox:Obj}{name:Str}{v:Value}{ns:List Str}{Q:Unit→Shared→Prop}(X:K.In s.heap) (Y:ClsK K C cd) (hx:s.heap.get? x=some ox) (hc:ox.cls= .ref C) (hno: ∀c,ox.data≠ .cls c) (hd:ox.dict=some d) (hn:s.heap.Ns1 d m)
  (hf:findIn K (.ref C) name=some none) (hw:Within m ns) (hz:ns.length≤1000)
  (hq: ∀h' tk,h'.Ns1 d (fun y=>if y=name then some v else m y)→Heap.SameBut d s.heap h'→Q () {s with heap:=h',toks:=tk}):
  wpAny (model prog w) A (setAttr (.ref x) name v) Q E s:=by
 have SF:=PySem.F.store_object
 have T: ∀{M:Model},Looks M s.heap (typeOf (.ref x)) (.ref C):=hc ▸ (Looks.ld hx).andThen .now
 refine wpAny_bind (wpAny_mkText (wpAny_bind (wpAny_bind (wpAny_bind (T _ _ _ _ (fun _ _ e=>e) (looks_findIn X Y.sa _ _ _ _ (fun _ _ e=>e) (wpAny_holding ?_)))))))
 rw[SF.slot.bind]
 refine wpAny_bind (wpAny_pure (wpAny_bind (wpAny_call ?_)))
 exact osa_nd (s:={s with toks:=s.toks+1}) X Y hx hc hno hd hn hf hw hz fun h' tk hn' hs'=>wpAny_pure (wpAny_pure (hq h' tk hn' hs'))
theorem look_nd {od:Obj}{es:Array DictEntry}{ep:Nat}{name:Str}{r:Option Value}(hd:od.data= .dict es ep) (hk:StrKeys es) (hf:nsFind es name=r):lookIn name od=some r:=by
 unfold lookIn
 rw[hd]
 dsimp only
 have e:(es.toList.find? fun e=>e.key.isStr name).map (·.val)=r:=by
  rw[←hf];unfold nsFind findBy;rw[←Array.find?_toList]
 cases h:es.toList.find? (fun e=>e.key.isStr name) with
 | some en=>rw[h] at e;rw[←e];rfl
 | none=>
  rw[h] at e
  rw[if_neg,←e]; · rfl
  rw[List.any_eq_true]
  rintro ⟨en,hm,hr⟩
  obtain⟨n,t,hkey⟩:=hk en (by simpa using hm)
  unfold DictEntry.refKey at hr
  rw[hkey] at hr
  simp at hr
theorem check_any {M:Model}{i owner n:String}{self:Value}{rest:List Value}{Q:Unit→Shared→Prop}(hk:builtinKind i=some .slot∨builtinKind i=some .method) (hs:splitId i=some (owner,n))
  (hi:Looks M s.heap (isInstance self (.type owner)) true) (ha:argsOk i ⟨self::rest,[]⟩) (q:Q () s):wpAny M A (checkBuiltinCall i ⟨self::rest,[]⟩) Q E s:=by
 rcases hk with hk | hk
 all_goals
  simp only[checkBuiltinCall,hk,hs]
  refine wpAny_bind (hi.here ?_)
  simp only[Bool.not_true,Bool.false_eq_true,if_false]
  cases hsig:Manifest.signature? i with
  | none=>exact wpAny_pure q
  | some sig=>
   simp only[argsOk,hsig] at ha
   have h2:Bind.checkArgs i sig ⟨self::rest,[]⟩=pure ():=ha
   show wpAny M A (Bind.checkArgs i sig ⟨self::rest,[]⟩) Q E s
   rw[h2];exact wpAny_pure q
theorem call_sub {i owner n:String}{B:Builtin}{self:Value}{rest:List Value}{Q:Value→Shared→Prop}(hp:plainId i=true) (hb:entryFor table i=some B) (hk:builtinKind i=some .slot∨builtinKind i=some .method) (hs:splitId i=some (owner,n))
  (hi:Looks (model prog w) s.heap (isInstance self (.type owner)) true) (ha:argsOk i ⟨self::rest,[]⟩)
  (h:wpAny (model prog w) A.in1 (B ⟨self::rest,[]⟩) (fun fin s'=> ∃v,fin= .done (.ret v)∧Q v s') E s):wpAny (model prog w) A (call (.builtin i) (self::rest)) Q E s:=
 wpAny_call (codeAny_call_builtin hp hb (check_any hk hs hi ha (wpAny_mono h (fun fin s' q=>by obtain⟨v,rfl,hv⟩:=q;exact hv) fun _ _ f=>f)))
theorem isL_inst (X:K.In s.heap) (Y:ClsK K C cd) (hl:cd.mro.contains (.type "list")=true) {ox:Obj}(hx:s.heap.get? x=some ox) (hc:ox.cls= .ref C) {M:Model}:Looks M s.heap (isInstance (.ref x) (.type "list")) true:=by
 have T:Looks M s.heap (typeOf (.ref x)) (.ref C):=hc ▸ (Looks.ld hx).andThen .now
 exact T.andThen (looks_mroIn X (by unfold mroIn;rw[Y.cls,Option.bind_some,if_neg (by rw[Y.ne];decide),hl]))
section
variable {ox:Obj}{od:Option Obj}{name:Str}{expr:Bool}{Q:Value→Shared→Prop}
theorem ClsK.gaC (Y:ClsK K C cd): ∃id,findIn K (.ref C) "__getattribute__"=some (some (.builtin id))∧(Manifest.canonical id != "object.__getattribute__")=false:=by
 rcases Y.ga with h | h
 ·exact⟨_,h,PySem.F.canon_object_ga⟩
 ·exact⟨_,h.1,canon_list_getattribute⟩
theorem getL (X:K.In s.heap) (I:W.InstAt s.heap x ox C od) (Y:ClsK K C cd) (hga:findIn K (.ref C) "__getattribute__"=some (some (.builtin "list.__getattribute__"))) (hl:cd.mro.contains (.type "list")=true) {R:Value→Shared→Prop}
  (h:wpAny (model prog w) A.in1 (Builtin.«object.__getattribute__» ⟨[.ref x,.str name s.toks],[]⟩) (fun fin s'=> ∃v,fin= .done (.ret v)∧wpAny (model prog w) A (handedOut v) Q E s') (fun _ _=>False) {s with toks:=s.toks+1}):
  wpAny (model prog w) A (getAttr (.ref x) name expr) Q E s:=by
 obtain⟨hp,g,dr,t,os⟩:=s
 have L0:=I.type (M:=model prog w)
 have L1:=looks_findIn (M:=model prog w) X hga
 have L2:=looks_findIn (M:=model prog w) X Y.gk
 unfold getAttr getAttrBy
 refine wpAny_bind (wpAny_mkText (wpAny_holding (wpAny_bind (L0.at (wpAny_bind (L1.at ?_))))))
 show wpAny _ _ (getAttrByItsOwn (.ref x) (.str name t) (.ref C) (.builtin "list.__getattribute__") true expr) _ _ _
 unfold getAttrByItsOwn hookBefore callGetattribute boundAndCalled
 refine wpAny_bind (L2.at ?_)
 refine wpAny_bind (wpAny_attempt (wpAny_holding ?_))
 have hx:(expr&&onTheHeap (.builtin "list.__getattribute__"))=false:=by cases expr<;>rfl
 rw[hx,if_neg Bool.false_ne_true]
 refine wpAny_bind (wpAny_of_eq (PySem.F.slot_list_getattribute.bind _) ?_)
 refine wpAny_mono (Q:=fun v s'=>wpAny (model prog w) A (handedOut v) Q E s') (E:=fun _ _=>False) (call_sub (n:="__getattribute__") (by decide+kernel) am_entry_list_getattribute (.inl (by decide+kernel)) (by decide+kernel) (isL_inst X Y hl I.at_ I.cls) (PySem.F.args_list_getattribute_2 _ _) h) (fun v s' hv=> ?_) fun _ _ z=>z.elim
 exact hv
theorem getV {v:Value}(X:K.In s.heap) (I:W.InstAt s.heap x ox C od) (Y:ClsK K C cd) (hf:findObj K C od name=some (.value v)) (hh:handedIn v=true) (h:Q v {s with toks:=s.toks+1}):wpAny (model prog w) A (getAttr (.ref x) name expr) Q E s:=by
 rcases Y.ga with hga | ⟨hga,hl⟩
 ·exact get_value X I hga hf hh h
 ·refine getL (R:=Q) X I Y hga hl ?_
  obtain⟨hp,g,dr,t,os⟩:=s
  refine wpAny_bind (wpAny_pure (wpAny_bind (wpAny_pure (wpAny_bind ((I.type (M:=model prog w)).at (wpAny_bind ((looks_find (M:=model prog w) X I hf).at ?_)))))))
  refine wpAny_pure ⟨_,rfl,?_⟩
  rw[handedOut_of hh];exact wpAny_pure h
theorem getB {g a:Value}(X:K.In s.heap) (I:W.InstAt s.heap x ox C od) (Y:ClsK K C cd) (hf:findObj K C od name=some (.bind g a))
  (h:wpAny (model prog w) A.in1 (call g [a,.ref x,.ref C]) (fun v s'=>wpAny (model prog w) A (handedOut v) Q E s') (fun _ _=>False) {s with toks:=s.toks+1}):
  wpAny (model prog w) A (getAttr (.ref x) name expr) Q E s:=by
 rcases Y.ga with hga | ⟨hga,hl⟩
 ·exact get_bind X I hga hf Y.gk (wpAny_mono h (fun _ _ z=>z) fun _ _ z=>z.elim)
 ·refine getL (R:=Q) X I Y hga hl ?_
  obtain⟨hp,gg,dr,t,os⟩:=s
  refine wpAny_bind (wpAny_pure (wpAny_bind (wpAny_pure (wpAny_bind ((I.type (M:=model prog w)).at (wpAny_bind ((looks_find (M:=model prog w) X I hf).at ?_)))))))
  show wpAny _ _ (holding [a] (call g [a,.ref x,.ref C]) >>= ret) _ _ _
  exact wpAny_bind (wpAny_holding (wpAny_mono h (fun v s' z=>wpAny_pure ⟨v,rfl,z⟩) fun _ _ z=>z))
end
theorem getattr_nd {ox:Obj}{name:Str}{v:Value}{expr:Bool}{Q:Value→Shared→Prop}(X:K.In s.heap) (Y:ClsK K C cd) (hx:s.heap.get? x=some ox) (hc:ox.cls= .ref C) (hno: ∀c,ox.data≠ .cls c) (hd:ox.dict=some d) (hn:s.heap.Ns1 d m)
  (hf:findIn K (.ref C) name=some none) (hv:m name=some v) (hh:handedIn v=true) (hq:Q v {s with toks:=s.toks+1}):wpAny (model prog w) A (getAttr (.ref x) name expr) Q E s:=by
 obtain⟨od,es,ep,ho,hdat,hk,hu,hfnd⟩:=hn
 have I:InstAt s.heap x ox C (some od):=⟨hx,hc,by unfold notCls;cases h:ox.data<;>first | rfl | exact absurd h (hno _),by rw[hd];exact ho⟩
 have hl:lookIn name od=some (some v):=look_nd hdat hk (hfnd name ▸ hv)
 refine getV X I Y ?_ hh hq
 unfold findObj
 rw[Y.cls,Option.bind_some,hf,Option.bind_some]
 show (some none).bind _ =_
 rw[Option.bind_some]
 show (some false).bind _ =_
 rw[Option.bind_some]
 unfold W.ownOf
 rw[Y.dict,if_pos rfl]
 show (lookIn name od).bind _ =_
 rw[hl];rfl
end
end Mine
namespace Mine
theorem RoIs.within {ρ:Ro}{m:Str→Option Value}(h:RoIs ρ m):Within m (ρ.map (·.1)):=fun y hy=>Classical.byContradiction fun hn=>hy (h.2 y hn)
theorem RoIs.noneAt {ρ:Ro}{m:Str→Option Value}(h:RoIs ρ m) {y:Str}(hy:y∉ρ.map (·.1)):m y=none:=h.2 y hy
inductive Put (x:Str) (v:PV):Ro→Ro→Prop
 | old {ρ ρ'} (h:Up x (some v) ρ ρ'):Put x v ρ ρ'
 | new {ρ} (h:x∉ρ.map (·.1)):Put x v ρ ((x,some v)::ρ)
theorem RoIs.put {ρ ρ':Ro}{m:Str→Option Value}{x:Str}{v:PV}{u:Value}(h:RoIs ρ m) (nd:(ρ.map (·.1)).Nodup) (hp:Put x v ρ ρ') (hv:VR v u):RoIs ρ' (fun y=>if y=x then some u else m y):=by
 cases hp with
 | old hu=>exact h.up nd hu hv
 | new hx=>
  refine⟨fun p hp=> ?_,fun y hy=> ?_⟩
  ·rcases List.mem_cons.mp hp with rfl | hp
   ·simp only[if_true];exact VRo.some hv
   ·have:p.1≠x:=fun e=>hx (e ▸ List.mem_map_of_mem hp)
    simp only[this,if_false];exact h.1 p hp
  ·simp only[List.map_cons,List.mem_cons,not_or] at hy
   simp only[hy.1,if_false];exact h.2 y hy.2
section
variable {prog:Program}{w:World}{X:Cx}{ρ ρ' ρ₁:Ro}{σ σ' σ₁:Led}{T:Tops}{n:Nat}{R R':PV→Led→Prop}{K:PF→Ro→Led→Prop}
variable {x C d:Addr}{cd:ClassData}{D:Data→Prop}{ρa ρb:Ro}
theorem VR.handed {v:PV}{u:Value}(h:VR v u):handedIn u=true:=by cases h<;>rfl
theorem kIn (O:XOK T n X) {s:Shared}(I:Inv X ρ σ s):T.K.In s.heap:=by
 obtain⟨m,news,F,N,R,D⟩:=I.st
 exact O.top.keeps F.keep
structure Obt (X:Cx) (σ:Led) (x C d:Addr) (D:Data→Prop) (ρa:Ro):Prop where
 obj:(x,isO C d D)∈σ
 dic:(d,isNd ρa)∈σ
 no: ∀v,D v→ ∀c,v≠ .cls c
theorem Obt.inst (B:Obt X σ x C d D ρa) {s:Shared}(I:Inv X ρ σ s): ∃o,s.heap.get? x=some o∧o.cls= .ref C∧o.dict=some d∧D o.data∧o.slots= #[]:=by
 obtain⟨o,ho,h⟩:=I.obj B.obj
 exact⟨o,ho,h⟩
theorem ev_getattr (O:XOK T n X) (Y:ClsK T.K C cd) (B:Obt X σ x C d D ρa) {name:Str}{v:PV}{expr:Bool}(hm:(name,some v)∈ρa) (hf:findIn T.K (.ref C) name=some none) (u:Value) (hu:VR (.ref x) u):PEt prog w X (getAttr u name expr) ρ σ v:=fun s I=>by
 cases hu
 obtain⟨o,ho,h1,h2,h3,h4⟩:=B.inst I
 obtain⟨od,hod,pd⟩:=I.obj B.dic
 obtain⟨m,R,hn⟩:=pd.ns1 hod
 obtain⟨uv,huv,hv⟩:=R.get hm
 exact getattr_nd (kIn O I) Y ho h1 (B.no _ h3) h2 hn hf huv hv.handed ⟨hv,I.tick _⟩
theorem ge_attr {o:Expr}{name:Str}{pos:Pos}{R₂:PV→Led→Prop}(ho:GE prog w X o ρ σ R) (h: ∀v σ',R v σ'→ ∀u,VR v u→VX prog w X (getAttr u name true) ρ σ' R₂)
  (he:eval (.Attribute o name pos) X.env=(do let u ←eval o X.env;standAt pos.atName;let r ←holding [u] (getAttr u name true);letTemporaryGo o u r;pure r):=by rfl):GE prog w X (.Attribute o name pos) ρ σ R₂:=fun s I=>
 Attribute_any_ (wpAny_mono (ho s I) (fun u s₁ q=>by
  obtain⟨v,σ',r,hv,I₁⟩:=q
  exact h v σ' r u hv s₁ I₁) fun _ _ f=>f) he
theorem pe_attr (O:XOK T n X) (Y:ClsK T.K C cd) {o:Expr}{name:Str}{pos:Pos}{v:PV}(ho:PE prog w X o ρ σ (.ref x)) (B:Obt X σ x C d D ρa) (hm:(name,some v)∈ρa) (hf:findIn T.K (.ref C) name=some none)
  (he:eval (.Attribute o name pos) X.env=(do let u ←eval o X.env;standAt pos.atName;let r ←holding [u] (getAttr u name true);letTemporaryGo o u r;pure r):=by rfl):PE prog w X (.Attribute o name pos) ρ σ v:=
 pe_of_ge (ge_attr (ge_of_pe ho) (fun v' σ' r u hu=>by
  obtain⟨rfl,e⟩:=r
  have e':=e.symm
  subst e'
  exact vx_of_pe (ev_getattr O Y B hm hf u hu)) he) fun v' σ' r=>by obtain⟨rfl,rfl⟩:=r;exact⟨rfl,.refl _⟩
theorem ev_setattr (O:XOK T n X) (Y:ClsK T.K C cd) (B:Obt X σ x C d D ρa) {name:Str}{v:PV}(hp:Put name v ρa ρb) (hm:Um d (isNd ρa) (isNd ρb) σ σ') (hf:findIn T.K (.ref C) name=some none) (nd:(ρa.map (·.1)).Nodup) (hz:ρa.length≤1000) (u vu:Value) (hu:VR (.ref x) u) (hv:VR v vu):
  Ev prog w X (setAttr u name vu) ρ σ (fun _ s'=>Inv X ρ σ' s'):=fun s I=>by
 cases hu
 obtain⟨o,ho,h1,h2,h3,h4⟩:=B.inst I
 obtain⟨od,hod,pd⟩:=I.obj hm.mem
 obtain⟨m,R,hn⟩:=pd.ns1 hod
 refine setattr_nd (kIn O I) Y ho h1 (B.no _ h3) h2 hn hf R.within (by rw[List.length_map];exact hz) fun h' tk hn' hs'=> ?_
 obtain⟨o',ho',po'⟩:=isNd_of (R.put nd hp hv) hn'
 exact I.turn (tk:=tk) hm.us hs' ho' po'
theorem s1_setattr (O:XOK T n X) (Y:ClsK T.K C cd) {o e:Expr}{name:Str}{apos pos:Pos}(he:GE prog w X e ρ σ R) (hf:findIn T.K (.ref C) name=some none)
  (hk: ∀v σ',R v σ'→ ∃x d D ρa ρb σ₂,PE prog w X o ρ σ' (.ref x)∧Obt X σ' x C d D ρa∧Put name v ρa ρb∧Um d (isNd ρa) (isNd ρb) σ' σ₂∧(ρa.map (·.1)).Nodup∧ρa.length≤1000∧K .next ρ σ₂)
  (hs:swapsWith e (some (.Attribute o name apos)) pos.line X.env=pure false:=by rfl):S1 prog w X (.Assign [.Attribute o name apos] e pos) ρ σ K:=fun s I=>
 plainObj_wpAny_Assign_Attribute (wpAny_mono (he s I) (fun vu s₁ q=>by
  obtain⟨v,σ',r,hv,I₁⟩:=q
  obtain⟨x,d,D,ρa,ρb,σ₂,ho,B,hp,hm,nd,hz,hk⟩:=hk v σ' r
  exact wpAny_mono (ho s₁ I₁) (fun u s₂ q=>wpAny_mono (ev_setattr O Y B hp hm hf nd hz u vu q.1 hv s₂ q.2) (fun _ s₃ I₃=>⟨_,_,_,hk,.next,I₃⟩) fun _ _ f=>f) fun _ _ f=>f) fun _ _ f=>f) hs
theorem meth_nd {prog:Program}{w:World}{A:Around}{E:Value→Shared→Prop}{s:Shared}{K:Frag}{m:Str→Option Value}{ox:Obj}{name:Str}{f t:Value}{pl:Sem Bool}{Q:Value×List Value→Shared→Prop}(X:K.In s.heap) (Y:ClsK K C cd) (hx:s.heap.get? x=some ox) (hc:ox.cls= .ref C) (hno: ∀c,ox.data≠ .cls c) (hd:ox.dict=some d) (hn:s.heap.Ns1 d m)
  (hf:findIn K (.ref C) name=some (some f)) (ht:typeIn K f=some t) (hk:(t != .type "function"&&t != .type "method_descriptor"&&t != .type "wrapper_descriptor")=false) (hv:m name=none) (hq:Q (f,[.ref x]) s):wpAny (model prog w) A (getMethod (.ref x) name pl) Q E s:=by
 obtain⟨ida,hga,hcan⟩:=Y.gaC
 obtain⟨od,es,ep,ho,hdat,hks,hu,hfnd⟩:=hn
 have I:W.InstAt s.heap x ox C (some od):=⟨hx,hc,by unfold notCls;cases h:ox.data<;>first | rfl | exact absurd h (hno _),by rw[hd];exact ho⟩
 have hl:lookIn name od=some none:=look_nd hdat hks (hfnd name ▸ hv)
 unfold getMethod specialOf
 refine wpAny_bind (wpAny_bind (I.type.here ((looks_findIn X hga).here ?_)))
 dsimp only
 rw[hcan,if_neg (by decide)]
 refine wpAny_bind (wpAny_bind (I.type.here ((looks_findIn X Y.gk).here ?_)))
 refine wpAny_bind (wpAny_bind (I.type.here ((looks_findIn X hf).here (wpAny_bind ((looks_typeIn X ht).here ?_)))))
 rw[hk,if_neg (by decide)]
 refine wpAny_bind (wpAny_loadPart hx ?_)
 rw[hd]
 refine wpAny_bind (wpAny_bind (wpAny_loadPart ho ?_))
 rw[nsLook_of hl]
 refine wpAny_pure ?_
 exact wpAny_bind (wpAny_rule (wpAny_pure hq))
theorem ev_method (O:XOK T n X) (Y:ClsK T.K C cd) (B:Obt X σ x C d D ρa) {name:Str}{f t:Value}{pl:Sem Bool}(hf:findIn T.K (.ref C) name=some (some f)) (ht:typeIn T.K f=some t) (hk:(t != .type "function"&&t != .type "method_descriptor"&&t != .type "wrapper_descriptor")=false)
  (hna:name∉ρa.map (·.1)) (u:Value) (s:Shared) (Q:Value×List Value→Shared→Prop) (hu:VR (.ref x) u) (I:Inv X ρ σ s) (hq:Q (f,[u]) s):wpAny (model prog w) X.A (getMethod u name pl) Q (fun _ _=>False) s:=by
 cases hu
 obtain⟨o,ho,h1,h2,h3,h4⟩:=B.inst I
 obtain⟨od,hod,pd⟩:=I.obj B.dic
 obtain⟨m,R,hn⟩:=pd.ns1 hod
 exact meth_nd (kIn O I) Y ho h1 (B.no _ h3) h2 hn hf ht hk (R.noneAt hna) hq
theorem ge_meth_f (O:XOK T n X) (hFL:X.FL=X.L) (Y:ClsK T.K C cd) {o:Expr}{name:Str}{apos pos:Pos}{args:List Expr}{pl:Sem Bool}{fa:Addr}{RA:List PV→Led→Prop}{R₂:PV→Led→Prop}{k:Nat}
  (ho:PE prog w X o ρ σ (.ref x)) (B:Obt X σ x C d D ρa) (hf:findIn T.K (.ref C) name=some (some (.ref fa))) (ht:typeIn T.K (.ref fa)=some (.type "function")) (hi:IsFn T fa) (hna:name∉ρa.map (·.1))
  (ha:AG prog w X args pos ρ σ RA) (hk:k≤n) (hc: ∀vs σ',RA vs σ'→Fn prog w T k (.ref fa) (.ref x::vs) σ' R₂)
  (heq:eval ((o.Attribute name apos).Call args [] pos) X.env=(do let ov ←eval o X.env;standAt apos.atName;let fx ←holding [ov] (getMethod ov name pl);match fx with | (f,first)=>callWith pos f first (backTo pos (starEach args X.env)) []):=by rfl):
  GE prog w X (.Call (.Attribute o name apos) args [] pos) ρ σ R₂:=fun s I=>
 MethodCall_ (pl:=pl) (wpAny_mono (ho s I) (fun u s₁ q=>by
  obtain⟨hu,I₁⟩:=q
  refine ev_method O Y B hf ht (by decide) hna u s₁ _ hu I₁ ?_
  obtain⟨oF,fd,hoF,hdF⟩:=hi.at_ X n O
  refine callWith_function (o:=oF) (fd:=fd) (wpAny_mono (ha _ s₁ I₁) (fun a s₂ q=> ?_) fun _ _ f=>f)
  obtain⟨us,vs,σ',rfl,r,hv,I₂⟩:=q
  refine⟨⟨I₂.keep hoF,hdF⟩,wpAny_call (codeAny_mono (hc vs σ' r X ρ s₂ (O.le hk) hFL I₂ (u::us) (.cons hu hv)) fun r s' q=> ?_)⟩
  obtain⟨u',pv,σ₂,rfl,hR,h1,h2⟩:=q
  exact⟨pv,σ₂,hR,h1,h2⟩) fun _ _ f=>f) heq
end
end Mine
end
section
set_option maxRecDepth 100000
set_option maxHeartbeats 1000000
open PySem PySem.W PyProof.Rows PySem.Calls
namespace Mine
section
variable {prog:Program}{w:World}{X:Cx}{ρ ρ' ρ₁:Ro}{σ σ' σ₁:Led}{T:Tops}{n:Nat}{R R':PV→Led→Prop}{K:PF→Ro→Led→Prop}
variable {x C d:Addr}{cd:ClassData}{ps:List PV}
noncomputable abbrev isA (C d:Addr) (ps:List PV):Obj→Prop:=isO C d (seqD ps)
theorem isA.turn {ps qs:List PV}{o:Obj}{f:Array Value→Array Value}(h:isA C d ps o) (hf: ∀vs:List Value,VRs ps vs→ ∃us:List Value,f vs.toArray=us.toArray∧VRs qs us):isA C d qs (Obj.mapSeq f o):=by
 obtain⟨h1,h2,⟨vs,k,hv,h3⟩,h4⟩:=h
 obtain⟨us,e,hu⟩:=hf vs hv
 obtain⟨n',hd'⟩:=Obj.data_mapSeq h3 f
 refine⟨(Obj.cls_mapSeq ..).trans h1,?_,⟨us,n',hu,hd'.trans (by rw[e])⟩,?_⟩
 ·obtain⟨c,dd,dt,sl⟩:=o;cases dt<;>exact h2
 ·obtain⟨c,dd,dt,sl⟩:=o;cases dt<;>exact h4
theorem isA.turn2 {ps qs:List PV}{o:Obj}{f:Array Value→Array Value}(h:isA C d ps o) {vs us:List Value}{k:Nat}(h3:o.data= .seq vs.toArray k) (e:f vs.toArray=us.toArray) (hu:VRs qs us):isA C d qs (Obj.mapSeq f o):=by
 obtain⟨h1,h2,_,h4⟩:=h
 obtain⟨n',hd'⟩:=Obj.data_mapSeq h3 f
 refine⟨(Obj.cls_mapSeq ..).trans h1,?_,⟨us,n',hu,hd'.trans (by rw[e])⟩,?_⟩
 ·obtain⟨c,dd,dt,sl⟩:=o;cases dt<;>exact h2
 ·obtain⟨c,dd,dt,sl⟩:=o;cases dt<;>exact h4
theorem isA.fr {o:Obj}(h:isA C d ps o):o.isFreed=false:=by
 obtain⟨h1,h2,⟨vs,k,hv,h3⟩,h4⟩:=h
 exact Obj.isFreed_of_seq h3
theorem cA_append (O:XOK T n X) (Y:ClsK T.K C cd) (hl:cd.mro.contains (.type "list")=true) {v:PV}(hm:Um x (isA C d ps) (isA C d (ps++[v])) σ σ') (hn:ps.length≤16777216) (u:Value) (us:List Value) (hu:VR (.ref x) u) (h:VRs [v] us):
  VX prog w X (call (.builtin "list.append") (u::us)) ρ σ (fun r σ₂=>r= .none∧σ₂=σ'):=fun s I=>by
 cases hu
 obtain⟨u,rfl,hu⟩:=h.one
 obtain⟨o,ho,po⟩:=I.obj hm.mem
 obtain⟨h1,h2,⟨vs,k,hv,h3⟩,h4⟩:=id po
 refine call_sub (n:="append") (by decide+kernel) entry_list_append (.inr (by decide+kernel)) (by decide+kernel) (isL_inst (kIn O I) Y hl ho h1) (args_list_append _ _) ?_
 show wpAny _ _ (updateSeq x (·.push u) >>= fun _=>ret .none) _ _ s
 refine wpAny_bind (wpAny_updateSeq ho h3 (wpAny_pure ⟨.none,rfl,.none,σ',⟨rfl,rfl⟩,.none,?_⟩) ?_ ?_)
 ·have po':isA C d (ps++[v]) (Obj.mapSeq (·.push u) o):=po.turn fun vs hv=>⟨vs++[u],by rw[List.push_toArray],hv.append (.cons hu .nil)⟩
  exact I.turn (tk:=s.toks) hm.us (Heap.SameBut.update ..) (Heap.get?_update_self _ ho po'.fr) po'
 ·rw[List.size_toArray,←hv.length,sizeLine_eq];exact hn
 ·rw[Array.size_push,List.size_toArray,←hv.length,sizeLine_eq];omega
theorem ev_special (O:XOK T n X) (Y:ClsK T.K C cd) {Q:Option Value→Shared→Prop}{name:Str}{id:String}(SL:Slot "list" name id) (hf:findIn T.K (.ref C) name=some (some (.builtin id))) {args:List Value}{s:Shared}{E:Value→Shared→Prop}(hm:(x,isA C d ps)∈σ) (I:Inv X ρ σ s)
  (h:wpAny (model prog w) X.A (call (.builtin id) (.ref x::args)) (fun v=>Q (some v)) E s):wpAny (model prog w) X.A (callSpecial? (.ref x) name args) Q E s:=by
 obtain⟨o,ho,po⟩:=I.obj hm
 have T: ∀{M:Model},Looks M s.heap (typeOf (.ref x)) (.ref C):=po.1 ▸ (Looks.ld ho).andThen .now
 refine wpAny_bind (wpAny_bind (T.here ((looks_findIn (kIn O I) hf).here (wpAny_holding ?_))))
 refine wpAny_bind (wpAny_of_eq (SL.bind _) ?_)
 exact wpAny_bind (wpAny_mono h (fun _ _ z=>wpAny_pure z) fun _ _ z=>z)
theorem ev_key (O:XOK T n X) (Y:ClsK T.K C cd) (hq:noSeq T.K C=true) {Q:Value→Shared→Prop}{name:Str}{k:Value}{s:Shared}{E:Value→Shared→Prop}(hm:(x,isA C d ps)∈σ) (I:Inv X ρ σ s) (h:Q k s):wpAny (model prog w) X.A (sequenceKey (.ref x) k name) Q E s:=by
 obtain⟨o,ho,po⟩:=I.obj hm
 have T': ∀{M:Model},Looks M s.heap (typeOf (.ref x)) (.ref C):=po.1 ▸ (Looks.ld ho).andThen .now
 unfold sequenceKey
 refine wpAny_bind (T'.here (wpAny_bind ((anyM_none (kIn O I) hq).here ?_)))
 exact wpAny_pure h
theorem gA_item (O:XOK T n X) (Y:ClsK T.K C cd) (hl:cd.mro.contains (.type "list")=true) (hq:noSeq T.K C=true) (hf:findIn T.K (.ref C) "__getitem__"=some (some (.builtin "list.__getitem__"))) (hm:(x,isA C d ps)∈σ) {i:Int}{p:PV}(h0:0≤i) (h1:i<ps.length) (hn:ps.length≤16777216) (hp:itemL ps i=p) (u iu:Value) (hu:VR (.ref x) u) (hi:VR (.int i) iu):
  PEt prog w X (getItem u iu) ρ σ p:=fun s I=>by
 cases hu;cases hi
 obtain⟨o,ho,po⟩:=I.obj hm
 obtain⟨h1',h2,⟨vs,k,hv,h3⟩,h4⟩:=id po
 have hlen:=hv.length
 unfold getItem
 refine wpAny_holding (wpAny_bind (ev_key O Y hq hm I (wpAny_bind (ev_special O Y slot_list_getitem hf hm I ?_))))
 refine call_sub (n:="__getitem__") (by decide+kernel) entry_list_getitem (.inr (by decide+kernel)) (by decide+kernel) (isL_inst (kIn O I) Y hl ho h1') (args_list_getitem _ _) ?_
 show wpAny _ _ (Builtin.List.listSubscript? (.int i _) >>= _) _ _ s
 refine wpAny_bind (wpAny_listSubscript_int (fitsIndex_of h0 (by omega)) ?_)
 subst hp
 obtain⟨y,hy,r⟩:=hv.getE (i:=i.toNat) (p:=itemL ps i) (by unfold itemL;rw[if_neg (by omega),List.getD_eq_getElem?_getD,List.getElem?_eq_getElem (by omega)];rfl)
 obtain⟨j,rfl⟩:=Int.eq_ofNat_of_zero_le h0
 show wpAny _ _ ((seqItemAt x j >>= fun r=>pure (r.map (j, ·))) >>= _) _ _ s
 refine wpAny_bind (wpAny_bind (wpAny_seqItemAt ho h3 (wpAny_pure ?_)))
 have hy':vs.toArray[j]? =some y:=hy
 rw[hy']
 exact wpAny_pure ⟨y,rfl,wpAny_pure ⟨r,I⟩⟩
theorem parts_slice {prog:Program}{w:World}{A:Around}{E:Value→Shared→Prop}{s:Shared}{sl:Addr}{vl vu:Value}{lo hi:Option Int}{α:Type}{k:Value×Value×Value→Sem α}{Q:α→Shared→Prop}(hs:s.heap.IsSliceOf sl vl vu .none) (pl:IsPart vl lo) (pu:IsPart vu hi)
  (h:wpAny (model prog w) A (k (rawPart lo,rawPart hi,rawPart none)) Q E s):wpAny (model prog w) A (Builtin.List.listSliceParts (.ref sl) >>= k) Q E s:=by
 obtain⟨os,hos,hcs,hds⟩:=id hs
 rw[listSliceParts_eq]
 refine wpAny_bind (wpAny_bind (wpAny_field hos hds (x:=.none) rfl (wpAny_bind (wpAny_listPart .none ?_))))
 rw[if_neg (by decide)]
 refine wpAny_bind (wpAny_field hos hds (x:=vl) rfl (wpAny_bind (wpAny_listPart pl ?_)))
 exact wpAny_bind (wpAny_field hos hds (x:=vu) rfl (wpAny_bind (wpAny_listPart pu (wpAny_pure h))))
theorem gA_slice (O:XOK T n X) (Y:ClsK T.K C cd) (hl:cd.mro.contains (.type "list")=true) (hq:noSeq T.K C=true) (hf:findIn T.K (.ref C) "__getitem__"=some (some (.builtin "list.__getitem__"))) (hm:(x,isA C d ps)∈σ) {lo hi:Option Int}(hn:ps.length≤16777216) {vl vu:Value}(pl:IsPart vl lo) (pu:IsPart vu hi) {sl:Addr}{s:Shared}(hs:s.heap.IsSliceOf sl vl vu .none) (I:Inv X ρ σ s):
  wpAny (model prog w) X.A (getItem (.ref x) (.ref sl)) (fun u s'=> ∃a,u= .ref a∧Inv X ρ ((a,isL (Mine.sl ps lo hi))::σ) s') (fun _ _=>False) s:=by
 obtain⟨o,ho,po⟩:=I.obj hm
 obtain⟨h1',h2,⟨vs,k,hv,h3⟩,h4⟩:=id po
 obtain⟨os,hos,hcs,hds⟩:=id hs
 have hTs:s.TypeIs (.ref sl) "slice":=⟨os,hos,hcs⟩
 unfold getItem
 refine wpAny_holding (wpAny_bind (ev_key O Y hq hm I (wpAny_bind (ev_special O Y slot_list_getitem hf hm I ?_))))
 refine call_sub (n:="__getitem__") (by decide+kernel) entry_list_getitem (.inr (by decide+kernel)) (by decide+kernel) (isL_inst (kIn O I) Y hl ho h1') (args_list_getitem _ _) ?_
 show wpAny _ _ (Builtin.List.listSubscript? (.ref sl) >>= _) _ _ s
 refine wpAny_bind ?_
 unfold Builtin.List.listSubscript?
 refine wpAny_bind (wpAny_specialOf hTs slice_no_index ?_)
 simp only[Option.isNone_none,if_true]
 refine wpAny_pure ?_
 show wpAny _ _ (typeOf (.ref sl) >>= _) _ _ s
 refine wpAny_bind (wpAny_typeOf hTs ?_)
 rw[if_neg (by decide)]
 refine parts_slice hs pl pu ?_
 refine wpAny_bind (m:=Builtin.List.listItems (.ref x)) ?_
 unfold Builtin.List.listItems
 refine wpAny_bind (wpAny_seqItems ho h3 (wpAny_pure ?_))
 refine wpAny_bind (wpAny_of_eq (sliceIndices_raw lo hi none vs.toArray.size (by simp)) ?_)
 obtain⟨us,e,hus⟩:=hv.slice lo hi
 refine wpAny_bind (wpAny_newObj_type (wpAny_pure ⟨_,rfl,wpAny_pure ⟨_,rfl,?_⟩⟩) ?_)
 ·have e':({cls:=.type "list",data:=.seq (slicePick vs.toArray lo hi none)}:Obj)={cls:=.type "list",data:=.seq us.toArray}:=by rw[e]
  show Inv X ρ _ {s with heap:=s.heap.push {cls:=.type "list",data:=.seq (slicePick vs.toArray lo hi none)}}
  rw[e']
  exact I.push ⟨us,0,hus,rfl⟩ rfl (tk:=s.toks)
 ·exact Nat.le_trans (slicePick_size_le vs.toArray lo hi none) (by rw[List.size_toArray,←hv.length,sizeLine_eq];exact hn)
theorem wpAny_letGo' {M:Model}{A:Around}{E:Value→Shared→Prop}{Q:Unit→Shared→Prop}{keep:List Value}: ∀(l:List Value) {s:Shared},Q () s→wpAny M A (letGo l keep) Q E s
 | [],_,h=>wpAny_pure h
 | _::r,_,h=>wpAny_bind (wpAny_holding (wpAny_point (wpAny_letGo' r h)))
theorem gA_setslice (O:XOK T n X) (Y:ClsK T.K C cd) (hl:cd.mro.contains (.type "list")=true) (hq:noSeq T.K C=true) (hf:findIn T.K (.ref C) "__setitem__"=some (some (.builtin "list.__setitem__"))) {qs rs:List PV}(hm:Um x (isA C d ps) (isA C d rs) σ σ') {b:Addr}(hb:(b,isL qs)∈σ) (hne:b≠x) {lo hi:Option Int}
  (hr: ∀vs us,VRs ps vs→VRs qs us→ ∃ws:List Value,vs.toArray.extract 0 (sliceBounds lo hi none vs.length).1.toNat++us.toArray++vs.toArray.extract (max (sliceBounds lo hi none vs.length).1 (sliceBounds lo hi none vs.length).2.1).toNat vs.toArray.size=ws.toArray∧VRs rs ws)
  (hn:ps.length+qs.length≤16000000) (hn2:rs.length≤16000000) {vl vu:Value}(pl:IsPart vl lo) (pu:IsPart vu hi) {sl:Addr}{s:Shared}(hs:s.heap.IsSliceOf sl vl vu .none) (I:Inv X ρ σ s):
  wpAny (model prog w) X.A (setItem (.ref x) (.ref sl) (.ref b)) (fun _ s'=>Inv X ρ σ' s') (fun _ _=>False) s:=by
 obtain⟨o,ho,po⟩:=I.obj hm.mem
 obtain⟨h1',h2,⟨vs,k,hv,h3⟩,h4⟩:=id po
 obtain⟨ob,hob,pb⟩:=I.obj hb
 obtain⟨us,hus,il⟩:=pb.list hob
 obtain⟨ob',hob',hcb,nb,hdb⟩:=id il
 obtain⟨os,hos,hcs,hds⟩:=id hs
 have hTs:s.TypeIs (.ref sl) "slice":=⟨os,hos,hcs⟩
 unfold setItem
 refine wpAny_holding (wpAny_bind (ev_key O Y hq hm.mem I (wpAny_bind (ev_special O Y slot_list_setitem hf hm.mem I ?_))))
 refine call_sub (n:="__setitem__") (by decide+kernel) entry_list_setitem (.inl (by decide+kernel)) (by decide+kernel) (isL_inst (kIn O I) Y hl ho h1') (args_list_setitem _ _ _) ?_
 show wpAny _ _ (Builtin.List.listSubscript? (.ref sl) >>= _) _ _ s
 refine wpAny_bind ?_
 unfold Builtin.List.listSubscript?
 refine wpAny_bind (wpAny_specialOf hTs slice_no_index ?_)
 simp only[Option.isNone_none,if_true]
 refine wpAny_pure ?_
 show wpAny _ _ (typeOf (.ref sl) >>= _) _ _ s
 refine wpAny_bind (wpAny_typeOf hTs ?_)
 rw[if_neg (by decide)]
 refine parts_slice hs pl pu ?_
 have hsame:Builtin.List.listSameRef (.ref x) (.ref b)=false:=by
  show (x==b)=false
  rw[beq_eq_false_iff_ne];exact fun e=>hne e.symm
 rw[hsame]
 simp only[Bool.false_eq_true,if_false]
 refine wpAny_bind (m:=Builtin.List.listAllItems (.ref b) _) ?_
 unfold Builtin.List.listAllItems
 refine wpAny_bind (wpAny_typeOf il.typeIs ?_)
 rw[if_pos (by decide)]
 refine wpAny_listItems hob' hdb ?_
 refine wpAny_bind (wpAny_listItems ho h3 ?_)
 refine wpAny_bind (wpAny_of_eq (sliceIndices_raw lo hi none vs.toArray.size (by simp)) ?_)
 have hstep:((sliceBounds lo hi none vs.toArray.size).2.2==1)=true:=rfl
 rw[if_pos hstep]
 refine wpAny_bind (wpAny_rule ?_)
 have hll:Builtin.List.listTooLong (vs.toArray.size+us.toArray.size)=false:=by
  unfold Builtin.List.listTooLong
  rw[List.size_toArray,List.size_toArray,←hv.length,←hus.length,sizeLine_eq]
  simp;omega
 rw[hll]
 simp only[Bool.false_eq_true,if_false]
 obtain⟨ws,hw,hwr⟩:=hr vs us hv hus
 rw[←List.size_toArray] at hw
 refine wpAny_bind (m:=updateSeq x _) (wpAny_updateSeq ho h3 ?_ ?_ ?_)
 ·refine wpAny_bind (wpAny_letGo' _ ?_)
  refine wpAny_pure ⟨.none,rfl,wpAny_pure ?_⟩
  have po':isA C d rs (Obj.mapSeq (fun xs:Array Value=>xs.extract 0 (sliceBounds lo hi none vs.toArray.size).1.toNat++us.toArray++xs.extract (max (sliceBounds lo hi none vs.toArray.size).1 (sliceBounds lo hi none vs.toArray.size).2.1).toNat xs.size) o):=po.turn2 h3 hw hwr
  exact I.turn (tk:=s.toks) hm.us (Heap.SameBut.update ..) (Heap.get?_update_self _ ho po'.fr) po'
 ·rw[List.size_toArray,←hv.length,sizeLine_eq];omega
 ·have e:=congrArg Array.size hw
  refine Nat.le_trans (Nat.le_of_eq e) ?_
  rw[List.size_toArray,←hwr.length,sizeLine_eq];omega
theorem gA_iter (O:XOK T n X) (Y:ClsK T.K C cd) (hl:cd.mro.contains (.type "list")=true) (hf:findIn T.K (.ref C) "__iter__"=some (some (.builtin "list.__iter__"))) (hm:(x,isA C d ps)∈σ) {s:Shared}(I:Inv X ρ σ s):
  wpAny (model prog w) X.A (pyIter (.ref x)) (fun u s'=>u= .ref s.heap.objs.size∧s'={s with heap:=s.heap.push {cls:=.type "list_iterator",data:=.fields #[.ref x,.int 0 0]}}) (fun _ _=>False) s:=by
 obtain⟨o,ho,po⟩:=I.obj hm
 obtain⟨h1,h2,⟨vs,k,hv,h3⟩,h4⟩:=id po
 have T: ∀{M:Model},Looks M s.heap (typeOf (.ref x)) (.ref C):=h1 ▸ (Looks.ld ho).andThen .now
 unfold pyIter
 refine wpAny_bind (wpAny_bind (T.here ((looks_findIn (kIn O I) hf).here ?_)))
 dsimp only
 unfold callSpecialIfBoundUnlessNone? bindSpecialIfBound?
 refine wpAny_bind (wpAny_holding (wpAny_bind (wpAny_bind (wpAny_bind (T.here ((looks_findIn (kIn O I) hf).here ?_))))))
 have fin:wpAny (model prog w) X.A (call (.builtin "list.__iter__") [.ref x]) (fun it s'=>it= .ref s.heap.objs.size∧s'={s with heap:=s.heap.push {cls:=.type "list_iterator",data:=.fields #[.ref x,.int 0 0]}}) (fun _ _=>False) s:=by
  refine call_sub (n:="__iter__") (by decide+kernel) entry_list_iter (.inl (by decide+kernel)) (by decide+kernel) (isL_inst (kIn O I) Y hl ho h1) (args_list_iter _) ?_
  show wpAny _ _ (do ret (←newFields "list_iterator" [.ref x,rawInt 0])) _ _ s
  exact wpAny_bind (wpAny_newObj_type (wpAny_pure ⟨_,rfl,rfl,rfl⟩))
 have fin2:wpAny (model prog w) X.A (call (.builtin "list.__iter__") [.ref x]) (fun it s'=>wpAny (model prog w) X.A (do
   match ←specialOf it "__next__" with
   | none=>rule "iter.non-iterator";raiseError "TypeError" s!"iter() returned non-iterator of type '{← typeNameOf it}'"
   | some _=>pure it) (fun u s'=>u= .ref s.heap.objs.size∧s'={s with heap:=s.heap.push {cls:=.type "list_iterator",data:=.fields #[.ref x,.int 0 0]}}) (fun _ _=>False) s') (fun _ _=>False) s:=by
  refine wpAny_mono fin (fun it s' q=> ?_) fun _ _ f=>f
  obtain⟨rfl,rfl⟩:=q
  exact wpAny_bind (wpAny_specialOf (T:="list_iterator") ⟨_,Heap.get?_push_size _ rfl,rfl⟩ slot_listiter_next.lookup (wpAny_pure ⟨rfl,rfl⟩))
 simp only[slot_list_iter.bind]
 refine wpAny_bind (wpAny_askSetting (wpAny_ite ?_))
 have fin3: ∀r:Sem Value,wpAny (model prog w) X.A (if (Value.builtin "list.__iter__"==Value.none)=true then (r >>= fun v=>pure (some v)) else (call (.builtin "list.__iter__") [.ref x] >>= fun v=>pure (some v))) (fun a s'=>wpAny (model prog w) X.A (match a with
   | some it=>(do
     match ←specialOf it "__next__" with
     | none=>rule "iter.non-iterator";raiseError "TypeError" s!"iter() returned non-iterator of type '{← typeNameOf it}'"
     | some _=>pure it)
   | none=>(do
     match ←bindSpecialIfBound? (.ref x) "__getitem__" with
     | none=>rule "iter.not-iterable";raiseError "TypeError" s!"'{← typeNameOf (.ref x)}' object is not iterable"
     | some _=>rule "iter.getitem-fallback";newFields "iterator" [.ref x,←mkInt 0])) (fun u s'=>u= .ref s.heap.objs.size∧s'={s with heap:=s.heap.push {cls:=.type "list_iterator",data:=.fields #[.ref x,.int 0 0]}}) (fun _ _=>False) s') (fun _ _=>False) s:=fun r=>by
  simp only[builtin_beq_none,Bool.false_eq_true,if_false]
  exact wpAny_bind (wpAny_mono fin2 (fun v s' h'=>wpAny_pure h') fun _ _ h'=>h')
 split
 ·exact wpAny_bind (wpAny_pure (wpAny_pure (fin3 _)))
 ·exact wpAny_tryCatch (wpAny_bind (wpAny_pure (wpAny_pure (fin3 _))))
end
end Mine
end
section
set_option maxRecDepth 100000
set_option maxHeartbeats 2000000
open PySem PySem.W PyProof.Rows PySem.Calls
namespace Mine
structure SupB (id:String) (dT gid bT:String) (Bg:Builtin):Prop where
 typ:typeOf (.builtin id)=pure (.type dT)
 slot:Slot dT "__get__" gid
 entry:entryFor table gid=some Bg
 args: ∀a b c,argsOk gid ⟨[a,b,c],[]⟩
 run: ∀(prog:Program) (w:World) (A:Around) (E:Value→Shared→Prop) (h:Heap) (g:Array GenState) (d:Drawn) (t:Nat) (os:OsState) (x:Addr) (C:Value) (Q:Fin→Shared→Prop),Looks (model prog w) h (isInstance (.ref x) (.type "list")) true→(C== .none)=false→
  Q (.done (.ret (.ref h.objs.size))) ⟨h.push {cls:=.type bT,data:=.fields #[.builtin id,.ref x]},g,d,t,os⟩→wpAny (model prog w) A (Bg ⟨[.builtin id,.ref x,C],[]⟩) Q E ⟨h,g,d,t,os⟩
theorem slot_md_get:Slot "method_descriptor" "__get__" "method_descriptor.__get__":=.of (owner:="method_descriptor") (n:="__get__") (by rw[typeLookup_type,builtinLookup_eq_fast];kernel_rfl) (by decide+kernel) (by decide+kernel) (by decide+kernel)
 (by first | exact .inl (by decide+kernel) | exact .inr (by decide+kernel)) (by rw[isSubtype_type];kernel_rfl)
theorem slot_wd_get:Slot "wrapper_descriptor" "__get__" "wrapper_descriptor.__get__":=.of (owner:="wrapper_descriptor") (n:="__get__") (by rw[typeLookup_type,builtinLookup_eq_fast];kernel_rfl) (by decide+kernel) (by decide+kernel) (by decide+kernel)
 (by first | exact .inl (by decide+kernel) | exact .inr (by decide+kernel)) (by rw[isSubtype_type];kernel_rfl)
theorem entry_md_get:entryFor table "method_descriptor.__get__"=some Builtin.«method_descriptor.__get__» :=entryFor_of_tree (by kernel_rfl)
theorem entry_wd_get:entryFor table "wrapper_descriptor.__get__"=some Builtin.«wrapper_descriptor.__get__» :=entryFor_of_tree (by kernel_rfl)
theorem args_md_get (a b c:Value):argsOk "method_descriptor.__get__" ⟨[a,b,c],[]⟩:=by unfold argsOk;kernel_rfl
theorem args_wd_get (a b c:Value):argsOk "wrapper_descriptor.__get__" ⟨[a,b,c],[]⟩:=by unfold argsOk;kernel_rfl
theorem typ_pop:typeOf (.builtin "list.pop")=pure (.type "method_descriptor"):=by show builtinType _ =_;rw[builtinType_eq_fast];kernel_rfl
theorem typ_len:typeOf (.builtin "list.__len__")=pure (.type "wrapper_descriptor"):=by show builtinType _ =_;rw[builtinType_eq_fast];kernel_rfl
theorem typ_init:typeOf (.builtin "list.__init__")=pure (.type "wrapper_descriptor"):=by show builtinType _ =_;rw[builtinType_eq_fast];kernel_rfl
theorem sup_len:SupB "list.__len__" "wrapper_descriptor" "wrapper_descriptor.__get__" "method-wrapper" Builtin.«wrapper_descriptor.__get__» where
 typ:=typ_len
 slot:=slot_wd_get
 entry:=entry_wd_get
 args:=args_wd_get
 run prog w A E h g d t os x C Q hi hC hq:=by
  have hl:".".intercalate ("list.__len__".cutAt '.').dropLast="list":=by decide+kernel
  have hi':Looks (model prog w) h (isInstance (.ref x) (.type (".".intercalate ("list.__len__".cutAt '.').dropLast))) true:=by rw[hl];exact hi
  unfold Builtin.«wrapper_descriptor.__get__»
  repeat lk
  exact hq
theorem sup_init:SupB "list.__init__" "wrapper_descriptor" "wrapper_descriptor.__get__" "method-wrapper" Builtin.«wrapper_descriptor.__get__» where
 typ:=typ_init
 slot:=slot_wd_get
 entry:=entry_wd_get
 args:=args_wd_get
 run prog w A E h g d t os x C Q hi hC hq:=by
  have hl:".".intercalate ("list.__init__".cutAt '.').dropLast="list":=by decide+kernel
  have hi':Looks (model prog w) h (isInstance (.ref x) (.type (".".intercalate ("list.__init__".cutAt '.').dropLast))) true:=by rw[hl];exact hi
  unfold Builtin.«wrapper_descriptor.__get__»
  repeat lk
  exact hq
theorem sup_pop:SupB "list.pop" "method_descriptor" "method_descriptor.__get__" "builtin_function_or_method" Builtin.«method_descriptor.__get__» where
 typ:=typ_pop
 slot:=slot_md_get
 entry:=entry_md_get
 args:=args_md_get
 run prog w A E h g d t os x C Q hi hC hq:=by
  have hl:".".intercalate ("list.pop".cutAt '.').dropLast="list":=by decide+kernel
  have hi':Looks (model prog w) h (isInstance (.ref x) (.type (".".intercalate ("list.pop".cutAt '.').dropLast))) true:=by rw[hl];exact hi
  have ht:Manifest.toldItsClass.contains "list.pop"=false:=by decide+kernel
  unfold Builtin.«method_descriptor.__get__»
  repeat lk
  simp only[show (Value.ref x==Value.none)=false from rfl,hC,Bool.false_eq_true,if_false,ht]
  repeat lk
  exact hq
section
variable {prog:Program}{w:World}{M:Model}{A:Around}{E:Value→Shared→Prop}{h:Heap}{g:Array GenState}{d:Drawn}{t:Nat}{os:OsState}
theorem super_ga_b {so D x C:Addr}{id dT gid bT:String}{Bg:Builtin}{l₀ l:List Value}{K:Frag}{name:Str}{tk:Tok}{Q:Fin→Shared→Prop}(S:SupB id dT gid bT Bg)
  (hso:h.get? so=some {cls:=.type "super",dict:=none,data:=.fields #[.ref D,.ref x,.ref C],slots:= #[]}) (hno:Looks (model prog w) h (opaqueClassAbove (.ref C)) none)
  (hC:Looks (model prog w) h (mroOf (.ref C)) l₀) (hl:(l₀.dropWhile (· != .ref D)).drop 1=l) (X:K.In h)
  (hf:alongIn K name l=some (some (.builtin id))) (hxC:x≠C) (hn:(name==("__class__":Str))=false) (hi:Looks (model prog w) h (isInstance (.ref x) (.type "list")) true)
  (hq:Q (.done (.ret (.ref h.objs.size))) ⟨h.push {cls:=.type bT,data:=.fields #[.builtin id,.ref x]},g,d,t,os⟩):
  wpAny (model prog w) A (Builtin.«super.__getattribute__» ⟨[.ref so,.str name tk],[]⟩) Q E ⟨h,g,d,t,os⟩:=by
 have hlk:=S.slot.lookup
 have hne:(Value.ref x==Value.ref C)=false:=by simp[hxC]
 have hdt:({cls:=.type "super",dict:=none,data:=.fields #[.ref D,.ref x,.ref C],slots:= #[]}:Obj).data= .fields #[.ref D,.ref x,.ref C]:=rfl
 have f0:(#[.ref D,.ref x,.ref C]:Array Value)[0]? =some (.ref D):=rfl
 have f1:(#[.ref D,.ref x,.ref C]:Array Value)[1]? =some (.ref x):=rfl
 have f2:(#[.ref D,.ref x,.ref C]:Array Value)[2]? =some (.ref C):=rfl
 have ht:=S.typ
 have hTd:(⟨h,g,d,t,os⟩:Shared).TypeIs (.builtin id) dT:=ht
 unfold Builtin.«super.__getattribute__»
 repeat (first
  | (with_reducible refine wpAny_field hso hdt f0 ?_) | (with_reducible refine wpAny_field hso hdt f1 ?_) | (with_reducible refine wpAny_field hso hdt f2 ?_)
  | (with_reducible refine ks_wpAny_notOpaque hno ?_)
  | (with_reducible refine Looks.at hC ?_;rw[hl])
  | (refine ks_forIn_along X (fun _ _=>rfl) rfl ?_ hf)
  | (with_reducible refine wpAny_typeOf hTd ?_)
  | (with_reducible refine wpAny_call_entry S.slot hTd S.entry ?_ (S.args _ _ _))
  | (simp only[hn,hne,Bool.or_false,Bool.false_eq_true,if_false])
  | wp_step
  | dsimp only)
 refine S.run prog w _ _ _ _ _ _ _ x (.ref C) _ hi rfl ⟨_,rfl,?_⟩
 exact wpAny_bind (wpAny_pure (wpAny_pure (wpAny_pure hq)))
theorem getMethod_super_b {so D x C:Addr}{id dT gid bT:String}{Bg:Builtin}{l₀ l:List Value}{K:Frag}{name:Str}{pl:Sem Bool}{Q:Value×List Value→Shared→Prop}(S:SupB id dT gid bT Bg)
  (hso:h.get? so=some {cls:=.type "super",dict:=none,data:=.fields #[.ref D,.ref x,.ref C],slots:= #[]}) (hno:Looks (model prog w) h (opaqueClassAbove (.ref C)) none)
  (hC:Looks (model prog w) h (mroOf (.ref C)) l₀) (hl:(l₀.dropWhile (· != .ref D)).drop 1=l) (X:K.In h)
  (hf:alongIn K name l=some (some (.builtin id))) (hxC:x≠C) (hn:(name==("__class__":Str))=false) (hi:Looks (model prog w) h (isInstance (.ref x) (.type "list")) true)
  (hq:Q (.ref h.objs.size,[]) ⟨h.push {cls:=.type bT,data:=.fields #[.builtin id,.ref x]},g,d,t+1,os⟩):
  wpAny (model prog w) A (getMethod (.ref so) name pl) Q E ⟨h,g,d,t,os⟩:=by
 have hlk:=PySem.F.ks_slot_super_ga.lookup
 have hcan:=PySem.F.ks_canon_super_ga
 have hT: ∀t',(⟨h,g,d,t',os⟩:Shared).TypeIs (.ref so) "super":=fun _=>⟨_,hso,rfl⟩
 unfold getMethod
 refine wpAny_bind (wpAny_specialOf (hT _) hlk ?_)
 show wpAny _ _ (if (Manifest.canonical "super.__getattribute__" != "object.__getattribute__")=true then _ else _) _ _ _
 rw[if_pos hcan]
 unfold getAttr getAttrBy
 refine wpAny_bind (wpAny_bind (wpAny_mkText (wpAny_holding (wpAny_bind (wpAny_typeOf (hT _) (wpAny_bind (wpAny_of_eq hlk ?_)))))))
 show wpAny _ _ (getAttrByItsOwn (.ref so) (.str name t) (.type "super") (.builtin "super.__getattribute__") true false) _ _ _
 unfold getAttrByItsOwn hookBefore callGetattribute boundAndCalled
 refine wpAny_bind (wpAny_of_eq (show (if onTheHeap (.type "super") then typeLookup (.type "super") "__getattr__" else pure none)=pure none from rfl) ?_)
 refine wpAny_bind (wpAny_attempt (wpAny_holding ?_))
 show wpAny _ _ (bindSpecial (.builtin "super.__getattribute__") (.ref so) >>= _) _ _ _
 refine wpAny_bind (wpAny_of_eq (PySem.F.ks_slot_super_ga.bind _) ?_)
 refine wpAny_mono (Q:=fun v s'=>v= .ref h.objs.size∧s'=⟨h.push {cls:=.type bT,data:=.fields #[.builtin id,.ref x]},g,d,t+1,os⟩) (E:=fun _ _=>False)
  (wpAny_call_entry PySem.F.ks_slot_super_ga (hT _) PySem.F.ks_entry_super_ga (super_ga_b S hso hno hC hl X hf hxC hn hi ⟨_,rfl,rfl,rfl⟩) (PySem.F.ks_gaArgs_super _ _)) (fun v s' hv=> ?_) fun _ _ z=>z.elim
 obtain⟨rfl,rfl⟩:=hv
 exact wpAny_pure (wpAny_pure hq)
theorem call_boundB {s:Shared}{b x:Addr}{id bT:String}{B:Builtin}{args:List Value}{Q:Value→Shared→Prop}(hb:s.heap.get? b=some {cls:=.type bT,data:=.fields #[.builtin id,.ref x]}) (hbt:bT="method-wrapper"∨bT="builtin_function_or_method")
  (hent:entryFor table id=some B) (hpl:plainId id=true) (hchk: ∀(A':Around) (E':Value→Shared→Prop) (Q':Unit→Shared→Prop),Q' () s→wpAny (model prog w) A' (checkBoundCall id ⟨.ref x::args,[]⟩) Q' E' s)
  (h:wpAny (model prog w) A.in1 (B ⟨.ref x::args,[]⟩) (fun fin s'=> ∃v,fin= .done (.ret v)∧Q v s') E s):wpAny (model prog w) A (call (.ref b) args) Q E s:=by
 refine wpAny_call (codeAny_of_tree ?_)
 show wpAny _ _ (callAny (.ref b) _) _ _ _
 unfold callAny
 refine wpAny_bind (wpAny_load hb ?_)
 rcases hbt with rfl | rfl
 all_goals
  show wpAny _ _ (checkBoundCall id ⟨.ref x::args,[]⟩ >>= fun _=>again (.builtin id ⟨.ref x::args,[]⟩)) _ _ _
  refine wpAny_bind (hchk _ _ _ ?_)
  refine wpAny_pure ⟨plainId_quiet hpl _,codeAny_builtin hent ?_⟩
  rw[Around.under_plainId hpl]
  exact wpAny_mono h (fun fin s' q=>by obtain⟨v,rfl,hv⟩:=q;exact hv) fun _ _ f=>f
theorem chk_len {s:Shared}{x:Addr}{A':Around}{E':Value→Shared→Prop}{Q':Unit→Shared→Prop}(h:Q' () s):wpAny (model prog w) A' (checkBoundCall "list.__len__" ⟨.ref x::[],[]⟩) Q' E' s:=
 wpAny_of_eq (show checkBoundCall "list.__len__" ⟨.ref x::[],[]⟩=pure () from by kernel_rfl) h
theorem chk_init {s:Shared}{x:Addr}{A':Around}{E':Value→Shared→Prop}{Q':Unit→Shared→Prop}(h:Q' () s):wpAny (model prog w) A' (checkBoundCall "list.__init__" ⟨.ref x::[],[]⟩) Q' E' s:=
 wpAny_of_eq (show checkBoundCall "list.__init__" ⟨.ref x::[],[]⟩=pure () from by kernel_rfl) h
theorem args_pop (v:Value):(match Manifest.signature? "list.pop" with | some sig=>Bind.checkArgs "list.pop" {sig with full:=toString ("_Accumulator":Str).toString++toString "."++toString (Bind.lastOf "list.pop")} ⟨[v],[]⟩ | none=>unsupported "")=(pure ():Sem Unit):=by
 rw[signature?_of (id:="list.pop") (n:=['p','o','p']) (o:=['t','s','i','l']) (by kernel_rfl) PySem.F.owner_list];kernel_rfl
theorem chk_pop {K:Frag}{cd:ClassData}{s:Shared}{x C:Addr}{ox:Obj}(X:K.In s.heap) (Y:ClsK K C cd) (hx:s.heap.get? x=some ox) (hc:ox.cls= .ref C) (hno: ∀c,ox.data≠ .cls c) (hmt:typeIn K (.ref C)=some (.type "type")) (hqn:cd.qualname=("_Accumulator":Str)) (hm:cd.mro.contains (.type "module")=false) {A':Around}{E':Value→Shared→Prop}{Q':Unit→Shared→Prop}(h:Q' () s):wpAny (model prog w) A' (checkBoundCall "list.pop" ⟨.ref x::[],[]⟩) Q' E' s:=by
 have T: ∀{M:Model},Looks M s.heap (typeOf (.ref x)) (.ref C):=hc ▸ (Looks.ld hx).andThen .now
 have L1:Looks (model prog w) s.heap (isInstance (.ref x) (.type "module")) false:=T.andThen (looks_mroIn X (by unfold mroIn;rw[Y.cls,Option.bind_some,if_neg (by rw[Y.ne];decide),hm]))
 have L2:=T (M:=model prog w)
 have L3:=looks_clsIn (M:=model prog w) X Y.cls
 have L4:=looks_typeIn (M:=model prog w) X hmt
 have hs: ∃sig,Manifest.signature? "list.pop"=some sig:=Option.isSome_iff_exists.mp (by rw[signature?_of (id:="list.pop") (n:=['p','o','p']) (o:=['t','s','i','l']) (by kernel_rfl) PySem.F.owner_list];kernel_rfl)
 obtain⟨sig,hs⟩:=hs
 have hk:builtinKind "list.pop"=some .method:=by decide+kernel
 have ha:Bind.checkArgs "list.pop" {sig with full:=toString cd.qualname.toString++toString "."++toString (Bind.lastOf "list.pop")} ⟨[.ref x],[]⟩=pure ():=by
  have:=args_pop (.ref x)
  rw[hs] at this
  rw[hqn];exact this
 have L5:Looks (model prog w) s.heap (isType (.ref x)) false:=by
  intro A Q E s' k q
  unfold isType
  refine wpAny_bind (wpAny_loadPart (k _ _ hx) ?_)
  obtain⟨oc,od,odt,osl⟩:=ox
  cases odt<;>first | exact wpAny_pure q | exact absurd rfl (hno _)
 have L6:Looks (model prog w) s.heap (Bind.checkArgs "list.pop" {sig with full:=toString cd.qualname.toString++toString "."++toString (Bind.lastOf "list.pop")} ⟨[.ref x],[]⟩) ():=Looks.of_pure ha
 unfold checkBoundCall
 rw[hs,hk]
 dsimp only
 obtain⟨hh,g,d,t,os⟩:=s
 repeat lk
 exact h
end
end Mine
end
section
set_option maxRecDepth 100000
set_option maxHeartbeats 2000000
open PySem PySem.W PyProof.Rows PySem.Calls
namespace Mine
theorem callX_at {prog:Program}{w:World}{A₀ A:Around}{s:Shared}{base h₀:Heap}{outer:List Env}{L:Addr}{m:Str→Option Value}{env:Env}{news:List (Addr×Obj)}{R:Result→Shared→Prop}{name qual:Str}{params:Arguments}{body:List Stmt}{scope:Scope}{cl:List (Str×Addr)}
  {dV kV doc pm cdv ct:Value}{an:Option Addr}{fo:Obj}{f:Addr}{args:Args}{binds:List (Str×Value)}(B:Below A₀ base outer h₀) (F:Fr h₀ L s.heap m) (N:News h₀ L s.heap news) (hlim:h₀.NoLimit) (hA:A.frames=some (env::outer)) (hf:env.frame=some L) (hke:env.scope.kind= .function)
  (ho:s.heap.get? f=some fo) (hd:fo.data= .func (fnX name qual params body scope cl dV kV doc pm an cdv ct)) (hcd:s.heap.CodeRec cdv qual) (hroom:A.depth<recursionLimit)
  (hbind:BindsTo s (fnX name qual params body scope cl dV kV doc pm an cdv ct) args binds) (hloc: ∀y∈binds,scope.names.lookup y.1=some .local)
  (h: ∀g L' h₁,Fr h₀ L g m→Fr g L' h₁ (fun y=>binds.reverse.lookup y)→News g L' h₁ news→Below A base (env::outer) g→h₀.StaysIn g→
   _root_.PySem.wpAt (model prog w) (A.deeper (envX qual scope L' f cdv cl)) (.func body (envX qual scope L' f cdv cl)) (execs body (envX qual scope L' f cdv cl))
    (fun fl s'=>LeaveK h₀ L m g R (match fl with | .ret v=>v | _=>.none) s')
    (fun e s'=>wpAny (model prog w) (A.deeper (envX qual scope L' f cdv cl)) (leaving (envX qual scope L' f cdv cl) e) (fun _ s''=>R (.error e) s'') (fun e' s''=>R (.error e') s'') s')
    {s with heap:=h₁,toks:=s.toks+binds.length})
  (hcell: ∀x∈scope.names,x.2≠ .cell) (hco:scope.isCoroutine=false) (hgen:scope.isGenerator=false) (hk:scope.kind= .function):codeAny (model prog w) A (.call (.ref f) args) R s:=by
 obtain⟨FG,BG,st,lv⟩:=groundX (R:=R) B F N hA hf hke
 refine ks_codeAny_call_defAt (fd:=fnX name qual params body scope cl dV kV doc pm an cdv ct) (body:=body) (binds:=binds) hroom ho hd (hlim.keeps F.keep) hcd rfl hbind hcell hloc (fun h₁ hns hk₁=> ?_) hco hgen hk
 exact ks_wpAt_mono (h _ s.heap.objs.size h₁ FG ⟨hns,fun b o e=>hk₁ b o (of_hideAll _ e),Nat.le_of_eq (hideAll_size _ _)⟩
  (fun p hp=>⟨hk₁ _ _ (N p hp).1,Nat.ne_of_lt (Heap.lt_size (N p hp).1),hideAll_none _ (List.mem_map_of_mem hp)⟩) BG st) (fun fl s' hl=>lv _ _ hl) fun _ _ y=>y
noncomputable def EvA (prog:Program) (w:World) (X:Cx) (c:Code) {α:Type}(t:Sem α) (ρ:Ro) (σ:Led) (R:α→Shared→Prop):Prop:=
 ∀s,Inv X ρ σ s→_root_.PySem.wpAt (model prog w) X.A c t R (fun _ _=>False) s
noncomputable def StA (prog:Program) (w:World) (X:Cx) (c:Code) (t:Sem Flow) (ρ:Ro) (σ:Led) (K:PF→Ro→Led→Prop):Prop:=EvA prog w X c t ρ σ fun fl s'=> ∃f ρ' σ',K f ρ' σ'∧FR f fl∧Inv X ρ' σ' s'
structure IsM (T:Tops) (name qual:Str) (st:Stmt) (fa:Addr) (cl:List (Str×Addr)) (cdv dV:Value):Prop where
 get: ∃fo kV doc pm ct an,T.K.lookup fa=some fo∧fo.cls= .type "function"∧fo.data= .func (fnX name qual (parsOf st) (bodyOf st) (scopeOf st) cl dV kV doc pm an cdv ct)∧codeIn T.K cdv qual=true
theorem IsM.isFn {T:Tops}{name qual:Str}{st:Stmt}{fa:Addr}{cl:List (Str×Addr)}{cdv dV:Value}(D:IsM T name qual st fa cl cdv dV):IsFn T fa:=⟨fun X n O=>by
 obtain⟨fo,kV,doc,pm,ct,an,h1,h2,h3,h4⟩:=D.get
 exact⟨fo,_,O.top _ _ h1,h3⟩⟩
section
variable {prog:Program}{w:World}{T:Tops}{n:Nat}
theorem meth_at {fa:Addr}{name qual:Str}{st:Stmt}{cl:List (Str×Addr)}{cdv dV:Value}(D:IsM T name qual st fa cl cdv dV) {args args':List PV}{σ:Led}{R:PV→Led→Prop}(names rest:List Str)
  (hb: ∀us:List Value,VRs args us→ ∃us':List Value,VRs args' us'∧ ∀kV doc pm an ct,∀s:Shared,T.K.In s.heap→BindsTo s (fnX name qual (parsOf st) (bodyOf st) (scopeOf st) cl dV kV doc pm an cdv ct) ⟨us,[]⟩ (names.zip us'))
  (hnd:(names++rest).Nodup) (hlay:layOK (scopeOf st) (names++rest)=true) (hargs:args'.length=names.length)
  (hcell: ∀x∈(scopeOf st).names,x.2≠ .cell) (hco:(scopeOf st).isCoroutine=false) (hgen:(scopeOf st).isGenerator=false) (hk:(scopeOf st).kind= .function)
  (h: ∀A L g os,XOK T n ⟨A,envX qual (scopeOf st) L fa cdv cl,L,L,g,os,names++rest⟩→Lay ⟨A,envX qual (scopeOf st) L fa cdv cl,L,L,g,os,names++rest⟩→
   StA prog w ⟨A,envX qual (scopeOf st) L fa cdv cl,L,L,g,os,names++rest⟩ (.func (bodyOf st) (envX qual (scopeOf st) L fa cdv cl)) (execs (bodyOf st) (envX qual (scopeOf st) L fa cdv cl)) (init names args' rest) σ fun f _ σ'=>R f.val σ'):
  Fn prog w T (n+1) (.ref fa) args σ R:=by
 intro X ρ s O hFL I us hv
 obtain⟨fo,kV,doc,pm,ct,an,h1,h2,h3,h4⟩:=D.get
 obtain⟨A₀,base,outer,fenv,B,hA,hf,hke⟩:=O.call
 obtain⟨m,news,F,N,RI,Dl⟩:=I.st
 obtain⟨us',hv',hbind⟩:=hb us hv
 have hlen:=hv'.length
 have KI:T.K.In s.heap:=O.top.keeps F.keep
 have e:(names.zip us').map (·.1)=names:=by rw[List.map_fst_zip];omega
 refine callX_at B F N O.lim hA (hf.trans (congrArg some hFL)) hke (KI _ _ h1) h3 (codeRec_of KI h4) (by have:=O.dep;show X.A.depth<1000;omega) (hbind _ _ _ _ _ s KI) ?_ ?_ hcell hco hgen hk
 ·intro y hy
  have hm:y.1∈names:=by rw[←e];exact List.mem_map_of_mem hy
  have:=List.all_eq_true.mp hlay y.1 (List.mem_append_left _ hm)
  simp only[Bool.and_eq_true,beq_iff_eq] at this
  exact this.1
 ·intro g L' h₁ FG F' N' B' st'
  let env':Env:=envX qual (scopeOf st) L' fa cdv cl
  let X':Cx:=⟨X.A.deeper env',env',L',L',g,X.os,names++rest⟩
  have O':XOK T n X':=by
   refine⟨F'.above,⟨X.A,base,fenv::outer,env',B',?_,rfl,hk⟩,O.lim.keeps st',O.top.keeps st',O.gm.keeps st',O.bm.keeps st',?_,?_,O.hh,hk,rfl,rfl⟩
   ·show X.A.frames.map (env':: ·)=_;rw[hA];rfl
   ·show X.A.depth+1+n<900;have:=O.dep;omega
   ·show X.A.units+3+10*n<9000;have:=O.un;omega
  have Y:Lay X':=lay_of (scope:=scopeOf st) hlay rfl hk rfl
  have I':Inv X' (init names args' rest) σ {s with heap:=h₁,toks:=s.toks+(names.zip us').length}:=
   ⟨⟨_,news,F',N',init_is hv' hargs hnd,Dl⟩,I.nd,init_keys hargs,hnd,I.gens,I.os⟩
  refine ks_wpAt_mono (h _ L' g X.os O' Y _ I') (fun fl s' q=> ?_) fun _ _ f=>f.elim
  obtain⟨f,ρ',σ',hR,hfr,I₂⟩:=q
  obtain⟨m',news',F₂,N₂,R₂,D₂⟩:=I₂.st
  refine leaveK_ F₂ N₂ fun F₃ N₃=>⟨flv fl,f.val,σ',by cases fl<;>rfl,hR,hfr.val,⟨⟨m,news',F₃,N₃,RI,D₂⟩,I₂.nd,I.ks,I.kn,I₂.gens,I₂.os⟩⟩
theorem meth_intro {fa:Addr}{name qual:Str}{st:Stmt}{cl:List (Str×Addr)}{cdv dV:Value}(D:IsM T name qual st fa cl cdv dV) {args args':List PV}{σ:Led}{R:PV→Led→Prop}(names rest:List Str)
  (hb: ∀us:List Value,VRs args us→ ∃us':List Value,VRs args' us'∧ ∀kV doc pm an ct,∀s:Shared,T.K.In s.heap→BindsTo s (fnX name qual (parsOf st) (bodyOf st) (scopeOf st) cl dV kV doc pm an cdv ct) ⟨us,[]⟩ (names.zip us'))
  (hnd:(names++rest).Nodup) (hlay:layOK (scopeOf st) (names++rest)=true) (hargs:args'.length=names.length)
  (hcell: ∀x∈(scopeOf st).names,x.2≠ .cell) (hco:(scopeOf st).isCoroutine=false) (hgen:(scopeOf st).isGenerator=false) (hk:(scopeOf st).kind= .function)
  (h: ∀A L g os,XOK T n ⟨A,envX qual (scopeOf st) L fa cdv cl,L,L,g,os,names++rest⟩→Lay ⟨A,envX qual (scopeOf st) L fa cdv cl,L,L,g,os,names++rest⟩→
   SE prog w ⟨A,envX qual (scopeOf st) L fa cdv cl,L,L,g,os,names++rest⟩ (bodyOf st) (init names args' rest) σ fun f _ σ'=>R f.val σ'):
  Fn prog w T (n+1) (.ref fa) args σ R:=
 meth_at D names rest hb hnd hlay hargs hcell hco hgen hk fun A L g os O Y s I=>wpAt_of_wpAny (h A L g os O Y s I)
end
section
variable {prog:Program}{w:World}{X:Cx}{ρ ρ' ρ₁:Ro}{σ σ' σ₁:Led}{T:Tops}{n:Nat}{R R':PV→Led→Prop}{K:PF→Ro→Led→Prop}{c:Code}
variable {x C d:Addr}{cd:ClassData}{ps:List PV}
theorem callWith_bnd {M:Model}{A:Around}{E:Value→Shared→Prop}{s:Shared}{pos:Pos}{b:Addr}{bT id:String}{Q:Value→Shared→Prop}(hb:s.heap.get? b=some {cls:=.type bT,data:=.fields #[.builtin id,.ref x]}) (hbt:bT="method-wrapper"∨bT="builtin_function_or_method")
  (h:wpAny M A (call (.ref b) []) Q E s):wpAny M A (callWith pos (.ref b) [] [] []) Q E s:=by
 unfold callWith
 refine wpAny_bind (wpAny_holding (PyProof.Rows.evalArgs_none (wpAny_bind (wpAny_standAt ?_))))
 refine wpAny_bind (m:=keeperOf (.ref b)) ?_
 unfold keeperOf
 refine wpAny_bind (wpAny_load hb ?_)
 rcases hbt with rfl | rfl
 all_goals
  refine wpAny_pure ?_
  exact wpAny_bind (wpAny_mono h (fun r s₂ hr=>wpAny_bind (wpAny_holding (wpAny_point (wpAny_pure hr)))) fun _ _ x=>x)
theorem eva_super {name qual:Str}{st:Stmt}{f cc cda:Addr}{dV:Value}{id dT gid bT:String}{Bg B:Builtin}{attr:Str}{p0 p1 apos pos:Pos}{pl:Sem Bool}{ar:Arg}{body:List Stmt}{Q:Value→Shared→Prop}
  (O:XOK T n X) (Y:ClsK T.K C cd) (D:IsM T name qual st f [("__class__",cc)] (.ref cda) dV) (hcell: ∃oc,T.K.lookup cc=some oc∧oc.data= .cell (some (.ref C)))
  (hcode: ∃oc vs file tf,T.K.lookup cda=some oc∧oc.data= .fields vs∧vs[2]? =some (.str file tf)∧((prog.main.file:Str)==file)=true) (htop:(prog.main.scope.names.lookup ("super":Str)).isSome=false)
  (hg:T.mg "super"=none) (hbu:T.mb "super"=some (.type "super")) (hno:nsIn T.K cStatics "thirdparty.any"=some none)
  (henv:X.env=envX qual (scopeOf st) X.L f (.ref cda) [("__class__",cc)]) (hks:(scopeOf st).names.lookup ("super":Str)=some .globalImplicit) (hkc:(scopeOf st).names.lookup ("__class__":Str)=some .free)
  (hp:((parsOf st).posonlyargs++(parsOf st).args).head? =some ar) (hka:(scopeOf st).names.lookup ar.arg=some .local) (hv:(ar.arg,some (.ref x))∈ρ) (hat:(attr==("__class__":Str))=false)
  (S:SupB id dT gid bT Bg) (hlist:cd.mro.contains (.type "list")=true) (hmro:cd.mro.contains (.ref C)=true) (hal:alongIn T.K attr ((cd.mro.dropWhile (· != .ref C)).drop 1)=some (some (.builtin id))) (hm:(x,isA C d ps)∈σ)
  (hbt:bT="method-wrapper"∨bT="builtin_function_or_method") (hent:entryFor table id=some B) (hpl:plainId id=true)
  (hchk: ∀(s:Shared),Inv X ρ σ s→ ∀(A':Around) (E':Value→Shared→Prop) (Q':Unit→Shared→Prop),Q' () s→wpAny (model prog w) A' (checkBoundCall id ⟨.ref x::[],[]⟩) Q' E' s)
  (h:Ev prog w {X with A:=X.A.in1} (B ⟨.ref x::[],[]⟩) ρ σ (fun fin s'=> ∃v,fin= .done (.ret v)∧Q v s'))
  (he:eval (.Call (.Attribute (.Call (.Name "super" p0) [] [] p1) attr apos) [] [] pos) X.env=(do
   let ov ←attributeBase (.Call (.Name "super" p0) [] [] p1) attr X.env (eval (.Call (.Name "super" p0) [] [] p1) X.env)
   standAt apos.atName
   let (f,first) ←holding [ov] (getMethod ov attr pl)
   callWith pos f first (backTo pos (starEach [] X.env)) []):=by rfl):
  EvA prog w X (.func body X.env) (eval (.Call (.Attribute (.Call (.Name "super" p0) [] [] p1) attr apos) [] [] pos) X.env) ρ σ Q:=fun s I=>by
 obtain⟨A,env,L,FL,g₀,os₀,ks⟩:=X
 dsimp only at henv
 subst henv
 have XI:=kIn O I
 obtain⟨o,ho,po⟩:=I.obj hm
 have po2:=po
 obtain⟨h1,h2,h3,h4⟩:=po2
 have hnc:=h3.notCls
 obtain⟨m,news,F,N,RI,Dl⟩:=I.st
 obtain⟨u,hu,hvr⟩:=RI.get hv
 cases hvr
 obtain⟨fo,kV,doc,pm,ct,an,k1,k2,k3,k4⟩:=D.get
 obtain⟨oc,vs,file,tf,c1,c2,c3,c4⟩:=hcode
 obtain⟨occ,e1,e2⟩:=hcell
 obtain⟨oD,hD1,hD2⟩: ∃oD,s.heap.get? C=some oD∧oD.data= .cls cd:=by
  have hc:=Y.cls
  unfold clsIn at hc
  split at hc
  ·rename_i ho'
   cases hc
   exact⟨_,XI _ _ ho',rfl⟩
  ·cases hc
 have hxC:x≠C:=by
  rintro rfl
  rw[ho] at hD1
  cases hD1
  exact hnc _ hD2
 have hsub:mroIn T.K C (.ref C)=some true:=by unfold mroIn;rw[Y.cls,Option.bind_some,if_neg (by rw[Y.ne];decide),hmro]
 have hi:=isL_inst (K:=T.K) XI Y hlist ho h1 (M:=model prog w)
 have gm:=O.gm.keeps F.keep
 have bm:=O.bm.keeps F.keep
 obtain⟨hh,g,d0,t,os⟩:=s
 refine ks_wpAt_MethodCall (pl:=pl) ?_ he
 refine ks_wpAt_super_base hks hkc hat rfl (XI _ _ k1) k3 hp rfl (XI _ _ c1) c2 c3 c4 htop ?_
 refine ks_loadName_global O.fn hks (loadGlobal_builtin gm hg bm hbu ⟨rfl,?_⟩)
 refine wpAny_loadName_free O.fn hkc rfl ⟨_,XI _ _ e1,e2⟩ ?_
 refine wpAny_loadName_local O.fn hka F.ns hu ?_
 refine ks_wpAny_isType_cls hD1 hD2 ⟨rfl,?_⟩
 refine ks_wpAny_call_super hD1 hD2 ho h1 hnc (looks_mroIn XI hsub) (fun h' e k=> ?_)
 have I':=I.ext (tk:=t) (h':=h') k
 have XI':=kIn O I'
 refine getMethod_super_b S e (looks_opaque XI' hno) (fun A Q E s k q=>wpAny_bind ((looks_clsIn XI' Y.cls) A _ E s k (wpAny_pure q))) rfl XI' hal hxC hat (hi.keeps k) ?_
 have I'':=I'.ext (tk:=t+1) (h':=h'.push {cls:=.type bT,data:=.fields #[.builtin id,.ref x]}) fun b o e=>Heap.get?_push_of_some _ e
 refine callWith_bnd (x:=x) (bT:=bT) (id:=id) (Heap.get?_push_size _ rfl) hbt ?_
 exact call_boundB (B:=B) (Heap.get?_push_size _ rfl) hbt hent hpl (fun A' E' Q' q=>hchk _ I'' A' E' Q' q) (h _ (I''.to rfl rfl rfl rfl))
end
end Mine
end
section
set_option maxRecDepth 100000
set_option maxHeartbeats 2000000
open PySem PySem.W PyProof.Rows PySem.Calls
namespace Mine
structure MakesL (M:Model) (h:Heap) (C:Addr) (cd:ClassData):Prop where
 obj: ∃oc od sl,h.get? C=some ⟨oc,od,.cls cd,sl⟩
 del:cd.hasDel=false
 ne:cd.mro.isEmpty=false
 mro:Looks M h (mroOf (.ref C)) cd.mro
 made:Looks M h (Bind.madeBy (.ref C)) (some "list.__new__")
 base:Looks M h (Bind.staticBase (.ref C)) (.ref C)
 self:Looks M h (isSubtype (.ref C) (.ref C)) true
 lst:Looks M h (isSubtype (.ref C) (.type "list")) true
 call:Looks M h (specialOf (.ref C) "__call__") (some (.builtin "type.__call__"))
 typ:Looks M h (isInstance (.ref C) (.type "type")) true
theorem makesL_of {K:Frag}{M:Model}{h:Heap}{C:Addr}{cd:ClassData}(X:K.In h) (hc:clsIn K C=some cd) (hsl:(K.lookup C).map (fun o=>(o.slots.toList[4]?).join)=some (some (.builtin "list.__new__"))) (hd:cd.hasDel=false) (hne:cd.mro.isEmpty=false)
  (hself:cd.mro.contains (.ref C)=true) (hl:cd.mro.contains (.type "list")=true) (hcall:specialIn K (.ref C) "__call__"=some (some (.builtin "type.__call__"))) (ht:instIn K (.ref C) (.type "type")=some true):MakesL M h C cd:=by
 have hm:Looks M h (mroOf (.ref C)) cd.mro:=(looks_clsIn X hc).andThen .now
 obtain⟨c,l,hcl⟩: ∃c l,cd.mro=c::l:=by cases q:cd.mro with | nil=>rw[q] at hne;cases hne | cons c l=>exact⟨c,l,rfl⟩
 unfold clsIn at hc
 split at hc
 ·rename_i oc od cd' sl ho
  cases hc
  rw[ho] at hsl
  have e3:(sl.toList[4]?).join=some (.builtin "list.__new__"):=Option.some.inj hsl
  have made:Looks M h (Bind.madeBy (.ref C)) (some "list.__new__"):=by
   intro A Q E s k q
   unfold Bind.madeBy
   refine wpAny_bind (hm A _ E s k ?_)
   rw[hcl,List.forIn_cons]
   refine wpAny_bind (wpAny_bind (wpAny_bind (wpAny_bind (wpAny_loadPart (k _ _ (X _ _ ho)) (wpAny_pure ?_)))))
   dsimp only
   rw[←Array.getElem?_toList,e3]
   exact wpAny_pure (wpAny_pure (wpAny_pure q))
  have hc':clsIn K C=some cd:=by unfold clsIn;rw[ho]
  refine⟨⟨oc,od,sl,X _ _ ho⟩,hd,hne,hm,made,?_,looks_mroIn X ?_,looks_mroIn X ?_,looks_specialIn X hcall,looks_instIn X ht⟩
  ·intro A Q E s k q
   unfold Bind.staticBase
   refine wpAny_bind (hm A _ E s k ?_)
   rw[hcl,List.forIn_cons]
   exact wpAny_bind (wpAny_bind (wpAny_bind (made A _ E s k (wpAny_pure (wpAny_pure (wpAny_pure q))))))
  ·unfold mroIn;rw[hc',Option.bind_some,if_neg (by rw[hne];decide),hself]
  ·unfold mroIn;rw[hc',Option.bind_some,if_neg (by rw[hne];decide),hl]
 ·cases hc
noncomputable abbrev instL (C dx:Addr):Obj:={cls:=.ref C,dict:=some dx,data:=.seq #[]}
section
variable {prog:Program}{w:World}{A:Around}{C:Addr}{cd:ClassData}{R:Result→Shared→Prop}{h:Heap}{g:Array GenState}{d:Drawn}{t:Nat}{os:OsState}
theorem args_lnew (C v:Value):argsOk "list.__new__" ⟨[C,v],[]⟩:=by unfold argsOk;kernel_rfl
theorem newL {v:Value}(Y:MakesL (model prog w) h C cd)
  (hq:R (.ok (.ret (.ref (h.objs.size+1)))) ⟨(h.push emptyDict).push (instL C h.objs.size),g,d,t,os⟩):
  codeAny (model prog w) A (.call (.builtin "list.__new__") ⟨[.ref C,v],[]⟩) R ⟨h,g,d,t,os⟩:=by
 obtain⟨⟨oc,od,sl,hC⟩,e2,e4,hm,made,base,self,lst,call,typ⟩:=Y
 have hk:builtinKind "list.__new__"=some .builtinFn:=by decide+kernel
 have hs:splitId "list.__new__"=some ("list","__new__"):=by decide+kernel
 have ha:=args_lnew (.ref C) v
 refine codeAny_call_builtin_code (plainId_quiet F.plain_list_new _) ?_
 simp only[checkBuiltinCall,hk,hs]
 have hcanon:(Manifest.canonical "list.__new__" != Manifest.canonical "list.__new__")=false:=by simp
 have htyp:Looks (model prog w) h (isType (.ref C)) true:=by
  intro A Q E s' k q
  unfold isType
  exact wpAny_bind (wpAny_loadPart (k _ _ hC) (wpAny_pure q))
 rw[if_pos (by decide)]
 refine wpAny_bind ?_
 have fin: ∀Q' E',Q' () (⟨h,g,d,t,os⟩:Shared)→wpAny (model prog w) A.in1 (match Manifest.signature? "list.__new__" with | some sig=>Bind.checkArgs "list.__new__" sig ⟨[.ref C,v],[]⟩ | none=>pure ()) Q' E' ⟨h,g,d,t,os⟩:=fun Q' E' q=>by
  unfold argsOk at ha
  exact wpAny_of_eq ha q
 repeat (first | simp only[Bool.not_true,hcanon,Bool.false_eq_true,if_false] | lk)
 refine codeAny_builtin_stack F.entry_list_new rfl fun p st=> ?_
 rw[Around.under_plainId F.plain_list_new _]
 have hown:=owner_list_new
 simp only[hown]
 repeat (first | simp only[Bool.not_true,e2,Bool.false_eq_true,if_false] | lk)
 have hC2:((h.push {cls:=.type "dict",data:=.dict #[]}).push {cls:=.ref C,dict:=some h.objs.size,data:=.seq #[]}).get? C=some {cls:=oc,dict:=od,data:=.cls cd,slots:=sl}:=Heap.get?_push_of_some _ (Heap.get?_push_of_some _ hC)
 repeat (first | simp only[e2,Bool.false_eq_true,if_false] | lk)
 have e:(h.push {cls:=.type "dict",data:=.dict #[]}).objs.size=h.objs.size+1:=Heap.size_push ..
 rw[e]
 exact hq
theorem makeL_core {v:Value}{init:Value}(Y:MakesL (model prog w) h C cd) (hi:Looks (model prog w) h (typeLookup (.ref C) "__init__") (some init)) (hb: ∀self,Looks (model prog w) h (bindSpecial init self) (init,[self]))
  (hq:codeAny (model prog w) (A.under (.builtin "type.__call__" ⟨[.ref C,v],[]⟩)) (.call init ⟨[.ref (h.objs.size+1),v],[]⟩) (InitBack (h.objs.size+1) R) ⟨(h.push emptyDict).push (instL C h.objs.size),g,d,t,os⟩):
  codeAny (model prog w) A (.call (.ref C) ⟨[v],[]⟩) R ⟨h,g,d,t,os⟩:=by
 have Y':=Y
 obtain⟨⟨oc,od,sl,hC⟩,e2,e4,hm,made,base,self,lst,call,typ⟩:=Y
 refine codeAny_of_tree ?_
 show wpAny _ _ (callAny (.ref C) _) _ _ _
 refine nd_load hC ?_
 show wpAny _ _ (callAny.viaDunder (.ref C) _) _ _ _
 unfold callAny.viaDunder
 refine wpAny_bind (call.at ?_)
 dsimp only
 rw[tc_bind]
 refine wpAny_bind (wpAny_pure (wpAny_bind (wpAny_pure ?_)))
 refine wpAny_pure (a:=Fin.again (.call (.builtin "type.__call__") ⟨[.ref C,v],[]⟩)) (And.intro rfl ?_)
 refine codeAny_call_builtin_at (Code.quiet_builtin _ (by decide+kernel)) entry_typeCall (W.check_slot tc_kind tc_split typ (tc_args _ _ _) ?_)
 unfold Builtin.«type.__call__»
 repeat (first | simp only[e4,Bool.false_eq_true,if_false] | with_reducible refine wpAny_call ?_ | lk)
 refine newL Y' ?_
 have k: ∀b o,h.get? b=some o→((h.push emptyDict).push (instL C h.objs.size)).get? b=some o:=fun b o e=>Heap.get?_push_of_some _ (Heap.get?_push_of_some _ e)
 have hx:((h.push emptyDict).push (instL C h.objs.size)).get? (h.objs.size+1)=some (instL C h.objs.size):=by
  have e:(h.push emptyDict).objs.size=h.objs.size+1:=Heap.size_push ..
  rw[←e];exact Heap.get?_push_size _ rfl
 have t1:Looks (model prog w) ((h.push emptyDict).push (instL C h.objs.size)) (typeOf (.ref (h.objs.size+1))) (.ref C):=(Looks.ld hx).andThen .now
 have s1:=self.keeps k
 have i1:=hi.keeps k
 have b1:=(hb (.ref (h.objs.size+1))).keeps k
 unfold isInstance callSpecial? specialOf
 repeat (first | with_reducible refine wpAny_call ?_ | lk)
 refine codeAny_mono hq fun r s' z=> ?_
 rcases r with e | (v | _ | _ | _)<;>first | exact z | exact z.elim | skip
 obtain⟨rfl,z⟩:=z
 exact wpAny_pure (wpAny_pure z)
end
end Mine
end
section
set_option maxRecDepth 100000
set_option maxHeartbeats 2000000
open PySem PySem.W PyProof.Rows PySem.Calls
namespace Mine
section
variable {prog:Program}{w:World}{X:Cx}{ρ ρ' ρ₁:Ro}{σ σ' σ₁:Led}{T:Tops}{n:Nat}{R R':PV→Led→Prop}{K:PF→Ro→Led→Prop}
variable {x C d:Addr}{cd:ClassData}{ps:List PV}
theorem XOK.in1 (O:XOK T (n+1) X):XOK T n {X with A:=X.A.in1}:=⟨O.above,O.call,O.lim,O.top,O.gm,O.bm,by have:=O.dep;show X.A.depth+n<900;omega,by have:=O.un;show X.A.units+1+10*n<9000;omega,O.hh,O.fn,O.gl,O.bl⟩
theorem XOK.tc (O:XOK T (n+1) X) {C:Addr}{rest:List Value}:XOK T n {X with A:=X.A.under (.builtin "type.__call__" ⟨.ref C::rest,[]⟩)}:=
 ⟨O.above,O.call,O.lim,O.top,O.gm,O.bm,by have:=O.dep;show X.A.depth+1+n<900;omega,by have:=O.un;show X.A.units+1+10*n<9000;omega,O.hh,O.fn,O.gl,O.bl⟩
theorem Inv.atA {s:Shared}(I:Inv X ρ σ s) {A:Around}:Inv {X with A:=A} ρ σ s:=I.to rfl rfl rfl rfl
theorem Inv.ofA {s:Shared}{A:Around}(I:Inv {X with A:=A} ρ σ s):Inv X ρ σ s:=I.to rfl rfl rfl rfl
theorem callWith_C {M:Model}{A:Around}{E:Value→Shared→Prop}{s:Shared}{pos:Pos}{C:Addr}{args:List (Bool×Sem Value)}{Q:Value→Shared→Prop}(hplain:args.any (·.1)=false)
  (h:wpAny M A (evalArgs (.ref C) true args []) (fun a s₁=>(∃o,s₁.heap.get? C=some o∧ ∃cd,o.data= .cls cd)∧Looks M s₁.heap (specialOf (.ref C) "__call__") (some (.builtin "type.__call__"))∧wpAny M A (call (.ref C) a.pos a.kw) Q E s₁) E s):
  wpAny M A (callWith pos (.ref C) [] args []) Q E s:=by
 unfold callWith
 refine wpAny_bind (wpAny_holding (wpAny_mono h (fun a s₁ h₁=>wpAny_bind (wpAny_standAt ?_)) fun _ _ x=>x))
 obtain⟨⟨o,ho,cd,hd⟩,hcall,hq⟩:=h₁
 simp only[hplain,List.any_nil,Bool.or_false]
 refine wpAny_bind (m:=keeperOf (.ref C)) ?_
 unfold keeperOf
 refine wpAny_bind (wpAny_load ho ?_)
 rw[hd]
 refine wpAny_bind (hcall.here ?_)
 refine wpAny_pure ?_
 exact wpAny_bind (wpAny_mono hq (fun r s₂ hr=>wpAny_bind (wpAny_holding (wpAny_point (wpAny_pure hr)))) fun _ _ x=>x)
theorem uniq0:UniqKeys #[]:=by
 unfold UniqKeys
 simp
theorem ge_newL (O:XOK T (n+1) X) (hFL:X.FL=X.L) (Y:ClsK T.K C cd) {cls:Str}{p pos:Pos}{e:Expr}{v:PV}{fi:Addr}{R₂:Addr→Addr→Led→Prop}
  (hf:XE prog w X (.Name cls p) ρ σ (.ref C)) (hsl:(T.K.lookup C).map (fun o=>(o.slots.toList[4]?).join)=some (some (.builtin "list.__new__"))) (hd:cd.hasDel=false) (hself:cd.mro.contains (.ref C)=true) (hl:cd.mro.contains (.type "list")=true)
  (hcall:specialIn T.K (.ref C) "__call__"=some (some (.builtin "type.__call__"))) (ht:instIn T.K (.ref C) (.type "type")=some true) (hi:findIn T.K (.ref C) "__init__"=some (some (.ref fi))) (hit:typeIn T.K (.ref fi)=some (.type "function"))
  (he:PE prog w X e ρ σ v) (hc: ∀x d,Fn prog w T n (.ref fi) [.ref x,v] ((x,isA C d [])::(d,isNd [])::σ) (fun r σ'=>r= .none∧R₂ x d σ')) (hes:starEach [e] X.env=[(false,eval e X.env)]:=by rfl):
  GE prog w X (.Call (.Name cls p) [e] [] pos) ρ σ (fun r σ'=> ∃x d,r= .ref x∧R₂ x d σ'):=fun s I=>
 PyProof.Rows.Call_ (wpAny_mono (hf s I) (fun f s₁ q=>by
  obtain⟨rfl,I₁⟩:=q
  refine callWith_C (by rw[hes];rfl) (wpAny_mono (ae1 (prog:=prog) (w:=w) he hes _ s₁ I₁) (fun a s₂ q=> ?_) fun _ _ f=>f)
  obtain⟨us,rfl,hv,I₂⟩:=q
  obtain⟨u,rfl,hu⟩:=hv.one
  have XI:=kIn O I₂
  obtain⟨o,ho,hod⟩: ∃o,T.K.lookup C=some o∧o.data= .cls cd:=by
   have hc:=Y.cls
   unfold clsIn at hc
   split at hc
   ·rename_i ho'
    cases hc
    exact⟨_,ho',rfl⟩
   ·cases hc
  refine⟨⟨o,XI _ _ ho,cd,hod⟩,looks_specialIn XI hcall,wpAny_call ?_⟩
  have MK:=makesL_of (M:=model prog w) XI Y.cls hsl hd Y.ne hself hl hcall ht
  have hi':=looks_findIn (M:=model prog w) XI hi
  have hb':=fun self=>bind_fn (M:=model prog w) XI self hit
  obtain⟨hh,g,d0,t,os⟩:=s₂
  have J:=(I₂.push (P:=isNd []) (o:=emptyDict) (tk:=t) ⟨fun _=>none,#[],0,⟨nofun,fun _ _=>rfl⟩,rfl,by intro e he;simp at he,uniq0,fun _=>rfl⟩ rfl)
  have J2:=J.push (P:=isA C hh.objs.size []) (o:=instL C hh.objs.size) (tk:=t) ⟨rfl,rfl,⟨[],0,.nil,rfl⟩,rfl⟩ rfl
  have e:(hh.push emptyDict).objs.size=hh.objs.size+1:=Heap.size_push ..
  dsimp only at J2
  rw[e] at J2
  refine makeL_core MK hi' hb' (codeAny_mono ((hc (hh.objs.size+1) hh.objs.size) _ ρ _ (O.tc (C:=C) (rest:=[u])) hFL (J2.atA) [.ref (hh.objs.size+1),u] (.cons (.ref _) (.cons hu .nil))) fun r s' q=> ?_)
  obtain⟨ur,pv,σ',rfl,⟨rfl,hR⟩,hvr,I'⟩:=q
  cases hvr
  exact⟨rfl,.ref (hh.objs.size+1),σ',⟨_,_,rfl,hR⟩,.ref _,I'.ofA⟩) fun _ _ f=>f) rfl
theorem ge_newO (O:XOK T (n+1) X) (hFL:X.FL=X.L) (Y:ClsK T.K C cd) {cls:Str}{p pos:Pos}{es:List Expr}{vs:List PV}{fi:Addr}{R₂:Addr→Addr→Led→Prop}
  (hf:XE prog w X (.Name cls p) ρ σ (.ref C)) (hmk:makesIn T.K C=true) (hcall:specialIn T.K (.ref C) "__call__"=some (some (.builtin "type.__call__")))
  (hi:findIn T.K (.ref C) "__init__"=some (some (.ref fi))) (hit:typeIn T.K (.ref fi)=some (.type "function"))
  (he:AE prog w X es pos ρ σ vs) (hc: ∀x d,Fn prog w T n (.ref fi) (.ref x::vs) ((x,isO C d plainD)::(d,isNd [])::σ) (fun r σ'=>r= .none∧R₂ x d σ')) (hes:(backTo pos (starEach es X.env)).any (·.1)=false:=by rfl):
  GE prog w X (.Call (.Name cls p) es [] pos) ρ σ (fun r σ'=> ∃x d,r= .ref x∧R₂ x d σ'):=fun s I=>
 PyProof.Rows.Call_ (wpAny_mono (hf s I) (fun f s₁ q=>by
  obtain⟨rfl,I₁⟩:=q
  refine callWith_C hes (wpAny_mono (he _ s₁ I₁) (fun a s₂ q=> ?_) fun _ _ f=>f)
  obtain⟨us,rfl,hv,I₂⟩:=q
  have XI:=kIn O I₂
  obtain⟨o,ho,hod⟩: ∃o,T.K.lookup C=some o∧o.data= .cls cd:=by
   have hc:=Y.cls
   unfold clsIn at hc
   split at hc
   ·rename_i ho'
    cases hc
    exact⟨_,ho',rfl⟩
   ·cases hc
  refine⟨⟨o,XI _ _ ho,cd,hod⟩,looks_specialIn XI hcall,wpAny_call ?_⟩
  obtain⟨m,news,F,N,RI,Dl⟩:=I₂.st
  refine make_K F N XI hmk hi hit fun x dx h' F' N' hlt hdx=> ?_
  have J:Inv X ρ ((x,isO C dx plainD)::(dx,isNd [])::σ) {s₂ with heap:=h'}:=by
   refine⟨⟨m,_,F',N',RI,.cons ⟨rfl,rfl,rfl,rfl⟩ (.cons ⟨fun _=>none,#[],0,⟨nofun,fun _ _=>rfl⟩,rfl,by intro e he;simp at he,uniq0,fun _=>rfl⟩ Dl)⟩,?_,I₂.ks,I₂.kn,I₂.gens,I₂.os⟩
   have hk:=Dl.keys
   rw[List.map_cons,List.map_cons,List.nodup_cons,List.nodup_cons]
   have hno: ∀a∈σ.map (·.1),a<dx:=fun a ha=>by
    rw[hk] at ha
    obtain⟨p,hp,rfl⟩:=List.mem_map.mp ha
    exact hlt p hp
   refine⟨fun hm=> ?_,fun hm=>Nat.lt_irrefl _ (hno _ hm),I₂.nd⟩
   rcases List.mem_cons.mp hm with e | hm
   ·have e':x=dx:=e
    rw[e'] at hdx;exact Nat.lt_irrefl _ hdx
   ·exact Nat.lt_irrefl _ (Nat.lt_trans hdx (hno _ hm))
  refine codeAny_mono ((hc x dx) _ ρ _ (O.tc (C:=C) (rest:=us)) hFL (J.atA) (.ref x::us) (.cons (.ref _) hv)) fun r s' q=> ?_
  obtain⟨ur,pv,σ',rfl,⟨rfl,hR⟩,hvr,I'⟩:=q
  cases hvr
  exact⟨rfl,.ref x,σ',⟨_,_,rfl,hR⟩,.ref _,I'.ofA⟩) fun _ _ f=>f) rfl
end
end Mine
end
section
set_option maxRecDepth 100000
set_option maxHeartbeats 2000000
open PySem PySem.W PyProof.Rows PySem.Calls
namespace Mine
noncomputable def IsSeq (h:Heap) (l:Addr) (items:Array Value):Prop:= ∃o,h.get? l=some o∧ ∃n,o.data= .seq items n
theorem IsSeq.at {h h':Heap}{l:Addr}{items:Array Value}(x:IsSeq h l items) (k: ∀o,h.get? l=some o→h'.get? l=some o):IsSeq h' l items:=let ⟨o,e,r⟩:=x;⟨o,k o e,r⟩
section
variable {prog:Program}{w:World}{A:Around}{E:Value→Shared→Prop}{s:Shared}
theorem next_item {it l:Addr}{i:Nat}{items:Array Value}{x:Value}{Q:Option Value→Shared→Prop}(hit:s.heap.IsListIter it l i) (hl:IsSeq s.heap l items) (hx:items[i]? =some x)
  (hQ: ∀h',h'.IsListIter it l (i+1)→Heap.SameBut it s.heap h'→Q (some x) {s with heap:=h'}):wpAny (model prog w) A (pyNext (.ref it)) Q E s:=by
 have hit0:=hit
 obtain⟨o,ho,hc,hd⟩:=hit0
 obtain⟨ol,hol,nl,hdl⟩:=hl
 unfold pyNext
 refine wpAny_bind (wpAny_attempt (wpAny_callSpecial?_slot (name:=Str.ofString "__next__") hit.typeIs slot_listiter_next
  (wpAny_call_entry slot_listiter_next hit.typeIs entry_listiter_next ?_ (args_listiter_next _))))
 show wpAny _ _ (field (.ref it) 0 >>= _) _ _ s
 refine wpAny_bind (wpAny_field ho hd (x:=.ref l) rfl ?_)
 show wpAny _ _ (if (Value.ref l==Value.none)=true then _ else _) _ _ s
 rw[if_neg (show ¬((Value.ref l==Value.none)=true) from Bool.false_ne_true)]
 show wpAny _ _ (field (.ref it) 1 >>= _) _ _ s
 refine wpAny_bind (wpAny_field ho hd (x:=.int i 0) rfl ?_)
 show wpAny _ _ (seqItems? (.ref l) >>= _) _ _ s
 refine wpAny_bind (wpAny_seqItems hol hdl ?_)
 simp only[Int.toNat_natCast,hx]
 refine wpAny_bind (wpAny_setField ho hd (by simp) (wpAny_pure ⟨x,rfl,wpAny_pure (hQ _ ?_ (Heap.SameBut.update ..))⟩))
 exact⟨_,Heap.get?_update_self _ ho (Obj.isFreed_of_fields (Obj.data_mapFields hd _)),(Obj.cls_mapFields ..).trans hc,by
  rw[Obj.data_mapFields hd];simp[rawInt]⟩
end
section
variable {prog:Program}{w:World}{A:Around}{R:Result→Shared→Prop}{I:Addr}{fp wr:List Addr}{G:Array GenState→Array GenState→Prop}{n:Nat}{P:Nat→Value→Prop}{St:Nat→Shared→Prop}
theorem sum_loopS (W:WalksS prog w A.in1 I fp wr G n P St) (z:Int) (val:Nat→Int) (hval: ∀i v,P i v→ ∃t,v= .int (val i) t) (hfit: ∀j,j<n→InLong (val j)∧InLong (z+preSum val (j+1))) (S:Addr) (hSf:S∉fp):
  ∀(k i:Nat) (s:Shared) (tA:Tok) (c:Nat),n-i=k→i≤n→St i s→s.heap.get? S=some {cls:=.type "list",dict:=none,data:=.seq #[.int (z+preSum val i) tA] c,slots:= #[]}→
  (∀s' t',Moved (S::wr) G s s'→R (.ok (.ret (.int (z+preSum val n) t'))) s')→codeAny (model prog w) A (.builtin "sum.loop" ⟨[.ref I,.ref S,rawInt 0,rawInt 0],[]⟩) R s:=by
 have hSw:S∉wr:=fun h=>hSf (W.sub _ h)
 have hsub: ∀b∈wr,b∈S::wr:=fun b hb=>List.mem_cons_of_mem _ hb
 intro k
 induction k with
 | zero=>
  intro i s tA c hk hi hst hS hR
  have hin:i=n:=by omega
  subst hin
  refine codeAny_builtin F.entry_sum_loop ?_
  rw[Around.under_plainId F.plain_sum_loop _]
  show wpAny _ A.in1 (seqItems? (.ref S) >>= _) _ _ s
  refine wpAny_bind (wpAny_seqItems hS rfl ?_)
  show wpAny _ A.in1 (tryCatch (pyNext (.ref I)) _ >>= _) _ _ s
  refine wpAny_bind (wpAny_tryCatch (W.done s _ _ hst fun s' hm=> ?_))
  exact wpAny_pure (hR s' tA (hm.mono hsub))
 | succ k ih=>
  intro i s tA c hk hi hst hS hR
  have hlt:i<n:=by omega
  refine codeAny_builtin F.entry_sum_loop ?_
  rw[Around.under_plainId F.plain_sum_loop _]
  show wpAny _ A.in1 (seqItems? (.ref S) >>= _) _ _ s
  refine wpAny_bind (wpAny_seqItems hS rfl ?_)
  show wpAny _ A.in1 (tryCatch (pyNext (.ref I)) _ >>= _) _ _ s
  refine wpAny_bind (wpAny_tryCatch (W.item i s _ _ hlt hst fun v s' hP hst' hm=> ?_))
  obtain⟨t,rfl⟩:=hval i v hP
  have hS':=hm.heap S _ hSw hS
  obtain⟨⟨f1,f2⟩,f3,f4⟩:=hfit i hlt
  have hs:z+preSum val i+val i=z+preSum val (i+1):=by simp only[preSum];omega
  have hc:((decide (-(2^63)≤val i)&&decide (val i<2^63))&&(decide (-(2^63)≤z+preSum val i+val i)&&decide (z+preSum val i+val i<2^63)))=true:=by
   rw[hs]
   simp only[Bool.and_eq_true,decide_eq_true_eq]
   exact⟨⟨f1,f2⟩,f3,f4⟩
  show wpAny _ A.in1 (if (_:Bool)=true then (mkInt (z+preSum val i+val i) >>= _) else _) _ _ _
  split
  ·refine wpAny_bind (wpAny_mkInt ?_)
   show wpAny _ A.in1 (updateSeq S (fun _=> #[.int (z+preSum val i+val i) s'.toks]) >>= _) _ _ _
   rw[hs]
   refine wpAny_bind ?_
   refine wpAny_updateSeq hS' rfl (wpAny_pure ⟨plainId_quiet F.plain_sum_loop _,ih (i+1) _ s'.toks _ (by omega) hlt (W.frame _ s' _ _ hst' (by first | exact Nat.le_refl _ | exact Nat.le_succ _ | omega) fun b hb o e=> ?_) (Heap.get?_update_self _ hS' rfl) fun s'' t'' hm''=> ?_⟩)
   ·exact(Heap.get?_update_other _ _ (fun h:S=b=>hSf (by rw[h];exact hb))).trans e
   ·refine hR s'' t'' (Moved.trans W.gtrans ((hm.mono hsub).then_heap (by first | exact Nat.le_refl _ | exact Nat.le_succ _ | omega) fun b o hb e=> ?_) hm'')
    exact(Heap.get?_update_other _ _ (fun h:S=b=>hb (by rw[h];exact List.mem_cons_self))).trans e
  ·rename_i hneg
   exact absurd hc hneg
theorem args_sum2 (a b:Value):argsOk "sum" ⟨[a,b],[]⟩:=by unfold argsOk;kernel_rfl
theorem call_sumS {E:Value→Shared→Prop}{s:Shared}{x:Value}{z:Int}{tz:Tok}{Q:Value→Shared→Prop}(hz:InLong z)
  (h:wpAny (model prog w) A.in1 (pyIter x) (fun it s₂=> ∃I fp wr G n P St val,it= .ref I∧WalksS prog w A.in1 I fp wr G n P St∧St 0 s₂∧(∀b∈fp,b<s₂.heap.objs.size)∧
   (∀i v,P i v→ ∃t,v= .int (val i) t)∧(∀j,j<n→InLong (val j)∧InLong (z+preSum val (j+1)))∧
   ∀s' t',Moved wr G s₂ s'→Q (.int (z+preSum val n) t') s') E s):
  wpAny (model prog w) A (call (.builtin "sum") [x,.int z tz]) Q E s:=by
 refine call_function_tree F.kind_sum F.plain_sum F.entry_sum (args_sum2 _ _) ?_
 unfold Builtin.«sum»
 simp only[List.length_cons,List.length_nil]
 rw[if_neg (by decide)]
 refine wpAny_bind (wpAny_of_eq (show Builtin.Builtins.bindParams "sum" ["start"] 0 ⟨[.int z tz],[]⟩=pure [some (.int z tz)] from rfl) ?_)
 refine wpAny_bind (wpAny_mono h (fun it s₂ h₂=> ?_) fun _ _ e=>e)
 obtain⟨I,fp,wr,G,n,P,St,val,rfl,W,hst,hfp,hval,hfit,hQ⟩:=h₂
 have hc:(decide (-(2^63)≤z)&&decide (z<2^63))=true:=by
  simp only[Bool.and_eq_true,decide_eq_true_eq]
  exact hz
 have rest: ∀(tk:Nat) (t₀:Tok),s₂.toks≤tk→wpAny (model prog w) A.in1 (do
   for (ty,what,hint) in [("str","strings","''"),("bytes","bytes","b''"),("bytearray","bytearray","b''")] do
    if ←isInstance (.int z t₀) (.type ty) then
     rule "sum.start-refused";raiseError "TypeError" s!"sum() can't sum {what} [use {hint}.join(seq) instead]"
   again (.builtin "sum.loop" ⟨[.ref I,←newList [.int z t₀],rawInt 0,rawInt 0],[]⟩))
   (fun fin s'=>match fin with | .done (.ret v)=>Q v s' | .done _=>False | .again c'=>c'.quiet=true∧codeAny (model prog w) A c' (wants Q E) s') E {s₂ with toks:=tk}:=by
  intro tk t₀ htk
  simp only[List.forIn_cons,List.forIn_nil]
  refine wpAny_bind (wpAny_bind (wpAny_bind (wpAny_isInstance (T:="int") (b:=false) (typeIs_int _ _ _) PySem.sub_int_str ?_)))
  simp only[Bool.false_eq_true,if_false]
  refine wpAny_pure (wpAny_bind (wpAny_bind (wpAny_isInstance (T:="int") (b:=false) (typeIs_int _ _ _) PySem.sub_int_bytes ?_)))
  simp only[Bool.false_eq_true,if_false]
  refine wpAny_pure (wpAny_bind (wpAny_bind (wpAny_isInstance (T:="int") (b:=false) (typeIs_int _ _ _) PySem.sub_int_bytearray ?_)))
  simp only[Bool.false_eq_true,if_false]
  refine wpAny_pure (wpAny_pure ?_)
  refine wpAny_bind (wpAny_newObj_type ?_)
  have hSf:s₂.heap.objs.size∉fp:=fun hm=>Nat.lt_irrefl _ (hfp _ hm)
  refine wpAny_pure ⟨plainId_quiet F.plain_sum_loop _,sum_loopS W z val hval hfit s₂.heap.objs.size hSf n 0 _ t₀ 0 rfl (Nat.zero_le _)
   (W.frame 0 s₂ _ _ hst htk fun b _ o e=>Heap.get?_push_of_some _ e) ?_ fun s' t' hm=> ?_⟩
  ·have e0:z+preSum val 0=z:=by simp[preSum]
   rw[e0]
   exact Heap.get?_push_size s₂.heap rfl
  ·exact hQ s' t' (hm.drop_new htk)
 show wpAny _ _ (if (_:Bool)=true then (rule "sum.start-copied" >>= _) else _) _ _ _
 split
 ·refine wpAny_bind (wpAny_rule (wpAny_bind (wpAny_mkInt (wpAny_bind (wpAny_pure ?_)))))
  refine wpAny_mono (rest _ _ (Nat.le_succ _)) (fun fin s' q=> ?_) fun _ _ f=>f
  cases fin with
  | done f=>cases f<;>exact q
  | again c'=>exact q
 ·rename_i hneg
  exact absurd hc hneg
end
end Mine
end
section
set_option maxRecDepth 100000
set_option maxHeartbeats 2000000
open PySem PySem.W PyProof.Rows PySem.Calls
namespace Mine
section
variable {prog:Program}{w:World}{A:Around}{E:Value→Shared→Prop}{s:Shared}
theorem next_end {it l:Addr}{i:Nat}{items:Array Value}{Q:Option Value→Shared→Prop}(hh:A.handled=none) (hit:s.heap.IsListIter it l i) (hl:IsSeq s.heap l items) (hx:items[i]? =none)
  (hQ: ∀h',Heap.ExtBut it s.heap h'→Q none {s with heap:=h'}):wpAny (model prog w) A (pyNext (.ref it)) Q E s:=by
 have hit0:=hit
 obtain⟨o,ho,hc,hd⟩:=hit0
 obtain⟨ol,hol,nl,hdl⟩:=hl
 unfold pyNext
 refine wpAny_bind (wpAny_attempt (wpAny_callSpecial?_slot (name:=Str.ofString "__next__") hit.typeIs slot_listiter_next
  (wpAny_call_entry slot_listiter_next hit.typeIs entry_listiter_next ?_ (args_listiter_next _))))
 show wpAny _ _ (field (.ref it) 0 >>= _) _ _ s
 refine wpAny_bind (wpAny_field ho hd (x:=.ref l) rfl ?_)
 show wpAny _ _ (if (Value.ref l==Value.none)=true then _ else _) _ _ s
 rw[if_neg (show ¬((Value.ref l==Value.none)=true) from Bool.false_ne_true)]
 show wpAny _ _ (field (.ref it) 1 >>= _) _ _ s
 refine wpAny_bind (wpAny_field ho hd (x:=.int i 0) rfl ?_)
 show wpAny _ _ (seqItems? (.ref l) >>= _) _ _ s
 refine wpAny_bind (wpAny_seqItems hol hdl ?_)
 simp only[Int.toNat_natCast,hx]
 refine wpAny_bind (wpAny_rule (wpAny_bind (wpAny_setField ho hd (by simp) ?_)))
 show wpAny _ _ (newExc (.type "StopIteration") [] >>= _) _ _ _
 refine wpAny_bind ?_
 simp only[newExc,newTuple]
 refine wpAny_bind (wpAny_newObj_type ?_ (by size_fits))
 refine wpAny_bind (m:=firstArgMember _ _) (wpAny_of_eq (a:=Value.none) (by first | rfl | (simp only[firstArgMember];rfl)) ?_)
 refine wpAny_newObj_type ?_ (by size_fits)
 simp only[raiseNew]
 refine wpAny_bind (wpAny_handled ?_)
 rw[show A.in1.handled=none from hh]
 refine wpAny_bind (wpAny_pure (wpAny_throw ?_))
 refine wpAny_bind (wpAny_isInstance (T:="StopIteration") (b:=true) ⟨_,Heap.get?_push_size _ rfl,rfl⟩ isSubtype_stop ?_)
 exact wpAny_pure (hQ _ (((Heap.SameBut.update ..).extBut.push _).push _))
theorem walksA (hh:A.handled=none) (I ax:Addr) (hne:ax≠I) (items:Array Value) (Ts:Nat→Addr) (vals:Nat→Array Value)
  (hit: ∀j,j<items.size→items[j]? =some (.ref (Ts j))) (hTI: ∀j,j<items.size→Ts j≠I):
  WalksU prog w A I (I::ax::(List.range items.size).map Ts) [I] items.size (fun j v=>j<items.size∧v=vals j)
   (fun j h=>h.IsListIter I ax j∧IsSeq h ax items∧ ∀k,k<items.size→h.IsTuple (Ts k) (vals k))
   (fun j T h=>(j<items.size∧T=Ts j)∧h.IsListIter I ax (j+1)∧IsSeq h ax items∧ ∀k,k<items.size→h.IsTuple (Ts k) (vals k)) where
 sub:=fun b hb=>by simp at hb;simp[hb]
 frame:=fun _ _ _ st hk=>⟨st.1.at fun o e=>hk I (by simp) o e,st.2.1.at fun o e=>hk ax (by simp) o e,
  fun k hk'=>(st.2.2 k hk').at fun o e=>hk (Ts k) (List.mem_cons_of_mem _ (List.mem_cons_of_mem _ (List.mem_map.mpr ⟨k,List.mem_range.mpr hk',rfl⟩))) o e⟩
 item:=fun i s Q E hi st hQ=>by
  refine next_item st.1 st.2.1 (x:=.ref (Ts i)) (hit i hi) fun h' hit' hs'=> ?_
  have tup: ∀k,k<items.size→h'.IsTuple (Ts k) (vals k):=fun k hk'=>(st.2.2 k hk').extBut hs'.extBut (hTI k hk')
  exact hQ (Ts i) (vals i) h' s.toks ⟨hi,rfl⟩ (tup i hi) ⟨⟨hi,rfl⟩,hit',st.2.1.at fun o e=>hs'.extBut _ _ hne e,tup⟩ fun b o hb e=>hs'.extBut b o (fun h=>hb (by simp[h])) e
 go:=fun _ _ _ _ _ s Q _ hm hQ=>wpAny_letOwnedTupleGo_listiter hm.2.1 (hQ s.heap hm.2 fun _ _ _ e=>e)
 apart:=fun j T _ hm hmem=>by
  rcases List.mem_cons.mp hmem with e | e
  ·exact hTI j hm.1.1 (hm.1.2 ▸ e)
  ·cases e
 done:=fun s Q E st hQ=>next_end hh st.1 st.2.1 (by simp) fun h' he'=>hQ h' s.toks fun b o hb e=>he' b o (fun h=>hb (by simp[h])) e
 self:=fun _ _ _ _ st hQ=>wpAny_pyIter_listiter st.1 hQ
end
noncomputable def isPt:Obj→Prop:=fun o=> ∃ps,o={cls:=.none,data:=.fields ps}∧TriplesOk ps.toList
theorem code_turn {M:Model}{A:Around}{E:Value→Shared→Prop}{s:Shared}{env:Env}{c P:Addr}{pos:Pos}{qn:Str}{scope:Scope}{ps:Array Value}{Q:Value→Shared→Prop}(hc:env.code= .ref c) (hok:s.heap.IsCode c P ps) (hP:s.heap.get? P=some {cls:=.none,data:=.fields ps})
  (hQ: ∀code h' tk op',Heap.ExtBut P s.heap h'→h'.get? P=some op'→isPt op'→Q code {s with heap:=h',toks:=tk}):wpAny M A (genexprCode env pos qn scope) Q E s:=by
 obtain⟨o,vs,file,tf,flags,tg,inF,text,tt,op,ho,hd,e11,e2,e7,e9,e10,hop,hpd,htr,hne⟩:=hok
 rw[hP] at hop
 cases hop
 unfold genexprCode codeAt
 rw[hc,if_neg (show ¬((Value.ref c==Value.none)=true) from Bool.false_ne_true)]
 refine wpAny_bind (wpAny_fieldsOf ho hd ?_)
 rw[e11]
 refine wpAny_bind (wpAny_fieldsOf hP rfl ?_)
 cases hf:codeAmong pos ps.toList with
 | some cv=>exact wpAny_pure (hQ cv s.heap s.toks _ (Heap.ExtBut.refl _ _) hP ⟨ps,rfl,htr⟩)
 | none=>
  rw[e2,e7,e9,e10]
  refine wpAny_bind (wpAny_newCode fun c' P' h₁ tk hk _ _ _ _=> ?_)
  have hP₁:=hk _ _ hP
  refine wpAny_bind (wpAny_updateFieldsOfTheText hP₁ rfl ?_)
  have hset:Obj.mapFields (fun vs=>if (codeAmong pos vs.toList).isSome=true then vs else vs++ #[rawInt pos.line,rawInt pos.col,.ref c']) {cls:=.none,data:=.fields ps}={cls:=.none,data:=.fields (ps++ #[rawInt pos.line,rawInt pos.col,.ref c'])}:=by
   show (⟨.none,none,.fields (if (codeAmong pos ps.toList).isSome=true then ps else ps++ #[rawInt pos.line,rawInt pos.col,.ref c']),#[]⟩:Obj)=_
   rw[hf];rfl
  have hget:=Heap.get?_update_self (h:=h₁) (fun o=>Obj.mapFields (fun vs=>if (codeAmong pos vs.toList).isSome=true then vs else vs++ #[rawInt pos.line,rawInt pos.col,.ref c']) o) hP₁ (by rw[hset];rfl)
  rw[hset] at hget
  refine wpAny_bind (wpAny_fieldsOf hget rfl ?_)
  have hl:(ps++ #[rawInt pos.line,rawInt pos.col,Value.ref c']).toList=ps.toList++[rawInt pos.line,rawInt pos.col,.ref c']:=by simp
  rw[hl,codeAmong_snoc _ htr hf]
  exact wpAny_pure (hQ _ _ _ _ (fun b o' hb e=>(Heap.SameBut.update ..).extBut b o' hb (hk b o' e)) hget ⟨_,rfl,by rw[hl];exact TriplesOk_snoc _ _ _ _ htr⟩)
section
variable {prog:Program}{w:World}{X:Cx}{ρ ρ' ρ₁:Ro}{σ σ' σ₁:Led}{T:Tops}{n:Nat}{R R':PV→Led→Prop}{K:PF→Ro→Led→Prop}
variable {x C d:Addr}{cd:ClassData}{ps:List PV}
theorem Inv.turnX {s:Shared}(I:Inv X ρ σ s) {a:Addr}{P:Obj→Prop}{h':Heap}{o':Obj}{tk:Nat}(hm:(a,P)∈σ) (hs:Heap.ExtBut a s.heap h') (ho:h'.get? a=some o') (hp:P o'):Inv X ρ σ {s with heap:=h',toks:=tk}:=by
 obtain⟨hL,hg⟩:=I.ne_L (List.mem_map_of_mem (f:=(·.1)) hm)
 obtain⟨m,news,F,N,R,D⟩:=I.st
 have F':=Fr.extBut F hs hL hg
 have nd:=I.nd
 have key: ∀{σ:Led}{news:List (Addr×Obj)},LedIs σ news→(σ.map (·.1)).Nodup→(a,P)∈σ→News X.g X.L s.heap news→ ∃news',LedIs σ news'∧News X.g X.L h' news':=by
  intro σ news D
  induction D with
  | nil=>intro _ hm;cases hm
  | @cons b Q o σ news hq D ih=>
   intro nd hm N
   rw[List.map_cons,List.nodup_cons] at nd
   rcases List.mem_cons.mp hm with e | hm
   ·cases e
    refine⟨_,.cons hp D,fun p hp'=> ?_⟩
    rcases List.mem_cons.mp hp' with rfl | hp'
    ·exact⟨ho,hL,hg⟩
    ·have z:=N p (.tail _ hp')
     exact⟨hs _ _ (fun e=>nd.1 (by rw[D.keys,←e];exact List.mem_map_of_mem hp')) z.1,z.2⟩
   ·obtain⟨n',D',N'⟩:=ih nd.2 hm fun p hp=>N p (.tail _ hp)
    refine⟨_,.cons hq D',fun p hp'=> ?_⟩
    rcases List.mem_cons.mp hp' with rfl | hp'
    ·have z:=N _ (.head _)
     exact⟨hs _ _ (fun e=>nd.1 (by have e':b=a:=e;rw[e'];exact List.mem_map_of_mem (f:=(·.1)) hm)) z.1,z.2⟩
    ·exact N' p hp'
 obtain⟨news',D',N'⟩:=key D nd hm N
 exact⟨⟨m,news',F',N',R,D'⟩,nd,I.ks,I.kn,I.gens,I.os⟩
theorem Inv.moved {s s':Shared}(I:Inv X ρ σ s) {wr:List Addr}{g:Nat}(hm:Moved wr (GenOnlyQ g) s s') (hw: ∀b∈wr,s.heap.objs.size≤b):Inv X ρ σ s':=by
 obtain⟨m,news,F,N,R,D⟩:=I.st
 have k: ∀b o,s.heap.get? b=some o→s'.heap.get? b=some o:=fun b o e=>hm.heap b o (fun hb=>absurd (Heap.lt_size e) (Nat.not_lt.mpr (hw b hb))) e
 exact⟨⟨m,news,F.keeps k,N.grown k,R,D⟩,I.nd,I.ks,I.kn,I.gens.moved hm.gens,hm.os.trans I.os⟩
end
end Mine
end
section
set_option maxRecDepth 100000
set_option maxHeartbeats 4000000
open PySem PySem.W PyProof.Rows PySem.Calls
namespace Mine
section
variable {prog:Program}{w:World}{X:Cx}{ρ ρ' ρ₁:Ro}{σ σ' σ₁:Led}{T:Tops}{n:Nat}{R R':PV→Led→Prop}{K:PF→Ro→Led→Prop}
variable {x C d:Addr}{cd:ClassData}{ps:List PV}
noncomputable def Off (X:Cx) (σ:Led) (b:Addr):Prop:=b≠X.L∧X.g.get? b=none∧b∉σ.map (·.1)
theorem off_new {s:Shared}(I:Inv X ρ σ s) {b:Addr}(hb:s.heap.objs.size≤b):Off X σ b:=by
 obtain⟨m,news,F,N,R,D⟩:=I.st
 refine⟨fun e=> ?_,?_,fun hm=> ?_⟩
 ·have:=F.ns.lt;rw[e] at hb;exact absurd this (Nat.not_lt.mpr hb)
 ·cases h:X.g.get? b with
  | none=>rfl
  | some o=>exact absurd (Heap.lt_size (F.keep b o h)) (Nat.not_lt.mpr hb)
 ·rw[D.keys] at hm
  obtain⟨p,hp,rfl⟩:=List.mem_map.mp hm
  exact absurd (Heap.lt_size (N p hp).1) (Nat.not_lt.mpr hb)
theorem Inv.moved' {s s':Shared}(I:Inv X ρ σ s) {wr:List Addr}{g:Nat}(hm:Moved wr (GenOnlyQ g) s s') (hw: ∀b∈wr,Off X σ b):Inv X ρ σ s':=by
 obtain⟨m,news,F,N,R,D⟩:=I.st
 refine⟨⟨m,news,⟨?_,fun b o e=> ?_,F.above⟩,fun p hp=> ?_,R,D⟩,I.nd,I.ks,I.kn,I.gens.moved hm.gens,hm.os.trans I.os⟩
 ·exact F.ns.at' fun o e=>hm.heap _ _ (fun hb=>(hw _ hb).1 rfl) e
 ·exact hm.heap _ _ (fun hb=>by have:=(hw _ hb).2.1;rw[e] at this;cases this) (F.keep b o e)
 ·have z:=N p hp
  exact⟨hm.heap _ _ (fun hb=>(hw _ hb).2.2 (by rw[D.keys];exact List.mem_map_of_mem hp)) z.1,z.2⟩
noncomputable def GenA (prog:Program) (w:World) (X:Cx) (σ:Led) (a:Addr) (n:Nat) (F:Nat→Value→Prop) (s:Shared):Prop:=
 ∃fp wr g St,WalksS prog w X.A.in4 a fp wr (GenOnlyQ g) n (fun j y=> ∃i,(List.range n)[j]? =some i∧F i y) St∧St 0 s∧(∀i s',St i s'→s'.TypeIs (.ref a) "generator")∧a∈fp∧(∀b∈fp,b<s.heap.objs.size)∧ ∀b∈wr,Off X σ b
noncomputable def CodeT (T:Tops) (c P:Addr):Prop:=c≠P∧ ∃o vs file tf flags tg inF text tt,T.K.lookup c=some o∧o.data= .fields vs∧vs.getD 11 .none= .ref P∧vs.getD 18 .none= .str file tf∧vs.getD 7 .none= .int flags tg∧vs.getD 9 .none= .bool inF∧vs.getD 10 .none= .int text tt
theorem passing_all (n:Nat):passing (fun _=>true) n 0=List.range n:=by simp[passing]
theorem ev_gen (O:XOK T n X) (Y:ClsK T.K C cd) (hl:cd.mro.contains (.type "list")=true) (hfi:findIn T.K (.ref C) "__iter__"=some (some (.builtin "list.__iter__"))) {elt iter:Expr}{xa xb:Str}{kt:Nat}{pt pa pb pos:Pos}{scope:Scope}{c P bm:Addr}{ob:Obj}{ts:List (Addr×PV×PV)}{F:Nat→Value→Prop}{Q:Value→Shared→Prop}
  (hself:PE prog w X iter ρ σ (.ref x)) (hm:(x,isA C d (ts.map fun t=>.ref t.1))∈σ) (ht: ∀t∈ts,(t.1,isT [t.2.1,t.2.2])∈σ)
  (hP:(P,isPt)∈σ) (hc:X.env.code= .ref c) (hct:CodeT T c P) (hbm:T.mg "__builtins__"=some (.ref bm)) (hbn:bm≠builtinsNs) (hbl:T.K.lookup bm=some ob) (hbc:ob.cls= .type "module") (hbd:ob.dict=some builtinsNs) (hbp:ob.data= .plain)
  (hco:scope.isCoroutine=false) (hclos:closureFor scope X.env=pure []) (hcell: ∀y∈scope.names,y.2≠ .cell) (h0:scope.names.lookup (".0":Str)=some NameKind.local)
  (hxa:scope.names.lookup xa=some .local) (hxb:scope.names.lookup xb=some .local) (hab:xa≠xb) (hkind:scope.kind= .function)
  (helt: ∀(code:Value) (C':Addr) (A':Around) (E':Value→Shared→Prop) (i:Nat) (va vb:Value) (s₂:Shared) (m₂:Str→Option Value) (t:Addr×PV×PV),ts[i]? =some t→A'.handled=none→A'.depth≤X.A.depth+1→A'.units≤X.A.units+8→VR t.2.1 va→VR t.2.2 vb→s₂.heap.Ns C' m₂→m₂ xa=some va→m₂ xb=some vb→
   T.K.In s₂.heap→s₂.heap.Ns mainGlobals T.mg→s₂.heap.Ns builtinsNs T.mb→wpAny (model prog w) A' (eval elt (genEnv scope [] C' code builtinsNs X.env)) (fun y s₃=>F i y∧Keeps s₂ s₃) E' s₂)
  (hQ: ∀a s₅,Inv X ρ σ s₅→GenA prog w X σ a ts.length F s₅→Q (.ref a) s₅) (hs: ∀x,genFold iter X.env x=pure x):
  Ev prog w X (eval (.GeneratorExp elt [⟨.Tuple [.Name xa pa,.Name xb pb] kt pt,iter,[],0⟩] scope pos) X.env) ρ σ Q:=fun s I=>by
 refine wpAny_GeneratorExp_walksQTD O.hh hco hclos hcell h0 hxa hxb hab hkind (by have:=O.dep;show X.A.depth<1000;omega) (wpAny_mono (hself s I) (fun u s₁ q=> ?_) fun _ _ f=>f.elim) hs
 obtain⟨hu,I₁⟩:=q
 cases hu
 refine wpAny_mono (gA_iter (prog:=prog) (w:=w) O Y hl hfi hm I₁) (fun it s₂ q=> ?_) fun _ _ f=>f.elim
 obtain⟨rfl,rfl⟩:=q
 have up: ∀b o,s₁.heap.get? b=some o→(s₁.heap.push {cls:=.type "list_iterator",data:=.fields #[.ref x,.int 0 0]}).get? b=some o:=fun b o e=>Heap.get?_push_of_some _ e
 have I₂:=I₁.ext (tk:=s₁.toks) (h':=s₁.heap.push {cls:=.type "list_iterator",data:=.fields #[.ref x,.int 0 0]}) up
 have lim: ∀{s:Shared},Inv X ρ σ s→s.heap.NoLimit:=fun I=>by obtain⟨m,news,F,N,R,D⟩:=I.st;exact O.lim.keeps F.keep
 refine⟨lim I₂,?_⟩
 obtain⟨hcP,oc,vs,file,tf,flags,tg,inF,text,tt,k1,k2,k3,k4,k5,k6,k7⟩:=hct
 obtain⟨op,hop,ptab,rfl,htr⟩:=I₂.obj hP
 refine code_turn (P:=P) (ps:=ptab) hc ⟨oc,vs,file,tf,flags,tg,inF,text,tt,_,kIn O I₂ _ _ k1,k2,k3,k4,k5,k6,k7,hop,rfl,htr,hcP⟩ hop fun code h' tk op' hx hop' hpt=> ?_
 have I₃:=I₂.turnX (tk:=tk) hP hx hop' hpt
 have gm:=O.gm.keeps (by obtain⟨m,news,F,N,R,D⟩:=I₃.st;exact F.keep)
 have bmk:=O.bm.keeps (by obtain⟨m,news,F,N,R,D⟩:=I₃.st;exact F.keep)
 have KI:=kIn O I₃
 refine wpAny_builtinsFor (m:=T.mg) (by rw[O.gl];exact gm) hbm hbn (KI _ _ hbl) hbc hbd hbp ?_
 dsimp only at gm bmk KI I₃ ⊢
 have hIP:s₁.heap.objs.size≠P:=by
  have:=off_new I₁ (b:=s₁.heap.objs.size) (Nat.le_refl _)
  intro e
  exact this.2.2 (e ▸ List.mem_map_of_mem (f:=(·.1)) hP)
 have hIt:h'.IsListIter s₁.heap.objs.size x 0:=⟨_,hx _ _ hIP (Heap.get?_push_size _ rfl),rfl,rfl⟩
 have hIlt:s₁.heap.objs.size<h'.objs.size:=Heap.lt_size (hx _ _ hIP (Heap.get?_push_size _ rfl))
 obtain⟨ox,hox,pox⟩:=I₃.obj hm
 obtain⟨g1,g2,⟨us,kk,hus,g3⟩,g4⟩:=pox
 have hxI:x≠s₁.heap.objs.size:=fun e=>(off_new I₁ (b:=s₁.heap.objs.size) (Nat.le_refl _)).2.2 (e ▸ List.mem_map_of_mem (f:=(·.1)) hm)
 have hul:us.length=ts.length:=by rw[←hus.length];simp
 have hui: ∀(j:Nat) (t:Addr×PV×PV),ts[j]? =some t→us.toArray[j]? =some (Value.ref t.1):=fun j t e=>by
  obtain⟨u,hu,r⟩:=hus.getE (i:=j) (p:=.ref t.1) (by rw[List.getElem?_map,e];rfl)
  cases r;exact hu
 have tup: ∀t∈ts,∃va vb,h'.IsTuple t.1 #[va,vb]∧VR t.2.1 va∧VR t.2.2 vb:=fun t htm=>by
  obtain⟨o,ho,po⟩:=I₃.obj (ht t htm)
  obtain⟨vs,hvs,il⟩:=po.tuple ho
  obtain⟨va,vb,rfl,r1,r2⟩:=hvs.two
  exact⟨va,vb,il,r1,r2⟩
 have vex: ∀j:Nat,∃arr:Array Value,∀t,ts[j]? =some t→ ∃va vb,arr= #[va,vb]∧h'.IsTuple t.1 #[va,vb]∧VR t.2.1 va∧VR t.2.2 vb:=fun j=>by
  cases e:ts[j]? with
  | none=>exact⟨#[],fun t h=>by cases h⟩
  | some t=>
   obtain⟨va,vb,h1,h2,h3⟩:=tup t (List.mem_of_getElem? e)
   exact⟨#[va,vb],fun t' h=>by cases h;exact⟨va,vb,rfl,h1,h2,h3⟩⟩
 let vals:Nat→Array Value:=fun j=>Classical.choose (vex j)
 have hvals: ∀j t,ts[j]? =some t→ ∃va vb,vals j= #[va,vb]∧h'.IsTuple t.1 #[va,vb]∧VR t.2.1 va∧VR t.2.2 vb:=fun j=>Classical.choose_spec (vex j)
 let Ts:Nat→Addr:=fun j=>(ts[j]?.map fun t=>t.1).getD 0
 have at': ∀j,j<us.toArray.size→ ∃t,ts[j]? =some t∧Ts j=t.1:=fun j hj=>by
  have hj':j<ts.length:=by rw[←hul];simpa using hj
  refine⟨ts[j],by simp[hj'],by simp[Ts,hj']⟩
 have hTI: ∀j,j<us.toArray.size→Ts j≠s₁.heap.objs.size:=fun j hj e=>by
  obtain⟨t,e1,e2⟩:=at' j hj
  exact(off_new I₁ (b:=s₁.heap.objs.size) (Nat.le_refl _)).2.2 (by rw[←e,e2];exact List.mem_map_of_mem (f:=(·.1)) (ht t (List.mem_of_getElem? e1)))
 have W:=fun (A':Around) (hA:A'.handled=none)=>walksA (prog:=prog) (w:=w) hA s₁.heap.objs.size x hxI us.toArray Ts vals (fun j hj=>by obtain⟨t,e1,e2⟩:=at' j hj;rw[e2];exact hui j t e1) hTI
 have hsize:us.toArray.size=ts.length:=by simpa using hul
 have hst:h'.IsListIter s₁.heap.objs.size x 0∧IsSeq h' x us.toArray∧ ∀k,k<us.toArray.size→h'.IsTuple (Ts k) (vals k):=⟨hIt,⟨ox,hox,kk,g3⟩,fun k hk=>by
  obtain⟨t,e1,e2⟩:=at' k hk
  obtain⟨va,vb,q1,q2,_⟩:=hvals k t e1
  rw[e2,q1];exact q2⟩
 have hcs:cStatics<s₁.heap.objs.size:=by obtain⟨_,hn,_⟩:=lim I₁;exact hn.lt
 refine⟨s₁.heap.objs.size,_,_,_,_,_,_,fun _=>true,F,rfl,W,fun i vals' hv=> ?_,hst,?_,lim I₃,?_,fun href hk=>⟨fun A' E' i va vb s₂ m₂ hA hD hU hPt hn ha hb hkp=>wpAny_tests_nil ⟨rfl,⟨s₂.heap,s₂.toks,rfl,fun _ _ e=>e⟩⟩,fun A' E' i va vb s₂ m₂ hA hD hU hPt _ hn ha hb hkp=> ?_⟩,fun a h₅ tk₅ gs hgb hag hsz₅ hk₅ W' hat=> ?_⟩
 ·obtain⟨hi,rfl⟩:=hv
  obtain⟨t,e1,e2⟩:=at' i hi
  obtain⟨va,vb,q1,_⟩:=hvals i t e1
  exact⟨va,vb,q1⟩
 ·intro b hb
  rcases List.mem_cons.mp hb with rfl | hb
  ·exact hIlt
  ·rcases List.mem_cons.mp hb with rfl | hb
   ·exact Heap.lt_size hox
   ·obtain⟨j,hj,rfl⟩:=List.mem_map.mp hb
    obtain⟨t,e1,e2⟩:=at' j (List.mem_range.mp hj)
    obtain⟨va,vb,q1,⟨o,q2,_⟩,_⟩:=hvals j t e1
    rw[e2];exact Heap.lt_size q2
 ·intro hm'
  rw[List.mem_singleton.mp hm'] at hcs
  exact Nat.lt_irrefl _ hcs
 ·obtain⟨hi,hv⟩:=hPt
  obtain⟨t,e1,e2⟩:=at' i hi
  obtain⟨va',vb',q1,q2,r1,r2⟩:=hvals i t e1
  rw[q1] at hv
  obtain⟨f1,f2⟩:va=va'∧vb=vb':=by simpa using congrArg Array.toList hv
  subst f1 f2
  have kk': ∀b o,h'.get? b=some o→b≠s₁.heap.objs.size→s₂.heap.get? b=some o:=fun b o e hb=>hkp b (List.mem_range.mpr (Heap.lt_size e)) (fun hm'=>hb (List.mem_singleton.mp hm')) o (hk b o e)
  have base: ∀b o,X.g.get? b=some o→s₂.heap.get? b=some o:=fun b o e=>kk' b o (by obtain⟨m,news,F,N,R,D⟩:=I₃.st;exact F.keep b o e) fun e'=>by
   have:=(off_new I₁ (b:=s₁.heap.objs.size) (Nat.le_refl _)).2.1
   rw[←e',e] at this;cases this
  exact helt code _ A' E' i va vb s₂ m₂ t e1 hA hD hU r1 r2 hn ha hb (O.top.keeps base) (O.gm.keeps base) (O.bm.keeps base)
 ·have I₅:Inv X ρ σ {s₁ with heap:=h₅,gens:=s₁.gens.push gs,toks:=tk₅}:=by
   have J:=I₃.ext (tk:=tk₅) (h':=h₅) hk₅
   exact⟨J.st,J.nd,J.ks,J.kn,J.gens.push hgb,J.os⟩
  refine hQ a _ I₅ ?_
  rw[passing_all,hsize] at W'
  rw[hsize] at hat
  simp only[List.length_range] at W'
  refine⟨_,_,_,_,W',hat,fun i s' st=>st.1.typeIs,List.mem_cons_self,fun b hb=> ?_,fun b hb=> ?_⟩
  ·show b<h₅.objs.size
   rw[hsz₅]
   rcases List.mem_cons.mp hb with rfl | hb
   ·exact Nat.lt_succ_self _
   ·rcases List.mem_cons.mp hb with rfl | hb
    ·exact Nat.lt_succ_of_lt hag
    ·exact Nat.lt_succ_of_lt (Nat.lt_trans (List.mem_range.mp hb) hag)
  ·rcases List.mem_cons.mp hb with rfl | hb
   ·exact off_new I₁ (Nat.le_of_lt hIlt)
   ·rw[List.mem_singleton.mp hb]
    exact off_new I₁ (Nat.le_refl _)
end
end Mine
end
section
set_option maxRecDepth 100000
set_option maxHeartbeats 4000000
open PySem PySem.W PyProof.Rows PySem.Calls
namespace Mine
section
variable {prog:Program}{w:World}{X:Cx}{ρ ρ' ρ₁:Ro}{σ σ' σ₁:Led}{T:Tops}{n:Nat}{R R':PV→Led→Prop}{K:PF→Ro→Led→Prop}
theorem range_at {n j i:Nat}(h:(List.range n)[j]? =some i):i=j:=by
 rw[List.getElem?_eq_some_iff] at h
 obtain⟨h1,h2⟩:=h
 rw[List.getElem_range] at h2
 exact h2.symm
theorem GenA.tick {s:Shared}{a:Addr}{n:Nat}{F:Nat→Value→Prop}(G:GenA prog w X σ a n F s) {tk:Nat}(h:s.toks≤tk):GenA prog w X σ a n F {s with toks:=tk}:=by
 obtain⟨fp,wr,g,St,W,hst,hT,ha,hfp,hwr⟩:=G
 exact⟨fp,wr,g,St,W,W.frame 0 s s.heap tk hst h (fun _ _ _ e=>e),hT,ha,hfp,hwr⟩
theorem c_sumG {s:Shared}{a:Addr}{n:Nat}{val:Nat→Int}{z:Int}{tz:Tok}(I:Inv X ρ σ s) (G:GenA prog w X σ a n (fun j y=> ∃t,y= .int (val j) t) s) (hz:InLong z) (hfit: ∀j,j<n→InLong (val j)∧InLong (z+preSum val (j+1))):
  wpAny (model prog w) X.A (call (.builtin "sum") [.ref a,.int z tz]) (fun u s'=>VR (.int (z+preSum val n)) u∧Inv X ρ σ s') (fun _ _=>False) s:=by
 obtain⟨fp,wr,g,St,W,hst,hT,ha,hfp,hwr⟩:=G
 have W:=W.in4_1
 exact call_sumS hz (W.self 0 _ _ _ hst ⟨a,_,_,_,_,_,_,val,rfl,W,hst,hfp,fun i v hv=>by obtain⟨k,hk,t,rfl⟩:=hv;rw[range_at hk];exact⟨t,rfl⟩,hfit,fun s' t' hm=>⟨.int _ _,I.moved' hm hwr⟩⟩)
theorem c_joinG {s:Shared}{a:Addr}{n:Nat}{tx:Nat→List Nat}{sep:List Nat}{t:Tok}(I:Inv X ρ σ s) (G:GenA prog w X σ a n (fun j y=> ∃t,y= .str (mk (tx j)) t) s) (hn:n≤16777216) (hok:(((List.range n).map tx).map (·.length)).sum+n*sep.length≤16777216):
  wpAny (model prog w) X.A (call (.builtin "str.join") [.str (mk sep) t,.ref a]) (fun u s'=>VR (.str (joinS sep ((List.range n).map tx))) u∧Inv X ρ σ s') (fun _ _=>False) s:=by
 obtain⟨fp,wr,g,St,W,hst,hT,ha,hfp,hwr⟩:=G
 have W:=W.in4_2
 have htx: ∀j v,(∃i,(List.range n)[j]? =some i∧ ∃t,v=Value.str (mk (tx i)) t)→ ∃u,v=Value.str (mk (tx j)) u:=fun j v hv=>by
  obtain⟨k,hk,t,rfl⟩:=hv;rw[range_at hk];exact⟨t,rfl⟩
 refine SC.joinGen W hT hst hfp ha (fun j v hv=>let ⟨u,e⟩:=htx j v hv;⟨_,u,e⟩) (fun s' lt hm hacc=> ?_) (by rw[sizeLine_eq];exact hn)
 have hl:lt.map (·.1)=((List.range n).map tx).map mk:=by
  rw[List.map_map]
  apply List.ext_getElem?
  intro j
  have hsz:lt.length=n:=by simpa [strValues] using hacc.1
  by_cases hj:j<n
  ·have hj':j<lt.length:=hsz ▸ hj
   obtain⟨u,hv⟩:=htx j _ (hacc.2 j (.str lt[j].1 lt[j].2) (by simp[strValues,List.getElem?_eq_getElem hj']))
   injection hv with h1 _
   simp[List.getElem?_eq_getElem hj',hj,h1]
  ·rw[List.getElem?_eq_none (by simpa [hsz] using Nat.le_of_not_lt hj),List.getElem?_eq_none (by simpa using Nat.le_of_not_lt hj)]
 rw[hl]
 have I':=I.moved' hm hwr
 refine⟨joinOk_of (by rw[List.map_map];simpa [Function.comp_def,mk_length] using hok),fun t' k=>⟨?_,I'.tick k⟩⟩
 have e:Txt.join (mk sep) (((List.range n).map tx).map mk)=mk (joinS sep ((List.range n).map tx)):=by
  rw[←joinT_eq];exact(mk_cps _).symm
 rw[e];exact .str _ _
end
end Mine
end
section
set_option maxRecDepth 100000
set_option maxHeartbeats 4000000
open PySem PySem.W PyProof.Rows PySem.Calls
namespace Mine
section
variable {prog:Program}{w:World}{X:Cx}{ρ ρ' ρ₁:Ro}{σ σ' σ₁:Led}{T:Tops}{n:Nat}{R R':PV→Led→Prop}{K:PF→Ro→Led→Prop}
theorem keeps_tick (s:Shared) (k:Nat):Keeps s {s with toks:=k}:=⟨s.heap,k,rfl,fun _ _ e=>e⟩
theorem elt_len (hgl:X.env.globals=mainGlobals) {scope:Scope}{xa xb:Str}{p1 p2 p3 p4 p5 p6 p7:Pos}{la lb:List Nat}(hkind:scope.kind= .function) (hxa:scope.names.lookup xa=some .local) (hxb:scope.names.lookup xb=some .local) (hda:(xa==("__debug__":Str))=false) (hdb:(xb==("__debug__":Str))=false)
  (hlen:scope.names.lookup ("len":Str)=some .globalImplicit) (hg:T.mg "len"=none) (hb:T.mb "len"=some (.builtin "len")) (ha1:la.length<2^63) (hb1:lb.length<2^63)
  {code:Value}{C':Addr}{A':Around}{E':Value→Shared→Prop}{va vb:Value}{s₂:Shared}{m₂:Str→Option Value}(r1:VR (.str la) va) (r2:VR (.str lb) vb) (hns:s₂.heap.Ns C' m₂) (ea:m₂ xa=some va) (eb:m₂ xb=some vb)
  (gm:s₂.heap.Ns mainGlobals T.mg) (bm:s₂.heap.Ns builtinsNs T.mb):
  wpAny (model prog w) A' (eval (.BinOp (.Call (.Name "len" p1) [.Name xa p2] [] p3) .Add (.Call (.Name "len" p4) [.Name xb p5] [] p6) p7) (genEnv scope [] C' code builtinsNs X.env))
   (fun y s₃=>(∃t,y= .int (la.length+lb.length) t)∧Keeps s₂ s₃) E' s₂:=by
 cases r1;cases r2
 have one: ∀(x:Str) (q1 q2 q3:Pos) (l:List Nat) (t:Tok) (s:Shared) (Q:Value→Shared→Prop),scope.names.lookup x=some .local→(x==("__debug__":Str))=false→l.length<2^63→s.heap=s₂.heap→m₂ x=some (.str (mk l) t)→
   (∀k k',Q (.int l.length k) {s with toks:=k'})→wpAny (model prog w) A' (eval (.Call (.Name "len" q1) [.Name x q2] [] q3) (genEnv scope [] C' code builtinsNs X.env)) Q E' s:=fun x q1 q2 q3 l t s Q hx hd hl hs hm hq=>by
  refine PyProof.Rows.Call_ (Name_function_global (env:=genEnv scope [] C' code builtinsNs X.env) hkind hlen (loadGlobal_builtin (by show s.heap.Ns X.env.globals T.mg;rw[hgl,hs];exact gm) hg (by show s.heap.Ns builtinsNs T.mb;rw[hs];exact bm) hb ?_)) rfl
  refine callWith_builtin rfl (evalArgs_plain (spliced_cons (wpAny_Name (wpAny_loadName_local (env:=genEnv scope [] C' code builtinsNs X.env) hkind hx (by show s.heap.Ns C' m₂;rw[hs];exact hns) hm ?_) hd)))
  refine spliced_nil ?_
  refine P.len_str (by rw[mk_length];omega) ?_
  rw[mk_length];exact hq _ _
 refine wpAny_BinOp (one xa p1 p2 p3 la _ s₂ _ hxa hda ha1 rfl ea fun k k'=>one xb p4 p5 p6 lb _ _ _ hxb hdb hb1 rfl eb fun k2 k3=>add_int ⟨⟨_,rfl⟩,keeps_tick _ _⟩)
theorem elt_join (hgl:X.env.globals=mainGlobals) {scope:Scope}{xa xb es:Str}{p1 p2 p3 p4 p5 p6 p7:Pos}{k:Nat}{la lb:List Nat}{t0:Tok}(hkind:scope.kind= .function) (hxa:scope.names.lookup xa=some .local) (hxb:scope.names.lookup xb=some .local) (hda:(xa==("__debug__":Str))=false) (hdb:(xb==("__debug__":Str))=false)
  (hes:scope.names.lookup es=some .globalImplicit) (hde:(es==("__debug__":Str))=false) (hg:T.mg es=some (.str (mk []) t0)) (hl:la.length+lb.length≤16000000)
  {code:Value}{C':Addr}{A':Around}{E':Value→Shared→Prop}{va vb:Value}{s₂:Shared}{m₂:Str→Option Value}(r1:VR (.str la) va) (r2:VR (.str lb) vb) (hns:s₂.heap.Ns C' m₂) (ea:m₂ xa=some va) (eb:m₂ xb=some vb)
  (gm:s₂.heap.Ns mainGlobals T.mg) {pl:Sem Bool}
  (heq:eval (.Call (.Attribute (.Name es p1) "join" p2) [.Tuple [.Name xa p3,.Name xb p4] k p5] [] p6) (genEnv scope [] C' code builtinsNs X.env)=(do let ov ←eval (.Name es p1) (genEnv scope [] C' code builtinsNs X.env);standAt p2.atName;let fx ←holding [ov] (getMethod ov "join" pl);match fx with | (f,first)=>callWith p6 f first (backTo p6 (starEach [.Tuple [.Name xa p3,.Name xb p4] k p5] (genEnv scope [] C' code builtinsNs X.env))) [])):
  wpAny (model prog w) A' (eval (.Call (.Attribute (.Name es p1) "join" p2) [.Tuple [.Name xa p3,.Name xb p4] k p5] [] p6) (genEnv scope [] C' code builtinsNs X.env))
   (fun y s₃=>(∃t,y= .str (mk (la++lb)) t)∧Keeps s₂ s₃) E' s₂:=by
 cases r1;cases r2
 have one: ∀(q1:Pos) (s:Shared) (Q:Value→Shared→Prop),s.heap=s₂.heap→Q (.str (mk []) t0) s→wpAny (model prog w) A' (eval (.Name es q1) (genEnv scope [] C' code builtinsNs X.env)) Q E' s:=fun q1 s Q hs hq=>
  Name_function_global (env:=genEnv scope [] C' code builtinsNs X.env) hkind hes (loadGlobal_global (env:=genEnv scope [] C' code builtinsNs X.env) (by show s.heap.Ns X.env.globals T.mg;rw[hgl,hs];exact gm) hg hq) hde
 have loc: ∀(x:Str) (v:Value) (q:Pos) (s:Shared) (Q:Value→Shared→Prop),scope.names.lookup x=some .local→(x==("__debug__":Str))=false→s.heap=s₂.heap→m₂ x=some v→Q v s→wpAny (model prog w) A' (eval (.Name x q) (genEnv scope [] C' code builtinsNs X.env)) Q E' s:=fun x v q s Q hx hd hs hm hq=>
  wpAny_Name (wpAny_loadName_local (env:=genEnv scope [] C' code builtinsNs X.env) hkind hx (by show s.heap.Ns C' m₂;rw[hs];exact hns) hm hq) hd
 refine MethodCall_ ?_ heq
 refine(one p1 _ _ rfl (GM.join (callWith_builtin rfl (evalArgs_plain (spliced_cons ?_)))))
 refine Tuple_ (k:=k) (spliced_cons (loc xa _ p3 _ _ hxa hda rfl ea (spliced_cons (loc xb _ p4 _ _ hxb hdb rfl eb (spliced_nil ?_)))))
 refine wpAny_newObj_type (spliced_nil ?_) (by show 2≤sizeLine;decide)
 refine PyProof.Rows.join_tuple (ys:=[mk la,mk lb]) ⟨_,Heap.get?_push_size _ rfl,rfl,_,rfl⟩ (.cons _ _ (.cons _ _ .nil)) (by simp[mk_length];omega) fun t' k'=>⟨⟨t',?_⟩,⟨_,k',rfl,fun b o e=>Heap.get?_push_of_some _ e⟩⟩
 have e:Txt.join (mk []) [mk la,mk lb]=mk (la++lb):=by
  have:=joinT_eq [] [la,lb]
  rw[←mk_cps (Txt.join (mk []) [mk la,mk lb])]
  show mk (joinT [] [la,lb])=_
  rw[this];simp[joinS]
 rw[e]
end
end Mine
end
section
set_option maxRecDepth 100000
set_option maxHeartbeats 4000000
open PySem PySem.W PyProof.Rows PySem.Calls
namespace Mine
section
variable {prog:Program}{w:World}{X:Cx}{ρ ρ' ρ₁:Ro}{σ σ' σ₁:Led}{T:Tops}{n:Nat}{R R':PV→Led→Prop}{K:PF→Ro→Led→Prop}
variable {x C d:Addr}{cd:ClassData}{D:Data→Prop}{ρa ρb:Ro}
theorem Fn.drop {f:Value}{args:List PV}{σ:Led}{R R':PV→Led→Prop}(h:Fn prog w T n f args σ R) (k: ∀v σ',R v σ'→ ∃σ'',σ''.Sublist σ'∧R' v σ''):Fn prog w T n f args σ R':=fun X ρ s O e I us hv=>
 codeAny_mono (h X ρ s O e I us hv) fun r s' q=>by
  obtain⟨u,pv,σ',rfl,hR,hu,I'⟩:=q
  obtain⟨σ'',hs,hR'⟩:=k _ _ hR
  exact⟨u,pv,σ'',rfl,hR',hu,I'.sub hs⟩
theorem Obt.at_ (B:Obt X σ x C d D ρa) {s:Shared}(I:Inv X ρ σ s): ∃ox od,InstAt s.heap x ox C (some od):=by
 obtain⟨o,ho,h1,h2,h3,h4⟩:=B.inst I
 obtain⟨od,hod,_⟩:=I.obj B.dic
 refine⟨o,od,ho,h1,?_,?_⟩
 ·have:=B.no _ h3
  unfold notCls
  split
  ·rename_i c hc;exact absurd hc (this c)
  ·rfl
 ·rw[h2];exact hod
theorem len_body (O:XOK T (n+1) X) (hFL:X.FL=X.L) (B:Obt X σ x C d D ρa) {fa:Addr}{z:Int}(hf:findIn T.K (.ref C) "__len__"=some (some (.ref fa))) (ht:typeIn T.K (.ref fa)=some (.type "function")) (h0:0≤z) (h1:z<2^63)
  (hc:Fn prog w T n (.ref fa) [.ref x] σ (fun r σ'=>r= .int z∧σ'=σ)) {s:Shared}(I:Inv X ρ σ s) {Q:Value→Shared→Prop}(hq: ∀t s',Inv X ρ σ s'→Q (.int z t) s'):
  wpAny (model prog w) X.A.in1 (Builtin.«len» ⟨[.ref x],[]⟩) (fun fin s'=> ∃v,fin= .done (.ret v)∧Q v s') (fun _ _=>False) s:=by
 obtain⟨ox,od,IA⟩:=B.at_ I
 unfold Builtin.«len»
 refine wpAny_bind (m:=oneArg "len" _) (wpAny_pure ?_)
 refine wpAny_bind (m:=callSpecial? (.ref x) (Str.ofString "__len__")) (special_fn (kIn O I) IA hf ht (wpAny_mono (wpAny_call (codeAny_mono (hc {X with A:=X.A.in1} ρ s O.in1 hFL I.atA [.ref x] (.cons (.ref _) .nil)) fun r s' q=> ?_)) (fun v s' q=>q) fun _ _ y=>y))
 obtain⟨u,pv,σ',rfl,⟨rfl,rfl⟩,hu,I'⟩:=q
 cases hu
 refine wpAny_bind (wpAny_holding (wpAny_pure ?_))
 refine wpAny_bind (wpAny_letGo ?_)
 show wpAny _ _ (if z<0 then _ else _) _ _ _
 rw[if_neg (by omega)]
 show wpAny _ _ (if z≥2^63 then _ else _) _ _ _
 rw[if_neg (by omega)]
 exact wpAny_bind (wpAny_mkInt (wpAny_pure ⟨_,rfl,hq _ _ (I'.ofA.tick _)⟩))
theorem c_lenO (O:XOK T (n+1) X) (hFL:X.FL=X.L) (B:Obt X σ x C d D ρa) {fa:Addr}{z:Int}(hf:findIn T.K (.ref C) "__len__"=some (some (.ref fa))) (ht:typeIn T.K (.ref fa)=some (.type "function")) (h0:0≤z) (h1:z<2^63)
  (hc:Fn prog w T n (.ref fa) [.ref x] σ (fun r σ'=>r= .int z∧σ'=σ)) (us:List Value) (h:VRs [.ref x] us):PEt prog w X (call (.builtin "len") us) ρ σ (.int z):=fun s I=>by
 obtain⟨u,rfl,hu⟩:=h.one
 cases hu
 exact Calls.call_function_entry kind_len plain_len entry_len (args_len1 _) (len_body O hFL B hf ht h0 h1 hc I fun t s' I'=>⟨.int _ _,I'⟩)
theorem tr_lenO (O:XOK T (n+1) X) (hFL:X.FL=X.L) (B:Obt X σ x C d D ρa) {fa:Addr}{z:Int}(hf:findIn T.K (.ref C) "__len__"=some (some (.ref fa))) (hnb:findIn T.K (.ref C) "__bool__"=some none) (ht:typeIn T.K (.ref fa)=some (.type "function")) (h0:0≤z) (h1:z<2^63)
  (hc:Fn prog w T n (.ref fa) [.ref x] σ (fun r σ'=>r= .int z∧σ'=σ)) (u:Value) (s:Shared) (h:VR (.ref x) u) (I:Inv X ρ σ s):wpAny (model prog w) X.A (truthy u) (fun c s'=>c=(z != 0)∧Inv X ρ σ s') (fun _ _=>False) s:=by
 cases h
 obtain⟨ox,od,IA⟩:=B.at_ I
 have key:wpAny (model prog w) X.A (runValue (.builtin "len" ⟨[.ref x],[]⟩)) (fun r s'=> ∃t,r= .int z t∧Inv X ρ σ s') (fun _ _=>False) s:=by
  refine wpAny_runValue (codeAny_builtin entry_len ?_)
  rw[Around.under_plainId plain_len _]
  exact wpAny_mono (len_body O hFL B hf ht h0 h1 hc I (Q:=fun r s'=> ∃t,r= .int z t∧Inv X ρ σ s') fun t s' I'=>⟨t,rfl,I'⟩)
   (fun fin s' h'=>by obtain⟨r,rfl,hq⟩:=h';exact hq) fun _ _ e=>e
 have nb:wpAny (model prog w) X.A (callSpecial? (.ref x) (Str.ofString "__bool__")) (fun r s'=>r=none∧s'=s) (fun _ _=>False) s:=
  wpAny_bind (wpAny_bind (IA.type.here ((looks_findIn (kIn O I) hnb).here (wpAny_pure ⟨rfl,rfl⟩))))
 have sl:wpAny (model prog w) X.A (specialOf (.ref x) (Str.ofString "__len__")) (fun r s'=>r=some (.ref fa)∧s'=s) (fun _ _=>False) s:=
  wpAny_bind (IA.type.here ((looks_findIn (kIn O I) hf).here ⟨rfl,rfl⟩))
 unfold truthy
 refine wpAny_bind (wpAny_mono nb (fun r s' q=> ?_) fun _ _ e=>e)
 obtain⟨rfl,rfl⟩:=q
 dsimp only
 refine wpAny_bind (wpAny_mono sl (fun r s' q=> ?_) fun _ _ e=>e)
 obtain⟨rfl,rfl⟩:=q
 refine wpAny_bind (wpAny_mono key (fun r s' q=> ?_) fun _ _ e=>e)
 obtain⟨t,rfl,I'⟩:=q
 exact wpAny_pure ⟨rfl,I'⟩
theorem c_strO (O:XOK T (n+2) X) (hFL:X.FL=X.L) (B:Obt X σ x C d D ρa) {fa:Addr}{l:List Nat}(hf:findIn T.K (.ref C) "__str__"=some (some (.ref fa))) (ht:isFn T.K (.ref fa)=true)
  (hc:Fn prog w T n (.ref fa) [.ref x] σ (fun r σ'=>r= .str l∧σ'=σ)) (us:List Value) (h:VRs [.ref x] us):PEt prog w X (call (.type "str") us) ρ σ (.str l):=fun s I=>by
 obtain⟨u,rfl,hu⟩:=h.one
 cases hu
 obtain⟨ox,od,IA⟩:=B.at_ I
 have O1:XOK T (n+1) {X with A:=X.A.in1}:=O.in1
 have O2:XOK T n {X with A:=X.A.in1.in1}:=O1.in1
 refine kso_call (by have:=O.un;show X.A.units+1+1<9900;omega) (kIn O I) IA hf ht (wpAny_call (codeAny_mono (hc {X with A:=X.A.in1.in1} ρ s O2 hFL I.atA [.ref x] (.cons (.ref _) .nil)) fun r s' q=> ?_))
 obtain⟨u,pv,σ',rfl,⟨rfl,rfl⟩,hu,I'⟩:=q
 cases hu
 exact⟨.str _ _,I'.ofA⟩
end
end Mine
end
section
set_option maxRecDepth 100000
set_option maxHeartbeats 4000000
open PySem PySem.W PyProof.Rows PySem.Calls
namespace Mine
section
variable {prog:Program}{w:World}{X:Cx}{ρ ρ' ρ₁:Ro}{σ σ' σ₁:Led}{T:Tops}{n:Nat}{R R':PV→Led→Prop}{K:PF→Ro→Led→Prop}
variable {x C d:Addr}{cd:ClassData}{ps:List PV}
theorem tail_of {A:Around}{E:Value→Shared→Prop}{s:Shared}{value slice:Expr}{o i:Value}{vs:List Value}{Q:Value→Shared→Prop}(hg:wpAny (model prog w) A (getitemInPython o) (fun b s'=>b=false∧s'=s) E s)
  (hs:subscripted slice false o i=operate vs (getItem o i)) (h:wpAny (model prog w) A (getItem o i) Q E s):wpAny (model prog w) A (subscriptTail value slice o i) Q E s:=by
 unfold subscriptTail
 refine wpAny_bind (wpAny_mono hg (fun b s' q=> ?_) fun _ _ e=>e)
 obtain⟨rfl,rfl⟩:=q
 rw[hs]
 exact wpAny_bind (wpAny_operating (wpAny_mono h (fun r s₃ h₃=>wpAny_bind (wpAny_letTemporaryGo (wpAny_pure h₃))) fun _ _ x=>x))
theorem gip_A (O:XOK T n X) (hf:findIn T.K (.ref C) "__getitem__"=some (some (.builtin "list.__getitem__"))) (hm:(x,isA C d ps)∈σ) {s:Shared}(I:Inv X ρ σ s) {E:Value→Shared→Prop}:wpAny (model prog w) X.A (getitemInPython (.ref x)) (fun b s'=>b=false∧s'=s) E s:=by
 obtain⟨o,ho,po⟩:=I.obj hm
 have T': ∀{M:Model},Looks M s.heap (typeOf (.ref x)) (.ref C):=po.1 ▸ (Looks.ld ho).andThen .now
 exact wpAny_bind (wpAny_bind (T'.here ((looks_findIn (kIn O I) hf).here (wpAny_pure ⟨rfl,rfl⟩))))
theorem gip_T {a:Addr}(hm:At X σ a (isT ps)) {s:Shared}(I:Inv X ρ σ s) {E:Value→Shared→Prop}:wpAny (model prog w) X.A (getitemInPython (.ref a)) (fun b s'=>b=false∧s'=s) E s:=by
 obtain⟨o,ho,po⟩:=hm.obj I
 obtain⟨vs,hvs,il⟩:=po.tuple ho
 rw[getitemInPython_of_ne (fun e=>by cases e)]
 exact wpAny_bind (wpAny_specialOf il.typeIs slot_tuple_getitem.lookup (wpAny_pure ⟨rfl,rfl⟩))
theorem pe_itemA (O:XOK T n X) (Y:ClsK T.K C cd) (hl:cd.mro.contains (.type "list")=true) (hq:noSeq T.K C=true) (hf:findIn T.K (.ref C) "__getitem__"=some (some (.builtin "list.__getitem__"))) {v e:Expr}{pos:Pos}{i:Int}{p:PV}(hv:PE prog w X v ρ σ (.ref x)) (hm:(x,isA C d ps)∈σ) (he:PE prog w X e ρ σ (.int i)) (h0:0≤i) (h1:i<ps.length) (hn:ps.length≤16777216) (hp:itemL ps i=p)
  (hs: ∀x y,subscripted e false x y=operate [x,y] (getItem x y):=by intro _ _;rfl):PE prog w X (.Subscript v e pos) ρ σ p:=fun s I=>by
 refine PyProof.Rows.Subscript_ (wpAny_mono (hv s I) (fun u s₁ q=>wpAny_mono (he s₁ q.2) (fun y s₂ q'=> ?_) fun _ _ f=>f) fun _ _ f=>f)
 obtain⟨h1',I₁⟩:=q
 obtain⟨h2',I₂⟩:=q'
 cases h1'
 exact tail_of (gip_A O hf hm I₂) (hs _ _) (gA_item O Y hl hq hf hm h0 h1 hn hp _ _ (.ref x) h2' s₂ I₂)
theorem pe_itemT {v e:Expr}{pos:Pos}{a:Addr}{i:Nat}{p:PV}(hv:PE prog w X v ρ σ (.ref a)) (hm:At X σ a (isT ps)) (he:PE prog w X e ρ σ (.int i)) (h1:ps[i]? =some p) (hn:ps.length≤16777216)
  (hs: ∀x y,subscripted e false x y=operate [x,y] (getItem x y):=by intro _ _;rfl):PE prog w X (.Subscript v e pos) ρ σ p:=fun s I=>by
 refine PyProof.Rows.Subscript_ (wpAny_mono (hv s I) (fun u s₁ q=>wpAny_mono (he s₁ q.2) (fun y s₂ q'=> ?_) fun _ _ f=>f) fun _ _ f=>f)
 obtain⟨h1',I₁⟩:=q
 obtain⟨h2',I₂⟩:=q'
 cases h1';cases h2'
 obtain⟨o,ho,po⟩:=hm.obj I₂
 obtain⟨vs,hvs,⟨o',ho',hc,k,hd⟩⟩:=po.tuple ho
 obtain⟨u,hu,r⟩:=hvs.getE h1
 have hi:i<ps.length:=by
  rcases Nat.lt_or_ge i ps.length with h | h
  ·exact h
  ·rw[List.getElem?_eq_none h] at h1;cases h1
 have hlen:=hvs.length
 exact tail_of (gip_T hm I₂) (hs _ _) (getItem_tuple ⟨o',ho',hc,k,hd⟩ (by omega) (by omega) (j:=i) (by
  have h1: ¬((i:Int)<0):=by omega
  have h2:i<vs.length:=by omega
  simp[seqIndex?,h1,h2]) hu ⟨r,I₂⟩)
theorem ne_sliceA (O:XOK T n X) (Y:ClsK T.K C cd) (hl:cd.mro.contains (.type "list")=true) (hq:noSeq T.K C=true) (hf:findIn T.K (.ref C) "__getitem__"=some (some (.builtin "list.__getitem__"))) {v:Expr}{l u:Option Expr}{p pos:Pos}{lo hi:Option Int}(hv:PE prog w X v ρ σ (.ref x)) (hm:(x,isA C d ps)∈σ) (hl':PaE prog w X l ρ σ lo) (hu:PaE prog w X u ρ σ hi) (hn:ps.length≤16777216):
  NE prog w X (.Subscript v (.Slice l u none p) pos) ρ σ (isL (sl ps lo hi)):=fun s I=>by
 refine PyProof.Rows.Subscript_ (wpAny_mono (hv s I) (fun u s₁ q=> ?_) fun _ _ f=>f)
 obtain⟨h1,I₁⟩:=q
 cases h1
 refine wpAny_Slice (wpAny_mono (hl' s₁ I₁) (fun vl s₂ q=>wpAny_mono (hu s₂ q.2) (fun vu s₃ q'=> ?_) fun _ _ f=>f) fun _ _ f=>f)
 obtain⟨pl,I₂⟩:=q
 obtain⟨pu,I₃⟩:=q'
 rw[evalPart_none]
 refine wpAny_pure ?_
 have J:=I₃.ext (tk:=s₃.toks) (h':=s₃.heap.push {cls:=.type "slice",data:=.fields #[vl,vu,.none]}) fun b o e=>Heap.get?_push_of_some _ e
 exact tail_of (gip_A O hf hm J) rfl (gA_slice O Y hl hq hf hm hn pl pu (Heap.IsSliceOf.new ..) J)
theorem s1_setsliceA (O:XOK T n X) (Y:ClsK T.K C cd) (hl:cd.mro.contains (.type "list")=true) (hq:noSeq T.K C=true) (hf:findIn T.K (.ref C) "__setitem__"=some (some (.builtin "list.__setitem__"))) {v e:Expr}{l u:Option Expr}{sp spos pos:Pos}{lo hi:Option Int}{R:PV→Led→Prop}(he:GE prog w X e ρ σ R)
  (hk: ∀r σ₁,R r σ₁→ ∃b ps qs rs σ₂,r= .ref b∧(b,isL qs)∈σ₁∧PE prog w X v ρ σ₁ (.ref x)∧PaE prog w X l ρ σ₁ lo∧PaE prog w X u ρ σ₁ hi∧Um x (isA C d ps) (isA C d rs) σ₁ σ₂∧ps.length+qs.length≤16000000∧rs.length≤16000000∧K .next ρ σ₂∧
   ∀vs us,VRs ps vs→VRs qs us→ ∃ws:List Value,vs.toArray.extract 0 (sliceBounds lo hi none vs.length).1.toNat++us.toArray++vs.toArray.extract (max (sliceBounds lo hi none vs.length).1 (sliceBounds lo hi none vs.length).2.1).toNat vs.toArray.size=ws.toArray∧VRs rs ws)
  (hs:swapsWith e (some (v.Subscript (.Slice l u none sp) spos)) pos.line X.env=pure false:=by rfl):S1 prog w X (.Assign [.Subscript v (.Slice l u none sp) spos] e pos) ρ σ K:=fun s I=>by
 refine wpAny_Assign_Subscript (wpAny_mono (he s I) (fun vu s₁ q₁=> ?_) fun _ _ f=>f) hs
 obtain⟨r,σ₁,hR,hr,I₁⟩:=q₁
 obtain⟨b,ps,qs,rs,σ₂,rfl,hb,hv,hl',hu,hm,n1,n2,hK,hx⟩:=hk r σ₁ hR
 have hne:b≠x:=by
  rintro rfl
  obtain⟨o,ho,vs,k,_,rfl⟩:=I₁.obj hb
  obtain⟨o',ho',po'⟩:=I₁.obj hm.mem
  rw[ho] at ho'
  cases ho'
  exact absurd po'.1 (by simp)
 cases hr
 refine wpAny_mono (hv s₁ I₁) (fun o s₂ q₂=> ?_) fun _ _ f=>f
 obtain⟨ho,I₂⟩:=q₂
 cases ho
 refine wpAny_Slice (wpAny_mono (hl' s₂ I₂) (fun vl s₃ q=>wpAny_mono (hu s₃ q.2) (fun vu s₄ q'=> ?_) fun _ _ f=>f) fun _ _ f=>f)
 obtain⟨pl,I₃⟩:=q
 obtain⟨pu,I₄⟩:=q'
 rw[evalPart_none]
 refine wpAny_pure ?_
 have J:=I₄.ext (tk:=s₄.toks) (h':=s₄.heap.push {cls:=.type "slice",data:=.fields #[vl,vu,.none]}) fun b o e=>Heap.get?_push_of_some _ e
 exact wpAny_mono (gA_setslice O Y hl hq hf hm hb hne hx n1 n2 pl pu (Heap.IsSliceOf.new ..) J) (fun _ s₅ I₅=>⟨_,_,_,hK,.next,I₅⟩) fun _ _ f=>f
theorem cutA {ps qs rs:List PV}{i:Nat}(hi:i≤ps.length) (hq:qs=[]) (hr:rs=ps.take i): ∀vs us,VRs ps vs→VRs qs us→ ∃ws:List Value,vs.toArray.extract 0 (sliceBounds (some (i:Int)) none none vs.length).1.toNat++us.toArray++vs.toArray.extract (max (sliceBounds (some (i:Int)) none none vs.length).1 (sliceBounds (some (i:Int)) none none vs.length).2.1).toNat vs.toArray.size=ws.toArray∧VRs rs ws:=fun vs us hv hu=>by
 subst hq hr
 cases hu
 have hlen:=hv.length
 refine⟨vs.take i,?_,hv.take i⟩
 rw[sliceBounds_plain]
 have e1:clipAt vs.length (i:Int)=i:=by rw[clipAt_nat];omega
 simp only[Option.elim,e1]
 have e2:(max ((i:Nat):Int) ((vs.length:Nat):Int)).toNat=vs.length:=by omega
 rw[e2]
 simp
theorem allA {ps qs:List PV}: ∀vs us,VRs ps vs→VRs qs us→ ∃ws:List Value,vs.toArray.extract 0 (sliceBounds none none none vs.length).1.toNat++us.toArray++vs.toArray.extract (max (sliceBounds none none none vs.length).1 (sliceBounds none none none vs.length).2.1).toNat vs.toArray.size=ws.toArray∧VRs qs ws:=fun vs us hv hu=>by
 refine⟨us,?_,hu⟩
 rw[sliceBounds_plain]
 simp
end
end Mine
end
section
set_option maxRecDepth 100000
set_option maxHeartbeats 4000000
open PySem PySem.W PyProof.Rows PySem.Calls
namespace Mine
section
variable {prog:Program}{w:World}{X:Cx}{ρ ρ' ρ₁:Ro}{σ σ' σ₁:Led}{T:Tops}{n:Nat}{R R':PV→Led→Prop}{K:PF→Ro→Led→Prop}
variable {ps:List PV}
theorem ag_star {e:Expr}{p pos:Pos}{a:Addr}(he:PE prog w X e ρ σ (.ref a)) (hm:At X σ a (isT ps)) (hn:ps.length≤16777216) (hst:starEach [.Starred e p] X.env=[(true,eval e X.env)]:=by rfl):
  AG prog w X [.Starred e p] pos ρ σ (fun vs σ'=>vs=ps∧σ'=σ):=fun f s I=>by
 rw[hst]
 refine ks_lone (wpAny_mono (he s I) (fun u s₁ q=> ?_) fun _ _ f=>f)
 obtain⟨hu,I₁⟩:=q
 cases hu
 obtain⟨o,ho,po⟩:=hm.obj I₁
 obtain⟨vs,hvs,⟨o',ho',hc,k,hd⟩⟩:=po.tuple ho
 unfold StarOf notIterableAtAll
 have hT':s₁.TypeIs (.ref a) "tuple":=⟨o',ho',hc⟩
 refine wpAny_bind (wpAny_specialOf hT' PySem.F.slot_tuple_iter.lookup (wpAny_pure ⟨rfl,?_⟩))
 exact wpAny_collect_seq a (.inr rfl) ho' hc hd (fun h' hk=>⟨vs,ps,σ,rfl,⟨rfl,rfl⟩,hvs,I₁.ext (tk:=s₁.toks) hk⟩) (by rw[List.size_toArray,←hvs.length,sizeLine_eq];exact hn)
theorem be_cmp2 {l r:Expr}{op:CmpOp}{pos:Pos}{a:PV}{c:Bool}(hl:PE prog w X l ρ σ a) (hr:GE prog w X r ρ σ R) (h: ∀v σ',R v σ'→σ.Sublist σ'∧Cm prog w X op a v ρ σ' c) (hb:behindInMarks op r=false:=by rfl):BE prog w X (.Compare l [op] [r] pos) ρ σ c:=fun s I=>
 wpAny_isTrue_Compare1 (wpAny_mono (hl s I) (fun u₁ s₁ q₁=>wpAny_mono (hr s₁ q₁.2) (fun u₂ s₂ q₂=>by
  obtain⟨v,σ',hR,hv,I₂⟩:=q₂
  exact wpAny_mono ((h v σ' hR).2 u₁ u₂ q₁.1 hv s₂ I₂) (fun r s₃ q=>by
   obtain⟨rfl,I⟩:=q
   exact wpAny_truthy_bool ⟨rfl,I.sub (h v σ' hR).1⟩) fun _ _ f=>f) fun _ _ f=>f) fun _ _ f=>f) hb
theorem strE {a:List Nat}{u:Value}(h:VR (.str a) u): ∃t,u= .str (mk a) t:=by cases h;exact⟨_,rfl⟩
theorem cm_neT (O:XOK T n X) {a b:Addr}{a1 a2 b1 b2:List Nat}(ha:At X σ a (isT [.str a1,.str a2])) (hb:At X σ b (isT [.str b1,.str b2])):Cm prog w X .NotEq (.ref a) (.ref b) ρ σ (!(a1==b1&&a2==b2)):=fun u v h1 h2 s I=>by
 cases h1;cases h2
 obtain⟨o,ho,po⟩:=ha.obj I
 obtain⟨vs,hvs,il⟩:=po.tuple ho
 obtain⟨o',ho',po'⟩:=hb.obj I
 obtain⟨us,hus,jl⟩:=po'.tuple ho'
 obtain⟨x1,x2,rfl,r1,r2⟩:=hvs.two
 obtain⟨y1,y2,rfl,q1,q2⟩:=hus.two
 obtain⟨t1,rfl⟩:=strE r1
 obtain⟨t2,rfl⟩:=strE r2
 obtain⟨t3,rfl⟩:=strE q1
 obtain⟨t4,rfl⟩:=strE q2
 refine SeqAt.RcNeAt.tuples (e:=fun j=>if j=0 then a1==b1 else a2==b2) il jl (by have:=O.un;show X.A.units<9900;omega) (fun j h1 h2=> ?_) prog w _ _ ⟨?_,I⟩
 ·rcases j with _ | _ | j
  ·have:=SeqAt.EqAt.str_str (A:=X.A.in1) (s:=s) (mk a1) t1 (mk b1) t3
   rw[mk_beq] at this
   exact this
  ·have:=SeqAt.EqAt.str_str (A:=X.A.in1) (s:=s) (mk a2) t2 (mk b2) t4
   rw[mk_beq] at this
   exact this
  ·exact absurd h1 (by simp)
 ·have e:(List.range 2).all (fun j=>if j=0 then a1==b1 else a2==b2)=(a1==b1&&a2==b2):=by
   show (List.all [0,1] _)=_
   simp
  show Value.bool (!((List.range 2).all (fun j=>if j=0 then a1==b1 else a2==b2)&&true))=_
  rw[e,Bool.and_true]
end
end Mine
end
section
set_option maxRecDepth 100000
set_option maxHeartbeats 4000000
open PySem PySem.W PyProof.Rows PySem.Calls
namespace Mine
structure Mt (T:Tops) (C:Addr) (name qual:Str) (st:Stmt) (f:Addr) (cl:List (Str×Addr)) (cdv dV:Value):Prop where
 fnd:findIn T.K (.ref C) name=some (some (.ref f))
 typ:typeIn T.K (.ref f)=some (.type "function")
 fn:IsM T name qual st f cl cdv dV
structure LstK (K:Frag) (C:Addr) (cd:ClassData):Prop where
 cls:ClsK K C cd
 lst:cd.mro.contains (.type "list")=true
 self:cd.mro.contains (.ref C)=true
 noseq:noSeq K C=true
 it:findIn K (.ref C) "__iter__"=some (some (.builtin "list.__iter__"))
 gi:findIn K (.ref C) "__getitem__"=some (some (.builtin "list.__getitem__"))
 si:findIn K (.ref C) "__setitem__"=some (some (.builtin "list.__setitem__"))
 ap:findIn K (.ref C) "append"=some (some (.builtin "list.append"))
 apt:typeIn K (.builtin "list.append")=some (.type "method_descriptor")
 nb:findIn K (.ref C) "__bool__"=some none
section
variable {prog:Program}{w:World}{X:Cx}{ρ ρ' ρ₁:Ro}{σ σ' σ₁:Led}{T:Tops}{n:Nat}{R R':PV→Led→Prop}{K:PF→Ro→Led→Prop}
variable {x C d:Addr}{cd:ClassData}{D:Data→Prop}{ρa ρb:Ro}{ps:List PV}
theorem obtA (hm:(x,isA C d ps)∈σ) (hd:(d,isNd ρa)∈σ):Obt X σ x C d (seqD ps) ρa:=⟨hm,hd,fun _ h=>h.notCls⟩
theorem obtO (hm:(x,isO C d plainD)∈σ) (hd:(d,isNd ρa)∈σ):Obt X σ x C d plainD ρa:=⟨hm,hd,fun _ h=>h.notCls⟩
theorem s1_appendA (O:XOK T n X) (Y:LstK T.K C cd) {o e:Expr}{apos p pos:Pos}{pl:Sem Bool}(ho:PE prog w X o ρ σ (.ref x)) (B:Obt X σ x C d (seqD ps) ρa) (hna:("append":Str)∉ρa.map (·.1)) (he:GE prog w X e ρ σ R) (hn:ps.length≤16777216)
  (hk: ∀v σ',R v σ'→ ∃σ₂,Um x (isA C d ps) (isA C d (ps++[v])) σ' σ₂∧K .next ρ σ₂)
  (heq:eval ((o.Attribute ("append":Str) apos).Call [e] [] p) X.env=(do let ov ←eval o X.env;standAt apos.atName;let fx ←holding [ov] (getMethod ov ("append":Str) pl);match fx with | (f,first)=>callWith p f first (backTo p (starEach [e] X.env)) []))
  (hes:starEach [e] X.env=[(false,eval e X.env)]:=by rfl) (hi:interactive X.env=false:=by rfl) (hs:swapsWith ((o.Attribute ("append":Str) apos).Call [e] [] p) none pos.line X.env=pure false:=by rfl):
  S1 prog w X (.Expr ((o.Attribute ("append":Str) apos).Call [e] [] p) pos) ρ σ K:=
 by
 refine s1_expr (R:=fun r σ₂=>r= .none∧K .next ρ σ₂) ?_ (fun v σ' h=>h) hi hs
 refine ev_meth (pl:=pl) (id:="list.append") (ge_of_pe ho) (fun v σ' r=> ?_) heq (by rw[hes];rfl)
 obtain⟨rfl,e'⟩:=r
 have e':=e'.symm
 subst e'
 refine⟨fun u s Q hu I hq=>ev_method O Y.cls B Y.ap Y.apt (by decide) hna u s Q hu I hq,_,ag1 he hes,fun vs σ₂ h u us hu hv=> ?_⟩
 obtain⟨v,rfl,hR⟩:=h
 obtain⟨σ₃,hm,hK⟩:=hk v σ₂ hR
 exact VX.mono (cA_append O Y.cls Y.lst hm hn u us hu hv) fun v σ' q=>⟨q.1,q.2 ▸ hK⟩
theorem ge_own (O:XOK T n X) (hFL:X.FL=X.L) (Y:ClsK T.K C cd) {o:Expr}{name qual:Str}{st:Stmt}{cl:List (Str×Addr)}{cdv dV:Value}{fa:Addr}(M:Mt T C name qual st fa cl cdv dV) {apos pos:Pos}{args:List Expr}{pl:Sem Bool}{RA:List PV→Led→Prop}{R₂:PV→Led→Prop}{k:Nat}
  (ho:PE prog w X o ρ σ (.ref x)) (B:Obt X σ x C d D ρa) (hna:name∉ρa.map (·.1)) (ha:AG prog w X args pos ρ σ RA) (hk:k≤n) (hc: ∀vs σ',RA vs σ'→Fn prog w T k (.ref fa) (.ref x::vs) σ' R₂)
  (heq:eval ((o.Attribute name apos).Call args [] pos) X.env=(do let ov ←eval o X.env;standAt apos.atName;let fx ←holding [ov] (getMethod ov name pl);match fx with | (f,first)=>callWith pos f first (backTo pos (starEach args X.env)) []):=by rfl):
  GE prog w X (.Call (.Attribute o name apos) args [] pos) ρ σ R₂:=ge_meth_f O hFL Y ho B M.fnd M.typ M.fn.isFn hna ha hk hc heq
end
end Mine
end
section
set_option maxRecDepth 100000
set_option maxHeartbeats 4000000
open PySem PySem.W PyProof.Rows PySem.Calls
namespace Mine
section
variable {prog:Program}{w:World}{X:Cx}{ρ ρ' ρ₁:Ro}{σ σ' σ₁:Led}{T:Tops}{n:Nat}{R R':PV→Led→Prop}{K K₁:PF→Ro→Led→Prop}{c:Code}
theorem sa_ret {e:Expr}{pos:Pos}{rest:List Stmt}(h:EvA prog w X c (eval e X.env) ρ σ (fun u s'=> ∃v σ',R v σ'∧VR v u∧Inv X ρ σ' s')) (k: ∀v σ',R v σ'→K (.ret v) ρ σ'):StA prog w X c (execs (.Return (some e) pos::rest) X.env) ρ σ K:=fun s I=>
 ks_wpAt_execs_cons (ks_wpAt_Return_some (ks_wpAt_mono (h s I) (fun u s' q=>by
  obtain⟨v,σ',r,hv,I'⟩:=q
  exact⟨_,_,_,k v σ' r,.ret hv,I'⟩) fun _ _ f=>f))
theorem sa_expr {e:Expr}{pos:Pos}(h:EvA prog w X c (eval e X.env) ρ σ (fun u s'=> ∃σ',R .none σ'∧Inv X ρ σ' s')) (k: ∀σ',R .none σ'→K .next ρ σ') (hi:interactive X.env=false:=by rfl) (hs:swapsWith e none pos.line X.env=pure false:=by rfl):
  StA prog w X c (execs [.Expr e pos] X.env) ρ σ K:=fun s I=>
 ks_wpAt_execs_cons (ks_wpAt_Expr_any (ks_wpAt_mono (h s I) (fun u s' q=>by
  obtain⟨σ',r,I'⟩:=q
  exact PyProof.Rows.wpAt_of_any (wpAny_execs_nil ⟨_,_,_,k σ' r,.next,I'⟩)) fun _ _ f=>f) hi hs)
noncomputable def ThenA (prog:Program) (w:World) (X:Cx) (c:Code) (rest:List Stmt) (K:PF→Ro→Led→Prop):PF→Ro→Led→Prop
 | .next,ρ,σ=>StA prog w X c (execs rest X.env) ρ σ K
 | f,ρ,σ=>K f ρ σ
theorem sa_cons {st:Stmt}{rest:List Stmt}(h:S1 prog w X st ρ σ (ThenA prog w X c rest K)):StA prog w X c (execs (st::rest) X.env) ρ σ K:=fun s I=>
 ks_wpAt_execs_cons (PyProof.Rows.wpAt_of_any (wpAny_mono (h s I) (fun fl s' q=>by
  obtain⟨f,ρ',σ',a,b,d⟩:=q
  cases b with
  | next=>exact a s' d
  | brk=>exact⟨_,_,_,a,.brk,d⟩
  | cont=>exact⟨_,_,_,a,.cont,d⟩
  | ret h=>exact⟨_,_,_,a,.ret h,d⟩) fun _ _ f=>f))
end
end Mine
end
section
set_option maxRecDepth 100000
set_option maxHeartbeats 4000000
open PySem PySem.W PyProof.Rows PySem.Calls
namespace Mine
section
variable {prog:Program}{w:World}{X:Cx}{ρ ρ' ρ₁:Ro}{σ σ' σ₁:Led}{T:Tops}{n:Nat}{x C d:Addr}{ps:List PV}{p:PV}
theorem bA_len (hm:(x,isA C d ps)∈σ):Ev prog w X (Builtin.«list.__len__» ⟨[.ref x],[]⟩) ρ σ (fun fin s'=> ∃v,fin= .done (.ret v)∧ ∃p σ',(p= .int ps.length∧σ'=σ)∧VR p v∧Inv X ρ σ' s'):=fun s I=>by
 obtain⟨o,ho,po⟩:=I.obj hm
 obtain⟨h1,h2,⟨vs,k,hv,h3⟩,h4⟩:=id po
 show wpAny _ _ (do retInt (←seqSize x)) _ _ s
 unfold seqSize
 refine wpAny_bind (wpAny_bind (wpAny_load ho ?_))
 rw[h3]
 refine wpAny_pure (wpAny_bind (wpAny_mkInt (wpAny_pure ⟨_,rfl,.int ps.length,σ,⟨rfl,rfl⟩,?_⟩)))
 rw[List.size_toArray,←hv.length]
 exact⟨.int _ _,I.tick _⟩
theorem bA_pop (hm:Um x (isA C d (ps++[p])) (isA C d ps) σ σ') (hn:ps.length≤16000000):Ev prog w X (Builtin.«list.pop» ⟨[.ref x],[]⟩) ρ σ (fun fin s'=> ∃v,fin= .done (.ret v)∧ ∃q σ₂,(q=p∧σ₂=σ')∧VR q v∧Inv X ρ σ₂ s'):=fun s I=>by
 obtain⟨o,ho,po⟩:=I.obj hm.mem
 obtain⟨h1,h2,⟨vs,k,hv,h3⟩,h4⟩:=id po
 have hlen:=hv.length
 rw[List.length_append] at hlen
 simp only[List.length_cons,List.length_nil] at hlen
 obtain⟨y,hy,r⟩:=hv.getE (i:=ps.length) (p:=p) (by simp)
 show wpAny _ _ (Builtin.List.listItems (.ref x) >>= _) _ _ s
 refine wpAny_bind (wpAny_listItems ho h3 ?_)
 rw[if_neg (by simp;intro e;rw[e] at hlen;simp at hlen)]
 have hk:seqIndex? (-1) vs.toArray.size=some ps.length:=by
  rw[seqIndex_neg (by omega) (by rw[List.size_toArray];omega)];congr 1;rw[List.size_toArray];omega
 rw[hk,Option.bind_some,hy,Option.map_some]
 refine wpAny_bind (m:=updateSeq x _) (wpAny_updateSeq ho h3 ?_ ?_ ?_)
 ·refine wpAny_pure ⟨y,rfl,p,σ',⟨rfl,rfl⟩,r,?_⟩
  have hv2:VRs ps (vs.eraseIdx ps.length):=by
   have:=hv.erase ps.length
   rwa [List.eraseIdx_append_of_length_le (Nat.le_refl _),Nat.sub_self,List.eraseIdx_cons_zero,List.append_nil] at this
  have po':isA C d ps (Obj.mapSeq (fun xs=>xs.eraseIdxIfInBounds ps.length) o):=po.turn2 h3 (by simp) hv2
  exact I.turn (tk:=s.toks) hm.us (Heap.SameBut.update ..) (Heap.get?_update_self _ ho po'.fr) po'
 ·rw[List.size_toArray,sizeLine_eq];omega
 ·show (vs.toArray.eraseIdxIfInBounds ps.length).size≤_
  rw[show vs.toArray.eraseIdxIfInBounds ps.length=(vs.eraseIdx ps.length).toArray by simp,List.size_toArray,sizeLine_eq]
  have:=List.length_eraseIdx_le vs ps.length
  omega
theorem Um.self {a:Addr}{Q:Obj→Prop}: ∀{σ:Led},(a,Q)∈σ→Um a Q Q σ σ
 | _::_,.head _=>.here
 | _::_,.tail _ h=>.there (Um.self h)
theorem bA_init (hm:(x,isA C d [])∈σ):Ev prog w X (Builtin.«list.__init__» ⟨[.ref x],[]⟩) ρ σ (fun fin s'=> ∃v,fin= .done (.ret v)∧ ∃σ',σ'=σ∧Inv X ρ σ' s'):=fun s I=>by
 obtain⟨o,ho,po⟩:=I.obj hm
 obtain⟨h1,h2,⟨vs,k,hv,h3⟩,h4⟩:=id po
 cases hv
 show wpAny _ _ (Builtin.List.listItems (.ref x) >>= _) _ _ s
 refine wpAny_bind (wpAny_listItems ho h3 ?_)
 refine wpAny_bind (m:=updateSeq x _) (wpAny_updateSeq ho h3 ?_ (by decide) (by decide))
 refine wpAny_bind (wpAny_letGo' _ ?_)
 have po':isA C d [] (Obj.mapSeq (fun _=> #[]) o):=po.turn2 (us:=[]) h3 rfl .nil
 exact wpAny_pure ⟨_,rfl,σ,rfl,I.turn (tk:=s.toks) (Um.self hm).us (Heap.SameBut.update ..) (Heap.get?_update_self _ ho po'.fr) po'⟩
end
end Mine
end
section
set_option maxRecDepth 100000
set_option maxHeartbeats 4000000
open PySem PySem.W PyProof.Rows PySem.Calls
namespace Mine
section
variable {prog:Program}{w:World}{X:Cx}{ρ ρ' ρ₁:Ro}{σ σ' σ₁:Led}{T:Tops}{n:Nat}{R R':PV→Led→Prop}
variable {x C d:Addr}{cd:ClassData}{D:Data→Prop}{ρa ρb:Ro}{ps:List PV}
theorem attr_x (O:XOK T n X) (Lx:Lay X) (Y:ClsK T.K C cd) {self name:Str}{p pos:Pos}{v:PV}(hx:(self,some (.ref x))∈ρ) (B:Obt X σ x C d D ρa) (hm:(name,some v)∈ρa) (hf:findIn T.K (.ref C) name=some none) {s:Shared}(I:Inv X ρ σ s) {E:Value→Shared→Prop}{Q:Value→Shared→Prop}
  (hq: ∀u,VR v u→Q u {s with toks:=s.toks+1})
  (he:eval (.Attribute (.Name self p) name pos) X.env=(do let u ←eval (.Name self p) X.env;standAt pos.atName;let r ←holding [u] (getAttr u name true);letTemporaryGo (.Name self p) u r;pure r):=by rfl):wpAny (model prog w) X.A (eval (.Attribute (.Name self p) name pos) X.env) Q E s:=by
 obtain⟨m,news,F,N,RI,Dl⟩:=I.st
 obtain⟨u,hu,hv⟩:=RI.get hx
 cases hv
 have hk:=Lx.ks self (I.ks ▸ List.mem_map_of_mem hx)
 refine Attribute_any_ (wpAny_Name (wpAny_loadName_local Lx.fn hk.1 (by rw[Lx.loc];exact F.ns) hu ?_) hk.2) he
 obtain⟨o,ho,h1,h2,h3,h4⟩:=B.inst I
 obtain⟨od,hod,pod⟩:=I.obj B.dic
 obtain⟨md,RD,hns⟩:=pod.ns1 hod
 obtain⟨u,hu,hv⟩:=RD.get hm
 exact getattr_nd (kIn O I) Y ho h1 (B.no _ h3) h2 hns hf hu hv.handed (hq u hv)
end
end Mine
end
section
set_option maxRecDepth 100000
set_option maxHeartbeats 4000000
open PySem PySem.W PyProof.Rows PySem.Calls
namespace Mine
section
variable {prog:Program}{w:World}{X:Cx}{ρ:Ro}{σ:Led}
theorem pe_or2 {a b:Expr}{pos:Pos}{c d:Bool}(h:PE prog w X a ρ σ (.bool c)) (hr:c=false→PE prog w X b ρ σ (.bool d)):PE prog w X (.BoolOp .Or [a,b] pos) ρ σ (.bool (c||d)):=fun s I=>
 BoolOp_or (wpAny_mono (h s I) (fun x s' q=>by
  obtain⟨h1,I'⟩:=q
  cases h1
  refine wpAny_truthy_bool ?_
  cases c with
  | false=>exact BoolOp_one (hr rfl s' I')
  | true=>exact⟨.bool _,I'⟩) fun _ _ f=>f)
theorem pe_not {e:Expr}{pos:Pos}{v:PV}{b:Bool}(h:PE prog w X e ρ σ v) (ht: ∀u s,VR v u→Inv X ρ σ s→wpAny (model prog w) X.A (truthy u) (fun c s'=>c=b∧Inv X ρ σ s') (fun _ _=>False) s):PE prog w X (.UnaryOp .Not e pos) ρ σ (.bool (!b)):=fun s I=>by
 show wpAny _ _ (do let v ←eval e X.env;standAt pos;holding [v] (unaryOp .Not v)) _ _ s
 refine wpAny_bind (wpAny_mono (h s I) (fun u s₁ q=> ?_) fun _ _ f=>f)
 refine wpAny_bind (wpAny_standAt (wpAny_holding ?_))
 unfold unaryOp
 refine wpAny_holding ?_
 show wpAny _ _ (do return Value.bool (!(←truthy u))) _ _ s₁
 refine wpAny_bind (wpAny_mono (ht u s₁ q.1 q.2) (fun c s₂ q=> ?_) fun _ _ f=>f)
 obtain⟨rfl,I₂⟩:=q
 exact wpAny_pure ⟨.bool _,I₂⟩
end
end Mine
end
section
set_option maxRecDepth 100000
set_option maxHeartbeats 4000000
open PySem PySem.W PyProof.Rows PySem.Calls
namespace Mine
noncomputable def AM (j:Nat):Stmt:=nthS (bodyOf (ST 14)) j
noncomputable def FM (j:Nat):Stmt:=nthS (bodyOf (ST 13)) j
structure AcAds where
 C:Addr
 cd:ClassData
 cc:Addr
 init:Addr
 push:Addr
 popf:Addr
 pop:Addr
 len:Addr
 str:Addr
 reset:Addr
 only:Addr
 count:Addr
 cinit:Addr
 cpop:Addr
 ccount:Addr
 clen:Addr
 cstr:Addr
 Plen:Addr
 Pstr:Addr
 vpush:Value
 vpopf:Value
 vreset:Value
 vonly:Value
 dinit:Addr
 dpopf:Addr
 dreset:Addr
structure AcT (T:Tops) (a:AcAds):Prop where
 lk:LstK T.K a.C a.cd
 no:findIn T.K (.ref a.C) "_initial_size"=some none
 push:Mt T a.C "push" "_Accumulator.push" (AM 1) a.push [] a.vpush .none
 count:Mt T a.C "part_count" "_Accumulator.part_count" (AM 8) a.count [("__class__",a.cc)] (.ref a.ccount) .none
 pop:Mt T a.C "pop" "_Accumulator.pop" (AM 3) a.pop [("__class__",a.cc)] (.ref a.cpop) .none
 init:Mt T a.C "__init__" "_Accumulator.__init__" (AM 0) a.init [("__class__",a.cc)] (.ref a.cinit) (.ref a.dinit)
 popf:Mt T a.C "pop_from" "_Accumulator.pop_from" (AM 2) a.popf [] a.vpopf (.ref a.dpopf)
 len:Mt T a.C "__len__" "_Accumulator.__len__" (AM 4) a.len [] (.ref a.clen) .none
 str:Mt T a.C "__str__" "_Accumulator.__str__" (AM 5) a.str [] (.ref a.cstr) .none
 reset:Mt T a.C "reset" "_Accumulator.reset" (AM 6) a.reset [] a.vreset (.ref a.dreset)
 vinit: ∃o k u,T.K.lookup a.dinit=some o∧o.data= .seq #[.int 0 u] k
 vpop: ∃o k u,T.K.lookup a.dpopf=some o∧o.data= .seq #[.int 0 u] k
 vres: ∃o k,T.K.lookup a.dreset=some o∧o.data= .seq #[.none] k
 only:Mt T a.C "is_onlyws" "_Accumulator.is_onlyws" (AM 7) a.only [] a.vonly .none
structure SupK (prog:Program) (T:Tops) (a:AcAds):Prop where
 cell: ∃oc,T.K.lookup a.cc=some oc∧oc.data= .cell (some (.ref a.C))
 code: ∀c∈[a.cinit,a.cpop,a.ccount],∃oc vs file tf,T.K.lookup c=some oc∧oc.data= .fields vs∧vs[2]? =some (.str file tf)∧((prog.main.file:Str)==file)=true
 top:(prog.main.scope.names.lookup ("super":Str)).isSome=false
 glob:T.mg "super"=none∧T.mb "super"=some (.type "super")
 third:nsIn T.K cStatics "thirdparty.any"=some none
 len:alongIn T.K "__len__" ((a.cd.mro.dropWhile (· != .ref a.C)).drop 1)=some (some (.builtin "list.__len__"))
 pop:alongIn T.K "pop" ((a.cd.mro.dropWhile (· != .ref a.C)).drop 1)=some (some (.builtin "list.pop"))
 init:alongIn T.K "__init__" ((a.cd.mro.dropWhile (· != .ref a.C)).drop 1)=some (some (.builtin "list.__init__"))
 typ:typeIn T.K (.ref a.C)=some (.type "type")
 qual:a.cd.qualname=("_Accumulator":Str)
 nomod:a.cd.mro.contains (.type "module")=false
structure GenK (T:Tops) (a:AcAds) (bm:Addr) (ob:Obj):Prop where
 len:CodeT T a.clen a.Plen
 str:CodeT T a.cstr a.Pstr
 bi:T.mg "__builtins__"=some (.ref bm)
 bn:bm≠builtinsNs
 bl:T.K.lookup bm=some ob
 bc:ob.cls= .type "module"
 bd:ob.dict=some builtinsNs
 bp:ob.data= .plain
 sum:T.mg "sum"=none∧T.mb "sum"=some (.builtin "sum")
 empty: ∃t,T.mg "EMPTYSTRING"=some (.str (mk []) t)
section
variable {prog:Program}{w:World}{T:Tops}{n:Nat}{a:AcAds}{ρa:Ro}{x d:Addr}{ps:List PV}{σ σ':Led}{z:Int}{R:Addr→Led→Prop}
noncomputable abbrev isZ (z:Int):Obj→Prop:=isNd [(("_initial_size":Str),some (.int z))]
theorem fin_of {X:Cx}{A':Around}{t:Sem Fin}{ρ:Ro}{R:PV→Led→Prop}(h:Ev prog w {X with A:=A'} t ρ σ (fun fin s'=> ∃v,fin= .done (.ret v)∧ ∃p σ',R p σ'∧VR p v∧Inv {X with A:=A'} ρ σ' s')):
  Ev prog w {X with A:=A'} t ρ σ (fun fin s'=> ∃v,fin= .done (.ret v)∧ ∃p σ',R p σ'∧VR p v∧Inv X ρ σ' s'):=h.mono fun fin s' q=>by
 obtain⟨v,e,p,σ',r,hv,I'⟩:=q
 exact⟨v,e,p,σ',r,hv,I'.ofA⟩
theorem s1_return_g {X:Cx}{ρ:Ro}{R:PV→Led→Prop}{K:PF→Ro→Led→Prop}{e:Expr}{pos:Pos}(h:GE prog w X e ρ σ R) (k: ∀v σ',R v σ'→K (.ret v) ρ σ'):S1 prog w X (.Return (some e) pos) ρ σ K:=fun s I=>
 wpAny_Return_some (wpAny_mono (h s I) (fun u s' q=>by
  obtain⟨v,σ',r,hv,I'⟩:=q
  exact⟨_,_,_,k v σ' r,.ret hv,I'⟩) fun _ _ f=>f)
theorem push_fn (D:AcT T a) {f s:List Nat}(hx:(x,isA a.C d ps)∈σ) (hm: ∀t,∃σ₂,Um x (isA a.C d ps) (isA a.C d (ps++[.ref t])) ((t,isT [.str f,.str s])::σ) σ₂∧R t σ₂) (hd:(d,isZ z)∈σ) (hn:ps.length≤16777216):
  Fn prog w T (n+1) (.ref a.push) [.ref x,.str f,.str s] σ (fun r σ'=>r= .none∧ ∃t,R t σ'):=
 meth_intro D.push.fn ["self","fws","string"] [] (fun us hv=>⟨us,hv,fun kV doc pm an ct s _=>.of_eq (by match us,hv.length with | [_,_,_],_=>rfl)⟩) (by decide) (by decide) rfl (by decide) rfl rfl rfl (fun A L g os O Y=>by
  show SE _ _ _ _ [(("self":Str),some (.ref x)),(("fws":Str),some (.str f)),(("string":Str),some (.str s))] σ _
  refine se_cons (s1_appendA O D.lk (pe_local Y (.head _)) (obtA hx hd) (by show (_:Str)∉[("_initial_size":Str)];decide) (ge_tuple rfl (spg_cons (ge_of_pe (pe_local Y mI1)) fun v σ' h=>spg_cons (ge_of_pe (pe_local Y mI2)) fun _ _ _=>spg_nil) (fun vs σ' h=>by obtain⟨v,σ₁,r,rfl, -,v2,σ₂,r2,rfl, -,rfl, -⟩:=h;simp)) hn (fun v σ' h=> ?_) rfl)
  obtain⟨t,vs,σ₁,rfl,rfl,v1,σ₂,r,rfl,⟨rfl,rfl⟩,v2,σ₃,r2,rfl,⟨rfl,rfl⟩,rfl,rfl⟩:=h
  obtain⟨σ₄,hu,hR⟩:=hm t
  exact⟨σ₄,hu,se_nil ⟨rfl,t,hR⟩⟩)
theorem count_fn (D:AcT T a) (S:SupK prog T a) (hx:(x,isA a.C d ps)∈σ):Fn prog w T (n+1) (.ref a.count) [.ref x] σ (fun r σ'=>r= .int ps.length∧σ'=σ):=
 meth_at D.count.fn ["self"] [] (fun us hv=>⟨us,hv,fun kV doc pm an ct s _=>.of_eq (by match us,hv.length with | [_],_=>rfl)⟩) (by decide) (by decide) rfl (by decide) rfl rfl rfl (fun A L g os O Y=>
  sa_ret (eva_super (ar:=((parsOf (AM 8)).args.headD default)) O D.lk.cls D.count.fn S.cell (S.code _ (by simp)) S.top S.glob.1 S.glob.2 S.third rfl rfl rfl rfl rfl (.head _) rfl sup_len D.lk.lst D.lk.self S.len hx (.inl rfl) entry_list_len (by decide+kernel)
   (fun s I A' E' Q' h=>chk_len h) (fin_of (bA_len hx))) (fun v σ' h=>h))
theorem pop_fn (D:AcT T a) (S:SupK prog T a) (hx:(x,isA a.C d ps)∈σ) (hd:(d,isZ z)∈σ) (hn:ps.length≤16000000) (hm: ∀qs p,ps=qs++[p]→ ∃σ₂,Um x (isA a.C d (qs++[p])) (isA a.C d qs) σ σ₂∧R' p σ₂) (h0:ps=[]→ ∀t,R' (.ref t) ((t,isT [.str [],.str []])::σ)):
  Fn prog w T (n+2) (.ref a.pop) [.ref x] σ R':=
 meth_at D.pop.fn ["self"] [] (fun us hv=>⟨us,hv,fun kV doc pm an ct s _=>.of_eq (by match us,hv.length with | [_],_=>rfl)⟩) (by decide) (by decide) rfl (by decide) rfl rfl rfl (fun A L g os O Y=>by
  have bt:BE prog w ⟨A,envX "_Accumulator.pop" (scopeOf (AM 3)) L a.pop (.ref a.cpop) [("__class__",a.cc)],L,L,g,os,(["self"]:List Str)++([]:List Str)⟩ (match (bodyOf (AM 3)).headD default with | .If t .. =>t | _=>default) [(("self":Str),some (.ref x))] σ (((ps.length:Nat):Int)==0):=
   be_cmp (pe_of_ge (R:=fun r σ'=>r= .int ps.length∧σ'=σ) (ge_own (k:=n+1) O rfl D.lk.cls D.count (pe_local Y (.head _)) (obtA hx hd) (by show (_:Str)∉[("_initial_size":Str)];decide) (ag_of_ae ae0) (Nat.le_refl _) (fun vs σ' h=>by obtain⟨h1,h2⟩:=h;subst h1;rw[h2];exact count_fn D S hx)) (fun v σ' h=>⟨h.1,h.2 ▸ .refl _⟩)) pe_int cm_eq
  refine sa_cons (s1_if bt (fun h=> ?_) (fun h=> ?_))
  ·have e:ps=[]:=by simpa using h
   exact se_cons (s1_return_g (R:=fun r σ₂=> ∃t,r= .ref t∧σ₂=(t,isT [.str [],.str []])::σ) (VX.mono (ge_tuple rfl (spg_cons (ge_of_pe pe_str) fun v σ' h=>spg_cons (ge_of_pe pe_str) fun _ _ _=>spg_nil) (fun vs σ' h=>by obtain⟨v,σ₁,r,rfl, -,v2,σ₂,r2,rfl, -,rfl, -⟩:=h;simp)) (fun v σ' h=>by
    obtain⟨t,vs,σ₁,rfl,rfl,v1,σ₂,r,rfl,⟨rfl,rfl⟩,v2,σ₃,r2,rfl,⟨rfl,rfl⟩,rfl,rfl⟩:=h
    exact⟨t,rfl,rfl⟩)) (fun v σ' h=>by obtain⟨t,rfl,rfl⟩:=h;exact h0 e t))
  ·have e:ps≠[]:=fun e=>by rw[e] at h;exact absurd h (by decide)
   obtain⟨σ₂,hu,hR⟩:=hm ps.dropLast (ps.getLast e) (List.dropLast_concat_getLast e).symm
   have hx':(x,isA a.C d (ps.dropLast++[ps.getLast e]))∈σ:=by rw[List.dropLast_concat_getLast];exact hx
   exact se_nil (sa_ret (eva_super (ar:=((parsOf (AM 3)).args.headD default)) O D.lk.cls D.pop.fn S.cell (S.code _ (by simp)) S.top S.glob.1 S.glob.2 S.third rfl rfl rfl rfl rfl (.head _) rfl sup_pop D.lk.lst D.lk.self S.pop hx' (.inr rfl) F.entry_list_pop (by decide+kernel)
    (fun s I A' E' Q' h=>by
     obtain⟨o,ho,po⟩:=I.obj hx'
     exact chk_pop (kIn O I) D.lk.cls ho po.1 po.2.2.1.notCls S.typ S.qual S.nomod h) (fin_of (bA_pop hu (by simp;omega)))) (fun v σ' h=>by obtain⟨rfl,rfl⟩:=h;exact hR)))
theorem init_fn (D:AcT T a) (S:SupK prog T a):Fn prog w T (n+1) (.ref a.init) [.ref x,.int z] ((x,isA a.C d [])::(d,isNd [])::σ) (fun r σ'=>r= .none∧σ'=(x,isA a.C d [])::(d,isZ z)::σ):=
 meth_at D.init.fn ["self","initial_size"] [] (fun us hv=>⟨us,hv,fun kV doc pm an ct s XK=>by
  obtain⟨o,k,u,e1,e2⟩:=D.vinit
  match us,hv.length with | [_,_],_=>exact binds_K XK rfl e1 e2 rfl rfl⟩) (by decide) (by decide) rfl (by decide) rfl rfl rfl (fun A L g os O Y=>by
  show StA _ _ _ _ _ [(("self":Str),some (.ref x)),(("initial_size":Str),some (.int z))] _ _
  refine sa_cons (s1_setattr O D.lk.cls (ge_of_pe (pe_local Y mI1)) D.no (fun v σ' h=> ?_))
  obtain⟨rfl,rfl⟩:=h
  refine⟨x,d,_,[],_,_,pe_local Y (.head _),obtA (.head _) mI1,.new (by simp),.there .here,by simp,by simp,?_⟩
  exact sa_expr (R:=fun r σ'=>σ'=(x,isA a.C d [])::(d,isZ z)::σ) (eva_super (ar:=((parsOf (AM 0)).args.headD default)) O D.lk.cls D.init.fn S.cell (S.code _ (by simp)) S.top S.glob.1 S.glob.2 S.third rfl rfl rfl rfl rfl (.head _) rfl sup_init D.lk.lst D.lk.self S.init (.head _) (.inl rfl) F.entry_list_init (by decide+kernel)
   (fun s I A' E' Q' h=>chk_init h) ((bA_init (.head _)).mono fun fin s' q=>by obtain⟨v,e,σ',rfl,I'⟩:=q;exact⟨v,e,_,rfl,I'.ofA⟩)) (fun σ' h=>⟨rfl,h⟩))
noncomputable def wt (ts:List (Addr×List Nat×List Nat)) (j:Nat):Int:=((ts[j]?.map fun t=>((t.2.1.length+t.2.2.length:Nat):Int)).getD 0)
theorem len_fn (D:AcT T a) (G:Names T) {bm:Addr}{ob:Obj}(H:GenK T a bm ob) {ts:List (Addr×List Nat×List Nat)}(hx:(x,isA a.C d (ts.map fun t=>.ref t.1))∈σ) (hd:(d,isZ z)∈σ) (ht: ∀t∈ts,(t.1,isT [.str t.2.1,.str t.2.2])∈σ) (hP:(a.Plen,isPt)∈σ)
  (hl: ∀t∈ts,t.2.1.length≤1000000∧t.2.2.length≤1000000) (hz:InLong z) (hfit: ∀j,j<ts.length→InLong (wt ts j)∧InLong (z+preSum (wt ts) (j+1))):
  Fn prog w T (n+1) (.ref a.len) [.ref x] σ (fun r σ'=>r= .int (z+preSum (wt ts) ts.length)∧σ'=σ):=
 meth_intro D.len.fn ["self"] [] (fun us hv=>⟨us,hv,fun kV doc pm an ct s _=>.of_eq (by match us,hv.length with | [_],_=>rfl)⟩) (by decide) (by decide) rfl (by decide) rfl rfl rfl (fun A L g os O Y=>by
  show SE _ _ _ _ [(("self":Str),some (.ref x))] _ _
  refine se_cons (s1_return (v:=.int (z+preSum (wt ts) ts.length)) (fun s I=> ?_) ⟨rfl,rfl⟩)
  refine PyProof.Rows.Call_ (wpAny_mono ((xe_built O rfl H.sum.1 H.sum.2 (by decide)) s I) (fun f s₁ q=> ?_) fun _ _ f=>f) rfl
  obtain⟨rfl,I₁⟩:=q
  refine callWith_builtin rfl (evalArgs_plain (spliced_cons ?_))
  refine wpAny_mono (ev_gen (P:=a.Plen) (ts:=ts.map fun t=>(t.1,.str t.2.1,.str t.2.2)) (F:=fun j y=> ∃t,y= .int (wt ts j) t) (Q:=fun v s₂=> ∃b,v= .ref b∧Inv _ _ σ s₂∧GenA prog w _ σ b ts.length (fun j y=> ∃t,y= .int (wt ts j) t) s₂)
   O D.lk.cls D.lk.lst D.lk.it (pe_local Y (.head _)) (by rw[List.map_map];exact hx) (by
    intro t h
    obtain⟨t',h',rfl⟩:=List.mem_map.mp h
    exact ht t' h') hP rfl H.len H.bi H.bn H.bl H.bc H.bd H.bp rfl rfl (by decide) rfl rfl rfl (by decide) rfl
   (fun code C' A' E' i va vb s₂ m₂ t hi _ _ _ r1 r2 hns ea eb _ gm bm=> ?_) (fun b s₅ I₅ G₅=>⟨b,rfl,I₅,by simpa using G₅⟩) (fun _=>rfl) s₁ I₁) (fun v s₂ q=> ?_) fun _ _ f=>f
  ·rw[List.getElem?_map] at hi
   obtain⟨t',h1,h2⟩:=Option.map_eq_some_iff.mp hi
   subst h2
   have hm:=List.mem_of_getElem? h1
   have e:wt ts i=((t'.2.1.length:Int)+(t'.2.2.length:Int)):=by unfold wt;rw[h1];simp
   rw[e]
   exact elt_len rfl rfl rfl rfl rfl rfl rfl G.len.1 G.len.2 (by have:=(hl t' hm).1;omega) (by have:=(hl t' hm).2;omega) r1 r2 hns ea eb gm bm
  ·obtain⟨b,rfl,I₂,G₂⟩:=q
   refine spliced_cons (attr_x O Y D.lk.cls (.head _) (obtA hx hd) (.head _) D.no I₂ fun u hu=>spliced_nil ?_)
   cases hu
   exact wpAny_mono (c_sumG (I₂.tick _) (G₂.tick (Nat.le_succ _)) hz hfit) (fun u s' q=>q) fun _ _ f=>f)
noncomputable def tx (ts:List (Addr×List Nat×List Nat)) (j:Nat):List Nat:=((ts[j]?.map fun t=>t.2.1++t.2.2).getD [])
theorem str_fn (D:AcT T a) {bm:Addr}{ob:Obj}(H:GenK T a bm ob) {ts:List (Addr×List Nat×List Nat)}(hx:(x,isA a.C d (ts.map fun t=>.ref t.1))∈σ) (ht: ∀t∈ts,(t.1,isT [.str t.2.1,.str t.2.2])∈σ) (hP:(a.Pstr,isPt)∈σ)
  (hl: ∀t∈ts,t.2.1.length≤1000000∧t.2.2.length≤1000000) (hn:ts.length≤1000000) (hok:(((List.range ts.length).map (tx ts)).map (·.length)).sum≤1000000):
  Fn prog w T (n+1) (.ref a.str) [.ref x] σ (fun r σ'=>r= .str (joinS [] ((List.range ts.length).map (tx ts)))∧σ'=σ):=
 meth_intro D.str.fn ["self"] [] (fun us hv=>⟨us,hv,fun kV doc pm an ct s _=>.of_eq (by match us,hv.length with | [_],_=>rfl)⟩) (by decide) (by decide) rfl (by decide) rfl rfl rfl (fun A L g os O Y=>by
  show SE _ _ _ _ [(("self":Str),some (.ref x))] _ _
  obtain⟨te,he⟩:=H.empty
  refine se_cons (s1_return (v:=.str (joinS [] ((List.range ts.length).map (tx ts)))) (fun s I=> ?_) ⟨rfl,rfl⟩)
  refine MethodCall_ (wpAny_mono ((xe_glob O rfl he (by decide)) s I) (fun f s₁ q=> ?_) fun _ _ f=>f) (by rfl)
  obtain⟨rfl,I₁⟩:=q
  refine GM.join (callWith_builtin rfl (evalArgs_plain (spliced_cons ?_)))
  refine wpAny_mono (ev_gen (P:=a.Pstr) (ts:=ts.map fun t=>(t.1,.str t.2.1,.str t.2.2)) (F:=fun j y=> ∃t,y= .str (mk (tx ts j)) t) (Q:=fun v s₂=> ∃b,v= .ref b∧Inv _ _ σ s₂∧GenA prog w _ σ b ts.length (fun j y=> ∃t,y= .str (mk (tx ts j)) t) s₂)
   O D.lk.cls D.lk.lst D.lk.it (pe_local Y (.head _)) (by rw[List.map_map];exact hx) (by
    intro t h
    obtain⟨t',h',rfl⟩:=List.mem_map.mp h
    exact ht t' h') hP rfl H.str H.bi H.bn H.bl H.bc H.bd H.bp rfl rfl (by decide) rfl rfl rfl (by decide) rfl
   (fun code C' A' E' i va vb s₂ m₂ t hi _ _ _ r1 r2 hns ea eb _ gm bm=> ?_) (fun b s₅ I₅ G₅=>⟨b,rfl,I₅,by simpa using G₅⟩) (fun _=>rfl) s₁ I₁) (fun v s₂ q=> ?_) fun _ _ f=>f
  ·rw[List.getElem?_map] at hi
   obtain⟨t',h1,h2⟩:=Option.map_eq_some_iff.mp hi
   subst h2
   have hm:=List.mem_of_getElem? h1
   have e:tx ts i=t'.2.1++t'.2.2:=by unfold tx;rw[h1];rfl
   rw[e]
   exact elt_join (p7:=⟨0,0,0,0⟩) rfl rfl rfl rfl rfl rfl rfl rfl he (by have:=hl t' hm;omega) r1 r2 hns ea eb gm (by rfl)
  ·obtain⟨b,rfl,I₂,G₂⟩:=q
   refine spliced_nil ?_
   exact wpAny_mono (c_joinG I₂ G₂ (by omega) (by simp only[List.length_nil,Nat.mul_zero,Nat.add_zero];omega)) (fun u s' q=>q) fun _ _ f=>f)
noncomputable def isN:PV→Bool | .none=>true | _=>false
theorem cm_isN {X:Cx}{ρ:Ro}(v:PV):Cm prog w X .Is v .none ρ σ (isN v):=fun u u' h1 h2 s I=>by
 cases h2
 refine PySem.is_none ⟨?_,I⟩
 cases h1<;>rfl
theorem reset_tail (D:AcT T a) {A:Around}{L:Addr}{g:Heap}{os:OsState}{b:Addr}{qs:List PV}{σ₂ σ₃:Led}{K:PF→Ro→Led→Prop}(O:XOK T n ⟨A,envX "_Accumulator.reset" (scopeOf (AM 6)) L a.reset a.vreset [],L,L,g,os,(["self","startval"]:List Str)++([]:List Str)⟩) (Y:Lay ⟨A,envX "_Accumulator.reset" (scopeOf (AM 6)) L a.reset a.vreset [],L,L,g,os,(["self","startval"]:List Str)++([]:List Str)⟩)
  (hb:(b,isL qs)∈σ) (hne:b≠x) (hm:Um x (isA a.C d ps) (isA a.C d qs) σ σ₂) (hz:Um d (isZ z) (isZ 0) σ₂ σ₃) (hn:ps.length+qs.length≤16000000) (hk:K .next [(("self":Str),some (.ref x)),(("startval":Str),some (.ref b))] σ₃):
  SE prog w ⟨A,envX "_Accumulator.reset" (scopeOf (AM 6)) L a.reset a.vreset [],L,L,g,os,(["self","startval"]:List Str)++([]:List Str)⟩ ((bodyOf (AM 6)).drop 1) [(("self":Str),some (.ref x)),(("startval":Str),some (.ref b))] σ K:=by
 refine se_cons (s1_setsliceA (d:=d) (x:=x) (lo:=none) (hi:=none) O D.lk.cls D.lk.lst D.lk.noseq D.lk.si (ge_of_pe (pe_local Y mI1)) fun r σ₁ h=> ?_)
 obtain⟨rfl,rfl⟩:=h
 refine⟨b,ps,qs,qs,σ₂,rfl,hb,pe_local Y (.head _),pa_none,pa_none,hm,hn,by omega,?_,allA⟩
 refine se_cons (s1_setattr O D.lk.cls (ge_of_pe pe_int) D.no (fun v σ' h=> ?_))
 obtain⟨rfl,rfl⟩:=h
 exact⟨x,d,_,_,_,_,pe_local Y (.head _),obtA hm.mem' hz.mem,.old .here,hz,by simp,by simp,se_nil hk⟩
theorem reset1_fn (D:AcT T a) {b:Addr}{qs:List PV}{σ₂ σ₃:Led}(hb:(b,isL qs)∈σ) (hne:b≠x) (hm:Um x (isA a.C d ps) (isA a.C d qs) σ σ₂) (hz:Um d (isZ z) (isZ 0) σ₂ σ₃) (hn:ps.length+qs.length≤16000000):
  Fn prog w T (n+1) (.ref a.reset) [.ref x,.ref b] σ (fun r σ'=>r= .none∧σ'=σ₃):=
 meth_intro D.reset.fn ["self","startval"] [] (fun us hv=>⟨us,hv,fun kV doc pm an ct s XK=>by
  obtain⟨o,k,e1,e2⟩:=D.vres
  match us,hv.length with | [_,_],_=>exact binds_K XK rfl e1 e2 rfl rfl⟩) (by decide) (by decide) rfl (by decide) rfl rfl rfl (fun A L g os O Y=>by
  show SE _ _ _ _ [(("self":Str),some (.ref x)),(("startval":Str),some (.ref b))] _ _
  refine se_cons (s1_if (be_cmp (pe_local Y mI1) pe_none (cm_isN _)) (fun h=>by cases h) (fun h=>se_nil ?_))
  exact reset_tail D O Y hb hne hm hz hn ⟨rfl,rfl⟩)
theorem reset0_fn (D:AcT T a) {σ₂ σ₃:Led}(hm:Um x (isA a.C d ps) (isA a.C d []) σ σ₂) (hz:Um d (isZ z) (isZ 0) σ₂ σ₃) (hn:ps.length≤16000000):
  Fn prog w T (n+1) (.ref a.reset) [.ref x] σ (fun r σ'=>r= .none∧ ∃b,σ'=(b,isL [])::σ₃):=
 meth_intro D.reset.fn (args':=[.ref x,.none]) ["self","startval"] [] (fun us hv=>⟨us++[.none],hv.append (.cons .none .nil),fun kV doc pm an ct s XK=>by
  obtain⟨o,k,e1,e2⟩:=D.vres
  match us,hv.length with | [_],_=>exact binds_K XK rfl e1 e2 rfl rfl⟩) (by decide) (by decide) rfl (by decide) rfl rfl rfl (fun A L g os O Y=>by
  show SE _ _ _ _ [(("self":Str),some (.ref x)),(("startval":Str),some .none)] _ _
  refine se_cons (s1_if (be_cmp (pe_local Y mI1) pe_none (cm_isN _)) (fun h=> ?_) (fun h=>by cases h))
  refine se_cons (s1_assign_new Y (P:=isL []) (ρf:=fun b=>[(("self":Str),some (.ref x)),(("startval":Str),some (.ref b))]) (net_of_vx (ge_list rfl spg_nil (fun vs σ' h=>by rw[h.1];simp)) fun v σ' h=>by
   obtain⟨b,vs,σ₁,rfl,rfl,rfl,rfl⟩:=h
   exact⟨b,rfl,.refl _⟩) (fun b=>.there .here) (fun b hb=>se_nil ?_))
  exact reset_tail D O Y (.head _) (fun e=>hb (e ▸ List.mem_map_of_mem (f:=(·.1)) hm.mem)) (.there hm) (.there hz) (by simpa using hn) ⟨rfl,b,rfl⟩)
theorem popf_fn (D:AcT T a) {i:Nat}{σ₂:Led}(hi:i≤ps.length) (hm:Um x (isA a.C d ps) (isA a.C d (ps.take i)) σ σ₂) (hn:ps.length≤16000000):
  Fn prog w T (n+1) (.ref a.popf) [.ref x,.int i] σ (fun r σ'=> ∃b c,r= .ref b∧σ'=(c,isL [])::(b,isL (ps.drop i))::σ₂):=
 meth_intro D.popf.fn ["self","i"] ["popped"] (fun us hv=>⟨us,hv,fun kV doc pm an ct s XK=>by
  obtain⟨o,k,u,e1,e2⟩:=D.vpop
  match us,hv.length with | [_,_],_=>exact binds_K XK rfl e1 e2 rfl rfl⟩) (by decide) (by decide) rfl (by decide) rfl rfl rfl (fun A L g os O Y=>by
  show SE _ _ _ _ [(("self":Str),some (.ref x)),(("i":Str),some (.int i)),(("popped":Str),none)] _ _
  have hi': ∀ρ σ pos,(("i":Str),some (PV.int i))∈ρ→PaE prog w _ (some (.Name ("i":Str) pos)) ρ σ (some (i:Int)):=fun ρ σ pos h=>pa_some (pe_local Y h)
  refine se_cons (s1_assign_new Y (ρf:=fun b=>[(("self":Str),some (.ref x)),(("i":Str),some (.int i)),(("popped":Str),some (.ref b))]) (ne_sliceA O D.lk.cls D.lk.lst D.lk.noseq D.lk.gi (pe_local Y (.head _)) hm.mem (hi' _ _ _ mI1) pa_none (by omega)) (fun b=>.there (.there .here)) (fun b hb=> ?_))
  rw[sl_from]
  refine se_cons (s1_setsliceA (d:=d) (x:=x) (lo:=some (i:Int)) (hi:=none) O D.lk.cls D.lk.lst D.lk.noseq D.lk.si (ge_list rfl spg_nil (fun vs σ' h=>by rw[h.1];simp)) fun r σ₁ h=> ?_)
  obtain⟨c,vs,σ₃,rfl,rfl,rfl,rfl⟩:=h
  refine⟨c,ps,[],ps.take i,_,rfl,.head _,pe_local Y (.head _),hi' _ _ _ mI1,pa_none,.there (.there hm),by simp;omega,by simp;omega,?_,cutA hi rfl rfl⟩
  exact se_cons (s1_return (pe_local Y mI2) ⟨b,c,rfl,rfl⟩))
noncomputable def wts (ts:List (Addr×List Nat×List Nat)):Int:=preSum (wt ts) ts.length
noncomputable def txs (ts:List (Addr×List Nat×List Nat)):List Nat:=joinS [] ((List.range ts.length).map (tx ts))
theorem only_fn (D:AcT T a) (G:Names T) (Gs:T.mg "str"=none∧T.mb "str"=some (.type "str")) (hstr:isFn T.K (.ref a.str)=true) {bm:Addr}{ob:Obj}(H:GenK T a bm ob) {ts:List (Addr×List Nat×List Nat)}(hx:(x,isA a.C d (ts.map fun t=>.ref t.1))∈σ) (hd:(d,isZ z)∈σ) (ht: ∀t∈ts,(t.1,isT [.str t.2.1,.str t.2.2])∈σ) (hP:(a.Plen,isPt)∈σ) (hQ:(a.Pstr,isPt)∈σ)
  (hl: ∀t∈ts,t.2.1.length≤1000000∧t.2.2.length≤1000000) (hz:InLong z) (hfit: ∀j,j<ts.length→InLong (wt ts j)∧InLong (z+preSum (wt ts) (j+1))) (hn:ts.length≤1000000) (hok:(((List.range ts.length).map (tx ts)).map (·.length)).sum≤1000000) (h0:0≤z+wts ts) (h1:z+wts ts<2^63):
  Fn prog w T (n+4) (.ref a.only) [.ref x] σ (fun r σ'=>r= .bool (z==0&&(!(z+wts ts != 0)||Txt.isspace (mk (txs ts))))∧σ'=σ):=
 meth_intro D.only.fn ["self"] [] (fun us hv=>⟨us,hv,fun kV doc pm an ct s _=>.of_eq (by match us,hv.length with | [_],_=>rfl)⟩) (by decide) (by decide) rfl (by decide) rfl rfl rfl (fun A L g os O Y=>by
  show SE _ _ _ _ [(("self":Str),some (.ref x))] _ _
  have O2:=O.le (show 2≤n+3 by omega)
  have O3:=O.le (show 3≤n+3 by omega)
  refine se_cons (s1_return (pe_and2 (pe_cmp (pe_attr O D.lk.cls (pe_local Y (.head _)) (obtA hx hd) (.head _) D.no) pe_int cm_eq) (fun _=>pe_or2 (pe_not (pe_local Y (.head _)) (tr_lenO (n:=1) O2 rfl (obtA hx hd) D.len.fnd D.lk.nb D.len.typ h0 h1 (len_fn D G H hx hd ht hP hl hz hfit))) (fun _=> ?_))) ⟨rfl,rfl⟩)
  refine pe_meth (pe_call_t (xe_built O rfl Gs.1 Gs.2) (ae1 (pe_local Y (.head _))) (c_strO (n:=1) O3 rfl (obtA hx hd) D.str.fnd hstr (str_fn D H hx ht hQ hl hn hok))) (m_of (fun x t s pl Q h=>GM.isspace h) _) ae0 c_isspace)
end
end Mine
end
section
set_option maxRecDepth 100000
set_option maxHeartbeats 4000000
open PySem PySem.W PyProof.Rows PySem.Calls
namespace Mine
noncomputable def Fit (σ'' σ':Led):Prop:= ∃l:Led,l.Perm σ''∧l.Sublist σ'
theorem Fit.refl (σ:Led):Fit σ σ:=⟨σ,.refl _,.refl _⟩
theorem Fit.of_sub {σ'' σ':Led}(h:σ''.Sublist σ'):Fit σ'' σ':=⟨σ'',.refl _,h⟩
theorem Fit.of_perm {σ'' σ':Led}(h:σ'.Perm σ''):Fit σ'' σ':=⟨σ',h,.refl _⟩
section
variable {prog:Program}{w:World}{X:Cx}{ρ:Ro}{σ σ' σ'':Led}{T:Tops}{n:Nat}
theorem Inv.fit {s:Shared}(I:Inv X ρ σ' s) (h:Fit σ'' σ'):Inv X ρ σ'' s:=by
 obtain⟨l,hp,hs⟩:=h
 exact(I.sub hs).perm hp
theorem Fn.fit {f:Value}{args:List PV}{R R':PV→Led→Prop}(h:Fn prog w T n f args σ R) (k: ∀v σ',R v σ'→ ∃σ'',Fit σ'' σ'∧R' v σ''):Fn prog w T n f args σ R':=fun X ρ s O e I us hv=>
 codeAny_mono (h X ρ s O e I us hv) fun r s' q=>by
  obtain⟨u,pv,σ',rfl,hR,hu,I'⟩:=q
  obtain⟨σ'',hs,hR'⟩:=k _ _ hR
  exact⟨u,pv,σ'',rfl,hR',hu,I'.fit hs⟩
theorem Fn.from {f:Value}{args:List PV}{R:PV→Led→Prop}(h:Fn prog w T n f args σ' R) (k:Fit σ' σ):Fn prog w T n f args σ R:=fun X ρ s O e I us hv=>h X ρ s O e (I.fit k) us hv
end
structure FmA where
 y:Addr
 dy:Addr
 l:Addr
 x:Addr
 d:Addr
 Plen:Addr
 Pstr:Addr
 CF:Addr
 C:Addr
noncomputable def fmL (F:FmA) (maxlen:Int) (split:List Nat) (lines:List (List Nat)) (ts:List (Addr×List Nat×List Nat)) (z:Int):Led:=
 (F.y,isO F.CF F.dy plainD)::
 (F.dy,isNd [(("_current_line":Str),some (.ref F.x)),(("_lines":Str),some (.ref F.l)),(("_splitchars":Str),some (.str split)),(("_continuation_ws_len":Str),some (.int 1)),(("_continuation_ws":Str),some (.str [32])),(("_maxlen":Str),some (.int maxlen))])::
 (F.l,isL (pvS lines))::(F.x,isA F.C F.d (ts.map fun t=>.ref t.1))::(F.d,isNd [(("_initial_size":Str),some (.int z))])::(F.Plen,isPt)::(F.Pstr,isPt)::ts.map fun t=>(t.1,isT [.str t.2.1,.str t.2.2])
end Mine
end
section
set_option maxRecDepth 100000
set_option maxHeartbeats 4000000
open PySem PySem.W PyProof.Rows PySem.Calls
namespace Mine
section
variable {prog:Program}{w:World}{X:Cx}{ρ:Ro}{σ σ' σ'':Led}{T:Tops}{n:Nat}{K:PF→Ro→Led→Prop}
theorem SE.fit {l:List Stmt}(k:Fit σ' σ) (h:SE prog w X l ρ σ' K):SE prog w X l ρ σ K:=fun s I=>h s (I.fit k)
theorem Fit.cons {a:Led}{b:Led}(x:Addr×(Obj→Prop)) (h:Fit a b):Fit (x::a) (x::b):=by
 obtain⟨l,p,s⟩:=h
 exact⟨x::l,p.cons x,s.cons₂ x⟩
theorem Fit.skip {a:Led}{b:Led}(x:Addr×(Obj→Prop)) (h:Fit a b):Fit a (x::b):=by
 obtain⟨l,p,s⟩:=h
 exact⟨l,p,s.cons x⟩
end
end Mine
end
section
set_option maxRecDepth 100000
set_option maxHeartbeats 4000000
open PySem PySem.W PyProof.Rows PySem.Calls
namespace Mine
structure FmAds where
 C:Addr
 cd:ClassData
 init:Addr
 str:Addr
 newline:Addr
 chunk:Addr
 vinit:Value
 vstr:Value
 vnewline:Value
 vchunk:Value
structure FmT (T:Tops) (f:FmAds) (a:AcAds):Prop where
 cls:ClsK T.K f.C f.cd
 no: ∀y∈([("_maxlen":Str),"_continuation_ws","_continuation_ws_len","_splitchars","_lines","_current_line"]:List Str),findIn T.K (.ref f.C) y=some none
 init:Mt T f.C "__init__" "_ValueFormatter.__init__" (FM 0) f.init [] f.vinit .none
 str:Mt T f.C "_str" "_ValueFormatter._str" (FM 1) f.str [] f.vstr .none
 newline:Mt T f.C "newline" "_ValueFormatter.newline" (FM 3) f.newline [] f.vnewline .none
 chunk:Mt T f.C "_append_chunk" "_ValueFormatter._append_chunk" (FM 8) f.chunk [] f.vchunk .none
 acc:T.mg "_Accumulator"=some (.ref a.C)
 sl:(T.K.lookup a.C).map (fun o=>(o.slots.toList[4]?).join)=some (some (.builtin "list.__new__"))
 del:a.cd.hasDel=false
 call:specialIn T.K (.ref a.C) "__call__"=some (some (.builtin "type.__call__"))
 inst:instIn T.K (.ref a.C) (.type "type")=some true
noncomputable abbrev Pr:=List Nat×List Nat
noncomputable def wS (l:List Pr):Nat:=(l.map fun t=>t.1.length+t.2.length).sum
noncomputable def tS (l:List Pr):List Nat:=(l.map fun t=>t.1++t.2).flatten
theorem txs_eq (ts:List (Addr×Pr)):txs ts=tS (ts.map (·.2)):=by
 unfold txs tS
 rw[joinS_nil]
 congr 1
 apply List.ext_getElem?
 intro j
 simp only[List.getElem?_map,List.map_map]
 by_cases hj:j<ts.length
 ·simp[hj,tx]
 ·simp[Nat.not_lt.mp hj]
theorem wt_eq (ts:List (Addr×Pr)) (j:Nat):preSum (wt ts) j=(wS ((ts.take j).map (·.2)):Nat):=by
 have e:wt ts=fun i=>(ts.map fun t=>((t.2.1.length+t.2.2.length:Nat):Int)).getD i 0:=by
  funext i
  unfold wt
  rw[List.getD_eq_getElem?_getD,List.getElem?_map]
 rw[e,preSum_getD,←List.map_take]
 unfold wS
 rw[List.map_map]
 generalize ts.take j=l
 induction l with
 | nil=>rfl
 | cons t l ih=>simp only[List.map_cons,List.sum_cons,Function.comp_apply] at ih ⊢;rw[ih];omega
theorem wts_eq (ts:List (Addr×Pr)):wts ts=(wS (ts.map (·.2)):Nat):=by
 unfold wts
 rw[wt_eq,List.take_length]
noncomputable def nlTs (ts:List Pr):List Pr:=match ts.getLast? with
 | none=>[([],[])]
 | some p=>if p.1==[32]&&p.2==[] then ts.dropLast else ts
section
variable {prog:Program}{w:World}{T:Tops}{n:Nat}{a:AcAds}{f:FmAds}{ρa:Ro}{x d y dy:Addr}{ps:List PV}{σ σ':Led}{z:Int}{R:Addr→Led→Prop}
theorem finit_fn (E:FmT T f a) (D:AcT T a) (S:SupK prog T a) (G:Names T) {hl ml:Int}{sp:List Nat}:Fn prog w T (n+3) (.ref f.init) [.ref y,.int hl,.int ml,.str [32],.str sp] ((y,isO f.C dy plainD)::(dy,isNd [])::σ)
  (fun r σ'=>r= .none∧ ∃l x d,σ'=(x,isA a.C d [])::(d,isZ hl)::(l,isL [])::(y,isO f.C dy plainD)::(dy,isNd [(("_current_line":Str),some (.ref x)),(("_lines":Str),some (.ref l)),(("_splitchars":Str),some (.str sp)),(("_continuation_ws_len":Str),some (.int 1)),(("_continuation_ws":Str),some (.str [32])),(("_maxlen":Str),some (.int ml))])::σ):=
 meth_intro E.init.fn ["self","headerlen","maxlen","continuation_ws","splitchars"] [] (fun us hv=>⟨us,hv,fun kV doc pm an ct s _=>.of_eq (by match us,hv.length with | [_,_,_,_,_],_=>rfl)⟩) (by decide) (by decide) rfl (by decide) rfl rfl rfl (fun A L g os O Y=>by
  show SE _ _ _ _ [(("self":Str),some (.ref y)),(("headerlen":Str),some (.int hl)),(("maxlen":Str),some (.int ml)),(("continuation_ws":Str),some (.str [32])),(("splitchars":Str),some (.str sp))] _ _
  refine se_cons (s1_setattr O E.cls (ge_of_pe (pe_local Y mI2)) (E.no _ (by simp)) (fun v σ' h=> ?_))
  obtain⟨rfl,rfl⟩:=h
  refine⟨y,dy,_,[],_,_,pe_local Y (.head _),obtO (.head _) mI1,.new (by simp),.there .here,by simp,by simp,?_⟩
  refine se_cons (s1_setattr O E.cls (ge_of_pe (pe_local Y mI3)) (E.no _ (by simp)) (fun v σ' h=> ?_))
  obtain⟨rfl,rfl⟩:=h
  refine⟨y,dy,_,_,_,_,pe_local Y (.head _),obtO (.head _) mI1,.new (by show (_:Str)∉[("_maxlen":Str)];decide),.there .here,by simp,by simp,?_⟩
  refine se_cons (s1_setattr O E.cls (ge_of_pe (pe_call_b (xe_built O rfl G.len.1 G.len.2) (ae1 (pe_local Y mI3)) (c_len_str (by decide)))) (E.no _ (by simp)) (fun v σ' h=> ?_))
  obtain⟨rfl,rfl⟩:=h
  refine⟨y,dy,_,_,_,_,pe_local Y (.head _),obtO (.head _) mI1,.new (by show (_:Str)∉[("_continuation_ws":Str),"_maxlen"];decide),.there .here,by show List.Nodup [("_continuation_ws":Str),"_maxlen"];decide,by simp,?_⟩
  refine se_cons (s1_setattr O E.cls (ge_of_pe (pe_local Y mI4)) (E.no _ (by simp)) (fun v σ' h=> ?_))
  obtain⟨rfl,rfl⟩:=h
  refine⟨y,dy,_,_,_,_,pe_local Y (.head _),obtO (.head _) mI1,.new (by show (_:Str)∉[("_continuation_ws_len":Str),"_continuation_ws","_maxlen"];decide),.there .here,by show List.Nodup [("_continuation_ws_len":Str),"_continuation_ws","_maxlen"];decide,by simp,?_⟩
  refine se_cons (s1_setattr O E.cls (ge_list rfl spg_nil (fun vs σ' h=>by rw[h.1];simp)) (E.no _ (by simp)) (fun v σ' h=> ?_))
  obtain⟨l,vs,σ₁,rfl,rfl,rfl,rfl⟩:=h
  refine⟨y,dy,_,_,_,_,pe_local Y (.head _),obtO mI1 mI2,.new (by show (_:Str)∉[("_splitchars":Str),"_continuation_ws_len","_continuation_ws","_maxlen"];decide),.there (.there .here),by show List.Nodup [("_splitchars":Str),"_continuation_ws_len","_continuation_ws","_maxlen"];decide,by simp,?_⟩
  refine se_cons (s1_setattr O E.cls (ge_newL (n:=n+1) O rfl D.lk.cls (xe_glob O rfl E.acc (by decide)) E.sl E.del D.lk.self D.lk.lst E.call E.inst D.init.fnd D.init.typ (pe_local Y mI1) (fun x d=>(init_fn (n:=n) D S (x:=x) (d:=d)).drop fun v σ' h=>⟨σ',.refl _,h⟩)) (E.no _ (by simp)) (fun v σ' h=> ?_))
  obtain⟨x,d,rfl,rfl⟩:=h
  exact⟨y,dy,_,_,_,_,pe_local Y (.head _),obtO mI3 mI4,.new (by show (_:Str)∉[("_lines":Str),"_splitchars","_continuation_ws_len","_continuation_ws","_maxlen"];decide),.there (.there (.there (.there .here))),by show List.Nodup [("_lines":Str),"_splitchars","_continuation_ws_len","_continuation_ws","_maxlen"];decide,by simp,se_nil ⟨rfl,l,x,d,rfl⟩⟩)
theorem pop_fm (D:AcT T a) (S:SupK prog T a) {F:FmA}{ml:Int}{sp:List Nat}{lines:List (List Nat)}{ts:List (Addr×Pr)}{z:Int}{rest:Led}(hC:F.C=a.C) (hn:ts.length≤1000):
  Fn prog w T (n+2) (.ref a.pop) [.ref F.x] (fmL F ml sp lines ts z++rest) (fun v σ'=>(ts=[]∧ ∃t,v= .ref t∧σ'=(t,isT [.str [],.str []])::(fmL F ml sp lines [] z++rest))∨ ∃i p,ts=i++[p]∧v= .ref p.1∧Fit ((p.1,isT [.str p.2.1,.str p.2.2])::(fmL F ml sp lines i z++rest)) σ'):=by
 refine pop_fn D S (d:=F.d) (z:=z) (ps:=ts.map fun t=>.ref t.1) (by rw[←hC];exact .tail _ mI2) mI4 (by simp;omega) (fun qs p e=> ?_) (fun e t=>.inl ⟨by simpa using e,t,rfl,by rw[show ts=[] by simpa using e]⟩)
 obtain⟨i,l,rfl,hi,hl⟩:=List.map_eq_append_iff.mp e
 obtain⟨p',rfl,rfl⟩: ∃p',l=[p']∧p= .ref p'.1:=by
  match l,hl with
  | [p'],hl=>exact⟨p',rfl,by simpa using hl.symm⟩
 subst hi
 rw[←hC]
 have e:fmL F ml sp lines (i++[p']) z++rest=(fmL F ml sp lines (i++[p']) z).take 3++(F.x,isA F.C F.d (i.map (fun t=>PV.ref t.1)++[.ref p'.1]))::(F.d,isNd [(("_initial_size":Str),some (.int z))])::(F.Plen,isPt)::(F.Pstr,isPt)::(i.map (fun t=>(t.1,isT [.str t.2.1,.str t.2.2]))++(p'.1,isT [.str p'.2.1,.str p'.2.2])::rest):=by simp[fmL]
 rw[e]
 refine⟨_,.there (.there (.there .here)),.inr ⟨i,p',rfl,rfl,?_⟩⟩
 refine .of_perm ?_
 exact(List.perm_middle (l₁:=(F.y,isO F.CF F.dy plainD)::(F.dy,_)::(F.l,isL (pvS lines))::(F.x,isA F.C F.d (i.map (fun t=>PV.ref t.1)))::(F.d,isNd [(("_initial_size":Str),some (.int z))])::(F.Plen,isPt)::(F.Pstr,isPt)::i.map (fun t=>(t.1,isT [.str t.2.1,.str t.2.2]))))
theorem push_fm (D:AcT T a) {F:FmA}{ml:Int}{sp:List Nat}{lines:List (List Nat)}{ts:List (Addr×Pr)}{z:Int}{rest:Led}{u v:List Nat}(hC:F.C=a.C) (hn:ts.length≤1000):
  Fn prog w T (n+1) (.ref a.push) [.ref F.x,.str u,.str v] (fmL F ml sp lines ts z++rest) (fun r σ'=>r= .none∧ ∃t,Fit (fmL F ml sp lines (ts++[(t,u,v)]) z++rest) σ'):=by
 have hm: ∀t,∃σ₂,Um F.x (isA a.C F.d (ts.map fun t=>.ref t.1)) (isA a.C F.d ((ts.map fun t=>.ref t.1)++[.ref t])) ((t,isT [.str u,.str v])::(fmL F ml sp lines ts z++rest)) σ₂∧Fit (fmL F ml sp lines (ts++[(t,u,v)]) z++rest) σ₂:=fun t=>by
  rw[←hC]
  refine⟨_,.there (.there (.there (.there .here))),.of_perm ?_⟩
  have e:fmL F ml sp lines (ts++[(t,u,v)]) z++rest=(fmL F ml sp lines ts z).take 3++(F.x,isA F.C F.d ((ts.map fun t=>PV.ref t.1)++[.ref t]))::(F.d,isNd [(("_initial_size":Str),some (.int z))])::(F.Plen,isPt)::(F.Pstr,isPt)::(ts.map (fun t=>(t.1,isT [.str t.2.1,.str t.2.2]))++(t,isT [.str u,.str v])::rest):=by simp[fmL]
  rw[e]
  exact(List.perm_middle (l₁:=(F.y,isO F.CF F.dy plainD)::(F.dy,_)::(F.l,isL (pvS lines))::(F.x,isA F.C F.d ((ts.map fun t=>PV.ref t.1)++[.ref t]))::(F.d,isNd [(("_initial_size":Str),some (.int z))])::(F.Plen,isPt)::(F.Pstr,isPt)::ts.map (fun t=>(t.1,isT [.str t.2.1,.str t.2.2])))).symm
 exact push_fn D (z:=z) (by rw[←hC];exact .tail _ mI2) hm mI4 (by simp;omega)
structure Small (l:List Pr) (z:Nat):Prop where
 z:z≤1000000
 w:wS l≤1000000
 n:l.length≤1000
theorem wS_mem {l:List Pr}{t:Pr}(h:t∈l):t.1.length+t.2.length≤wS l:=by
 induction l with
 | nil=>cases h
 | cons x l ih=>
  unfold wS at ih ⊢
  simp only[List.map_cons,List.sum_cons]
  rcases List.mem_cons.mp h with rfl | h
  ·omega
  ·have:=ih h;omega
theorem wS_take (l:List Pr) (k:Nat):wS (l.take k)≤wS l:=by
 induction l generalizing k with
 | nil=>simp[wS]
 | cons x l ih=>
  cases k with
  | zero=>simp[wS]
  | succ k=>
   have:=ih k
   unfold wS at this ⊢
   simp only[List.take_succ_cons,List.map_cons,List.sum_cons]
   omega
theorem tS_length (l:List Pr):(tS l).length=wS l:=by
 induction l with
 | nil=>rfl
 | cons x l ih=>
  unfold wS tS at ih ⊢
  simp only[List.map_cons,List.sum_cons,List.flatten_cons,List.length_append,ih]
theorem tx_sum (ts:List (Addr×Pr)):(((List.range ts.length).map (tx ts)).map (·.length)).sum=wS (ts.map (·.2)):=by
 have e:=txs_eq ts
 unfold txs at e
 rw[joinS_nil] at e
 have:=congrArg List.length e
 rw[List.length_flatten,tS_length] at this
 exact this
section
variable {F:FmA}{ml:Int}{sp:List Nat}{lines:List (List Nat)}{ts:List (Addr×Pr)}{z:Nat}{rest:Led}
theorem fm_pairs: ∀t∈ts,(t.1,isT [.str t.2.1,.str t.2.2])∈fmL F ml sp lines ts z++rest:=fun t ht=>by
 refine List.mem_append_left _ ?_
 exact .tail _ (.tail _ (.tail _ (.tail _ (.tail _ (.tail _ (.tail _ (List.mem_map_of_mem (f:=fun t:Addr×Pr=>(t.1,isT [.str t.2.1,.str t.2.2])) ht)))))))
theorem len_fm (D:AcT T a) (G:Names T) {bm:Addr}{ob:Obj}(H:GenK T a bm ob) (hC:F.C=a.C) (hP:F.Plen=a.Plen) (hs:Small (ts.map (·.2)) z):
  Fn prog w T (n+1) (.ref a.len) [.ref F.x] (fmL F ml sp lines ts z++rest) (fun r σ'=>r= .int ((z+wS (ts.map (·.2)):Nat):Int)∧σ'=fmL F ml sp lines ts z++rest):=by
 have h:=len_fn (n:=n) (prog:=prog) (w:=w) (d:=F.d) (z:=(z:Int)) (x:=F.x) (σ:=fmL F ml sp lines ts z++rest) D G H (ts:=ts) (by rw[←hC];exact .tail _ mI2) mI4 fm_pairs (by rw[←hP];exact .tail _ mI4)
  (fun t ht=>by have:=wS_mem (List.mem_map_of_mem (f:=fun t:Addr×Pr=>t.2) ht);have:=hs.w;omega) (by have:=hs.z;unfold InLong;omega) (fun j hj=>by
   have h1:=hs.w
   have h2:=hs.z
   constructor
   ·have:ts[j]? =some ts[j]:=List.getElem?_eq_getElem hj
    have h3:=wS_mem (List.mem_map_of_mem (f:=fun t:Addr×Pr=>t.2) (List.getElem_mem hj))
    unfold wt;rw[this]
    simp only[Option.map_some,Option.getD_some]
    unfold InLong;omega
   ·rw[wt_eq,List.map_take]
    have:=wS_take (ts.map (·.2)) (j+1)
    unfold InLong;omega)
 refine h.drop fun v σ' q=>⟨σ',.refl _,q.1.trans ?_,q.2⟩
 have e:=wts_eq ts
 unfold wts at e
 rw[e];rfl
theorem str_fm (D:AcT T a) {bm:Addr}{ob:Obj}(H:GenK T a bm ob) (hC:F.C=a.C) (hP:F.Pstr=a.Pstr) (hs:Small (ts.map (·.2)) z):
  Fn prog w T (n+1) (.ref a.str) [.ref F.x] (fmL F ml sp lines ts z++rest) (fun r σ'=>r= .str (tS (ts.map (·.2)))∧σ'=fmL F ml sp lines ts z++rest):=by
 have h:=str_fn (n:=n) (prog:=prog) (w:=w) (d:=F.d) (x:=F.x) (σ:=fmL F ml sp lines ts z++rest) D H (ts:=ts) (by rw[←hC];exact .tail _ mI2) fm_pairs (by rw[←hP];exact .tail _ mI5)
  (fun t ht=>by have:=wS_mem (List.mem_map_of_mem (f:=fun t:Addr×Pr=>t.2) ht);have:=hs.w;omega) (by have:=hs.n;simp at this;omega) (by rw[tx_sum];exact hs.w)
 refine h.drop fun v σ' q=>⟨σ',.refl _,q.1.trans ?_,q.2⟩
 have e:=txs_eq ts
 unfold txs at e
 rw[e]
theorem only_fm (D:AcT T a) (G:Names T) (Gs:T.mg "str"=none∧T.mb "str"=some (.type "str")) (hstr:isFn T.K (.ref a.str)=true) {bm:Addr}{ob:Obj}(H:GenK T a bm ob) (hC:F.C=a.C) (hP:F.Plen=a.Plen) (hQ:F.Pstr=a.Pstr) (hs:Small (ts.map (·.2)) z):
  Fn prog w T (n+4) (.ref a.only) [.ref F.x] (fmL F ml sp lines ts z++rest) (fun r σ'=>r= .bool (z==0&&(z+wS (ts.map (·.2))==0||Txt.isspace (mk (tS (ts.map (·.2))))))∧σ'=fmL F ml sp lines ts z++rest):=by
 have h1:=hs.w
 have h2:=hs.z
 have h:=only_fn (n:=n) (prog:=prog) (w:=w) (d:=F.d) (z:=(z:Int)) (x:=F.x) (σ:=fmL F ml sp lines ts z++rest) D G Gs hstr H (ts:=ts) (by rw[←hC];exact .tail _ mI2) mI4 fm_pairs (by rw[←hP];exact .tail _ mI4) (by rw[←hQ];exact .tail _ mI5)
  (fun t ht=>by have:=wS_mem (List.mem_map_of_mem (f:=fun t:Addr×Pr=>t.2) ht);omega) (by unfold InLong;omega) (fun j hj=>by
   constructor
   ·have:ts[j]? =some ts[j]:=List.getElem?_eq_getElem hj
    have h3:=wS_mem (List.mem_map_of_mem (f:=fun t:Addr×Pr=>t.2) (List.getElem_mem hj))
    unfold wt;rw[this]
    simp only[Option.map_some,Option.getD_some]
    unfold InLong;omega
   ·rw[wt_eq,List.map_take]
    have:=wS_take (ts.map (·.2)) (j+1)
    unfold InLong;omega) (by have:=hs.n;simp at this;omega) (by rw[tx_sum];exact h1) (by rw[wts_eq];omega) (by rw[wts_eq];omega)
 refine h.drop fun v σ' q=>⟨σ',.refl _,q.1.trans ?_,q.2⟩
 rw[wts_eq,txs_eq]
 have e1:((z:Int)==0)=(z==0):=by rw[Bool.eq_iff_iff];simp
 have e2:(!((z:Int)+(wS (ts.map (·.2)):Nat) != 0))=(z+wS (ts.map (·.2))==0):=by rw[Bool.eq_iff_iff];simp;omega
 rw[e1,e2]
theorem reset0_fm (D:AcT T a) (hC:F.C=a.C) (hn:ts.length≤1000):Fn prog w T (n+1) (.ref a.reset) [.ref F.x] (fmL F ml sp lines ts z++rest) (fun r σ'=>r= .none∧Fit (fmL F ml sp lines [] 0++rest) σ'):=by
 have h:=reset0_fn (n:=n) (prog:=prog) (w:=w) (d:=F.d) (z:=(z:Int)) (x:=F.x) (ps:=ts.map fun t=>.ref t.1) (σ:=fmL F ml sp lines ts z++rest) D (by rw[←hC];exact .there (.there (.there .here))) (.there (.there (.there (.there .here)))) (by simp;omega)
 refine h.drop fun v σ' q=>⟨σ',.refl _,q.1,?_⟩
 obtain⟨b,rfl⟩:=q.2
 refine Fit.skip _ (.of_sub ?_)
 exact .cons₂ _ (.cons₂ _ (.cons₂ _ (.cons₂ _ (.cons₂ _ (.cons₂ _ (.cons₂ _ (List.sublist_append_right _ _)))))))
end
end
end Mine
end
section
set_option maxRecDepth 100000
set_option maxHeartbeats 1000000
open PySem PySem.W PyProof.Rows PySem.Calls
namespace Mine
structure StarK (K:Frag) (f:Addr) (name:Str):Prop where
 get:specialIn K (.ref f) "__get__"=some (some (.builtin "function.__get__"))
 tk:takesIn K (.ref f)=some false
 fn:isFn K (.ref f)=true
 fnI:fnIn K f=true
 cp:copiedNames.contains name=false
noncomputable def isMo (f x:Addr):Obj→Prop:=fun o=>o=methodObj (.ref f) (.ref x)
section
variable {prog:Program}{w:World}{X:Cx}{ρ ρ' ρ₁:Ro}{σ σ' σ₁:Led}{T:Tops}{n:Nat}{R R':PV→Led→Prop}{K:PF→Ro→Led→Prop}
variable {x C d:Addr}{cd:ClassData}{D:Data→Prop}{ρa:Ro}{ps:List PV}
theorem ge_ownS (O:XOK T n X) (hFL:X.FL=X.L) (Y:ClsK T.K C cd) {o e:Expr}{name:Str}{f t:Addr}{apos p pos:Pos}{k:Nat}(SK:StarK T.K f name)
  (ho:PE prog w X o ρ σ (.ref x)) (B:Obt X σ x C d D ρa) (hna:name∉ρa.map (·.1)) (hfnd:findIn T.K (.ref C) name=some (some (.ref f)))
  (he: ∀q,PE prog w X e ρ ((q,isMo f x)::σ) (.ref t)) (hm:At X σ t (isT ps)) (hn:ps.length≤16777216) (hk:k≤n) (hc: ∀q,Fn prog w T k (.ref f) (.ref x::ps) ((q,isMo f x)::σ) R)
  (heq:eval (.Call (.Attribute o name apos) [.Starred e p] [] pos) X.env=(do let ov ←eval o X.env;standAt apos.atName;let g ←holding [ov] (do pure (←getAttr ov name true,([]:List Value)));callWith pos g.1 g.2 (backTo pos (starEach [.Starred e p] X.env)) []):=by rfl)
  (hst:starEach [.Starred e p] X.env=[(true,eval e X.env)]:=by rfl):GE prog w X (.Call (.Attribute o name apos) [.Starred e p] [] pos) ρ σ R:=fun s I=>by
 rw[heq]
 refine wpAny_bind (wpAny_mono (ho s I) (fun u s₁ q=> ?_) fun _ _ f=>f)
 obtain⟨hu,I₁⟩:=q
 cases hu
 refine wpAny_bind (wpAny_standAt (wpAny_bind (wpAny_holding (wpAny_bind ?_))))
 obtain⟨ox,od,IA⟩:=B.at_ I₁
 have XI:=kIn O I₁
 obtain⟨ox',hox',h1,h2,h3,h4⟩:=B.inst I₁
 obtain⟨od',hod',pd⟩:=I₁.obj B.dic
 have hdict:hasDictIn T.K C=true:=by unfold hasDictIn;rw[Y.cls];show cd.hasDict=true;exact Y.dict
 have hl:lookIn name od=some none:=by
  have e1:=IA.dict
  have e2:=IA.at_
  rw[hox'] at e2
  cases e2
  rw[h2] at e1
  have e1:s₁.heap.get? d=some od:=e1
  rw[hod'] at e1
  cases e1
  obtain⟨m,es,ep,r,hd,k1,u1,f1⟩:=pd
  exact look_nd hd k1 ((f1 name).trans (r.noneAt hna))
 refine getB XI IA Y (findObj_fn hdict hfnd SK.get SK.tk SK.cp hl) (wpAny_call (fn_get (s:={s₁ with toks:=s₁.toks+1}) XI (beq_iff_eq.mp SK.fn) (handed_on rfl ?_)))
 have I₂:=I₁.push (P:=isMo f x) (o:=methodObj (.ref f) (.ref x)) rfl rfl (tk:=s₁.toks+1)
 refine wpAny_pure ?_
 dsimp only at I₂ ⊢
 rw[hst]
 refine ks_call (P:=MethP T.K s₁.heap.objs.size f (.ref x)) rfl (keeps_M SK.fnI) ?_
 have ha:=ag_star (X:=X) (ρ:=ρ) (σ:=(s₁.heap.objs.size,isMo f x)::σ) (p:=p) (pos:=pos) (he _) (hm.imp (fun h=>.tail _ h) id) hn hst
 have ha':=ha (.ref s₁.heap.objs.size) _ I₂
 rw[hst] at ha'
 refine wpAny_mono ha' (fun a s₃ q=> ?_) fun _ _ f=>f.elim
 obtain⟨us,vs,σ₂,rfl,⟨rfl,rfl⟩,hvs,I₃⟩:=q
 obtain⟨om,hom,rfl⟩:=I₃.obj (.head _)
 refine⟨⟨hom,kIn O I₃⟩,?_⟩
 refine wpAny_call (method_call hom (codeAny_mono (hc _ X ρ s₃ (O.le hk) hFL I₃ (.ref x::us) (.cons (.ref _) hvs)) fun r s' q=> ?_))
 obtain⟨u',pv,σ₂,rfl,hR,h1,h2⟩:=q
 exact⟨pv,σ₂,hR,h1,h2⟩
end
end Mine
end
section
set_option maxRecDepth 100000
set_option maxHeartbeats 4000000
open PySem PySem.W PyProof.Rows PySem.Calls
namespace Mine
structure FK (prog:Program) (T:Tops) (f:FmAds) (a:AcAds):Prop where
 E:FmT T f a
 D:AcT T a
 S:SupK prog T a
 G:Names T
 Gs:T.mg "str"=none∧T.mb "str"=some (.type "str")
 hs:isFn T.K (.ref a.str)=true
 H: ∃bm ob,GenK T a bm ob
 star:StarK T.K a.push "push"
structure FmAt (F:FmA) (f:FmAds) (a:AcAds):Prop where
 cF:F.CF=f.C
 C:F.C=a.C
 P:F.Plen=a.Plen
 Q:F.Pstr=a.Pstr
section
variable {prog:Program}{w:World}{T:Tops}{n:Nat}{a:AcAds}{f:FmAds}{F:FmA}{ml:Int}{sp:List Nat}{lines:List (List Nat)}{ts:List (Addr×Pr)}{z:Nat}{rest:Led}
theorem fm_x (A:FmAt F f a):(F.x,isA a.C F.d (ts.map fun t=>.ref t.1))∈fmL F ml sp lines ts z++rest:=by rw[←A.C];exact .tail _ mI2
theorem fm_d:(F.d,isNd [(("_initial_size":Str),some (.int z))])∈fmL F ml sp lines ts z++rest:=.tail _ mI3
theorem fm_l:(F.l,isL (pvS lines))∈fmL F ml sp lines ts z++rest:=.tail _ mI1
theorem pe_fm {σ:Led}(B:FK prog T f a) (A:FmAt F f a) {X:Cx}{ρ:Ro}{p pos:Pos}{y:Str}{v:PV}(O:XOK T n X) (Y:Lay X) (hs:(("self":Str),some (.ref F.y))∈ρ) (hy:(y,some v)∈([(("_current_line":Str),some (PV.ref F.x)),(("_lines":Str),some (.ref F.l)),(("_splitchars":Str),some (.str sp)),(("_continuation_ws_len":Str),some (.int 1)),(("_continuation_ws":Str),some (.str [32])),(("_maxlen":Str),some (.int ml))]:Ro))
  (hn:y∈([("_maxlen":Str),"_continuation_ws","_continuation_ws_len","_splitchars","_lines","_current_line"]:List Str)) (hσ: ∀q∈(fmL F ml sp lines ts z).take 2,q∈σ)
  (he:eval (.Attribute (.Name "self" p) y pos) X.env=(do let u ←eval (.Name "self" p) X.env;standAt pos.atName;let r ←holding [u] (getAttr u y true);letTemporaryGo (.Name "self" p) u r;pure r):=by rfl):
  PE prog w X (.Attribute (.Name "self" p) y pos) ρ σ v:=by
 refine pe_attr O B.E.cls (pe_local Y hs) (obtO (d:=F.dy) ?_ ?_) hy (B.E.no _ hn) he
 ·rw[←A.cF];exact hσ _ (.head _)
 ·exact hσ _ mI1
theorem len_pe (B:FK prog T f a) (A:FmAt F f a) {X:Cx}{ρ:Ro}{e:Expr}{x:Str}{p pos:Pos}{m:Nat}(O:XOK T (m+2) X) (hFL:X.FL=X.L) (he:PE prog w X e ρ (fmL F ml sp lines ts z++rest) (.ref F.x)) (hs:Small (ts.map (·.2)) z) (hx:x="len") (hk:X.env.kindOf x=some .globalImplicit)
  (hse:starEach [e] X.env=[(false,eval e X.env)]):PE prog w X (.Call (.Name x p) [e] [] pos) ρ (fmL F ml sp lines ts z++rest) (.int ((z+wS (ts.map (·.2)):Nat):Int)):=by
 obtain⟨bm,ob,H⟩:=B.H
 subst hx
 have h1:=hs.w
 have h2:=hs.z
 exact pe_call_b (xe_built O hk B.G.len.1 B.G.len.2) (ae1 he hse) (c_lenO (n:=m+1) O hFL (obtA (fm_x A) fm_d) B.D.len.fnd B.D.len.typ (by omega) (by omega) (len_fm B.D B.G H A.C A.P hs)) (by rw[hse];rfl)
theorem str_ge (B:FK prog T f a) (A:FmAt F f a) {X:Cx}{ρ:Ro}{e:Expr}{x:Str}{p pos:Pos}{m:Nat}(O:XOK T (m+3) X) (hFL:X.FL=X.L) (he:PE prog w X e ρ (fmL F ml sp lines ts z++rest) (.ref F.x)) (hs:Small (ts.map (·.2)) z) (hx:x="str") (hk:X.env.kindOf x=some .globalImplicit)
  (hse:starEach [e] X.env=[(false,eval e X.env)]):PE prog w X (.Call (.Name x p) [e] [] pos) ρ (fmL F ml sp lines ts z++rest) (.str (tS (ts.map (·.2)))):=by
 obtain⟨bm,ob,H⟩:=B.H
 subst hx
 exact pe_call_t (xe_built O hk B.Gs.1 B.Gs.2) (ae1 he hse) (c_strO (n:=m+1) O hFL (obtA (fm_x A) fm_d) B.D.str.fnd B.hs (str_fm B.D H A.C A.Q hs)) (by rw[hse];rfl)
theorem pvS_snoc (l:List (List Nat)) (x:List Nat):pvS l++[.str x]=pvS (l++[x]):=by simp[pvS]
theorem newline_tail (B:FK prog T f a) (A:FmAt F f a) {A':Around}{L:Addr}{g:Heap}{os:OsState}{o:PV}{R:PV→Led→Prop}(hs:Small (ts.map (·.2)) z) (hsp:Txt.isspace (mk (tS (ts.map (·.2))))=false) (hpos:0<z+wS (ts.map (·.2))) (hll:lines.length≤100000)
  (O:XOK T (n+5) ⟨A',envX "_ValueFormatter.newline" (scopeOf (FM 3)) L f.newline f.vnewline [],L,L,g,os,(["self"]:List Str)++(["end_of_line"]:List Str)⟩) (Y:Lay ⟨A',envX "_ValueFormatter.newline" (scopeOf (FM 3)) L f.newline f.vnewline [],L,L,g,os,(["self"]:List Str)++(["end_of_line"]:List Str)⟩):
  SE prog w ⟨A',envX "_ValueFormatter.newline" (scopeOf (FM 3)) L f.newline f.vnewline [],L,L,g,os,(["self"]:List Str)++(["end_of_line"]:List Str)⟩ ((bodyOf (FM 3)).drop 2) [(("self":Str),some (.ref F.y)),(("end_of_line":Str),some o)] (fmL F ml sp lines ts z++rest)
   (fun f' _ σ'=>f'.val= .none∧Fit (fmL F ml sp (lines++[tS (ts.map (·.2))]) [] 0++rest) σ'):=by
 obtain⟨bm,ob,H⟩:=B.H
 have hnn:=hs.n
 have hts:ts.length≤1000:=by simpa using hnn
 have two: ∀{lines:List (List Nat)}{ts:List (Addr×Pr)}{z:Nat}{rest:Led},∀q∈(fmL F ml sp lines ts z).take 2,q∈fmL F ml sp lines ts z++rest:=fun q hq=>List.mem_append_left _ (List.mem_of_mem_take hq)
 refine se_cons (s1_if (be_cmp (len_pe B A (m:=n+3) (O.le (by omega)) rfl (pe_fm B A (lines:=lines) (ts:=ts) (z:=z) O Y (.head _) (.head _) (by simp) two) hs rfl rfl rfl) pe_int cm_gt) (fun h=> ?_) (fun h=> ?_))
 ·refine se_cons (s1_if (c:=false&&true) (be_and1 (c:=false) (d:=true) ?_ (fun h=>by cases h)) (fun h=>by cases h) (fun _=> ?_))
  ·refine be_of_pe (pe_of_ge (R:=fun r σ'=>r= .bool false∧σ'=fmL F ml sp lines ts z++rest) (ge_own (k:=n+4) O rfl B.D.lk.cls B.D.only (pe_fm B A (lines:=lines) (ts:=ts) (z:=z) O Y (.head _) (.head _) (by simp) two) (obtA (fm_x A) fm_d) (by show (_:Str)∉[("_initial_size":Str)];decide) (ag_of_ae ae0) (by omega) (fun vs σ' h=> ?_)) (fun v σ' h=>⟨h.1,h.2 ▸ .refl _⟩))
   obtain⟨h1,h2⟩:=h
   subst h1
   rw[h2]
   refine(only_fm B.D B.G B.Gs B.hs H A.C A.P A.Q hs).drop fun v σ' q=>⟨σ',.refl _,q.1.trans ?_,q.2⟩
   rw[hsp]
   have:(z+wS (ts.map (·.2))==0)=false:=beq_eq_false_iff_ne.mpr (by omega)
   rw[this];simp
  ·refine se_cons (s1_append (ps:=pvS lines) (pe_fm B A (lines:=lines) (ts:=ts) (z:=z) O Y (.head _) mI1 (by simp) two) (ge_of_pe (str_ge B A (m:=n+2) O rfl (pe_fm B A (lines:=lines) (ts:=ts) (z:=z) O Y (.head _) (.head _) (by simp) two) hs rfl rfl rfl)) (fun v σ' h=> ?_) fm_l (by simp[pvS];omega))
   obtain⟨rfl,rfl⟩:=h
   refine⟨fmL F ml sp (lines++[tS (ts.map (·.2))]) ts z++rest,?_,?_⟩
   ·rw[pvS_snoc];exact .there (.there .here)
   ·refine se_nil (se_nil (se_cons (s1_expr (R:=fun r σ'=>r= .none∧Fit (fmL F ml sp (lines++[tS (ts.map (·.2))]) [] 0++rest) σ') (ge_own (k:=n+1) O rfl B.D.lk.cls B.D.reset (pe_fm B A (lines:=lines++[tS (ts.map (·.2))]) (ts:=ts) (z:=z) O Y (.head _) (.head _) (by simp) two) (obtA (fm_x A) fm_d) (by show (_:Str)∉[("_initial_size":Str)];decide) (ag_of_ae ae0) (by omega) (fun vs σ' h=> ?_)) (fun v σ' h=>⟨h.1,se_nil ⟨rfl,h.2⟩⟩))))
    obtain⟨h1,h2⟩:=h
    subst h1
    rw[h2]
    exact reset0_fm B.D A.C hts
 ·have:=of_decide_eq_false h
  omega
theorem newline_fn (B:FK prog T f a) (A:FmAt F f a) (hs:Small (nlTs (ts.map (·.2))) z) (hn:ts.length≤900) (hsp:Txt.isspace (mk (tS (nlTs (ts.map (·.2)))))=false) (hpos:0<z+wS (nlTs (ts.map (·.2)))) (hll:lines.length≤100000):
  Fn prog w T (n+6) (.ref f.newline) [.ref F.y] (fmL F ml sp lines ts z++rest) (fun r σ'=>r= .none∧σ'=fmL F ml sp (lines++[tS (nlTs (ts.map (·.2)))]) [] 0++rest):=
 Fn.fit (R:=fun r σ'=>r= .none∧Fit (fmL F ml sp (lines++[tS (nlTs (ts.map (·.2)))]) [] 0++rest) σ') (meth_intro B.E.newline.fn ["self"] ["end_of_line"] (fun us hv=>⟨us,hv,fun kV doc pm an ct s _=>.of_eq (by match us,hv.length with | [_],_=>rfl)⟩) (by decide) (by decide) rfl (by decide) rfl rfl rfl (fun A' L g os O Y=>by
  show SE _ _ _ _ [(("self":Str),some (.ref F.y)),(("end_of_line":Str),none)] _ _
  have two: ∀{lines:List (List Nat)}{ts:List (Addr×Pr)}{z:Nat}{rest:Led},∀q∈(fmL F ml sp lines ts z).take 2,q∈fmL F ml sp lines ts z++rest:=fun q hq=>List.mem_append_left _ (List.mem_of_mem_take hq)
  refine se_cons (s1_assign_g (R:=fun v σ'=> ∃t i u s',v= .ref t∧i.length≤ts.length∧nlTs (ts.map (·.2))=(if u==[32]&&s'==[] then i.map (·.2) else i.map (·.2)++[(u,s')])∧Fit ((t,isT [.str u,.str s'])::(fmL F ml sp lines i z++rest)) σ')
   (ge_own (k:=n+2) O rfl B.D.lk.cls B.D.pop (pe_fm B A (lines:=lines) (ts:=ts) (z:=z) O Y (.head _) (.head _) (by simp) two) (obtA (fm_x A) fm_d) (by show (_:Str)∉[("_initial_size":Str)];decide) (ag_of_ae ae0) (by omega) (fun vs σ' h=> ?_)) (fun v σ' h=> ?_))
  ·obtain⟨h1,h2⟩:=h
   subst h1
   rw[h2]
   refine(pop_fm B.D B.S A.C (by omega)).drop fun v σ' h=>⟨σ',.refl _,?_⟩
   rcases h with ⟨rfl,t,rfl,rfl⟩ | ⟨i,p,rfl,rfl,k⟩
   ·exact⟨t,[],[],[],rfl,Nat.le_refl _,rfl,.refl _⟩
   ·exact⟨p.1,i,p.2.1,p.2.2,rfl,by simp,by simp[nlTs],k⟩
  ·obtain⟨t,i,u,s',rfl,hi,hnl,hfit⟩:=h
   refine⟨_,_,fun u' hu=>store_local Y (.there .here) hu,?_⟩
   refine SE.fit hfit ?_
   refine se_cons (s1_if (c:= !(u==[32]&&s'==[])) (be_cmp2 (pe_local Y mI1) (ge_of_ne (ne_tupleP (.cons pe_str (.cons pe_str .nil)))) (fun v σ' r=> ?_)) (fun h=> ?_) (fun h=> ?_))
   ·obtain⟨b,rfl,rfl⟩:=r
    exact⟨.cons _ (.refl _),cm_neT O (.inl mI1) (.inl (.head _))⟩
   ·have h':(u==[32]&&s'==[])=false:=by cases hq:(u==[32]&&s'==[])<;>simp_all
    rw[h',if_neg (by decide)] at hnl
    refine se_cons (s1_expr (R:=fun r σ'=>r= .none∧ ∃t',Fit (fmL F ml sp lines (i++[(t',u,s')]) z++rest) σ') (ge_ownS (k:=n+1) O rfl B.D.lk.cls B.star (pe_fm B A (lines:=lines) (ts:=i) (z:=z) O Y (.head _) (.head _) (by simp) (fun q hq=>.tail _ (two q hq))) (obtA (.tail _ (fm_x A)) (.tail _ fm_d)) (by show (_:Str)∉[("_initial_size":Str)];decide) B.D.push.fnd (fun q=>pe_local Y mI1) (.inl (.head _)) (by simp) (by omega) (fun q=>Fn.from (push_fm B.D A.C (by omega)) (.of_sub (.cons _ (.cons _ (.refl _)))))) (fun v σ' h=>⟨h.1,?_⟩))
    ·obtain⟨t',ht'⟩:=h.2
     have e:(i++[(t',u,s')]).map (·.2)=nlTs (ts.map (·.2)):=by rw[hnl];simp
     refine se_nil (SE.fit ht' ?_)
     have:=newline_tail (n:=n) (prog:=prog) (w:=w) (lines:=lines) (ts:=i++[(t',u,s')]) (z:=z) (rest:=rest) (ml:=ml) (sp:=sp) (R:=fun _ _=>True) (o:=.ref t) B A (by rw[e];exact hs) (by rw[e];exact hsp) (by rw[e];exact hpos) hll O Y
     rw[e] at this
     exact this
   ·have h':(u==[32]&&s'==[])=true:=by cases hq:(u==[32]&&s'==[])<;>simp_all
    rw[h',if_pos rfl] at hnl
    refine se_nil (SE.sub ?_ (.cons _ (.refl _)))
    have:=newline_tail (n:=n) (prog:=prog) (w:=w) (lines:=lines) (ts:=i) (z:=z) (rest:=rest) (ml:=ml) (sp:=sp) (R:=fun _ _=>True) (o:=.ref t) B A (by rw[←hnl];exact hs) (by rw[←hnl];exact hsp) (by rw[←hnl];exact hpos) hll O Y
    rw[←hnl] at this
    exact this)) (fun v σ' h=>⟨_,h.2,h.1,rfl⟩)
end
end Mine
end
section
set_option maxRecDepth 100000
set_option maxHeartbeats 4000000
open PySem PySem.W PyProof.Rows PySem.Calls
namespace Mine
theorem fits_of {x:Int}(h1: -10000000≤x) (h2:x≤10000000):Builtin.Range.rangeFitsLong x=true:=by
 unfold Builtin.Range.rangeFitsLong
 simp only[Bool.and_eq_true,decide_eq_true_eq]
 omega
theorem small_dn {a b:Int}(h1: -1000000≤a) (h2:a≤1000000) (h3: -1000000≤b) (h4:b≤1000000):Builtin.Range.small a b (-1)=true:=by
 unfold Builtin.Range.small
 have hr: -10000000≤Builtin.Range.rangeSize a b (-1)∧Builtin.Range.rangeSize a b (-1)≤10000000:=by
  unfold Builtin.Range.rangeSize
  simp only[show ¬((-1:Int)>0) by decide,if_false]
  split<;>simp<;>omega
 simp only[show ¬((-1:Int)>0) by decide,if_false]
 rw[fits_of (by omega) (by omega),fits_of (by omega) (by omega),fits_of (by omega) (by omega),fits_of hr.1 hr.2,fits_of (by omega) (by omega)]
 simp
theorem small_up {a b:Int}(h1: -1000000≤a) (h2:a≤1000000) (h3: -1000000≤b) (h4:b≤1000000):Builtin.Range.small a b 1=true:=by
 unfold Builtin.Range.small
 have hr: -10000000≤Builtin.Range.rangeSize a b 1∧Builtin.Range.rangeSize a b 1≤10000000:=by
  unfold Builtin.Range.rangeSize
  simp only[show ((1:Int)>0) by decide,if_true]
  split<;>simp<;>omega
 simp only[show ((1:Int)>0) by decide,if_true]
 rw[fits_of (by omega) (by omega),fits_of (by omega) (by omega),fits_of (by omega) (by omega),fits_of hr.1 hr.2,fits_of (by omega) (by omega)]
 simp
theorem last_eq (l:List Nat) (ch:Nat):((!l.isEmpty)&&(([itemT l (-1)]==[ch])&&true))=(l.getLast? ==some ch):=by
 rcases List.eq_nil_or_concat l with rfl | ⟨r,x,rfl⟩
 ·rfl
 ·have e:itemT (r++[x]) (-1)=x:=by
   unfold itemT
   have:((-1:Int)+((r++[x]).length:Nat)).toNat=r.length:=by simp;omega
   rw[if_pos (by decide),this]
   simp[List.getD_eq_getElem?_getD]
  rw[List.concat_eq_append,e]
  simp
theorem head_eq (l:List Nat) (ch:Nat):((!l.isEmpty)&&(([itemT l 0]==[ch])&&true))=(l.head? ==some ch):=by
 cases l with
 | nil=>rfl
 | cons x r=>
  have e:itemT (x::r) 0=x:=by unfold itemT;simp
  rw[e];simp
noncomputable def hitP (ts:List Pr) (ch i:Nat):Bool:=(Txt.isspace (mk [ch])&&(ts.getD i ([],[])).1.head? ==some ch)||(ts.getD (i-1) ([],[])).2.getLast? ==some ch
noncomputable def findI (ts:List Pr) (ch:Nat):Nat→Option Nat
 | 0=>none
 | k+1=>if hitP ts ch (k+1) then some (k+1) else findI ts ch k
noncomputable def findC (ts:List Pr):List Nat→Option Nat
 | []=>none
 | ch::r=>match findI ts ch (ts.length-1) with | some i=>some i | none=>findC ts r
theorem findI_le (ts:List Pr) (ch:Nat): ∀k i,findI ts ch k=some i→1≤i∧i≤k
 | 0,i,h=>by cases h
 | k+1,i,h=>by
  unfold findI at h
  split at h
  ·cases h;omega
  ·have:=findI_le ts ch k i h;omega
theorem findC_le (ts:List Pr): ∀sp i,findC ts sp=some i→1≤i∧i≤ts.length-1
 | [],i,h=>by cases h
 | ch::r,i,h=>by
  unfold findC at h
  split at h
  ·rename_i j hj
   cases h
   exact findI_le _ _ _ _ hj
  ·exact findC_le ts r i h
noncomputable def chunkS (lines:List (List Nat)) (ts:List Pr) (z:Nat) (ml:Int) (sp:List Nat) (u s:List Nat):List (List Nat)×List Pr×Nat:=
 if ((z+wS (ts++[(u,s)]):Nat):Int)≤ml then (lines,ts++[(u,s)],z)
 else match findC (ts++[(u,s)]) sp with
  | some i=>(lines++[tS ((ts++[(u,s)]).take i)],(ts++[(u,s)]).drop i,0)
  | none=>if z=0 then (lines,ts++[(u,s)],0) else (lines++[tS (nlTs ts)],[(if u=[] then [32] else u,s)],0)
section
variable {prog:Program}{w:World}{X:Cx}{ρ:Ro}{σ:Led}{K:PF→Ro→Led→Prop}
theorem s1_break {pos:Pos}(k:K .brk ρ σ):S1 prog w X (.Break pos) ρ σ K:=fun s I=>wpAny_Break ⟨_,_,_,k,.brk,I⟩
theorem s1_cont {pos:Pos}(k:K .cont ρ σ):S1 prog w X (.Continue pos) ρ σ K:=fun s I=>wpAny_Continue ⟨_,_,_,k,.cont,I⟩
end
noncomputable abbrev rcR (y:Addr) (fw:List Nat) (s:List Nat) (c i pp pt rm:Option PV):Ro:=[(("self":Str),some (.ref y)),(("fws":Str),some (.str fw)),(("string":Str),some (.str s)),(("ch":Str),c),(("i":Str),i),(("prevpart":Str),pp),(("part":Str),pt),(("remainder":Str),rm)]
noncomputable abbrev chX (f:FmAds) (A':Around) (L:Addr) (g:Heap) (os:OsState):Cx:=⟨A',envX "_ValueFormatter._append_chunk" (scopeOf (FM 8)) L f.chunk f.vchunk [],L,L,g,os,(["self","fws","string"]:List Str)++(["ch","i","prevpart","part","remainder"]:List Str)⟩
noncomputable def chIf:Stmt:=nthS (bodyOf (FM 8)) 1
noncomputable def ifBody:Stmt→List Stmt | .If _ b _ _=>b | _=>[]
noncomputable def forBody:Stmt→List Stmt | .For _ _ b _ _=>b | _=>[]
noncomputable def forElse:Stmt→List Stmt | .For _ _ _ e _=>e | _=>[]
noncomputable def chFor:Stmt:=nthS (ifBody chIf) 0
noncomputable def inFor:Stmt:=nthS (forBody chFor) 0
section
variable {prog:Program}{w:World}{T:Tops}{n:Nat}{a:AcAds}{f:FmAds}{F:FmA}{ml:Int}{sp:List Nat}{lines:List (List Nat)}{ts:List (Addr×Pr)}{z:Nat}{rest:Led}
theorem fm_two {σ:Led}(h:(fmL F ml sp lines ts z++rest).Sublist σ): ∀q∈(fmL F ml sp lines ts z).take 2,q∈σ:=fun q hq=>h.mem (List.mem_append_left _ (List.mem_of_mem_take hq))
theorem getD_map2 (ts:List (Addr×Pr)) (i:Nat) (h:i<ts.length):(ts.map (·.2)).getD i ([],[])=(ts[i]).2:=by
 rw[List.getD_eq_getElem?_getD,List.getElem?_map,List.getElem?_eq_getElem h];rfl
theorem pe_part (B:FK prog T f a) (A:FmAt F f a) {X:Cx}{ρ:Ro}{σ:Led}{e1 e2 e3:Expr}{p1 p2:Pos}{i k:Nat}{v:PV}(O:XOK T n X) (hσ:(fmL F ml sp lines ts z++rest).Sublist σ) (h1:PE prog w X e1 ρ σ (.ref F.x)) (h2:PE prog w X e2 ρ σ (.int i)) (h3:PE prog w X e3 ρ σ (.int k)) (hi:i<ts.length) (hn:ts.length≤1000)
  (hk:([PV.str (ts[i]).2.1,.str (ts[i]).2.2])[k]? =some v) (hs2: ∀x y,subscripted e2 false x y=operate [x,y] (getItem x y)) (hs3: ∀x y,subscripted e3 false x y=operate [x,y] (getItem x y)):
  PE prog w X (.Subscript (.Subscript e1 e2 p1) e3 p2) ρ σ v:=by
 refine pe_itemT (a:=(ts[i]).1) (ps:=[PV.str (ts[i]).2.1,.str (ts[i]).2.2]) (pe_itemA O B.D.lk.cls B.D.lk.lst B.D.lk.noseq B.D.lk.gi h1 (hσ.mem (fm_x A)) h2 (by omega) (by simp;omega) (by simp;omega) ?_ hs2) (.inl (hσ.mem (fm_pairs _ (List.getElem_mem hi)))) h3 hk (by simp) hs3
 unfold itemL
 rw[if_neg (by omega)]
 simp[List.getD_eq_getElem?_getD,List.getElem?_eq_getElem hi]
theorem inner_for (B:FK prog T f a) (A:FmAt F f a) {A':Around}{L:Addr}{g:Heap}{os:OsState}{K:PF→Ro→Led→Prop}{e0:Addr×(Obj→Prop)}{fw s:List Nat}{io pp:Option PV}{ch:Nat}(hl0:0<ts.length) (hn:ts.length≤1000) (hw:wS (ts.map (·.2))≤1000000)
  (O:XOK T (n+7) (chX f A' L g os)) (Y:Lay (chX f A' L g os))
  (hf: ∀i fw pp σ',findI (ts.map (·.2)) ch (ts.length-1)=some i→(e0::(fmL F ml sp lines ts z++rest)).Sublist σ'→K .next (rcR F.y fw s (some (.str [ch])) (some (.int i)) pp none none) σ')
  (hnn: ∀fw io pp,findI (ts.map (·.2)) ch (ts.length-1)=none→K .cont (rcR F.y fw s (some (.str [ch])) io pp none none) (e0::(fmL F ml sp lines ts z++rest))):
  S1 prog w (chX f A' L g os) inFor (rcR F.y fw s (some (.str [ch])) io pp none none) (e0::(fmL F ml sp lines ts z++rest)) K:=by
 have sub0:(fmL F ml sp lines ts z++rest).Sublist (e0::(fmL F ml sp lines ts z++rest)):=.cons _ (.refl _)
 have cur: ∀{σ:Led}{ρ:Ro}{p pos:Pos},(fmL F ml sp lines ts z++rest).Sublist σ→(("self":Str),some (.ref F.y))∈ρ→PE prog w (chX f A' L g os) (.Attribute (.Name "self" p) "_current_line" pos) ρ σ (.ref F.x):=fun h hs=>pe_fm B A (lines:=lines) (ts:=ts) (z:=z) O Y hs (.head _) (by simp) (fm_two h)
 have ha:((ts.length:Nat):Int)-1=((ts.length-1:Nat):Int):=by omega
 refine s1_for (ts.length-1) (fun j=>.int (((ts.length-1:Nat):Int)-j)) (rdI ((ts.length-1:Nat):Int) 0)
  (fun j ρ σ=>σ=e0::(fmL F ml sp lines ts z++rest)∧ ∃fw io pp,ρ=rcR F.y fw s (some (.str [ch])) io pp none none∧findI (ts.map (·.2)) ch (ts.length-1-j)=findI (ts.map (·.2)) ch (ts.length-1))
  ?_ ⟨rfl,fw,io,pp,rfl,rfl⟩ ?_ ?_ ?_ ?_
 ·refine it_down (xe_built O rfl B.G.range.1 B.G.range.2) ?_ pe_int (pe_neg pe_int) ?_ ?_
  ·rw[←ha]
   refine pe_sub (pe_of_ge (R:=fun r σ'=>r= .int ts.length∧σ'=e0::(fmL F ml sp lines ts z++rest)) (ge_own (k:=n+1) O rfl B.D.lk.cls B.D.count (cur sub0 (.head _)) (obtA (.tail _ (fm_x A)) (.tail _ fm_d)) (by show (_:Str)∉[("_initial_size":Str)];decide) (ag_of_ae ae0) (by omega) (fun vs σ' h=> ?_)) (fun v σ' h=>⟨h.1,h.2 ▸ .refl _⟩)) pe_int
   obtain⟨h1,h2⟩:=h
   subst h1
   rw[h2]
   refine(count_fn B.D B.S (.tail _ (fm_x A))).drop fun v σ' q=>⟨σ',.refl _,q.1.trans ?_,q.2⟩
   simp
  ·exact small_dn (by omega) (by omega) (by omega) (by omega)
  ·exact noPyl (by decide)
 ·rintro I j ρ σ hj ⟨rfl,_⟩
  exact(seqs_down (a:=((ts.length-1:Nat):Int)) (b:=0) (k:=ts.length-1) (by unfold Builtin.Range.rangeSize;simp;omega)).nx _ I j _ O.hh hj trivial
 ·rintro I ρ σ ⟨rfl,_⟩
  exact(seqs_down (a:=((ts.length-1:Nat):Int)) (b:=0) (k:=ts.length-1) (by unfold Builtin.Range.rangeSize;simp;omega)).nd _ I _ O.hh trivial
 ·rintro I j ρ σ hj ⟨rfl,fw,io,pp,rfl,hfi⟩ hI
  refine⟨_,_,fun u hu=>store_local Y (.there (.there (.there (.there .here)))) hu,?_⟩
  have hlp: ∀t∈ts,t.2.1.length≤1000000∧t.2.2.length≤1000000:=fun t ht=>by have:=wS_mem (List.mem_map_of_mem (f:=fun t:Addr×Pr=>t.2) ht);omega
  obtain⟨idx,hidx⟩: ∃idx,idx=ts.length-1-j:=⟨_,rfl⟩
  have hx:((ts.length-1:Nat):Int)-(j:Int)=(idx:Int):=by omega
  have hi1:1≤idx:=by omega
  have hi2:idx<ts.length:=by omega
  have hi3:idx-1<ts.length:=by omega
  rw[←hidx] at hfi
  have hfind:findI (ts.map (·.2)) ch idx=if hitP (ts.map (·.2)) ch idx then some idx else findI (ts.map (·.2)) ch (idx-1):=by
   cases idx with
   | zero=>omega
   | succ k=>rw[findI];rfl
  have g1:=getD_map2 ts idx hi2
  have g2:=getD_map2 ts (idx-1) hi3
  have hhit:hitP (ts.map (·.2)) ch idx=((Txt.isspace (mk [ch])&&(ts[idx]).2.1.head? ==some ch)||(ts[idx-1]).2.2.getLast? ==some ch):=by unfold hitP;rw[g1,g2]
  have sub1:(fmL F ml sp lines ts z++rest).Sublist ((I,rdI ((ts.length-1:Nat):Int) 0 I (j+1))::e0::(fmL F ml sp lines ts z++rest)):=.cons _ (.cons _ (.refl _))
  show SE _ _ _ (forBody inFor) (rcR F.y fw s (some (.str [ch])) (some (.int (((ts.length-1:Nat):Int)-j))) pp none none) _ _
  rw[hx]
  have tail: ∀fw,(Txt.isspace (mk [ch])&&(ts[idx]).2.1.head? ==some ch)=false→SE prog w (chX f A' L g os) ((forBody inFor).drop 1) (rcR F.y fw s (some (.str [ch])) (some (.int idx)) pp none none) ((I,rdI ((ts.length-1:Nat):Int) 0 I (j+1))::e0::(fmL F ml sp lines ts z++rest))
    (LoopK K fun ρ₂ σ₂=> ∃σ₃,(σ₃=e0::(fmL F ml sp lines ts z++rest)∧ ∃fw io pp,ρ₂=rcR F.y fw s (some (.str [ch])) io pp none none∧findI (ts.map (·.2)) ch (ts.length-1-(j+1))=findI (ts.map (·.2)) ch (ts.length-1))∧((I,rdI ((ts.length-1:Nat):Int) 0 I (j+1))::σ₃).Sublist σ₂):=by
   intro fw h0
   refine se_cons (s1_assign Y (pe_part B A (i:=idx-1) (k:=1) (v:=.str (ts[idx-1]).2.2) O sub1 (cur sub1 (.head _)) (by rw[show ((idx-1:Nat):Int)=(idx:Int)-1 by omega];exact pe_sub (pe_local Y mI4) pe_int) pe_int hi3 hn rfl (by intro _ _;rfl) (by intro _ _;rfl)) (.there (.there (.there (.there (.there .here))))) ?_)
   have hp:=(hlp _ (List.getElem_mem hi3)).2
   refine se_cons (s1_if (c:=(ts[idx-1]).2.2.getLast? ==some ch) ?_ (fun h=> ?_) (fun h=>se_nil (se_nil ?_)))
   ·rw[←last_eq]
    refine be_and1 (be_truthy (pe_local Y mI5) (fun u s h I=>tr_str (by omega) u s h I)) (fun hne=>be_and1 (be_cmp (pe_item (pe_local Y mI5) (pe_neg pe_int) ?_ ?_ (by omega)) (pe_local Y mI3) cm_eqs) (fun _=>be_and0))
    ·cases hq:(ts[idx-1]).2.2 with
     | nil=>rw[hq] at hne;cases hne
     | cons x r=>simp;omega
    ·cases hq:(ts[idx-1]).2.2 with
     | nil=>rw[hq] at hne;cases hne
     | cons x r=>simp;omega
   ·exact se_cons (s1_break (hf idx _ _ _ (by rw[←hfi,hfind,if_pos (by rw[hhit,h,Bool.or_true])]) (.cons _ (.refl _))))
   ·refine⟨_,⟨rfl,fw,_,_,rfl,?_⟩,.refl _⟩
    rw[show ts.length-1-(j+1)=idx-1 by omega,←hfi,hfind,if_neg (by rw[hhit,h,h0];decide)]
  refine se_cons (s1_if (c:=Txt.isspace (mk [ch])) (be_of_pe (pe_meth (pe_local Y mI3) (m_of (fun x t s pl Q h=>GM.isspace h) _) ae0 c_isspace)) (fun hs=> ?_) (fun hs=>se_nil (tail fw (by rw[hs];rfl))))
  refine se_cons (s1_assign Y (pe_part B A (i:=idx) (k:=0) (v:=.str (ts[idx]).2.1) O sub1 (cur sub1 (.head _)) (pe_local Y mI4) pe_int hi2 hn rfl (by intro _ _;rfl) (by intro _ _;rfl)) (.there .here) ?_)
  have hp:=(hlp _ (List.getElem_mem hi2)).1
  refine se_cons (s1_if (c:=(ts[idx]).2.1.head? ==some ch) ?_ (fun h=> ?_) (fun h=>se_nil (se_nil (tail _ (by rw[hs,h];rfl)))))
  ·rw[←head_eq]
   refine be_and1 (be_truthy (pe_local Y mI1) (fun u s h I=>tr_str (by omega) u s h I)) (fun hne=>be_and1 (be_cmp (pe_item (pe_local Y mI1) pe_int ?_ ?_ (by omega)) (pe_local Y mI3) cm_eqs) (fun _=>be_and0))
   ·omega
   ·cases hq:(ts[idx]).2.1 with
    | nil=>rw[hq] at hne;cases hne
    | cons x r=>simp
  ·exact se_cons (s1_break (hf idx _ _ _ (by rw[←hfi,hfind,if_pos (by rw[hhit,hs,h];rfl)]) (.cons _ (.refl _))))
 ·rintro ρ σ ⟨rfl,fw,io,pp,rfl,hfi⟩
  rw[Nat.sub_self] at hfi
  exact se_cons (s1_cont (hnn fw io pp hfi.symm))
theorem outer_for (B:FK prog T f a) (A:FmAt F f a) {A':Around}{L:Addr}{g:Heap}{os:OsState}{K:PF→Ro→Led→Prop}{fw s:List Nat}(hl0:0<ts.length) (hn:ts.length≤1000) (hw:wS (ts.map (·.2))≤1000000)
  (O:XOK T (n+7) (chX f A' L g os)) (Y:Lay (chX f A' L g os))
  (hf: ∀i fw c pp σ',findC (ts.map (·.2)) sp=some i→(fmL F ml sp lines ts z++rest).Sublist σ'→K .next (rcR F.y fw s c (some (.int i)) pp none none) σ')
  (hnn: ∀fw c io pp,findC (ts.map (·.2)) sp=none→SE prog w (chX f A' L g os) (forElse chFor) (rcR F.y fw s c io pp none none) (fmL F ml sp lines ts z++rest) K):
  S1 prog w (chX f A' L g os) chFor (rcR F.y fw s none none none none none) (fmL F ml sp lines ts z++rest) K:=by
 have hlen:(ts.map (·.2)).length=ts.length:=by simp
 refine s1_for sp.length (fun i=>.str [sp.getD i 0]) (stI sp)
  (fun i ρ σ=>σ=fmL F ml sp lines ts z++rest∧ ∃fw c io pp,ρ=rcR F.y fw s c io pp none none∧findC (ts.map (·.2)) (sp.drop i)=findC (ts.map (·.2)) sp)
  (it_str (pe_fm B A (lines:=lines) (ts:=ts) (z:=z) O Y (.head _) mI2 (by simp) (fm_two (.refl _)))) ⟨rfl,fw,none,none,none,rfl,rfl⟩ ?_ ?_ ?_ ?_
 ·rintro I j ρ σ hj ⟨rfl,_⟩
  exact seqs_str.nx _ I j _ O.hh hj trivial
 ·rintro I ρ σ ⟨rfl,_⟩
  exact seqs_str.nd _ I _ O.hh trivial
 ·rintro I j ρ σ hj ⟨rfl,fw,c,io,pp,rfl,hfc⟩ hI
  refine⟨_,_,fun u hu=>store_local Y (.there (.there (.there .here))) hu,?_⟩
  have hd:sp.drop j=sp.getD j 0::sp.drop (j+1):=by
   rw[List.drop_eq_getElem_cons hj,List.getD_eq_getElem?_getD,List.getElem?_eq_getElem hj];rfl
  rw[hd,findC,hlen] at hfc
  refine se_cons (inner_for B A hl0 hn hw O Y (fun i fw pp σ' h hs=> ?_) (fun fw io pp h=> ?_))
  ·rw[h] at hfc
   exact se_cons (s1_break (hf i fw _ pp σ' hfc.symm (.trans (.cons _ (.refl _)) hs)))
  ·rw[h] at hfc
   exact⟨_,⟨rfl,fw,_,io,pp,rfl,hfc⟩,.refl _⟩
 ·rintro ρ σ ⟨rfl,fw,c,io,pp,rfl,hfc⟩
  rw[List.drop_of_length_le (Nat.le_refl _)] at hfc
  exact hnn fw c io pp hfc.symm
theorem Fn.nodup {f:Value}{args:List PV}{σ:Led}{R:PV→Led→Prop}(h:(σ.map (·.1)).Nodup→Fn prog w T n f args σ R):Fn prog w T n f args σ R:=fun X ρ s O e I=>h I.nd X ρ s O e I
noncomputable abbrev tups (us:List (Addr×Pr)):Led:=us.map fun t=>(t.1,isT [.str t.2.1,.str t.2.2])
theorem popf_fm (D:AcT T a) (hC:F.C=a.C) {i:Nat}(hi:i≤ts.length) (hn:ts.length≤1000):
  Fn prog w T (n+1) (.ref a.popf) [.ref F.x,.int i] (fmL F ml sp lines ts z++rest) (fun r σ'=> ∃b,r= .ref b∧Fit (fmL F ml sp lines (ts.take i) z++((b,isL ((ts.drop i).map fun t=>.ref t.1))::(tups (ts.drop i)++rest))) σ'):=by
 have h:=popf_fn (n:=n) (prog:=prog) (w:=w) (d:=F.d) (x:=F.x) (ps:=ts.map fun t=>.ref t.1) (i:=i) (σ:=fmL F ml sp lines ts z++rest) D (by simp;omega) (by rw[←hC];exact .there (.there (.there .here))) (by simp;omega)
 refine h.drop fun v σ' q=>⟨σ',.refl _,?_⟩
 obtain⟨b,c,rfl,rfl⟩:=q
 refine⟨b,rfl,Fit.skip _ (.of_perm ?_)⟩
 have e:tups ts=tups (ts.take i)++tups (ts.drop i):=by unfold tups;rw[←List.map_append,List.take_append_drop]
 rw[←List.map_take,←List.map_drop]
 show List.Perm ((b,isL ((ts.drop i).map fun t=>.ref t.1))::(F.y,_)::(F.dy,_)::(F.l,_)::(F.x,isA F.C F.d ((ts.take i).map fun t=>.ref t.1))::(F.d,_)::(F.Plen,isPt)::(F.Pstr,isPt)::(tups ts++rest)) ((F.y,_)::(F.dy,_)::(F.l,_)::(F.x,isA F.C F.d ((ts.take i).map fun t=>.ref t.1))::(F.d,_)::(F.Plen,isPt)::(F.Pstr,isPt)::(tups (ts.take i)++((b,isL ((ts.drop i).map fun t=>.ref t.1))::(tups (ts.drop i)++rest))))
 rw[e,List.append_assoc]
 exact(List.perm_middle (l₁:=(F.y,_)::(F.dy,_)::(F.l,_)::(F.x,isA F.C F.d ((ts.take i).map fun t=>PV.ref t.1))::(F.d,_)::(F.Plen,isPt)::(F.Pstr,isPt)::tups (ts.take i))).symm
theorem reset1_fm (D:AcT T a) (hC:F.C=a.C) {b:Addr}{us:List (Addr×Pr)}(hn:ts.length≤1000) (hu:us.length≤1000):
  Fn prog w T (n+1) (.ref a.reset) [.ref F.x,.ref b] (fmL F ml sp lines ts z++((b,isL (us.map fun t=>.ref t.1))::(tups us++rest))) (fun r σ'=>r= .none∧Fit (fmL F ml sp lines us 0++rest) σ'):=by
 refine Fn.nodup fun nd=> ?_
 have hne:b≠F.x:=by
  rintro rfl
  have hd:=(List.nodup_append.mp (by rw[List.map_append] at nd;exact nd)).2.2 F.x (by simp[fmL]) F.x (by simp)
  exact hd rfl
 have h:=reset1_fn (n:=n) (prog:=prog) (w:=w) (d:=F.d) (z:=(z:Int)) (x:=F.x) (b:=b) (qs:=us.map fun t=>.ref t.1) (ps:=ts.map fun t=>.ref t.1) (σ:=fmL F ml sp lines ts z++((b,isL (us.map fun t=>.ref t.1))::(tups us++rest))) D (List.mem_append_right _ (.head _)) hne (by rw[←hC];exact .there (.there (.there .here))) (.there (.there (.there (.there .here)))) (by simp;omega)
 refine h.drop fun v σ' q=>⟨σ',.refl _,q.1,?_⟩
 rw[q.2]
 refine .of_sub ?_
 show List.Sublist ((F.y,_)::(F.dy,_)::(F.l,_)::(F.x,isA F.C F.d (us.map fun t=>.ref t.1))::(F.d,_)::(F.Plen,isPt)::(F.Pstr,isPt)::(tups us++rest)) ((F.y,_)::(F.dy,_)::(F.l,_)::(F.x,isA F.C F.d (us.map fun t=>.ref t.1))::(F.d,_)::(F.Plen,isPt)::(F.Pstr,isPt)::(tups ts++((b,isL (us.map fun t=>.ref t.1))::(tups us++rest))))
 exact .cons₂ _ (.cons₂ _ (.cons₂ _ (.cons₂ _ (.cons₂ _ (.cons₂ _ (.cons₂ _ (.trans (.cons _ (.refl _)) (List.sublist_append_right _ _))))))))
end
end Mine
end
section
set_option maxRecDepth 100000
set_option maxHeartbeats 4000000
open PySem PySem.W PyProof.Rows PySem.Calls
namespace Mine
section
variable {prog:Program}{w:World}{T:Tops}{n:Nat}{a:AcAds}{f:FmAds}{F:FmA}{ml:Int}{sp:List Nat}{lines:List (List Nat)}{ts:List (Addr×Pr)}{z:Nat}{rest:Led}
noncomputable def ChunkR (F:FmA) (ml:Int) (sp:List Nat) (rest:Led) (st:List (List Nat)×List Pr×Nat) (σ':Led):Prop:= ∃us:List (Addr×Pr),us.map (·.2)=st.2.1∧Fit (fmL F ml sp st.1 us st.2.2++rest) σ'
theorem chunk_cut (B:FK prog T f a) (A:FmAt F f a) {A':Around}{L:Addr}{g:Heap}{os:OsState}{fw s:List Nat}{c pp:Option PV}{i:Nat}(hn:ts.length≤1000) (hs:Small (ts.map (·.2)) z) (hll:lines.length≤100000) (hi:i≤ts.length)
  (O:XOK T (n+7) (chX f A' L g os)) (Y:Lay (chX f A' L g os)) {R:PV→Led→Prop}(hR: ∀σ',ChunkR F ml sp rest (lines++[tS ((ts.map (·.2)).take i)],(ts.map (·.2)).drop i,0) σ'→R .none σ'):
  SE prog w (chX f A' L g os) ((ifBody chIf).drop 1) (rcR F.y fw s c (some (.int i)) pp none none) (fmL F ml sp lines ts z++rest) (fun f' _ σ'=>f'= .next∧R .none σ'):=by
 have hs':Small ((ts.take i).map (·.2)) z:=⟨hs.z,by rw[List.map_take];exact Nat.le_trans (wS_take _ _) hs.w,by have:=hs.n;simp at this ⊢;omega⟩
 refine se_cons (s1_assign_g (R:=fun r σ'=> ∃b,r= .ref b∧Fit (fmL F ml sp lines (ts.take i) z++((b,isL ((ts.drop i).map fun t=>.ref t.1))::(tups (ts.drop i)++rest))) σ')
  (ge_own (k:=n+1) O rfl B.D.lk.cls B.D.popf (pe_fm B A (lines:=lines) (ts:=ts) (z:=z) O Y (.head _) (.head _) (by simp) (fm_two (.refl _))) (obtA (fm_x A) fm_d) (by show (_:Str)∉[("_initial_size":Str)];decide) (ag_of_ae (ae1 (pe_local Y mI4))) (by omega) (fun vs σ' h=>by obtain⟨h1,h2⟩:=h;subst h1;rw[h2];exact popf_fm B.D A.C hi hn)) (fun v σ' h=> ?_))
 obtain⟨b,rfl,hfit⟩:=h
 refine⟨_,_,fun u hu=>store_local Y (.there (.there (.there (.there (.there (.there (.there .here))))))) hu,SE.fit hfit ?_⟩
 refine se_cons (s1_append (ps:=pvS lines) (pe_fm B A (lines:=lines) (ts:=ts.take i) (z:=z) O Y (.head _) mI1 (by simp) (fm_two (.refl _))) (ge_of_pe (str_ge B A (m:=n+2) (O.le (by omega)) rfl (pe_fm B A (lines:=lines) (ts:=ts.take i) (z:=z) O Y (.head _) (.head _) (by simp) (fm_two (.refl _))) hs' rfl rfl rfl)) (fun v σ' h=> ?_) fm_l (by simp[pvS];omega))
 obtain⟨rfl,rfl⟩:=h
 refine⟨fmL F ml sp (lines++[tS ((ts.take i).map (·.2))]) (ts.take i) z++((b,isL ((ts.drop i).map fun t=>.ref t.1))::(tups (ts.drop i)++rest)),by rw[pvS_snoc];exact .there (.there .here),?_⟩
 refine se_cons (s1_expr (R:=fun r σ'=>r= .none∧Fit (fmL F ml sp (lines++[tS ((ts.take i).map (·.2))]) (ts.drop i) 0++rest) σ') (ge_own (k:=n+1) O rfl B.D.lk.cls B.D.reset (pe_fm B A (lines:=lines++[tS ((ts.take i).map (·.2))]) (ts:=ts.take i) (z:=z) O Y (.head _) (.head _) (by simp) (fm_two (.refl _))) (obtA (fm_x A) fm_d) (by show (_:Str)∉[("_initial_size":Str)];decide) (ag_of_ae (ae1 (pe_local Y mI7))) (by omega) (fun vs σ' h=>by obtain⟨h1,h2⟩:=h;subst h1;rw[h2];exact reset1_fm B.D A.C (by simp;omega) (by simp;omega))) (fun v σ' h=>⟨h.1,se_nil ⟨rfl,hR _ ⟨ts.drop i,by rw[List.map_drop],?_⟩⟩⟩))
 rw[←List.map_take]
 exact h.2
theorem Fit.mem {a b:Led}(h:Fit a b) {q:Addr×(Obj→Prop)}(hq:q∈a):q∈b:=by
 obtain⟨l,hp,hs⟩:=h
 exact hs.mem (hp.mem_iff.mpr hq)
theorem nlTs_small {l:List Pr}{z:Nat}(h:Small l z):Small (nlTs l) z:=by
 unfold nlTs
 split
 ·exact⟨h.z,by simp[wS],by simp⟩
 ·split
  ·refine⟨h.z,?_,by have:=h.n;simp;omega⟩
   rw[List.dropLast_eq_take]
   exact Nat.le_trans (wS_take _ _) h.w
  ·exact h
theorem chunk_pop (B:FK prog T f a) (A:FmAt F f a) {A':Around}{L:Addr}{g:Heap}{os:OsState}{fw u s:List Nat}{c io pp:Option PV}{t:Addr}(hn:ts.length≤899) (hs:Small (ts.map (·.2)) z) (hll:lines.length≤100000) (hu:u.length≤1000000)
  (hsp:0<z→Txt.isspace (mk (tS (nlTs (ts.map (·.2)))))=false)
  (O:XOK T (n+7) (chX f A' L g os)) (Y:Lay (chX f A' L g os)) {R:PV→Led→Prop}(hR: ∀σ',ChunkR F ml sp rest (if z=0 then (lines,ts.map (·.2)++[(u,s)],0) else (lines++[tS (nlTs (ts.map (·.2)))],[(if u=[] then [32] else u,s)],0)) σ'→R .none σ'):
  SE prog w (chX f A' L g os) (forElse chFor) (rcR F.y fw s c io pp none none) (fmL F ml sp lines (ts++[(t,u,s)]) z++rest) (fun f' _ σ'=>f'= .ret .none∧R .none σ'):=by
 refine se_cons (s1_unpack (ts:=[assign _ _,assign _ _]) (R:=fun v σ'=>v= .ref t∧Fit ((t,isT [.str u,.str s])::(fmL F ml sp lines ts z++rest)) σ')
  (ge_own (k:=n+2) O rfl B.D.lk.cls B.D.pop (pe_fm B A (lines:=lines) (ts:=ts++[(t,u,s)]) (z:=z) O Y (.head _) (.head _) (by simp) (fm_two (.refl _))) (obtA (fm_x A) fm_d) (by show (_:Str)∉[("_initial_size":Str)];decide) (ag_of_ae ae0) (by omega) (fun vs σ' h=> ?_)) (fun v σ' h=> ?_) rfl)
 ·obtain⟨h1,h2⟩:=h
  subst h1
  rw[h2]
  refine(pop_fm B.D B.S A.C (by simp;omega)).drop fun v σ' h=>⟨σ',.refl _,?_⟩
  rcases h with ⟨h,_⟩ | ⟨i,p,h,rfl,k⟩
  ·simp at h
  ·obtain⟨h1,h2⟩:=List.append_inj' h rfl
   cases h2
   subst h1
   exact⟨rfl,k⟩
 ·obtain⟨rfl,hfit⟩:=h
  refine⟨t,_,rfl,un_tuple O.hh (hfit.mem (.head _)),rfl,ts_cons (tg_name (fun u hu=>store_local Y (.there .here) hu)) (ts_cons (tg_name (fun u hu=>store_local Y (.there (.there (.there (.there (.there (.there .here)))))) hu)) (ts_nil (SE.fit hfit (SE.sub ?_ (.cons _ (.refl _))))))⟩
  have hts:ts.length≤1000:=by omega
  have tail: ∀(fw:List Nat) (lines':List (List Nat)) (ts':List (Addr×Pr)) (z':Nat),ts'.length≤1000→(∀t2 σ',Fit (fmL F ml sp lines' (ts'++[(t2,fw,s)]) z'++rest) σ'→R .none σ')→
    SE prog w (chX f A' L g os) ((forElse chFor).drop 2) (rcR F.y fw s c io pp (some (.str s)) none) (fmL F ml sp lines' ts' z'++rest) (fun f' _ σ'=>f'= .ret .none∧R .none σ'):=by
   intro fw lines' ts' z' hl' hR'
   refine se_cons (s1_expr (R:=fun r σ'=>r= .none∧ ∃t2,Fit (fmL F ml sp lines' (ts'++[(t2,fw,s)]) z'++rest) σ') (ge_own (k:=n+1) O rfl B.D.lk.cls B.D.push (pe_fm B A (lines:=lines') (ts:=ts') (z:=z') O Y (.head _) (.head _) (by simp) (fm_two (.refl _))) (obtA (fm_x A) fm_d) (by show (_:Str)∉[("_initial_size":Str)];decide) (ag_of_ae (ae2 (pe_local Y mI1) (pe_local Y mI6))) (by omega) (fun vs σ' h=>by obtain⟨h1,h2⟩:=h;subst h1;rw[h2];exact push_fm B.D A.C hl')) (fun v σ' h=>⟨h.1,?_⟩))
   obtain⟨t2,ht2⟩:=h.2
   exact se_cons (s1_return0 ⟨rfl,hR' t2 _ ht2⟩)
  refine se_cons (s1_if (c:=decide (0<(z:Int))) (be_cmp (pe_attr O B.D.lk.cls (pe_fm B A (lines:=lines) (ts:=ts) (z:=z) O Y (.head _) (.head _) (by simp) (fm_two (.refl _))) (obtA (fm_x A) fm_d) (.head _) B.D.no) pe_int cm_gt) (fun h=> ?_) (fun h=> ?_))
  ·have hz:0<z:=by have:=of_decide_eq_true h;omega
   refine se_cons (s1_expr (R:=fun r σ'=>r= .none∧σ'=fmL F ml sp (lines++[tS (nlTs (ts.map (·.2)))]) [] 0++rest) (ge_own (k:=n+6) O rfl B.E.cls B.E.newline (pe_local Y (.head _)) (obtO (d:=F.dy) (by rw[←A.cF];exact .head _) mI1) (by show (_:Str)∉[("_current_line":Str),"_lines","_splitchars","_continuation_ws_len","_continuation_ws","_maxlen"];decide) (ag_of_ae ae0) (by omega) (fun vs σ' h=>by obtain⟨h1,h2⟩:=h;subst h1;rw[h2];exact newline_fn B A (nlTs_small hs) (by omega) (hsp hz) (by omega) hll)) (fun v σ' h=>⟨h.1,?_⟩))
   rw[h.2]
   have hz0:z≠0:=by omega
   rw[if_neg hz0] at hR
   refine se_cons (s1_if (c:= !(!u.isEmpty)) (be_not (be_truthy (pe_local Y mI1) (fun u s h I=>tr_str (by omega) u s h I))) (fun h=> ?_) (fun h=> ?_))
   ·have hu0:u=[]:=by cases u with | nil=>rfl | cons _ _=>cases h
    refine se_cons (s1_assign Y pe_str (.there .here) (se_nil (se_nil (tail _ _ [] 0 (by simp) (fun t2 σ' hf=>hR σ' ⟨[(t2,[32],s)],?_,hf⟩)))))
    rw[if_pos hu0];rfl
   ·have hu0:u≠[]:=by rintro rfl;cases h
    refine se_nil (se_nil (tail _ _ [] 0 (by simp) (fun t2 σ' hf=>hR σ' ⟨[(t2,u,s)],?_,hf⟩)))
    rw[if_neg hu0];rfl
  ·have hz:z=0:=by have:=of_decide_eq_false h;omega
   subst hz
   rw[if_pos rfl] at hR
   exact se_nil (tail _ _ ts 0 hts (fun t2 σ' hf=>hR σ' ⟨ts++[(t2,u,s)],by simp,hf⟩))
theorem chunk_fn (B:FK prog T f a) (A:FmAt F f a) {u s:List Nat}(hn:ts.length≤800) (hs:Small (ts.map (·.2)++[(u,s)]) z) (hll:lines.length≤100000)
  (hsp:0<z→findC (ts.map (·.2)++[(u,s)]) sp=none→Txt.isspace (mk (tS (nlTs (ts.map (·.2)))))=false):
  Fn prog w T (n+8) (.ref f.chunk) [.ref F.y,.str u,.str s] (fmL F ml sp lines ts z++rest) (fun r σ'=>r= .none∧ ∃us:List (Addr×Pr),us.map (·.2)=(chunkS lines (ts.map (·.2)) z ml sp u s).2.1∧σ'=fmL F ml sp (chunkS lines (ts.map (·.2)) z ml sp u s).1 us (chunkS lines (ts.map (·.2)) z ml sp u s).2.2++rest):=
 Fn.fit (R:=fun r σ'=>r= .none∧ChunkR F ml sp rest (chunkS lines (ts.map (·.2)) z ml sp u s) σ') (meth_intro B.E.chunk.fn ["self","fws","string"] ["ch","i","prevpart","part","remainder"] (fun us hv=>⟨us,hv,fun kV doc pm an ct s _=>.of_eq (by match us,hv.length with | [_,_,_],_=>rfl)⟩) (by decide) (by decide) rfl (by decide) rfl rfl rfl (fun A' L g os O Y=>by
  show SE prog w (chX f A' L g os) (bodyOf (FM 8)) (rcR F.y u s none none none none none) _ _
  have hw:=hs.w
  have hz:=hs.z
  have hw0:wS (ts.map (·.2))≤1000000:=by
   have:=wS_take (ts.map (·.2)++[(u,s)]) (ts.map (·.2)).length
   rw[List.take_left] at this
   omega
  have hu:u.length≤1000000:=by have h:u.length+s.length≤_:=wS_mem (l:=ts.map (·.2)++[(u,s)]) (t:=(u,s)) (by simp);omega
  refine se_cons (s1_expr (R:=fun r σ'=>r= .none∧ ∃t,Fit (fmL F ml sp lines (ts++[(t,u,s)]) z++rest) σ') (ge_own (k:=n+1) O rfl B.D.lk.cls B.D.push (pe_fm B A (lines:=lines) (ts:=ts) (z:=z) O Y (.head _) (.head _) (by simp) (fm_two (.refl _))) (obtA (fm_x A) fm_d) (by show (_:Str)∉[("_initial_size":Str)];decide) (ag_of_ae (ae2 (pe_local Y mI1) (pe_local Y mI2))) (by omega) (fun vs σ' h=>by obtain⟨h1,h2⟩:=h;subst h1;rw[h2];exact push_fm B.D A.C (by omega))) (fun v σ' h=>⟨h.1,?_⟩))
  obtain⟨t,ht⟩:=h.2
  refine SE.fit ht ?_
  have em:(ts++[(t,u,s)]).map (·.2)=ts.map (·.2)++[(u,s)]:=by simp
  have hs1:Small ((ts++[(t,u,s)]).map (·.2)) z:=by rw[em];exact hs
  refine se_cons (s1_if (be_cmp (len_pe B A (m:=n+5) (O.le (by omega)) rfl (pe_fm B A (lines:=lines) (ts:=ts++[(t,u,s)]) (z:=z) O Y (.head _) (.head _) (by simp) (fm_two (.refl _))) hs1 rfl rfl rfl) (pe_fm B A (lines:=lines) (ts:=ts++[(t,u,s)]) (z:=z) O Y (.head _) mI5 (by simp) (fm_two (.refl _))) cm_gt) (fun h=> ?_) (fun h=> ?_))
  ·have h:=of_decide_eq_true h
   rw[em] at h
   have e1:chunkS lines (ts.map (·.2)) z ml sp u s=match findC (ts.map (·.2)++[(u,s)]) sp with
     | some i=>(lines++[tS ((ts.map (·.2)++[(u,s)]).take i)],(ts.map (·.2)++[(u,s)]).drop i,0)
     | none=>if z=0 then (lines,ts.map (·.2)++[(u,s)],0) else (lines++[tS (nlTs (ts.map (·.2)))],[(if u=[] then [32] else u,s)],0):=by
    unfold chunkS;rw[if_neg (by omega)]
    generalize findC (ts.map (·.2)++[(u,s)]) sp=o
    cases o<;>rfl
   refine se_cons (outer_for B A (ts:=ts++[(t,u,s)]) (by simp) (by simp;omega) (by rw[em];exact hw) O Y (fun i fw c pp σ' hc hsub=> ?_) (fun fw c io pp hc=> ?_))
   ·rw[em] at hc
    have hi:=findC_le _ _ _ hc
    refine SE.sub ?_ hsub
    refine SE.mono (chunk_cut (R:=fun r σ'=>r= .none∧ChunkR F ml sp rest (chunkS lines (ts.map (·.2)) z ml sp u s) σ') B A (i:=i) (by simp;omega) hs1 hll (by simp at hi ⊢;omega) O Y (fun σ' hR=>⟨rfl,?_⟩)) (fun f' ρ' σ' q=> ?_)
    ·rw[em] at hR
     rw[e1,hc]
     exact hR
    ·obtain⟨rfl,q⟩:=q
     exact se_nil q
   ·rw[em] at hc
    refine SE.mono (chunk_pop (R:=fun r σ'=>r= .none∧ChunkR F ml sp rest (chunkS lines (ts.map (·.2)) z ml sp u s) σ') B A (by omega) ⟨hz,hw0,by simp;omega⟩ hll hu (fun h0=>hsp h0 hc) O Y (fun σ' hR=>⟨rfl,?_⟩)) (fun f' ρ' σ' q=> ?_)
    ·rw[e1,hc]
     exact hR
    ·obtain⟨rfl,q⟩:=q
     exact q
  ·have h:=of_decide_eq_false h
   rw[em] at h
   refine se_nil (se_nil ⟨rfl,ts++[(t,u,s)],?_,?_⟩)
   ·unfold chunkS;rw[if_pos (by omega)];exact em
   ·unfold chunkS;rw[if_pos (by omega)];exact .refl _)) (fun v σ' h=>by
  obtain⟨h1,us,h2,h3⟩:=h
  exact⟨_,h3,h1,us,h2,rfl⟩)
theorem fstr_fn (B:FK prog T f a) (A:FmAt F f a) {sep:List Nat}(hs:Small (nlTs (ts.map (·.2))) z) (hn:ts.length≤900) (hsp:Txt.isspace (mk (tS (nlTs (ts.map (·.2)))))=false) (hpos:0<z+wS (nlTs (ts.map (·.2)))) (hll:lines.length≤1000)
  (hj:((lines++[tS (nlTs (ts.map (·.2)))]).map (·.length)).sum+(lines++[tS (nlTs (ts.map (·.2)))]).length*sep.length≤16777216):
  Fn prog w T (n+7) (.ref f.str) [.ref F.y,.str sep] (fmL F ml sp lines ts z++rest) (fun r σ'=>r= .str (joinS sep (lines++[tS (nlTs (ts.map (·.2)))]))∧σ'=fmL F ml sp (lines++[tS (nlTs (ts.map (·.2)))]) [] 0++rest):=
 meth_intro B.E.str.fn ["self","linesep"] [] (fun us hv=>⟨us,hv,fun kV doc pm an ct s _=>.of_eq (by match us,hv.length with | [_,_],_=>rfl)⟩) (by decide) (by decide) rfl (by decide) rfl rfl rfl (fun A' L g os O Y=>by
  show SE _ _ _ _ [(("self":Str),some (.ref F.y)),(("linesep":Str),some (.str sep))] _ _
  refine se_cons (s1_expr (R:=fun r σ'=>r= .none∧σ'=fmL F ml sp (lines++[tS (nlTs (ts.map (·.2)))]) [] 0++rest) (ge_own (k:=n+6) O rfl B.E.cls B.E.newline (pe_local Y (.head _)) (obtO (d:=F.dy) (by rw[←A.cF];exact .head _) mI1) (by show (_:Str)∉[("_current_line":Str),"_lines","_splitchars","_continuation_ws_len","_continuation_ws","_maxlen"];decide) (ag_of_ae ae0) (by omega) (fun vs σ' h=>by obtain⟨h1,h2⟩:=h;subst h1;rw[h2];exact newline_fn B A hs hn hsp hpos (by omega))) (fun v σ' h=>⟨h.1,?_⟩))
  rw[h.2]
  refine se_cons (s1_return (pe_join (pe_local Y mI1) (ge_of_pe (pe_fm B A (lines:=lines++[tS (nlTs (ts.map (·.2)))]) (ts:=[]) (z:=0) O Y (.head _) mI1 (by simp) (fm_two (.refl _)))) (fun v σ' r=> ?_) hj) ⟨rfl,rfl⟩)
  obtain⟨rfl,rfl⟩:=r
  exact⟨F.l,rfl,fm_l,.refl _⟩)
end
end Mine
end
section
set_option maxRecDepth 100000
set_option maxHeartbeats 4000000
open PySem PySem.W PyProof.Rows PySem.Calls
namespace Mine
noncomputable def firstS (lt:Nat→Nat→Bool):Nat→Nat
 | 0=>1
 | m+1=>if lt (m+2) (firstS lt m) then m+2 else firstS lt m
noncomputable def lastS (lt:Nat→Nat→Bool):Nat→Nat
 | 0=>1
 | m+1=>if lt (lastS lt m) (m+2) then m+2 else lastS lt m
noncomputable def kindS (n f g p:Nat):Nat:=if g≤p then 0 else if p<n-f then 1 else 2
noncomputable def nextS (n f g p:Nat):Nat:=if kindS n f g p=0 then p-g else if kindS n f g p=1 then p+f else p+f-g
noncomputable def plS (n f g:Nat):Nat→Nat
 | 0=>0
 | k+1=>nextS n f g (plS n f g k)
noncomputable def glC (kd:Nat):List Nat:=if kd=0 then [201] else if kd=1 then [200] else [200,201]
noncomputable def codeS (n f g:Nat):List Nat:=((List.range n).map fun k=>(97+plS n f g k)::glC (kindS n f g (plS n f g k))).flatten
noncomputable def chrisS (f g:Nat):List Nat:=(List.range (f+g)).map fun k=>if k*f%(f+g)<g then 200 else 201
noncomputable def posS (l:List Nat) (j:Nat):Nat:=l.idxOf (97+j)
structure Three (n f g:Nat) (lt:Nat→Nat→Bool):Prop where
 n2:2≤n
 n8:n≤8
 hf:1≤f∧f<n
 hg:1≤g∧g<n
 pl: ∀k,k<n→plS n f g k<n
 two: ∀k,k<n→kindS n f g (plS n f g k)=2→g≤plS n f g k+f
 len:4≤(codeS n f g).length∧(codeS n f g).length≤30
 head:(codeS n f g).getD 0 0=97∧(codeS n f g).getD 1 0=200
 tail:(codeS n f g).drop ((codeS n f g).length-2)=[97+g,201]
 pos: ∀j,j<n→posS (codeS n f g) j<(codeS n f g).length∧ ∀i,i<(codeS n f g).length→((codeS n f g).getD i 0==97+j)=(i==posS (codeS n f g) j)
 mid: ∀j,j<n→(decide (1≤posS (codeS n f g) j)&&decide (posS (codeS n f g) j+2<(codeS n f g).length))= !(j==0||j==g)
 ord: ∀j,j<n→ ∀k,k<n→j<k→decide (posS (codeS n f g) j<posS (codeS n f g) k)=lt j k
 chris:(codeS n f g).filter (fun c=>decide (104<c))=chrisS f g
 let': ∀c∈codeS n f g,(97≤c∧c<97+n)∨c=200∨c=201
noncomputable def qS (N s n:Nat):List Nat:=(List.range n).map fun k=>k*s/N
noncomputable def qSeqs:Nat→List (List Nat)
 | 0=>[[0,0]]
 | m+1=>(qSeqs m).flatMap fun q=>[q++[q.getD (m+1) 0],q++[q.getD (m+1) 0+1]]
noncomputable def validQ (n:Nat) (q:List Nat):Bool:=(List.range n).all fun i=>(List.range n).all fun j=> !decide (i+j<n)||(decide (q.getD i 0+q.getD j 0≤q.getD (i+j) 0)&&decide (q.getD (i+j) 0≤q.getD i 0+q.getD j 0+1))
noncomputable def ltQ (q:List Nat) (i j:Nat):Bool:=if i<j then q.getD j 0==q.getD i 0+q.getD (j-i) 0 else if j<i then !(q.getD i 0==q.getD j 0+q.getD (i-j) 0) else false
noncomputable def threeC (n f g:Nat) (lt:Nat→Nat→Bool) (l:List Nat) (ps:List Nat):Bool:=
 (decide (1≤f)&&decide (f<n)&&decide (1≤g)&&decide (g<n))&&
 (List.range n).all (fun k=>decide (plS n f g k<n)&&(!(kindS n f g (plS n f g k)==2)||decide (g≤plS n f g k+f)))&&
 (decide (4≤l.length)&&decide (l.length≤30)&&l.getD 0 0==97&&l.getD 1 0==200&&l.drop (l.length-2)==[97+g,201])&&
 (List.range n).all (fun j=>decide (ps.getD j 0<l.length)&&(List.range l.length).all (fun i=>(l.getD i 0==97+j)==(i==ps.getD j 0))&&
  ((decide (1≤ps.getD j 0)&&decide (ps.getD j 0+2<l.length))== !(j==0||j==g))&&
  (List.range n).all (fun k=> !decide (j<k)||decide (ps.getD j 0<ps.getD k 0)==lt j k))&&
 (l.filter (fun c=>decide (104<c))==chrisS f g)&&l.all (fun c=>(decide (97≤c)&&decide (c<97+n))||c==200||c==201)
noncomputable def courseC (n:Nat) (q:List Nat) (f g:Nat):Bool:=threeC n f g (ltQ q) (codeS n f g) ((List.range n).map (posS (codeS n f g)))
noncomputable def allC:Bool:=(List.range 7).all fun m=>(qSeqs m).all fun q=> !validQ (m+2) q||courseC (m+2) q (firstS (ltQ q) m) (lastS (ltQ q) m)
theorem allC_ok:allC=true:=by decide+kernel
theorem three_of {n f g:Nat}{lt:Nat→Nat→Bool}(h2:2≤n) (h8:n≤8) (h:threeC n f g lt (codeS n f g) ((List.range n).map (posS (codeS n f g)))=true):Three n f g lt:=by
 have hp: ∀j,j<n→((List.range n).map (posS (codeS n f g))).getD j 0=posS (codeS n f g) j:=fun j hj=>by
  rw[List.getD_eq_getElem?_getD,List.getElem?_map,List.getElem?_range hj];rfl
 unfold threeC at h
 simp only[Bool.and_eq_true,decide_eq_true_eq,List.all_eq_true,List.mem_range,beq_iff_eq] at h
 obtain⟨⟨⟨⟨⟨h1,h3⟩,h4⟩,h5⟩,h6⟩,h7⟩:=h
 refine⟨h2,h8,⟨h1.1.1.1,h1.1.1.2⟩,⟨h1.1.2,h1.2⟩,fun k hk=>(h3 k hk).1,fun k hk e=> ?_,⟨h4.1.1.1.1,h4.1.1.1.2⟩,⟨h4.1.1.2,h4.1.2⟩,h4.2,fun j hj=> ?_,fun j hj=> ?_,fun j hj k hk hjk=> ?_,h6,fun c hc=> ?_⟩
 ·have:=(h3 k hk).2
  simpa [e] using this
 ·have:=h5 j hj
  rw[hp j hj] at this
  exact⟨this.1.1.1,fun i hi=>this.1.1.2 i hi⟩
 ·have:=h5 j hj
  rw[hp j hj] at this
  exact this.1.2
 ·have:=(h5 j hj).2 k hk
  rw[hp j hj,hp k hk] at this
  simpa [hjk] using this
 ·have:=h7 c hc
  simp only[Bool.or_eq_true,Bool.and_eq_true,decide_eq_true_eq,beq_iff_eq] at this
  rcases this with (h | h) | h
  ·exact .inl h
  ·exact .inr (.inl h)
  ·exact .inr (.inr h)
end Mine
end
section
set_option maxRecDepth 100000
set_option maxHeartbeats 4000000
open PySem PySem.W PyProof.Rows PySem.Calls
namespace Mine
theorem qS_get {N s n i:Nat}(h:i<n):(qS N s n).getD i 0=i*s/N:=by
 unfold qS
 rw[List.getD_eq_getElem?_getD,List.getElem?_map,List.getElem?_range h];rfl
section
variable {N s:Nat}(hN:0<N)
include hN
theorem div_sum (a b:Nat):a/N+b/N≤(a+b)/N∧(a+b)/N≤a/N+b/N+1:=by
 constructor
 ·rw[Nat.le_div_iff_mul_le hN,Nat.add_mul]
  have h1:=Nat.div_mul_le_self a N
  have h2:=Nat.div_mul_le_self b N
  omega
 ·refine Nat.le_of_lt_succ ?_
  rw[Nat.div_lt_iff_lt_mul hN]
  have h1:=Nat.div_add_mod a N
  have h2:=Nat.div_add_mod b N
  have m1:=Nat.mod_lt a hN
  have m2:=Nat.mod_lt b hN
  have e:(a/N+b/N+1).succ*N=N*(a/N)+N*(b/N)+2*N:=by
   rw[show (a/N+b/N+1).succ=a/N+b/N+2 from rfl,Nat.add_mul,Nat.add_mul,Nat.mul_comm (a/N),Nat.mul_comm (b/N)]
  omega
theorem qS_mem (hs:s<N): ∀m,qS N s (m+2)∈qSeqs m
 | 0=>by
  have e:qS N s 2=[0,0]:=by
   show [0*s/N,1*s/N]=[0,0]
   rw[Nat.zero_mul,Nat.one_mul,Nat.zero_div,Nat.div_eq_of_lt hs]
  rw[e];exact .head _
 | m+1=>by
  refine List.mem_flatMap.mpr ⟨_,qS_mem hs m,?_⟩
  have e:qS N s (m+1+2)=qS N s (m+2)++[(m+2)*s/N]:=by
   unfold qS
   rw[show m+1+2=(m+2)+1 by omega,List.range_succ,List.map_append];rfl
  have h:=div_sum hN ((m+1)*s) s
  rw[←Nat.succ_mul,Nat.div_eq_of_lt hs] at h
  rw[e,qS_get (by omega)]
  have h1:(m+1).succ*s/N=(m+2)*s/N:=rfl
  rw[h1] at h
  rcases (show (m+2)*s/N=(m+1)*s/N∨(m+2)*s/N=(m+1)*s/N+1 by omega) with q | q
  ·rw[q];exact .head _
  ·rw[q];exact .tail _ (.head _)
theorem qS_valid (n:Nat):validQ n (qS N s n)=true:=by
 unfold validQ
 rw[List.all_eq_true]
 intro i hi
 rw[List.all_eq_true]
 intro j hj
 have hi:=List.mem_range.mp hi
 have hj:=List.mem_range.mp hj
 by_cases h:i+j<n
 ·rw[qS_get hi,qS_get hj,qS_get h,Nat.add_mul]
  have:=div_sum hN (i*s) (j*s)
  simp[this.1,this.2]
 ·simp[h]
theorem ltQ_is {n i j:Nat}(hd: ∀k,0<k→k<n→k*s%N≠0) (hi:i<n) (hj:j<n):ltQ (qS N s n) i j=decide (i*s%N<j*s%N):=by
 have key: ∀i j,i<j→j<n→(j*s/N=i*s/N+(j-i)*s/N∧i*s%N<j*s%N)∨(j*s/N=i*s/N+(j-i)*s/N+1∧j*s%N<i*s%N):=by
  intro i j hij hj
  have hp:=hd (j-i) (by omega) (by omega)
  have e:j*s=i*s+(j-i)*s:=by rw[←Nat.add_mul];congr 1;omega
  rw[e]
  generalize i*s=a
  generalize (j-i)*s=b at*
  have h1:=Nat.div_add_mod a N
  have h2:=Nat.div_add_mod b N
  have h3:=Nat.div_add_mod (a+b) N
  have m1:=Nat.mod_lt a hN
  have m2:=Nat.mod_lt b hN
  have m3:=Nat.mod_lt (a+b) hN
  obtain⟨d1,d2⟩:=div_sum hN a b
  rcases (show (a+b)/N=a/N+b/N∨(a+b)/N=a/N+b/N+1 by omega) with q | q
  ·refine .inl ⟨q,?_⟩
   rw[q,Nat.mul_add] at h3
   omega
  ·refine .inr ⟨q,?_⟩
   rw[q,Nat.mul_add,Nat.mul_add,Nat.mul_one] at h3
   omega
 unfold ltQ
 rw[qS_get hi,qS_get hj]
 by_cases h:i<j
 ·rw[if_pos h,qS_get (by omega)]
  rcases key i j h hj with ⟨q,r⟩ | ⟨q,r⟩
  ·rw[q,decide_eq_true r];simp
  ·rw[decide_eq_false (by omega),q];simp
 ·rw[if_neg h]
  by_cases h':j<i
  ·rw[if_pos h',qS_get (by omega)]
   rcases key j i h' hi with ⟨q,r⟩ | ⟨q,r⟩
   ·rw[decide_eq_false (by omega),q];simp
   ·rw[decide_eq_true r,q];simp
  ·rw[if_neg h',show i=j by omega];simp
theorem apart {n:Nat}(hn:n≤N/Nat.gcd N s): ∀k,0<k→k<n→k*s%N≠0:=by
 intro k h0 hk e
 have hg:0<Nat.gcd N s:=Nat.gcd_pos_of_pos_left _ hN
 obtain⟨N',hN'⟩:=Nat.gcd_dvd_left N s
 obtain⟨s',hs'⟩:=Nat.gcd_dvd_right N s
 have hco:Nat.Coprime N' s':=by
  have:=Nat.coprime_div_gcd_div_gcd hg
  rw[Nat.div_eq_of_eq_mul_right hg hN',Nat.div_eq_of_eq_mul_right hg hs'] at this
  exact this
 have hNd:N/Nat.gcd N s=N':=Nat.div_eq_of_eq_mul_right hg hN'
 have hdv:N∣k*s:=Nat.dvd_of_mod_eq_zero e
 have h2:Nat.gcd N s*N'∣Nat.gcd N s*(k*s'):=by
  rw[←hN',show Nat.gcd N s*(k*s')=k*(Nat.gcd N s*s') by rw[←Nat.mul_assoc,Nat.mul_comm _ k,Nat.mul_assoc],←hs']
  exact hdv
 have h3:N'∣k*s':=Nat.dvd_of_mul_dvd_mul_left hg h2
 have h4:N'∣k:=hco.dvd_of_dvd_mul_right h3
 have:=Nat.le_of_dvd h0 h4
 omega
end
theorem firstS_ext {lt lt':Nat→Nat→Bool}{n:Nat}(h: ∀i j,i<n→j<n→lt i j=lt' i j): ∀m,m+2≤n→firstS lt m=firstS lt' m∧firstS lt m<m+2
 | 0,_=>⟨rfl,Nat.lt_succ_self 1⟩
 | m+1,hm=>by
  obtain⟨e,l⟩:=firstS_ext h m (by omega)
  rw[firstS,firstS,←e,h _ _ (by omega) (by omega)]
  refine⟨rfl,?_⟩
  split<;>omega
theorem lastS_ext {lt lt':Nat→Nat→Bool}{n:Nat}(h: ∀i j,i<n→j<n→lt i j=lt' i j): ∀m,m+2≤n→lastS lt m=lastS lt' m∧lastS lt m<m+2
 | 0,_=>⟨rfl,Nat.lt_succ_self 1⟩
 | m+1,hm=>by
  obtain⟨e,l⟩:=lastS_ext h m (by omega)
  rw[lastS,lastS,←e,h _ _ (by omega) (by omega)]
  refine⟨rfl,?_⟩
  split<;>omega
theorem word3 {r:Nat}(h:r<4096):wordS r 3=[97+r/16/16%16,97+r/16%16,97+r%16]:=by
 have hx: ∀r:Nat,r<4096→List.replicate (3-(hexs r).length) 0++hexs r=[r/16/16%16,r/16%16,r%16]:=by
  intro r h
  by_cases e0:r=0
  ·subst e0;simp[hexs]
  ·rw[hexs_pos e0]
   by_cases e1:r/16=0
   ·rw[e1];simp[hexs]
   ·rw[hexs_pos e1]
    by_cases e2:r/16/16=0
    ·rw[e2];simp[hexs,List.replicate]
    ·rw[hexs_pos e2,show r/16/16/16=0 by omega];simp[hexs]
 have:=congrArg (List.map (97+ ·)) (hx r h)
 rw[List.map_append,List.map_replicate] at this
 unfold wordS
 exact this
theorem word3_lt {r t:Nat}(hr:r<4096) (ht:t<4096):decide (wordS r 3<wordS t 3)=decide (r<t):=by
 rw[word3 hr,word3 ht]
 have hc: ∀a b c a' b' c':Nat,([a,b,c]<[a',b',c'])↔(a<a'∨a=a'∧(b<b'∨b=b'∧c<c')):=by
  intro a b c a' b' c'
  simp[List.cons_lt_cons_iff]
 have e:(([97+r/16/16%16,97+r/16%16,97+r%16]:List Nat)<[97+t/16/16%16,97+t/16%16,97+t%16])↔r<t:=by
  rw[hc];omega
 by_cases h:r<t
 ·rw[decide_eq_true (e.mpr h),decide_eq_true h]
 ·rw[decide_eq_false (fun q=>h (e.mp q)),decide_eq_false h]
noncomputable def ltW (N s i j:Nat):Bool:=decide (wordS (i*s%N) 3<wordS (j*s%N) 3)
theorem three_ok {N s n:Nat}(hN:N<4096) (hs:s<N) (h2:2≤n) (h8:n≤8) (hn:n≤N/Nat.gcd N s):Three n (firstS (ltW N s) (n-2)) (lastS (ltW N s) (n-2)) (ltW N s):=by
 have h0:0<N:=by omega
 obtain⟨m,rfl⟩: ∃m,n=m+2:=⟨n-2,by omega⟩
 rw[show m+2-2=m by omega]
 have hlt: ∀i j,i<m+2→j<m+2→ltW N s i j=ltQ (qS N s (m+2)) i j:=fun i j hi hj=>by
  rw[ltQ_is h0 (apart h0 hn) hi hj]
  exact word3_lt (by have:=Nat.mod_lt (i*s) h0;omega) (by have:=Nat.mod_lt (j*s) h0;omega)
 obtain⟨ef,lf⟩:=firstS_ext hlt m (Nat.le_refl _)
 obtain⟨eg,lg⟩:=lastS_ext hlt m (Nat.le_refl _)
 have hc:=List.all_eq_true.mp allC_ok m (List.mem_range.mpr (by omega))
 have hc:=List.all_eq_true.mp hc _ (qS_mem h0 hs m)
 rw[qS_valid h0] at hc
 have hc:courseC (m+2) (qS N s (m+2)) (firstS (ltQ (qS N s (m+2))) m) (lastS (ltQ (qS N s (m+2))) m)=true:=by simpa using hc
 rw[←ef,←eg] at hc
 have T:=three_of h2 h8 hc
 exact⟨T.n2,T.n8,T.hf,T.hg,T.pl,T.two,T.len,T.head,T.tail,T.pos,T.mid,fun j hj k hk hjk=>by rw[T.ord j hj k hk hjk,hlt j k hj hk],T.chris,T.let'⟩
end Mine
end
section
set_option maxRecDepth 100000
set_option maxHeartbeats 4000000
open PySem PySem.W PyProof.Rows PySem.Calls
namespace Mine
section
variable {prog:Program}{w:World}{X:Cx}{ρ ρ':Ro}{σ σ':Led}{T:Tops}{n:Nat}{R R':PV→Led→Prop}
end
end Mine
end
section
set_option maxRecDepth 100000
set_option maxHeartbeats 4000000
open PySem PySem.W PyProof.Rows PySem.Calls
namespace Mine
noncomputable def gtP:List ((Int×Tok)×(Int×Tok))→Bool
 | []=>false
 | (x,y)::r=>if x.1==y.1 then gtP r else decide (y.1<x.1)
noncomputable def gt2 (x1 x2 y1 y2:Int):Bool:=if x1==y1 then (if x2==y2 then false else decide (y2<x2)) else decide (y1<x1)
open PySem.SeqAt PySem.AutoSeq1 in
theorem tuple_gtAt (l b:Addr) (x1 x2 y1 y2:Int) (t1 t2 t3 t4:Tok) (n n2:Nat) (dd dd2:Option Addr) (sl sl2:Array (Option Value)):
  Meets (Builtin.«tuple.__gt__» ⟨[.ref l,.ref b],[]⟩)
   (fun A R s=>s.heap.get? l=some {cls:=.type "tuple",dict:=dd,data:=.seq #[.int x1 t1,.int x2 t2] n,slots:=sl}∧s.heap.get? b=some {cls:=.type "tuple",dict:=dd2,data:=.seq #[.int y1 t3,.int y2 t4] n2,slots:=sl2}∧
    R (.ok (.ret (.bool (gt2 x1 x2 y1 y2)))) s):=
 .of_wp fun prog w A R s h=>by
  obtain⟨hp,g,d,tk,os⟩:=s;obtain⟨hl,hb,h⟩:=h
  have f2:=AutoSeq1.sub_tuple_tuple
  wp_walk using wpAny_loadPart' hl,wpAny_loadPart' hb,wpAny_forIn_list _ (fun rest b s'=>b.1=none∧s'=⟨hp,g,d,tk,os⟩∧ ∃P:List ((Int×Tok)×(Int×Tok)),rest=P.map (fun p=>(Value.int p.1.1 p.1.2,Value.int p.2.1 p.2.2))∧
   R (.ok (.ret (.bool (gtP P)))) ⟨hp,g,d,tk,os⟩) _
  case turn=>
   rintro ⟨y,x⟩ rest b s' ⟨hb',rfl,P,hz,hR⟩
   cases P with
   | nil=>cases hz
   | cons p P=>
    obtain⟨⟨a1,a2⟩,⟨b1,b2⟩⟩:=p
    rw[List.map_cons] at hz
    injection hz with hyx hrest
    cases hyx
    refine wpAny_bind (wpAny_eqBool_int ?_)
    cases hy:(a1==b1) with
    | true=>
     unfold gtP at hR
     simp only[hy,if_true] at hR
     wp_walk
     exact⟨rfl,rfl,P,hrest,hR⟩
    | false=>
     unfold gtP at hR
     simp only[hy,Bool.false_eq_true,if_false] at hR
     simp only[Bool.not_false,if_true]
     refine wpAny_bind (wpAny_rule (wpAny_bind (gt_int (wpAny_bind (wpAny_pure (wpAny_pure (wpAny_pure ?_)))))))
     exact⟨_,rfl,hR⟩
  case fin=>
   rintro ⟨b1,b2⟩ s' ⟨hb',rfl,P,hz,hR⟩
   simp only at hb'
   subst hb'
   cases P with
   | cons p P=>cases hz
   | nil=>
    wp_walk
    exact⟨_,rfl,by simpa [Builtin.Tuple.tupleCompareSizes,gtP] using hR⟩
  case h=>
   exact⟨rfl,rfl,[((x1,t1),(y1,t3)),((x2,t2),(y2,t4))],rfl,by simpa [gtP,gt2] using h⟩
section
variable {prog:Program}{w:World}{X:Cx}{ρ ρ':Ro}{σ σ':Led}{T:Tops}{n:Nat}
theorem intE {a:Int}{u:Value}(h:VR (.int a) u): ∃t,u= .int a t:=by cases h;exact⟨_,rfl⟩
theorem gt_pairs (hu:X.A.units<cLine) {a b:Addr}{x1 x2 y1 y2:Int}(ha:At X σ a (isT [.int x1,.int x2])) (hb:At X σ b (isT [.int y1,.int y2])):
  Ev prog w X (richCompare .Gt (.ref a) (.ref b)) ρ σ (fun r s'=>r= .bool (gt2 x1 x2 y1 y2)∧Inv X ρ σ s'):=fun s I=>by
 obtain⟨o,ho,vs,n,hvs,rfl⟩:=ha.obj I
 obtain⟨o',ho',us,n',hus,rfl⟩:=hb.obj I
 obtain⟨v1,v2,rfl,r1,r2⟩:=hvs.two
 obtain⟨w1,w2,rfl,q1,q2⟩:=hus.two
 obtain⟨t1,rfl⟩:=intE r1
 obtain⟨t2,rfl⟩:=intE r2
 obtain⟨t3,rfl⟩:=intE q1
 obtain⟨t4,rfl⟩:=intE q2
 exact richCompare_meets_room (op:=.Gt) ⟨_,ho,rfl⟩ ⟨_,ho',rfl⟩ PySem.F.slot_tuple_gt PySem.F.entry_tuple_gt (PySem.F.args_tuple_gt_2 _ _) (tuple_gtAt a b x1 x2 y1 y2 t1 t2 t3 t4 _ _ _ _ _ _)
  ⟨ho,ho',show Value.bool (gt2 x1 x2 y1 y2)≠Value.notImplemented∧_ from ⟨(fun x=>nomatch x),rfl,I⟩⟩ hu
noncomputable abbrev P2:=Addr×Int×Int
noncomputable def best2 (b t:P2):P2:=if gt2 t.2.1 t.2.2 b.2.1 b.2.2 then t else b
noncomputable def pairs2 (ts:List P2):Led:=ts.map fun t=>(t.1,isT [.int t.2.1,.int t.2.2])
theorem refE {a:Addr}{u:Value}(h:VR (.ref a) u):u= .ref a:=by cases h;rfl
theorem getD_ref (ts:List P2) (i:Nat) (h:i<ts.length):(ts.map fun t=>PV.ref t.1).getD i .none= .ref (ts[i]).1:=by
 rw[List.getD_eq_getElem?_getD,List.getElem?_map,List.getElem?_eq_getElem h];rfl
theorem max_loop (hh:X.A.handled=none) (hu:X.A.units<9800) {a I S:Addr}{ts:List P2}{R:Result→Shared→Prop}(hm:(a,isL (ts.map fun t=>.ref t.1))∈σ) (hk: ∀t∈ts,(t.1,isT [.int t.2.1,.int t.2.2])∈σ):
  ∀(k j:Nat) (s:Shared) (b:P2),ts.length-j=k→j≤ts.length→b∈ts→Inv X ρ ((I,liI a I j)::(S,isL [.ref b.1,.ref b.1])::σ) s→
   (∀s',Inv X ρ ((S,isL [])::σ) s'→R (.ok (.ret (.ref ((ts.drop j).foldl best2 b).1))) s')→codeAny (model prog w) X.A (.builtin "max.loop" ⟨[.ref I,.none,.ref S],[]⟩) R s:=by
 have hname:(toString "max"++toString ".loop":String)="max.loop":=by decide
 have Sq:=fun (σ':Led)=>seqs_list (prog:=prog) (w:=w) (ax:=a) (ps:=ts.map fun t=>.ref t.1) (S:=fun σ=>(a,isL (ts.map fun t=>.ref t.1))∈σ) fun _ h=>h
 let X1:Cx:={X with A:=X.A.in1}
 have up: ∀{σ:Led}{s:Shared},Inv X ρ σ s→Inv X1 ρ σ s:=fun I=>I.to rfl rfl rfl rfl
 have dn: ∀{σ:Led}{s:Shared},Inv X1 ρ σ s→Inv X ρ σ s:=fun I=>I.to rfl rfl rfl rfl
 have hlen:(ts.map fun t=>PV.ref t.1).length=ts.length:=by simp
 intro k
 induction k with
 | zero=>
  intro j s b hk0 hj hb Is hR
  have hj':j=ts.length:=by omega
  subst hj'
  obtain⟨o,ho,vs,n,hvs,rfl⟩:=Is.obj mI1
  obtain⟨v1,v2,rfl,r1,r2⟩:=hvs.two
  have r1:=refE r1
  have r2:=refE r2
  subst r1;subst r2
  refine codeAny_builtin PySem.F.entry_max_loop ?_
  rw[Around.under_plainId PySem.F.plain_max_loop _]
  show wpAny _ X.A.in1 (seqItems? (.ref S) >>= _) _ _ s
  refine wpAny_bind (wpAny_seqItems ho rfl ?_)
  show wpAny _ X.A.in1 (tryCatch (pyNext (.ref I)) _ >>= _) _ _ s
  refine wpAny_bind (wpAny_tryCatch (wpAny_mono ((Sq []).nd X1 I ((S,isL [.ref b.1,.ref b.1])::σ) hh (.tail _ hm) ρ s (by rw[hlen];exact up Is)) (fun r s' q=> ?_) fun _ _ f=>f.elim))
  obtain⟨rfl,I'⟩:=q
  obtain⟨o,ho,vs,n,hvs,rfl⟩:=I'.obj (.head _)
  obtain⟨v1,v2,rfl,r1,r2⟩:=hvs.two
  have r1:=refE r1
  have r2:=refE r2
  subst r1;subst r2
  show wpAny _ X.A.in1 (updateSeq S (fun _=> #[]) >>= _) _ _ _
  refine wpAny_bind ?_
  refine wpAny_updateSeq ho rfl (wpAny_bind (wpAny_letGo (wpAny_pure ?_)))
  have hf:=hR _ (dn (I'.turn (σ':=(S,isL [])::σ) (h':=s'.heap.update S (Obj.mapSeq fun _=> #[])) (tk:=s'.toks) .here (Heap.SameBut.update ..) (Heap.get?_update_self _ ho rfl) ⟨[],_,.nil,rfl⟩))
  rw[List.drop_of_length_le (Nat.le_refl _)] at hf
  exact hf
 | succ k ih=>
  intro j s b hk0 hj hb Is hR
  have hlt:j<ts.length:=by omega
  obtain⟨o,ho,vs,n,hvs,rfl⟩:=Is.obj mI1
  obtain⟨v1,v2,rfl,r1,r2⟩:=hvs.two
  have r1:=refE r1
  have r2:=refE r2
  subst r1;subst r2
  refine codeAny_builtin PySem.F.entry_max_loop ?_
  rw[Around.under_plainId PySem.F.plain_max_loop _]
  show wpAny _ X.A.in1 (seqItems? (.ref S) >>= _) _ _ s
  refine wpAny_bind (wpAny_seqItems ho rfl ?_)
  show wpAny _ X.A.in1 (tryCatch (pyNext (.ref I)) _ >>= _) _ _ s
  refine wpAny_bind (wpAny_tryCatch (wpAny_mono ((Sq []).nx X1 I j ((S,isL [.ref b.1,.ref b.1])::σ) hh (by rw[hlen];exact hlt) (.tail _ hm) ρ s (up Is)) (fun r s' q=> ?_) fun _ _ f=>f.elim))
  obtain⟨u,rfl,hu',I'⟩:=q
  rw[getD_ref ts j hlt] at hu'
  have hu':=refE hu'
  subst hu'
  show wpAny _ X.A.in1 (tryCatch (holding [.ref (ts[j]).1,.ref (ts[j]).1] (richCompare .Gt (.ref (ts[j]).1) (.ref b.1) >>= _)) _ >>= _) _ _ _
  refine wpAny_bind (wpAny_tryCatch (wpAny_holding (wpAny_bind (wpAny_mono (gt_pairs (X:=X1) (by show X.A.units+1<9900;omega) (.inl (.tail _ (.tail _ (hk _ (List.getElem_mem hlt))))) (.inl (.tail _ (.tail _ (hk _ hb)))) s' I') (fun r s₂ q=> ?_) fun _ _ f=>f.elim))))
  obtain⟨rfl,I₂⟩:=q
  refine wpAny_bind (wpAny_holding (wpAny_truthy_bool ?_))
  refine wpAny_bind (wpAny_letGo (wpAny_pure ?_))
  have hd:ts.drop j=ts[j]::ts.drop (j+1):=List.drop_eq_getElem_cons hlt
  rw[hd,List.foldl_cons] at hR
  cases hg:gt2 (ts[j]).2.1 (ts[j]).2.2 b.2.1 b.2.2 with
  | true=>
   have e:best2 b ts[j]=ts[j]:=by unfold best2;rw[hg];rfl
   rw[e] at hR
   simp only[if_true]
   obtain⟨o,ho,vs,n,hvs,rfl⟩:=I₂.obj mI1
   obtain⟨v1,v2,rfl,r1,r2⟩:=hvs.two
   refine wpAny_bind ?_
   refine wpAny_updateSeq ho rfl (wpAny_bind (wpAny_letGo ?_))
   rw[hname]
   refine wpAny_pure ⟨plainId_quiet PySem.F.plain_max_loop _,ih (j+1) _ ts[j] (by omega) (by omega) (List.getElem_mem hlt) (dn (I₂.turn (tk:=s₂.toks) (.there .here) (Heap.SameBut.update ..) (Heap.get?_update_self _ ho rfl) ⟨[.ref (ts[j]).1,.ref (ts[j]).1],_,.cons (.ref _) (.cons (.ref _) .nil),rfl⟩)) hR⟩
  | false=>
   have e:best2 b ts[j]=b:=by unfold best2;rw[hg];rfl
   rw[e] at hR
   simp only[Bool.false_eq_true,if_false]
   refine wpAny_bind (wpAny_letGo ?_)
   rw[hname]
   exact wpAny_pure ⟨plainId_quiet PySem.F.plain_max_loop _,ih (j+1) _ b (by omega) (by omega) hb (dn I₂) hR⟩
theorem c_maxT (hh:X.A.handled=none) (hu:X.A.units<9800) {a:Addr}{t:P2}{ts:List P2}(hm:(a,isL ((t::ts).map fun t=>.ref t.1))∈σ) (hk: ∀u∈t::ts,(u.1,isT [.int u.2.1,.int u.2.2])∈σ) (us:List Value) (h:VRs [.ref a] us):
  PEt prog w X (call (.builtin "max") us) ρ σ (.ref (ts.foldl best2 t).1):=fun s I=>by
 have hname:(toString "max"++toString ".loop":String)="max.loop":=by decide
 obtain⟨u,rfl,hu'⟩:=h.one
 have hu':=refE hu'
 subst hu'
 let X1:Cx:={X with A:=X.A.in1}
 have Sq:=seqs_list (prog:=prog) (w:=w) (ax:=a) (ps:=(t::ts).map fun t=>.ref t.1) (S:=fun σ=>(a,isL ((t::ts).map fun t=>.ref t.1))∈σ) fun _ h=>h
 refine call_function_tree PySem.F.kind_max PySem.F.plain_max PySem.F.entry_max (PySem.F.args_max1 _) ?_
 show wpAny _ X.A.in1 (Builtin.Builtins.bindParams "max" ["key","default"] 0 ⟨[],[]⟩ >>= _) _ _ s
 refine wpAny_bind (wpAny_of_eq (show Builtin.Builtins.bindParams "max" ["key","default"] 0 ⟨[],[]⟩=pure [none,none] from rfl) ?_)
 refine wpAny_bind (wpAny_pure ?_)
 obtain⟨ol,hol,pl⟩:=I.obj hm
 obtain⟨vs,hv,il⟩:=pl.list hol
 refine wpAny_bind (wpAny_pyIter_list il ?_)
 have I₁:=I.push (P:=liI a s.heap.objs.size 0) (o:={cls:=.type "list_iterator",data:=.fields #[.ref a,.int 0 0]}) ⟨rfl,rfl⟩ rfl (tk:=s.toks)
 refine wpAny_bind (wpAny_newObj_type ?_)
 have I₂:=I₁.push (P:=isL []) (o:={cls:=.type "list",data:=.seq ([]:List Value).toArray}) ⟨[],0,.nil,rfl⟩ rfl (tk:=s.toks)
 dsimp only at I₂ ⊢
 generalize s.heap.objs.size=It at I₂ ⊢
 generalize (s.heap.push {cls:=.type "list_iterator",data:=.fields #[.ref a,.int 0 0]}).objs.size=S at I₂ ⊢
 rw[hname]
 refine wpAny_pure ⟨plainId_quiet PySem.F.plain_max_loop _,?_⟩
 have I₃:Inv X1 ρ ((It,liI a It 0)::(S,isL [])::σ) _:=(I₂.perm (List.Perm.swap _ _ _)).to rfl rfl rfl rfl
 obtain⟨o,ho,vs,n,hvs,rfl⟩:=I₃.obj mI1
 cases hvs
 refine codeAny_builtin PySem.F.entry_max_loop ?_
 rw[Around.under_plainId PySem.F.plain_max_loop _]
 show wpAny _ X.A.in1 (seqItems? (.ref S) >>= _) _ _ _
 refine wpAny_bind (wpAny_seqItems ho rfl ?_)
 show wpAny _ X.A.in1 (tryCatch (pyNext (.ref It)) _ >>= _) _ _ _
 refine wpAny_bind (wpAny_tryCatch (wpAny_mono (Sq.nx X1 It 0 ((S,isL [])::σ) hh (by simp) (.tail _ hm) ρ _ I₃) (fun r s' q=> ?_) fun _ _ f=>f.elim))
 obtain⟨u,rfl,hu',I'⟩:=q
 have hu':=refE hu'
 subst hu'
 obtain⟨o,ho,vs,n,hvs,rfl⟩:=I'.obj mI1
 cases hvs
 show wpAny _ X.A.in1 (updateSeq S (fun _=> #[.ref t.1,.ref t.1]) >>= _) _ _ _
 refine wpAny_bind ?_
 refine wpAny_updateSeq ho rfl ?_
 rw[hname]
 have I₄:Inv X ρ ((It,liI a It 1)::(S,isL [.ref t.1,.ref t.1])::σ) _:=(I'.turn (h':=s'.heap.update S (Obj.mapSeq fun _=> #[.ref t.1,.ref t.1])) (tk:=s'.toks) (.there .here) (Heap.SameBut.update ..) (Heap.get?_update_self _ ho rfl) ⟨[.ref t.1,.ref t.1],_,.cons (.ref _) (.cons (.ref _) .nil),rfl⟩).to rfl rfl rfl rfl
 refine wpAny_pure ⟨plainId_quiet PySem.F.plain_max_loop _,max_loop (ρ:=ρ) (σ:=σ) hh hu hm hk _ 1 _ t rfl (by simp) (.head _) I₄ fun s₅ I₅=> ?_⟩
 exact⟨.ref _,I₅.sub (.cons _ (.refl _))⟩
end
end Mine
end
section
set_option maxRecDepth 100000
set_option maxHeartbeats 4000000
open PySem PySem.W PyProof.Rows PySem.Calls
namespace Mine
theorem rsize_up (a b:Int) (k:Nat) (h:b=a+k):Builtin.Range.rangeSize a b 1=k:=by
 unfold Builtin.Range.rangeSize
 simp only[show ((1:Int)>0) by decide,if_true]
 split<;>omega
section
variable {prog:Program}{w:World}{X:Cx}{ρ ρ':Ro}{σ σ':Led}{T:Tops}{n:Nat}{R R':PV→Led→Prop}{K:PF→Ro→Led→Prop}
theorem s1_forS {x:Str}{px pos:Pos}{iter:Expr}{body orelse:List Stmt}{k:Nat}{xs:Nat→PV}{It:Addr→Nat→Obj→Prop}{S:Led→Prop}(Sq:Seqs prog w k xs It S) (hh:X.A.handled=none) (J:Nat→Ro→Led→Prop)
  (hi:ItE prog w X iter ρ σ fun I=>It I 0) (h0:J 0 ρ σ) (hS: ∀i ρ σ,J i ρ σ→S σ)
  (hb: ∀I i ρ σ,i<k→J i ρ σ→I∉σ.map (·.1)→ ∃ρ' σ',(∀u,VR (xs i) u→StoreE prog w X x u ρ ((I,It I (i+1))::σ) ρ' σ')∧
   SE prog w X body ρ' σ' (LoopK K fun ρ₂ σ₂=> ∃σ₃,J (i+1) ρ₂ σ₃∧((I,It I (i+1))::σ₃).Sublist σ₂))
  (he: ∀ρ σ,J k ρ σ→SE prog w X orelse ρ σ K)
  (hf: ∀x,foldedSetIterable iter X.env x=pure x:=by intro _;rfl):S1 prog w X (.For (.Name x px) iter body orelse pos) ρ σ K:=
 s1_for k xs It J hi h0 (fun I i ρ σ hlt hJ=>Sq.nx _ I i _ hh hlt (hS _ _ _ hJ)) (fun I ρ σ hJ=>Sq.nd _ I _ hh (hS _ _ _ hJ)) hb he hf
theorem s1_range {x:Str}{px pos:Pos}{iter:Expr}{body orelse:List Stmt}{a b:Int}(k:Nat) (hk:b=a+k) (hh:X.A.handled=none) (J:Nat→Ro→Led→Prop)
  (hi:ItE prog w X iter ρ σ fun I=>rgI a b I 0) (h0:J 0 ρ σ)
  (hb: ∀I i ρ σ,i<k→J i ρ σ→I∉σ.map (·.1)→ ∃ρ' σ',(∀u,VR (.int (a+i)) u→StoreE prog w X x u ρ ((I,rgI a b I (i+1))::σ) ρ' σ')∧
   SE prog w X body ρ' σ' (LoopK K fun ρ₂ σ₂=> ∃σ₃,J (i+1) ρ₂ σ₃∧((I,rgI a b I (i+1))::σ₃).Sublist σ₂))
  (he: ∀ρ σ,J k ρ σ→SE prog w X orelse ρ σ K)
  (hf: ∀x,foldedSetIterable iter X.env x=pure x:=by intro _;rfl):S1 prog w X (.For (.Name x px) iter body orelse pos) ρ σ K:=
 s1_forS (seqs_range (rsize_up a b k hk)) hh J hi h0 (fun _ _ _ _=>trivial) hb he hf
theorem ne_compR {elt iter:Expr}{x:Str}{px pos:Pos}{scope:Scope}{cl:List (Str×Addr)}{a b:Int}(k:Nat) (hk:b=a+k) (ys:Nat→PV) (hFL:X.FL=X.L) (hh:X.A.handled=none)
  (hclos:closureFor scope X.env=pure cl) (hcell: ∀y∈scope.names,y.2≠ .cell) (hkind:scope.kind= .function)
  (hnames: ∀y∈scope.names,y.2= .local→scope.names.lookup y.1=some .local) (hx:scope.names.lookup x=some .local)
  (hi:ItE prog w X iter ρ σ fun I=>rgI a b I 0) (hl:k≤16777216)
  (hstep: ∀C σ₁ i,i<k→(∀p∈(X.L,isNs ρ)::σ,p∈σ₁)→PE prog w (X.comp scope cl C x) elt [(x,some (.int (a+i)))] σ₁ (ys i))
  (hs: ∀x,foldedSetIterable iter X.env x=pure x:=by intro _;rfl) (hdb:(x==("__debug__":Str))=false:=by decide):
  NE prog w X (.ListComp elt [⟨.Name x px,iter,[],0⟩] scope pos) ρ σ (isL ((List.range k).map ys)):=
 ne_comp (seqs_range (rsize_up a b k hk)) ys hFL hh hclos hcell hkind hnames hx hi (fun _ _=>trivial) hl hstep hs hdb
end
end Mine
end
section
set_option maxRecDepth 100000
set_option maxHeartbeats 4000000
open PySem PySem.W PyProof.Rows PySem.Calls
namespace Mine
section
variable {prog:Program}{w:World}{X:Cx}{ρ ρ':Ro}{σ σ':Led}{T:Tops}{n:Nat}{R R':PV→Led→Prop}{K:PF→Ro→Led→Prop}
theorem VX.fit {t:Sem Value}(h:VX prog w X t ρ σ R) (k: ∀v σ',R v σ'→ ∃σ'',Fit σ'' σ'∧R' v σ''):VX prog w X t ρ σ R':=fun s I=>wpAny_mono (h s I) (fun u s' q=>by
 obtain⟨v,σ',r,z,I'⟩:=q
 obtain⟨σ'',hf,r'⟩:=k _ _ r
 exact⟨v,σ'',r',z,I'.fit hf⟩) fun _ _ f=>f
theorem pe_subT {v e:Expr}{pos:Pos}{i:Nat}{p:PV}(hv:GE prog w X v ρ σ R) (hR: ∀u σ',R u σ'→ ∃a ps,u= .ref a∧(a,isT ps)∈σ'∧ps[i]? =some p∧ps.length≤16777216∧σ.Sublist σ') (he: ∀σ',PE prog w X e ρ σ' (.int i))
  (hs: ∀x y,subscripted e false x y=operate [x,y] (getItem x y):=by intro _ _;rfl):PE prog w X (.Subscript v e pos) ρ σ p:=fun s I=>by
 refine PyProof.Rows.Subscript_ (wpAny_mono (hv s I) (fun u s₁ q=> ?_) fun _ _ f=>f)
 obtain⟨v',σ',r,hv',I₁⟩:=q
 obtain⟨a,ps,rfl,hm,h1,hn,hsub⟩:=hR v' σ' r
 cases hv'
 refine wpAny_mono (he σ' s₁ I₁) (fun y s₂ q'=> ?_) fun _ _ f=>f
 obtain⟨h2',I₂⟩:=q'
 cases h2'
 have hm':At X σ' a (isT ps):=.inl hm
 obtain⟨o,ho,po⟩:=hm'.obj I₂
 obtain⟨vs,hvs,⟨o',ho',hc,k,hd⟩⟩:=po.tuple ho
 obtain⟨u,hu,r⟩:=hvs.getE h1
 have hi:i<ps.length:=by
  rcases Nat.lt_or_ge i ps.length with h | h
  ·exact h
  ·rw[List.getElem?_eq_none h] at h1;cases h1
 have hlen:=hvs.length
 exact tail_of (gip_T hm' I₂) (hs _ _) (getItem_tuple ⟨o',ho',hc,k,hd⟩ (by omega) (by omega) (j:=i) (by
  have h1: ¬((i:Int)<0):=by omega
  have h2:i<vs.length:=by omega
  simp[seqIndex?,h1,h2]) hu ⟨r,I₂.sub hsub⟩)
theorem ge_pairs {e1 e2 iter:Expr}{kk:Nat}{tp:Pos}{x:Str}{px pos:Pos}{scope:Scope}{cl:List (Str×Addr)}{a b:Int}(k:Nat) (hk:b=a+k) (f:Nat→Int×Int) (hFL:X.FL=X.L) (hh:X.A.handled=none)
  (hclos:closureFor scope X.env=pure cl) (hcell: ∀y∈scope.names,y.2≠ .cell) (hkind:scope.kind= .function)
  (hnames: ∀y∈scope.names,y.2= .local→scope.names.lookup y.1=some .local) (hx:scope.names.lookup x=some .local)
  (hi:ItE prog w X iter ρ σ fun I=>rgI a b I 0) (hl:k≤16777216)
  (hstep: ∀C σ₁ i,i<k→(∀p∈(X.L,isNs ρ)::σ,p∈σ₁)→PE prog w (X.comp scope cl C x) e1 [(x,some (.int (a+i)))] σ₁ (.int (f i).1)∧PE prog w (X.comp scope cl C x) e2 [(x,some (.int (a+i)))] σ₁ (.int (f i).2))
  (he: ∀C,backTo tp (starEach [e1,e2] (X.comp scope cl C x).env)=[e1,e2].map (fun e=>(false,eval e (X.comp scope cl C x).env)):=by intro C;rfl)
  (hs: ∀x,foldedSetIterable iter X.env x=pure x:=by intro _;rfl) (hdb:(x==("__debug__":Str))=false:=by decide):
  GE prog w X (.ListComp (.Tuple [e1,e2] kk tp) [⟨.Name x px,iter,[],0⟩] scope pos) ρ σ (fun v σ'=> ∃(l:Addr) (ts:List P2),v= .ref l∧σ'=(l,isL (ts.map fun t=>.ref t.1))::(pairs2 ts.reverse++σ)∧ts.map (·.2)=(List.range k).map f):=
 (ge_comp (seqs_range (rsize_up a b k hk)) (fun i zs σi=> ∃ts:List P2,zs=(ts.map fun t=>.ref t.1)∧σi=pairs2 ts.reverse++σ∧ts.map (·.2)=(List.range i).map f) hFL hh hclos hcell hkind hnames hx hi ⟨[],rfl,rfl,rfl⟩ (fun _ _ _ _ _=>trivial)
  (fun i zs σi hi h=>by
   obtain⟨ts,rfl,rfl,h⟩:=h
   have:=congrArg List.length h
   simp at this ⊢;omega)
  (fun I C D i zs σi hik h=>by
   obtain⟨ts,rfl,rfl,h⟩:=h
   refine⟨true,ev_tests0,nofun,fun _=> ?_⟩
   have hm: ∀p∈(X.L,isNs ρ)::σ,p∈(I,rgI a b I (i+1))::(D,isL (ts.map fun t=>.ref t.1))::(X.L,isNs ρ)::(pairs2 ts.reverse++σ):=fun p hp=>by
    refine .tail _ (.tail _ ?_)
    rcases List.mem_cons.mp hp with rfl | hp
    ·exact .head _
    ·exact .tail _ (List.mem_append_right _ hp)
   obtain⟨h1,h2⟩:=hstep C _ i hik hm
   refine VX.fit (ge_of_ne (ne_tupleP (.cons h1 (.cons h2 .nil)) (by show 2≤16777216;decide) (he C))) (fun v σ' r=> ?_)
   obtain⟨t,rfl,rfl⟩:=r
   refine⟨_,Fit.of_perm (List.perm_middle (l₁:=[_,_,_])).symm,_,⟨ts++[(t,f i)],by simp,?_,?_⟩,.refl _⟩
   ·rw[List.reverse_append];rfl
   ·rw[List.map_append,h,List.range_succ,List.map_append];rfl) hs hdb).mono fun v σ' r=>by
  obtain⟨l,ys,σ₂,rfl,rfl,ts,rfl,rfl,h⟩:=r
  exact⟨l,ts,rfl,rfl,h⟩
end
noncomputable def stepV (b t:Int×Int):Int×Int:=if gt2 t.1 t.2 b.1 b.2 then t else b
noncomputable def bestV:List (Int×Int)→Int×Int
 | []=>(0,0)
 | t::ts=>ts.foldl stepV t
theorem best2_map: ∀(ts:List P2) (t:P2),(ts.foldl best2 t).2=(ts.map (·.2)).foldl stepV t.2
 | [],t=>rfl
 | u::ts,t=>by
  rw[List.foldl_cons,best2_map ts,List.map_cons,List.foldl_cons]
  congr 1
  unfold best2 stepV
  split<;>rfl
theorem best2_mem: ∀(ts:List P2) (t:P2),ts.foldl best2 t∈t::ts
 | [],t=>.head _
 | u::ts,t=>by
  rw[List.foldl_cons]
  have:=best2_mem ts (best2 t u)
  rcases List.mem_cons.mp this with h | h
  ·rw[h];unfold best2;split
   ·exact .tail _ (.head _)
   ·exact .head _
  ·exact .tail _ (.tail _ h)
section
variable {prog:Program}{w:World}{X:Cx}{ρ ρ':Ro}{σ σ':Led}{T:Tops}{n:Nat}{R R':PV→Led→Prop}{K:PF→Ro→Led→Prop}
theorem pe_max1 (O:XOK T n X) {e e1:Expr}{x:Str}{p pos pos':Pos}{k:Nat}{f:Nat→Int×Int}(hk:0<k) (hf:XE prog w X (.Name x p) ρ σ (.builtin "max"))
  (h:GE prog w X e ρ σ (fun v σ'=> ∃(l:Addr) (ts:List P2),v= .ref l∧σ'=(l,isL (ts.map fun t=>.ref t.1))::(pairs2 ts.reverse++σ)∧ts.map (·.2)=(List.range k).map f))
  (h1: ∀σ',PE prog w X e1 ρ σ' (.int 1)) (he:starEach [e] X.env=[(false,eval e X.env)]:=by rfl)
  (hs: ∀x y,subscripted e1 false x y=operate [x,y] (getItem x y):=by intro _ _;rfl):
  PE prog w X (.Subscript (.Call (.Name x p) [e] [] pos) e1 pos') ρ σ (.int (bestV ((List.range k).map f)).2):=by
 refine pe_subT (i:=1) (R:=fun v σ'=> ∃t ts,v= .ref (ts.foldl best2 t).1∧(∃l,σ'=(l,isL ((t::ts).map fun t=>.ref t.1))::(pairs2 (t::ts).reverse++σ))∧(t::ts).map (·.2)=(List.range k).map f)
  (ev_call_b hf (ag1 h he) (fun vs σ' r us hv=> ?_) (by rw[he];rfl)) (fun u σ' r=> ?_) h1 hs
 ·obtain⟨v,rfl,l,ts,rfl,rfl,hm⟩:=r
  cases ts with
  | nil=>
   have:=congrArg List.length hm
   simp at this;omega
  | cons t ts=>
   have hmem: ∀u∈t::ts,(u.1,isT [.int u.2.1,.int u.2.2])∈(l,isL ((t::ts).map fun t=>.ref t.1))::(pairs2 (t::ts).reverse++σ):=fun u hu=>by
    refine .tail _ (List.mem_append_left _ ?_)
    exact List.mem_map.mpr ⟨u,List.mem_reverse.mpr hu,rfl⟩
   refine(vx_of_pe (c_maxT O.hh (by have:=O.un;omega) (.head _) hmem us hv)).mono fun v σ' r=> ?_
   obtain⟨rfl,rfl⟩:=r
   exact⟨t,ts,rfl,⟨l,rfl⟩,hm⟩
 ·obtain⟨t,ts,rfl,⟨l,rfl⟩,hm⟩:=r
  refine⟨_,[.int (ts.foldl best2 t).2.1,.int (ts.foldl best2 t).2.2],rfl,?_,?_,by show 2≤16777216;decide,.cons _ (List.sublist_append_right _ _)⟩
  ·exact .tail _ (List.mem_append_left _ (List.mem_map.mpr ⟨_,List.mem_reverse.mpr (best2_mem ts t),rfl⟩))
  ·rw[←hm,List.map_cons]
   show some (PV.int (ts.foldl best2 t).2.2)=some (PV.int ((ts.map (·.2)).foldl stepV t.2).2)
   rw[best2_map]
end
end Mine
end
section
set_option maxRecDepth 100000
set_option maxHeartbeats 4000000
open PySem PySem.W PyProof.Rows PySem.Calls
namespace Mine
theorem lt_one (a b:Nat):decide ([a]<[b])=decide (a<b):=by
 by_cases h:a<b
 ·have:[a]<[b]:=List.Lex.rel h
  simp[h,this]
 ·have: ¬[a]<[b]:=by
   intro q
   cases q with
   | rel q=>exact h q
   | cons q=>cases q
  simp[h,this]
theorem itemT_nat {L:List Nat}{i:Nat}:itemT L (i:Int)=L.getD i 0:=by
 unfold itemT;rw[if_neg (by omega)];rfl
theorem itemT_neg {L:List Nat}{i:Int}(h:i<0):itemT L i=L.getD (i+L.length).toNat 0:=by
 unfold itemT;rw[if_pos h]
theorem fmod_nat (a b:Nat) (h:0<b):(a:Int).fmod b=((a%b:Nat):Int):=by
 rw[Int.fmod_eq_emod_of_nonneg _ (by omega)];omega
theorem itemL_I {l:List Int}{i:Nat}(h:i<l.length):itemL (pvI l) (i:Int)= .int (l.getD i 0):=by
 unfold itemL pvI
 rw[if_neg (by omega)]
 simp[List.getD_eq_getElem?_getD,h]
theorem pvI_set (l:List Int) (k:Nat) (c:Int):(pvI l).set k (.int c)=pvI (l.set k c):=by simp[pvI,List.map_set]
theorem pvI_length (l:List Int):(pvI l).length=l.length:=by simp[pvI]
theorem mulOk {a:Nat}{b:Int}(h:a<2^64):IntMulOk (a:Int) b:=.of_left (PySem.intBits_le_iff.mpr (by rw[Int.natAbs_natCast];exact h))
theorem fdiv_nat (a b:Nat):(a:Int).fdiv b=((a/b:Nat):Int):=by
 rw[Int.fdiv_eq_ediv_of_nonneg _ (by omega)];simp
theorem itemL_S {l:List (List Nat)}{i:Nat}(h:i<l.length):itemL (pvS l) (i:Int)= .str (l.getD i []):=by
 unfold itemL pvS
 rw[if_neg (by omega)]
 simp[List.getD_eq_getElem?_getD,h]
noncomputable def unseenL:List Nat:=[173,847,6150,6155,6156,6157,8203,8204,8205,8288,65279]++(List.range 16).map (65024+ ·)
theorem unseen_item {i:Nat}(h:i<27):itemT unseenL (i:Int)=unseenL.getD i 0:=itemT_nat
theorem rep_one (c n:Nat):rep [c] (n:Int)=List.replicate n c:=by
 unfold rep
 rw[Int.toNat_natCast]
 induction n with
 | zero=>rfl
 | succ n ih=>rw[List.replicate_succ,List.replicate_succ,List.flatten_cons,ih];rfl
theorem lK_nodup:(["script","k","left","right","count","words","both","gaps","unseen","place","width","maker","rows","begin","j","cut","page","told","sign","wants","names"]:List Str).Nodup:=by decide
theorem pow2: ∀i:Nat,i<8→(2:Nat)^i≤128:=by decide
theorem getD_memL {α:Type}{l:List α}{i:Nat}{d:α}(h:i<l.length):l.getD i d∈l:=by
 rw[List.getD_eq_getElem?_getD,List.getElem?_eq_getElem h];exact List.getElem_mem h
structure LawK (T:Tops) (f:FmAds):Prop where
 fm:T.mg "_ValueFormatter"=some (.ref f.C)
 mks:makesIn T.K f.C=true
 call:specialIn T.K (.ref f.C) "__call__"=some (some (.builtin "type.__call__"))
theorem ae4 {prog:Program}{w:World}{X:Cx}{ρ:Ro}{σ:Led}{e f g h:Expr}{pos:Pos}{v u x y:PV}(h1:PE prog w X e ρ σ v) (h2:PE prog w X f ρ σ u) (h3:PE prog w X g ρ σ x) (h4:PE prog w X h ρ σ y)
  (he:starEach [e,f,g,h] X.env=[(false,eval e X.env),(false,eval f X.env),(false,eval g X.env),(false,eval h X.env)]:=by rfl):AE prog w X [e,f,g,h] pos ρ σ [v,u,x,y]:=
 ae_of (t:=eval e X.env) (r:=[(false,eval f X.env),(false,eval g X.env),(false,eval h X.env)]) (by rw[he];rfl) (sp_cons h1 (sp_cons h2 (sp_cons h3 (sp_cons h4 sp_nil))))
theorem perm_fm {α:Type}(x d l y dy P Q:α) (O R:List α):(x::d::l::y::dy::(O++P::Q::R)).Perm (y::dy::l::x::d::P::Q::(O++R)):=by
 have h1:(O++P::Q::R).Perm (P::Q::(O++R)):=List.perm_middle.trans (List.Perm.cons _ List.perm_middle)
 have h2:([x,d,l,y,dy]:List α).Perm [y,dy,l,x,d]:=
  (List.perm_middle (a:=y) (l₁:=[x,d,l]) (l₂:=[dy])).trans (.cons _ ((List.perm_middle (a:=dy) (l₁:=[x,d,l]) (l₂:=[])).trans (.cons _ (List.perm_middle (a:=l) (l₁:=[x,d]) (l₂:=[])))))
 exact(List.Perm.append_left [x,d,l,y,dy] h1).trans (List.Perm.append_right (P::Q::(O++R)) h2)
theorem bestV_mem: ∀(l:List (Int×Int)),l≠[]→bestV l∈l:=by
 intro l h
 cases l with
 | nil=>exact absurd rfl h
 | cons t ts=>
  show ts.foldl stepV t∈t::ts
  clear h
  induction ts generalizing t with
  | nil=>exact .head _
  | cons u ts ih=>
   rw[List.foldl_cons]
   rcases List.mem_cons.mp (ih (stepV t u)) with h | h
   ·rw[h];unfold stepV;split
    ·exact .tail _ (.head _)
    ·exact .head _
   ·exact .tail _ (.tail _ h)
theorem sum_le {l:List (List Nat)}{m:Nat}(h: ∀x∈l,x.length≤m):(l.map (·.length)).sum≤l.length*m:=by
 induction l with
 | nil=>simp
 | cons x l ih=>
  have h1:=h x (.head _)
  have h2:=ih fun y hy=>h y (.tail _ hy)
  simp only[List.map_cons,List.sum_cons,List.length_cons,Nat.add_mul]
  omega
theorem sl_part (l:List (List Nat)) (b e:Nat):sl (pvS l) (some (b:Int)) (some (e:Int))=pvS ((l.drop b).take (e-b)):=by
 rw[sl_mid];unfold pvS;rw[List.map_take,List.map_drop]
theorem fnd_one (l:List Nat) (c:Nat):hasT l [c]=l.contains c:=by
 unfold hasT
 have key: ∀(l:List Nat) (lo:Nat),(∃i,lo≤i∧i+1≤l.length∧atL l [c] i=true)↔c∈l.drop lo:=by
  intro l lo
  constructor
  ·rintro ⟨i,h1,h2,h3⟩
   unfold atL at h3
   have h3:=beq_iff_eq.mp h3
   have:c∈(l.drop i).take [c].length:=by rw[h3];exact .head _
   have:=List.mem_of_mem_take this
   have e:l.drop i=(l.drop lo).drop (i-lo):=by rw[List.drop_drop];congr 1;omega
   rw[e] at this
   exact List.mem_of_mem_drop this
  ·intro h
   obtain⟨j,hj,e⟩:=List.mem_iff_getElem.mp h
   rw[List.length_drop] at hj
   refine⟨lo+j,by omega,by omega,?_⟩
   unfold atL
   rw[List.getElem_drop] at e
   rw[List.drop_eq_getElem_cons (by omega),e]
   simp
 have hf:=fnd_spec l [c] 0 l.length
 unfold fnd at hf
 have hk:=key l 0
 rw[List.drop_zero] at hk
 rw[show (mk l).length=l.length from mk_length l]
 generalize PySem.Builtin.Str.occurrences (mk l) (mk [c]) 0 l.length 1=oc at*
 cases oc with
 | nil=>
  rcases hf with ⟨_,h⟩ | ⟨i,h,_⟩
  ·have:c∉l:=fun hm=>by
    obtain⟨i,h1,h2,h3⟩:=hk.mpr hm
    rw[h i h1 h2] at h3;cases h3
   simp[this]
  ·simp at h
 | cons q oc=>
  rcases hf with ⟨h,_⟩ | ⟨i,h,h1,h2,h3,_⟩
  ·simp at h
  ·have:c∈l:=hk.mp ⟨i,h1,h2,h3⟩
   simp[this]
noncomputable def skipS (ch:Nat):Bool:=(unseenL++[32,10]).contains ch
noncomputable def toldS:List Nat→List Nat
 | []=>[]
 | ch::r=>(if skipS ch then [] else b3S ch)++toldS r
theorem b1_same (ch:Nat):decide ((ch:Int)∈b1L)=unseenL.contains ch:=by
 have e:b1L=unseenL.map fun (i:Nat)=>(i:Int):=by decide
 rw[e]
 by_cases h:ch∈unseenL
 ·rw[decide_eq_true (List.mem_map.mpr ⟨ch,h,rfl⟩)];simp[h]
 ·rw[decide_eq_false fun hm=>h (by obtain⟨i,hi,e⟩:=List.mem_map.mp hm;rwa [show i=ch from Int.ofNat.inj e] at hi)];simp[h]
theorem toldS_snoc: ∀(l:List Nat) (ch:Nat),toldS (l++[ch])=toldS l++(if skipS ch then [] else b3S ch)
 | [],ch=>by simp[toldS]
 | x::l,ch=>by rw[List.cons_append,toldS,toldS_snoc l ch,toldS];simp
theorem toldS_len: ∀(l:List Nat),(∀ch∈l,skipS ch=false→(b3S ch).length≤1000)→(toldS l).length≤l.length*1000
 | [],_=>by simp[toldS]
 | ch::r,h=>by
  have ih:=toldS_len r fun x hx=>h x (.tail _ hx)
  have h1:=h ch (.head _)
  rw[toldS,List.length_append,List.length_cons,Nat.add_mul]
  cases hs:skipS ch with
  | true=>simp;omega
  | false=>have:=h1 hs;simp only[Bool.false_eq_true,if_false];omega
theorem sl_butlast {α:Type}(l:List α) (h:l≠[]):sl l none (some (-1))=l.dropLast:=by
 unfold sl
 simp only[Option.elim]
 have hp:0<l.length:=List.length_pos_iff.mpr h
 have e:clipAt l.length (-1)=l.length-1:=by
  have:=clipAt_cast l.length (-1)
  omega
 rw[e,List.drop_zero,List.dropLast_eq_take];rfl
theorem sl_last2 {α:Type}(l:List α) (h:2≤l.length):sl l (some (-2)) none=l.drop (l.length-2):=by
 unfold sl
 simp only[Option.elim]
 have e:clipAt l.length (-2)=l.length-2:=by
  have:=clipAt_cast l.length (-2)
  omega
 rw[e,List.take_of_length_le (by rw[List.length_drop];omega)]
noncomputable def lastN (tl:List Nat):Nat:=tl.getD (tl.length-1) 0
theorem atL_nil (l:List Nat) (i:Nat):atL l [] i=true:=by unfold atL;simp
theorem fnd_nil (l:List Nat) {lo hi:Nat}(h:lo≤hi):fnd l [] lo hi=(lo:Nat):=by
 rcases fnd_spec l [] lo hi with ⟨_,hno⟩ | ⟨p,e,h1,h2,h3,h4⟩
 ·have:=hno lo (Nat.le_refl _) (by simpa using h)
  rw[atL_nil] at this;cases this
 ·rcases Nat.lt_or_ge lo p with q | q
  ·have:=h4 lo (Nat.le_refl _) q
   rw[atL_nil] at this;cases this
  ·rw[e,show p=lo by omega]
theorem go_nil {got:List Nat}{r:List (List Nat)}{s e:Nat}(h:s≤e):ellGo got ([]::r) s e=ellGo got r s e:=by
 rw[ellGo,fnd_nil got h,if_neg (by omega)];simp
theorem wS_snoc (ts:List Pr) (p:Pr):wS (ts++[p])=wS ts+(p.1.length+p.2.length):=by
 unfold wS;rw[List.map_append,List.sum_append];simp
theorem flat_le {l:List (List Nat)}{m:Nat}(h: ∀x∈l,x.length≤m):l.flatten.length≤l.length*m:=by
 rw[List.length_flatten];exact sum_le h
theorem toldS_app: ∀(a b:List Nat),toldS (a++b)=toldS a++toldS b
 | [],b=>rfl
 | x::a,b=>by rw[List.cons_append,toldS,toldS_app a b,toldS,List.append_assoc]
theorem toldS_skip: ∀(a:List Nat),(∀ch∈a,skipS ch=true)→toldS a=[]
 | [],_=>rfl
 | x::a,h=>by rw[toldS,h x (.head _),toldS_skip a fun ch hc=>h ch (.tail _ hc)];rfl
theorem toldS_flat: ∀(l:List (List Nat)),toldS l.flatten=(l.map toldS).flatten
 | []=>rfl
 | x::l=>by rw[List.flatten_cons,toldS_app,toldS_flat l];rfl
theorem toldS_join: ∀(l:List (List Nat)),toldS (joinS [10] l)=toldS l.flatten
 | []=>rfl
 | [a]=>by simp[joinS]
 | a::b::r=>by
  have ih:=toldS_join (b::r)
  have:toldS [10]=[]:=toldS_skip [10] (by decide)
  rw[joinS,toldS_app,toldS_app,ih,this,List.append_nil,←toldS_app];rfl
theorem join_mem: ∀(l:List (List Nat)) (ch:Nat),ch∈joinS [10] l→ch=10∨ch∈l.flatten
 | [],ch,h=>by cases h
 | [a],ch,h=>.inr (by simpa [joinS] using h)
 | a::b::r,ch,h=>by
  rw[joinS] at h
  rcases List.mem_append.mp h with h | h
  ·rcases List.mem_append.mp h with h | h
   ·exact .inr (by rw[List.flatten_cons];exact List.mem_append_left _ h)
   ·exact .inl (List.mem_singleton.mp h)
  ·rcases join_mem (b::r) ch h with h | h
   ·exact .inl h
   ·exact .inr (by rw[List.flatten_cons];exact List.mem_append_right _ h)
theorem join_len: ∀(l:List (List Nat)),(joinS [10] l).length≤l.flatten.length+l.length
 | []=>by simp[joinS]
 | [a]=>by simp[joinS]
 | a::b::r=>by
  have ih:=join_len (b::r)
  rw[joinS,List.length_append,List.length_append,List.flatten_cons,List.length_append]
  simp only[List.length_cons,List.length_nil] at ih ⊢
  omega
theorem skip_unseen {c:Nat}(h:c∈unseenL):skipS c=true:=by
 unfold skipS
 rw[List.contains_iff_mem]
 exact List.mem_append_left _ h
theorem unseen_at {i:Nat}(h:i<27):unseenL.getD i 0∈unseenL:=getD_memL h
theorem sp_of {c:Nat}{l:List Nat}(hc:Txt.isspace (mk [c])=false) (h:c∈l):Txt.isspace (mk l)=false:=by
 have h1:Unicode.isSpace c=false:=by
  unfold Txt.isspace at hc
  simpa [Str.length] using hc
 unfold Txt.isspace
 have:(mk l).cps.all Unicode.isSpace=false:=by
  rw[Array.all_eq_false']
  exact⟨c,by simpa using h,by simp[h1]⟩
 rw[this,Bool.and_false]
section
variable {prog:Program}{w:World}{X:Cx}{ρ:Ro}{σ:Led}{R:PV→Led→Prop}
theorem pe_cmp2 {l r:Expr}{op:CmpOp}{pos:Pos}{a:PV}{c:Bool}(hl:PE prog w X l ρ σ a) (hr:GE prog w X r ρ σ R) (h: ∀v σ',R v σ'→σ.Sublist σ'∧Cm prog w X op a v ρ σ' c) (hb:behindInMarks op r=false:=by rfl):PE prog w X (.Compare l [op] [r] pos) ρ σ (.bool c):=fun s I=>
 wpAny_Compare1 (wpAny_mono (hl s I) (fun u₁ s₁ q₁=>wpAny_mono (hr s₁ q₁.2) (fun u₂ s₂ q₂=>by
  obtain⟨v,σ',hR,hv,I₂⟩:=q₂
  exact wpAny_mono ((h v σ' hR).2 u₁ u₂ q₁.1 hv s₂ I₂) (fun r s₃ q=>by
   obtain⟨rfl,I⟩:=q
   exact⟨.bool _,I.sub (h v σ' hR).1⟩) fun _ _ f=>f) fun _ _ f=>f) fun _ _ f=>f) hb
end
section
variable {prog:Program}{w:World}{T:Tops}{n:Nat}{a:Ads}{f:FmAds}{aa:AcAds}{rest:Led}
theorem chunk_at (B:FK prog T f aa) {F:FmA}(AF:FmAt F f aa) {ml:Int}{sp:List Nat}{lines:List (List Nat)}{ts:List (Addr×Pr)}{z:Nat}(O:Led) {u s:List Nat}(hn:ts.length≤800) (hs:Small (ts.map (·.2)++[(u,s)]) z) (hll:lines.length≤100000)
  (hsp:0<z→findC (ts.map (·.2)++[(u,s)]) sp=none→Txt.isspace (mk (tS (nlTs (ts.map (·.2)))))=false):
  Fn prog w T (n+8) (.ref f.chunk) [.ref F.y,.str u,.str s] (O++(fmL F ml sp lines ts z++rest)) (fun r σ'=>r= .none∧ ∃us:List (Addr×Pr),us.map (·.2)=(chunkS lines (ts.map (·.2)) z ml sp u s).2.1∧σ'=O++(fmL F ml sp (chunkS lines (ts.map (·.2)) z ml sp u s).1 us (chunkS lines (ts.map (·.2)) z ml sp u s).2.2++rest)):=
 ((chunk_fn B AF (rest:=O++rest) hn hs hll hsp).fit (fun v σ' h=>by
  obtain⟨h1,us,h2,rfl⟩:=h
  exact⟨_,Fit.of_perm (List.perm_append_comm_assoc _ _ _),h1,us,h2,rfl⟩)).from (Fit.of_perm (List.perm_append_comm_assoc _ _ _))
theorem fstr_at (B:FK prog T f aa) {F:FmA}(AF:FmAt F f aa) {ml:Int}{sp sep:List Nat}{lines:List (List Nat)}{ts:List (Addr×Pr)}{z:Nat}(O:Led) (hs:Small (nlTs (ts.map (·.2))) z) (hn:ts.length≤900) (hsp:Txt.isspace (mk (tS (nlTs (ts.map (·.2)))))=false) (hpos:0<z+wS (nlTs (ts.map (·.2)))) (hll:lines.length≤1000)
  (hj:((lines++[tS (nlTs (ts.map (·.2)))]).map (·.length)).sum+(lines++[tS (nlTs (ts.map (·.2)))]).length*sep.length≤16777216):
  Fn prog w T (n+7) (.ref f.str) [.ref F.y,.str sep] (O++(fmL F ml sp lines ts z++rest)) (fun r σ'=>r= .str (joinS sep (lines++[tS (nlTs (ts.map (·.2)))]))∧σ'=O++(fmL F ml sp (lines++[tS (nlTs (ts.map (·.2)))]) [] 0++rest)):=
 ((fstr_fn B AF (rest:=O++rest) hs hn hsp hpos hll hj).fit (fun v σ' h=>by
  obtain⟨h1,rfl⟩:=h
  exact⟨_,Fit.of_perm (List.perm_append_comm_assoc _ _ _),h1,rfl⟩)).from (Fit.of_perm (List.perm_append_comm_assoc _ _ _))
theorem pe_ell {X:Cx}{ρ:Ro}{σ:Led}(D:Text T a) (G:Names T) (O:XOK T (n+1) X) (hF:CallF X σ) {x:Str}{p pos:Pos}{e1 e2:Expr}{ps:List (List Nat)}{got:List Nat}{b:Bool}(hb:ellP ps got=b) (hx:x="_ellipsis_match") (hk:X.env.kindOf x=some .globalImplicit)
  (h1:PE prog w X e1 ρ σ (.str (joinS dots ps))) (h2:PE prog w X e2 ρ σ (.str got)) (h0:ps≠[]) (hf: ∀p∈ps,46∉p) (hg:got.length≤1000) (hp: ∀p∈ps,p.length≤1000) (hl:ps.length≤5)
  (he:starEach [e1,e2] X.env=[(false,eval e1 X.env),(false,eval e2 X.env)]):PE prog w X (.Call (.Name x p) [e1,e2] [] pos) ρ σ (.bool b):=by
 subst hx;subst hb
 have hj: ∀ps:List (List Nat),(∀p∈ps,p.length≤1000)→(joinS dots ps).length≤ps.length*1003:=by
  intro ps
  induction ps with
  | nil=>intro _;simp[joinS]
  | cons x r ih=>
   intro h
   have hx:=h x (.head _)
   have ihr:=ih fun p hp=>h p (.tail _ hp)
   cases r with
   | nil=>simp[joinS];omega
   | cons y r=>
    rw[joinS,List.length_append,List.length_append]
    have:dots.length=3:=rfl
    simp only[List.length_cons] at ihr ⊢
    rw[Nat.add_mul];omega
 have:=hj ps hp
 exact pe_call_f' (k:=1) O hF D.ell.isFn (xe_glob O hk D.gell) (ae2 h1 h2 he) (ell_fn (n:=0) D G h0 hf (by omega) (by omega) (fun p hq=>by have:=hp p hq;omega) (by omega)) (by omega)
end
end Mine
end
section
set_option maxRecDepth 100000
set_option maxHeartbeats 4000000
open PySem PySem.W PyProof.Rows PySem.Calls
namespace Mine
noncomputable def pairsL:List Nat:=[13262,107,109,8470,110,111,64261,115,116,64262,115,116,8482,116,109,8480,115,109,8360,114,115,13173,111,118,13236,112,118,13237,110,118,13239,109,118,13240,107,118,13241,109,118,13242,112,119,13243,110,119,13245,109,119,13246,107,119,13247,109,119,13274,112,114,13276,115,118]
structure PairOk (b nr fr:Nat):Prop where
 hn:105≤nr∧nr≤119
 hf:105≤fr∧fr≤119
 ne:nr≠fr
 hb:122<b∧b<119808
 fold:b3S b=[nr,fr]
 skip:skipS b=false
 low:(Txt.lower (mk [b])).length≤3
 nosp:Txt.isspace (mk [b])=false
noncomputable def pairChk (l:List (Int×Str)) (b nr fr:Nat):Bool:=
 (decide (105≤nr)&&decide (nr≤119)&&decide (105≤fr)&&decide (fr≤119)&& !(nr==fr)&&decide (122<b)&&decide (b<119808))&&
 ((match l.lookup (b:Int) with | some s=>s.cps.toList==[nr,fr] | none=>false)&& !skipS b&&decide ((Txt.lower (mk [b])).cps.toList.length≤3)&& !Txt.isspace (mk [b]))
theorem pair_chk:((List.range 20).all fun j=>pairChk b3L (pairsL.getD (3*j) 0) (pairsL.getD (3*j+1) 0) (pairsL.getD (3*j+2) 0))=true:=by decide+kernel
theorem pair_ok {j:Nat}(h:j<20):PairOk (pairsL.getD (3*j) 0) (pairsL.getD (3*j+1) 0) (pairsL.getD (3*j+2) 0):=by
 have hc:=List.all_eq_true.mp pair_chk j (List.mem_range.mpr h)
 generalize pairsL.getD (3*j) 0=b at*
 generalize pairsL.getD (3*j+1) 0=nr at*
 generalize pairsL.getD (3*j+2) 0=fr at*
 unfold pairChk at hc
 simp only[Bool.and_eq_true,decide_eq_true_eq,Bool.not_eq_true',beq_eq_false_iff_ne] at hc
 obtain⟨⟨⟨⟨⟨⟨⟨h1,h2⟩,h3⟩,h4⟩,h5⟩,h6⟩,h7⟩,⟨⟨h8,h9⟩,h10⟩,h11⟩:=hc
 refine⟨⟨h1,h2⟩,⟨h3,h4⟩,h5,⟨h6,h7⟩,?_,h9,by simpa [Str.length] using h10,h11⟩
 unfold b3S
 cases q:b3L.lookup (b:Int) with
 | some s=>
  rw[q] at h8
  exact beq_iff_eq.mp h8
 | none=>rw[q] at h8;cases h8
noncomputable def typedChk (l:List (Int×Str)) (d:Nat):Bool:=(List.range 12).all fun v=>
 let t:=typedS (97+d) (v:Int)
 !skipS t&&(match l.lookup (t:Int) with | some s=>s.cps.toList==[97+d] | none=>(Txt.lower (mk [t])).cps.toList==[97+d])&&decide ((Txt.lower (mk [t])).cps.toList.length≤3)&& !Txt.isspace (mk [t])&&(decide (t≤122)||decide (119808≤t))&&decide (33≤t)
theorem typed_chk1:((List.range 8).all fun d=>typedChk b3L d)=true:=by decide+kernel
theorem typed_chk2:((List.range 8).all fun d=>typedChk b3L (8+d))=true:=by decide+kernel
theorem typed_chk3:((List.range 8).all fun d=>typedChk b3L (16+d))=true:=by decide+kernel
theorem typed_chk {d:Nat}(h:d<24):typedChk b3L d=true:=by
 rcases (show d<8∨(8≤d∧d<16)∨(16≤d∧d<24) by omega) with h | h | h
 ·exact List.all_eq_true.mp typed_chk1 d (List.mem_range.mpr h)
 ·have:=List.all_eq_true.mp typed_chk2 (d-8) (List.mem_range.mpr (by omega))
  rwa [show 8+(d-8)=d by omega] at this
 ·have:=List.all_eq_true.mp typed_chk3 (d-16) (List.mem_range.mpr (by omega))
  rwa [show 16+(d-16)=d by omega] at this
structure TypedOk (c t:Nat):Prop where
 skip:skipS t=false
 fold:b3S t=[c]
 low:(Txt.lower (mk [t])).length≤3
 nosp:Txt.isspace (mk [t])=false
 rng:t≤122∨119808≤t
 n32:33≤t
theorem typed_ok {c:Nat}{way:Int}(h1:97≤c) (h2:c≤119):TypedOk c (typedS c way):=by
 have hr:=fmod_range way (b:=12) (by decide)
 have ht:typedS c way=typedS (97+(c-97)) (((way.fmod 12).toNat:Nat):Int):=by
  have e1:(((way.fmod 12).toNat:Nat):Int).fmod 12=way.fmod 12:=by
   rw[Int.toNat_of_nonneg hr.1,Int.fmod_eq_emod_of_nonneg _ (by decide)];exact Int.emod_eq_of_lt hr.1 hr.2
  have e2:(((way.fmod 12).toNat:Nat):Int).fmod 2=way.fmod 2:=by
   rw[Int.toNat_of_nonneg hr.1,Int.fmod_eq_emod_of_nonneg _ (by decide),Int.fmod_eq_emod_of_nonneg _ (by decide),Int.fmod_eq_emod_of_nonneg _ (by decide)]
   omega
  unfold typedS
  rw[e1,e2,show 97+(c-97)=c by omega]
 rw[ht]
 have hv:=List.mem_range.mpr (show (way.fmod 12).toNat<12 by omega)
 have hc:c=97+(c-97):=by omega
 have k:=List.all_eq_true.mp (typed_chk (d:=c-97) (by omega)) _ hv
 rw[←hc] at k ⊢
 generalize typedS c (((way.fmod 12).toNat:Nat):Int)=t at*
 simp only[Bool.and_eq_true,Bool.or_eq_true,decide_eq_true_eq,Bool.not_eq_true'] at k
 obtain⟨⟨⟨⟨⟨k1,k2⟩,k3⟩,k4⟩,k5⟩,k6⟩:=k
 refine⟨k1,?_,by simpa [Str.length] using k3,k4,k5,k6⟩
 unfold b3S
 cases hq:b3L.lookup (t:Int) with
 | some s=>rw[hq] at k2;exact beq_iff_eq.mp k2
 | none=>rw[hq] at k2;exact beq_iff_eq.mp k2
end Mine
end
section
open PySem PySem.W PyProof.Rows
namespace Mine
abbrev fL (a0 a1 a2 a3 a4 a5 a6 a7 a8 a9 a10 a11 a12 a13 a14 a15 a16 a17 a18 a19 a20:Option PV):Ro:=[(("script":Str),a0),(("k":Str),a1),(("left":Str),a2),(("right":Str),a3),(("count":Str),a4),(("words":Str),a5),(("both":Str),a6),(("gaps":Str),a7),(("unseen":Str),a8),(("place":Str),a9),(("width":Str),a10),(("maker":Str),a11),(("rows":Str),a12),(("begin":Str),a13),(("j":Str),a14),(("cut":Str),a15),(("page":Str),a16),(("told":Str),a17),(("sign":Str),a18),(("wants":Str),a19),(("names":Str),a20)]
end Mine
end
section
set_option maxRecDepth 100000
set_option maxHeartbeats 4000000
open PySem PySem.W PyProof.Rows PySem.Calls
namespace Mine
structure Cel where
 (numbers whole step first last pairs near far kinds leads pieces:Addr)
noncomputable def clL (c:Cel):List (Str×Addr):=[("pieces",c.pieces),("leads",c.leads),("kinds",c.kinds),("far",c.far),("near",c.near),("pairs",c.pairs),("last",c.last),("first",c.first),("step",c.step),("whole",c.whole),("numbers",c.numbers)]
noncomputable def lX (fa:Addr) (c:Cel) (A:Around) (L:Addr) (g:Heap) (os:OsState) (cdv:Value):Cx:=⟨A,envX "law" (scopeOf (ST 20)) L fa cdv (clL c),L,L,g,os,["script","k","left","right","count","words","both","gaps","unseen","place","width","maker","rows","begin","j","cut","page","told","sign","wants","names"]⟩
noncomputable def lB (i:Nat):List Stmt:=(bodyOf (ST 20)).drop i
section
variable {prog:Program}{w:World}{T:Tops}{n:Nat}{a:Ads}{fa:Addr}{c:Cel}{A:Around}{L:Addr}{g:Heap}{os:OsState}{cdv:Value}{K:PF→Ro→Led→Prop}{rest:Led}{o0I o1I o2I o3I o4I o5I o6I o7I o8I o9I o10I o11I o12I o13I o14I o15I o16I o17I o18I o19I o20I:Option PV}{x_numbers x_whole x_step x_first x_last x_pairs x_near x_far x_kinds x_leads x_pieces:Option PV}
theorem segA (G:Names T) (O:XOK T n (lX fa c A L g os cdv)) (Y:Lay (lX fa c A L g os cdv)) {ns:List Int}{sa:Addr}(hs: ∃o,g.get? sa=some o∧isL (pvI ns) o) (hn:ns.length≤1000)
  (k: ∀b l o1I,l.length=7→SE prog w (lX fa c A L g os cdv) (lB 2) (fL (some (.ref sa)) o1I o2I o3I o4I o5I o6I o7I o8I o9I o10I o11I o12I o13I o14I o15I o16I o17I o18I o19I o20I) ((b,isL (pvI l))::(c.numbers,isCell (some (.ref b)))::(c.whole,isCell x_whole)::(c.step,isCell x_step)::(c.first,isCell x_first)::(c.last,isCell x_last)::(c.pairs,isCell x_pairs)::(c.near,isCell x_near)::(c.far,isCell x_far)::(c.kinds,isCell x_kinds)::(c.leads,isCell x_leads)::(c.pieces,isCell x_pieces)::rest) K):
  SE prog w (lX fa c A L g os cdv) (lB 0) (fL (some (.ref sa)) o1I o2I o3I o4I o5I o6I o7I o8I o9I o10I o11I o12I o13I o14I o15I o16I o17I o18I o19I o20I) ((c.numbers,isCell x_numbers)::(c.whole,isCell x_whole)::(c.step,isCell x_step)::(c.first,isCell x_first)::(c.last,isCell x_last)::(c.pairs,isCell x_pairs)::(c.near,isCell x_near)::(c.far,isCell x_far)::(c.kinds,isCell x_kinds)::(c.leads,isCell x_leads)::(c.pieces,isCell x_pieces)::rest) K:=by
 refine se_cons (s1_assign_g (ge_of_ne (ne_listP (.cons pe_int (.cons pe_int (.cons pe_int (.cons pe_int (.cons pe_int (.cons pe_int (.cons pe_int .nil))))))))) (fun v σ' r=> ?_))
 obtain⟨b,rfl,rfl⟩:=r
 refine⟨_,_,fun u hu=>store_cell (c:=c.numbers) (v₀:=x_numbers) rfl rfl rfl (by repeat (first | exact Um.here | apply Um.there)) hu,?_⟩
 refine se_cons (s1_range (a:=0) (b:=ns.length) ns.length (by omega) O.hh (fun i ρ σ'=> ∃l o1I,l.length=7∧ρ=(fL (some (.ref sa)) o1I o2I o3I o4I o5I o6I o7I o8I o9I o10I o11I o12I o13I o14I o15I o16I o17I o18I o19I o20I)∧σ'=(b,isL (pvI l))::(c.numbers,isCell (some (.ref b)))::(c.whole,isCell x_whole)::(c.step,isCell x_step)::(c.first,isCell x_first)::(c.last,isCell x_last)::(c.pairs,isCell x_pairs)::(c.near,isCell x_near)::(c.far,isCell x_far)::(c.kinds,isCell x_kinds)::(c.leads,isCell x_leads)::(c.pieces,isCell x_pieces)::rest)
  (it_range1 (xe_built O rfl G.range.1 G.range.2) (by
   rw[←pvI_length ns]
   exact pe_call_b (xe_built O rfl G.len.1 G.len.2) (ae1 (pe_local Y (.head _))) (c_lenL (.inr hs) (by rw[pvI_length];omega))) (small_up (by omega) (by omega) (by omega) (by omega)))
  ⟨[960,381,5,1582,100,28,0],_,rfl,rfl,rfl⟩ ?_ ?_)
 ·rintro I i ρ σ' hi ⟨l,o1I,hl,rfl,rfl⟩ hI
  refine⟨_,_,fun u hu=>store_local Y (.there (.here)) hu,?_⟩
  rw[Int.zero_add]
  have e6:((i:Nat):Int).fmod 7=((i%7:Nat):Int):=fmod_nat i 7 (by decide)
  have h6:=Nat.mod_lt i (show 0<7 by decide)
  refine se_cons (s1_augL (a:=b) (ps:=pvI l) (k:=((i:Nat):Int).fmod 7) (v:=.int (ns.getD i 0)) (c:=.int (l.getD (i%7) 0+ns.getD i 0)) (pe_cell (c:=c.numbers) rfl rfl rfl (by repeat (first | exact List.Mem.head _ | apply List.Mem.tail))) (pe_mod (pe_local Y mI1) pe_int (by decide)) (pe_itemL (pe_local Y (.head _)) (.inr hs) (pe_local Y mI1) (by omega) (by rw[pvI_length];omega) (by rw[pvI_length];omega) (itemL_I hi))
   (by omega) (by rw[pvI_length,hl];omega) (by rw[pvI_length,hl];omega) (by rw[e6];exact itemL_I (by omega)) ip_add (by repeat (first | exact Um.here | apply Um.there)) ?_)
  refine se_nil ⟨_,⟨l.set (i%7) (l.getD (i%7) 0+ns.getD i 0),some (.int i),by simp[hl],rfl,rfl⟩,?_⟩
  rw[e6,Int.toNat_natCast,pvI_set]
  exact .refl _
 ·rintro ρ σ' ⟨l,o1I,hl,rfl,rfl⟩
  exact se_nil (k b l o1I hl)
theorem segB (G:Names T) (O:XOK T n (lX fa c A L g os cdv)) (Y:Lay (lX fa c A L g os cdv)) {b:Addr}{l:List Int}(hl:l.length=7)
  (k: ∀b' (n0 n1 n2 n3 n4 n5 n6:Nat),n0<1000000→n1<1000000→n2<1000000→n3<1000000→n4<1000000→n5<1000000→n6<1000000→
   SE prog w (lX fa c A L g os cdv) (lB 3) (fL o0I o1I o2I o3I o4I o5I o6I o7I o8I o9I o10I o11I o12I o13I o14I o15I o16I o17I o18I o19I o20I) ((b',isL (pvI [n0,n1,n2,n3,n4,n5,n6]))::(c.numbers,isCell (some (.ref b')))::(c.whole,isCell x_whole)::(c.step,isCell x_step)::(c.first,isCell x_first)::(c.last,isCell x_last)::(c.pairs,isCell x_pairs)::(c.near,isCell x_near)::(c.far,isCell x_far)::(c.kinds,isCell x_kinds)::(c.leads,isCell x_leads)::(c.pieces,isCell x_pieces)::rest) K):
  SE prog w (lX fa c A L g os cdv) (lB 2) (fL o0I o1I o2I o3I o4I o5I o6I o7I o8I o9I o10I o11I o12I o13I o14I o15I o16I o17I o18I o19I o20I) ((b,isL (pvI l))::(c.numbers,isCell (some (.ref b)))::(c.whole,isCell x_whole)::(c.step,isCell x_step)::(c.first,isCell x_first)::(c.last,isCell x_last)::(c.pairs,isCell x_pairs)::(c.near,isCell x_near)::(c.far,isCell x_far)::(c.kinds,isCell x_kinds)::(c.leads,isCell x_leads)::(c.pieces,isCell x_pieces)::rest) K:=by
 obtain⟨l0,l1,l2,l3,l4,l5,l6,rfl⟩: ∃l0 l1 l2 l3 l4 l5 l6,l=[l0,l1,l2,l3,l4,l5,l6]:=by
  match l,hl with
  | [l0,l1,l2,l3,l4,l5,l6],_=>exact⟨_,_,_,_,_,_,_,rfl⟩
 have hr: ∀x:Int,∃y:Nat,y<1000000∧x.fmod 1000000=(y:Int):=fun x=>by
  have:=fmod_range x (b:=1000000) (by decide)
  exact⟨(x.fmod 1000000).toNat,by omega,(Int.toNat_of_nonneg this.1).symm⟩
 obtain⟨n0,h0,e0⟩:=hr l0
 obtain⟨n1,h1,e1⟩:=hr l1
 obtain⟨n2,h2,e2⟩:=hr l2
 obtain⟨n3,h3,e3⟩:=hr l3
 obtain⟨n4,h4,e4⟩:=hr l4
 obtain⟨n5,h5,e5⟩:=hr l5
 obtain⟨n6,h6,e6⟩:=hr l6
 refine se_cons (s1_assign_g (ge_of_ne (ne_comp (cl:=[]) (seqs_list (ax:=b) (ps:=pvI [l0,l1,l2,l3,l4,l5,l6]) (S:=fun σ=>(b,isL (pvI [l0,l1,l2,l3,l4,l5,l6]))∈σ) fun _ h=>h) (fun i=>.int (([l0,l1,l2,l3,l4,l5,l6].getD i 0).fmod 1000000)) rfl O.hh rfl (by decide) rfl (by decide) rfl
  (it_list (pe_cell (c:=c.numbers) rfl rfl rfl (by repeat (first | exact List.Mem.head _ | apply List.Mem.tail))) (by repeat (first | exact List.Mem.head _ | apply List.Mem.tail))) (fun D zs=>.tail _ mI1) (by show 7≤16777216;decide) (fun C σ₁ i hi hm=> ?_))) (fun v σ' r=> ?_))
 ·have e:(pvI [l0,l1,l2,l3,l4,l5,l6]).getD i .none= .int ([l0,l1,l2,l3,l4,l5,l6].getD i 0):=by
   have hi:i<7:=hi
   match i,hi with
   | 0,_=>rfl
   | 1,_=>rfl
   | 2,_=>rfl
   | 3,_=>rfl
   | 4,_=>rfl
   | 5,_=>rfl
   | 6,_=>rfl
  rw[e]
  exact pe_mod (pe_local (Lay.comp rfl rfl) (.head _)) pe_int (by decide)
 ·obtain⟨q,rfl,rfl⟩:=r
  have el:((List.range (pvI [l0,l1,l2,l3,l4,l5,l6]).length).map fun i=>PV.int (([l0,l1,l2,l3,l4,l5,l6].getD i 0).fmod 1000000))=pvI [n0,n1,n2,n3,n4,n5,n6]:=by
   show [PV.int (l0.fmod 1000000),.int (l1.fmod 1000000),.int (l2.fmod 1000000),.int (l3.fmod 1000000),.int (l4.fmod 1000000),.int (l5.fmod 1000000),.int (l6.fmod 1000000)]=_
   rw[e0,e1,e2,e3,e4,e5,e6];rfl
  rw[el]
  refine⟨_,_,fun u hu=>store_cell (c:=c.numbers) (v₀:=some (.ref b)) rfl rfl rfl (by repeat (first | exact Um.here | apply Um.there)) hu,?_⟩
  exact SE.sub (k q n0 n1 n2 n3 n4 n5 n6 h0 h1 h2 h3 h4 h5 h6) (.cons₂ _ (.cons _ (.refl _)))
theorem item_n {l:List Nat}{i:Nat}{x:Nat}(h:l[i]? =some x):itemL (pvI (l.map fun (y:Nat)=>(y:Int))) (i:Int)= .int x:=by
 unfold itemL pvI
 rw[if_neg (by omega)]
 simp[List.getD_eq_getElem?_getD,h]
theorem pe_num {X:Cx}{ρ:Ro}{σ:Led}{v e:Expr}{pos:Pos}{b:Addr}{l:List Nat}{i:Nat}{x:Nat}(hv:PE prog w X v ρ σ (.ref b)) (hm:(b,isL (pvI (l.map fun (y:Nat)=>(y:Int))))∈σ) (he:PE prog w X e ρ σ (.int i)) (h:l[i]? =some x) (hl:l.length≤1000)
  (hs: ∀x y,subscripted e false x y=operate [x,y] (getItem x y):=by intro _ _;rfl) (ht: ∀x r,letTemporaryGo v (.ref x) r=pure ():=by intro _ _;rfl):PE prog w X (.Subscript v e pos) ρ σ (.int x):=
 pe_itemL (ps:=pvI (l.map fun (y:Nat)=>(y:Int))) hv (.inl hm) he (by omega) (by
  rw[pvI_length,List.length_map]
  have:=(List.getElem?_eq_some_iff.mp h).1
  omega) (by rw[pvI_length,List.length_map];omega) (item_n h) hs ht
theorem segC (G:Names T) (O:XOK T n (lX fa c A L g os cdv)) (Y:Lay (lX fa c A L g os cdv)) {b:Addr}{n0 n1 n2 n3 n4 n5 n6:Nat}(h2:n2<1000000)
  (k: ∀(N s cn:Nat) o2I o3I,N=40+n0%4000→s=1+n1%(N-1)→cn=(if N/Nat.gcd N s<2+n2%7 then N/Nat.gcd N s else 2+n2%7)→
   SE prog w (lX fa c A L g os cdv) (lB 8) (fL o0I o1I o2I o3I (some (.int (cn:Nat))) o5I o6I o7I o8I o9I o10I o11I o12I o13I o14I o15I o16I o17I o18I o19I o20I) ((b,isL (pvI [n0,n1,n2,n3,n4,n5,n6]))::(c.numbers,isCell (some (.ref b)))::(c.whole,isCell (some (.int (N:Nat))))::(c.step,isCell (some (.int (s:Nat))))::(c.first,isCell x_first)::(c.last,isCell x_last)::(c.pairs,isCell x_pairs)::(c.near,isCell x_near)::(c.far,isCell x_far)::(c.kinds,isCell x_kinds)::(c.leads,isCell x_leads)::(c.pieces,isCell x_pieces)::rest) K):
  SE prog w (lX fa c A L g os cdv) (lB 3) (fL o0I o1I o2I o3I o4I o5I o6I o7I o8I o9I o10I o11I o12I o13I o14I o15I o16I o17I o18I o19I o20I) ((b,isL (pvI [n0,n1,n2,n3,n4,n5,n6]))::(c.numbers,isCell (some (.ref b)))::(c.whole,isCell x_whole)::(c.step,isCell x_step)::(c.first,isCell x_first)::(c.last,isCell x_last)::(c.pairs,isCell x_pairs)::(c.near,isCell x_near)::(c.far,isCell x_far)::(c.kinds,isCell x_kinds)::(c.leads,isCell x_leads)::(c.pieces,isCell x_pieces)::rest) K:=by
 have hb:(b,isL (pvI ([n0,n1,n2,n3,n4,n5,n6].map fun (y:Nat)=>(y:Int))))=(b,isL (pvI [n0,n1,n2,n3,n4,n5,n6])):=rfl
 obtain⟨N,hN⟩: ∃N,N=40+n0%4000:=⟨_,rfl⟩
 have h4:=Nat.mod_lt n0 (show 0<4000 by decide)
 refine se_cons (s1_assign_g (ge_of_pe (v:=.int (N:Nat)) (by
  have e:((N:Nat):Int)=40+(n0:Int).fmod 4000:=by
   have:=fmod_nat n0 4000 (by decide)
   rw[show ((4000:Nat):Int)=4000 from rfl] at this
   rw[this];omega
  rw[e]
  exact pe_add pe_int (pe_mod (pe_num (l:=[n0,n1,n2,n3,n4,n5,n6]) (i:=0) (pe_cell (c:=c.numbers) rfl rfl rfl (by repeat (first | exact List.Mem.head _ | apply List.Mem.tail))) (by rw[hb];exact(by repeat (first | exact List.Mem.head _ | apply List.Mem.tail))) pe_int rfl (by simp)) pe_int (by decide)))) (fun v σ' r=> ?_))
 obtain⟨rfl,rfl⟩:=r
 refine⟨_,_,fun u hu=>store_cell (c:=c.whole) (v₀:=x_whole) rfl rfl rfl (by repeat (first | exact Um.here | apply Um.there)) hu,?_⟩
 obtain⟨s,hs⟩: ∃s,s=1+n1%(N-1):=⟨_,rfl⟩
 have hsl:=Nat.mod_lt n1 (show 0<N-1 by omega)
 refine se_cons (s1_assign_g (ge_of_pe (v:=.int (s:Nat)) (by
  have e:((s:Nat):Int)=1+(n1:Int).fmod ((N:Int)-1):=by
   have:=fmod_nat n1 (N-1) (by omega)
   rw[show ((N-1:Nat):Int)=(N:Int)-1 by omega] at this
   rw[this];omega
  rw[e]
  exact pe_add pe_int (pe_mod (pe_num (l:=[n0,n1,n2,n3,n4,n5,n6]) (i:=1) (pe_cell (c:=c.numbers) rfl rfl rfl (by repeat (first | exact List.Mem.head _ | apply List.Mem.tail))) (by rw[hb];exact(by repeat (first | exact List.Mem.head _ | apply List.Mem.tail))) pe_int rfl (by simp)) (pe_sub (pe_cell (c:=c.whole) rfl rfl rfl (by repeat (first | exact List.Mem.head _ | apply List.Mem.tail))) pe_int) (by omega)))) (fun v σ' r=> ?_))
 obtain⟨rfl,rfl⟩:=r
 refine⟨_,_,fun u hu=>store_cell (c:=c.step) (v₀:=x_step) rfl rfl rfl (by repeat (first | exact Um.here | apply Um.there)) hu,?_⟩
 refine se_cons (s1_swapped (names:=["left","right"]) (ge_of_ne (ne_tupleP (vs:=[.int (N:Nat),.int (s:Nat)]) (.cons (pe_cell (c:=c.whole) rfl rfl rfl (by repeat (first | exact List.Mem.head _ | apply List.Mem.tail))) (.cons (pe_cell (c:=c.step) rfl rfl rfl (by repeat (first | exact List.Mem.head _ | apply List.Mem.tail))) .nil)) (by show 2≤16777216;decide))) (fun v σ' r=> ?_))
 obtain⟨t,rfl,rfl⟩:=r
 refine⟨t,_,rfl,un_tuple O.hh (.head _),rfl,ts_cons (tg_bind (fun u hu=>store_local Y (.there (.there (.there (.here)))) hu)) (ts_cons (tg_bind (fun u hu=>store_local Y (.there (.there (.here))) hu)) (ts_nil ?_))⟩
 refine SE.sub ?_ (.cons _ (.refl _))
 refine se_cons (s1_while (fun m ρ σ=> ∃x y:Nat,y=m∧Nat.gcd y x=Nat.gcd N s∧ρ=(fL o0I o1I (some (.int (x:Nat))) (some (.int (y:Nat))) o4I o5I o6I o7I o8I o9I o10I o11I o12I o13I o14I o15I o16I o17I o18I o19I o20I)∧σ=(b,isL (pvI [n0,n1,n2,n3,n4,n5,n6]))::(c.numbers,isCell (some (.ref b)))::(c.whole,isCell (some (.int (N:Nat))))::(c.step,isCell (some (.int (s:Nat))))::(c.first,isCell x_first)::(c.last,isCell x_last)::(c.pairs,isCell x_pairs)::(c.near,isCell x_near)::(c.far,isCell x_far)::(c.kinds,isCell x_kinds)::(c.leads,isCell x_leads)::(c.pieces,isCell x_pieces)::rest) s ⟨N,s,rfl,Nat.gcd_comm s N,rfl,rfl⟩ ?_)
 rintro m ρ σ ⟨x,y,rfl,hg,rfl,rfl⟩
 refine⟨_,be_truthy (pe_local Y mI3) (fun u s h I=>tr_int u s h I),fun hne=> ?_,fun h0=> ?_⟩
 ·have hy:0<y:=by
   rcases Nat.eq_zero_or_pos y with h | h
   ·subst h;simp at hne
   ·exact h
  have e:((x:Int).fmod (y:Int))=((x%y:Nat):Int):=fmod_nat x y hy
  refine se_cons (s1_swapped (names:=["left","right"]) (ge_of_ne (ne_tupleP (vs:=[.int (y:Nat),.int (x%y:Nat)]) (.cons (pe_local Y mI3) (.cons (by
   rw[←e]
   exact pe_mod (pe_local Y mI2) (pe_local Y mI3) (by omega)) .nil)) (by show 2≤16777216;decide))) (fun v σ' r=> ?_))
  obtain⟨t,rfl,rfl⟩:=r
  refine⟨t,_,rfl,un_tuple O.hh (.head _),rfl,ts_cons (tg_bind (fun u hu=>store_local Y (.there (.there (.there (.here)))) hu)) (ts_cons (tg_bind (fun u hu=>store_local Y (.there (.there (.here))) hu)) (ts_nil ?_))⟩
  refine se_nil ⟨x%y,_,Nat.mod_lt x hy,⟨y,x%y,rfl,?_,rfl,rfl⟩,.cons _ (.refl _)⟩
  rw[←hg,Nat.gcd_rec y x]
 ·have hy:y=0:=by simpa using h0
  subst hy
  rw[Nat.gcd_zero_left] at hg
  subst hg
  have hgp:0<Nat.gcd N s:=Nat.gcd_pos_of_pos_left _ (by omega)
  have e2:((2+n2%7:Nat):Int)=2+(n2:Int).fmod 7:=by
   have:=fmod_nat n2 7 (by decide)
   rw[show ((7:Nat):Int)=7 from rfl] at this
   rw[this];omega
  have e3:((N/Nat.gcd N s:Nat):Int)=(N:Int).fdiv (Nat.gcd N s:Nat):=(fdiv_nat _ _).symm
  have hgN:Nat.gcd N s≤N:=Nat.gcd_le_left _ (by omega)
  refine se_nil (se_cons (s1_assign Y (v:=.int ((if N/Nat.gcd N s<2+n2%7 then N/Nat.gcd N s else 2+n2%7:Nat):Int)) (by
   have e4:(((if N/Nat.gcd N s<2+n2%7 then N/Nat.gcd N s else 2+n2%7:Nat)):Int)=if (N:Int).fdiv (Nat.gcd N s:Nat)<2+(n2:Int).fmod 7 then (N:Int).fdiv (Nat.gcd N s:Nat) else 2+(n2:Int).fmod 7:=by
    rw[←e2,←e3]
    split<;>split<;>omega
   rw[e4]
   exact pe_call_b (xe_built O rfl G.min.1 G.min.2) (ae2 (pe_add pe_int (pe_mod (pe_num (l:=[n0,n1,n2,n3,n4,n5,n6]) (i:=2) (pe_cell (c:=c.numbers) rfl rfl rfl (by repeat (first | exact List.Mem.head _ | apply List.Mem.tail))) (by rw[hb];exact(by repeat (first | exact List.Mem.head _ | apply List.Mem.tail))) pe_int rfl (by simp)) pe_int (by decide))) (pe_fdiv (pe_cell (c:=c.whole) rfl rfl rfl (by repeat (first | exact List.Mem.head _ | apply List.Mem.tail))) (pe_local Y mI2) (by omega) (noPyl (by omega)))) (fun us h=>c_min O.hh us h)) (.there (.there (.there (.there (.here))))) (k N s _ _ _ hN hs rfl)))
end
end Mine
end
section
set_option maxRecDepth 100000
open PySem PySem.W PyProof.Rows PySem.Calls
namespace Mine
section
variable {prog:Program}{w:World}{X:Cx}{ρ:Ro}{σ:Led}{K:PF→Ro→Led→Prop}
theorem s1_assign_compR {elt iter:Expr}{x y:Str}{px py pos spos:Pos}{scope:Scope}{cl:List (Str×Addr)}{a b:Int}{ρf:Addr→Ro}(k:Nat) (hk:b=a+k) (ys:Nat→PV) (Y:Lay X) (hFL:X.FL=X.L) (hh:X.A.handled=none)
  (hclos:closureFor scope X.env=pure cl) (hcell: ∀y∈scope.names,y.2≠ .cell) (hkind:scope.kind= .function)
  (hnames: ∀y∈scope.names,y.2= .local→scope.names.lookup y.1=some .local) (hx:scope.names.lookup x=some .local)
  (hi:ItE prog w X iter ρ σ fun I=>rgI a b I 0) (hl:k≤16777216)
  (hstep: ∀C σ₁ i,i<k→(∀p∈(X.L,isNs ρ)::σ,p∈σ₁)→PE prog w (X.comp scope cl C x) elt [(x,some (.int (a+i)))] σ₁ (ys i))
  (hu: ∀q,Up y (some (.ref q)) ρ (ρf q)) (kk: ∀q,K .next (ρf q) ((q,isL ((List.range k).map ys))::σ))
  (hsw:swapsWith (.ListComp elt [⟨.Name x px,iter,[],0⟩] scope pos) (some (.Name y py)) spos.line X.env=pure true:=by rfl)
  (hs: ∀x,foldedSetIterable iter X.env x=pure x:=by intro _;rfl) (hdb:(x==("__debug__":Str))=false:=by decide):
  S1 prog w X (.Assign [.Name y py] (.ListComp elt [⟨.Name x px,iter,[],0⟩] scope pos) spos) ρ σ K:=fun s I=>by
 rw[exec_Assign_Name_used _ _ _ _ hsw]
 refine wpAny_bind (wpAny_standAt (wpAny_bind ?_))
 show wpAny _ X.A (do let _ ←comprehension (.ListComp elt [⟨.Name x px,iter,[],0⟩] scope pos) scope X.env _ (newList []) false (eval iter X.env) (some (assign (.Name y py) X.env))) _ _ s
 refine wpAny_bind (wpAny_mono (comp_core (spos:=_) (use:=some (assign (.Name y py) X.env)) (Q:=fun _ s'=> ∃f ρ' σ',K f ρ' σ'∧FR f .next∧Inv X ρ' σ' s') (seqs_range (rsize_up a b k hk)) (fun i zs σi=>zs=(List.range i).map ys∧σi=σ) hFL hh hclos hcell hkind hnames hx hi ⟨rfl,rfl⟩ (fun _ _ _ _ _=>trivial)
  (fun i zs σi hi h=>by obtain⟨rfl,rfl⟩:=h;simp;omega)
  (fun I C D i zs σi hik h=>by
   obtain⟨rfl,rfl⟩:=h
   refine⟨true,ev_tests0,nofun,fun _=> ?_⟩
   refine(ge_of_pe (hstep C _ i hik fun p hp=> ?_)).mono fun v σ' r=> ?_
   ·exact .tail _ (.tail _ hp)
   ·obtain⟨rfl,rfl⟩:=r
    exact⟨_,⟨by rw[List.range_succ,List.map_append];rfl,rfl⟩,.refl _⟩)
  (fun q C zs ρ' σ' s' hJ I'=> ?_) I hs hdb) (fun _ s' hq=>wpAny_pure (wpAny_pure hq)) fun _ _ e=>e.elim)
 obtain⟨rfl,rfl⟩:=hJ
 show wpAny _ X.A (assign (.Name y py) X.env (.ref q)) _ _ s'
 refine wpAny_mono (wpAny_assign_Name (store_local Y (hu q) (.ref q) s' I')) (fun _ s₂ I₂=> ?_) fun _ _ f=>f
 obtain⟨m,hm⟩:=I₂.isNs (.head _)
 exact⟨m,hm,fun h' hsb=>⟨_,_,_,kk q,.next,I₂.done hsb.extBut (tk:=s₂.toks)⟩⟩
end
end Mine
end
section
set_option maxRecDepth 100000
set_option maxHeartbeats 4000000
open PySem PySem.W PyProof.Rows PySem.Calls
namespace Mine
noncomputable def wordsS (N s cn:Nat):List (List Nat):=(List.range cn).map fun k=>wordS (k*s%N) 3
theorem wordsS_get {N s cn k:Nat}(h:k<cn):(wordsS N s cn).getD k []=wordS (k*s%N) 3:=by
 unfold wordsS
 rw[List.getD_eq_getElem?_getD,List.getElem?_map,List.getElem?_range h];rfl
theorem wordsS_len {N s cn:Nat}:(wordsS N s cn).length=cn:=by simp[wordsS]
section
variable {prog:Program}{w:World}{X:Cx}{ρ:Ro}{σ:Led}
theorem cm_gts {a b:List Nat}:Cm prog w X .Gt (.str a) (.str b) ρ σ (decide (b<a)):=fun u v h1 h2 s I=>by cases h1;cases h2;exact P.gt_str ⟨rfl,I⟩
end
section
variable {prog:Program}{w:World}{T:Tops}{n:Nat}{a:Ads}{fa:Addr}{c:Cel}{A:Around}{L:Addr}{g:Heap}{os:OsState}{cdv:Value}{K:PF→Ro→Led→Prop}{rest:Led}{o0I o1I o2I o3I o4I o5I o6I o7I o8I o9I o10I o11I o12I o13I o14I o15I o16I o17I o18I o19I o20I:Option PV}{x_numbers x_whole x_step x_first x_last x_pairs x_near x_far x_kinds x_leads x_pieces:Option PV}
theorem segD (D:Text T a) (G:Names T) (O:XOK T (n+2) (lX fa c A L g os cdv)) (Y:Lay (lX fa c A L g os cdv)) {N s cn:Nat}(hN:0<N) (hN':N<4096) (hs:s<4096) (hc:cn≤8) {e1:Addr×(Obj→Prop)}
  (k: ∀wd,SE prog w (lX fa c A L g os cdv) (lB 9) (fL o0I o1I o2I o3I (some (.int (cn:Nat))) (some (.ref wd)) o6I o7I o8I o9I o10I o11I o12I o13I o14I o15I o16I o17I o18I o19I o20I) ((wd,isL (pvS (wordsS N s cn)))::e1::(c.numbers,isCell x_numbers)::(c.whole,isCell (some (.int (N:Nat))))::(c.step,isCell (some (.int (s:Nat))))::(c.first,isCell x_first)::(c.last,isCell x_last)::(c.pairs,isCell x_pairs)::(c.near,isCell x_near)::(c.far,isCell x_far)::(c.kinds,isCell x_kinds)::(c.leads,isCell x_leads)::(c.pieces,isCell x_pieces)::rest) K):
  SE prog w (lX fa c A L g os cdv) (lB 8) (fL o0I o1I o2I o3I (some (.int (cn:Nat))) o5I o6I o7I o8I o9I o10I o11I o12I o13I o14I o15I o16I o17I o18I o19I o20I) (e1::(c.numbers,isCell x_numbers)::(c.whole,isCell (some (.int (N:Nat))))::(c.step,isCell (some (.int (s:Nat))))::(c.first,isCell x_first)::(c.last,isCell x_last)::(c.pairs,isCell x_pairs)::(c.near,isCell x_near)::(c.far,isCell x_far)::(c.kinds,isCell x_kinds)::(c.leads,isCell x_leads)::(c.pieces,isCell x_pieces)::rest) K:=by
 have e:pvS (wordsS N s cn)=(List.range cn).map fun k=>PV.str (wordS (k*s%N) 3):=by unfold pvS wordsS;rw[List.map_map];rfl
 simp only[e] at k
 refine se_cons (s1_assign_compR (cl:=[("whole",c.whole),("step",c.step)]) (ρf:=fun wd=>(fL o0I o1I o2I o3I (some (.int (cn:Nat))) (some (.ref wd)) o6I o7I o8I o9I o10I o11I o12I o13I o14I o15I o16I o17I o18I o19I o20I)) (a:=0) (b:=cn) cn (by omega) (fun i=>.str (wordS (i*s%N) 3)) Y rfl O.hh rfl (by decide) rfl (by decide) rfl
   (it_range1 (xe_built O rfl G.range.1 G.range.2) (pe_local Y mI4) (small_up (by omega) (by omega) (by omega) (by omega))) (by omega) (fun C σ₁ i hi hm=>by
  rw[Int.zero_add]
  have hm1:=Nat.mod_lt (i*s) hN
  have hi2:=Nat.mod_lt i (show 0<2 by decide)
  have em:((i:Int)*(s:Int)).fmod (N:Int)=((i*s%N:Nat):Int):=by
   rw[←fmod_nat _ _ hN];simp
  have e2:(i:Int).fmod 2=((i%2:Nat):Int):=fmod_nat i 2 (by decide)
  have ha:(((i:Int)*(s:Int)).fmod (N:Int)*(1-(i:Int).fmod 2*2)).natAbs=i*s%N:=by
   rw[em,e2,Int.natAbs_mul,Int.natAbs_natCast]
   have:(1-((i%2:Nat):Int)*2).natAbs=1:=by omega
   rw[this,Nat.mul_one]
  refine pe_call_f' (k:=2) (O.comp rfl) (.inr ⟨_,hm _ (.head _),lK_nodup⟩) D.word.isFn (xe_glob (O.comp rfl) rfl D.gword) (ae2 (v:=.int (((i:Int)*(s:Int)).fmod (N:Int)*(1-(i:Int).fmod 2*2))) (u:=.int ((3:Nat):Int)) ?_ pe_int) ?_ (by omega)
  ·refine pe_mul (pe_mod (pe_mul (pe_local (Lay.comp rfl rfl) (.head _)) (pe_cell (c:=c.step) rfl rfl rfl (hm _ (.tail _ (by repeat (first | exact List.Mem.head _ | apply List.Mem.tail))))) (mulOk (by omega))) (pe_cell (c:=c.whole) rfl rfl rfl (hm _ (.tail _ (by repeat (first | exact List.Mem.head _ | apply List.Mem.tail))))) (by omega)) (pe_sub pe_int (pe_mul (pe_mod (pe_local (Lay.comp rfl rfl) (.head _)) pe_int (by decide)) pe_int (PySem.IntMulOk.of_right (by decide)))) ?_
   rw[em]
   exact mulOk (by omega)
  ·have:=word_fn (prog:=prog) (w:=w) (n:=0) D G (i:=((i:Int)*(s:Int)).fmod (N:Int)*(1-(i:Int).fmod 2*2)) (sz:=3) (by rw[ha];omega) (by rw[ha];exact hexs_len 3 _ (by omega)) (by omega)
   rw[ha] at this
   exact this) (fun b=>(.there (.there (.there (.there (.there (.here))))))) (fun wd=>k wd))
theorem segE (G:Names T) (O:XOK T n (lX fa c A L g os cdv)) (Y:Lay (lX fa c A L g os cdv)) {N s cn:Nat}{wd:Addr}(h2:2≤cn) (hc:cn≤8) (hN:0<N) {e1:Addr×(Obj→Prop)}
  (k: ∀o1I,SE prog w (lX fa c A L g os cdv) (lB 11) (fL o0I o1I o2I o3I (some (.int (cn:Nat))) (some (.ref wd)) o6I o7I o8I o9I o10I o11I o12I o13I o14I o15I o16I o17I o18I o19I o20I) ((wd,isL (pvS (wordsS N s cn)))::e1::(c.numbers,isCell x_numbers)::(c.whole,isCell x_whole)::(c.step,isCell x_step)::(c.first,isCell (some (.int (firstS (ltW N s) (cn-2):Nat))))::(c.last,isCell (some (.int (lastS (ltW N s) (cn-2):Nat))))::(c.pairs,isCell x_pairs)::(c.near,isCell x_near)::(c.far,isCell x_far)::(c.kinds,isCell x_kinds)::(c.leads,isCell x_leads)::(c.pieces,isCell x_pieces)::rest) K):
  SE prog w (lX fa c A L g os cdv) (lB 9) (fL o0I o1I o2I o3I (some (.int (cn:Nat))) (some (.ref wd)) o6I o7I o8I o9I o10I o11I o12I o13I o14I o15I o16I o17I o18I o19I o20I) ((wd,isL (pvS (wordsS N s cn)))::e1::(c.numbers,isCell x_numbers)::(c.whole,isCell x_whole)::(c.step,isCell x_step)::(c.first,isCell x_first)::(c.last,isCell x_last)::(c.pairs,isCell x_pairs)::(c.near,isCell x_near)::(c.far,isCell x_far)::(c.kinds,isCell x_kinds)::(c.leads,isCell x_leads)::(c.pieces,isCell x_pieces)::rest) K:=by
 have hlt: ∀i j,i<cn→j<cn→ltW N s i j=decide ((wordsS N s cn).getD i []<(wordsS N s cn).getD j []):=fun i j hi hj=>by
  rw[wordsS_get hi,wordsS_get hj];rfl
 refine se_cons (s1_unpack (ts:=[assign _ _,assign _ _]) (ge_of_ne (ne_tupleP (vs:=[.int (1:Nat),.int (1:Nat)]) (.cons pe_int (.cons pe_int .nil)) (by show 2≤16777216;decide))) (fun v σ' r=> ?_) rfl)
 obtain⟨t,rfl,rfl⟩:=r
 refine⟨t,_,rfl,un_tuple O.hh (.head _),rfl,ts_cons (tg_name (fun u hu=>store_cell (c:=c.first) (v₀:=x_first) rfl rfl rfl (by repeat (first | exact Um.here | apply Um.there)) hu)) (ts_cons (tg_name (fun u hu=>store_cell (c:=c.last) (v₀:=x_last) rfl rfl rfl (by repeat (first | exact Um.here | apply Um.there)) hu)) (ts_nil ?_))⟩
 refine SE.sub ?_ (.cons _ (.refl _))
 have hwl:(pvS (wordsS N s cn)).length=cn:=by rw[pvS_length,wordsS_len]
 refine se_cons (s1_range (a:=2) (b:=cn) (cn-2) (by omega) O.hh (fun i ρ σ'=> ∃o1I,ρ=(fL o0I o1I o2I o3I (some (.int (cn:Nat))) (some (.ref wd)) o6I o7I o8I o9I o10I o11I o12I o13I o14I o15I o16I o17I o18I o19I o20I)∧firstS (ltW N s) i<i+2∧lastS (ltW N s) i<i+2∧
   σ'=(wd,isL (pvS (wordsS N s cn)))::e1::(c.numbers,isCell x_numbers)::(c.whole,isCell x_whole)::(c.step,isCell x_step)::(c.first,isCell (some (.int (firstS (ltW N s) i:Nat))))::(c.last,isCell (some (.int (lastS (ltW N s) i:Nat))))::(c.pairs,isCell x_pairs)::(c.near,isCell x_near)::(c.far,isCell x_far)::(c.kinds,isCell x_kinds)::(c.leads,isCell x_leads)::(c.pieces,isCell x_pieces)::rest)
  (it_range2 (xe_built O rfl G.range.1 G.range.2) pe_int (pe_local Y mI4) (small_up (by omega) (by omega) (by omega) (by omega))) ⟨_,rfl,Nat.lt_succ_self 1,Nat.lt_succ_self 1,rfl⟩ ?_ ?_)
 ·rintro I i ρ σ' hi ⟨o1I,rfl,hf,hl,rfl⟩ hI
  refine⟨_,_,fun u hu=>store_local Y (.there (.here)) hu,?_⟩
  have e2:(2:Int)+(i:Int)=((i+2:Nat):Int):=by omega
  rw[e2]
  have hf1:firstS (ltW N s) (i+1)=if decide ((wordsS N s cn).getD (i+2) []<(wordsS N s cn).getD (firstS (ltW N s) i) []) then i+2 else firstS (ltW N s) i:=by
   rw[firstS,hlt _ _ (by omega) (by omega)]
  have hl1:lastS (ltW N s) (i+1)=if decide ((wordsS N s cn).getD (lastS (ltW N s) i) []<(wordsS N s cn).getD (i+2) []) then i+2 else lastS (ltW N s) i:=by
   rw[lastS,hlt _ _ (by omega) (by omega)]
  generalize firstS (ltW N s) (i+1)=f1 at*
  generalize lastS (ltW N s) (i+1)=l1 at*
  generalize firstS (ltW N s) i=f0 at*
  generalize lastS (ltW N s) i=l0 at*
  have step2: ∀f1:Nat,f1<i+3→SE prog w (lX fa c A L g os cdv) ((forBody (nthS (bodyOf (ST 20)) 10)).drop 1) (fL o0I (some (.int (i+2:Nat))) o2I o3I (some (.int (cn:Nat))) (some (.ref wd)) o6I o7I o8I o9I o10I o11I o12I o13I o14I o15I o16I o17I o18I o19I o20I)
   ((I,rgI 2 cn I (i+1))::(wd,isL (pvS (wordsS N s cn)))::e1::(c.numbers,isCell x_numbers)::(c.whole,isCell x_whole)::(c.step,isCell x_step)::(c.first,isCell (some (.int (f1:Nat))))::(c.last,isCell (some (.int (l0:Nat))))::(c.pairs,isCell x_pairs)::(c.near,isCell x_near)::(c.far,isCell x_far)::(c.kinds,isCell x_kinds)::(c.leads,isCell x_leads)::(c.pieces,isCell x_pieces)::rest)
   (LoopK (Then prog w (lX fa c A L g os cdv) (lB 11) K) fun ρ₂ σ₂=> ∃σ₃,(∃o1I,ρ₂=(fL o0I o1I o2I o3I (some (.int (cn:Nat))) (some (.ref wd)) o6I o7I o8I o9I o10I o11I o12I o13I o14I o15I o16I o17I o18I o19I o20I)∧f1<i+1+2∧l1<i+1+2∧
   σ₃=(wd,isL (pvS (wordsS N s cn)))::e1::(c.numbers,isCell x_numbers)::(c.whole,isCell x_whole)::(c.step,isCell x_step)::(c.first,isCell (some (.int (f1:Nat))))::(c.last,isCell (some (.int (l1:Nat))))::(c.pairs,isCell x_pairs)::(c.near,isCell x_near)::(c.far,isCell x_far)::(c.kinds,isCell x_kinds)::(c.leads,isCell x_leads)::(c.pieces,isCell x_pieces)::rest)∧((I,rgI 2 cn I (i+1))::σ₃).Sublist σ₂):=by
   intro f1 hf1'
   refine se_cons (s1_if (c:=decide ((wordsS N s cn).getD l0 []<(wordsS N s cn).getD (i+2) [])) (be_cmp (pe_itemL (pe_local Y mI5) (.inl (by repeat (first | exact List.Mem.head _ | apply List.Mem.tail))) (pe_local Y mI1) (by omega) (by omega) (by omega) (itemL_S (by rw[wordsS_len];omega))) (pe_itemL (pe_local Y mI5) (.inl (by repeat (first | exact List.Mem.head _ | apply List.Mem.tail))) (pe_cell (c:=c.last) rfl rfl rfl (by repeat (first | exact List.Mem.head _ | apply List.Mem.tail))) (by omega) (by omega) (by omega) (itemL_S (by rw[wordsS_len];omega))) cm_gts) (fun h=> ?_) (fun h=> ?_))
   ·rw[h,if_pos rfl] at hl1
    subst hl1
    refine se_cons (s1_assign_g (ge_of_pe (pe_local Y mI1)) (fun v σ' r=> ?_))
    obtain⟨rfl,rfl⟩:=r
    refine⟨_,_,fun u hu=>store_cell (c:=c.last) (v₀:=some (.int (l0:Nat))) rfl rfl rfl (by repeat (first | exact Um.here | apply Um.there)) hu,?_⟩
    exact se_nil (se_nil ⟨_,⟨_,rfl,by omega,by omega,rfl⟩,.refl _⟩)
   ·rw[h,if_neg (by decide)] at hl1
    subst hl1
    exact se_nil (se_nil ⟨_,⟨_,rfl,by omega,by omega,rfl⟩,.refl _⟩)
  refine se_cons (s1_if (c:=decide ((wordsS N s cn).getD (i+2) []<(wordsS N s cn).getD f0 [])) (be_cmp (pe_itemL (pe_local Y mI5) (.inl (by repeat (first | exact List.Mem.head _ | apply List.Mem.tail))) (pe_local Y mI1) (by omega) (by omega) (by omega) (itemL_S (by rw[wordsS_len];omega))) (pe_itemL (pe_local Y mI5) (.inl (by repeat (first | exact List.Mem.head _ | apply List.Mem.tail))) (pe_cell (c:=c.first) rfl rfl rfl (by repeat (first | exact List.Mem.head _ | apply List.Mem.tail))) (by omega) (by omega) (by omega) (itemL_S (by rw[wordsS_len];omega))) cm_lts) (fun h=> ?_) (fun h=> ?_))
  ·rw[h,if_pos rfl] at hf1
   subst hf1
   refine se_cons (s1_assign_g (ge_of_pe (pe_local Y mI1)) (fun v σ' r=> ?_))
   obtain⟨rfl,rfl⟩:=r
   refine⟨_,_,fun u hu=>store_cell (c:=c.first) (v₀:=some (.int (f0:Nat))) rfl rfl rfl (by repeat (first | exact Um.here | apply Um.there)) hu,?_⟩
   exact se_nil (step2 (i+2) (by omega))
  ·rw[h,if_neg (by decide)] at hf1
   subst hf1
   exact se_nil (step2 _ (by omega))
 ·rintro ρ σ' ⟨o1I,rfl,_,_,rfl⟩
  exact se_nil (k _)
theorem segF (D:Text T a) (G:Names T) (O:XOK T (n+1) (lX fa c A L g os cdv)) (Y:Lay (lX fa c A L g os cdv)) {b:Addr}{n0 n1 n2 n3 n4 n5 n6:Nat}{e1:Addr×(Obj→Prop)}
  (k: ∀(bo nr fr:Nat) gp,PairOk bo nr fr→
   SE prog w (lX fa c A L g os cdv) (lB 14) (fL o0I o1I o2I o3I o4I o5I (some (.str [bo])) (some (.ref gp)) o8I o9I o10I o11I o12I o13I o14I o15I o16I o17I o18I o19I o20I) ((gp,isL (pvS [[typedS fr ((n3/12:Nat):Int)],[typedS nr ((n3/144:Nat):Int)],[bo]]))::e1::(b,isL (pvI [n0,n1,n2,n3,n4,n5,n6]))::(c.numbers,isCell (some (.ref b)))::(c.whole,isCell x_whole)::(c.step,isCell x_step)::(c.first,isCell x_first)::(c.last,isCell x_last)::(c.pairs,isCell (some (.str pairsL)))::(c.near,isCell (some (.str [nr])))::(c.far,isCell (some (.str [fr])))::(c.kinds,isCell x_kinds)::(c.leads,isCell x_leads)::(c.pieces,isCell x_pieces)::rest) K):
  SE prog w (lX fa c A L g os cdv) (lB 11) (fL o0I o1I o2I o3I o4I o5I o6I o7I o8I o9I o10I o11I o12I o13I o14I o15I o16I o17I o18I o19I o20I) (e1::(b,isL (pvI [n0,n1,n2,n3,n4,n5,n6]))::(c.numbers,isCell (some (.ref b)))::(c.whole,isCell x_whole)::(c.step,isCell x_step)::(c.first,isCell x_first)::(c.last,isCell x_last)::(c.pairs,isCell x_pairs)::(c.near,isCell x_near)::(c.far,isCell x_far)::(c.kinds,isCell x_kinds)::(c.leads,isCell x_leads)::(c.pieces,isCell x_pieces)::rest) K:=by
 have hb:(b,isL (pvI ([n0,n1,n2,n3,n4,n5,n6].map fun (y:Nat)=>(y:Int))))=(b,isL (pvI [n0,n1,n2,n3,n4,n5,n6])):=rfl
 refine se_cons (s1_assign_g (ge_of_pe (v:=.str pairsL) pe_str) (fun v σ' r=> ?_))
 obtain⟨rfl,rfl⟩:=r
 refine⟨_,_,fun u hu=>store_cell (c:=c.pairs) (v₀:=x_pairs) rfl rfl rfl (by repeat (first | exact Um.here | apply Um.there)) hu,?_⟩
 have hj:=Nat.mod_lt n6 (show 0<20 by decide)
 have P:=pair_ok hj
 have pl:pairsL.length=60:=rfl
 refine se_cons (s1_unpack (ts:=[assign _ _,assign _ _,assign _ _]) (ge_of_ne (ne_compR (cl:=[("pairs",c.pairs),("numbers",c.numbers)]) (a:=0) (b:=3) 3 rfl (fun i=>.str [pairsL.getD (3*(n6%20)+i) 0]) rfl O.hh rfl (by decide) rfl (by decide) rfl
  (it_range1 (xe_built O rfl G.range.1 G.range.2) pe_int (small_up (by omega) (by omega) (by omega) (by omega))) (by decide) (fun C σ₁ i hi hm=> ?_))) (fun v σ' r=> ?_) rfl)
 ·rw[Int.zero_add]
  have e20:(n6:Int).fmod 20=((n6%20:Nat):Int):=fmod_nat n6 20 (by decide)
  have e:(n6:Int).fmod 20*3+(i:Int)=((3*(n6%20)+i:Nat):Int):=by rw[e20];omega
  rw[←itemT_nat,←e]
  refine pe_item (pe_cell (c:=c.pairs) rfl rfl rfl (hm _ (.tail _ (by repeat (first | exact List.Mem.head _ | apply List.Mem.tail))))) (pe_add (pe_mul (pe_mod (pe_num (l:=[n0,n1,n2,n3,n4,n5,n6]) (i:=6) (pe_cell (c:=c.numbers) rfl rfl rfl (hm _ (.tail _ (by repeat (first | exact List.Mem.head _ | apply List.Mem.tail))))) (by rw[hb];exact hm _ (.tail _ (by repeat (first | exact List.Mem.head _ | apply List.Mem.tail)))) pe_int rfl (by simp)) pe_int (by decide)) pe_int (PySem.IntMulOk.of_right (by decide))) (pe_local (Lay.comp rfl rfl) (.head _))) (by rw[e];omega) (by rw[e,pl];omega) (by rw[pl];decide)
 ·obtain⟨q,rfl,rfl⟩:=r
  have el:((List.range 3).map fun i=>PV.str [pairsL.getD (3*(n6%20)+i) 0])=[.str [pairsL.getD (3*(n6%20)) 0],.str [pairsL.getD (3*(n6%20)+1) 0],.str [pairsL.getD (3*(n6%20)+2) 0]]:=rfl
  rw[el]
  generalize pairsL.getD (3*(n6%20)) 0=bo at*
  generalize pairsL.getD (3*(n6%20)+1) 0=nr at*
  generalize pairsL.getD (3*(n6%20)+2) 0=fr at*
  have h1:=P.hn
  have h2:=P.hf
  refine⟨q,_,rfl,un_list O.hh (.head _),rfl,ts_cons (tg_name (fun u hu=>store_local Y (.there (.there (.there (.there (.there (.there (.here))))))) hu)) (ts_cons (tg_name (fun u hu=>store_cell (c:=c.near) (v₀:=x_near) rfl rfl rfl (by repeat (first | exact Um.here | apply Um.there)) hu)) (ts_cons (tg_name (fun u hu=>store_cell (c:=c.far) (v₀:=x_far) rfl rfl rfl (by repeat (first | exact Um.here | apply Um.there)) hu)) (ts_nil ?_)))⟩
  refine SE.sub ?_ (.cons _ (.refl _))
  have f12:(n3:Int).fdiv 12=((n3/12:Nat):Int):=fdiv_nat n3 12
  have f144:(n3:Int).fdiv 144=((n3/144:Nat):Int):=fdiv_nat n3 144
  refine se_cons (s1_assign_new Y (ρf:=fun gp=>(fL o0I o1I o2I o3I o4I o5I (some (.str [bo])) (some (.ref gp)) o8I o9I o10I o11I o12I o13I o14I o15I o16I o17I o18I o19I o20I)) (P:=isL (pvS [[typedS fr ((n3/12:Nat):Int)],[typedS nr ((n3/144:Nat):Int)],[bo]])) (by
   refine ne_listP (vs:=pvS [[typedS fr ((n3/12:Nat):Int)],[typedS nr ((n3/144:Nat):Int)],[bo]]) (.cons ?_ (.cons ?_ (.cons (pe_local Y mI6) .nil))) (by show 3≤16777216;decide)
   ·rw[←f12]
    exact pe_call_f' (k:=1) O (.inl rfl) D.typed.isFn (xe_glob O rfl D.gtyped) (ae2 (pe_cell (c:=c.far) rfl rfl rfl (by repeat (first | exact List.Mem.head _ | apply List.Mem.tail))) (pe_fdiv (pe_num (l:=[n0,n1,n2,n3,n4,n5,n6]) (i:=3) (pe_cell (c:=c.numbers) rfl rfl rfl (by repeat (first | exact List.Mem.head _ | apply List.Mem.tail))) (by rw[hb];exact(by repeat (first | exact List.Mem.head _ | apply List.Mem.tail))) pe_int rfl (by simp)) pe_int (by decide) (noPyl (by decide)))) (typed_fn (n:=0) D G (by omega) (by omega)) (by omega)
   ·rw[←f144]
    exact pe_call_f' (k:=1) O (.inl rfl) D.typed.isFn (xe_glob O rfl D.gtyped) (ae2 (pe_cell (c:=c.near) rfl rfl rfl (by repeat (first | exact List.Mem.head _ | apply List.Mem.tail))) (pe_fdiv (pe_num (l:=[n0,n1,n2,n3,n4,n5,n6]) (i:=3) (pe_cell (c:=c.numbers) rfl rfl rfl (by repeat (first | exact List.Mem.head _ | apply List.Mem.tail))) (by rw[hb];exact(by repeat (first | exact List.Mem.head _ | apply List.Mem.tail))) pe_int rfl (by simp)) pe_int (by decide) (noPyl (by decide)))) (typed_fn (n:=0) D G (by omega) (by omega)) (by omega)) (fun b=>(.there (.there (.there (.there (.there (.there (.there (.here))))))))) (fun gp hgp=>k bo nr fr gp P))
theorem segU (G:Names T) (O:XOK T n (lX fa c A L g os cdv)) (Y:Lay (lX fa c A L g os cdv)) {σ:Led}
  (k:SE prog w (lX fa c A L g os cdv) (lB 15) (fL o0I o1I o2I o3I o4I o5I o6I o7I (some (.str unseenL)) o9I o10I o11I o12I o13I o14I o15I o16I o17I o18I o19I o20I) σ K):
  SE prog w (lX fa c A L g os cdv) (lB 14) (fL o0I o1I o2I o3I o4I o5I o6I o7I o8I o9I o10I o11I o12I o13I o14I o15I o16I o17I o18I o19I o20I) σ K:=by
 have hj:((List.range 16).map fun (i:Nat)=>PV.str [(65024+(i:Int)).toNat])=pvS ((List.range 16).map fun i=>[65024+i]):=rfl
 refine se_cons (s1_assign Y (v:=.str unseenL) (pe_cat (a:=[173,847,6150,6155,6156,6157,8203,8204,8205,8288,65279]) (b:=joinS [] ((List.range 16).map fun i=>[65024+i])) pe_str (pe_joinC pe_str (hj ▸ ne_compR (cl:=[]) (a:=65024) (b:=65040) 16 rfl (fun i=>.str [(65024+(i:Int)).toNat]) rfl O.hh rfl (by decide) rfl (by decide) rfl
  (it_range2 (xe_built O rfl G.range.1 G.range.2) pe_int pe_int (small_up (by omega) (by omega) (by omega) (by omega))) (by decide) (fun C σ₁ i hi hm=> ?_)) (by decide)) (by decide)) (.there (.there (.there (.there (.there (.there (.there (.there (.here))))))))) k)
 exact pe_call_b (xe_built (O.comp rfl) rfl G.chr.1 G.chr.2) (ae1 (pe_local (Lay.comp rfl rfl) (.head _))) (c_chr (by omega) (by omega))
end
end Mine
end
section
set_option maxRecDepth 100000
open PySem PySem.W PyProof.Rows PySem.Calls
namespace Mine
section
variable {prog:Program}{w:World}{X:Cx}{ρ:Ro}{σ:Led}
theorem gip_L {a:Addr}{ps:List PV}(hm:At X σ a (isL ps)) {s:Shared}(I:Inv X ρ σ s) {E:Value→Shared→Prop}:wpAny (model prog w) X.A (getitemInPython (.ref a)) (fun b s'=>b=false∧s'=s) E s:=by
 obtain⟨o,ho,po⟩:=hm.obj I
 obtain⟨vs,hvs,il⟩:=po.list ho
 rw[getitemInPython_of_ne (fun e=>by cases e)]
 exact wpAny_bind (wpAny_specialOf il.typeIs slot_list_getitem.lookup (wpAny_pure ⟨rfl,rfl⟩))
theorem pe_itemN {v e:Expr}{pos:Pos}{ps:List PV}{i:Int}{p:PV}(hv:NE prog w X v ρ σ (isL ps)) (he: ∀a,PE prog w X e ρ ((a,isL ps)::σ) (.int i)) (h0: -(ps.length:Int)≤i) (h1:i<ps.length) (hn:ps.length≤16777216) (hp:itemL ps i=p)
  (hs: ∀x y,subscripted e false x y=operate [x,y] (getItem x y):=by intro _ _;rfl):PE prog w X (.Subscript v e pos) ρ σ p:=fun s I=>by
 refine PyProof.Rows.Subscript_ (wpAny_mono (hv s I) (fun u s₁ q=> ?_) fun _ _ f=>f)
 obtain⟨a,rfl,I₁⟩:=q
 refine wpAny_mono (he a s₁ I₁) (fun y s₂ q'=> ?_) fun _ _ f=>f
 obtain⟨h2,I₂⟩:=q'
 exact tail_of (gip_L (.inl (.head _)) I₂) (hs _ _) (wpAny_mono (getItemL (.inl (.head _)) h0 h1 hn hp _ _ (.ref a) h2 s₂ I₂) (fun r s₃ q=>⟨q.1,q.2.sub (.cons _ (.refl _))⟩) fun _ _ f=>f)
end
end Mine
end
section
set_option maxRecDepth 100000
set_option maxHeartbeats 4000000
open PySem PySem.W PyProof.Rows PySem.Calls
namespace Mine
structure Dt where
 (n f g n3 n4 n5 bo nr fr:Nat)
namespace Dt
variable (d:Dt)
noncomputable def pl (k:Nat):Nat:=plS d.n d.f d.g k
noncomputable def kd (k:Nat):Nat:=kindS d.n d.f d.g (d.pl k)
noncomputable def gap (kd:Nat):Nat:=if kd=0 then typedS d.fr ((d.n3/12:Nat):Int) else if kd=1 then typedS d.nr ((d.n3/144:Nat):Int) else d.bo
noncomputable def lead (k:Nat):List Nat:=List.replicate (d.n5/12/2^k%2) 32
noncomputable def piece (k:Nat):List Nat:=[typedS (97+d.pl k) ((d.n3+d.pl k:Nat):Int)]++List.replicate (d.n4/3^k%3) (unseenL.getD ((d.n4+k)%27) 0)++[d.gap (d.kd k)]
noncomputable def kindsL (i:Nat):List Int:=(List.range i).map fun k=>(d.kd k:Int)
noncomputable def leadsL (i:Nat):List (List Nat):=(List.range i).map d.lead
noncomputable def piecesL (i:Nat):List (List Nat):=(List.range i).map d.piece
structure Ok:Prop where
 n2:2≤d.n
 n8:d.n≤8
 f:1≤d.f∧d.f<d.n
 g:1≤d.g∧d.g<d.n
 pl: ∀k,k<d.n→d.pl k<d.n
 two: ∀k,k<d.n→d.kd k=2→d.g≤d.pl k+d.f
 pair:PairOk d.bo d.nr d.fr
 n3:d.n3<1000000
 n4:d.n4<1000000
 n5:d.n5<1000000
end Dt
theorem pow3': ∀i:Nat,i<8→(3:Nat)^i≤2187:=by decide
theorem word1 {p:Nat}(h:p<16):wordS p 1=[97+p]:=by
 match p,h with
 | 0,_=>simp[wordS,hexs]
 | 1,_=>simp[wordS,hexs]
 | 2,_=>simp[wordS,hexs]
 | 3,_=>simp[wordS,hexs]
 | 4,_=>simp[wordS,hexs]
 | 5,_=>simp[wordS,hexs]
 | 6,_=>simp[wordS,hexs]
 | 7,_=>simp[wordS,hexs]
 | 8,_=>simp[wordS,hexs]
 | 9,_=>simp[wordS,hexs]
 | 10,_=>simp[wordS,hexs]
 | 11,_=>simp[wordS,hexs]
 | 12,_=>simp[wordS,hexs]
 | 13,_=>simp[wordS,hexs]
 | 14,_=>simp[wordS,hexs]
 | 15,_=>simp[wordS,hexs]
 | k+16,h=>exact absurd h (by omega)
section
variable {prog:Program}{w:World}{T:Tops}{n:Nat}{a:Ads}{fa:Addr}{c:Cel}{A:Around}{L:Addr}{g:Heap}{os:OsState}{cdv:Value}{K:PF→Ro→Led→Prop}{rest:Led}{o0I o1I o2I o3I o4I o5I o6I o7I o8I o9I o10I o11I o12I o13I o14I o15I o16I o17I o18I o19I o20I:Option PV}{x_numbers x_whole x_step x_first x_last x_pairs x_near x_far x_kinds x_leads x_pieces:Option PV}
theorem segG0 (O:XOK T n (lX fa c A L g os cdv)) (Y:Lay (lX fa c A L g os cdv)) {e1 e2:Addr×(Obj→Prop)}
  (k: ∀kd ld pc,SE prog w (lX fa c A L g os cdv) (lB 16) (fL o0I o1I o2I o3I o4I o5I o6I o7I o8I (some (.int (0:Nat))) o10I o11I o12I o13I o14I o15I o16I o17I o18I o19I o20I) ((pc,isL [])::(ld,isL [])::(kd,isL [])::e1::e2::(c.numbers,isCell x_numbers)::(c.whole,isCell x_whole)::(c.step,isCell x_step)::(c.first,isCell x_first)::(c.last,isCell x_last)::(c.pairs,isCell x_pairs)::(c.near,isCell x_near)::(c.far,isCell x_far)::(c.kinds,isCell (some (.ref kd)))::(c.leads,isCell (some (.ref ld)))::(c.pieces,isCell (some (.ref pc)))::rest) K):
  SE prog w (lX fa c A L g os cdv) (lB 15) (fL o0I o1I o2I o3I o4I o5I o6I o7I o8I o9I o10I o11I o12I o13I o14I o15I o16I o17I o18I o19I o20I) (e1::e2::(c.numbers,isCell x_numbers)::(c.whole,isCell x_whole)::(c.step,isCell x_step)::(c.first,isCell x_first)::(c.last,isCell x_last)::(c.pairs,isCell x_pairs)::(c.near,isCell x_near)::(c.far,isCell x_far)::(c.kinds,isCell x_kinds)::(c.leads,isCell x_leads)::(c.pieces,isCell x_pieces)::rest) K:=by
 refine se_cons (s1_unpack (ts:=[assign _ _,assign _ _,assign _ _,assign _ _]) (ge_tuple rfl (spg_cons (ge_of_ne (ne_listP .nil)) fun v σ' r=>spg_cons (ge_of_ne (ne_listP .nil)) fun v σ' r=>spg_cons (ge_of_ne (ne_listP .nil)) fun v σ' r=>spg_cons (ge_of_pe (v:=.int (0:Nat)) pe_int) fun v σ' r=>spg_nil) (fun vs σ' r=> ?_)) (fun v σ' r=> ?_) rfl)
 ·obtain⟨v,σ₁,r,rfl,_,v₂,σ₂,r₂,rfl,_,v₃,σ₃,r₃,rfl,_,v₄,σ₄,r₄,rfl,_,rfl,_⟩:=r
  simp
 ·obtain⟨t,vs,σ₁,rfl,rfl,v,σ₂,r,rfl,⟨kd,rfl,rfl⟩,v₂,σ₃,r₂,rfl,⟨ld,rfl,rfl⟩,v₃,σ₄,r₃,rfl,⟨pc,rfl,rfl⟩,v₄,σ₅,r₄,rfl,⟨rfl,rfl⟩,rfl,rfl⟩:=r
  refine⟨t,_,rfl,un_tuple O.hh (.head _),rfl,ts_cons (tg_name (fun u hu=>store_cell (c:=c.kinds) (v₀:=x_kinds) rfl rfl rfl (by repeat (first | exact Um.here | apply Um.there)) hu)) (ts_cons (tg_name (fun u hu=>store_cell (c:=c.leads) (v₀:=x_leads) rfl rfl rfl (by repeat (first | exact Um.here | apply Um.there)) hu)) (ts_cons (tg_name (fun u hu=>store_cell (c:=c.pieces) (v₀:=x_pieces) rfl rfl rfl (by repeat (first | exact Um.here | apply Um.there)) hu)) (ts_cons (tg_name (fun u hu=>store_local Y (.there (.there (.there (.there (.there (.there (.there (.there (.there (.here)))))))))) hu)) (ts_nil ?_))))⟩
  exact SE.sub (k kd ld pc) (.cons _ (.refl _))
theorem segG (D:Text T a) (G:Names T) (O:XOK T (n+2) (lX fa c A L g os cdv)) (Y:Lay (lX fa c A L g os cdv)) {d:Dt}(H:d.Ok) {kd ld pc gp b:Addr}{n0 n1 n2 n6:Nat}
  (k: ∀o1I o9I,SE prog w (lX fa c A L g os cdv) (lB 17) (fL o0I o1I o2I o3I (some (.int (d.n:Nat))) o5I o6I (some (.ref gp)) (some (.str unseenL)) o9I o10I o11I o12I o13I o14I o15I o16I o17I o18I o19I o20I) ((pc,isL (pvS (d.piecesL d.n)))::(ld,isL (pvS (d.leadsL d.n)))::(kd,isL (pvI (d.kindsL d.n)))::(gp,isL (pvS [[d.gap 0],[d.gap 1],[d.gap 2]]))::(b,isL (pvI [n0,n1,n2,d.n3,d.n4,d.n5,n6]))::(c.numbers,isCell (some (.ref b)))::(c.whole,isCell x_whole)::(c.step,isCell x_step)::(c.first,isCell (some (.int (d.f:Nat))))::(c.last,isCell (some (.int (d.g:Nat))))::(c.pairs,isCell x_pairs)::(c.near,isCell x_near)::(c.far,isCell x_far)::(c.kinds,isCell (some (.ref kd)))::(c.leads,isCell (some (.ref ld)))::(c.pieces,isCell (some (.ref pc)))::rest) K):
  SE prog w (lX fa c A L g os cdv) (lB 16) (fL o0I o1I o2I o3I (some (.int (d.n:Nat))) o5I o6I (some (.ref gp)) (some (.str unseenL)) (some (.int (0:Nat))) o10I o11I o12I o13I o14I o15I o16I o17I o18I o19I o20I) ((pc,isL [])::(ld,isL [])::(kd,isL [])::(gp,isL (pvS [[d.gap 0],[d.gap 1],[d.gap 2]]))::(b,isL (pvI [n0,n1,n2,d.n3,d.n4,d.n5,n6]))::(c.numbers,isCell (some (.ref b)))::(c.whole,isCell x_whole)::(c.step,isCell x_step)::(c.first,isCell (some (.int (d.f:Nat))))::(c.last,isCell (some (.int (d.g:Nat))))::(c.pairs,isCell x_pairs)::(c.near,isCell x_near)::(c.far,isCell x_far)::(c.kinds,isCell (some (.ref kd)))::(c.leads,isCell (some (.ref ld)))::(c.pieces,isCell (some (.ref pc)))::rest) K:=by
 have hb:(b,isL (pvI ([n0,n1,n2,d.n3,d.n4,d.n5,n6].map fun (y:Nat)=>(y:Int))))=(b,isL (pvI [n0,n1,n2,d.n3,d.n4,d.n5,n6])):=rfl
 have n2':=H.n2
 have n8:=H.n8
 have hf:=H.f
 have hg:=H.g
 refine se_cons (s1_range (a:=0) (b:=d.n) d.n (by omega) O.hh (fun i ρ σ'=> ∃o1I,ρ=(fL o0I o1I o2I o3I (some (.int (d.n:Nat))) o5I o6I (some (.ref gp)) (some (.str unseenL)) (some (.int (d.pl i:Nat))) o10I o11I o12I o13I o14I o15I o16I o17I o18I o19I o20I)∧
   σ'=(pc,isL (pvS (d.piecesL i)))::(ld,isL (pvS (d.leadsL i)))::(kd,isL (pvI (d.kindsL i)))::(gp,isL (pvS [[d.gap 0],[d.gap 1],[d.gap 2]]))::(b,isL (pvI [n0,n1,n2,d.n3,d.n4,d.n5,n6]))::(c.numbers,isCell (some (.ref b)))::(c.whole,isCell x_whole)::(c.step,isCell x_step)::(c.first,isCell (some (.int (d.f:Nat))))::(c.last,isCell (some (.int (d.g:Nat))))::(c.pairs,isCell x_pairs)::(c.near,isCell x_near)::(c.far,isCell x_far)::(c.kinds,isCell (some (.ref kd)))::(c.leads,isCell (some (.ref ld)))::(c.pieces,isCell (some (.ref pc)))::rest)
  (it_range1 (xe_built O rfl G.range.1 G.range.2) (pe_local Y mI4) (small_up (by omega) (by omega) (by omega) (by omega))) ⟨_,rfl,rfl⟩ ?_ ?_)
 ·rintro I i ρ σ' hi ⟨o1I,rfl,rfl⟩ hI
  refine⟨_,_,fun u hu=>store_local Y (.there (.here)) hu,?_⟩
  rw[Int.zero_add]
  have hp:=H.pl i hi
  have htwo:=H.two i hi
  have hnx:d.pl (i+1)=nextS d.n d.f d.g (d.pl i):=rfl
  have hkd:d.kd i=kindS d.n d.f d.g (d.pl i):=rfl
  have hpi:d.piece i=[typedS (97+d.pl i) ((d.n3+d.pl i:Nat):Int)]++List.replicate (d.n4/3^i%3) (unseenL.getD ((d.n4+i)%27) 0)++[d.gap (d.kd i)]:=rfl
  have hk1:pvI (d.kindsL i)++[.int (d.kd i:Nat)]=pvI (d.kindsL (i+1)):=by unfold Dt.kindsL pvI;rw[List.range_succ,List.map_append,List.map_append];rfl
  have hl1:pvS (d.leadsL i)++[.str (d.lead i)]=pvS (d.leadsL (i+1)):=by rw[pvS_snoc];unfold Dt.leadsL;rw[List.range_succ,List.map_append];rfl
  have hp1:pvS (d.piecesL i)++[.str (d.piece i)]=pvS (d.piecesL (i+1)):=by rw[pvS_snoc];unfold Dt.piecesL;rw[List.range_succ,List.map_append];rfl
  have hlk:(pvI (d.kindsL i)).length=i:=by rw[pvI_length];simp[Dt.kindsL]
  have hll:(pvS (d.leadsL i)).length=i:=by rw[pvS_length];simp[Dt.leadsL]
  have hlp:(pvS (d.piecesL i)).length=i:=by rw[pvS_length];simp[Dt.piecesL]
  have hgi:itemL (pvI (d.kindsL (i+1))) (i:Int)= .int (d.kd i:Nat):=by
   rw[itemL_I (by simp[Dt.kindsL])]
   simp[Dt.kindsL]
  have hlk1:(pvI (d.kindsL (i+1))).length=i+1:=by rw[pvI_length];simp[Dt.kindsL]
  have hkv:(d.kd i=0∧d.g≤d.pl i)∨(d.kd i=1∧ ¬d.g≤d.pl i∧d.pl i+d.f<d.n)∨(d.kd i=2∧ ¬d.g≤d.pl i∧ ¬d.pl i+d.f<d.n):=by
   rw[hkd];unfold kindS
   by_cases q:d.g≤d.pl i
   ·rw[if_pos q];exact .inl ⟨rfl,q⟩
   ·rw[if_neg q]
    by_cases q2:d.pl i<d.n-d.f
    ·rw[if_pos q2];exact .inr (.inl ⟨rfl,q,by omega⟩)
    ·rw[if_neg q2];exact .inr (.inr ⟨rfl,q,by omega⟩)
  have hnv:(d.pl (i+1):Int)=(d.pl i:Int)+(if d.kd i=0 then-(d.g:Int) else if d.kd i=1 then (d.f:Int) else (d.f:Int)-(d.g:Int)):=by
   rw[hnx];unfold nextS
   rw[←hkd]
   rcases hkv with ⟨e,q⟩ | ⟨e,q,q2⟩ | ⟨e,q,q2⟩
   ·rw[if_pos e,if_pos e];omega
   ·rw[if_neg (by omega),if_pos e,if_neg (by omega),if_pos e];omega
   ·have:=htwo e
    rw[if_neg (by omega),if_neg (by omega),if_neg (by omega),if_neg (by omega)];omega
  generalize d.pl (i+1)=p1 at*
  generalize d.pl i=p at*
  generalize d.kd i=kk at*
  generalize d.piecesL (i+1)=P1 at*
  generalize d.piecesL i=P0 at*
  generalize d.kindsL (i+1)=K1 at*
  generalize d.kindsL i=K0 at*
  have hkk:kk<3:=by omega
  have hp3:=pow3' i (by omega)
  have hp2:=pow2 i (by omega)
  refine se_cons (s1_append (a:=kd) (ps:=pvI K0) (pe_cell (c:=c.kinds) rfl rfl rfl (by repeat (first | exact List.Mem.head _ | apply List.Mem.tail))) (ge_of_pe (v:=.int (kk:Nat)) (pe_if (c:=decide ((d.g:Int)≤(p:Int))) (be_cmp (pe_local Y mI9) (pe_cell (c:=c.last) rfl rfl rfl (by repeat (first | exact List.Mem.head _ | apply List.Mem.tail))) cm_ge) (fun h=>by
    have h:=of_decide_eq_true h
    have:kk=0:=by omega
    subst this
    exact pe_int) (fun h=>by
    have h:=of_decide_eq_false h
    refine pe_if (c:=decide ((p:Int)<(d.n:Int)-(d.f:Int))) (be_cmp (pe_local Y mI9) (pe_sub (pe_local Y mI4) (pe_cell (c:=c.first) rfl rfl rfl (by repeat (first | exact List.Mem.head _ | apply List.Mem.tail)))) cm_lt) (fun h2=> ?_) (fun h2=> ?_)
    ·have h2:=of_decide_eq_true h2
     have:kk=1:=by omega
     subst this
     exact pe_int
    ·have h2:=of_decide_eq_false h2
     have:kk=2:=by omega
     subst this
     exact pe_int))) (fun v σ' r=> ?_) (by repeat (first | exact List.Mem.head _ | apply List.Mem.tail)) (by rw[hlk];omega))
  obtain⟨rfl,rfl⟩:=r
  refine⟨_,(by repeat (first | exact Um.here | apply Um.there)),?_⟩
  rw[hk1]
  have f12:(d.n5:Int).fdiv 12=((d.n5/12:Nat):Int):=fdiv_nat d.n5 12
  have fl:((d.n5:Int).fdiv 12).fdiv ((2:Int)^((i:Int)).toNat)=((d.n5/12/2^i:Nat):Int):=by
   rw[f12,Int.toNat_natCast,show (2:Int)^i=((2^i:Nat):Int) by simp,fdiv_nat]
  have fm:(((d.n5:Int).fdiv 12).fdiv ((2:Int)^((i:Int)).toNat)).fmod 2=((d.n5/12/2^i%2:Nat):Int):=by
   rw[fl];exact fmod_nat _ 2 (by decide)
  have hlead:d.lead i=rep [32] ((((d.n5:Int).fdiv 12).fdiv ((2:Int)^((i:Int)).toNat)).fmod 2):=by
   rw[fm,rep_one];rfl
  have hlm:=Nat.mod_lt (d.n5/12/2^i) (show 0<2 by decide)
  have p2p:0<2^i:=Nat.pow_pos (by decide)
  refine se_cons (s1_append (a:=ld) (ps:=pvS (d.leadsL i)) (pe_cell (c:=c.leads) rfl rfl rfl (by repeat (first | exact List.Mem.head _ | apply List.Mem.tail))) (ge_of_pe (v:=.str (d.lead i)) (by
   rw[hlead]
   refine pe_rep (pe_str (x:=" ")) (pe_mod (pe_fdiv (pe_fdiv (pe_num (l:=[n0,n1,n2,d.n3,d.n4,d.n5,n6]) (i:=5) (pe_cell (c:=c.numbers) rfl rfl rfl (by repeat (first | exact List.Mem.head _ | apply List.Mem.tail))) (by rw[hb];exact(by repeat (first | exact List.Mem.head _ | apply List.Mem.tail))) pe_int rfl (by simp)) pe_int (by decide) (noPyl (by decide))) (pe_pow pe_int (pe_local Y mI1) (by omega) (by omega) (by decide)) ?_ (noPyl ?_)) pe_int (by decide)) (by decide) (by rw[fm];omega) (by rw[fm];omega)
   ·rw[Int.toNat_natCast,show (2:Int)^i=((2^i:Nat):Int) by simp];omega
   ·rw[Int.toNat_natCast,show (2:Int)^i=((2^i:Nat):Int) by simp];omega)) (fun v σ' r=> ?_) (by repeat (first | exact List.Mem.head _ | apply List.Mem.tail)) (by rw[hll];omega))
  obtain⟨rfl,rfl⟩:=r
  refine⟨_,(by repeat (first | exact Um.here | apply Um.there)),?_⟩
  rw[hl1]
  have hul:unseenL.length=27:=rfl
  have hm27:(d.n4+i)%27<27:=Nat.mod_lt _ (by decide)
  have hm3:d.n4/3^i%3<3:=Nat.mod_lt _ (by decide)
  have p3p:0<3^i:=Nat.pow_pos (by decide)
  have f3:((d.n4:Int).fdiv ((3:Int)^((i:Int)).toNat)).fmod 3=((d.n4/3^i%3:Nat):Int):=by
   rw[Int.toNat_natCast,show (3:Int)^i=((3^i:Nat):Int) by simp,fdiv_nat]
   exact fmod_nat _ 3 (by decide)
  have f27:((d.n4:Int)+(i:Int)).fmod 27=(((d.n4+i)%27:Nat):Int):=by
   rw[←fmod_nat _ 27 (by decide)];simp
  have hpc:d.piece i=[typedS (97+p) ((d.n3+p:Nat):Int)]++rep [itemT unseenL (((d.n4:Int)+(i:Int)).fmod 27)] (((d.n4:Int).fdiv ((3:Int)^((i:Int)).toNat)).fmod 3)++[d.gap kk]:=by
   rw[f3,f27,rep_one,unseen_item hm27,hpi]
  refine se_cons (s1_append (a:=pc) (ps:=pvS P0) (pe_cell (c:=c.pieces) rfl rfl rfl (by repeat (first | exact List.Mem.head _ | apply List.Mem.tail))) (ge_of_pe (v:=.str (d.piece i)) (by
   rw[hpc]
   refine pe_cat (pe_cat (pe_call_f' (k:=1) O (.inl rfl) D.typed.isFn (xe_glob O rfl D.gtyped) (ae2 (v:=.str [97+p]) (u:=.int ((d.n3+p:Nat):Int)) ?_ ?_) (typed_fn (n:=0) D G (by omega) (by omega)) (by omega))
    (pe_rep (pe_item (a:=unseenL) (pe_local Y mI8) (pe_mod (pe_add (pe_num (l:=[n0,n1,n2,d.n3,d.n4,d.n5,n6]) (i:=4) (pe_cell (c:=c.numbers) rfl rfl rfl (by repeat (first | exact List.Mem.head _ | apply List.Mem.tail))) (by rw[hb];exact(by repeat (first | exact List.Mem.head _ | apply List.Mem.tail))) pe_int rfl (by simp)) (pe_local Y mI1)) pe_int (by decide)) (by rw[f27];omega) (by rw[f27,hul];omega) (by decide)) (pe_mod (pe_fdiv (pe_num (l:=[n0,n1,n2,d.n3,d.n4,d.n5,n6]) (i:=4) (pe_cell (c:=c.numbers) rfl rfl rfl (by repeat (first | exact List.Mem.head _ | apply List.Mem.tail))) (by rw[hb];exact(by repeat (first | exact List.Mem.head _ | apply List.Mem.tail))) pe_int rfl (by simp)) (pe_pow pe_int (pe_local Y mI1) (by omega) (by omega) (by decide)) ?_ (noPyl ?_)) pe_int (by decide)) (by show 1≤16;decide) (by rw[f3];omega) (by rw[f3];omega)) ?_)
    (pe_itemL (ps:=pvS [[d.gap 0],[d.gap 1],[d.gap 2]]) (i:=((kk:Nat):Int)) (p:=.str [d.gap kk]) (pe_local Y mI7) (.inl (by repeat (first | exact List.Mem.head _ | apply List.Mem.tail))) (pe_itemL (ps:=pvI K1) (i:=(i:Int)) (p:=.int (kk:Nat)) (pe_cell (c:=c.kinds) rfl rfl rfl (by repeat (first | exact List.Mem.head _ | apply List.Mem.tail))) (.inl (by repeat (first | exact List.Mem.head _ | apply List.Mem.tail))) (pe_local Y mI1) (by omega) (by omega) (by omega) hgi) (by omega) (by show _<(3:Int);omega) (by show 3≤16777216;decide) ?_) ?_
   ·rw[←word1 (show p<16 by omega)]
    have:=word_fn (prog:=prog) (w:=w) (n:=0) D G (i:=(p:Int)) (sz:=1) (by rw[Int.natAbs_natCast];omega) (by rw[Int.natAbs_natCast];exact hexs_len 1 p (by omega)) (by omega)
    rw[Int.natAbs_natCast] at this
    exact pe_call_f' (k:=2) O (.inl rfl) D.word.isFn (xe_glob O rfl D.gword) (ae2 (u:=.int ((1:Nat):Int)) (pe_local Y mI9) pe_int) this (by omega)
   ·rw[show ((d.n3+p:Nat):Int)=(d.n3:Int)+(p:Int) by omega]
    exact pe_add (pe_num (l:=[n0,n1,n2,d.n3,d.n4,d.n5,n6]) (i:=3) (pe_cell (c:=c.numbers) rfl rfl rfl (by repeat (first | exact List.Mem.head _ | apply List.Mem.tail))) (by rw[hb];exact(by repeat (first | exact List.Mem.head _ | apply List.Mem.tail))) pe_int rfl (by simp)) (pe_local Y mI9)
   ·rw[Int.toNat_natCast,show (3:Int)^i=((3^i:Nat):Int) by simp];omega
   ·rw[Int.toNat_natCast,show (3:Int)^i=((3^i:Nat):Int) by simp];omega
   ·rw[f3,rep_one];simp;omega
   ·match kk,hkk with
    | 0,_=>rfl
    | 1,_=>rfl
    | 2,_=>rfl
   ·rw[f3,rep_one];simp;omega)) (fun v σ' r=> ?_) (by repeat (first | exact List.Mem.head _ | apply List.Mem.tail)) (by rw[hlp];omega))
  obtain⟨rfl,rfl⟩:=r
  refine⟨_,(by repeat (first | exact Um.here | apply Um.there)),?_⟩
  rw[hp1]
  refine se_cons (s1_aug (v:=.int (if kk=0 then-(d.g:Int) else if kk=1 then (d.f:Int) else (d.f:Int)-(d.g:Int))) (load_local Y mI9) (pe_itemN (ps:=[.int (-(d.g:Int)),.int (d.f:Nat),.int ((d.f:Int)-(d.g:Int))]) (i:=((kk:Nat):Int)) (ne_listP (.cons (pe_neg (pe_cell (c:=c.last) rfl rfl rfl (by repeat (first | exact List.Mem.head _ | apply List.Mem.tail)))) (.cons (pe_cell (c:=c.first) rfl rfl rfl (by repeat (first | exact List.Mem.head _ | apply List.Mem.tail))) (.cons (pe_sub (pe_cell (c:=c.first) rfl rfl rfl (by repeat (first | exact List.Mem.head _ | apply List.Mem.tail))) (pe_cell (c:=c.last) rfl rfl rfl (by repeat (first | exact List.Mem.head _ | apply List.Mem.tail)))) .nil)))) (fun q=>pe_itemL (ps:=pvI K1) (i:=(i:Int)) (p:=.int (kk:Nat)) (pe_cell (c:=c.kinds) rfl rfl rfl (by repeat (first | exact List.Mem.head _ | apply List.Mem.tail))) (.inl (by repeat (first | exact List.Mem.head _ | apply List.Mem.tail))) (pe_local Y mI1) (by omega) (by omega) (by omega) hgi) (by show-(3:Int)≤_;omega) (by show _<(3:Int);omega) (by show 3≤16777216;decide) (by
   match kk,hkk with
   | 0,_=>rfl
   | 1,_=>rfl
   | 2,_=>rfl)) ip_add (fun u hu=>store_local Y (.there (.there (.there (.there (.there (.there (.there (.there (.there (.here)))))))))) hu) ?_)
  rw[←hnv]
  exact se_nil ⟨_,⟨_,rfl,rfl⟩,.refl _⟩
 ·rintro ρ σ' ⟨o1I,rfl,rfl⟩
  exact se_nil (k _ _)
end
end Mine
end
section
set_option maxRecDepth 100000
set_option maxHeartbeats 4000000
open PySem PySem.W PyProof.Rows PySem.Calls
namespace Mine
namespace Dt
variable (d:Dt)
noncomputable def wd:Nat:=2+d.n5%12
noncomputable def lp (j:Nat):List Nat:=d.lead j++d.piece j
noncomputable def joinLP (b e:Nat):List Nat:=((List.range (e-b)).map fun i=>d.lp (b+i)).flatten
noncomputable def keyG (j:Nat):Int:=if d.kd (j-1)=2 then 3 else if d.lead j=[] then (d.kd (j-1):Int) else 2
noncomputable def keysG (b k:Nat):List (Int×Int):=(List.range (k-b)).map fun i=>(d.keyG (b+1+i),((b+1+i:Nat):Int))
noncomputable def cutG (b k:Nat):Nat:=(bestV (d.keysG b k)).2.toNat
noncomputable def ruleG:Nat→List (List Nat)×Nat
 | 0=>([],0)
 | k+1=>match ruleG k with
  | (rows,b)=>if b<k∧d.wd<(d.joinLP b (k+1)).length then (rows++[d.joinLP b (d.cutG b k)],d.cutG b k) else (rows,b)
noncomputable def spG:List Nat:=[d.bo,32,d.gap 1,d.gap 0]
noncomputable def fmG:Nat→List (List Nat)×List Pr×Nat
 | 0=>([],[],0)
 | k+1=>match fmG k with | (l,t,z)=>chunkS l t z d.wd d.spG (d.lead k) (d.piece k)
theorem cutG_is {b k:Nat}(h:b<k):(bestV (d.keysG b k)).2=(d.cutG b k:Nat)∧b<d.cutG b k∧d.cutG b k≤k:=by
 have hm:=bestV_mem (d.keysG b k) (by unfold keysG;intro e;have:=congrArg List.length e;simp at this;omega)
 unfold keysG at hm
 obtain⟨i,hi,e⟩:=List.mem_map.mp hm
 have hi:=List.mem_range.mp hi
 have:(bestV (d.keysG b k)).2=((b+1+i:Nat):Int):=by unfold keysG;rw[←e]
 unfold cutG
 rw[this]
 omega
theorem lead_len (k:Nat):(d.lead k).length≤1:=by
 unfold lead
 rw[List.length_replicate]
 have:=Nat.mod_lt (d.n5/12/2^k) (show 0<2 by decide)
 omega
theorem piece_len (k:Nat):(d.piece k).length≤4:=by
 unfold piece
 have:=Nat.mod_lt (d.n4/3^k) (show 0<3 by decide)
 simp only[List.length_append,List.length_replicate,List.length_cons,List.length_nil]
 omega
theorem lp_len (k:Nat):(d.lp k).length≤5:=by
 unfold lp
 have:=d.lead_len k
 have:=d.piece_len k
 rw[List.length_append];omega
theorem joinLP_len {b e:Nat}(h:e≤8):(d.joinLP b e).length≤40:=by
 unfold joinLP
 have:=flat_le (l:=(List.range (e-b)).map fun i=>d.lp (b+i)) (m:=5) fun x hx=>by
  obtain⟨i,_,rfl⟩:=List.mem_map.mp hx
  exact d.lp_len _
 rw[List.length_map,List.length_range] at this
 omega
structure Step (k:Nat):Prop where
 rows:(d.ruleG k).1.length≤10
 b:(d.ruleG k).2≤k
 z:(d.fmG k).2.2=0
 n:(d.fmG k).2.1.length≤10
 ll:(d.fmG k).1.length≤10
 small:wS (d.fmG k).2.1≤100
end Dt
section
variable {prog:Program}{w:World}{T:Tops}{n:Nat}{a:Ads}{f:FmAds}{aa:AcAds}{fa:Addr}{c:Cel}{A:Around}{L:Addr}{g:Heap}{os:OsState}{cdv:Value}{K:PF→Ro→Led→Prop}{rest:Led}{o0I o1I o2I o3I o4I o5I o6I o7I o8I o9I o10I o11I o12I o13I o14I o15I o16I o17I o18I o19I o20I:Option PV}{x_numbers x_whole x_step x_first x_last x_pairs x_near x_far x_kinds x_leads x_pieces:Option PV}
theorem segH (B:FK prog T f aa) (Lk:LawK T f) (O:XOK T (n+4) (lX fa c A L g os cdv)) (Y:Lay (lX fa c A L g os cdv)) {d:Dt}{gp b:Addr}{n0 n1 n2 n6:Nat}{σ:Led}(hgp:(gp,isL (pvS [[d.gap 0],[d.gap 1],[d.gap 2]]))∈σ) (hb:(b,isL (pvI [n0,n1,n2,d.n3,d.n4,d.n5,n6]))∈σ) (hc:(c.numbers,isCell (some (.ref b)))∈σ)
  (k: ∀rw(F:FmA),FmAt F f aa→SE prog w (lX fa c A L g os cdv) (lB 20) (fL o0I o1I o2I o3I o4I o5I (some (.str [d.bo])) (some (.ref gp)) o8I o9I (some (.int (d.wd:Nat))) (some (.ref F.y)) (some (.ref rw)) (some (.int (0:Nat))) o14I o15I o16I o17I o18I o19I o20I)
   (fmL F (d.wd:Nat) d.spG [] [] (0:Nat)++((rw,isL (pvS []))::(σ++rest))) K):
  SE prog w (lX fa c A L g os cdv) (lB 17) (fL o0I o1I o2I o3I o4I o5I (some (.str [d.bo])) (some (.ref gp)) o8I o9I o10I o11I o12I o13I o14I o15I o16I o17I o18I o19I o20I) (σ++((aa.Plen,isPt)::(aa.Pstr,isPt)::rest)) K:=by
 have hgp': ∀τ:Led,(gp,isL (pvS [[d.gap 0],[d.gap 1],[d.gap 2]]))∈σ++τ:=fun τ=>List.mem_append_left _ hgp
 have hb': ∀τ:Led,(b,isL (pvI ([n0,n1,n2,d.n3,d.n4,d.n5,n6].map fun (y:Nat)=>(y:Int))))∈σ++τ:=fun τ=>List.mem_append_left _ hb
 have hc': ∀τ:Led,(c.numbers,isCell (some (.ref b)))∈σ++τ:=fun τ=>List.mem_append_left _ hc
 have e1:((d.wd:Nat):Int)=2+(d.n5:Int).fmod 12:=by
  have:(d.n5:Int).fmod 12=((d.n5%12:Nat):Int):=fmod_nat d.n5 12 (by decide)
  rw[this];unfold Dt.wd;simp
 refine se_cons (s1_assign Y (v:=.int (d.wd:Nat)) (by
  rw[e1]
  exact pe_add pe_int (pe_mod (pe_num (l:=[n0,n1,n2,d.n3,d.n4,d.n5,n6]) (i:=5) (pe_cell (c:=c.numbers) rfl rfl rfl (hc' _)) (hb' _) pe_int rfl (by simp)) pe_int (by decide))) (.there (.there (.there (.there (.there (.there (.there (.there (.there (.there (.here))))))))))) ?_)
 generalize hwd:d.wd=wd at*
 have hsp:d.spG=([d.bo]++[32]++[d.gap 1])++[d.gap 0]:=rfl
 refine se_cons (s1_assign_g (ge_newO (n:=n+3) O rfl B.E.cls (xe_glob O rfl Lk.fm) Lk.mks Lk.call B.E.init.fnd B.E.init.typ (vs:=[.int ((0:Nat):Int),.int wd,.str [32],.str d.spG]) (R₂:=fun y dy σ'=> ∃l x dd,σ'=(x,isA aa.C dd [])::(dd,isNd [(("_initial_size":Str),some (.int ((0:Nat):Int)))])::(l,isL [])::(y,isO f.C dy plainD)::(dy,isNd [(("_current_line":Str),some (.ref x)),(("_lines":Str),some (.ref l)),(("_splitchars":Str),some (.str d.spG)),(("_continuation_ws_len":Str),some (.int 1)),(("_continuation_ws":Str),some (.str [32])),(("_maxlen":Str),some (.int wd))])::(σ++((aa.Plen,isPt)::(aa.Pstr,isPt)::rest))) ?_ (fun x dd=>finit_fn B.E B.D B.S B.G)) (fun v σ' r=> ?_))
 ·refine ae4 pe_int (pe_local Y mI10) pe_str ?_
  rw[hsp]
  refine pe_cat (pe_cat (pe_cat (pe_local Y mI6) pe_str (by show 1+1≤16777216;decide)) (pe_itemL (i:=1) (ps:=pvS [[d.gap 0],[d.gap 1],[d.gap 2]]) (pe_local Y mI7) (.inl (hgp' _)) pe_int (by show-(3:Int)≤1;decide) (by show (1:Int)<3;decide) (by show 3≤16777216;decide) rfl) (by show 2+1≤16777216;decide))
   (pe_itemL (i:=0) (ps:=pvS [[d.gap 0],[d.gap 1],[d.gap 2]]) (pe_local Y mI7) (.inl (hgp' _)) pe_int (by show-(3:Int)≤0;decide) (by show (0:Int)<3;decide) (by show 3≤16777216;decide) rfl) (by show 3+1≤16777216;decide)
 ·obtain⟨y,dy,rfl,l,x,dd,rfl⟩:=r
  refine⟨_,_,fun u hu=>store_local Y (.there (.there (.there (.there (.there (.there (.there (.there (.there (.there (.there (.here)))))))))))) hu,?_⟩
  refine SE.fit (Fit.of_perm (perm_fm _ _ _ _ _ _ _ σ rest)) ?_
  refine se_cons (s1_swapped (names:=["rows","begin"]) (ge_tuple rfl (spg_cons (ge_of_ne (ne_listP .nil)) fun v σ' r=>spg_cons (ge_of_pe (v:=.int (0:Nat)) pe_int) fun v σ' r=>spg_nil) (fun vs σ' r=> ?_)) (fun v σ' r=> ?_))
  ·obtain⟨v,σ₁,r,rfl,_,v₂,σ₂,r₂,rfl,_,rfl,_⟩:=r
   simp
  ·obtain⟨t,vs,σ₁,rfl,rfl,v,σ₂,r,rfl,⟨rw',rfl,rfl⟩,v₂,σ₃,r₂,rfl,⟨rfl,rfl⟩,rfl,rfl⟩:=r
   refine⟨t,_,rfl,un_tuple O.hh (.head _),rfl,ts_cons (tg_bind (fun u hu=>store_local Y (.there (.there (.there (.there (.there (.there (.there (.there (.there (.there (.there (.there (.there (.here)))))))))))))) hu)) (ts_cons (tg_bind (fun u hu=>store_local Y (.there (.there (.there (.there (.there (.there (.there (.there (.there (.there (.there (.there (.here))))))))))))) hu)) (ts_nil ?_))⟩
   refine SE.sub ?_ (.cons _ (.refl _))
   refine SE.fit (Fit.of_perm (List.perm_middle (l₁:=fmL ⟨y,dy,l,x,dd,aa.Plen,aa.Pstr,f.C,aa.C⟩ wd d.spG [] [] (0:Nat))).symm) ?_
   exact k rw' ⟨y,dy,l,x,dd,aa.Plen,aa.Pstr,f.C,aa.C⟩ ⟨rfl,rfl,rfl,rfl⟩
end
end Mine
end
section
set_option maxRecDepth 100000
set_option maxHeartbeats 4000000
open PySem PySem.W PyProof.Rows PySem.Calls
namespace Mine
namespace Dt
variable (d:Dt)
theorem leads_get {i:Nat}(h:i<d.n):(d.leadsL d.n).getD i []=d.lead i:=by
 unfold leadsL
 rw[List.getD_eq_getElem?_getD,List.getElem?_map,List.getElem?_range h];rfl
theorem pieces_get {i:Nat}(h:i<d.n):(d.piecesL d.n).getD i []=d.piece i:=by
 unfold piecesL
 rw[List.getD_eq_getElem?_getD,List.getElem?_map,List.getElem?_range h];rfl
theorem kinds_get {i:Nat}(h:i<d.n):itemL (pvI (d.kindsL d.n)) (i:Int)= .int (d.kd i:Nat):=by
 rw[itemL_I (by simp[kindsL];exact h)]
 simp[kindsL,List.getD_eq_getElem?_getD,List.getElem?_range h]
theorem part_len (f:Nat→List Nat) (b e n:Nat) (h:e≤n):(((((List.range n).map f).drop b).take (e-b))).flatten.length=((List.range (e-b)).map fun i=>(f (b+i)).length).sum:=by
 have hl:(((List.range n).map f).drop b).take (e-b)=(List.range (e-b)).map fun i=>f (b+i):=by
  apply List.ext_getElem?
  intro j
  by_cases hj:j<e-b
  ·rw[List.getElem?_take_of_lt hj,List.getElem?_drop,List.getElem?_map,List.getElem?_range (by omega),List.getElem?_map,List.getElem?_range hj];rfl
  ·rw[List.getElem?_eq_none (by rw[List.length_take];omega),List.getElem?_eq_none (by rw[List.length_map,List.length_range];omega)]
 rw[hl,List.length_flatten,List.map_map];rfl
theorem sum_add (l:List Nat) (f g:Nat→Nat):(l.map fun i=>f i+g i).sum=(l.map f).sum+(l.map g).sum:=by
 induction l with
 | nil=>rfl
 | cons x l ih=>simp only[List.map_cons,List.sum_cons,ih];omega
theorem both_len {b e:Nat}(h:e≤d.n):(joinS [] ((((d.leadsL d.n).drop b).take (e-b))++(((d.piecesL d.n).drop b).take (e-b)))).length=(d.joinLP b e).length:=by
 rw[joinS_nil,List.flatten_append,List.length_append]
 unfold leadsL piecesL
 rw[part_len _ _ _ _ h,part_len _ _ _ _ h,←sum_add]
 unfold joinLP lp
 rw[List.length_flatten,List.map_map]
 congr 1
 refine List.map_congr_left fun i _=> ?_
 show _ =(d.lead (b+i)++d.piece (b+i)).length
 rw[List.length_append]
end Dt
section
variable {prog:Program}{w:World}{T:Tops}{n:Nat}{a:Ads}{f:FmAds}{aa:AcAds}{fa:Addr}{c:Cel}{A:Around}{L:Addr}{g:Heap}{os:OsState}{cdv:Value}{K:PF→Ro→Led→Prop}{rest:Led}{o0I o1I o2I o3I o4I o5I o6I o7I o8I o9I o10I o11I o12I o13I o14I o15I o16I o17I o18I o19I o20I:Option PV}{x_numbers x_whole x_step x_first x_last x_pairs x_near x_far x_kinds x_leads x_pieces:Option PV}
theorem segI (B:FK prog T f aa) (G:Names T) (O:XOK T (n+9) (lX fa c A L g os cdv)) (Y:Lay (lX fa c A L g os cdv)) {d:Dt}{kd ld pc rw':Addr}{F:FmA}(AF:FmAt F f aa) (h8:d.n≤8) {e1 e2:Addr×(Obj→Prop)}
  (H: ∀k,k<d.n→d.Step k)
  (k: ∀o1I o15I us,us.map (·.2)=(d.fmG d.n).2.1→SE prog w (lX fa c A L g os cdv) (lB 21) (fL o0I o1I o2I o3I (some (.int (d.n:Nat))) o5I o6I o7I o8I o9I (some (.int (d.wd:Nat))) (some (.ref F.y)) (some (.ref rw')) (some (.int ((d.ruleG d.n).2:Nat))) o14I o15I o16I o17I o18I o19I o20I) ((rw',isL (pvS (d.ruleG d.n).1))::(pc,isL (pvS (d.piecesL d.n)))::(ld,isL (pvS (d.leadsL d.n)))::(kd,isL (pvI (d.kindsL d.n)))::e1::e2::(c.numbers,isCell x_numbers)::(c.whole,isCell x_whole)::(c.step,isCell x_step)::(c.first,isCell x_first)::(c.last,isCell x_last)::(c.pairs,isCell x_pairs)::(c.near,isCell x_near)::(c.far,isCell x_far)::(c.kinds,isCell (some (.ref kd)))::(c.leads,isCell (some (.ref ld)))::(c.pieces,isCell (some (.ref pc)))::(fmL F (d.wd:Nat) d.spG (d.fmG d.n).1 us (d.fmG d.n).2.2++rest)) K):
  SE prog w (lX fa c A L g os cdv) (lB 20) (fL o0I o1I o2I o3I (some (.int (d.n:Nat))) o5I o6I o7I o8I o9I (some (.int (d.wd:Nat))) (some (.ref F.y)) (some (.ref rw')) (some (.int (0:Nat))) o14I o15I o16I o17I o18I o19I o20I) ((rw',isL (pvS []))::(pc,isL (pvS (d.piecesL d.n)))::(ld,isL (pvS (d.leadsL d.n)))::(kd,isL (pvI (d.kindsL d.n)))::e1::e2::(c.numbers,isCell x_numbers)::(c.whole,isCell x_whole)::(c.step,isCell x_step)::(c.first,isCell x_first)::(c.last,isCell x_last)::(c.pairs,isCell x_pairs)::(c.near,isCell x_near)::(c.far,isCell x_far)::(c.kinds,isCell (some (.ref kd)))::(c.leads,isCell (some (.ref ld)))::(c.pieces,isCell (some (.ref pc)))::(fmL F (d.wd:Nat) d.spG [] [] (0:Nat)++rest)) K:=by
 have hpl:(pvS (d.piecesL d.n)).length=d.n:=by rw[pvS_length];simp[Dt.piecesL]
 have hll:(pvS (d.leadsL d.n)).length=d.n:=by rw[pvS_length];simp[Dt.leadsL]
 have hkl:(pvI (d.kindsL d.n)).length=d.n:=by rw[pvI_length];simp[Dt.kindsL]
 have gl: ∀i:Nat,i<d.n→itemL (pvS (d.leadsL d.n)) (i:Int)= .str (d.lead i):=fun i hi=>by
  rw[itemL_S (by simp[Dt.leadsL];exact hi),d.leads_get hi]
 have gp: ∀i:Nat,i<d.n→itemL (pvS (d.piecesL d.n)) (i:Int)= .str (d.piece i):=fun i hi=>by
  rw[itemL_S (by simp[Dt.piecesL];exact hi),d.pieces_get hi]
 have gk: ∀i:Nat,i<d.n→itemL (pvI (d.kindsL d.n)) (i:Int)= .int (d.kd i:Nat):=fun i hi=>d.kinds_get hi
 have hbl: ∀b e:Nat,e≤d.n→(joinS [] ((((d.leadsL d.n).drop b).take (e-b))++(((d.piecesL d.n).drop b).take (e-b)))).length=(d.joinLP b e).length:=fun b e h=>d.both_len h
 have hle: ∀x∈d.leadsL d.n,x.length≤20:=fun x hx=>by
  obtain⟨i,_,rfl⟩:=List.mem_map.mp hx
  have:=d.lead_len i;omega
 have hpe: ∀x∈d.piecesL d.n,x.length≤20:=fun x hx=>by
  obtain⟨i,_,rfl⟩:=List.mem_map.mp hx
  have:=d.piece_len i;omega
 have hln:(d.leadsL d.n).length=d.n:=by simp[Dt.leadsL]
 have hpn:(d.piecesL d.n).length=d.n:=by simp[Dt.piecesL]
 generalize d.piecesL d.n=PL at*
 generalize d.leadsL d.n=LL at*
 generalize d.kindsL d.n=KL at*
 refine se_cons (s1_range (a:=0) (b:=d.n) d.n (by omega) O.hh (fun i ρ σ'=>(∃o1I o15I us,us.map (·.2)=(d.fmG i).2.1∧ρ=(fL o0I o1I o2I o3I (some (.int (d.n:Nat))) o5I o6I o7I o8I o9I (some (.int (d.wd:Nat))) (some (.ref F.y)) (some (.ref rw')) (some (.int ((d.ruleG i).2:Nat))) o14I o15I o16I o17I o18I o19I o20I)∧σ'=(rw',isL (pvS (d.ruleG i).1))::(pc,isL (pvS PL))::(ld,isL (pvS LL))::(kd,isL (pvI KL))::e1::e2::(c.numbers,isCell x_numbers)::(c.whole,isCell x_whole)::(c.step,isCell x_step)::(c.first,isCell x_first)::(c.last,isCell x_last)::(c.pairs,isCell x_pairs)::(c.near,isCell x_near)::(c.far,isCell x_far)::(c.kinds,isCell (some (.ref kd)))::(c.leads,isCell (some (.ref ld)))::(c.pieces,isCell (some (.ref pc)))::(fmL F (d.wd:Nat) d.spG (d.fmG i).1 us (d.fmG i).2.2++rest)))
  (it_range1 (xe_built O rfl G.range.1 G.range.2) (pe_local Y mI4) (small_up (by omega) (by omega) (by omega) (by omega))) ⟨_,_,[],rfl,rfl,rfl⟩ ?_ ?_)
 ·rintro I i ρ σ' hi ⟨o1I,o15I,us,hus,rfl,rfl⟩ hI
  refine⟨_,_,fun u hu=>store_local Y (.there (.here)) hu,?_⟩
  rw[Int.zero_add]
  have S:=H i hi
  have hM1:d.fmG (i+1)=chunkS (d.fmG i).1 (d.fmG i).2.1 (d.fmG i).2.2 d.wd d.spG (d.lead i) (d.piece i):=by rw[Dt.fmG]
  have hR1:d.ruleG (i+1)=(if (d.ruleG i).2<i∧d.wd<(d.joinLP (d.ruleG i).2 (i+1)).length then ((d.ruleG i).1++[d.joinLP (d.ruleG i).2 (d.cutG (d.ruleG i).2 i)],d.cutG (d.ruleG i).2 i) else d.ruleG i):=by rw[Dt.ruleG]
  have Srows:=S.rows
  have Sb:=S.b
  have Sz:=S.z
  have Sn:=S.n
  have Sll:=S.ll
  have Ssm:=S.small
  clear S
  have hlen1:=d.lead_len i
  have hlen2:=d.piece_len i
  have hwd:d.wd≤13:=by unfold Dt.wd;have:=Nat.mod_lt d.n5 (show 0<12 by decide);omega
  generalize d.fmG (i+1)=M1 at hM1 ⊢
  generalize d.fmG i=M0 at*
  generalize d.ruleG (i+1)=R1 at hR1 ⊢
  generalize d.ruleG i=R0 at*
  obtain⟨rows,b⟩:=R0
  obtain⟨ln,pr,z⟩:=M0
  dsimp only at*
  subst Sz
  subst hus
  have hsmall:Small (us.map (·.2)++[(d.lead i,d.piece i)]) 0:=by
   refine⟨by omega,?_,?_⟩
   ·rw[wS_snoc];dsimp only;omega
   ·rw[List.length_append];simp only[List.length_cons,List.length_nil];omega
  refine se_cons (s1_expr (ge_own (k:=n+8) O rfl B.E.cls B.E.chunk (pe_local Y mI11) (obtO (d:=F.dy) (by rw[←AF.cF];exact(by repeat (first | exact List.Mem.head _ | apply List.Mem.tail))) (by repeat (first | exact List.Mem.head _ | apply List.Mem.tail))) (by show (_:Str)∉[("_current_line":Str),"_lines","_splitchars","_continuation_ws_len","_continuation_ws","_maxlen"];decide)
   (ag_of_ae (ae2 (v:=.str (d.lead i)) (u:=.str (d.piece i)) (pe_itemL (ps:=pvS LL) (i:=(i:Int)) (pe_cell (c:=c.leads) rfl rfl rfl (by repeat (first | exact List.Mem.head _ | apply List.Mem.tail))) (.inl (by repeat (first | exact List.Mem.head _ | apply List.Mem.tail))) (pe_local Y mI1) (by omega) (by omega) (by omega) (gl i hi)) (pe_itemL (ps:=pvS PL) (i:=(i:Int)) (pe_cell (c:=c.pieces) rfl rfl rfl (by repeat (first | exact List.Mem.head _ | apply List.Mem.tail))) (.inl (by repeat (first | exact List.Mem.head _ | apply List.Mem.tail))) (pe_local Y mI1) (by omega) (by omega) (by omega) (gp i hi)))) (by omega) (fun vs σ' h=>by
    obtain⟨h1,h2⟩:=h
    subst h1;subst h2
    exact chunk_at B AF (((I,rgI 0 d.n I (i+1))::(rw',isL (pvS rows))::(pc,isL (pvS PL))::(ld,isL (pvS LL))::(kd,isL (pvI KL))::e1::e2::(c.numbers,isCell x_numbers)::(c.whole,isCell x_whole)::(c.step,isCell x_step)::(c.first,isCell x_first)::(c.last,isCell x_last)::(c.pairs,isCell x_pairs)::(c.near,isCell x_near)::(c.far,isCell x_far)::(c.kinds,isCell (some (.ref kd)))::(c.leads,isCell (some (.ref ld)))::(c.pieces,isCell (some (.ref pc)))::[])) (by rw[List.length_map] at Sn;omega) hsmall (by omega) (fun h=>absurd h (by decide)))) (fun v σ' h=> ?_))
  obtain⟨rfl,us',hus',rfl⟩:=h
  rw[←hM1] at hus' ⊢
  refine⟨rfl,?_⟩
  have fin: ∀(o15I:Option PV),R1=R1→ ∀τ,τ=(I,rgI 0 d.n I (i+1))::(rw',isL (pvS R1.1))::(pc,isL (pvS PL))::(ld,isL (pvS LL))::(kd,isL (pvI KL))::e1::e2::(c.numbers,isCell x_numbers)::(c.whole,isCell x_whole)::(c.step,isCell x_step)::(c.first,isCell x_first)::(c.last,isCell x_last)::(c.pairs,isCell x_pairs)::(c.near,isCell x_near)::(c.far,isCell x_far)::(c.kinds,isCell (some (.ref kd)))::(c.leads,isCell (some (.ref ld)))::(c.pieces,isCell (some (.ref pc)))::(fmL F (d.wd:Nat) d.spG M1.1 us' M1.2.2++rest)→
    SE prog w (lX fa c A L g os cdv) [] (fL o0I (some (.int i)) o2I o3I (some (.int (d.n:Nat))) o5I o6I o7I o8I o9I (some (.int (d.wd:Nat))) (some (.ref F.y)) (some (.ref rw')) (some (.int (R1.2:Nat))) o14I o15I o16I o17I o18I o19I o20I) τ
     (LoopK (Then prog w (lX fa c A L g os cdv) (lB 21) K) fun ρ₂ σ₂=> ∃σ₃,(∃o1I o15I us,us.map (·.2)=M1.2.1∧ρ₂=(fL o0I o1I o2I o3I (some (.int (d.n:Nat))) o5I o6I o7I o8I o9I (some (.int (d.wd:Nat))) (some (.ref F.y)) (some (.ref rw')) (some (.int (R1.2:Nat))) o14I o15I o16I o17I o18I o19I o20I)∧
      σ₃=(rw',isL (pvS R1.1))::(pc,isL (pvS PL))::(ld,isL (pvS LL))::(kd,isL (pvI KL))::e1::e2::(c.numbers,isCell x_numbers)::(c.whole,isCell x_whole)::(c.step,isCell x_step)::(c.first,isCell x_first)::(c.last,isCell x_last)::(c.pairs,isCell x_pairs)::(c.near,isCell x_near)::(c.far,isCell x_far)::(c.kinds,isCell (some (.ref kd)))::(c.leads,isCell (some (.ref ld)))::(c.pieces,isCell (some (.ref pc)))::(fmL F (d.wd:Nat) d.spG M1.1 us M1.2.2++rest))∧((I,rgI 0 d.n I (i+1))::σ₃).Sublist σ₂):=by
   rintro o15I _ τ rfl
   exact se_nil ⟨_,⟨_,_,us',hus',rfl,rfl⟩,.refl _⟩
  have hb1:decide (b<i)=decide ((b:Int)<(i:Int)):=by
   by_cases h:b<i
   ·rw[decide_eq_true h,decide_eq_true (by omega)]
   ·rw[decide_eq_false h,decide_eq_false (by omega)]
  have hb2:decide (d.wd<(d.joinLP b (i+1)).length)=decide ((d.wd:Int)<((d.joinLP b (i+1)).length:Int)):=by
   by_cases h:d.wd<(d.joinLP b (i+1)).length
   ·rw[decide_eq_true h,decide_eq_true (by omega)]
   ·rw[decide_eq_false h,decide_eq_false (by omega)]
  have hj:=hbl b (i+1) (by omega)
  have hjl:=d.joinLP_len (b:=b) (e:=i+1) (by omega)
  refine se_cons (s1_if (c:=decide (b<i)&&(decide (d.wd<(d.joinLP b (i+1)).length)&&true)) (by
   rw[hb1,hb2]
   refine be_and1 (be_cmp (pe_local Y mI13) (pe_local Y mI1) cm_lt) fun _=>be_and1 ?_ fun _=>be_and0
   rw[←hj]
   refine be_cmp (pe_call_b (xe_built O rfl G.len.1 G.len.2) (ae1 (pe_joinC (sep:=[]) (l:=(((LL.drop b).take (i+1-b))++((PL.drop b).take (i+1-b)))) pe_str ?_ ?_)) (c_len_str (by rw[hj];omega))) (pe_local Y mI10) cm_gt
   ·have e:pvS (((LL.drop b).take (i+1-b))++((PL.drop b).take (i+1-b)))=pvS ((LL.drop b).take (i+1-b))++pvS ((PL.drop b).take (i+1-b)):=by unfold pvS;rw[List.map_append]
    rw[e]
    have ei:((i+1:Nat):Int)=(i:Int)+1:=by omega
    refine ge_addL (a:=0) (b:=0) (ge_of_ne (sl_part LL b (i+1) ▸ ne_sliceL (pe_cell (c:=c.leads) rfl rfl rfl (by repeat (first | exact List.Mem.head _ | apply List.Mem.tail))) (.inl (by repeat (first | exact List.Mem.head _ | apply List.Mem.tail))) (pa_some (pe_local Y mI13)) (pa_some (by rw[ei];exact pe_add (pe_local Y mI1) pe_int)) (by omega))) (fun q=>ge_of_ne (sl_part PL b (i+1) ▸ ne_sliceL (pe_cell (c:=c.pieces) rfl rfl rfl (by repeat (first | exact List.Mem.head _ | apply List.Mem.tail))) (.inl (by repeat (first | exact List.Mem.head _ | apply List.Mem.tail))) (pa_some (pe_local Y mI13)) (pa_some (by rw[ei];exact pe_add (pe_local Y mI1) pe_int)) (by omega))) ?_
    rw[pvS_length,pvS_length,List.length_take,List.length_take,List.length_drop,List.length_drop];omega
   ·have h1:=sum_le (l:=(LL.drop b).take (i+1-b)) (m:=20) fun x hx=>hle x (List.mem_of_mem_drop (List.mem_of_mem_take hx))
    have h2:=sum_le (l:=(PL.drop b).take (i+1-b)) (m:=20) fun x hx=>hpe x (List.mem_of_mem_drop (List.mem_of_mem_take hx))
    have h3:((LL.drop b).take (i+1-b)).length≤8:=by rw[List.length_take,List.length_drop];omega
    have h4:((PL.drop b).take (i+1-b)).length≤8:=by rw[List.length_take,List.length_drop];omega
    rw[List.map_append,List.sum_append]
    simp only[List.length_nil,Nat.mul_zero,Nat.add_zero]
    omega) (fun h=> ?_) (fun h=> ?_))
  ·have h:=Bool.and_eq_true_iff.mp h
   have hbi:=of_decide_eq_true h.1
   have hwl:=of_decide_eq_true (Bool.and_eq_true_iff.mp h.2).1
   rw[if_pos ⟨hbi,hwl⟩] at hR1
   obtain⟨c1,c2,c3⟩:=d.cutG_is hbi
   subst hR1
   have hk1: ∀j:Nat,j<i-b→((b:Int)+1+(j:Int))=((b+1+j:Nat):Int):=fun j _=>by omega
   refine se_cons (s1_assign Y (v:=.int (d.cutG b i:Nat)) (by
    rw[←c1]
    refine pe_max1 O (k:=i-b) (f:=fun j=>(d.keyG (b+1+j),((b+1+j:Nat):Int))) (by omega) (xe_built O rfl G.max.1 G.max.2) (ge_pairs (cl:=[("leads",c.leads),("kinds",c.kinds)]) (a:=(b:Int)+1) (b:=(i:Int)+1) (i-b) (by omega) (fun j=>(d.keyG (b+1+j),((b+1+j:Nat):Int))) rfl O.hh rfl (by decide) rfl (by decide) rfl
     (it_range2 (xe_built O rfl G.range.1 G.range.2) (pe_add (pe_local Y mI13) pe_int) (pe_add (pe_local Y mI1) pe_int) (small_up (by omega) (by omega) (by omega) (by omega))) (by omega) (fun C σ₁ j hj hm=> ?_)) (fun _=>pe_int)
    rw[hk1 j hj]
    refine⟨?_,pe_local (Lay.comp rfl rfl) (.head _)⟩
    have hkj:itemL (pvI KL) (((b+1+j:Nat):Int)-1)= .int (d.kd (b+1+j-1):Nat):=by
     rw[show ((b+1+j:Nat):Int)-1=((b+1+j-1:Nat):Int) by omega]
     exact gk _ (by omega)
    unfold Dt.keyG
    refine pe_if (c:=(((d.kd (b+1+j-1):Nat):Int)==2)) (be_cmp (pe_itemL (ps:=pvI KL) (i:=((b+1+j:Nat):Int)-1) (p:=.int (d.kd (b+1+j-1):Nat)) (pe_cell (c:=c.kinds) rfl rfl rfl (hm _ (.tail _ (by repeat (first | exact List.Mem.head _ | apply List.Mem.tail))))) (.inl (hm _ (.tail _ (by repeat (first | exact List.Mem.head _ | apply List.Mem.tail))))) (pe_sub (pe_local (Lay.comp rfl rfl) (.head _)) pe_int) (by omega) (by omega) (by omega) hkj) pe_int cm_eq) (fun h=> ?_) (fun h=> ?_)
    ·have h:d.kd (b+1+j-1)=2:=by have:=beq_iff_eq.mp h;omega
     rw[if_pos h];exact pe_int
    ·have h: ¬d.kd (b+1+j-1)=2:=by have:=beq_eq_false_iff_ne.mp h;omega
     rw[if_neg h]
     refine pe_if (c:= !(d.lead (b+1+j)).isEmpty) (be_truthy (pe_itemL (ps:=pvS LL) (i:=((b+1+j:Nat):Int)) (pe_cell (c:=c.leads) rfl rfl rfl (hm _ (.tail _ (by repeat (first | exact List.Mem.head _ | apply List.Mem.tail))))) (.inl (hm _ (.tail _ (by repeat (first | exact List.Mem.head _ | apply List.Mem.tail))))) (pe_local (Lay.comp rfl rfl) (.head _)) (by omega) (by omega) (by omega) (gl _ (by omega))) (fun u s h I=>tr_str (by have:=d.lead_len (b+1+j);omega) u s h I)) (fun h2=> ?_) (fun h2=> ?_)
     ·have h2: ¬d.lead (b+1+j)=[]:=by intro e;rw[e] at h2;cases h2
      rw[if_neg h2];exact pe_int
     ·have h2:d.lead (b+1+j)=[]:=by simpa using h2
      rw[if_pos h2]
      exact pe_itemL (ps:=pvI KL) (i:=((b+1+j:Nat):Int)-1) (p:=.int (d.kd (b+1+j-1):Nat)) (pe_cell (c:=c.kinds) rfl rfl rfl (hm _ (.tail _ (by repeat (first | exact List.Mem.head _ | apply List.Mem.tail))))) (.inl (hm _ (.tail _ (by repeat (first | exact List.Mem.head _ | apply List.Mem.tail))))) (pe_sub (pe_local (Lay.comp rfl rfl) (.head _)) pe_int) (by omega) (by omega) (by omega) hkj) (.there (.there (.there (.there (.there (.there (.there (.there (.there (.there (.there (.there (.there (.there (.there (.here)))))))))))))))) ?_)
   have hjl2:=d.joinLP_len (b:=b) (e:=d.cutG b i) (by omega)
   refine se_cons (s1_append (a:=rw') (ps:=pvS rows) (pe_local Y mI12) (ge_of_pe (v:=.str (d.joinLP b (d.cutG b i))) (by
    have ej:d.joinLP b (d.cutG b i)=joinS [] ((List.range (d.cutG b i-b)).map fun j=>d.lp (b+j)):=(joinS_nil _).symm
    have ep:pvS ((List.range (d.cutG b i-b)).map fun j=>d.lp (b+j))=(List.range (d.cutG b i-b)).map fun j=>PV.str (d.lp (b+j)):=by unfold pvS;rw[List.map_map];rfl
    rw[ej]
    refine pe_joinC (sep:=[]) pe_str (ep ▸ ne_compR (cl:=[("pieces",c.pieces),("leads",c.leads)]) (a:=b) (b:=d.cutG b i) (d.cutG b i-b) (by omega) (fun j=>.str (d.lp (b+j))) rfl O.hh rfl (by decide) rfl (by decide) rfl
     (it_range2 (xe_built O rfl G.range.1 G.range.2) (pe_local Y mI13) (pe_local Y mI15) (small_up (by omega) (by omega) (by omega) (by omega))) (by omega) (fun C σ₁ j hj hm=> ?_)) ?_
    ·rw[show (b:Int)+(j:Int)=((b+j:Nat):Int) by omega]
     have h1:=d.lead_len (b+j)
     have h2:=d.piece_len (b+j)
     exact pe_cat (pe_itemL (ps:=pvS LL) (i:=((b+j:Nat):Int)) (pe_cell (c:=c.leads) rfl rfl rfl (hm _ (.tail _ (by repeat (first | exact List.Mem.head _ | apply List.Mem.tail))))) (.inl (hm _ (.tail _ (by repeat (first | exact List.Mem.head _ | apply List.Mem.tail))))) (pe_local (Lay.comp rfl rfl) (.head _)) (by omega) (by omega) (by omega) (gl _ (by omega))) (pe_itemL (ps:=pvS PL) (i:=((b+j:Nat):Int)) (pe_cell (c:=c.pieces) rfl rfl rfl (hm _ (.tail _ (by repeat (first | exact List.Mem.head _ | apply List.Mem.tail))))) (.inl (hm _ (.tail _ (by repeat (first | exact List.Mem.head _ | apply List.Mem.tail))))) (pe_local (Lay.comp rfl rfl) (.head _)) (by omega) (by omega) (by omega) (gp _ (by omega))) (by omega)
    ·have h1:=sum_le (l:=(List.range (d.cutG b i-b)).map fun j=>d.lp (b+j)) (m:=5) fun x hx=>by
      obtain⟨j,_,rfl⟩:=List.mem_map.mp hx
      exact d.lp_len _
     simp only[List.length_map,List.length_range,List.length_nil,Nat.mul_zero,Nat.add_zero] at h1 ⊢
     omega)) (fun v σ' r=> ?_) (by repeat (first | exact List.Mem.head _ | apply List.Mem.tail)) (by rw[pvS_length];omega))
   obtain⟨rfl,rfl⟩:=r
   refine⟨_,(by repeat (first | exact Um.here | apply Um.there)),?_⟩
   rw[pvS_snoc]
   refine se_cons (s1_assign Y (v:=.int (d.cutG b i:Nat)) (pe_local Y mI15) (.there (.there (.there (.there (.there (.there (.there (.there (.there (.there (.there (.there (.there (.here)))))))))))))) ?_)
   exact se_nil (fin _ rfl _ rfl)
  ·have h': ¬(b<i∧d.wd<(d.joinLP b (i+1)).length):=by
    rintro ⟨h1,h2⟩
    rw[decide_eq_true h1,decide_eq_true h2] at h
    cases h
   rw[if_neg h'] at hR1
   subst hR1
   exact se_nil (fin o15I rfl _ rfl)
 ·rintro ρ σ' ⟨o1I,o15I,us,hus,rfl,rfl⟩
  exact se_nil (k _ _ us hus)
end
end Mine
end
section
set_option maxRecDepth 100000
set_option maxHeartbeats 4000000
open PySem PySem.W PyProof.Rows PySem.Calls
namespace Mine
section
variable {prog:Program}{w:World}{X:Cx}{ρ:Ro}{σ:Led}
theorem BE.cast {e:Expr}{c c':Bool}(h:c=c') (k:BE prog w X e ρ σ c):BE prog w X e ρ σ c':=h ▸ k
end
section
variable {prog:Program}{w:World}{T:Tops}{n:Nat}{a:Ads}{f:FmAds}{aa:AcAds}{fa:Addr}{c:Cel}{A:Around}{L:Addr}{g:Heap}{os:OsState}{cdv:Value}{K:PF→Ro→Led→Prop}{rest:Led}{o0I o1I o2I o3I o4I o5I o6I o7I o8I o9I o10I o11I o12I o13I o14I o15I o16I o17I o18I o19I o20I:Option PV}{x_numbers x_whole x_step x_first x_last x_pairs x_near x_far x_kinds x_leads x_pieces:Option PV}
theorem segJ (B:FK prog T f aa) (D:Text T a) (G:Names T) (O:XOK T (n+9) (lX fa c A L g os cdv)) (Y:Lay (lX fa c A L g os cdv)) {d:Dt}(h8:d.n≤8) {kd ld pc rw':Addr}{F:FmA}(AF:FmAt F f aa) {sp:List Nat}{e1 e2:Addr×(Obj→Prop)}
  {rows lines:List (List Nat)}{b z:Nat}{us:List (Addr×Pr)}{page tl:List Nat}
  (hpage:joinS [10] (lines++[tS (nlTs (us.map (·.2)))])=page) (hrule:joinS [10] (rows++[d.joinLP b d.n])=page)
  (hs:Small (nlTs (us.map (·.2))) z) (hn:us.length≤100) (hsp:Txt.isspace (mk (tS (nlTs (us.map (·.2)))))=false) (hpos:0<z+wS (nlTs (us.map (·.2)))) (hll:lines.length≤100) (hls: ∀x∈lines,x.length≤1000) (hlt:(tS (nlTs (us.map (·.2)))).length≤1000)
  (hrl:rows.length≤10) (hrs: ∀x∈rows,x.length≤1000) (hbn:b≤d.n) (hpl:page.length≤10000)
  (htold:toldS page=tl) (hlow: ∀ch∈page,skipS ch=false→(Txt.lower (mk [ch])).length≤1000∧(b3S ch).length≤1000)
  (k: ∀o16I o18I,SE prog w (lX fa c A L g os cdv) (lB 25) (fL o0I o1I o2I o3I (some (.int (d.n:Nat))) o5I o6I o7I (some (.str unseenL)) o9I o10I (some (.ref F.y)) (some (.ref rw')) (some (.int (b:Nat))) o14I o15I o16I (some (.str tl)) o18I o19I o20I) ((rw',isL (pvS rows))::(pc,isL (pvS (d.piecesL d.n)))::(ld,isL (pvS (d.leadsL d.n)))::(kd,isL (pvI (d.kindsL d.n)))::e1::e2::(c.numbers,isCell x_numbers)::(c.whole,isCell x_whole)::(c.step,isCell x_step)::(c.first,isCell x_first)::(c.last,isCell x_last)::(c.pairs,isCell x_pairs)::(c.near,isCell x_near)::(c.far,isCell x_far)::(c.kinds,isCell (some (.ref kd)))::(c.leads,isCell (some (.ref ld)))::(c.pieces,isCell (some (.ref pc)))::(aa.Plen,isPt)::(aa.Pstr,isPt)::rest) K):
  SE prog w (lX fa c A L g os cdv) (lB 21) (fL o0I o1I o2I o3I (some (.int (d.n:Nat))) o5I o6I o7I (some (.str unseenL)) o9I o10I (some (.ref F.y)) (some (.ref rw')) (some (.int (b:Nat))) o14I o15I o16I o17I o18I o19I o20I) ((rw',isL (pvS rows))::(pc,isL (pvS (d.piecesL d.n)))::(ld,isL (pvS (d.leadsL d.n)))::(kd,isL (pvI (d.kindsL d.n)))::e1::e2::(c.numbers,isCell x_numbers)::(c.whole,isCell x_whole)::(c.step,isCell x_step)::(c.first,isCell x_first)::(c.last,isCell x_last)::(c.pairs,isCell x_pairs)::(c.near,isCell x_near)::(c.far,isCell x_far)::(c.kinds,isCell (some (.ref kd)))::(c.leads,isCell (some (.ref ld)))::(c.pieces,isCell (some (.ref pc)))::(fmL F (d.wd:Nat) sp lines us z++rest)) K:=by
 have hj:((lines++[tS (nlTs (us.map (·.2)))]).map (·.length)).sum+(lines++[tS (nlTs (us.map (·.2)))]).length*([10]:List Nat).length≤16777216:=by
  have h1:=sum_le (l:=lines++[tS (nlTs (us.map (·.2)))]) (m:=1000) (fun x hx=>by
   rcases List.mem_append.mp hx with hx | hx
   ·exact hls x hx
   ·rw[List.mem_singleton.mp hx];exact hlt)
  have h2:(lines++[tS (nlTs (us.map (·.2)))]).length≤101:=by rw[List.length_append];simp;omega
  have h3:([10]:List Nat).length=1:=rfl
  rw[h3]
  have h4:(lines++[tS (nlTs (us.map (·.2)))]).length*1000≤101*1000:=Nat.mul_le_mul_right _ h2
  generalize ((lines++[tS (nlTs (us.map (·.2)))]).map (·.length)).sum=q at*
  omega
 have hpln:(pvS (d.piecesL d.n)).length=d.n:=by rw[pvS_length];simp[Dt.piecesL]
 have hlln:(pvS (d.leadsL d.n)).length=d.n:=by rw[pvS_length];simp[Dt.leadsL]
 have gl: ∀i:Nat,i<d.n→itemL (pvS (d.leadsL d.n)) (i:Int)= .str (d.lead i):=fun i hi=>by
  rw[itemL_S (by simp[Dt.leadsL];exact hi),d.leads_get hi]
 have gp: ∀i:Nat,i<d.n→itemL (pvS (d.piecesL d.n)) (i:Int)= .str (d.piece i):=fun i hi=>by
  rw[itemL_S (by simp[Dt.piecesL];exact hi),d.pieces_get hi]
 generalize d.piecesL d.n=PL at*
 generalize d.leadsL d.n=LL at*
 generalize d.kindsL d.n=KL at*
 have hjl:=d.joinLP_len (b:=b) (e:=d.n) h8
 refine se_cons (s1_assign_g (R:=fun v σ'=>v= .str page∧σ'=(rw',isL (pvS rows))::(pc,isL (pvS PL))::(ld,isL (pvS LL))::(kd,isL (pvI KL))::e1::e2::(c.numbers,isCell x_numbers)::(c.whole,isCell x_whole)::(c.step,isCell x_step)::(c.first,isCell x_first)::(c.last,isCell x_last)::(c.pairs,isCell x_pairs)::(c.near,isCell x_near)::(c.far,isCell x_far)::(c.kinds,isCell (some (.ref kd)))::(c.leads,isCell (some (.ref ld)))::(c.pieces,isCell (some (.ref pc)))::(aa.Plen,isPt)::(aa.Pstr,isPt)::rest) (VX.fit (ge_own (k:=n+7) (R₂:=fun r σ'=>r= .str page∧σ'=((rw',isL (pvS rows))::(pc,isL (pvS PL))::(ld,isL (pvS LL))::(kd,isL (pvI KL))::e1::e2::(c.numbers,isCell x_numbers)::(c.whole,isCell x_whole)::(c.step,isCell x_step)::(c.first,isCell x_first)::(c.last,isCell x_last)::(c.pairs,isCell x_pairs)::(c.near,isCell x_near)::(c.far,isCell x_far)::(c.kinds,isCell (some (.ref kd)))::(c.leads,isCell (some (.ref ld)))::(c.pieces,isCell (some (.ref pc)))::[])++(fmL F (d.wd:Nat) sp (lines++[tS (nlTs (us.map (·.2)))]) [] 0++rest)) O rfl B.E.cls B.E.str (pe_local Y mI11) (obtO (d:=F.dy) (by rw[←AF.cF];exact(by repeat (first | exact List.Mem.head _ | apply List.Mem.tail))) (by repeat (first | exact List.Mem.head _ | apply List.Mem.tail))) (by show (_:Str)∉[("_current_line":Str),"_lines","_splitchars","_continuation_ws_len","_continuation_ws","_maxlen"];decide)
  (ag_of_ae (ae1 (v:=.str [10]) pe_str)) (by omega) (fun vs σ' h=>by
   obtain⟨h1,h2⟩:=h
   subst h1;subst h2
   rw[←hpage]
   exact fstr_at B AF ((rw',isL (pvS rows))::(pc,isL (pvS PL))::(ld,isL (pvS LL))::(kd,isL (pvI KL))::e1::e2::(c.numbers,isCell x_numbers)::(c.whole,isCell x_whole)::(c.step,isCell x_step)::(c.first,isCell x_first)::(c.last,isCell x_last)::(c.pairs,isCell x_pairs)::(c.near,isCell x_near)::(c.far,isCell x_far)::(c.kinds,isCell (some (.ref kd)))::(c.leads,isCell (some (.ref ld)))::(c.pieces,isCell (some (.ref pc)))::[]) hs (by omega) hsp hpos (by omega) hj)) (fun v σ' h=> ?_)) (fun v σ' h=> ?_))
 ·obtain⟨h1,rfl⟩:=h
  refine⟨_,Fit.of_sub ?_,h1,rfl⟩
  rw[←AF.P,←AF.Q]
  refine List.Sublist.append_left (l:=((rw',isL (pvS rows))::(pc,isL (pvS PL))::(ld,isL (pvS LL))::(kd,isL (pvI KL))::e1::e2::(c.numbers,isCell x_numbers)::(c.whole,isCell x_whole)::(c.step,isCell x_step)::(c.first,isCell x_first)::(c.last,isCell x_last)::(c.pairs,isCell x_pairs)::(c.near,isCell x_near)::(c.far,isCell x_far)::(c.kinds,isCell (some (.ref kd)))::(c.leads,isCell (some (.ref ld)))::(c.pieces,isCell (some (.ref pc)))::[])) ?_
  exact .cons _ (.cons _ (.cons _ (.cons _ (.cons _ (.cons₂ _ (.cons₂ _ (.refl _)))))))
 ·obtain⟨rfl,rfl⟩:=h
  refine⟨_,_,fun u hu=>store_local Y (.there (.there (.there (.there (.there (.there (.there (.there (.there (.there (.there (.there (.there (.there (.there (.there (.here))))))))))))))))) hu,?_⟩
  have hj2:((rows++[d.joinLP b d.n]).map (·.length)).sum+(rows++[d.joinLP b d.n]).length*([10]:List Nat).length≤16777216:=by
   have h1:=sum_le (l:=rows++[d.joinLP b d.n]) (m:=1000) (fun x hx=>by
    rcases List.mem_append.mp hx with hx | hx
    ·exact hrs x hx
    ·rw[List.mem_singleton.mp hx];omega)
   have h2:(rows++[d.joinLP b d.n]).length≤11:=by rw[List.length_append];simp;omega
   have h3:([10]:List Nat).length=1:=rfl
   rw[h3]
   have h4:(rows++[d.joinLP b d.n]).length*1000≤11*1000:=Nat.mul_le_mul_right _ h2
   generalize ((rows++[d.joinLP b d.n]).map (·.length)).sum=q at*
   omega
  refine se_cons (s1_if (c:=false) (by
   have e0:(page != joinS [10] (rows++[d.joinLP b d.n]))=false:=by rw[hrule];simp
   refine BE.cast e0 ?_
   refine be_cmp (pe_local Y mI16) (pe_join (l:=rows++[d.joinLP b d.n]) (R:=fun v σ'=> ∃q τ,v= .ref q∧σ'=(q,isL (pvS (rows++[d.joinLP b d.n])))::τ∧((rw',isL (pvS rows))::(pc,isL (pvS PL))::(ld,isL (pvS LL))::(kd,isL (pvI KL))::e1::e2::(c.numbers,isCell x_numbers)::(c.whole,isCell x_whole)::(c.step,isCell x_step)::(c.first,isCell x_first)::(c.last,isCell x_last)::(c.pairs,isCell x_pairs)::(c.near,isCell x_near)::(c.far,isCell x_far)::(c.kinds,isCell (some (.ref kd)))::(c.leads,isCell (some (.ref ld)))::(c.pieces,isCell (some (.ref pc)))::(aa.Plen,isPt)::(aa.Pstr,isPt)::rest).Sublist τ) pe_str ?_ (fun v σ' r=>by obtain⟨q,τ,rfl,rfl,h⟩:=r;exact⟨q,rfl,.head _,.cons _ h⟩) hj2) cm_nes
   refine ge_bin (ge_of_pe (pe_local Y mI12)) (R₂:=fun _ _ v₂ σ₂=> ∃q,v₂= .ref q∧σ₂=(q,isL (pvS [d.joinLP b d.n]))::(rw',isL (pvS rows))::(pc,isL (pvS PL))::(ld,isL (pvS LL))::(kd,isL (pvI KL))::e1::e2::(c.numbers,isCell x_numbers)::(c.whole,isCell x_whole)::(c.step,isCell x_step)::(c.first,isCell x_first)::(c.last,isCell x_last)::(c.pairs,isCell x_pairs)::(c.near,isCell x_near)::(c.far,isCell x_far)::(c.kinds,isCell (some (.ref kd)))::(c.leads,isCell (some (.ref ld)))::(c.pieces,isCell (some (.ref pc)))::(aa.Plen,isPt)::(aa.Pstr,isPt)::rest) (fun v σ' r=> ?_) (fun v σ' v₂ σ₂ r r₂ u u₂ hu hu₂=> ?_)
   ·obtain⟨rfl,rfl⟩:=r
    refine ge_of_ne (ne_listP (vs:=pvS [d.joinLP b d.n]) (.cons ?_ .nil) (by show 1≤16777216;decide))
    have ej:d.joinLP b d.n=joinS [] ((List.range (d.n-b)).map fun j=>d.lp (b+j)):=(joinS_nil _).symm
    have ep:pvS ((List.range (d.n-b)).map fun j=>d.lp (b+j))=(List.range (d.n-b)).map fun j=>PV.str (d.lp (b+j)):=by unfold pvS;rw[List.map_map];rfl
    rw[ej]
    refine pe_joinC (sep:=[]) pe_str (ep ▸ ne_compR (cl:=[("pieces",c.pieces),("leads",c.leads)]) (a:=b) (b:=d.n) (d.n-b) (by omega) (fun j=>.str (d.lp (b+j))) rfl O.hh rfl (by decide) rfl (by decide) rfl
     (it_range2 (xe_built O rfl G.range.1 G.range.2) (pe_local Y mI13) (pe_local Y mI4) (small_up (by omega) (by omega) (by omega) (by omega))) (by omega) (fun C σ₁ j hj hm=> ?_)) ?_
    ·rw[show (b:Int)+(j:Int)=((b+j:Nat):Int) by omega]
     have h1:=d.lead_len (b+j)
     have h2:=d.piece_len (b+j)
     exact pe_cat (pe_itemL (ps:=pvS LL) (i:=((b+j:Nat):Int)) (pe_cell (c:=c.leads) rfl rfl rfl (hm _ (.tail _ (by repeat (first | exact List.Mem.head _ | apply List.Mem.tail))))) (.inl (hm _ (.tail _ (by repeat (first | exact List.Mem.head _ | apply List.Mem.tail))))) (pe_local (Lay.comp rfl rfl) (.head _)) (by omega) (by omega) (by omega) (gl _ (by omega))) (pe_itemL (ps:=pvS PL) (i:=((b+j:Nat):Int)) (pe_cell (c:=c.pieces) rfl rfl rfl (hm _ (.tail _ (by repeat (first | exact List.Mem.head _ | apply List.Mem.tail))))) (.inl (hm _ (.tail _ (by repeat (first | exact List.Mem.head _ | apply List.Mem.tail))))) (pe_local (Lay.comp rfl rfl) (.head _)) (by omega) (by omega) (by omega) (gp _ (by omega))) (by omega)
    ·have h1:=sum_le (l:=(List.range (d.n-b)).map fun j=>d.lp (b+j)) (m:=5) fun x hx=>by
      obtain⟨j,_,rfl⟩:=List.mem_map.mp hx
      exact d.lp_len _
     simp only[List.length_map,List.length_range,List.length_nil,Nat.mul_zero,Nat.add_zero] at h1 ⊢
     omega
   ·obtain⟨rfl,rfl⟩:=r
    obtain⟨q,rfl,rfl⟩:=r₂
    have e:pvS rows++pvS [d.joinLP b d.n]=pvS (rows++[d.joinLP b d.n]):=by unfold pvS;rw[List.map_append]
    rw[←e]
    exact(vx_of_ne (vx_addL (.inl (by repeat (first | exact List.Mem.head _ | apply List.Mem.tail))) (.inl (.head _)) (by rw[pvS_length,pvS_length];simp;omega) u u₂ hu hu₂)).mono fun v σ' r=>by
     obtain⟨q',rfl,rfl⟩:=r
     exact⟨q',_,rfl,rfl,.cons _ (.refl _)⟩) (fun h=>by cases h) (fun _=>se_nil ?_))
  refine se_cons (s1_assign Y (v:=.str []) pe_str (.there (.there (.there (.there (.there (.there (.there (.there (.there (.there (.there (.there (.there (.there (.there (.there (.there (.here)))))))))))))))))) ?_)
  refine se_cons (s1_forS (seqs_str (l:=page)) O.hh (fun i ρ σ'=> ∃o18I,ρ=(fL o0I o1I o2I o3I (some (.int (d.n:Nat))) o5I o6I o7I (some (.str unseenL)) o9I o10I (some (.ref F.y)) (some (.ref rw')) (some (.int (b:Nat))) o14I o15I (some (.str page)) (some (.str (toldS (page.take i)))) o18I o19I o20I)∧σ'=(rw',isL (pvS rows))::(pc,isL (pvS PL))::(ld,isL (pvS LL))::(kd,isL (pvI KL))::e1::e2::(c.numbers,isCell x_numbers)::(c.whole,isCell x_whole)::(c.step,isCell x_step)::(c.first,isCell x_first)::(c.last,isCell x_last)::(c.pairs,isCell x_pairs)::(c.near,isCell x_near)::(c.far,isCell x_far)::(c.kinds,isCell (some (.ref kd)))::(c.leads,isCell (some (.ref ld)))::(c.pieces,isCell (some (.ref pc)))::(aa.Plen,isPt)::(aa.Pstr,isPt)::rest)
   (it_str (pe_local Y mI16)) ⟨_,rfl,rfl⟩ (fun _ _ _ _=>trivial) ?_ ?_)
  ·rintro I i ρ σ' hi ⟨o18I,rfl,rfl⟩ hI
   refine⟨_,_,fun u hu=>store_local Y (.there (.there (.there (.there (.there (.there (.there (.there (.there (.there (.there (.there (.there (.there (.there (.there (.there (.there (.here))))))))))))))))))) hu,?_⟩
   have hch:page.getD i 0∈page:=getD_memL hi
   have htk:page.take (i+1)=page.take i++[page.getD i 0]:=by
    rw[List.take_succ,List.getD_eq_getElem?_getD,List.getElem?_eq_getElem hi];rfl
   have hlen:(toldS (page.take i)).length≤10000*1000:=by
    refine Nat.le_trans (toldS_len _ fun ch hc hs=>(hlow ch (List.mem_of_mem_take hc) hs).2) ?_
    rw[List.length_take];omega
   have hl:=hlow _ hch
   generalize page.getD i 0=ch at*
   refine se_cons (s1_if (c:=false) (by
    have e0:((decide ((ch:Int)∈b1L) != hasT unseenL [ch])||((([ch]:List Nat)==[32]) != (([ch]:List Nat)==[32])||false))=false:=by
     rw[b1_same,fnd_one];simp
    rw[←e0]
    exact be_or1 (be_cmp (pe_call_f' (k:=1) O (.inl rfl) D.b1.isFn (xe_glob O rfl D.gb1) (ae1 (pe_local Y mI18)) (b1_fn (n:=0) D G) (by omega)) (pe_cmp (pe_local Y mI18) (pe_local Y mI8) cm_in) cm_isnot) fun _=>
     be_or1 (be_cmp (pe_call_f' (k:=1) O (.inl rfl) D.c11.isFn (xe_glob O rfl D.gc11) (ae1 (pe_local Y mI18)) (c11_fn (n:=0) D.c11) (by omega)) (pe_cmp (pe_local Y mI18) pe_str cm_eqs) cm_isnot) fun _=>be_or0) (fun h=>by cases h) (fun _=>se_nil ?_))
   refine se_cons (s1_if (c:= !skipS ch) (by
    have e0:(!skipS ch)= !hasT (unseenL++[32,10]) [ch]:=by rw[fnd_one];rfl
    rw[e0]
    exact be_cmp (pe_local Y mI18) (pe_cat (a:=unseenL) (b:=[32,10]) (pe_local Y mI8) pe_str (by decide)) cm_notin) (fun h=> ?_) (fun h=>se_nil ?_))
   ·have hs:skipS ch=false:=by simpa using h
    have hl:=hl hs
    refine se_cons (s1_aug (load_local Y mI17) (pe_call_f' (k:=1) O (.inl rfl) D.b3.isFn (xe_glob O rfl D.gb3) (ae1 (pe_local Y mI18)) (b3_fn (n:=0) D G (by omega)) (by omega)) (ip_cat (by omega)) (fun u hu=>store_local Y (.there (.there (.there (.there (.there (.there (.there (.there (.there (.there (.there (.there (.there (.there (.there (.there (.there (.here)))))))))))))))))) hu) ?_)
    refine se_nil (se_nil ⟨_,⟨some (.str [ch]),?_,rfl⟩,.refl _⟩)
    rw[htk,toldS_snoc,hs];rfl
   ·have hs:skipS ch=true:=by simpa using h
    refine se_nil ⟨_,⟨some (.str [ch]),?_,rfl⟩,.refl _⟩
    rw[htk,toldS_snoc,hs];simp
  ·rintro ρ σ' ⟨o18I,rfl,rfl⟩
   rw[List.take_length,htold]
   exact se_nil (k _ _)
end
end Mine
end
section
set_option maxRecDepth 100000
set_option maxHeartbeats 4000000
open PySem PySem.W PyProof.Rows PySem.Calls
namespace Mine
noncomputable def wantsQ (fr:Nat) (tl:List Nat):List (List (List Nat)):=
 [[tl],[tl.take 2,tl.drop 2],[tl.drop 1],[tl.dropLast],[tl.dropLast++[fr-32]],[[97,fr],[]],[tl,[lastN tl]],[[],tl.dropLast,tl.drop (tl.length-2),[]],[[],tl.drop 1,[lastN tl]]]
structure LineQ (fr:Nat) (tl:List Nat):Prop where
 len:4≤tl.length∧tl.length≤30
 let': ∀ch∈tl,97≤ch∧ch≤122
 hf:105≤fr∧fr≤119
 wants: ∀k,k<9→ellP ((wantsQ fr tl).getD k []) tl=decide (k<2)
section
variable {prog:Program}{w:World}{T:Tops}{n:Nat}{a:Ads}{fa:Addr}{c:Cel}{A:Around}{L:Addr}{g:Heap}{os:OsState}{cdv:Value}{K:PF→Ro→Led→Prop}{rest:Led}{o0I o1I o2I o3I o4I o5I o6I o7I o8I o9I o10I o11I o12I o13I o14I o15I o16I o17I o18I o19I o20I:Option PV}{x_numbers x_whole x_step x_first x_last x_pairs x_near x_far x_kinds x_leads x_pieces:Option PV}
theorem segK (D:Text T a) (G:Names T) (O:XOK T (n+9) (lX fa c A L g os cdv)) (Y:Lay (lX fa c A L g os cdv)) {fr:Nat}{tl:List Nat}(H:LineQ fr tl) {σ:Led}(hfar:(c.far,isCell (some (.str [fr])))∈σ)
  (k: ∀o19I o1I,SE prog w (lX fa c A L g os cdv) (lB 27) (fL o0I o1I o2I o3I o4I o5I o6I o7I o8I o9I o10I o11I o12I o13I o14I o15I o16I (some (.str tl)) o18I o19I o20I) σ K):
  SE prog w (lX fa c A L g os cdv) (lB 25) (fL o0I o1I o2I o3I o4I o5I o6I o7I o8I o9I o10I o11I o12I o13I o14I o15I o16I (some (.str tl)) o18I o19I o20I) σ K:=by
 obtain⟨h0,h1⟩:=H.len
 obtain⟨f1,f2⟩:=H.hf
 have hne:tl≠[]:=by intro e;rw[e] at h0;simp at h0
 have hlast:lastN tl∈tl:=getD_memL (by omega)
 have hll:=H.let' _ hlast
 have hil:itemT tl (-1)=lastN tl:=by
  rw[itemT_neg (by decide)]
  unfold lastN
  congr 1;omega
 have hty:typedS fr 10=fr-32:=by
  unfold typedS
  rw[if_pos (by decide),show (10:Int).fmod 2=0 by decide]
  omega
 have hw:(wantsQ fr tl).map (joinS dots)=[tl,tl.take 2++dots++tl.drop 2,tl.drop 1,tl.dropLast,tl.dropLast++[fr-32],[97]++[fr]++dots,tl++dots++[lastN tl],dots++tl.dropLast++dots++tl.drop (tl.length-2)++dots,dots++tl.drop 1++dots++[lastN tl]]:=by
  simp[wantsQ,joinS]
 have hdl:tl.dropLast.length≤29:=by rw[List.length_dropLast];omega
 have d3:dots.length=3:=rfl
 have e1:sl tl none (some (2:Int))=tl.take 2:=sl_to tl 2
 have e2:sl tl (some (2:Int)) none=tl.drop 2:=sl_from tl 2
 have e3:sl tl (some (1:Int)) none=tl.drop 1:=sl_from tl 1
 have e4:sl tl none (some (-1))=tl.dropLast:=sl_butlast tl hne
 have e5:sl tl (some (-2)) none=tl.drop (tl.length-2):=sl_last2 tl (by omega)
 have l1:(tl.take 2).length≤30:=by rw[List.length_take];omega
 have l2:(tl.drop 2).length≤30:=by rw[List.length_drop];omega
 have l3:(tl.drop 1).length≤30:=by rw[List.length_drop];omega
 have l5:(tl.drop (tl.length-2)).length≤30:=by rw[List.length_drop];omega
 refine se_cons (s1_assign_new Y (ρf:=fun wl=>(fL o0I o1I o2I o3I o4I o5I o6I o7I o8I o9I o10I o11I o12I o13I o14I o15I o16I (some (.str tl)) o18I (some (.ref wl)) o20I)) (P:=isL (pvS ((wantsQ fr tl).map (joinS dots)))) (by
  rw[hw]
  refine ne_listP (vs:=pvS [tl,tl.take 2++dots++tl.drop 2,tl.drop 1,tl.dropLast,tl.dropLast++[fr-32],[97]++[fr]++dots,tl++dots++[lastN tl],dots++tl.dropLast++dots++tl.drop (tl.length-2)++dots,dots++tl.drop 1++dots++[lastN tl]])
   (.cons (pe_local Y mI17) (.cons ?_ (.cons ?_ (.cons ?_ (.cons ?_ (.cons ?_ (.cons ?_ (.cons ?_ (.cons ?_ .nil))))))))) (by show 9≤16777216;decide)
  ·rw[←e1,←e2]
   refine pe_cat (pe_cat (pe_slice (pe_local Y mI17) pa_none (pa_some pe_int) (by omega)) pe_str ?_) (pe_slice (pe_local Y mI17) (pa_some pe_int) pa_none (by omega)) ?_
   ·rw[e1];show _+3≤16777216;omega
   ·rw[e1,e2,List.length_append];show _+3+_≤16777216;omega
  ·rw[←e3]
   exact pe_slice (pe_local Y mI17) (pa_some pe_int) pa_none (by omega)
  ·rw[←e4]
   exact pe_slice (pe_local Y mI17) pa_none (pa_some (pe_neg pe_int)) (by omega)
  ·rw[←e4,←hty]
   exact pe_cat (pe_slice (pe_local Y mI17) pa_none (pa_some (pe_neg pe_int)) (by omega)) (pe_call_f' (k:=1) O (.inl rfl) D.typed.isFn (xe_glob O rfl D.gtyped) (ae2 (v:=.str [fr]) (pe_cell (c:=c.far) rfl rfl rfl hfar) pe_int) (typed_fn (n:=0) D G (by omega) (by omega)) (by omega)) (by rw[e4];show _+1≤16777216;omega)
  ·exact pe_cat (pe_cat pe_str (pe_cell (c:=c.far) rfl rfl rfl hfar) (by show 1+1≤16777216;decide)) pe_str (by show 2+3≤16777216;decide)
  ·rw[←hil]
   exact pe_cat (pe_cat (pe_local Y mI17) pe_str (by show _+3≤16777216;omega)) (pe_item (pe_local Y mI17) (pe_neg pe_int) (by omega) (by omega) (by omega)) (by rw[List.length_append];show _+3+1≤16777216;omega)
  ·rw[←e4,←e5]
   refine pe_cat (pe_cat (pe_cat (pe_cat pe_str (pe_slice (pe_local Y mI17) pa_none (pa_some (pe_neg pe_int)) (by omega)) ?_) pe_str ?_) (pe_slice (pe_local Y mI17) (pa_some (pe_neg pe_int)) pa_none (by omega)) ?_) pe_str ?_
   ·rw[e4];show 3+_≤16777216;omega
   ·rw[e4,List.length_append];show 3+_+3≤16777216;omega
   ·rw[e4,e5,List.length_append,List.length_append];show 3+_+3+_≤16777216;omega
   ·rw[e4,e5,List.length_append,List.length_append,List.length_append];show 3+_+3+_+3≤16777216;omega
  ·rw[←e3,←hil]
   refine pe_cat (pe_cat (pe_cat pe_str (pe_slice (pe_local Y mI17) (pa_some pe_int) pa_none (by omega)) ?_) pe_str ?_) (pe_item (pe_local Y mI17) (pe_neg pe_int) (by omega) (by omega) (by omega)) ?_
   ·rw[e3];show 3+_≤16777216;omega
   ·rw[e3,List.length_append];show 3+_+3≤16777216;omega
   ·rw[e3,List.length_append,List.length_append];show 3+_+3+1≤16777216;omega) (fun b=>(.there (.there (.there (.there (.there (.there (.there (.there (.there (.there (.there (.there (.there (.there (.there (.there (.there (.there (.there (.here))))))))))))))))))))) (fun wl hwl=> ?_))
 refine se_cons (s1_range (a:=0) (b:=9) 9 (by omega) O.hh (fun i ρ σ'=> ∃o1I,ρ=(fL o0I o1I o2I o3I o4I o5I o6I o7I o8I o9I o10I o11I o12I o13I o14I o15I o16I (some (.str tl)) o18I (some (.ref wl)) o20I)∧σ'=(wl,isL (pvS ((wantsQ fr tl).map (joinS dots))))::σ)
  (it_range1 (xe_built O rfl G.range.1 G.range.2) pe_int (small_up (by omega) (by omega) (by omega) (by omega))) ⟨_,rfl,rfl⟩ ?_ ?_)
 ·rintro I i ρ σ' hi ⟨o1I,rfl,rfl⟩ hI
  refine⟨_,_,fun u hu=>store_local Y (.there (.here)) hu,?_⟩
  rw[Int.zero_add]
  have hwi:=H.wants i hi
  have hgd:itemL (pvS ((wantsQ fr tl).map (joinS dots))) (i:Int)= .str (joinS dots ((wantsQ fr tl).getD i [])):=by
   rw[itemL_S (by rw[List.length_map];exact hi)]
   have:i<(wantsQ fr tl).length:=hi
   simp[List.getD_eq_getElem?_getD,this]
  have hmem: ∀ps∈wantsQ fr tl,ps≠[]∧(∀p∈ps,46∉p)∧(∀p∈ps,p.length≤1000)∧ps.length≤5:=by
   have ok: ∀p:List Nat,(∀ch∈p,ch∈tl)→p.length≤1000→46∉p∧p.length≤1000:=fun p h hl=>⟨fun hm=>by have:=H.let' 46 (h 46 hm);omega,hl⟩
   have k1:=ok tl (fun _ h=>h) (by omega)
   have k2:=ok (tl.take 2) (fun _ h=>List.mem_of_mem_take h) (by omega)
   have k3:=ok (tl.drop 2) (fun _ h=>List.mem_of_mem_drop h) (by omega)
   have k4:=ok (tl.drop 1) (fun _ h=>List.mem_of_mem_drop h) (by omega)
   have k5:=ok tl.dropLast (fun _ h=>List.dropLast_subset _ h) (by omega)
   have k6:=ok (tl.drop (tl.length-2)) (fun _ h=>List.mem_of_mem_drop h) (by omega)
   have k7:=ok [lastN tl] (fun ch h=>by rw[List.mem_singleton.mp h];exact hlast) (by simp)
   have k8:46∉([]:List Nat)∧([]:List Nat).length≤1000:=⟨by simp,by simp⟩
   have k9:46∉tl.dropLast++[fr-32]∧(tl.dropLast++[fr-32]).length≤1000:=by
    refine⟨fun hm=> ?_,by rw[List.length_append];show _+1≤1000;omega⟩
    rcases List.mem_append.mp hm with h | h
    ·exact k5.1 h
    ·have:=List.mem_singleton.mp h;omega
   have k10:46∉[97,fr]∧([97,fr]:List Nat).length≤1000:=by
    refine⟨fun hm=> ?_,by simp⟩
    simp only[List.mem_cons,List.not_mem_nil,or_false] at hm
    omega
   intro ps hps
   simp only[wantsQ,List.mem_cons,List.not_mem_nil,or_false] at hps
   rcases hps with rfl | rfl | rfl | rfl | rfl | rfl | rfl | rfl | rfl
   all_goals
    refine⟨by simp,?_,?_,by simp⟩
    all_goals
     intro p hp
     simp only[List.mem_cons,List.not_mem_nil,or_false] at hp
   all_goals first | (rcases hp with rfl | rfl | rfl | rfl) | (rcases hp with rfl | rfl | rfl) | (rcases hp with rfl | rfl) | subst hp
   all_goals first | exact k1.1 | exact k1.2 | exact k2.1 | exact k2.2 | exact k3.1 | exact k3.2 | exact k4.1 | exact k4.2 | exact k5.1 | exact k5.2 | exact k6.1 | exact k6.2 | exact k7.1 | exact k7.2 | exact k8.1 | exact k8.2 | exact k9.1 | exact k9.2 | exact k10.1 | exact k10.2
  obtain⟨m1,m2,m3,m4⟩:=hmem _ (getD_memL (i:=i) (d:=[]) hi)
  have hwl8:(pvS ((wantsQ fr tl).map (joinS dots))).length=9:=by rw[pvS_length];rfl
  refine se_cons (s1_if (c:=false) (by
   have e0:(decide (i<2) != decide ((i:Int)<2))=false:=by
    by_cases h:i<2
    ·rw[decide_eq_true h,decide_eq_true (by omega)];rfl
    ·rw[decide_eq_false h,decide_eq_false (by omega)];rfl
   refine BE.cast e0 ?_
   exact be_cmp (pe_ell (n:=0) D G (O.le (by omega)) (.inl rfl) hwi rfl rfl (pe_itemL (pe_local Y mI19) (.inl (by repeat (first | exact List.Mem.head _ | apply List.Mem.tail))) (pe_local Y mI1) (by omega) (by omega) (by omega) hgd) (pe_local Y mI17) m1 m2 (by omega) m3 m4 rfl) (pe_cmp (pe_local Y mI1) pe_int cm_lt) cm_isnot) (fun h=>by cases h) (fun _=> ?_))
  exact se_nil (se_nil ⟨_,⟨_,rfl,rfl⟩,.refl _⟩)
 ·rintro ρ σ' ⟨o1I,rfl,rfl⟩
  exact se_nil (SE.sub (k _ _) (.cons _ (.refl _)))
end
end Mine
end
section
set_option maxRecDepth 100000
set_option maxHeartbeats 4000000
open PySem PySem.W PyProof.Rows PySem.Calls
namespace Mine
structure PointsQ (n g fr:Nat) (lt:Nat→Nat→Bool) (tl:List Nat):Prop where
 fst: ∀j,j<n→ellP [[97+j],[]] tl=(j==0)
 lst: ∀j,j<n→ellP [[],[97+j,fr]] tl=(j==g)
 mid: ∀j,j<n→ellP [[97],[97+j],[97+g,fr]] tl= !(j==0||j==g)
 ord: ∀j k,j<k→k<n→ellP [[],[97+j],[97+k],[]] tl=lt j k
noncomputable def namesL:List Nat:=[97,98,99,100,101,102,103,104]
theorem names_at {j:Nat}(h:j<8):itemT namesL (j:Int)=97+j:=by
 rw[itemT_nat]
 match j,h with
 | 0,_=>rfl
 | 1,_=>rfl
 | 2,_=>rfl
 | 3,_=>rfl
 | 4,_=>rfl
 | 5,_=>rfl
 | 6,_=>rfl
 | 7,_=>rfl
theorem filt_take (l:List Nat) (p:Nat→Bool) (i:Nat) (h:i<l.length):(l.take (i+1)).filter p=(l.take i).filter p++if p (l.getD i 0) then [l.getD i 0] else []:=by
 rw[List.take_succ,List.getElem?_eq_getElem h,List.filter_append]
 have e:l.getD i 0=l[i]:=by rw[List.getD_eq_getElem?_getD,List.getElem?_eq_getElem h];rfl
 rw[e]
 congr 1
 simp only[Option.toList,List.filter_cons,List.filter_nil]
section
variable {prog:Program}{w:World}{T:Tops}{n:Nat}{a:Ads}{fa:Addr}{c:Cel}{A:Around}{L:Addr}{g:Heap}{os:OsState}{cdv:Value}{K:PF→Ro→Led→Prop}{rest:Led}{o0I o1I o2I o3I o4I o5I o6I o7I o8I o9I o10I o11I o12I o13I o14I o15I o16I o17I o18I o19I o20I:Option PV}{x_numbers x_whole x_step x_first x_last x_pairs x_near x_far x_kinds x_leads x_pieces:Option PV}
theorem segL (D:Text T a) (G:Names T) (O:XOK T (n+9) (lX fa c A L g os cdv)) (Y:Lay (lX fa c A L g os cdv)) {N s cn gg fr:Nat}{tl:List Nat}(hc:cn≤8) (hg8:gg<8) (hf:105≤fr∧fr≤119) (hl30:tl.length≤30) (P:PointsQ cn gg fr (ltW N s) tl) {wd:Addr}{σ:Led}
  (hfar:(c.far,isCell (some (.str [fr])))∈σ) (hlst:(c.last,isCell (some (.int (gg:Nat))))∈σ) (hwd:(wd,isL (pvS (wordsS N s cn)))∈σ)
  (k: ∀o20I o14I o1I,SE prog w (lX fa c A L g os cdv) (lB 29) (fL o0I o1I o2I o3I (some (.int (cn:Nat))) (some (.ref wd)) o6I o7I o8I o9I o10I o11I o12I o13I o14I o15I o16I (some (.str tl)) o18I o19I o20I) σ K):
  SE prog w (lX fa c A L g os cdv) (lB 27) (fL o0I o1I o2I o3I (some (.int (cn:Nat))) (some (.ref wd)) o6I o7I o8I o9I o10I o11I o12I o13I o14I o15I o16I (some (.str tl)) o18I o19I o20I) σ K:=by
 have hfar': ∀τ:Led,σ.Sublist τ→(c.far,isCell (some (.str [fr])))∈τ:=fun τ h=>h.mem hfar
 have d3:dots.length=3:=rfl
 have nl:namesL.length=8:=rfl
 have hwl:(pvS (wordsS N s cn)).length=cn:=by rw[pvS_length,wordsS_len]
 refine se_cons (s1_assign Y (v:=.str namesL) pe_str (.there (.there (.there (.there (.there (.there (.there (.there (.there (.there (.there (.there (.there (.there (.there (.there (.there (.there (.there (.there (.here))))))))))))))))))))) ?_)
 refine se_cons (s1_range (a:=0) (b:=cn) cn (by omega) O.hh (fun i ρ σ'=> ∃o14I o1I,ρ=(fL o0I o1I o2I o3I (some (.int (cn:Nat))) (some (.ref wd)) o6I o7I o8I o9I o10I o11I o12I o13I o14I o15I o16I (some (.str tl)) o18I o19I (some (.str namesL)))∧σ'=σ)
  (it_range1 (xe_built O rfl G.range.1 G.range.2) (pe_local Y mI4) (small_up (by omega) (by omega) (by omega) (by omega))) ⟨_,_,rfl,rfl⟩ ?_ ?_)
 ·rintro I i ρ σ' hi ⟨o14I,o1I,rfl,rfl⟩ hI
  refine⟨_,_,fun u hu=>store_local Y (.there (.there (.there (.there (.there (.there (.there (.there (.there (.there (.there (.there (.there (.there (.here))))))))))))))) hu,?_⟩
  rw[Int.zero_add]
  have pn: ∀{ρ:Ro}{σ:Led}{p1 p2 p3:Pos},(("names":Str),some (.str namesL))∈ρ→(("j":Str),some (.int (i:Nat)))∈ρ→PE prog w (lX fa c A L g os cdv) (.Subscript (.Name "names" p1) (.Name "j" p2) p3) ρ σ (.str [97+i]):=fun h1 h2=>by
   rw[←names_at (show i<8 by omega)]
   exact pe_item (pe_local Y h1) (pe_local Y h2) (by omega) (by rw[nl];omega) (by decide)
  have fine1: ∀j:Nat,46∉[97+j]∧([97+j]:List Nat).length≤1000:=fun j=>⟨fun h=>by have:=List.mem_singleton.mp h;omega,by simp⟩
  have fine2: ∀j:Nat,46∉[97+j,fr]∧([97+j,fr]:List Nat).length≤1000:=fun j=>by
   refine⟨fun hm=> ?_,by simp⟩
   simp only[List.mem_cons,List.not_mem_nil,or_false] at hm
   omega
  have fine0:46∉([]:List Nat)∧([]:List Nat).length≤1000:=⟨by simp,by simp⟩
  have fineA:46∉[97]∧([97]:List Nat).length≤1000:=⟨by simp,by simp⟩
  have all2: ∀{x y:List Nat},(46∉x∧x.length≤1000)→(46∉y∧y.length≤1000)→ ∀p∈[x,y],46∉p∧p.length≤1000:=fun h1 h2 p hp=>by
   simp only[List.mem_cons,List.not_mem_nil,or_false] at hp
   rcases hp with rfl | rfl
   ·exact h1
   ·exact h2
  refine se_cons (s1_if (c:=false) (by
   have e0:(((i==0) != ((i:Int)==0))||(((i==gg) != ((i:Int)==(gg:Int)))||false))=false:=by
    have b1:(i==0)=((i:Int)==0):=by
     rw[Bool.eq_iff_iff,beq_iff_eq,beq_iff_eq];omega
    have b2:(i==gg)=((i:Int)==(gg:Int)):=by
     rw[Bool.eq_iff_iff,beq_iff_eq,beq_iff_eq];omega
    rw[b1,b2];simp
   refine BE.cast e0 ?_
   have q1:=all2 (fine1 i) fine0
   have q2:=all2 fine0 (fine2 i)
   refine be_or1 (be_cmp (pe_ell (n:=0) D G (O.le (by omega)) (.inl rfl) (P.fst i hi) rfl rfl (pe_cat (a:=[97+i]) (b:=dots) (pn (by repeat (first | exact List.Mem.head _ | apply List.Mem.tail)) (by repeat (first | exact List.Mem.head _ | apply List.Mem.tail))) pe_str (by show 1+3≤16777216;decide)) (pe_local Y mI17) (by simp) (fun p hp=>(q1 p hp).1) (by omega) (fun p hp=>(q1 p hp).2) (by show 2≤5;decide) rfl) (pe_cmp (pe_local Y mI14) pe_int cm_eq) cm_isnot) fun _=>
    be_or1 (be_cmp (pe_ell (n:=0) D G (O.le (by omega)) (.inl rfl) (P.lst i hi) rfl rfl (pe_cat (a:=dots++[97+i]) (b:=[fr]) (pe_cat (a:=dots) (b:=[97+i]) pe_str (pn (by repeat (first | exact List.Mem.head _ | apply List.Mem.tail)) (by repeat (first | exact List.Mem.head _ | apply List.Mem.tail))) (by show 3+1≤16777216;decide)) (pe_cell (c:=c.far) rfl rfl rfl (.tail _ hfar)) (by show 4+1≤16777216;decide)) (pe_local Y mI17) (by simp) (fun p hp=>(q2 p hp).1) (by omega) (fun p hp=>(q2 p hp).2) (by show 2≤5;decide) rfl) (pe_cmp (pe_local Y mI14) (pe_cell (c:=c.last) rfl rfl rfl (.tail _ hlst)) cm_eq) cm_isnot) fun _=>be_or0) (fun h=>by cases h) (fun _=>se_nil ?_))
  refine se_cons (s1_if (c:=false) (by
   have e0:((!(i==0||i==gg)) != (!([(0:Int),(gg:Int)].any (· ==(i:Int)))))=false:=by
    have b1:(i==0)=((0:Int)==(i:Int)):=by
     rw[Bool.eq_iff_iff,beq_iff_eq,beq_iff_eq];omega
    have b2:(i==gg)=((gg:Int)==(i:Int)):=by
     rw[Bool.eq_iff_iff,beq_iff_eq,beq_iff_eq];omega
    rw[b1,b2];simp
   refine BE.cast e0 ?_
   have q3: ∀p∈[[97],[97+i],[97+gg,fr]],46∉p∧p.length≤1000:=fun p hp=>by
    simp only[List.mem_cons,List.not_mem_nil,or_false] at hp
    rcases hp with rfl | rfl | rfl
    ·exact fineA
    ·exact fine1 i
    ·exact fine2 gg
   refine be_cmp (pe_ell (n:=0) D G (O.le (by omega)) (.inl rfl) (P.mid i hi) rfl rfl (pe_cat (a:=[97]++dots++[97+i]++dots++[97+gg]) (b:=[fr]) (pe_cat (a:=[97]++dots++[97+i]++dots) (b:=[97+gg]) (pe_cat (a:=[97]++dots++[97+i]) (b:=dots) (pe_cat (a:=[97]++dots) (b:=[97+i]) pe_str (pn (by repeat (first | exact List.Mem.head _ | apply List.Mem.tail)) (by repeat (first | exact List.Mem.head _ | apply List.Mem.tail))) (by show 4+1≤16777216;decide)) pe_str (by show 5+3≤16777216;decide)) ?_ (by show 8+1≤16777216;decide)) (pe_cell (c:=c.far) rfl rfl rfl (.tail _ hfar)) (by show 9+1≤16777216;decide)) (pe_local Y mI17) (by simp) (fun p hp=>(q3 p hp).1) (by omega) (fun p hp=>(q3 p hp).2) (by show 3≤5;decide) rfl) ?_ cm_isnot
   ·rw[←names_at hg8]
    exact pe_item (pe_local Y mI20) (pe_cell (c:=c.last) rfl rfl rfl (.tail _ hlst)) (by omega) (by rw[nl];omega) (by decide)
   ·exact pe_cmp2 (R:=fun v τ=> ∃q,v= .ref q∧τ=(q,isL (pvI [(0:Int),(gg:Int)]))::(I,rgI 0 cn I (i+1))::σ') (pe_local Y mI14) (ge_of_ne (ne_listP (vs:=pvI [(0:Int),(gg:Int)]) (.cons pe_int (.cons (pe_cell (c:=c.last) rfl rfl rfl (.tail _ hlst)) .nil)) (by show 2≤16777216;decide))) (fun v τ r=>by
     obtain⟨q,rfl,rfl⟩:=r
     exact⟨.cons _ (.refl _),cm_notinLi (.inl (.head _))⟩)) (fun h=>by cases h) (fun _=>se_nil ?_))
  refine se_cons (s1_range (a:=(i:Int)+1) (b:=cn) (cn-(i+1)) (by omega) O.hh (fun k ρ τ=> ∃o1I,ρ=(fL o0I o1I o2I o3I (some (.int (cn:Nat))) (some (.ref wd)) o6I o7I o8I o9I o10I o11I o12I o13I (some (.int (i:Nat))) o15I o16I (some (.str tl)) o18I o19I (some (.str namesL)))∧τ=(I,rgI 0 cn I (i+1))::σ')
   (it_range2 (xe_built O rfl G.range.1 G.range.2) (pe_add (pe_local Y mI14) pe_int) (pe_local Y mI4) (small_up (by omega) (by omega) (by omega) (by omega))) ⟨_,rfl,rfl⟩ ?_ ?_)
  ·rintro I2 m ρ τ hm ⟨o1I,rfl,rfl⟩ hI2
   refine⟨_,_,fun u hu=>store_local Y (.there (.here)) hu,?_⟩
   have ek:(i:Int)+1+(m:Int)=((i+1+m:Nat):Int):=by omega
   rw[ek]
   have hk1:i<i+1+m:=by omega
   have hk2:i+1+m<cn:=by omega
   generalize i+1+m=kk at hk1 hk2 ⊢
   refine se_cons (s1_if (c:=false) (by
    have e0:((ltW N s i kk) != decide ((wordsS N s cn).getD i []<(wordsS N s cn).getD kk []))=false:=by
     rw[wordsS_get hi,wordsS_get hk2];unfold ltW;simp
    refine BE.cast e0 ?_
    have q4: ∀p∈[[],[97+i],[97+kk],[]],46∉p∧p.length≤1000:=fun p hp=>by
     simp only[List.mem_cons,List.not_mem_nil,or_false] at hp
     rcases hp with rfl | rfl | rfl | rfl
     ·exact fine0
     ·exact fine1 i
     ·exact fine1 kk
     ·exact fine0
    refine be_cmp (pe_ell (n:=0) D G (O.le (by omega)) (.inl rfl) (P.ord i kk hk1 hk2) rfl rfl (pe_cat (a:=dots++[97+i]++dots++[97+kk]) (b:=dots) (pe_cat (a:=dots++[97+i]++dots) (b:=[97+kk]) (pe_cat (a:=dots++[97+i]) (b:=dots) (pe_cat (a:=dots) (b:=[97+i]) pe_str (pn (by repeat (first | exact List.Mem.head _ | apply List.Mem.tail)) (by repeat (first | exact List.Mem.head _ | apply List.Mem.tail))) (by show 3+1≤16777216;decide)) pe_str (by show 4+3≤16777216;decide)) ?_ (by show 7+1≤16777216;decide)) pe_str (by show 8+3≤16777216;decide)) (pe_local Y mI17) (by simp) (fun p hp=>(q4 p hp).1) (by omega) (fun p hp=>(q4 p hp).2) (by show 4≤5;decide) rfl)
     (pe_cmp (pe_itemL (pe_local Y mI5) (.inl (.tail _ (.tail _ hwd))) (pe_local Y mI14) (by omega) (by omega) (by omega) (itemL_S (by rw[wordsS_len];omega))) (pe_itemL (pe_local Y mI5) (.inl (.tail _ (.tail _ hwd))) (pe_local Y mI1) (by omega) (by omega) (by omega) (itemL_S (by rw[wordsS_len];omega))) cm_lts) cm_isnot
    rw[←names_at (show kk<8 by omega)]
    exact pe_item (pe_local Y mI20) (pe_local Y mI1) (by omega) (by rw[nl];omega) (by decide)) (fun h=>by cases h) (fun _=>se_nil ?_))
   exact se_nil ⟨_,⟨_,rfl,rfl⟩,.refl _⟩
  ·rintro ρ τ ⟨o1I,rfl,rfl⟩
   exact se_nil (se_nil ⟨_,⟨_,_,rfl,rfl⟩,.refl _⟩)
 ·rintro ρ σ' ⟨o14I,o1I,rfl,rfl⟩
  exact se_nil (k _ _ _)
theorem segM (G:Names T) (O:XOK T (n+9) (lX fa c A L g os cdv)) (Y:Lay (lX fa c A L g os cdv)) {ff gg nr fr:Nat}{tl:List Nat}(hf8:ff<8) (hg8:gg<8) (hg0:0<gg) (hl30:tl.length≤30) {σ:Led}
  (hfar:(c.far,isCell (some (.str [fr])))∈σ) (hnr:(c.near,isCell (some (.str [nr])))∈σ) (hfst:(c.first,isCell (some (.int (ff:Nat))))∈σ) (hlst:(c.last,isCell (some (.int (gg:Nat))))∈σ)
  (hfin:tl.filter (fun ch=>decide (104<ch))=(List.range (ff+gg)).map fun k=>if k*ff%(ff+gg)<gg then nr else fr)
  (k:K (.ret (.bool true)) (fL o0I o1I o2I o3I o4I o5I o6I o7I o8I o9I o10I o11I o12I o13I o14I o15I o16I (some (.str tl)) o18I o19I o20I) σ):
  SE prog w (lX fa c A L g os cdv) (lB 29) (fL o0I o1I o2I o3I o4I o5I o6I o7I o8I o9I o10I o11I o12I o13I o14I o15I o16I (some (.str tl)) o18I o19I o20I) σ K:=by
 have e0:(((tl.filter (fun ch=>decide (104<ch))).map fun ch=>[ch]).flatten==(((List.range (ff+gg)).map fun k=>[if k*ff%(ff+gg)<gg then nr else fr])).flatten)=true:=by
  rw[flat_ones _ (fun ch=>ch),List.map_id'',hfin,flat_ones];simp
  intro x;rfl
 refine se_cons (s1_return (v:=.bool true) ?_ k)
 rw[←e0,←joinS_nil,←joinS_nil]
 have hfl:(tl.filter (fun ch=>decide (104<ch))).length≤30:=Nat.le_trans (List.length_filter_le _ _) hl30
 refine pe_cmp (pe_join (sep:=[]) (l:=(tl.filter (fun ch=>decide (104<ch))).map fun ch=>[ch]) (R:=fun v σ'=> ∃q,v= .ref q∧σ'=(q,isL (pvS ((tl.filter (fun ch=>decide (104<ch))).map fun ch=>[ch])))::σ) pe_str ((ge_comp (cl:=[]) (seqs_str (l:=tl)) (fun i zs σi=>zs=pvS (((tl.take i).filter (fun ch=>decide (104<ch))).map fun ch=>[ch])∧σi=σ) rfl O.hh rfl (by decide) rfl (by decide) rfl
   (it_str (pe_local Y mI17)) ⟨rfl,rfl⟩ (fun _ _ _ _ _=>trivial) (fun i zs σi hi h=> ?_) (fun I C D i zs σi hi h=> ?_)).mono fun v σ' r=> ?_) (fun v σ' r=>by obtain⟨q,rfl,rfl⟩:=r;exact⟨q,rfl,.head _,.cons _ (.refl _)⟩) ?_)
  (pe_joinC (sep:=[]) (l:=(List.range (ff+gg)).map fun k=>[if k*ff%(ff+gg)<gg then nr else fr]) pe_str (?_:NE prog w (lX fa c A L g os cdv) _ _ _ _) ?_) cm_eqs
 ·obtain⟨rfl,rfl⟩:=h
  rw[pvS_length,List.length_map]
  have:=List.length_filter_le (fun ch=>decide (104<ch)) (tl.take i)
  rw[List.length_take] at this
  omega
 ·obtain⟨rfl,rfl⟩:=h
  have ht:=filt_take tl (fun ch=>decide (104<ch)) i hi
  generalize tl.getD i 0=ch at*
  refine⟨decide (104<ch),ev_tests1 (by
   rw[←lt_one]
   exact be_cmp (pe_local (Lay.comp rfl rfl) (.head _)) (pe_str (x:="h")) cm_gts),fun hb=> ?_,fun hb=> ?_⟩
  ·rw[ht,hb];simp
  ·refine(ge_of_pe (pe_local (Lay.comp rfl rfl) (.head _))).mono fun v σ' r=> ?_
   obtain⟨rfl,rfl⟩:=r
   refine⟨_,⟨?_,rfl⟩,.refl _⟩
   rw[ht,hb]
   unfold pvS
   simp
 ·obtain⟨q,zs,σ₂,rfl,rfl,rfl,rfl⟩:=r
  exact⟨q,rfl,by rw[List.take_length]⟩
 ·have h1:=sum_le (l:=(tl.filter (fun ch=>decide (104<ch))).map fun ch=>[ch]) (m:=1) fun x hx=>by
   obtain⟨j,_,rfl⟩:=List.mem_map.mp hx
   simp
  rw[List.length_map] at h1
  simp only[List.length_nil,Nat.mul_zero,Nat.add_zero] at h1 ⊢
  omega
 ·have ep:pvS ((List.range (ff+gg)).map fun k=>[if k*ff%(ff+gg)<gg then nr else fr])=(List.range (ff+gg)).map fun k=>PV.str [if k*ff%(ff+gg)<gg then nr else fr]:=by unfold pvS;rw[List.map_map];rfl
  rw[ep]
  have es:(ff:Int)+(gg:Int)=((ff+gg:Nat):Int):=by omega
  refine ne_compR (cl:=[("near",c.near),("last",c.last),("first",c.first),("far",c.far)]) (a:=0) (b:=((ff+gg:Nat):Int)) (ff+gg) (by omega) (fun k=>.str [if k*ff%(ff+gg)<gg then nr else fr]) rfl O.hh rfl (by decide) rfl (by decide) rfl
   (it_range1 (xe_built O rfl G.range.1 G.range.2) (by rw[←es];exact pe_add (pe_cell (c:=c.first) rfl rfl rfl hfst) (pe_cell (c:=c.last) rfl rfl rfl hlst)) (small_up (by omega) (by omega) (by omega) (by omega))) (by omega) (fun C σ₁ i hi hm=> ?_)
  rw[Int.zero_add]
  have em:((i:Int)*(ff:Int)).fmod ((ff:Int)+(gg:Int))=((i*ff%(ff+gg):Nat):Int):=by
   rw[es,←fmod_nat _ _ (by omega)];simp
  refine pe_if (c:=decide (((i*ff%(ff+gg):Nat):Int)<(gg:Int))) (by
   rw[←em]
   exact be_cmp (pe_mod (pe_mul (pe_local (Lay.comp rfl rfl) (.head _)) (pe_cell (c:=c.first) rfl rfl rfl (hm _ (.tail _ hfst))) (mulOk (by omega))) (pe_add (pe_cell (c:=c.first) rfl rfl rfl (hm _ (.tail _ hfst))) (pe_cell (c:=c.last) rfl rfl rfl (hm _ (.tail _ hlst)))) (by omega)) (pe_cell (c:=c.last) rfl rfl rfl (hm _ (.tail _ hlst))) cm_lt) (fun h=> ?_) (fun h=> ?_)
  ·have h:i*ff%(ff+gg)<gg:=by have:=of_decide_eq_true h;omega
   rw[if_pos h]
   exact pe_cell (c:=c.near) rfl rfl rfl (hm _ (.tail _ hnr))
  ·have h: ¬i*ff%(ff+gg)<gg:=by have:=of_decide_eq_false h;omega
   rw[if_neg h]
   exact pe_cell (c:=c.far) rfl rfl rfl (hm _ (.tail _ hfar))
 ·have h1:=sum_le (l:=(List.range (ff+gg)).map fun k=>[if k*ff%(ff+gg)<gg then nr else fr]) (m:=1) fun x hx=>by
   obtain⟨j,_,rfl⟩:=List.mem_map.mp hx
   simp
  rw[List.length_map,List.length_range] at h1
  simp only[List.length_map,List.length_range,List.length_nil,Nat.mul_zero,Nat.add_zero] at h1 ⊢
  omega
end
end Mine
end
section
set_option maxRecDepth 100000
set_option maxHeartbeats 4000000
open PySem PySem.W PyProof.Rows PySem.Calls
namespace Mine
noncomputable def ren (nr fr x:Nat):Nat:=if x=200 then nr else if x=201 then fr else x
noncomputable def lineS (n f g nr fr:Nat):List Nat:=(codeS n f g).map (ren nr fr)
theorem atL1 (x:List Nat) (c i:Nat) (h:i<x.length):atL x [c] i=(x.getD i 0==c):=by
 unfold atL
 rw[List.drop_eq_getElem_cons h,List.getD_eq_getElem?_getD,List.getElem?_eq_getElem h]
 show ((x[i]==c)&&true)=(x[i]==c)
 rw[Bool.and_true]
theorem fnd_at {x:List Nat}{c p lo hi:Nat}(hp:p<x.length) (h: ∀i,i<x.length→(x.getD i 0==c)=(i==p)) (hh:hi≤x.length):fnd x [c] lo hi=if lo≤p∧p<hi then (p:Int) else-1:=by
 rcases fnd_spec x [c] lo hi with ⟨e,hno⟩ | ⟨q,e,h1,h2,h3,_⟩
 ·rw[e,if_neg]
  rintro ⟨a,b⟩
  have:=hno p a (by show p+1≤hi;omega)
  rw[atL1 x c p hp,h p hp] at this
  simp at this
 ·have h2':q+1≤hi:=h2
  rw[atL1 x c q (by omega),h q (by omega)] at h3
  have:q=p:=beq_iff_eq.mp h3
  subst this
  rw[e,if_pos ⟨h1,by omega⟩]
theorem pre1 (x:List Nat) (c:Nat) (h:0<x.length):([c]:List Nat).isPrefixOf x=(x.getD 0 0==c):=by
 cases x with
 | nil=>simp at h
 | cons y r=>
  show ((c==y)&&true)=(y==c)
  rw[Bool.and_true,Bool.eq_iff_iff,beq_iff_eq,beq_iff_eq];exact eq_comm
theorem go_one {x:List Nat}{c s e:Nat}{r:List (List Nat)}:ellGo x ([c]::r) s e=if fnd x [c] s e<0 then false else ellGo x r ((fnd x [c] s e).toNat+1) e:=rfl
section
variable {n f g nr fr:Nat}{lt:Nat→Nat→Bool}(H:Three n f g lt) (hn:105≤nr∧nr≤119) (hf:105≤fr∧fr≤119) (hne:nr≠fr)
include H hn hf hne
theorem line_len:(lineS n f g nr fr).length=(codeS n f g).length:=by unfold lineS;rw[List.length_map]
theorem line_get {i:Nat}(h:i<(codeS n f g).length):(lineS n f g nr fr).getD i 0=ren nr fr ((codeS n f g).getD i 0):=by
 unfold lineS
 rw[List.getD_eq_getElem?_getD,List.getElem?_map,List.getElem?_eq_getElem h,List.getD_eq_getElem?_getD,List.getElem?_eq_getElem h];rfl
theorem line_pos {j:Nat}(hj:j<n): ∀i,i<(codeS n f g).length→((lineS n f g nr fr).getD i 0==97+j)=(i==posS (codeS n f g) j):=by
 intro i hi
 rw[←(H.pos j hj).2 i hi,line_get H hn hf hne hi]
 have h8:=H.n8
 have hl:=H.let' _ (getD_memL (l:=codeS n f g) (d:=0) hi)
 generalize (codeS n f g).getD i 0=x at hl ⊢
 unfold ren
 rw[Bool.eq_iff_iff,beq_iff_eq,beq_iff_eq]
 rcases hl with h | rfl | rfl
 ·rw[if_neg (by omega),if_neg (by omega)]
 ·rw[if_pos rfl];omega
 ·rw[if_neg (by decide),if_pos rfl];omega
theorem line_fnd {j:Nat}(hj:j<n) {lo hi:Nat}(hh:hi≤(codeS n f g).length):fnd (lineS n f g nr fr) [97+j] lo hi=if lo≤posS (codeS n f g) j∧posS (codeS n f g) j<hi then (posS (codeS n f g) j:Int) else-1:=by
 have e:=line_len H hn hf hne
 refine fnd_at (by rw[e];exact(H.pos j hj).1) (fun i hi=>line_pos H hn hf hne hj i (by rw[←e];exact hi)) (by rw[e];exact hh)
theorem line_drop:(lineS n f g nr fr).drop ((codeS n f g).length-2)=[97+g,fr]:=by
 have h8:=H.n8
 have hg:=H.hg
 unfold lineS
 rw[←List.map_drop,H.tail]
 show [ren nr fr (97+g),ren nr fr 201]=_
 unfold ren
 rw[if_neg (by omega),if_neg (by omega),if_neg (by decide),if_pos rfl]
theorem line_suf (y:List Nat) (hy:y.length=2):y.isSuffixOf (lineS n f g nr fr)=(y==[97+g,fr]):=by
 have hd:=line_drop H hn hf hne
 have e:=line_len H hn hf hne
 have hl:=H.len
 rw[Bool.eq_iff_iff,List.isSuffixOf_iff_suffix,beq_iff_eq]
 constructor
 ·rintro ⟨t,ht⟩
  have:t.length=(codeS n f g).length-2:=by
   have:=congrArg List.length ht
   rw[List.length_append,e,hy] at this;omega
  rw[←hd,←ht,←this,List.drop_left]
 ·rintro rfl
  exact⟨(lineS n f g nr fr).take ((codeS n f g).length-2),by rw[←hd,List.take_append_drop]⟩
theorem line_head:(lineS n f g nr fr).getD 0 0=97∧(lineS n f g nr fr).getD 1 0=nr:=by
 have hl:=H.len
 rw[line_get H hn hf hne (by omega),line_get H hn hf hne (by omega),H.head.1,H.head.2]
 exact⟨rfl,rfl⟩
theorem points_ok:PointsQ n g fr lt (lineS n f g nr fr):=by
 have e:=line_len H hn hf hne
 have hl:=H.len
 have hh:=line_head H hn hf hne
 have h8:=H.n8
 have hg:=H.hg
 refine⟨fun j hj=> ?_,fun j hj=> ?_,fun j hj=> ?_,fun j k hjk hk=> ?_⟩
 ·have hp:=pre1 (lineS n f g nr fr) (97+j) (by omega)
  rw[hh.1] at hp
  cases q:(j==0) with
  | true=>
   have hp:([97+j]:List Nat).isPrefixOf (lineS n f g nr fr)=true:=by rw[hp];have:=beq_iff_eq.mp q;subst this;rfl
   rw[ellP_ok (ps:=[[97+j],[]]) (by simp) (by simp) hp]
   show ellEnd _ [[]] 1=true
   rw[ellEnd_nil rfl,if_neg (by omega),go_nil (by omega)];rfl
  | false=>
   have hp:([97+j]:List Nat).isPrefixOf (lineS n f g nr fr)=false:=by
    rw[hp];have:=beq_eq_false_iff_ne.mp q
    exact beq_eq_false_iff_ne.mpr (by omega)
   exact ellP_no (ps:=[[97+j],[]]) (by simp) (by simp) hp
 ·rw[ellP_nil (ps:=[[],[97+j,fr]]) (by simp) rfl]
  show ellEnd _ [[],[97+j,fr]] 0=_
  have hs:=line_suf H hn hf hne [97+j,fr] rfl
  cases q:(j==g) with
  | true=>
   have hs:([97+j,fr]:List Nat).isSuffixOf (lineS n f g nr fr)=true:=by rw[hs];have:=beq_iff_eq.mp q;subst this;simp
   rw[ellEnd_ok (ws:=[[],[97+j,fr]]) (by simp) hs]
   show (if (lineS n f g nr fr).length-2<0 then false else ellGo (lineS n f g nr fr) [[]] 0 ((lineS n f g nr fr).length-2))=true
   rw[if_neg (by omega),go_nil (by omega)];rfl
  | false=>
   have hs:([97+j,fr]:List Nat).isSuffixOf (lineS n f g nr fr)=false:=by
    rw[hs];have:=beq_eq_false_iff_ne.mp q
    refine beq_eq_false_iff_ne.mpr fun h=> ?_
    have:=(List.cons.inj h).1;omega
   exact ellEnd_no (ws:=[[],[97+j,fr]]) (by simp) hs
 ·have hp:=pre1 (lineS n f g nr fr) 97 (by omega)
  rw[hh.1] at hp
  rw[ellP_ok (ps:=[[97],[97+j],[97+g,fr]]) (by simp) (by simp) hp]
  show ellEnd _ [[97+j],[97+g,fr]] 1=_
  have hs:([97+g,fr]:List Nat).isSuffixOf (lineS n f g nr fr)=true:=by rw[line_suf H hn hf hne _ rfl];simp
  rw[ellEnd_ok (ws:=[[97+j],[97+g,fr]]) (by simp) hs]
  show (if (lineS n f g nr fr).length-2<1 then false else ellGo (lineS n f g nr fr) [[97+j]] 1 ((lineS n f g nr fr).length-2))=_
  rw[if_neg (by omega),go_one,line_fnd H hn hf hne hj (by omega),←H.mid j hj,e]
  by_cases q:1≤posS (codeS n f g) j∧posS (codeS n f g) j<(codeS n f g).length-2
  ·rw[if_pos q,if_neg (by omega),decide_eq_true q.1,decide_eq_true (by omega)];rfl
  ·rw[if_neg q,if_pos (by decide)]
   by_cases q1:1≤posS (codeS n f g) j
   ·rw[decide_eq_true q1,decide_eq_false (by omega)];rfl
   ·rw[decide_eq_false q1];rfl
 ·rw[ellP_nil (ps:=[[],[97+j],[97+k],[]]) (by simp) rfl]
  show ellEnd _ [[],[97+j],[97+k],[]] 0=_
  have pj:=(H.pos j (by omega)).1
  have pk:=(H.pos k hk).1
  have fj:fnd (lineS n f g nr fr) [97+j] 0 (lineS n f g nr fr).length=(posS (codeS n f g) j:Int):=by
   rw[line_fnd H hn hf hne (show j<n by omega) (by omega),if_pos ⟨Nat.zero_le _,by omega⟩]
  rw[ellEnd_nil rfl,if_neg (by omega),go_nil (by omega),go_one,fj,if_neg (by omega),Int.toNat_natCast,go_one,line_fnd H hn hf hne hk (by omega),←H.ord j (by omega) k hk hjk]
  by_cases q:posS (codeS n f g) j<posS (codeS n f g) k
  ·rw[if_pos (show posS (codeS n f g) j+1≤posS (codeS n f g) k∧posS (codeS n f g) k<(lineS n f g nr fr).length from ⟨by omega,by omega⟩),if_neg (by omega),decide_eq_true q,Int.toNat_natCast,go_nil (by omega)];rfl
  ·rw[if_neg (show ¬(posS (codeS n f g) j+1≤posS (codeS n f g) k∧posS (codeS n f g) k<(lineS n f g nr fr).length) from fun h=>by omega),if_pos (by decide),decide_eq_false q]
theorem line_fin:(lineS n f g nr fr).filter (fun ch=>decide (104<ch))=(List.range (f+g)).map fun k=>if k*f%(f+g)<g then nr else fr:=by
 unfold lineS
 have h8:=H.n8
 rw[List.filter_map]
 have e:(codeS n f g).filter ((fun ch=>decide (104<ch))∘ren nr fr)=(codeS n f g).filter (fun ch=>decide (104<ch)):=by
  refine List.filter_congr fun x hx=> ?_
  show decide (104<ren nr fr x)=decide (104<x)
  have hl:=H.let' x hx
  unfold ren
  rcases hl with h | rfl | rfl
  ·rw[if_neg (by omega),if_neg (by omega)]
  ·rw[if_pos rfl,decide_eq_true (by omega)];rfl
  ·rw[if_neg (by decide),if_pos rfl,decide_eq_true (by omega)];rfl
 rw[e,H.chris]
 unfold chrisS
 rw[List.map_map]
 refine List.map_congr_left fun k _=> ?_
 show ren nr fr (if k*f%(f+g)<g then 200 else 201)=_
 by_cases q:k*f%(f+g)<g
 ·rw[if_pos q,if_pos q];rfl
 ·rw[if_neg q,if_neg q];rfl
theorem line_ok:LineQ fr (lineS n f g nr fr):=by
 have e:=line_len H hn hf hne
 have hl:=H.len
 have hh:=line_head H hn hf hne
 have h8:=H.n8
 have hg:=H.hg
 have hd:=line_drop H hn hf hne
 have hlast:lastN (lineS n f g nr fr)=fr:=by
  unfold lastN
  have:((lineS n f g nr fr).drop ((codeS n f g).length-2))[1]? =some fr:=by rw[hd];rfl
  rw[List.getElem?_drop] at this
  rw[List.getD_eq_getElem?_getD,e,show (codeS n f g).length-1=(codeS n f g).length-2+1 by omega,this];rfl
 have hlet: ∀ch∈lineS n f g nr fr,97≤ch∧ch≤122:=by
  intro ch hch
  obtain⟨x,hx,rfl⟩:=List.mem_map.mp hch
  have hl:=H.let' x hx
  unfold ren
  rcases hl with h | rfl | rfl
  ·rw[if_neg (by omega),if_neg (by omega)];omega
  ·rw[if_pos rfl];omega
  ·rw[if_neg (by decide),if_pos rfl];omega
 have hsl:=line_suf H hn hf hne
 rw[←e] at hl
 clear e hd
 generalize lineS n f g nr fr=tl at*
 refine⟨hl,hlet,hf,?_⟩
 have hne':tl≠[]:=by intro e;subst e;simp at hl
 have hlst:tl=tl.dropLast++[lastN tl]:=by
  have e:lastN tl=tl.getLast hne':=by
   unfold lastN
   rw[List.getLast_eq_getElem,List.getD_eq_getElem?_getD,List.getElem?_eq_getElem (by omega)];rfl
  rw[e,List.dropLast_concat_getLast]
 have hdl:tl.dropLast.length=tl.length-1:=by rw[List.length_dropLast]
 have pre: ∀x:List Nat,x <+: tl→x.isPrefixOf tl=true:=fun x h=>List.isPrefixOf_iff_prefix.mpr h
 have suf: ∀x:List Nat,x <:+ tl→x.isSuffixOf tl=true:=fun x h=>List.isSuffixOf_iff_suffix.mpr h
 have single: ∀x:List Nat,ellP [x] tl=(x==tl):=fun x=>rfl
 have slast:([lastN tl]:List Nat).isSuffixOf tl=true:=suf _ ⟨tl.dropLast,hlst.symm⟩
 intro k hk
 match k,hk with
 | 0,_=>show ellP [tl] tl=true;rw[single];simp
 | 1,_=>
  show ellP [tl.take 2,tl.drop 2] tl=true
  have h1:tl.take 2≠[]:=by intro e;have:=congrArg List.length e;rw[List.length_take,List.length_nil] at this;omega
  have h2:tl.drop 2≠[]:=by intro e;have:=congrArg List.length e;rw[List.length_drop,List.length_nil] at this;omega
  rw[ellP_ok (ps:=[tl.take 2,tl.drop 2]) (by simp) (by exact h1) (by exact pre _ (List.take_prefix _ _))]
  show ellEnd tl [tl.drop 2] (tl.take 2).length=true
  rw[ellEnd_ok (ws:=[tl.drop 2]) (by exact h2) (by exact suf _ (List.drop_suffix _ _))]
  show (if tl.length-(tl.drop 2).length<(tl.take 2).length then false else ellGo tl [] (tl.take 2).length (tl.length-(tl.drop 2).length))=true
  rw[List.length_drop,List.length_take,if_neg (by omega)];rfl
 | 2,_=>
  show ellP [tl.drop 1] tl=false
  rw[single]
  refine beq_eq_false_iff_ne.mpr fun e=> ?_
  have:=congrArg List.length e;rw[List.length_drop] at this;omega
 | 3,_=>
  show ellP [tl.dropLast] tl=false
  rw[single]
  refine beq_eq_false_iff_ne.mpr fun e=> ?_
  have:=congrArg List.length e;omega
 | 4,_=>
  show ellP [tl.dropLast++[fr-32]] tl=false
  rw[single]
  refine beq_eq_false_iff_ne.mpr fun e=> ?_
  have:tl.dropLast++[fr-32]=tl.dropLast++[lastN tl]:=e.trans hlst
  have:=List.append_cancel_left this
  have:=List.cons.inj this
  omega
 | 5,_=>
  show ellP [[97,fr],[]] tl=false
  refine ellP_no (ps:=[[97,fr],[]]) (by simp) (by simp) ?_
  match tl,hh with
  | [],h=>cases h.1
  | [x],h=>have:=h.2;simp at this;omega
  | x::y::r,h=>
   have h1:x=97:=h.1
   have h2:y=nr:=h.2
   subst h1;subst h2
   show ([97,fr]:List Nat).isPrefixOf (97::y::r)=false
   simp only[List.isPrefixOf,beq_self_eq_true,Bool.true_and]
   rw[beq_eq_false_iff_ne.mpr (Ne.symm hne)];rfl
 | 6,_=>
  show ellP [tl,[lastN tl]] tl=false
  rw[ellP_ok (ps:=[tl,[lastN tl]]) (by simp) (by exact hne') (by exact pre _ ⟨[],by simp⟩)]
  show ellEnd tl [[lastN tl]] tl.length=false
  rw[ellEnd_ok (ws:=[[lastN tl]]) (by simp) (by exact slast)]
  show (if tl.length-1<tl.length then false else _)=false
  rw[if_pos (by omega)]
 | 7,_=>
  show ellP [[],tl.dropLast,tl.drop (tl.length-2),[]] tl=false
  rw[ellP_nil (ps:=[[],tl.dropLast,tl.drop (tl.length-2),[]]) (by simp) rfl]
  show ellEnd tl [[],tl.dropLast,tl.drop (tl.length-2),[]] 0=false
  rw[ellEnd_nil rfl,if_neg (by omega),go_nil (by omega),ellGo]
  have hd2:(tl.drop (tl.length-2)).length=2:=by rw[List.length_drop];omega
  rcases fnd_spec tl tl.dropLast 0 tl.length with ⟨e,_⟩ | ⟨p,e,_,h2,_,_⟩
  ·rw[e,if_pos (by decide)]
  ·rw[e,if_neg (by omega),Int.toNat_natCast,ellGo]
   rcases fnd_spec tl (tl.drop (tl.length-2)) (p+tl.dropLast.length) tl.length with ⟨e2,_⟩ | ⟨q,_,h3,h4,_,_⟩
   ·rw[e2,if_pos (by decide)]
   ·exfalso;omega
 | 8,_=>
  show ellP [[],tl.drop 1,[lastN tl]] tl=false
  rw[ellP_nil (ps:=[[],tl.drop 1,[lastN tl]]) (by simp) rfl]
  show ellEnd tl [[],tl.drop 1,[lastN tl]] 0=false
  rw[ellEnd_ok (ws:=[[],tl.drop 1,[lastN tl]]) (by simp) (by exact slast)]
  show (if tl.length-1<0 then false else ellGo tl [[],tl.drop 1] 0 (tl.length-1))=false
  rw[if_neg (by omega),go_nil (by omega),ellGo]
  have hd1:(tl.drop 1).length=tl.length-1:=by rw[List.length_drop]
  rcases fnd_spec tl (tl.drop 1) 0 (tl.length-1) with ⟨e,_⟩ | ⟨p,e,_,h2,h3,_⟩
  ·rw[e,if_pos (by decide)]
  ·exfalso
   have hp:p=0:=by omega
   subst hp
   unfold atL at h3
   have h3:=beq_iff_eq.mp h3
   rw[List.drop_zero] at h3
   have:(tl.take (tl.drop 1).length)[0]? =(tl.drop 1)[0]? :=by rw[h3]
   rw[List.getElem?_take_of_lt (by omega),List.getElem?_drop] at this
   have h0:=hh.1
   have h1:=hh.2
   rw[List.getD_eq_getElem?_getD] at h0 h1
   rw[this] at h0
   rw[h0] at h1
   omega
end
end Mine
end
section
set_option maxRecDepth 100000
set_option maxHeartbeats 4000000
open PySem PySem.W PyProof.Rows PySem.Calls
namespace Mine
noncomputable def leP (x y:Int×Int):Prop:=x.1<y.1∨(x.1=y.1∧x.2≤y.2)
theorem leP_trans {x y z:Int×Int}(h:leP x y) (h':leP y z):leP x z:=by unfold leP at*;omega
theorem stepV_le (b t:Int×Int):leP b (stepV b t)∧leP t (stepV b t):=by
 unfold stepV
 cases h:gt2 t.1 t.2 b.1 b.2 with
 | true=>
  rw[if_pos rfl]
  refine⟨?_,.inr ⟨rfl,Int.le_refl _⟩⟩
  unfold gt2 at h
  by_cases e:t.1=b.1
  ·rw[if_pos (beq_iff_eq.mpr e)] at h
   by_cases e2:t.2=b.2
   ·rw[if_pos (beq_iff_eq.mpr e2)] at h;cases h
   ·rw[if_neg (fun q=>e2 (beq_iff_eq.mp q))] at h
    exact .inr ⟨e.symm,Int.le_of_lt (of_decide_eq_true h)⟩
  ·rw[if_neg (fun q=>e (beq_iff_eq.mp q))] at h
   exact .inl (of_decide_eq_true h)
 | false=>
  rw[if_neg (by decide)]
  refine⟨.inr ⟨rfl,Int.le_refl _⟩,?_⟩
  unfold gt2 at h
  by_cases e:t.1=b.1
  ·rw[if_pos (beq_iff_eq.mpr e)] at h
   by_cases e2:t.2=b.2
   ·exact .inr ⟨e,Int.le_of_eq e2⟩
   ·rw[if_neg (fun q=>e2 (beq_iff_eq.mp q))] at h
    exact .inr ⟨e,Int.not_lt.mp (of_decide_eq_false h)⟩
  ·rw[if_neg (fun q=>e (beq_iff_eq.mp q))] at h
   have:=of_decide_eq_false h
   exact .inl (by omega)
theorem foldV_le: ∀(l:List (Int×Int)) (b:Int×Int),leP b (l.foldl stepV b)∧ ∀x∈l,leP x (l.foldl stepV b)
 | [],b=>⟨.inr ⟨rfl,Int.le_refl _⟩,fun x h=>by cases h⟩
 | t::l,b=>by
  obtain⟨h1,h2⟩:=foldV_le l (stepV b t)
  obtain⟨s1,s2⟩:=stepV_le b t
  refine⟨leP_trans s1 h1,fun x hx=> ?_⟩
  rcases List.mem_cons.mp hx with rfl | hx
  ·exact leP_trans s2 h1
  ·exact h2 x hx
theorem bestV_le {l:List (Int×Int)}{x:Int×Int}(h:x∈l):leP x (bestV l):=by
 cases l with
 | nil=>cases h
 | cons t l=>
  rcases List.mem_cons.mp h with rfl | h
  ·exact(foldV_le l x).1
  ·exact(foldV_le l t).2 x h
theorem findI_none {ts:List Pr}{ch:Nat}: ∀m,(∀i,i<m→hitP ts ch (i+1)=false)→findI ts ch m=none
 | 0,_=>rfl
 | m+1,h=>by rw[findI,h m (by omega),if_neg (by decide),findI_none m fun i hi=>h i (by omega)]
theorem findI_some {ts:List Pr}{ch j:Nat}(hj:hitP ts ch (j+1)=true): ∀m,j<m→(∀i,j<i→i<m→hitP ts ch (i+1)=false)→findI ts ch m=some (j+1)
 | 0,h,_=>absurd h (by omega)
 | m+1,h,hn=>by
  rw[findI]
  by_cases e:j=m
  ·subst e;rw[hj,if_pos rfl]
  ·rw[hn m (by omega) (by omega),if_neg (by decide),findI_some hj m (by omega) fun i h1 h2=>hn i h1 (by omega)]
namespace Dt
variable {d:Dt}(H:d.Ok)
include H
theorem kd_lt (k:Nat):d.kd k<3:=by
 unfold kd kindS
 split
 ·decide
 ·split<;>decide
theorem gap0_ok:TypedOk d.fr (d.gap 0):=typed_ok (by have:=H.pair.hf;omega) (by have:=H.pair.hf;omega)
theorem gap1_ok:TypedOk d.nr (d.gap 1):=typed_ok (by have:=H.pair.hn;omega) (by have:=H.pair.hn;omega)
theorem gap2:d.gap 2=d.bo:=rfl
theorem gap_ne01:d.gap 0≠d.gap 1:=fun e=>by
 have h0:=(gap0_ok H).fold
 have h1:=(gap1_ok H).fold
 rw[e,h1] at h0
 exact H.pair.ne (List.cons.inj h0).1
theorem gap_neb {j:Nat}(hj:j<2):d.gap j≠d.bo:=fun e=>by
 have hb:=H.pair.hb
 match j,hj with
 | 0,_=>have:=(gap0_ok H).rng;rw[e] at this;omega
 | 1,_=>have:=(gap1_ok H).rng;rw[e] at this;omega
theorem gap_ne32 (k:Nat):d.gap (d.kd k)≠32:=by
 have hb:=H.pair.hb
 have hk:=kd_lt H k
 match h:d.kd k,hk with
 | 0,_=>have:=(gap0_ok H).n32;omega
 | 1,_=>have:=(gap1_ok H).n32;omega
 | 2,_=>rw[gap2 H];omega
theorem gap_eq {k v:Nat}(hv:v<3):(d.gap (d.kd k)==d.gap v)=(d.kd k==v):=by
 have hk:=kd_lt H k
 have h01:=gap_ne01 H
 have h0:=gap_neb H (show 0<2 by decide)
 have h1:=gap_neb H (show 1<2 by decide)
 have h2:=gap2 H
 rw[Bool.eq_iff_iff,beq_iff_eq,beq_iff_eq]
 refine⟨fun e=> ?_,fun e=>by rw[e]⟩
 generalize d.kd k=kk at*
 match kk,hk,v,hv with
 | 0,_,0,_=>rfl
 | 1,_,1,_=>rfl
 | 2,_,2,_=>rfl
 | 0,_,1,_=>exact absurd e h01
 | 1,_,0,_=>exact absurd e.symm h01
 | 0,_,2,_=>exact absurd (e.trans h2) h0
 | 2,_,0,_=>exact absurd (e.symm.trans h2) h0
 | 1,_,2,_=>exact absurd (e.trans h2) h1
 | 2,_,1,_=>exact absurd (e.symm.trans h2) h1
noncomputable def prs (d:Dt) (b m:Nat):List Pr:=(List.range m).map fun i=>(d.lead (b+i),d.piece (b+i))
omit H in
theorem prs_get {b m i:Nat}(h:i<m):(d.prs b m).getD i ([],[])=(d.lead (b+i),d.piece (b+i)):=by
 unfold prs
 rw[List.getD_eq_getElem?_getD,List.getElem?_map,List.getElem?_range h];rfl
omit H in
theorem piece_last (k:Nat):(d.piece k).getLast? =some (d.gap (d.kd k)):=by
 unfold piece
 rw[List.getLast?_append];rfl
theorem hit_is {b m i ch:Nat}(hi:i+1<m):hitP (d.prs b m) ch (i+1)=((Txt.isspace (Mine.mk [ch])&&(d.lead (b+(i+1))).head? ==some ch)||d.gap (d.kd (b+i))==ch):=by
 unfold hitP
 rw[prs_get hi,Nat.add_sub_cancel,prs_get (show i<m by omega)]
 show (_||(d.piece (b+i)).getLast? ==some ch)=_
 rw[piece_last]
 congr 1
theorem hit_v {b m i v:Nat}(hv:v<3) (hi:i+1<m):hitP (d.prs b m) (d.gap v) (i+1)=(d.kd (b+i)==v):=by
 rw[hit_is H hi,gap_eq H hv]
 have:Txt.isspace (Mine.mk [d.gap v])=false:=by
  match v,hv with
  | 0,_=>exact(gap0_ok H).nosp
  | 1,_=>exact(gap1_ok H).nosp
  | 2,_=>rw[gap2 H];exact H.pair.nosp
 rw[this,Bool.false_and,Bool.false_or]
theorem hit_sp {b m i:Nat}(hi:i+1<m):hitP (d.prs b m) 32 (i+1)= !(d.lead (b+(i+1))).isEmpty:=by
 rw[hit_is H hi,show Txt.isspace (Mine.mk [32])=true by decide+kernel,Bool.true_and,beq_eq_false_iff_ne.mpr (gap_ne32 H _),Bool.or_false]
 have: ∀x∈d.lead (b+(i+1)),x=32:=fun x hx=>List.eq_of_mem_replicate hx
 cases q:d.lead (b+(i+1)) with
 | nil=>rfl
 | cons x r=>rw[q] at this;rw[this x (.head _)];rfl
theorem findC_is {b k:Nat}(hb:b<k):findC (d.prs b (k+1-b)) d.spG=some (d.cutG b k-b):=by
 obtain⟨c1,c2,c3⟩:=d.cutG_is hb
 obtain⟨m,hm⟩: ∃m,m=k-b:=⟨_,rfl⟩
 obtain⟨j,hj⟩: ∃j,d.cutG b k=b+1+j:=⟨d.cutG b k-b-1,by omega⟩
 have hjm:j<m:=by omega
 have hbest:=bestV_mem (d.keysG b k) (by unfold keysG;intro e;have:=congrArg List.length e;simp at this;omega)
 have hV:(bestV (d.keysG b k)).1=d.keyG (b+1+j):=by
  unfold keysG at hbest
  obtain⟨i,hi,e⟩:=List.mem_map.mp hbest
  have e':(d.keyG (b+1+i),((b+1+i:Nat):Int))=bestV (d.keysG b k):=e
  rw[←e'] at c1 ⊢
  have:b+1+i=b+1+j:=by have:((b+1+i:Nat):Int)=(d.cutG b k:Nat):=c1;omega
  show d.keyG (b+1+i)=_
  rw[this]
 have hmax: ∀i,i<m→d.keyG (b+1+i)<d.keyG (b+1+j)∨(d.keyG (b+1+i)=d.keyG (b+1+j)∧i≤j):=by
  intro i hi
  have hmem:(d.keyG (b+1+i),((b+1+i:Nat):Int))∈d.keysG b k:=List.mem_map.mpr ⟨i,List.mem_range.mpr (by omega),rfl⟩
  have:=bestV_le hmem
  unfold leP at this
  rw[hV,c1,hj] at this
  dsimp only at this
  rcases this with h | ⟨h,h'⟩
  ·exact .inl h
  ·exact .inr ⟨h,by omega⟩
 have key: ∀i,d.keyG (b+1+i)=if d.kd (b+i)=2 then 3 else if d.lead (b+(i+1))=[] then (d.kd (b+i):Int) else 2:=by
  intro i
  unfold keyG
  rw[show b+1+i-1=b+i by omega,show b+1+i=b+(i+1) by omega]
 have hkd: ∀i,d.kd (b+i)<3:=fun i=>kd_lt H _
 have hlen:(d.prs b (k+1-b)).length-1=m:=by unfold prs;rw[List.length_map,List.length_range];omega
 have hv:=fun (v i:Nat) (hv:v<3) (hi:i<m)=>hit_v H (b:=b) (m:=k+1-b) (i:=i) hv (by omega)
 have hs:=fun (i:Nat) (hi:i<m)=>hit_sp H (b:=b) (m:=k+1-b) (i:=i) (by omega)
 have hcut:d.cutG b k-b=j+1:=by omega
 rw[hcut]
 unfold spG
 rw[←gap2 H]
 generalize d.prs b (k+1-b)=ts at*
 have kj:=key j
 have kd_j:=hkd j
 by_cases q2:d.kd (b+j)=2
 ·rw[if_pos q2] at kj
  rw[findC,hlen,findI_some (j:=j) (by rw[hv 2 j (by decide) hjm,q2];rfl) m hjm fun i h1 h2=> ?_]
  rw[hv 2 i (by decide) h2]
  refine beq_eq_false_iff_ne.mpr fun e=> ?_
  have ki:=key i
  rw[if_pos e] at ki
  have:=hmax i h2
  omega
 ·rw[if_neg q2] at kj
  have no2: ∀i,i<m→d.kd (b+i)≠2:=fun i hi e=>by
   have ki:=key i
   rw[if_pos e] at ki
   have:=hmax i hi
   by_cases ql:d.lead (b+(j+1))=[]
   ·rw[if_pos ql] at kj;omega
   ·rw[if_neg ql] at kj;omega
  rw[findC,hlen,findI_none m fun i hi=>by rw[hv 2 i (by decide) hi];exact beq_eq_false_iff_ne.mpr (no2 i hi)]
  show findC ts [32,d.gap 1,d.gap 0]=_
  by_cases ql:d.lead (b+(j+1))=[]
  ·rw[if_pos ql] at kj
   have noL: ∀i,i<m→d.lead (b+(i+1))=[]:=fun i hi=>by
    by_cases e:d.lead (b+(i+1))=[]
    ·exact e
    ·exfalso
     have ki:=key i
     rw[if_neg (no2 i hi),if_neg e] at ki
     have:=hmax i hi
     omega
   rw[findC,hlen,findI_none m fun i hi=>by rw[hs i hi,noL i hi];rfl]
   show findC ts [d.gap 1,d.gap 0]=_
   have kk: ∀i,i<m→d.keyG (b+1+i)=(d.kd (b+i):Int):=fun i hi=>by rw[key i,if_neg (no2 i hi),if_pos (noL i hi)]
   by_cases q1:d.kd (b+j)=1
   ·rw[findC,hlen,findI_some (j:=j) (by rw[hv 1 j (by decide) hjm,q1];rfl) m hjm fun i h1 h2=> ?_]
    rw[hv 1 i (by decide) h2]
    refine beq_eq_false_iff_ne.mpr fun e=> ?_
    have:=hmax i h2
    rw[kk i h2,kk j hjm] at this
    omega
   ·have no1: ∀i,i<m→d.kd (b+i)≠1:=fun i hi e=>by
     have:=hmax i hi
     rw[kk i hi,kk j hjm] at this
     omega
    rw[findC,hlen,findI_none m fun i hi=>by rw[hv 1 i (by decide) hi];exact beq_eq_false_iff_ne.mpr (no1 i hi)]
    show findC ts [d.gap 0]=_
    rw[findC,hlen,findI_some (j:=j) (by rw[hv 0 j (by decide) hjm];exact beq_iff_eq.mpr (by omega)) m hjm fun i h1 h2=> ?_]
    rw[hv 0 i (by decide) h2]
    refine beq_eq_false_iff_ne.mpr fun e=> ?_
    have:=hmax i h2
    rw[kk i h2,kk j hjm] at this
    omega
  ·rw[if_neg ql] at kj
   rw[findC,hlen,findI_some (j:=j) (by rw[hs j hjm];cases q:d.lead (b+(j+1)) with | nil=>exact absurd q ql | cons _ _=>rfl) m hjm fun i h1 h2=> ?_]
   rw[hs i h2]
   have ki:=key i
   rw[if_neg (no2 i h2)] at ki
   by_cases e:d.lead (b+(i+1))=[]
   ·rw[e];rfl
   ·rw[if_neg e] at ki
    have:=hmax i h2
    omega
end Dt
end Mine
end
section
set_option maxRecDepth 100000
set_option maxHeartbeats 4000000
open PySem PySem.W PyProof.Rows PySem.Calls
namespace Mine
namespace Dt
variable {d:Dt}
structure Side (d:Dt) (k:Nat):Prop where
 b:(d.ruleG k).2≤k∧(k=0∨(d.ruleG k).2<k)
 l:(d.fmG k).1=(d.ruleG k).1
 z:(d.fmG k).2.2=0
 t:(d.fmG k).2.1=d.prs (d.ruleG k).2 (k-(d.ruleG k).2)
 rl:(d.ruleG k).1.length≤k
 rs: ∀x∈(d.ruleG k).1,x.length≤40
 fl:(d.ruleG k).1.flatten=d.joinLP 0 (d.ruleG k).2
theorem prs_len (b m:Nat):(d.prs b m).length=m:=by unfold prs;rw[List.length_map,List.length_range]
theorem prs_cat (b m:Nat):tS (d.prs b m)=((List.range m).map fun i=>d.lp (b+i)).flatten:=by
 unfold tS prs
 rw[List.map_map];rfl
theorem prs_wS (b k:Nat):wS (d.prs b (k-b))=(d.joinLP b k).length:=by
 rw[←tS_length,prs_cat];rfl
theorem prs_snoc {b k:Nat}(h:b≤k):d.prs b (k-b)++[(d.lead k,d.piece k)]=d.prs b (k+1-b):=by
 unfold prs
 rw[show k+1-b=(k-b)+1 by omega,List.range_succ,List.map_append]
 show _ =_++[(d.lead (b+(k-b)),d.piece (b+(k-b)))]
 rw[show b+(k-b)=k by omega]
theorem prs_take {b m i:Nat}(h:i≤m):(d.prs b m).take i=d.prs b i:=by
 unfold prs
 rw[←List.map_take,List.take_range,Nat.min_eq_left h]
theorem prs_drop {b m i:Nat}(h:i≤m):(d.prs b m).drop i=d.prs (b+i) (m-i):=by
 unfold prs
 apply List.ext_getElem?
 intro j
 rw[List.getElem?_drop,List.getElem?_map,List.getElem?_map]
 by_cases hj:j<m-i
 ·rw[List.getElem?_range (by omega),List.getElem?_range hj]
  show some (d.lead (b+(i+j)),d.piece (b+(i+j)))=some (d.lead (b+i+j),d.piece (b+i+j))
  rw[show b+(i+j)=b+i+j by omega]
 ·rw[List.getElem?_eq_none (by rw[List.length_range];omega),List.getElem?_eq_none (by rw[List.length_range];omega)];rfl
theorem join_split {a b e:Nat}(h1:a≤b) (h2:b≤e):d.joinLP a b++d.joinLP b e=d.joinLP a e:=by
 unfold joinLP
 rw[←List.flatten_append]
 congr 1
 rw[show e-a=(b-a)+(e-b) by omega,List.range_add,List.map_append,List.map_map]
 congr 1
 refine List.map_congr_left fun i _=> ?_
 show d.lp (b+i)=d.lp (a+(b-a+i))
 rw[show a+(b-a+i)=b+i by omega]
theorem side_step (H:d.Ok) {k:Nat}(hk:k<d.n) (S:d.Side k):d.Side (k+1):=by
 have hR1:d.ruleG (k+1)=(if (d.ruleG k).2<k∧d.wd<(d.joinLP (d.ruleG k).2 (k+1)).length then ((d.ruleG k).1++[d.joinLP (d.ruleG k).2 (d.cutG (d.ruleG k).2 k)],d.cutG (d.ruleG k).2 k) else d.ruleG k):=by rw[ruleG]
 have hM1:d.fmG (k+1)=chunkS (d.fmG k).1 (d.fmG k).2.1 (d.fmG k).2.2 d.wd d.spG (d.lead k) (d.piece k):=by rw[fmG]
 have h8:=H.n8
 obtain⟨hb,hl,hz,ht,hrl,hrs,hfl⟩:=S
 have hfc:=fun h=>findC_is H (b:=(d.ruleG k).2) (k:=k) h
 have hcut:=fun h=>d.cutG_is (b:=(d.ruleG k).2) (k:=k) h
 have hjl:=fun (e:Nat) (h:e≤8)=>d.joinLP_len (b:=(d.ruleG k).2) (e:=e) h
 rw[hz,ht,hl] at hM1
 unfold chunkS at hM1
 rw[prs_snoc hb.1,prs_wS] at hM1
 have key:d.ruleG (k+1)=d.ruleG k→d.fmG (k+1)=((d.ruleG k).1,d.prs (d.ruleG k).2 (k+1-(d.ruleG k).2),0)→d.Side (k+1):=by
  intro e1 e2
  refine⟨?_,?_,?_,?_,?_,?_,?_⟩<;>(try rw[e1])<;>(try rw[e2])
  ·exact⟨by omega,.inr (by omega)⟩
  ·omega
  ·exact hrs
  ·exact hfl
 by_cases hw:d.wd<(d.joinLP (d.ruleG k).2 (k+1)).length
 ·rw[if_neg (by omega)] at hM1
  by_cases hbk:(d.ruleG k).2<k
  ·rw[if_pos ⟨hbk,hw⟩] at hR1
   rw[hfc hbk] at hM1
   obtain⟨_,c2,c3⟩:=hcut hbk
   have hj:=hjl (d.cutG (d.ruleG k).2 k) (by omega)
   generalize d.cutG (d.ruleG k).2 k=cut at*
   have hM2:d.fmG (k+1)=((d.ruleG k).1++[d.joinLP (d.ruleG k).2 cut],d.prs cut (k+1-cut),0):=by
    rw[hM1]
    show ((d.ruleG k).1++[tS ((d.prs (d.ruleG k).2 (k+1-(d.ruleG k).2)).take (cut-(d.ruleG k).2))],(d.prs (d.ruleG k).2 (k+1-(d.ruleG k).2)).drop (cut-(d.ruleG k).2),0)=_
    rw[prs_take (by omega),prs_drop (by omega),prs_cat,show (d.ruleG k).2+(cut-(d.ruleG k).2)=cut by omega,show k+1-(d.ruleG k).2-(cut-(d.ruleG k).2)=k+1-cut by omega]
    rfl
   refine⟨?_,?_,?_,?_,?_,?_,?_⟩<;>(try rw[hR1])<;>(try rw[hM2])
   ·exact⟨by show cut≤k+1;omega,.inr (by show cut<k+1;omega)⟩
   ·show ((d.ruleG k).1++[d.joinLP (d.ruleG k).2 cut]).length≤k+1
    rw[List.length_append];simp;omega
   ·intro x hx
    rcases List.mem_append.mp hx with h | h
    ·exact hrs x h
    ·rw[List.mem_singleton.mp h];exact hj
   ·show ((d.ruleG k).1++[d.joinLP (d.ruleG k).2 cut]).flatten=d.joinLP 0 cut
    rw[List.flatten_append,hfl,List.flatten_cons,List.flatten_nil,List.append_nil,join_split (Nat.zero_le _) (by omega)]
  ·rw[if_neg (fun h=>hbk h.1)] at hR1
   have hk0:k=0:=by omega
   have hb0:(d.ruleG k).2=0:=by omega
   refine key hR1 ?_
   rw[hM1]
   have hfn:findC (d.prs (d.ruleG k).2 (k+1-(d.ruleG k).2)) d.spG=none:=by
    unfold spG findC findC findC findC findC
    rw[prs_len,hb0,hk0];rfl
   rw[hfn];rfl
 ·rw[if_pos (by omega)] at hM1
  rw[if_neg (fun h=>hw h.2)] at hR1
  exact key hR1 hM1
theorem side_all (H:d.Ok): ∀k,k≤d.n→d.Side k
 | 0,_=>⟨⟨Nat.le_refl _,.inl rfl⟩,rfl,rfl,rfl,Nat.le_refl _,(fun x hx=>nomatch hx),rfl⟩
 | k+1,hk=>side_step H (by omega) (side_all H k (by omega))
theorem Side.step (H:d.Ok) {k:Nat}(hk:k<d.n) (S:d.Side k):d.Step k:=by
 have h8:=H.n8
 have hb:=S.b
 have hrl:=S.rl
 refine⟨by omega,by omega,S.z,?_,?_,?_⟩
 ·rw[S.t,prs_len];omega
 ·rw[S.l];omega
 ·rw[S.t,prs_wS]
  have:=d.joinLP_len (b:=(d.ruleG k).2) (e:=k) (by omega)
  omega
noncomputable def line (d:Dt):List Nat:=lineS d.n d.f d.g d.nr d.fr
theorem told_gap (H:d.Ok) (k:Nat):toldS [d.gap (d.kd k)]=(glC (d.kd k)).map (ren d.nr d.fr)∧skipS (d.gap (d.kd k))=false∧(Txt.lower (Mine.mk [d.gap (d.kd k)])).length≤3∧(b3S (d.gap (d.kd k))).length≤2∧Txt.isspace (Mine.mk [d.gap (d.kd k)])=false:=by
 have hk:=kd_lt H k
 have h0:=gap0_ok H
 have h1:=gap1_ok H
 have hp:=H.pair
 have g2:=gap2 H
 generalize d.kd k=kk at*
 match kk,hk with
 | 0,_=>
  refine⟨?_,h0.skip,h0.low,by rw[h0.fold];simp,h0.nosp⟩
  rw[toldS,h0.skip,h0.fold];rfl
 | 1,_=>
  refine⟨?_,h1.skip,h1.low,by rw[h1.fold];simp,h1.nosp⟩
  rw[toldS,h1.skip,h1.fold];rfl
 | 2,_=>
  rw[g2]
  refine⟨?_,hp.skip,hp.low,by rw[hp.fold];simp,hp.nosp⟩
  rw[toldS,hp.skip,hp.fold];rfl
theorem skip32:skipS 32=true:=by decide
theorem told_lp (H:d.Ok) {k:Nat}(hk:k<d.n):toldS (d.lp k)=((97+d.pl k)::glC (d.kd k)).map (ren d.nr d.fr):=by
 have hp:=H.pl k hk
 have h8:=H.n8
 have ht:=typed_ok (c:=97+d.pl k) (way:=((d.n3+d.pl k:Nat):Int)) (by omega) (by omega)
 unfold lp lead piece
 rw[toldS_app,toldS_skip (List.replicate _ 32) (fun ch h=>by rw[List.eq_of_mem_replicate h];exact skip32),List.nil_append,toldS_app,toldS_app,toldS_skip (List.replicate _ (unseenL.getD _ 0)) (fun ch h=>by
  rw[List.eq_of_mem_replicate h]
  exact skip_unseen (unseen_at (Nat.mod_lt _ (by decide)))),List.append_nil,(told_gap H k).1]
 show (if skipS _ then [] else b3S _)++[]++_ =_
 rw[ht.skip,ht.fold]
 show [97+d.pl k]++_ =ren d.nr d.fr (97+d.pl k)::_
 unfold ren
 rw[if_neg (by omega),if_neg (by omega)];rfl
theorem told_all (H:d.Ok):toldS (d.joinLP 0 d.n)=d.line:=by
 unfold joinLP line lineS codeS
 rw[toldS_flat,List.map_flatten,List.map_map,List.map_map,Nat.sub_zero]
 congr 1
 refine List.map_congr_left fun k hk=> ?_
 have hk:=List.mem_range.mp hk
 show toldS (d.lp (0+k))=_
 rw[Nat.zero_add,told_lp H hk];rfl
theorem lp_mem (H:d.Ok) {k:Nat}(hk:k<d.n) {ch:Nat}(h:ch∈d.lp k) (hs:skipS ch=false):(Txt.lower (Mine.mk [ch])).length≤3∧(b3S ch).length≤2:=by
 have hp:=H.pl k hk
 have h8:=H.n8
 have ht:=typed_ok (c:=97+d.pl k) (way:=((d.n3+d.pl k:Nat):Int)) (by omega) (by omega)
 unfold lp lead piece at h
 rcases List.mem_append.mp h with h | h
 ·rw[List.eq_of_mem_replicate h,skip32] at hs;cases hs
 ·rcases List.mem_append.mp h with h | h
  ·rcases List.mem_append.mp h with h | h
   ·rw[List.mem_singleton.mp h]
    exact⟨ht.low,by rw[ht.fold];simp⟩
   ·rw[List.eq_of_mem_replicate h,skip_unseen (unseen_at (Nat.mod_lt _ (by decide)))] at hs;cases hs
  ·rw[List.mem_singleton.mp h]
   exact⟨(told_gap H k).2.2.1,(told_gap H k).2.2.2.1⟩
noncomputable def page (d:Dt):List Nat:=joinS [10] ((d.ruleG d.n).1++[d.joinLP (d.ruleG d.n).2 d.n])
theorem page_flat (H:d.Ok):((d.ruleG d.n).1++[d.joinLP (d.ruleG d.n).2 d.n]).flatten=d.joinLP 0 d.n:=by
 have S:=side_all H d.n (Nat.le_refl _)
 rw[List.flatten_append,S.fl,List.flatten_cons,List.flatten_nil,List.append_nil,join_split (Nat.zero_le _) S.b.1]
structure PageOk (d:Dt):Prop where
 step: ∀k,k<d.n→d.Step k
 page:joinS [10] ((d.fmG d.n).1++[tS (nlTs (d.fmG d.n).2.1)])=d.page
 small:Small (nlTs (d.fmG d.n).2.1) (d.fmG d.n).2.2
 n:(d.fmG d.n).2.1.length≤100
 sp:Txt.isspace (Mine.mk (tS (nlTs (d.fmG d.n).2.1)))=false
 pos:0<(d.fmG d.n).2.2+wS (nlTs (d.fmG d.n).2.1)
 ll:(d.fmG d.n).1.length≤100
 ls: ∀x∈(d.fmG d.n).1,x.length≤1000
 lt:(tS (nlTs (d.fmG d.n).2.1)).length≤1000
 rl:(d.ruleG d.n).1.length≤10
 rs: ∀x∈(d.ruleG d.n).1,x.length≤1000
 b:(d.ruleG d.n).2≤d.n
 pl:d.page.length≤10000
 told:toldS d.page=d.line
 low: ∀ch∈d.page,skipS ch=false→(Txt.lower (Mine.mk [ch])).length≤1000∧(b3S ch).length≤1000
theorem page_ok (H:d.Ok):d.PageOk:=by
 have S:=side_all H d.n (Nat.le_refl _)
 have h8:=H.n8
 have h2:=H.n2
 have hb:(d.ruleG d.n).2<d.n:=by have:=S.b.2;omega
 have hlast:(d.fmG d.n).2.1.getLast? =some (d.lead (d.n-1),d.piece (d.n-1)):=by
  rw[S.t,show d.n-(d.ruleG d.n).2=(d.n-1-(d.ruleG d.n).2)+1 by omega]
  unfold prs
  rw[List.range_succ,List.map_append,List.getLast?_append]
  show some (d.lead ((d.ruleG d.n).2+(d.n-1-(d.ruleG d.n).2)),d.piece ((d.ruleG d.n).2+(d.n-1-(d.ruleG d.n).2)))=_
  rw[show (d.ruleG d.n).2+(d.n-1-(d.ruleG d.n).2)=d.n-1 by omega]
 have hnl:nlTs (d.fmG d.n).2.1=(d.fmG d.n).2.1:=by
  unfold nlTs
  rw[hlast]
  have e:(d.piece (d.n-1)==[])=false:=by
   unfold piece;rfl
  show (if (d.lead (d.n-1)==[32]&&d.piece (d.n-1)==[])=true then _ else _)=_
  rw[e,Bool.and_false];rfl
 have hts:tS (d.fmG d.n).2.1=d.joinLP (d.ruleG d.n).2 d.n:=by rw[S.t,prs_cat];rfl
 have hlen:=d.joinLP_len (b:=(d.ruleG d.n).2) (e:=d.n) h8
 have hw:wS (d.fmG d.n).2.1=(d.joinLP (d.ruleG d.n).2 d.n).length:=by rw[S.t,prs_wS]
 have hvm:d.gap (d.kd (d.n-1))∈tS (d.fmG d.n).2.1:=by
  refine List.mem_flatten.mpr ⟨_,List.mem_map.mpr ⟨_,List.mem_of_getLast? hlast,rfl⟩,?_⟩
  exact List.mem_append_right _ (List.mem_of_getLast? (piece_last _))
 have hpos:0<(d.joinLP (d.ruleG d.n).2 d.n).length:=by rw[←hts];exact List.length_pos_of_mem hvm
 have hrl:=S.rl
 have hflat:=page_flat H
 have hj0:=d.joinLP_len (b:=0) (e:=d.n) h8
 have hpl:d.page.length≤100:=by
  have h1:=join_len ((d.ruleG d.n).1++[d.joinLP (d.ruleG d.n).2 d.n])
  rw[hflat,List.length_append] at h1
  simp only[List.length_cons,List.length_nil] at h1
  show (joinS [10] _).length≤100
  omega
 refine⟨fun k hk=>(side_all H k (by omega)).step H hk,?_,?_,?_,?_,?_,?_,?_,?_,?_,?_,?_,?_,?_,?_⟩
 ·rw[hnl,S.l,hts];rfl
 ·rw[hnl]
  refine⟨by rw[S.z];omega,by omega,?_⟩
  rw[S.t,prs_len];omega
 ·rw[S.t,prs_len];omega
 ·rw[hnl];exact sp_of (told_gap H _).2.2.2.2 hvm
 ·rw[hnl];omega
 ·rw[S.l];omega
 ·rw[S.l];intro x hx;have:=S.rs x hx;omega
 ·rw[hnl,hts];omega
 ·omega
 ·intro x hx;have:=S.rs x hx;omega
 ·omega
 ·omega
 ·show toldS (joinS [10] _)=_
  rw[toldS_join,hflat,told_all H]
 ·intro ch hch hsk
  rcases join_mem _ ch hch with h | h
  ·subst h
   have:skipS 10=true:=by decide
   rw[this] at hsk;cases hsk
  ·rw[hflat] at h
   unfold joinLP at h
   obtain⟨x,hx,hc⟩:=List.mem_flatten.mp h
   obtain⟨i,hi,rfl⟩:=List.mem_map.mp hx
   have hi:=List.mem_range.mp hi
   rw[Nat.zero_add] at hc
   have:=lp_mem H (show i<d.n by omega) hc hsk
   omega
end Dt
end Mine
end
section
set_option maxRecDepth 100000
set_option maxHeartbeats 4000000
open PySem PySem.W PyProof.Rows PySem.Calls
namespace Mine
theorem two_le {N s:Nat}(h1:0<s) (h2:s<N):2≤N/Nat.gcd N s:=by
 have hg:0<Nat.gcd N s:=Nat.gcd_pos_of_pos_right _ h1
 have hle:Nat.gcd N s≤s:=Nat.gcd_le_right _ h1
 obtain⟨q,hq⟩:=Nat.gcd_dvd_left N s
 rw[Nat.le_div_iff_mul_le hg]
 match q,hq with
 | 0,hq=>rw[Nat.mul_zero] at hq;omega
 | 1,hq=>rw[Nat.mul_one] at hq;omega
 | q+2,hq=>
  have:2*Nat.gcd N s≤Nat.gcd N s*(q+2):=by rw[Nat.mul_comm];exact Nat.mul_le_mul_left _ (by omega)
  omega
section
variable {prog:Program}{w:World}{T:Tops}{n:Nat}{a:Ads}{f:FmAds}{aa:AcAds}{fa:Addr}{c:Cel}{A:Around}{L:Addr}{g:Heap}{os:OsState}{cdv:Value}{rest:Led}{o0I o1I o2I o3I o4I o5I o6I o7I o8I o9I o10I o11I o12I o13I o14I o15I o16I o17I o18I o19I o20I:Option PV}{x_numbers x_whole x_step x_first x_last x_pairs x_near x_far x_kinds x_leads x_pieces:Option PV}
theorem law_end (B:FK prog T f aa) (D:Text T a) (G:Names T) (O:XOK T (n+9) (lX fa c A L g os cdv)) (Y:Lay (lX fa c A L g os cdv)) {d:Dt}(H:d.Ok) {N s:Nat}(H3:Three d.n d.f d.g (ltW N s)) {kd ld pc rw' wd:Addr}{F:FmA}(AF:FmAt F f aa) {e1 e2:Addr×(Obj→Prop)}{us:List (Addr×Pr)}(hus:us.map (·.2)=(d.fmG d.n).2.1):
  SE prog w (lX fa c A L g os cdv) (lB 21) (fL o0I o1I o2I o3I (some (.int (d.n:Nat))) (some (.ref wd)) o6I o7I (some (.str unseenL)) o9I o10I (some (.ref F.y)) (some (.ref rw')) (some (.int ((d.ruleG d.n).2:Nat))) o14I o15I o16I o17I o18I o19I o20I) ((rw',isL (pvS (d.ruleG d.n).1))::(pc,isL (pvS (d.piecesL d.n)))::(ld,isL (pvS (d.leadsL d.n)))::(kd,isL (pvI (d.kindsL d.n)))::e1::e2::(c.numbers,isCell x_numbers)::(c.whole,isCell x_whole)::(c.step,isCell x_step)::(c.first,isCell (some (.int (d.f:Nat))))::(c.last,isCell (some (.int (d.g:Nat))))::(c.pairs,isCell x_pairs)::(c.near,isCell (some (.str [d.nr])))::(c.far,isCell (some (.str [d.fr])))::(c.kinds,isCell (some (.ref kd)))::(c.leads,isCell (some (.ref ld)))::(c.pieces,isCell (some (.ref pc)))::(fmL F (d.wd:Nat) d.spG (d.fmG d.n).1 us (d.fmG d.n).2.2++((wd,isL (pvS (wordsS N s d.n)))::rest))) (fun f' _ σ'=>f'= .ret (.bool true)∧(aa.Plen,isPt)∈σ'∧(aa.Pstr,isPt)∈σ'):=by
 have P:=Dt.page_ok H
 have h8:=H.n8
 have hf:=H.f
 have hg:=H.g
 have hpr:=H.pair
 have hn:=P.n
 have hpg:=P.page
 have hsm:=P.small
 have hsp:=P.sp
 have hps:=P.pos
 have hlt:=P.lt
 rw[←hus] at hpg hsm hsp hps hlt hn
 have Ln:=line_ok H3 hpr.hn hpr.hf hpr.ne
 have Pn:=points_ok H3 hpr.hn hpr.hf hpr.ne
 have Fn:=line_fin H3 hpr.hn hpr.hf hpr.ne
 have htd:=P.told
 have hlen:=Ln.len.2
 have el:d.line=lineS d.n d.f d.g d.nr d.fr:=rfl
 rw[el] at htd
 generalize lineS d.n d.f d.g d.nr d.fr=tl at*
 refine segJ (n:=n) B D G O Y h8 AF (page:=d.page) (tl:=tl) hpg rfl hsm (by rw[List.length_map] at hn;exact hn) hsp hps P.ll P.ls hlt P.rl P.rs P.b P.pl htd P.low fun _ _=> ?_
 refine segK (n:=n) D G O Y Ln (by repeat (first | exact List.Mem.head _ | apply List.Mem.tail)) fun _ _=> ?_
 refine segL (n:=n) D G O Y h8 (by omega) hpr.hf hlen Pn (by repeat (first | exact List.Mem.head _ | apply List.Mem.tail)) (by repeat (first | exact List.Mem.head _ | apply List.Mem.tail)) (by repeat (first | exact List.Mem.head _ | apply List.Mem.tail)) fun _ _ _=> ?_
 exact segM (n:=n) G O Y (by omega) (by omega) (by omega) hlen (by repeat (first | exact List.Mem.head _ | apply List.Mem.tail)) (by repeat (first | exact List.Mem.head _ | apply List.Mem.tail)) (by repeat (first | exact List.Mem.head _ | apply List.Mem.tail)) (by repeat (first | exact List.Mem.head _ | apply List.Mem.tail)) Fn ⟨rfl,(by repeat (first | exact List.Mem.head _ | apply List.Mem.tail)),(by repeat (first | exact List.Mem.head _ | apply List.Mem.tail))⟩
theorem law_body (B:FK prog T f aa) (Lk:LawK T f) (D:Text T a) (G:Names T) (O:XOK T (n+9) (lX fa c A L g os cdv)) (Y:Lay (lX fa c A L g os cdv)) {ns:List Int}{sa:Addr}(hs: ∃o,g.get? sa=some o∧isL (pvI ns) o) (hn:ns.length≤1000):
  SE prog w (lX fa c A L g os cdv) (lB 0) (fL (some (.ref sa)) o1I o2I o3I o4I o5I o6I o7I o8I o9I o10I o11I o12I o13I o14I o15I o16I o17I o18I o19I o20I) ((c.numbers,isCell x_numbers)::(c.whole,isCell x_whole)::(c.step,isCell x_step)::(c.first,isCell x_first)::(c.last,isCell x_last)::(c.pairs,isCell x_pairs)::(c.near,isCell x_near)::(c.far,isCell x_far)::(c.kinds,isCell x_kinds)::(c.leads,isCell x_leads)::(c.pieces,isCell x_pieces)::(aa.Plen,isPt)::(aa.Pstr,isPt)::rest) (fun f' _ σ'=>f'= .ret (.bool true)∧(aa.Plen,isPt)∈σ'∧(aa.Pstr,isPt)∈σ'):=by
 refine segA G O Y hs hn fun b0 l o1I hl=> ?_
 refine segB G O Y hl fun b n0 n1 n2 n3 n4 n5 n6 h0 h1 h2 h3 h4 h5 h6=> ?_
 refine segC G O Y h2 fun N s cn _ _ hN hs hcn=> ?_
 have m0:=Nat.mod_lt n0 (show 0<4000 by decide)
 have m1:=Nat.mod_lt n1 (show 0<N-1 by omega)
 have m2:=Nat.mod_lt n2 (show 0<7 by decide)
 have hs0:0<s:=by omega
 have hsN:s<N:=by omega
 have hq:=two_le hs0 hsN
 have hc2:2≤cn:=by rw[hcn];split<;>omega
 have hc8:cn≤8:=by rw[hcn];split<;>omega
 have hcq:cn≤N/Nat.gcd N s:=by rw[hcn];split<;>omega
 have H3:=three_ok (show N<4096 by omega) hsN hc2 hc8 hcq
 clear hcn hq m0 m1 m2
 refine segD (n:=n+7) D G O Y (by omega) (by omega) (by omega) hc8 fun wd=> ?_
 refine segE G O Y hc2 hc8 (by omega) fun _=> ?_
 generalize firstS (ltW N s) (cn-2)=ff at*
 generalize lastS (ltW N s) (cn-2)=gg at*
 refine segF (n:=n+8) D G O Y fun bo nr fr gp P=> ?_
 refine segU G O Y ?_
 refine SE.fit (Fit.of_perm (σ'':=(gp,isL (pvS [[typedS fr ((n3/12:Nat):Int)],[typedS nr ((n3/144:Nat):Int)],[bo]]))::(b,isL (pvI [n0,n1,n2,n3,n4,n5,n6]))::(c.numbers,isCell (some (.ref b)))::(c.whole,isCell (some (.int (N:Nat))))::(c.step,isCell (some (.int (s:Nat))))::(c.first,isCell (some (.int (ff:Nat))))::(c.last,isCell (some (.int (gg:Nat))))::(c.pairs,isCell (some (.str pairsL)))::(c.near,isCell (some (.str [nr])))::(c.far,isCell (some (.str [fr])))::(c.kinds,isCell x_kinds)::(c.leads,isCell x_leads)::(c.pieces,isCell x_pieces)::(wd,isL (pvS (wordsS N s cn)))::(aa.Plen,isPt)::(aa.Pstr,isPt)::rest)
  (List.Perm.cons _ (List.perm_middle (l₁:=(b,isL (pvI [n0,n1,n2,n3,n4,n5,n6]))::(c.numbers,isCell (some (.ref b)))::(c.whole,isCell (some (.int (N:Nat))))::(c.step,isCell (some (.int (s:Nat))))::(c.first,isCell (some (.int (ff:Nat))))::(c.last,isCell (some (.int (gg:Nat))))::(c.pairs,isCell (some (.str pairsL)))::(c.near,isCell (some (.str [nr])))::(c.far,isCell (some (.str [fr])))::(c.kinds,isCell x_kinds)::(c.leads,isCell x_leads)::(c.pieces,isCell x_pieces)::[])).symm)) ?_
 refine segG0 O Y fun kd ld pc=> ?_
 obtain⟨d,hd⟩: ∃d:Dt,d=⟨cn,ff,gg,n3,n4,n5,bo,nr,fr⟩:=⟨_,rfl⟩
 have H:d.Ok:=by
  subst hd
  exact⟨hc2,hc8,H3.hf,H3.hg,H3.pl,H3.two,P,h3,h4,h5⟩
 have H3':Three d.n d.f d.g (ltW N s):=by subst hd;exact H3
 have e1:cn=d.n:=by subst hd;rfl
 have e2:ff=d.f:=by subst hd;rfl
 have e3:gg=d.g:=by subst hd;rfl
 have e4:n3=d.n3:=by subst hd;rfl
 have e5:n4=d.n4:=by subst hd;rfl
 have e6:n5=d.n5:=by subst hd;rfl
 have e7:bo=d.bo:=by subst hd;rfl
 have e8:nr=d.nr:=by subst hd;rfl
 have e9:fr=d.fr:=by subst hd;rfl
 clear hd H3 P
 subst e1 e2 e3 e4 e5 e6 e7 e8 e9
 refine segG (n:=n+7) D G O Y H fun _ _=> ?_
 refine SE.fit (Fit.of_perm (σ'':=((pc,isL (pvS (d.piecesL d.n)))::(ld,isL (pvS (d.leadsL d.n)))::(kd,isL (pvI (d.kindsL d.n)))::(gp,isL (pvS [[d.gap 0],[d.gap 1],[d.gap 2]]))::(b,isL (pvI [n0,n1,n2,d.n3,d.n4,d.n5,n6]))::(c.numbers,isCell (some (.ref b)))::(c.whole,isCell (some (.int (N:Nat))))::(c.step,isCell (some (.int (s:Nat))))::(c.first,isCell (some (.int (d.f:Nat))))::(c.last,isCell (some (.int (d.g:Nat))))::(c.pairs,isCell (some (.str pairsL)))::(c.near,isCell (some (.str [d.nr])))::(c.far,isCell (some (.str [d.fr])))::(c.kinds,isCell (some (.ref kd)))::(c.leads,isCell (some (.ref ld)))::(c.pieces,isCell (some (.ref pc)))::(wd,isL (pvS (wordsS N s d.n)))::[])++((aa.Plen,isPt)::(aa.Pstr,isPt)::rest)) (.refl _)) ?_
 refine segH (n:=n+5) B Lk O Y (by repeat (first | exact List.Mem.head _ | apply List.Mem.tail)) (by repeat (first | exact List.Mem.head _ | apply List.Mem.tail)) (by repeat (first | exact List.Mem.head _ | apply List.Mem.tail)) fun rw' F AF=> ?_
 refine SE.fit (Fit.of_perm (σ'':=(rw',isL (pvS []))::(pc,isL (pvS (d.piecesL d.n)))::(ld,isL (pvS (d.leadsL d.n)))::(kd,isL (pvI (d.kindsL d.n)))::(gp,isL (pvS [[d.gap 0],[d.gap 1],[d.gap 2]]))::(b,isL (pvI [n0,n1,n2,d.n3,d.n4,d.n5,n6]))::(c.numbers,isCell (some (.ref b)))::(c.whole,isCell (some (.int (N:Nat))))::(c.step,isCell (some (.int (s:Nat))))::(c.first,isCell (some (.int (d.f:Nat))))::(c.last,isCell (some (.int (d.g:Nat))))::(c.pairs,isCell (some (.str pairsL)))::(c.near,isCell (some (.str [d.nr])))::(c.far,isCell (some (.str [d.fr])))::(c.kinds,isCell (some (.ref kd)))::(c.leads,isCell (some (.ref ld)))::(c.pieces,isCell (some (.ref pc)))::
  (fmL F (d.wd:Nat) d.spG [] [] (0:Nat)++((wd,isL (pvS (wordsS N s d.n)))::rest))) ?_) ?_
 ·exact List.perm_append_comm_assoc _ ((rw',isL (pvS []))::(pc,isL (pvS (d.piecesL d.n)))::(ld,isL (pvS (d.leadsL d.n)))::(kd,isL (pvI (d.kindsL d.n)))::(gp,isL (pvS [[d.gap 0],[d.gap 1],[d.gap 2]]))::(b,isL (pvI [n0,n1,n2,d.n3,d.n4,d.n5,n6]))::(c.numbers,isCell (some (.ref b)))::(c.whole,isCell (some (.int (N:Nat))))::(c.step,isCell (some (.int (s:Nat))))::(c.first,isCell (some (.int (d.f:Nat))))::(c.last,isCell (some (.int (d.g:Nat))))::(c.pairs,isCell (some (.str pairsL)))::(c.near,isCell (some (.str [d.nr])))::(c.far,isCell (some (.str [d.fr])))::(c.kinds,isCell (some (.ref kd)))::(c.leads,isCell (some (.ref ld)))::(c.pieces,isCell (some (.ref pc)))::[]) ((wd,isL (pvS (wordsS N s d.n)))::rest)
 refine segI (n:=n) B G O Y AF H.n8 (Dt.page_ok H).step fun _ _ us hus=> ?_
 exact law_end B D G O Y H H3' AF hus
end
end Mine
end
section
set_option maxRecDepth 100000
set_option maxHeartbeats 4000000
open PySem PySem.W PyProof.Rows PySem.Calls
namespace Mine
theorem ns_hide {h:Heap}{a:Addr}{m:Str→Option Value}{l:List Addr}(x:h.Ns a m) (ha:a∉l):(hideAll h l).Ns a m:=by
 obtain⟨o,ho,hn⟩:=PyProof.Rows.LCg.ns_obj x
 exact hn.ns (hideAll_get l ho ha)
theorem isPt0:isPt {cls:=.none,data:=.fields #[]}:=⟨#[],rfl,by constructor⟩
theorem enter {prog:Program}{w:World}{T:Tops}{s:Shared}{a:Ads}{f:FmAds}{aa:AcAds}{fa sa:Addr}{o:Obj}{pm cd doc:Value}{ns:List Int}
  (B:FK prog T f aa) (Lk:LawK T f) (D:Text T a) (G:Names T)
  (hT:T.K.In s.heap) (hPK: ∀p∈[aa.Plen,aa.Pstr],T.K.lookup p=none) (hne:aa.Plen≠aa.Pstr)
  (hg:s.heap.Ns mainGlobals T.mg) (hb:s.heap.Ns builtinsNs T.mb) (hl:s.heap.NoLimit) (hst:mainGlobals∉[aa.Plen,aa.Pstr]∧builtinsNs∉[aa.Plen,aa.Pstr]∧cStatics∉[aa.Plen,aa.Pstr])
  (h1:s.heap.get? aa.Plen=some {cls:=.none,data:=.fields #[]}) (h2:s.heap.get? aa.Pstr=some {cls:=.none,data:=.fields #[]})
  (ho:s.heap.get? fa=some o) (hd:o.data= .func (Calls.docDef "law" (parsOf (ST 20)) (bodyOf (ST 20)) (scopeOf (ST 20)) pm cd doc)) (hcd:s.heap.CodeRec cd "law")
  (hs: ∃o,s.heap.get? sa=some o∧isL (pvI ns) o) (hsa:sa∉[aa.Plen,aa.Pstr]) (hn:ns.length≤1000) (hgens:AllBare s.gens):
  codeAny (model prog w) callerA (.call (.ref fa) ⟨[.ref sa],[]⟩) (fun r s'=>r= .ok (.ret (.bool true))∧(∀b o,b∉[aa.Plen,aa.Pstr]→s.heap.get? b=some o→s'.heap.get? b=some o)∧
   (∀b∈[aa.Plen,aa.Pstr],∃op,s'.heap.get? b=some op∧isPt op)∧s'.os=s.os∧AllBare s'.gens) s:=by
 refine call_cellsN_ret (binds:=[(("script":Str),.ref sa)]) (by decide) ho hd hl hcd rfl (by intro x hx;rw[List.mem_singleton.mp hx];exact .inl rfl) (by decide) (fun h₁ tk cells F N C=> ?_)
 obtain⟨L,hL⟩: ∃L,L=s.heap.objs.size:=⟨_,rfl⟩
 rw[←hL] at F N C ⊢
 have hcl:cellsFrom (L+1) (scopeOf (ST 20)).names []=clL ⟨L+1,L+2,L+3,L+4,L+5,L+6,L+7,L+8,L+9,L+10,L+11⟩:=rfl
 let c:Cel:=⟨L+1,L+2,L+3,L+4,L+5,L+6,L+7,L+8,L+9,L+10,L+11⟩
 let X:Cx:=lX fa c (callerA.deeper (envX "law" (scopeOf (ST 20)) L fa cd (clL c))) L (hideAll s.heap [aa.Plen,aa.Pstr]) s.os cd
 have henv:envOfC "law" (scopeOf (ST 20)) L fa cd=X.env:=rfl
 have hA:callerA.deeper (envOfC "law" (scopeOf (ST 20)) L fa cd)=X.A:=rfl
 rw[henv] at C
 rw[hA,henv]
 have hmem: ∀p∈[aa.Plen,aa.Pstr],∃o,s.heap.get? p=some o:=fun p hp=>by
  rcases List.mem_cons.mp hp with rfl | hp
  ·exact⟨_,h1⟩
  ·rw[List.mem_singleton.mp hp];exact⟨_,h2⟩
 have O:XOK T 9 X:=by
  refine⟨?_,⟨callerA,hideAll s.heap [aa.Plen,aa.Pstr],[],X.env,below_caller _,rfl,rfl,rfl⟩,?_,?_,ns_hide hg hst.1,ns_hide hb hst.2.1,by show callerA.depth+1+9<900;decide,by show callerA.units+3+90<9000;decide,rfl,rfl,rfl,rfl⟩
  ·show (hideAll s.heap [aa.Plen,aa.Pstr]).objs.size≤L
   rw[hideAll_size];exact Nat.le_of_eq hL.symm
  ·obtain⟨mc,x,y⟩:=hl
   exact⟨mc,ns_hide x hst.2.2,y⟩
  ·intro b o' hk
   exact hideAll_get _ (hT b o' hk) fun hm=>by rw[hPK b hm] at hk;cases hk
 have Y:Lay X:=lay_of (scope:=scopeOf (ST 20)) (by show layOK (scopeOf (ST 20)) ["script","k","left","right","count","words","both","gaps","unseen","place","width","maker","rows","begin","j","cut","page","told","sign","wants","names"]=true;decide) rfl rfl rfl
 have F':Fr X.g L h₁ (bindL X.env.kindOf [(("script":Str),.ref sa)] fun _=>none):=⟨F.ns,fun b o' e=>F.keep b o' (of_hideAll _ e),by show (hideAll s.heap [aa.Plen,aa.Pstr]).objs.size≤L;rw[hideAll_size];exact F.above⟩
 have low: ∀p∈[aa.Plen,aa.Pstr],p<L:=fun p hp=>by obtain⟨o',e⟩:=hmem p hp;rw[hL];exact Heap.lt_size e
 have lP:=low aa.Plen (.head _)
 have lQ:=low aa.Pstr mI1
 have hC: ∃k1 k2 k3 k4 k5 k6 k7 k8 k9 k10 k11:Obj,cells=[(L+11,k11),(L+10,k10),(L+9,k9),(L+8,k8),(L+7,k7),(L+6,k6),(L+5,k5),(L+4,k4),(L+3,k3),(L+2,k2),(L+1,k1)]∧k1.data= .cell none∧k2.data= .cell none∧k3.data= .cell none∧k4.data= .cell none∧k5.data= .cell none∧k6.data= .cell none∧k7.data= .cell none∧k8.data= .cell none∧k9.data= .cell none∧k10.data= .cell none∧k11.data= .cell none:=by
  rw[hcl] at C
  cases C with
  | cons d11 C=>
   cases C with
   | cons d10 C=>
    cases C with
    | cons d9 C=>
     cases C with
     | cons d8 C=>
      cases C with
      | cons d7 C=>
       cases C with
       | cons d6 C=>
        cases C with
        | cons d5 C=>
         cases C with
         | cons d4 C=>
          cases C with
          | cons d3 C=>
           cases C with
           | cons d2 C=>
            cases C with
            | cons d1 C=>
             cases C with
             | nil=>exact⟨_,_,_,_,_,_,_,_,_,_,_,rfl,d1,d2,d3,d4,d5,d6,d7,d8,d9,d10,d11⟩
 obtain⟨k1,k2,k3,k4,k5,k6,k7,k8,k9,k10,k11,rfl,d1,d2,d3,d4,d5,d6,d7,d8,d9,d10,d11⟩:=hC
 have hcell: ∀{o:Obj},o.data= .cell none→isCell none o:=fun h=>⟨none,.none,h⟩
 have N':News X.g L h₁ ([(L+11,k11),(L+10,k10),(L+9,k9),(L+8,k8),(L+7,k7),(L+6,k6),(L+5,k5),(L+4,k4),(L+3,k3),(L+2,k2),(L+1,k1)]++[(aa.Plen,{cls:=.none,data:=.fields #[]}),(aa.Pstr,{cls:=.none,data:=.fields #[]})]):=by
  intro p hp
  rcases List.mem_append.mp hp with h | h
  ·have:=N p h
   refine⟨this.1,this.2.1,?_⟩
   cases q:X.g.get? p.1 with
   | none=>rfl
   | some o'=>have e:=this.2.2;rw[of_hideAll _ q] at e;cases e
  ·rcases List.mem_cons.mp h with rfl | h
   ·exact⟨F.keep _ _ h1,Nat.ne_of_lt lP,hideAll_none _ (.head _)⟩
   ·rw[List.mem_singleton.mp h]
    exact⟨F.keep _ _ h2,Nat.ne_of_lt lQ,hideAll_none _ mI1⟩
 have hm:(bindL X.env.kindOf [(("script":Str),.ref sa)] fun _=>none)=fun y=>((["script"]:List Str).zip [Value.ref sa]).reverse.lookup y:=by
  funext y
  show (if y=("script":Str) then some (Value.ref sa) else none)=(match y==("script":Str) with | true=>some (Value.ref sa) | false=>none)
  by_cases h:y=("script":Str)
  ·rw[if_pos h,h];rfl
  ·rw[if_neg h,beq_eq_false_iff_ne.mpr h]
 have RI:RoIs (fL (some (.ref sa)) none none none none none none none none none none none none none none none none none none none none) (bindL X.env.kindOf [(("script":Str),.ref sa)] fun _=>none):=by
  rw[hm]
  exact init_is (names:=["script"]) (args:=[.ref sa]) (rest:=["k","left","right","count","words","both","gaps","unseen","place","width","maker","rows","begin","j","cut","page","told","sign","wants","names"]) (.cons (.ref _) .nil) rfl (by decide)
 have Dl:LedIs ([(c.pieces,isCell none),(c.leads,isCell none),(c.kinds,isCell none),(c.far,isCell none),(c.near,isCell none),(c.pairs,isCell none),(c.last,isCell none),(c.first,isCell none),(c.step,isCell none),(c.whole,isCell none),(c.numbers,isCell none)]++[(aa.Plen,isPt),(aa.Pstr,isPt)]) ([(L+11,k11),(L+10,k10),(L+9,k9),(L+8,k8),(L+7,k7),(L+6,k6),(L+5,k5),(L+4,k4),(L+3,k3),(L+2,k2),(L+1,k1)]++[(aa.Plen,{cls:=.none,data:=.fields #[]}),(aa.Pstr,{cls:=.none,data:=.fields #[]})]):=
  .cons (hcell d11) (.cons (hcell d10) (.cons (hcell d9) (.cons (hcell d8) (.cons (hcell d7) (.cons (hcell d6) (.cons (hcell d5) (.cons (hcell d4) (.cons (hcell d3) (.cons (hcell d2) (.cons (hcell d1) (.cons isPt0 (.cons isPt0 .nil))))))))))))
 have I₀:Inv X (fL (some (.ref sa)) none none none none none none none none none none none none none none none none none none none none) ([(c.pieces,isCell none),(c.leads,isCell none),(c.kinds,isCell none),(c.far,isCell none),(c.near,isCell none),(c.pairs,isCell none),(c.last,isCell none),(c.first,isCell none),(c.step,isCell none),(c.whole,isCell none),(c.numbers,isCell none)]++[(aa.Plen,isPt),(aa.Pstr,isPt)]) {s with heap:=h₁,toks:=tk}:=by
  refine⟨⟨_,_,F',N',RI,Dl⟩,?_,rfl,lK_nodup,hgens,rfl⟩
  show ([L+11,L+10,L+9,L+8,L+7,L+6,L+5,L+4,L+3,L+2,L+1,aa.Plen,aa.Pstr]:List Nat).Nodup
  have lP': @LT.lt Nat _ aa.Plen L:=lP
  have lQ': @LT.lt Nat _ aa.Pstr L:=lQ
  have hne': @Ne Nat aa.Plen aa.Pstr:=hne
  simp only[List.nodup_cons,List.mem_cons,List.not_mem_nil,or_false,not_or,List.nodup_nil,and_true,not_false_eq_true]
  omega
 have I:Inv X (fL (some (.ref sa)) none none none none none none none none none none none none none none none none none none none none) ((c.numbers,isCell none)::(c.whole,isCell none)::(c.step,isCell none)::(c.first,isCell none)::(c.last,isCell none)::(c.pairs,isCell none)::(c.near,isCell none)::(c.far,isCell none)::(c.kinds,isCell none)::(c.leads,isCell none)::(c.pieces,isCell none)::(aa.Plen,isPt)::(aa.Pstr,isPt)::[]) {s with heap:=h₁,toks:=tk}:=I₀.perm (List.Perm.append_right _ (List.reverse_perm (l:=[(c.numbers,isCell none),(c.whole,isCell none),(c.step,isCell none),(c.first,isCell none),(c.last,isCell none),(c.pairs,isCell none),(c.near,isCell none),(c.far,isCell none),(c.kinds,isCell none),(c.leads,isCell none),(c.pieces,isCell none)])))
 have hs': ∃o,X.g.get? sa=some o∧isL (pvI ns) o:=by
  obtain⟨o',e,q⟩:=hs
  exact⟨o',hideAll_get _ e hsa,q⟩
 refine wpAny_mono (law_body (w:=w) (n:=0) (rest:=[]) B Lk D G O Y hs' hn _ I) (fun fl s' q=> ?_) fun _ _ f=>f
 obtain⟨f',ρ',σ',⟨rfl,m1,m2⟩,hfr,I'⟩:=q
 cases hfr with
 | ret hv=>
  cases hv
  refine⟨rfl,fun b o' hb e=>I'.keep (hideAll_get _ e hb),fun b hb=> ?_,I'.os,I'.gens⟩
  rcases List.mem_cons.mp hb with rfl | hb
  ·obtain⟨op,e,q⟩:=I'.obj m1
   exact⟨op,e,q⟩
  ·rw[List.mem_singleton.mp hb]
   obtain⟨op,e,q⟩:=I'.obj m2
   exact⟨op,e,q⟩
end Mine
end
section
set_option maxRecDepth 100000
set_option maxHeartbeats 4000000
open PySem PySem.W PyProof.Rows PySem.Calls
namespace Mine
section
variable (tb:String→Option Builtin) (p:Program) (w:World) (n₀:Nat) (ann:Option Value) (q₀:Pos) (c:Code)
noncomputable def Rn (n:Nat) {α:Type}(x:Sem α) (s:Shared) (q:Pos) (a:α) (s':Shared) (q':Pos):Prop:=
 ∀(K:α→Sem Fin) (H:Value→Sem Fin) (gd:Bool→Bool) (lv:List Value→List Value) (N:Nat) (r:Shared),topRun tb p w n₀ ann N s' ⟨K a,c,q',[topFrame q₀]⟩=some r→topRun tb p w n₀ ann (n+N) s ⟨x.wrap K H gd lv,c,q,[topFrame q₀]⟩=some r
end
section
variable {tb:String→Option Builtin}{p:Program}{w:World}{n₀:Nat}{ann:Option Value}{q₀:Pos}{c:Code}{α β:Type}{s s₁ s₂ s':Shared}{q q₁ q₂ q':Pos}{n m:Nat}
theorem Rn.le {x:Sem α}{a:α}(h:Rn tb p w n₀ ann q₀ c n x s q a s' q') (k:n≤m):Rn tb p w n₀ ann q₀ c m x s q a s' q':=fun K H gd lv N r hr=>by
 have:=topRun_mono (m-n) _ _ _ _ (h K H gd lv N r hr)
 rwa [show n+N+(m-n)=m+N by omega] at this
theorem rn_pure {a:α}:Rn tb p w n₀ ann q₀ c 0 (pure a) s q a s q:=fun K H gd lv N r h=>by rw[Nat.zero_add];exact h
theorem rn_bind {x:Sem α}{f:α→Sem β}{a:α}{b:β}(h:Rn tb p w n₀ ann q₀ c n x s q a s₁ q₁) (k:Rn tb p w n₀ ann q₀ c m (f a) s₁ q₁ b s₂ q₂):Rn tb p w n₀ ann q₀ c (n+m) (x >>= f) s q b s₂ q₂:=fun K H gd lv N r hr=>by
 rw[Sem.bind_eq_wrap',Sem.wrap_wrap,Nat.add_assoc]
 exact h (fun a=>(f a).wrap K H gd lv) (fun e=>(Sem.raise e:Sem β).wrap K H gd lv) (fun g=>gd (id g)) (fun l=>lv (id l)) _ _ (k K H gd lv N r hr)
theorem rn_keep {x:Sem α}{a:α}{vs:List Value}(h:Rn tb p w n₀ ann q₀ c n x s q a s' q'):Rn tb p w n₀ ann q₀ c n (x.keep vs) s q a s' q':=fun K H gd lv=>by
 rw[Sem.keep_eq_wrap,Sem.wrap_wrap]
 exact h _ _ _ _
theorem rn_holding {x:Sem α}{a:α}{vs:List Value}(h:Rn tb p w n₀ ann q₀ c n x s q a s' q'):Rn tb p w n₀ ann q₀ c n (holding vs x) s q a s' q':=by
 unfold holding
 split
 ·exact h
 ·exact rn_keep h
theorem rn_onRaise {x:Sem α}{a:α}{k:Value→Sem Unit}(h:Rn tb p w n₀ ann q₀ c n x s q a s' q'):Rn tb p w n₀ ann q₀ c n (x.onRaise k) s q a s' q':=fun K H gd lv=>by
 rw[Sem.onRaise_eq_wrap,Sem.wrap_wrap]
 exact h _ _ _ _
theorem rn_go {x:Sem α}{y:Sem α}(h: ∀(K:α→Sem Fin) (H:Value→Sem Fin) (gd:Bool→Bool) (lv:List Value→List Value),stepOk n₀ ann ⟨x.wrap K H gd lv,c,q,[topFrame q₀]⟩=true∧through ⟨x.wrap K H gd lv,c,q,[topFrame q₀]⟩=false∧
   step (denote tb) p w s ⟨x.wrap K H gd lv,c,q,[topFrame q₀]⟩= .go s₁ ⟨y.wrap K H gd lv,c,q₁,[topFrame q₀]⟩) {a:α}(k:Rn tb p w n₀ ann q₀ c n y s₁ q₁ a s' q'):Rn tb p w n₀ ann q₀ c (n+1) x s q a s' q':=fun K H gd lv N r hr=>by
 obtain⟨h1,h2,h3⟩:=h K H gd lv
 rw[show n+1+N=n+N+1 by omega]
 unfold topRun
 rw[h1,h2,h3]
 exact k K H gd lv N r hr
theorem rn_rule {t:String}:Rn tb p w n₀ ann q₀ c 1 (rule t) s q () s q:=rn_go (y:=pure ()) (fun _ _ _ _=>⟨rfl,rfl,by obtain⟨h,g,d,t,o⟩:=s;rfl⟩) rn_pure
theorem rn_at {pos:Pos}:Rn tb p w n₀ ann q₀ c 1 (standAt pos) s q () s pos:=rn_go (y:=pure ()) (fun _ _ _ _=>⟨rfl,rfl,by obtain⟨h,g,d,t,o⟩:=s;rfl⟩) rn_pure
theorem rn_fresh:Rn tb p w n₀ ann q₀ c 1 fresh s q s.toks {s with toks:=s.toks+1} q:=rn_go (y:=pure s.toks) (fun _ _ _ _=>⟨rfl,rfl,by obtain⟨h,g,d,t,o⟩:=s;rfl⟩) rn_pure
theorem rn_loadPart {a:Addr}{pt:Option Value}{o:Obj}(ho:s.heap.get? a=some o):Rn tb p w n₀ ann q₀ c 1 (loadPart a pt) s q o s q:=rn_go (y:=pure o) (fun _ _ _ _=>⟨rfl,rfl,by obtain⟨h,g,d,t,o⟩:=s;dsimp only at ho;show (match h.get? a with | some o=>_ | none=>_)=_;rw[ho];rfl⟩) rn_pure
theorem rn_updatePart {a:Addr}{pt:Option Value}{f:Obj→Obj}{o:Obj}(ho:s.heap.get? a=some o) (hn:n₀≤a):Rn tb p w n₀ ann q₀ c 1 (updatePart a pt f) s q () {s with heap:=s.heap.update a f} q:=
 rn_go (y:=pure ()) (fun _ _ _ _=>⟨by show (_&&(Nat.ble n₀ a||_||_||_))=true;rw[Nat.ble_eq_true_of_le hn];rfl,rfl,by obtain⟨h,g,d,t,o⟩:=s;dsimp only at ho;show (if (h.get? a).isSome=true then _ else _)=_;rw[ho];rfl⟩) rn_pure
theorem rn_alloc {o:Obj}:Rn tb p w n₀ ann q₀ c 1 (alloc o) s q s.heap.objs.size {s with heap:=s.heap.push o} q:=rn_go (y:=pure _) (fun _ _ _ _=>⟨rfl,rfl,by obtain⟨h,g,d,t,o⟩:=s;rfl⟩) rn_pure
theorem rn_seg {x:Sem α}{res:α→Flow}{f:Flow}{a:α}(h: ∀gd lv,segRun tb p w n₀ ann 1 n s ⟨x.wrap (fun a=>.pure (.done (res a))) deadEnd gd lv,c,q,[topFrame q₀]⟩=some (f,s',c,q')) (hr: ∀b,res b=f→b=a):Rn tb p w n₀ ann q₀ c n x s q a s' q':=fun K H gd lv N r=>by
 obtain⟨b,hb,hN⟩:=seg_top (res:=res) (K':=K) (H':=H) (gd:=gd) (lv:=lv) (B:=[topFrame q₀]) rfl n s ⟨x.wrap (fun a=>.pure (.done (res a))) deadEnd gd lv,c,q,[topFrame q₀]⟩ ⟨x.wrap K H gd lv,c,q,[topFrame q₀]⟩ _ _ _ _ ⟨rfl,rfl,.inl ⟨rfl,rfl,_,rfl,rfl⟩⟩ (h gd lv)
 obtain rfl:=hr b hb
 exact hN N r
theorem rn_stmt {st:Stmt}{env:Env}{rest:List Stmt}(h:Rn tb p w n₀ ann q₀ c n (exec st env) s q .next s' q') {N:Nat}{r:Shared}(hr:topRun tb p w n₀ ann N s' (restOf rest env c q' [topFrame q₀])=some r):topRun tb p w n₀ ann (n+N) s (restOf (st::rest) env c q [topFrame q₀])=some r:=by
 unfold restOf
 rw[execs_cons_wrap]
 exact h (fun f=>match f with | .next=>(execs rest env).wrap doneF (leaveH env) id id | f=>doneF f) (leaveH env) id id N r hr
end
end Mine
end
section
set_option maxRecDepth 100000
set_option maxHeartbeats 4000000
open PySem PySem.W PyProof.Rows PySem.Calls
namespace Mine
theorem tab_q:treeTable=PySem.W.Fast.tw14364793385576792824:=PySem.W.Fast.te14364793385576792824
theorem seg_q: @segRun= @PySem.W.Fast.tw14374325043358763698:=PySem.W.Fast.te14374325043358763698
section
variable {p:Program}{w:World}{n₀:Nat}{ann:Option Value}{q₀:Pos}{c:Code}{α β:Type}{s s₁ s₂ s':Shared}{q q₁ q₂ q':Pos}
theorem rn_special_hash {k:Int}{t:Tok}:Rn treeTable p w n₀ ann q₀ c 20 (specialOf (.int k t) "__hash__") s q (some (.builtin "int.__hash__")) s q:=
 rn_seg (res:=fun h=>match h with | some v=>.ret v | none=>.brk) (n:=20) (f:=.ret (.builtin "int.__hash__")) (fun gd lv=>by
  rw[show @specialOf=PySem.W.Fast.tw4214721358667687652 from PySem.W.Fast.te4214721358667687652,seg_q,tab_q]
  kernel_rfl) (fun b hb=>by cases b with | none=>cases hb | some v=>cases hb;rfl)
theorem rn_call_hash_b (b:Bool) {k:Int}{t:Tok}{x:Sem Value}:Rn treeTable p (w.withFollow "special-get-raises" b) n₀ ann q₀ c 40 (callSpecialIfBoundUnlessNone? (.int k t) "__hash__" x) s q (some (.int (rawHash k) s.toks)) {s with toks:=s.toks+1} q:=
 rn_seg (res:=fun h=>match h with | some v=>.ret v | none=>.brk) (n:=40) (f:=.ret (.int (rawHash k) s.toks)) (fun gd lv=>by
  rw[show @callSpecialIfBoundUnlessNone? =PySem.W.Fast.tw16697807410369149715 from PySem.W.Fast.te16697807410369149715,seg_q,tab_q]
  obtain⟨h,g,d,tk,o⟩:=s
  cases b<;>kernel_rfl) (fun b hb=>by cases b with | none=>cases hb | some v=>cases hb;rfl)
theorem rn_call_hash {k:Int}{t:Tok}{x:Sem Value}:Rn treeTable p w n₀ ann q₀ c 40 (callSpecialIfBoundUnlessNone? (.int k t) "__hash__" x) s q (some (.int (rawHash k) s.toks)) {s with toks:=s.toks+1} q:=by
 have:=rn_call_hash_b (w:=w) (p:=p) (n₀:=n₀) (ann:=ann) (q₀:=q₀) (c:=c) (s:=s) (q:=q) (w.params.followText "special-get-raises") (k:=k) (t:=t) (x:=x)
 rwa [World.withFollow_self] at this
theorem rn_hash {k:Int}{t:Tok}:Rn treeTable p w n₀ ann q₀ c 80 (pyHash (.int k t)) s q (hashInt k) {s with toks:=s.toks+1} q:=by
 have hr:=rawHash_range k
 unfold pyHash pyHashByItsType
 have hv:[Value.int k t].any Value.onHeap=false:=rfl
 refine Rn.le (rn_bind (a:=()) (s₁:=s) (q₁:=q) (n:=0) (by unfold cRoomFor;rw[hv,if_neg (by decide)];exact rn_pure) (rn_bind rn_special_hash (m:=60) ?_)) (by decide)
 rw[if_neg (by decide)]
 refine Rn.le (rn_bind rn_special_hash (m:=40) ?_) (by decide)
 rw[if_neg (by decide)]
 refine Rn.le (rn_bind rn_call_hash (m:=0) ?_) (by decide)
 show Rn _ _ _ _ _ _ _ _ (if (decide (-(2:Int)^63≤rawHash k)&&decide (rawHash k<2^63))=true then _ else _) _ _ _ _ _
 rw[if_pos (by rw[decide_eq_true hr.1,decide_eq_true hr.2];rfl)]
 exact rn_pure
noncomputable abbrev dicO (es:List DictEntry) (n:Nat):Obj:={cls:=.type "dict",data:=.dict es.toArray n}
theorem rn_entries {d:Addr}{pt:Option Value}{es:List DictEntry}{n:Nat}(ho:s.heap.get? d=some (dicO es n)):Rn treeTable p w n₀ ann q₀ c 1 (dictEntries d pt) s q es.toArray s q:=by
 unfold dictEntries
 exact rn_bind (m:=0) (rn_loadPart ho) rn_pure
theorem rn_epoch {d:Addr}{pt:Option Value}{es:List DictEntry}{n:Nat}(ho:s.heap.get? d=some (dicO es n)):Rn treeTable p w n₀ ann q₀ c 1 (dictEpoch d pt) s q n s q:=by
 unfold dictEpoch
 exact rn_bind (m:=0) (rn_loadPart ho) rn_pure
theorem places_none {es:List DictEntry}{h:Int}(hn: ∀e∈es,e.hash≠h):placesWithHash es.toArray.size (fun i=>es.toArray[i]?.map (·.hash)) h=[]:=by
 unfold placesWithHash
 rw[List.filter_eq_nil_iff]
 intro i hi
 have hi':i<es.length:=by simpa using hi
 simp only[List.getElem?_toArray,List.getElem?_eq_getElem hi',Option.map_some,beq_iff_eq,Option.some.injEq]
 exact hn _ (List.getElem_mem _)
theorem rn_find {d:Addr}{k h:Int}{t:Tok}{es:List DictEntry}{n:Nat}(ho:s.heap.get? d=some (dicO es n)) (hn: ∀e∈es,e.hash≠h):Rn treeTable p w n₀ ann q₀ c 1 (dictFind d (.int k t) h) s q none s q:=by
 unfold dictFind
 refine rn_holding (rn_bind (n:=1) (m:=0) (rn_entries ho) ?_)
 dsimp only
 rw[places_none hn]
 show Rn _ _ _ _ _ _ _ _ (if ([Value.int k t].all carriedByValue)=true then _ else _) _ _ _ _ _
 rw[if_pos (show [Value.int k t].all carriedByValue=true from rfl)]
 unfold dictWalkPlain
 exact rn_pure
theorem get_update {h:Heap}{a:Addr}{f:Obj→Obj}{o:Obj}(ho:h.get? a=some o) (hf:(f o).isFreed=false):(h.update a f).get? a=some (f o):=Heap.get?_update_self f ho hf
theorem rn_pushKey {d:Addr}{pt:Option Value}{e:DictEntry}{es:List DictEntry}{n:Nat}(ho:s.heap.get? d=some (dicO es n)) (hd:n₀≤d) (hz:es.length+1≤100000):
  Rn treeTable p w n₀ ann q₀ c 3 (updateDictKeys d (·.push e) pt) s q () {s with heap:=s.heap.update d (Obj.mapDictKeys (·.push e))} q:=by
 have hg:=get_update (f:=Obj.mapDictKeys (·.push e)) ho rfl
 unfold updateDictKeys
 refine rn_bind (n:=1) (m:=2) (rn_loadPart ho) ?_
 dsimp only
 refine rn_bind (n:=1) (m:=1) (rn_updatePart ho hd) ?_
 unfold lookBehind
 refine rn_bind (n:=1) (m:=0) (rn_loadPart hg) ?_
 have:(Obj.mapDictKeys (·.push e) (dicO es n)).data.pastItsLine=none:=by
  show (Data.dict (es.toArray.push e) (n+1)).pastItsLine=none
  exact pastItsLine_dict (by rw[sizeLine_eq];simp;omega)
 rw[this]
 exact rn_pure
theorem rn_put {d:Addr}{k h:Int}{t:Tok}{v:Value}{es:List DictEntry}{n:Nat}(ho:s.heap.get? d=some (dicO es n)) (hn: ∀e∈es,e.hash≠h) (hd:n₀≤d) (hz:es.length+1≤100000):
  Rn treeTable p w n₀ ann q₀ c 4 (dictPut d h (.int k t) v) s q () {s with heap:=s.heap.update d (Obj.mapDictKeys (·.push ⟨h,.int k t,v⟩))} q:=by
 unfold dictPut
 exact rn_bind (n:=1) (m:=3) (rn_find ho hn) (rn_pushKey ho hd hz)
theorem rn_set {d:Addr}{k:Int}{t:Tok}{v:Value}{es:List DictEntry}{n:Nat}(ho:s.heap.get? d=some (dicO es n)) (hn: ∀e∈es,e.hash≠hashInt k) (hd:n₀≤d) (hz:es.length+1≤100000):
  Rn treeTable p w n₀ ann q₀ c 85 (dictSet d (.int k t) v) s q () {s with heap:=s.heap.update d (Obj.mapDictKeys (·.push ⟨hashInt k,.int k t,v⟩)),toks:=s.toks+1} q:=by
 unfold dictSet
 refine rn_holding (rn_bind (n:=80) (m:=5) rn_hash ?_)
 unfold dictSetHashed
 refine rn_holding (rn_bind (n:=1) (m:=4) (rn_find (s:={s with toks:=s.toks+1}) ho hn) ?_)
 exact rn_bind (n:=1) (m:=3) rn_rule (rn_pushKey (s:={s with toks:=s.toks+1}) ho hd hz)
end
end Mine
end
section
set_option maxRecDepth 100000
set_option maxHeartbeats 4000000
open PySem PySem.W PyProof.Rows PySem.Calls
namespace Mine
noncomputable def setO (h:Heap) (d:Addr) (o:Obj):Heap:=h.update d fun _=>o
theorem setO_update (h:Heap) (d:Addr) (o:Obj) (f:Obj→Obj):(setO h d o).update d f=setO h d (f o):=by
 obtain⟨objs,l⟩:=h
 show Heap.mk ((objs.modify d fun _=>o).modify d f) l=Heap.mk (objs.modify d fun _=>f o) l
 congr 1
 apply Array.ext_getElem?
 intro i
 simp only[Array.getElem?_modify]
 by_cases e:d=i
 ·subst e;simp[Function.comp_def]
 ·simp[e]
theorem setO_setO (h:Heap) (d:Addr) (o o':Obj):setO (setO h d o) d o'=setO h d o':=setO_update h d o _
theorem update_setO {h:Heap}{d:Addr}{o:Obj}{f:Obj→Obj}(ho:h.get? d=some o):h.update d f=setO h d (f o):=by
 have ho':h.objs[d]? =some o:=by
  unfold Heap.get? at ho
  split at ho
  ·cases ho
  ·exact ho
 obtain⟨objs,l⟩:=h
 show Heap.mk (objs.modify d f) l=Heap.mk (objs.modify d fun _=>f o) l
 congr 1
 apply Array.ext_getElem?
 intro i
 simp only[Array.getElem?_modify]
 by_cases e:d=i
 ·subst e
  have:objs[d]? =some o:=ho'
  simp[this]
 ·simp[e]
theorem setO_self {h:Heap}{d:Addr}{o:Obj}(ho:h.get? d=some o):setO h d o=h:=by
 have:h.update d id=setO h d o:=update_setO (f:=id) ho
 rw[←this]
 obtain⟨objs,l⟩:=h
 show Heap.mk (objs.modify d id) l=Heap.mk objs l
 congr 1
 apply Array.ext_getElem?
 intro i
 simp only[Array.getElem?_modify]
 by_cases e:d=i<;>simp[e]
theorem get_setO {h:Heap}{d:Addr}{o o':Obj}(ho:h.get? d=some o) (hf:o'.isFreed=false):(setO h d o').get? d=some o':=Heap.get?_update_self (fun _=>o') ho hf
theorem get_setO_ne {h:Heap}{d a:Addr}{o':Obj}(hne:a≠d):(setO h d o').get? a=h.get? a:=Heap.get?_update_ne _ _ _ _ hne
theorem setO_push {h:Heap}{d:Addr}{o x:Obj}(hne:d≠h.objs.size):setO (h.push x) d o=(setO h d o).push x:=Heap.update_push h d _ x hne
theorem setO_new {h:Heap}{o o':Obj}:setO (h.push o) h.objs.size o'=h.push o':=by
 obtain⟨objs,l⟩:=h
 show Heap.mk ((objs.push o).modify objs.size fun _=>o') l=Heap.mk (objs.push o') l
 congr 1
 apply Array.ext_getElem?
 intro i
 simp only[Array.getElem?_modify,Array.getElem?_push]
 by_cases e:objs.size=i
 ·subst e;simp
 ·simp[e,Ne.symm e]
noncomputable def entsF (st:Nat):Nat→List (Int×Str)→List DictEntry
 | _,[]=>[]
 | t,(k,x)::r=>⟨hashInt k,.int k t,.str x (t+1)⟩::entsF st (t+st) r
theorem entsF_length (st:Nat): ∀(L:List (Int×Str)) (t:Nat),(entsF st t L).length=L.length
 | [],_=>rfl
 | (k,x)::r,t=>by simp only[entsF,List.length_cons,entsF_length st r]
theorem entsF_hash (st:Nat): ∀(L:List (Int×Str)) (t:Nat),(entsF st t L).map (·.hash)=L.map fun d=>hashInt d.1
 | [],_=>rfl
 | (k,x)::r,t=>by simp only[entsF,List.map_cons,entsF_hash st r]
theorem entsF_tab (st:Nat): ∀(L:List (Int×Str)) (t:Nat),TabIs (entsF st t L) L
 | [],_=>.nil
 | (k,x)::r,t=>.cons k t x (t+1) (entsF_tab st r (t+st))
theorem TabIs.append {a b:List DictEntry}{l m:List (Int×Str)}(h:TabIs a l) (k:TabIs b m):TabIs (a++b) (l++m):=by
 induction h with
 | nil=>exact k
 | cons i t v u h ih=>exact .cons i t v u ih
section
variable (p:Program) (w:World) (n₀:Nat) (ann:Option Value) (q₀:Pos) (c:Code) (pos:Pos)
structure PairIs (P:Sem Value×Sem Value) (d:Int×Str):Prop where
 key: ∀s q,Rn treeTable p w n₀ ann q₀ c 1 P.1 s q (.int d.1 s.toks) {s with toks:=s.toks+1} q
 val: ∀s q,Rn treeTable p w n₀ ann q₀ c 2 P.2 s q (.str d.2 s.toks) {s with toks:=s.toks+1} pos
inductive PairsAre:List (Sem Value×Sem Value)→List (Int×Str)→Prop
 | nil:PairsAre [] []
 | cons {P d Ps L} (h:PairIs p w n₀ ann q₀ c pos P d) (r:PairsAre Ps L):PairsAre (P::Ps) (d::L)
end
section
variable {p:Program}{w:World}{n₀:Nat}{ann:Option Value}{q₀:Pos}{c:Code}{α β:Type}{s s₁ s₂ s':Shared}{q q₁ q₂ q' pos:Pos}
theorem PairsAre.length {Ps:List (Sem Value×Sem Value)}{L:List (Int×Str)}(h:PairsAre p w n₀ ann q₀ c pos Ps L):Ps.length=L.length:=by
 induction h with
 | nil=>rfl
 | cons _ _ ih=>simp[ih]
theorem rn_long {d:Addr}{Ps:List (Sem Value×Sem Value)}{L:List (Int×Str)}(h:PairsAre p w n₀ ann q₀ c pos Ps L): ∀{s:Shared}{q:Pos}{es:List DictEntry}{n:Nat},s.heap.get? d=some (dicO es n)→n₀≤d→es.length+L.length≤100000→
  (es.map (·.hash)++L.map fun d=>hashInt d.1).Nodup→
  Rn treeTable p w n₀ ann q₀ c (90*L.length) (forIn Ps PUnit.unit fun (x:Sem Value×Sem Value) (_:PUnit)=>(do let kv ←x.1;let vv ←holding [kv] x.2;holding [kv,vv] (dictSet d kv vv);pure (ForInStep.yield PUnit.unit):Sem (ForInStep PUnit))) s q PUnit.unit
   {s with heap:=setO s.heap d (dicO (es++entsF 3 s.toks L) (n+L.length)),toks:=s.toks+3*L.length} (if L.isEmpty then q else pos):=by
 induction h with
 | nil=>
  intro s q es n ho hd hz hn
  rw[List.forIn_nil]
  have e:{s with heap:=setO s.heap d (dicO (es++entsF 3 s.toks []) (n+([]:List (Int×Str)).length)),toks:=s.toks+3*([]:List (Int×Str)).length}=s:=by
   have:es++entsF 3 s.toks []=es:=by simp[entsF]
   rw[this]
   show ({s with heap:=setO s.heap d (dicO es n),toks:=s.toks}:Shared)=s
   rw[setO_self ho]
  rw[e]
  exact rn_pure
 | @cons P dd Ps L hP hr ih=>
  intro s q es n ho hd hz hn
  obtain⟨k,x⟩:=dd
  rw[List.forIn_cons]
  rw[List.map_cons] at hn
  have hn':=List.nodup_append.mp hn
  simp only[List.length_cons] at hz
  refine Rn.le (rn_bind (n:=88) (a:=ForInStep.yield PUnit.unit) (s₁:={s with heap:=setO s.heap d (dicO (es++[⟨hashInt k,.int k s.toks,.str x (s.toks+1)⟩]) (n+1)),toks:=s.toks+3}) (q₁:=pos) ?_ (m:=90*L.length) ?_) (by simp only[List.length_cons];omega)
  ·refine rn_bind (n:=1) (m:=87) (hP.key s q) ?_
   refine rn_bind (n:=2) (m:=85) (rn_holding (hP.val {s with toks:=s.toks+1} q)) ?_
   refine rn_bind (n:=85) (m:=0) (a:=()) (rn_holding (rn_set (s:={s with toks:=s.toks+1+1}) (d:=d) (es:=es) (n:=n) ho (fun e he=> ?_) hd (by omega))) ?_
   ·exact hn'.2.2 _ (List.mem_map_of_mem he) _ (.head _)
   ·have:s.heap.update d (Obj.mapDictKeys fun x_1=>x_1.push ⟨hashInt k,.int k s.toks,.str x (s.toks+1)⟩)=setO s.heap d (dicO (es++[⟨hashInt k,.int k s.toks,.str x (s.toks+1)⟩]) (n+1)):=by
     rw[update_setO ho]
     congr 1
     show (⟨_,_,Data.dict (es.toArray.push _) (n+1),_⟩:Obj)=_
     rw[List.push_toArray]
    show Rn _ _ _ _ _ _ _ _ _ {s with heap:=s.heap.update d _,toks:=s.toks+1+1+1} _ _ _ _
    rw[this]
    exact rn_pure
  ·have:=ih (s:={s with heap:=setO s.heap d (dicO (es++[⟨hashInt k,.int k s.toks,.str x (s.toks+1)⟩]) (n+1)),toks:=s.toks+3}) (q:=pos) (es:=es++[⟨hashInt k,.int k s.toks,.str x (s.toks+1)⟩]) (n:=n+1) (get_setO ho rfl) hd (by simp;omega) (by simpa using hn)
   have e:({s with heap:=setO (setO s.heap d (dicO (es++[⟨hashInt k,.int k s.toks,.str x (s.toks+1)⟩]) (n+1))) d (dicO (es++[⟨hashInt k,.int k s.toks,.str x (s.toks+1)⟩]++entsF 3 (s.toks+3) L) (n+1+L.length)),toks:=s.toks+3+3*L.length}:Shared)=
     {s with heap:=setO s.heap d (dicO (es++entsF 3 s.toks ((k,x)::L)) (n+((k,x)::L).length)),toks:=s.toks+3*((k,x)::L).length}:=by
    rw[setO_setO]
    have e1:es++[⟨hashInt k,.int k s.toks,.str x (s.toks+1)⟩]++entsF 3 (s.toks+3) L=es++entsF 3 s.toks ((k,x)::L):=by simp[entsF]
    have e2:n+1+L.length=n+((k,x)::L).length:=by simp;omega
    have e3:s.toks+3+3*L.length=s.toks+3*((k,x)::L).length:=by simp;omega
    rw[e1,e2,e3]
   dsimp only at this
   rw[e] at this
   have hq:(if L.isEmpty=true then pos else pos)=(if ((k,x)::L).isEmpty=true then q else pos):=by simp
   rw[hq] at this
   exact this
theorem rn_subLong {Ps:List (Sem Value×Sem Value)}{L:List (Int×Str)}(h:PairsAre p w n₀ ann q₀ c pos Ps L) (hl:15<Ps.length) (hd:n₀≤s.heap.objs.size) (hz:L.length≤100000) (hn:(L.map fun d=>hashInt d.1).Nodup):
  Rn treeTable p w n₀ ann q₀ c (90*L.length+2) (subDict Ps) s q s.heap.objs.size {s with heap:=s.heap.push (dicO (entsF 3 s.toks L) L.length),toks:=s.toks+3*L.length} pos:=by
 unfold subDict
 refine Rn.le (rn_bind (n:=1) (m:=1+90*L.length+0) rn_alloc ?_) (by omega)
 refine rn_bind (m:=0) (a:=PUnit.unit) (rn_holding ?_) rn_pure
 rw[if_neg (by omega)]
 refine rn_bind (n:=1) rn_rule ?_
 have:=rn_long h (s:={s with heap:=s.heap.push {cls:=.type "dict",data:=.dict #[]}}) (q:=q) (d:=s.heap.objs.size) (es:=[]) (n:=0) (Heap.get?_push_size _ rfl) hd (by simpa using hz) (by simpa using hn)
 dsimp only at this
 rw[setO_new] at this
 have hq:(if L.isEmpty=true then q else pos)=pos:=by
  have:=h.length
  cases L with
  | nil=>simp at this;subst this;simp at hl
  | cons _ _=>rfl
 rw[hq] at this
 simpa using this
theorem rn_pairs {Ps:List (Sem Value×Sem Value)}{L:List (Int×Str)}(h:PairsAre p w n₀ ann q₀ c pos Ps L): ∀{s:Shared}{q:Pos},∃vs,(∀e,vs=e→True)∧Rn treeTable p w n₀ ann q₀ c (3*L.length) (evalPairs Ps) s q vs {s with toks:=s.toks+2*L.length} (if L.isEmpty then q else pos)∧vs=(entsF 2 s.toks L).map fun e=>(e.key,e.val):=by
 induction h with
 | nil=>intro s q;exact⟨[],fun _ _=>trivial,rn_pure,rfl⟩
 | @cons P dd Ps L hP hr ih=>
  intro s q
  obtain⟨k,x⟩:=dd
  obtain⟨vs, -,hv,rfl⟩:=ih (s:={s with toks:=s.toks+2}) (q:=pos)
  refine⟨_,fun _ _=>trivial,?_,rfl⟩
  unfold evalPairs
  refine Rn.le (rn_bind (n:=1) (hP.key s q) (rn_bind (n:=2) (rn_holding (hP.val {s with toks:=s.toks+1} q)) (m:=3*L.length+0) ?_)) (by simp only[List.length_cons];omega)
  have hq:(if L.isEmpty=true then pos else pos)=(if ((k,x)::L).isEmpty=true then q else pos):=by simp
  rw[hq] at hv
  have e3:s.toks+2+2*L.length=s.toks+2*((k,x)::L).length:=by simp;omega
  dsimp only at hv
  rw[e3] at hv
  exact rn_bind (rn_holding hv) rn_pure
theorem rn_stores {d:Addr}: ∀(L:List (Int×Str)) {t:Nat}{s:Shared}{q:Pos}{es:List DictEntry}{n:Nat},s.heap.get? d=some (dicO es n)→n₀≤d→es.length+L.length≤100000→(es.map (·.hash)++L.map fun d=>hashInt d.1).Nodup→
  Rn treeTable p w n₀ ann q₀ c (90*L.length) (forIn ((entsF 2 t L).map fun e=>(e.key,e.val)) PUnit.unit fun (x:Value×Value) (_:PUnit)=>(do dictSet d x.1 x.2;pure (ForInStep.yield PUnit.unit):Sem (ForInStep PUnit))) s q PUnit.unit
   {s with heap:=setO s.heap d (dicO (es++entsF 2 t L) (n+L.length)),toks:=s.toks+L.length} q
 | [],t,s,q,es,n,ho,hd,hz,hn=>by
  have e:{s with heap:=setO s.heap d (dicO (es++entsF 2 t []) (n+([]:List (Int×Str)).length)),toks:=s.toks+([]:List (Int×Str)).length}=s:=by
   have:es++entsF 2 t []=es:=by simp[entsF]
   rw[this]
   show ({s with heap:=setO s.heap d (dicO es n),toks:=s.toks}:Shared)=s
   rw[setO_self ho]
  rw[e]
  show Rn _ _ _ _ _ _ _ _ (forIn [] _ _) _ _ _ _ _
  rw[List.forIn_nil]
  exact rn_pure
 | (k,x)::L,t,s,q,es,n,ho,hd,hz,hn=>by
  show Rn _ _ _ _ _ _ _ _ (forIn (_::_) _ _) _ _ _ _ _
  rw[List.forIn_cons]
  rw[List.map_cons] at hn
  have hn':=List.nodup_append.mp hn
  simp only[List.length_cons] at hz
  refine Rn.le (rn_bind (n:=85) (m:=90*L.length) (a:=ForInStep.yield PUnit.unit) (s₁:={s with heap:=setO s.heap d (dicO (es++[⟨hashInt k,.int k t,.str x (t+1)⟩]) (n+1)),toks:=s.toks+1}) (q₁:=q) ?_ ?_) (by simp only[List.length_cons];omega)
  ·refine rn_bind (n:=85) (m:=0) (a:=()) (rn_set (d:=d) (es:=es) (n:=n) ho (fun e he=> ?_) hd (by omega)) ?_
   ·exact hn'.2.2 _ (List.mem_map_of_mem he) _ (.head _)
   ·have:s.heap.update d (Obj.mapDictKeys fun x_1=>x_1.push ⟨hashInt k,.int k t,.str x (t+1)⟩)=setO s.heap d (dicO (es++[⟨hashInt k,.int k t,.str x (t+1)⟩]) (n+1)):=by
     rw[update_setO ho]
     congr 1
     show (⟨_,_,Data.dict (es.toArray.push _) (n+1),_⟩:Obj)=_
     rw[List.push_toArray]
    rw[this]
    exact rn_pure
  ·have:=rn_stores L (t:=t+2) (s:={s with heap:=setO s.heap d (dicO (es++[⟨hashInt k,.int k t,.str x (t+1)⟩]) (n+1)),toks:=s.toks+1}) (q:=q) (es:=es++[⟨hashInt k,.int k t,.str x (t+1)⟩]) (n:=n+1) (get_setO ho rfl) hd (by simp;omega) (by simpa using hn)
   dsimp only at this
   have e:({s with heap:=setO (setO s.heap d (dicO (es++[⟨hashInt k,.int k t,.str x (t+1)⟩]) (n+1))) d (dicO (es++[⟨hashInt k,.int k t,.str x (t+1)⟩]++entsF 2 (t+2) L) (n+1+L.length)),toks:=s.toks+1+L.length}:Shared)=
     {s with heap:=setO s.heap d (dicO (es++entsF 2 t ((k,x)::L)) (n+((k,x)::L).length)),toks:=s.toks+((k,x)::L).length}:=by
    rw[setO_setO]
    have e1:es++[⟨hashInt k,.int k t,.str x (t+1)⟩]++entsF 2 (t+2) L=es++entsF 2 t ((k,x)::L):=by simp[entsF]
    have e2:n+1+L.length=n+((k,x)::L).length:=by simp;omega
    have e3:s.toks+1+L.length=s.toks+((k,x)::L).length:=by simp;omega
    rw[e1,e2,e3]
   rw[e] at this
   exact this
theorem rn_subShort {Ps:List (Sem Value×Sem Value)}{L:List (Int×Str)}(h:PairsAre p w n₀ ann q₀ c pos Ps L) (hl:Ps.length≤15) (h0:L≠[]) (hd:n₀≤s.heap.objs.size) (hn:(L.map fun d=>hashInt d.1).Nodup):
  Rn treeTable p w n₀ ann q₀ c (100*L.length+2) (subDict Ps) s q s.heap.objs.size {s with heap:=s.heap.push (dicO (entsF 2 s.toks L) L.length),toks:=s.toks+3*L.length} pos:=by
 unfold subDict
 refine Rn.le (rn_bind (n:=1) (m:=3*L.length+90*L.length+0) rn_alloc ?_) (by omega)
 refine rn_bind (m:=0) (a:=PUnit.unit) (rn_holding ?_) rn_pure
 rw[if_pos hl]
 obtain⟨vs, -,hv,rfl⟩:=rn_pairs h (s:={s with heap:=s.heap.push {cls:=.type "dict",data:=.dict #[]}}) (q:=q)
 have hq:(if L.isEmpty=true then q else pos)=pos:=by cases L with | nil=>exact absurd rfl h0 | cons _ _=>rfl
 rw[hq] at hv
 refine rn_bind hv (rn_holding ?_)
 have:=rn_stores L (t:=s.toks) (s:={s with heap:=s.heap.push {cls:=.type "dict",data:=.dict #[]},toks:=s.toks+2*L.length}) (q:=pos) (d:=s.heap.objs.size) (es:=[]) (n:=0) (p:=p) (w:=w) (n₀:=n₀) (ann:=ann) (q₀:=q₀) (c:=c) (Heap.get?_push_size _ rfl) hd (by have:=h.length;simp;omega) (by simpa using hn)
 dsimp only at this
 rw[setO_new] at this
 have e3:s.toks+2*L.length+L.length=s.toks+3*L.length:=by omega
 rw[e3] at this
 simpa using this
end
end Mine
end
section
set_option maxRecDepth 100000
set_option maxHeartbeats 4000000
open PySem PySem.W PyProof.Rows PySem.Calls
namespace Mine
section
variable {p:Program}{w:World}{n₀:Nat}{ann:Option Value}{q₀:Pos}{c:Code}{α β:Type}{s s₁ s₂ s':Shared}{q q₁ q₂ q' pos:Pos}
theorem rn_typeD {a:Addr}{es:List DictEntry}{n:Nat}(ho:s.heap.get? a=some (dicO es n)):Rn treeTable p w n₀ ann q₀ c 1 (typeOf (.ref a)) s q (.type "dict") s q:=rn_bind (n:=1) (m:=0) (rn_loadPart ho) rn_pure
theorem rn_subD:Rn treeTable p w n₀ ann q₀ c 30 (isSubtype (.type "dict") (.type "dict")) s q true s q:=
 rn_seg (res:=fun b=>match b with | true=>.next | false=>.brk) (n:=30) (f:=.next) (fun gd lv=>by
  rw[show @isSubtype=PySem.W.Fast.tw16098473122060591676 from PySem.W.Fast.te16098473122060591676,seg_q,tab_q]
  kernel_rfl) (fun b hb=>by cases b with | true=>rfl | false=>cases hb)
theorem rn_lookD:Rn treeTable p w n₀ ann q₀ c 30 (typeLookup (.type "dict") "__iter__") s q (some (.builtin "dict.__iter__")) s q:=
 rn_seg (res:=fun h=>match h with | some v=>.ret v | none=>.brk) (n:=30) (f:=.ret (.builtin "dict.__iter__")) (fun gd lv=>by
  rw[show @typeLookup=PySem.W.Fast.tw1381439984260040727 from PySem.W.Fast.te1381439984260040727,seg_q,tab_q]
  kernel_rfl) (fun b hb=>by cases b with | none=>cases hb | some v=>cases hb;rfl)
noncomputable def IntE (es:List DictEntry):Prop:= ∀e∈es,∃k t,e.key= .int k t
theorem entsF_int (st:Nat): ∀(L:List (Int×Str)) (t:Nat),IntE (entsF st t L)
 | [],_=>fun e he=>by cases he
 | (k,x)::r,t=>fun e he=>by
  rcases List.mem_cons.mp he with rfl | he
  ·exact⟨k,t,rfl⟩
  ·exact entsF_int st r _ e he
theorem rn_mergeLoop {d a:Addr}{S:List DictEntry}{m:Nat}(hi:IntE S) (hne:a≠d) (hd:n₀≤d)
  (f:Nat→PUnit→Sem (ForInStep PUnit)) (hf: ∀(i:Nat) (e:DictEntry) (s:Shared) (q:Pos) (es:List DictEntry) (n:Nat),S[i]? =some e→s.heap.get? d=some (dicO es n)→s.heap.get? a=some (dicO S m)→(∀e'∈es,e'.hash≠e.hash)→es.length+1≤100000→
   Rn treeTable p w n₀ ann q₀ c 6 (f i PUnit.unit) s q (.yield PUnit.unit) {s with heap:=setO s.heap d (dicO (es++[e]) (n+1))} q):
  ∀(j i:Nat) (s:Shared) (es:List DictEntry) (n:Nat),i+j=S.length→s.heap.get? d=some (dicO es n)→s.heap.get? a=some (dicO S m)→es.length+j≤100000→(es.map (·.hash)++(S.drop i).map (·.hash)).Nodup→
   Rn treeTable p w n₀ ann q₀ c (6*j) (forIn (List.range' i j) PUnit.unit f) s q PUnit.unit {s with heap:=setO s.heap d (dicO (es++S.drop i) (n+j))} q
 | 0,i,s,es,n,hl,ho,ha,hz,hn=>by
  have e:S.drop i=[]:=List.drop_of_length_le (by omega)
  rw[List.range'_zero,List.forIn_nil,e,List.append_nil]
  have:({s with heap:=setO s.heap d (dicO es (n+0))}:Shared)=s:=by
   rw[Nat.add_zero,setO_self ho]
  rw[this]
  exact rn_pure
 | j+1,i,s,es,n,hl,ho,ha,hz,hn=>by
  have hi':i<S.length:=by omega
  have hd':S.drop i=S[i]::S.drop (i+1):=List.drop_eq_getElem_cons hi'
  rw[hd',List.map_cons] at hn
  have hn':=List.nodup_append.mp hn
  rw[List.range'_succ,List.forIn_cons]
  refine Rn.le (rn_bind (n:=6) (m:=6*j) (hf i S[i] s q es n (List.getElem?_eq_getElem hi') ho ha (fun e' he=>hn'.2.2 _ (List.mem_map_of_mem he) _ (.head _)) (by omega)) ?_) (by omega)
  have:=rn_mergeLoop hi hne hd f hf j (i+1) {s with heap:=setO s.heap d (dicO (es++[S[i]]) (n+1))} (es++[S[i]]) (n+1) (by omega) (get_setO ho rfl) (by rw[get_setO_ne hne];exact ha) (by simp;omega) (by simpa using hn)
  dsimp only at this
  rw[setO_setO] at this
  rw[hd']
  have e1:es++[S[i]]++S.drop (i+1)=es++S[i]::S.drop (i+1):=by simp
  have e2:n+1+j=n+(j+1):=by omega
  rw[e1,e2] at this
  exact this
theorem rn_merge {d a:Addr}{S es:List DictEntry}{m n:Nat}(hi:IntE S) (hne:a≠d) (hd:n₀≤d) (ho:s.heap.get? d=some (dicO es n)) (ha:s.heap.get? a=some (dicO S m)) (hs:(a==sysModules)=false) (h0:es≠[]) (hz:es.length+S.length≤100000) (hn:(es.map (·.hash)++S.map (·.hash)).Nodup):
  Rn treeTable p w n₀ ann q₀ c (70+6*S.length) (mergeMapping d (.ref a) false) s q () {s with heap:=setO s.heap d (dicO (es++S) (n+S.length))} q:=by
 unfold mergeMapping isInstance specialOf
 refine Rn.le (rn_bind (n:=1+30) (m:=1+30+(0+(1+(1+(1+(6*S.length+0)))))) (a:=true) (rn_bind (rn_typeD ha) rn_subD) ?_) (by omega)
 rw[if_pos rfl]
 refine rn_bind (rn_bind (rn_typeD ha) rn_lookD) ?_
 rw[beq_self_eq_true]
 refine rn_bind rn_pure ?_
 dsimp only
 rw[hs,if_neg (by decide)]
 refine rn_bind (rn_entries ho) ?_
 rw[if_neg (by cases es with | nil=>exact absurd rfl h0 | cons _ _=>simp)]
 refine rn_bind (rn_entries ha) ?_
 refine rn_bind (rn_epoch ha) ?_
 have e:List.range S.toArray.size=List.range' 0 S.length:=by rw[List.range_eq_range'];simp
 rw[e]
 rw[show es++S=es++S.drop 0 by simp]
 refine rn_bind (rn_mergeLoop hi hne hd _ (fun i e s q es n hS ho ha hh hz=> ?_) S.length 0 s es n (by omega) ho ha hz (by simpa using hn)) rn_pure
 ·refine rn_bind (n:=1) (m:=5) (rn_entries ha) ?_
  have:S.toArray[i]? =some e:=by simpa using hS
  rw[this]
  dsimp only
  obtain⟨k,t,hk⟩:=hi e (List.mem_of_getElem? hS)
  obtain⟨h,key,v⟩:=e
  dsimp only at hk hh
  subst hk
  refine rn_bind (n:=4) (m:=1+0) (a:=()) (rn_holding (by rw[if_neg (by decide)];exact rn_put ho hh hd (by omega))) ?_
  have e2:s.heap.update d (Obj.mapDictKeys fun x=>x.push ⟨h,.int k t,v⟩)=setO s.heap d (dicO (es++[⟨h,.int k t,v⟩]) (n+1)):=by
   rw[update_setO ho]
   congr 1
   show (⟨_,_,Data.dict (es.toArray.push _) (n+1),_⟩:Obj)=_
   rw[List.push_toArray]
  rw[e2]
  refine rn_bind (rn_epoch (es:=S) (n:=m) (by show (setO s.heap d _).get? a=_;rw[get_setO_ne hne];exact ha)) ?_
  rw[if_neg (by simp)]
  exact rn_pure
end
end Mine
end
section
set_option maxRecDepth 100000
set_option maxHeartbeats 4000000
open PySem PySem.W PyProof.Rows PySem.Calls
namespace Mine
noncomputable def pushL (h:Heap) (os:List Obj):Heap:=os.foldl Heap.push h
theorem pushL_snoc (h:Heap) (os:List Obj) (o:Obj):pushL h (os++[o])=(pushL h os).push o:=by unfold pushL;rw[List.foldl_append];rfl
theorem size_push (h:Heap) (o:Obj):(h.push o).objs.size=h.objs.size+1:=Heap.size_push h o
theorem size_pushL (os:List Obj): ∀(h:Heap),(pushL h os).objs.size=h.objs.size+os.length:=by
 induction os with
 | nil=>intro h;rfl
 | cons o os ih=>intro h;show (pushL (h.push o) os).objs.size=_;rw[ih,size_push];simp;omega
theorem get_pushL {os:List Obj}: ∀{h:Heap}{a:Addr}{o:Obj},h.get? a=some o→(pushL h os).get? a=some o:=by
 induction os with
 | nil=>intro h a o e;exact e
 | cons x os ih=>intro h a o e;exact ih (Heap.get?_push_of_some _ e)
theorem setO_pushL {os:List Obj}: ∀{h:Heap}{d:Addr}{o:Obj},d<h.objs.size→setO (pushL h os) d o=pushL (setO h d o) os:=by
 induction os with
 | nil=>intro h d o _;rfl
 | cons x os ih=>
  intro h d o hd
  show setO (pushL (h.push x) os) d o=pushL ((setO h d o).push x) os
  rw[ih (by rw[size_push];exact Nat.lt_succ_of_lt hd),setO_push (h:=h) (d:=d) (Nat.ne_of_lt hd)]
noncomputable def stD (s:Shared) (h:Heap) (E:List DictEntry) (n:Nat) (subs:List Obj) (t:Nat):Shared:={s with heap:=pushL (h.push (dicO E n)) subs,toks:=t}
theorem stD_main {s:Shared}{h:Heap}{E:List DictEntry}{n:Nat}{subs:List Obj}{t:Nat}:(stD s h E n subs t).heap.get? h.objs.size=some (dicO E n):=get_pushL (Heap.get?_push_size _ rfl)
theorem stD_size {s:Shared}{h:Heap}{E:List DictEntry}{n:Nat}{subs:List Obj}{t:Nat}:(stD s h E n subs t).heap.objs.size=h.objs.size+1+subs.length:=by
 show (pushL _ _).objs.size=_
 rw[size_pushL,size_push]
noncomputable def flushS (run:List (Sem Value×Sem Value)) (m:Option Addr):Sem (Option Addr):=
 if run.isEmpty then pure m else match m with
  | none=>do let d ←subDict run;pure (some d)
  | some d=>do
   let sub ←holding [.ref d] (subDict run)
   (holding [.ref d,.ref sub] (mergeMapping d (.ref sub) false)).onRaise fun x=>do let _ ←holding [.ref d,x] (runValue (.builtin "proto.let_go" {}));pure ()
   pure (some d)
noncomputable abbrev LoopF:=Option (Sem Value)×Sem Value→Option Addr×List (Sem Value×Sem Value)→Sem (ForInStep (Option Addr×List (Sem Value×Sem Value)))
structure IsTurn (f:LoopF):Prop where
 low: ∀(P:Sem Value×Sem Value) (m:Option Addr) (run:List (Sem Value×Sem Value)),run.length+1<17→f (some P.1,P.2) (m,run)=pure (.yield (m,run++[P]))
 full: ∀(P:Sem Value×Sem Value) (m:Option Addr) (run:List (Sem Value×Sem Value)),run.length+1=17→f (some P.1,P.2) (m,run)=(do let m' ←flushS (run++[P]) m;pure (.yield (m',[])))
noncomputable abbrev soP (Ps:List (Sem Value×Sem Value)):List (Option (Sem Value)×Sem Value):=Ps.map fun P=>(some P.1,P.2)
theorem gather {f:LoopF}(F:IsTurn f): ∀(Ps:List (Sem Value×Sem Value)) (m:Option Addr) (run:List (Sem Value×Sem Value)),run.length+Ps.length<17→forIn (soP Ps) (m,run) f=pure (m,run++Ps)
 | [],m,run,_=>by simp
 | P::Ps,m,run,h=>by
  simp only[List.length_cons] at h
  show forIn ((some P.1,P.2)::soP Ps) (m,run) f=_
  rw[List.forIn_cons,F.low P m run (by omega),pure_bind]
  have:=gather F Ps m (run++[P]) (by simp;omega)
  simpa using this
theorem gather17 {f:LoopF}(F:IsTurn f) (R:List (Sem Value×Sem Value)): ∀(Ps:List (Sem Value×Sem Value)) (P:Sem Value×Sem Value) (m:Option Addr) (run:List (Sem Value×Sem Value)),run.length+Ps.length+1=17→
  forIn (soP (Ps++P::R)) (m,run) f=(do let m' ←flushS (run++Ps++[P]) m;forIn (soP R) (m',([]:List (Sem Value×Sem Value))) f)
 | [],P,m,run,h=>by
  show forIn ((some P.1,P.2)::soP R) (m,run) f=_
  rw[List.forIn_cons,F.full P m run (by simpa using h)]
  simp
 | A::Ps,P,m,run,h=>by
  simp only[List.length_cons] at h
  show forIn ((some A.1,A.2)::soP (Ps++P::R)) (m,run) f=_
  rw[List.forIn_cons,F.low A m run (by omega),pure_bind]
  have:=gather17 F R Ps P m (run++[A]) (by simp;omega)
  simpa using this
theorem gatherA {f:LoopF}(F:IsTurn f) {A R:List (Sem Value×Sem Value)}{m:Option Addr}(h:A.length=17):forIn (soP (A++R)) (m,([]:List (Sem Value×Sem Value))) f=(do let m' ←flushS A m;forIn (soP R) (m',([]:List (Sem Value×Sem Value))) f):=by
 have hne:A≠[]:=by intro e;rw[e] at h;cases h
 have e:=List.dropLast_concat_getLast hne
 have:=gather17 F R A.dropLast (A.getLast hne) m [] (by simp[h])
 rw[List.nil_append] at this
 have e2:A.dropLast++A.getLast hne::R=A++R:=by conv=>rhs;rw[←e];simp
 rw[e2] at this
 rw[e] at this
 exact this
section
variable {p:Program}{w:World}{n₀:Nat}{ann:Option Value}{q₀:Pos}{c:Code}{α β:Type}{s s₁ s₂ s':Shared}{q q₁ q₂ q' pos:Pos}
theorem rn_flush0 {A:List (Sem Value×Sem Value)}{LA:List (Int×Str)}(h:PairsAre p w n₀ ann q₀ c pos A LA) (hl:A.length=17) (hd:n₀≤s.heap.objs.size) (hn:(LA.map fun d=>hashInt d.1).Nodup):
  Rn treeTable p w n₀ ann q₀ c 1600 (flushS A none) s q (some s.heap.objs.size) (stD s s.heap (entsF 3 s.toks LA) 17 [] (s.toks+51)) pos:=by
 unfold flushS
 rw[if_neg (by cases A with | nil=>cases hl | cons _ _=>simp)]
 have e:=h.length
 have:=rn_subLong h (s:=s) (q:=q) (by omega) hd (by omega) hn
 rw[←e,hl] at this
 exact Rn.le (rn_bind this rn_pure) (by decide)
theorem rn_flush1 {A:List (Sem Value×Sem Value)}{LA:List (Int×Str)}{h:Heap}{E:List DictEntry}{n:Nat}{subs:List Obj}{t m:Nat}{es:List DictEntry}(hne:A≠[]) (hs:sysModules<h.objs.size) (hd:n₀≤h.objs.size) (h0:E≠[]) (hz:E.length+es.length≤100000)
  (hi:IntE es) (hn:(E.map (·.hash)++es.map (·.hash)).Nodup) {t':Nat}
  (hsub:Rn treeTable p w n₀ ann q₀ c m (subDict A) (stD s h E n subs t) q (stD s h E n subs t).heap.objs.size {stD s h E n subs t with heap:=(stD s h E n subs t).heap.push (dicO es es.length),toks:=t'} pos):
  Rn treeTable p w n₀ ann q₀ c (m+(70+6*es.length)) (flushS A (some h.objs.size)) (stD s h E n subs t) q (some h.objs.size) (stD s h (E++es) (n+es.length) (subs++[dicO es es.length]) t') pos:=by
 unfold flushS
 rw[if_neg (by cases A with | nil=>exact absurd rfl hne | cons _ _=>simp)]
 refine rn_bind (rn_holding hsub) ?_
 have hsz:=stD_size (s:=s) (h:=h) (E:=E) (n:=n) (subs:=subs) (t:=t)
 have key:Rn treeTable p w n₀ ann q₀ c (70+6*es.length) (mergeMapping h.objs.size (.ref (stD s h E n subs t).heap.objs.size) false) {stD s h E n subs t with heap:=(stD s h E n subs t).heap.push (dicO es es.length),toks:=t'} pos () _ pos:=
  rn_merge (s:={stD s h E n subs t with heap:=(stD s h E n subs t).heap.push (dicO es es.length),toks:=t'}) (es:=E) (n:=n) (S:=es) (m:=es.length) hi (by rw[hsz];exact Nat.ne_of_gt (by omega)) hd (Heap.get?_push_of_some _ (stD_main (s:=s) (t:=t))) (Heap.get?_push_size _ rfl) (by rw[hsz];exact beq_eq_false_iff_ne.mpr (Nat.ne_of_gt (Nat.lt_of_lt_of_le hs (by omega)))) h0 hz hn
 refine rn_bind (m:=0) (rn_onRaise (rn_holding key)) ?_
 have e:({s with heap:=setO ((stD s h E n subs t).heap.push (dicO es es.length)) h.objs.size (dicO (E++es) (n+es.length)),toks:=t'}:Shared)=stD s h (E++es) (n+es.length) (subs++[dicO es es.length]) t':=by
  unfold stD
  congr 1
  dsimp only
  rw[pushL_snoc,setO_push (h:=pushL (h.push (dicO E n)) subs) (d:=h.objs.size) (by rw[size_pushL,size_push];exact Nat.ne_of_lt (by omega)),setO_pushL (by rw[size_push];exact Nat.lt_succ_self _),setO_new]
 show Rn _ _ _ _ _ _ _ _ _ {s with heap:=setO ((stD s h E n subs t).heap.push (dicO es es.length)) h.objs.size (dicO (E++es) (n+es.length)),toks:=t'} _ _ _ _
 rw[e]
 exact rn_pure
end
end Mine
end
section
set_option maxRecDepth 100000
set_option maxHeartbeats 4000000
open PySem PySem.W PyProof.Rows PySem.Calls
namespace Mine
noncomputable def subsF:Nat→Nat→List (Int×Str)→List Obj
 | 0,_,_=>[]
 | j+1,t,L=>dicO (entsF 3 t (L.take 17)) 17::subsF j (t+51) (L.drop 17)
theorem entsF_app (st:Nat): ∀(A B:List (Int×Str)) (t:Nat),entsF st t (A++B)=entsF st t A++entsF st (t+st*A.length) B
 | [],B,t=>by simp[entsF]
 | (k,x)::A,B,t=>by
  simp only[List.cons_append,entsF,entsF_app st A B,List.length_cons]
  have e:t+st+st*A.length=t+st*(A.length+1):=by rw[Nat.mul_add];omega
  rw[e]
section
variable {p:Program}{w:World}{n₀:Nat}{ann:Option Value}{q₀:Pos}{c:Code}{α β:Type}{s s₁ s₂ s':Shared}{q q₁ q₂ q' pos:Pos}
theorem PairsAre.take {Ps:List (Sem Value×Sem Value)}{L:List (Int×Str)}(h:PairsAre p w n₀ ann q₀ c pos Ps L): ∀k,PairsAre p w n₀ ann q₀ c pos (Ps.take k) (L.take k):=by
 induction h with
 | nil=>intro k;simp;exact .nil
 | cons h r ih=>intro k;cases k with | zero=>exact .nil | succ k=>simpa using .cons h (ih k)
theorem PairsAre.drop {Ps:List (Sem Value×Sem Value)}{L:List (Int×Str)}(h:PairsAre p w n₀ ann q₀ c pos Ps L): ∀k,PairsAre p w n₀ ann q₀ c pos (Ps.drop k) (L.drop k):=by
 induction h with
 | nil=>intro k;simp;exact .nil
 | cons h r ih=>intro k;cases k with | zero=>exact .cons h r | succ k=>simpa using ih k
theorem rn_eq {x y:Sem α}{a:α}{n:Nat}(h:Rn treeTable p w n₀ ann q₀ c n x s q a s' q') (e:y=x):Rn treeTable p w n₀ ann q₀ c n y s q a s' q':=e ▸ h
theorem rn_mids {f:LoopF}(F:IsTurn f) {s:Shared}{h:Heap}(hs:sysModules<h.objs.size) (hd:n₀≤h.objs.size) {res:Option Addr×List (Sem Value×Sem Value)}{s':Shared}{q':Pos}{m:Nat}:
  ∀(j:Nat) {Ps:List (Sem Value×Sem Value)}{L:List (Int×Str)}{E:List DictEntry}{n:Nat}{subs:List Obj}{t:Nat}{q:Pos},PairsAre p w n₀ ann q₀ c pos Ps L→17*j≤L.length→E≠[]→E.length+L.length≤100000→(E.map (·.hash)++L.map fun d=>hashInt d.1).Nodup→
  Rn treeTable p w n₀ ann q₀ c m (forIn (soP (Ps.drop (17*j))) (some h.objs.size,([]:List (Sem Value×Sem Value))) f) (stD s h (E++entsF 3 t (L.take (17*j))) (n+17*j) (subs++subsF j t L) (t+51*j)) (if j=0 then q else pos) res s' q'→
  Rn treeTable p w n₀ ann q₀ c (2000*j+m) (forIn (soP Ps) (some h.objs.size,([]:List (Sem Value×Sem Value))) f) (stD s h E n subs t) q res s' q'
 | 0,Ps,L,E,n,subs,t,q,hp,hl,h0,hz,hn,H=>by simpa [subsF,entsF] using H
 | j+1,Ps,L,E,n,subs,t,q,hp,hl,h0,hz,hn,H=>by
  have hlen:=hp.length
  have hA:(Ps.take 17).length=17:=by rw[List.length_take];omega
  have hLA:(L.take 17).length=17:=by rw[List.length_take];omega
  have e:=gatherA F (A:=Ps.take 17) (R:=Ps.drop 17) (m:=some h.objs.size) hA
  rw[List.take_append_drop] at e
  refine rn_eq ?_ e
  have hsplit:L.map (fun d=>hashInt d.1)=(L.take 17).map (fun d=>hashInt d.1)++(L.drop 17).map (fun d=>hashInt d.1):=by rw[←List.map_append,List.take_append_drop]
  have hn2:=hn
  rw[hsplit,←List.append_assoc] at hn2
  have hn3:=(List.nodup_append.mp hn2).1
  have hsub:=rn_subLong (hp.take 17) (s:=stD s h E n subs t) (q:=q) (by omega) (by rw[stD_size];omega) (by omega) (List.nodup_append.mp hn3).2.1
  rw[hLA] at hsub
  have hfl:=rn_flush1 (A:=Ps.take 17) (LA:=L.take 17) (es:=entsF 3 t (L.take 17)) (t':=t+51) (s:=s) (h:=h) (E:=E) (n:=n) (subs:=subs) (t:=t) (q:=q) (pos:=pos) (p:=p) (w:=w) (n₀:=n₀) (ann:=ann) (q₀:=q₀) (c:=c)
   (by intro e;rw[e] at hA;cases hA) hs hd h0 (by rw[entsF_length,hLA];omega) (entsF_int 3 _ _) (by rw[entsF_hash];exact hn3) (by rw[entsF_length,hLA];exact hsub)
  rw[entsF_length,hLA] at hfl
  refine Rn.le (rn_bind hfl (m:=2000*j+m) ?_) (by omega)
  refine rn_mids F hs hd j (L:=L.drop 17) (hp.drop 17) (by rw[List.length_drop];omega) (by intro e;exact h0 (List.append_eq_nil_iff.mp e).1) (by rw[List.length_append,entsF_length,hLA,List.length_drop];omega) (by rw[List.map_append,entsF_hash];exact hn2) ?_
  have e1:(Ps.drop 17).drop (17*j)=Ps.drop (17*(j+1)):=by rw[List.drop_drop];congr 1;omega
  have e2:E++entsF 3 t (L.take 17)++entsF 3 (t+51) ((L.drop 17).take (17*j))=E++entsF 3 t (L.take (17*(j+1))):=by
   have:L.take (17*(j+1))=L.take 17++(L.drop 17).take (17*j):=by
    rw[show 17*(j+1)=17+17*j by omega,List.take_add]
   rw[this,entsF_app,hLA,List.append_assoc]
  have e3:n+17+17*j=n+17*(j+1):=by omega
  have e4:subs++[dicO (entsF 3 t (L.take 17)) 17]++subsF j (t+51) (L.drop 17)=subs++subsF (j+1) t L:=by simp[subsF]
  have e5:t+51+51*j=t+51*(j+1):=by omega
  have e6:(if j=0 then pos else pos)=(if j+1=0 then q else pos):=by simp
  rw[e1,e2,e3,e4,e5,e6]
  exact H
noncomputable def dispE (t:Nat) (L:List (Int×Str)) (j:Nat):List DictEntry:=entsF 3 t (L.take (17*(j+1)))++entsF 2 (t+51*(j+1)) (L.drop (17*(j+1)))
noncomputable def dispS (t:Nat) (L:List (Int×Str)) (j:Nat):List Obj:=subsF j (t+51) (L.drop 17)++[dicO (entsF 2 (t+51*(j+1)) (L.drop (17*(j+1)))) (L.drop (17*(j+1))).length]
theorem dispE_tab (t:Nat) (L:List (Int×Str)) (j:Nat):TabIs (dispE t L j) L:=by
 have:=(entsF_tab 3 (L.take (17*(j+1))) t).append (entsF_tab 2 (L.drop (17*(j+1))) (t+51*(j+1)))
 rwa [List.take_append_drop] at this
theorem rn_loop {f:LoopF}(F:IsTurn f) {s:Shared}{Ps:List (Sem Value×Sem Value)}{L:List (Int×Str)}{j:Nat}(hp:PairsAre p w n₀ ann q₀ c pos Ps L) (h1:17*(j+1)<L.length) (h2:L.length≤17*(j+1)+15) (hz:L.length≤100000) (hn:(L.map fun d=>hashInt d.1).Nodup) (hs:sysModules<s.heap.objs.size) (hd:n₀≤s.heap.objs.size):
  Rn treeTable p w n₀ ann q₀ c (2000*(j+1)) (forIn (soP Ps) ((none:Option Addr),([]:List (Sem Value×Sem Value))) f) s q (some s.heap.objs.size,Ps.drop (17*(j+1))) (stD s s.heap (entsF 3 s.toks (L.take (17*(j+1)))) (17*(j+1)) (subsF j (s.toks+51) (L.drop 17)) (s.toks+51*(j+1))) pos:=by
 have hlen:=hp.length
 have hA:(Ps.take 17).length=17:=by rw[List.length_take];omega
 have hLA:(L.take 17).length=17:=by rw[List.length_take];omega
 have hsplit: ∀k,L.map (fun d=>hashInt d.1)=(L.take k).map (fun d=>hashInt d.1)++(L.drop k).map (fun d=>hashInt d.1):=fun k=>by rw[←List.map_append,List.take_append_drop]
 have hnk: ∀k,((L.take k).map (fun d=>hashInt d.1)).Nodup∧((L.drop k).map (fun d=>hashInt d.1)).Nodup:=fun k=>by
  have:=hn;rw[hsplit k] at this
  exact⟨(List.nodup_append.mp this).1,(List.nodup_append.mp this).2.1⟩
 have e:=gatherA F (A:=Ps.take 17) (R:=Ps.drop 17) (m:=none) hA
 rw[List.take_append_drop] at e
 refine rn_eq ?_ e
 refine Rn.le (rn_bind (rn_flush0 (hp.take 17) hA hd (hnk 17).1) (m:=2000*j+0) ?_) (by omega)
 refine rn_mids F hs hd j (L:=L.drop 17) (Ps:=Ps.drop 17) (hp.drop 17) (by rw[List.length_drop];omega) (by intro e;have:=congrArg List.length e;rw[entsF_length,hLA] at this;cases this) (by rw[entsF_length,hLA,List.length_drop];omega) (by rw[entsF_hash,←hsplit];exact hn) ?_
 have e1:(Ps.drop 17).drop (17*j)=Ps.drop (17*(j+1)):=by rw[List.drop_drop];congr 1;omega
 have e2:entsF 3 s.toks (L.take 17)++entsF 3 (s.toks+51) ((L.drop 17).take (17*j))=entsF 3 s.toks (L.take (17*(j+1))):=by
  have:L.take (17*(j+1))=L.take 17++(L.drop 17).take (17*j):=by
   rw[show 17*(j+1)=17+17*j by omega,List.take_add]
  rw[this,entsF_app,hLA]
 have e3:17+17*j=17*(j+1):=by omega
 have e5:s.toks+51+51*j=s.toks+51*(j+1):=by omega
 rw[e1,e2,e3,e5,List.nil_append,ite_self]
 have g:=gather F (Ps.drop (17*(j+1))) (some s.heap.objs.size) [] (by rw[List.length_drop];simp;omega)
 rw[List.nil_append] at g
 exact rn_eq rn_pure g
theorem rn_display {s:Shared}{Ps:List (Sem Value×Sem Value)}{L:List (Int×Str)}{j:Nat}(hp:PairsAre p w n₀ ann q₀ c pos Ps L) (h1:17*(j+1)<L.length) (h2:L.length≤17*(j+1)+15) (hz:L.length≤100000) (hn:(L.map fun d=>hashInt d.1).Nodup) (hs:sysModules<s.heap.objs.size) (hd:n₀≤s.heap.objs.size):
  Rn treeTable p w n₀ ann q₀ c (2000*(j+2)) (dictDisplay (soP Ps)) s q (.ref s.heap.objs.size) (stD s s.heap (dispE s.toks L j) L.length (dispS s.toks L j) (s.toks+3*L.length)) pos:=by
 have hlen:=hp.length
 have hA:(Ps.take 17).length=17:=by rw[List.length_take];omega
 have hLA:(L.take 17).length=17:=by rw[List.length_take];omega
 have hsplit: ∀k,L.map (fun d=>hashInt d.1)=(L.take k).map (fun d=>hashInt d.1)++(L.drop k).map (fun d=>hashInt d.1):=fun k=>by rw[←List.map_append,List.take_append_drop]
 have hnk: ∀k,((L.take k).map (fun d=>hashInt d.1)).Nodup∧((L.drop k).map (fun d=>hashInt d.1)).Nodup:=fun k=>by
  have:=hn;rw[hsplit k] at this
  exact⟨(List.nodup_append.mp this).1,(List.nodup_append.mp this).2.1⟩
 unfold dictDisplay
 dsimp only
 refine Rn.le (rn_bind (rn_loop (j:=j) ?_ hp h1 h2 hz hn hs hd) (m:=2000) ?_) (by omega)
 ·refine⟨fun P m run h=> ?_,fun P m run h=> ?_⟩
  ·have hne:((run++[(P.1,P.2)]).length==17)=false:=by simp;omega
   simp only[hne,Bool.false_eq_true,if_false]
  ·have hne:((run++[(P.1,P.2)]).length==17)=true:=by simp;omega
   simp only[hne,if_true]
   rfl
 ·have hne:Ps.drop (17*(j+1))≠[]:=by intro e;have:=congrArg List.length e;rw[List.length_drop] at this;simp at this;omega
  have hneL:L.drop (17*(j+1))≠[]:=by intro e;have:=congrArg List.length e;rw[List.length_drop] at this;simp at this;omega
  have hsub:=rn_subShort (hp.drop (17*(j+1))) (s:=stD s s.heap (entsF 3 s.toks (L.take (17*(j+1)))) (17*(j+1)) (subsF j (s.toks+51) (L.drop 17)) (s.toks+51*(j+1))) (q:=pos) (by rw[List.length_drop];omega) hneL (by rw[stD_size];omega) (hnk _).2
  have et:(stD s s.heap (entsF 3 s.toks (L.take (17*(j+1)))) (17*(j+1)) (subsF j (s.toks+51) (L.drop 17)) (s.toks+51*(j+1))).toks=s.toks+51*(j+1):=rfl
  rw[et] at hsub
  have hl2:=entsF_length 2 (L.drop (17*(j+1))) (s.toks+51*(j+1))
  have hfl:=rn_flush1 (A:=Ps.drop (17*(j+1))) (es:=entsF 2 (s.toks+51*(j+1)) (L.drop (17*(j+1)))) (t':=s.toks+51*(j+1)+3*(L.drop (17*(j+1))).length) (s:=s) (h:=s.heap) (E:=entsF 3 s.toks (L.take (17*(j+1)))) (n:=17*(j+1)) (subs:=subsF j (s.toks+51) (L.drop 17)) (t:=s.toks+51*(j+1)) (q:=pos) (pos:=pos) (p:=p) (w:=w) (n₀:=n₀) (ann:=ann) (q₀:=q₀) (c:=c) (LA:=[])
   hne hs hd (by intro e;have:=congrArg List.length e;rw[entsF_length,List.length_take,List.length_nil] at this;omega) (by rw[entsF_length,hl2,List.length_take,List.length_drop];omega) (entsF_int 2 _ _) (by rw[entsF_hash,entsF_hash,←hsplit];exact hn) (by rw[hl2];exact hsub)
  rw[hl2] at hfl
  have e3:17*(j+1)+(L.drop (17*(j+1))).length=L.length:=by rw[List.length_drop];omega
  have e4:s.toks+51*(j+1)+3*(L.drop (17*(j+1))).length=s.toks+3*L.length:=by rw[List.length_drop];omega
  rw[e3,e4] at hfl
  exact Rn.le (rn_bind hfl rn_pure) (by rw[List.length_drop];omega)
end
end Mine
end
section
set_option maxRecDepth 100000
set_option maxHeartbeats 4000000
open PySem PySem.W PyProof.Rows PySem.Calls
namespace Mine
noncomputable def tabL:List (Option Expr)→List Expr→Option (List (Int×Str))
 | [],[]=>some []
 | some (.Constant (.int k) _ _)::ks,.Constant (.str s) _ _::vs=>(tabL ks vs).map ((k,s):: ·)
 | _,_=>none
inductive TabW:List (Option Expr)→List Expr→List (Int×Str)→Prop
 | nil:TabW [] [] []
 | cons (k:Int) (a:Nat) (b:Pos) (s:Str) (d:Nat) (e:Pos) {ks vs L} (h:TabW ks vs L):TabW (some (.Constant (.int k) a b)::ks) (.Constant (.str s) d e::vs) ((k,s)::L)
theorem tabW_of (ks:List (Option Expr)) (vs:List Expr): ∀L,tabL ks vs=some L→TabW ks vs L:=by
 fun_induction tabL ks vs with
 | case1=>intro L h;cases h;exact .nil
 | case2 k a b ks s d e vs ih=>
  intro L h
  obtain⟨L',h',rfl⟩:=Option.map_eq_some_iff.mp h
  exact .cons k a b s d e (ih L' h')
 | case3=>intro L h;cases h
section
variable {p:Program}{w:World}{n₀:Nat}{ann:Option Value}{q₀:Pos}{c:Code}{α β:Type}{s s₁ s₂ s':Shared}{q q₁ q₂ q' pos:Pos}
theorem pairs_of {env:Env}{ks:List (Option Expr)}{vs:List Expr}{L:List (Int×Str)}(h:TabW ks vs L):
  ∃Ps,(evalEachOpt ks env).zip ((evalEach vs env).map fun v=>(do let x ←v;standAt pos;pure x:Sem Value))=soP Ps∧PairsAre p w n₀ ann q₀ c pos Ps L:=by
 induction h with
 | nil=>exact⟨[],rfl,.nil⟩
 | @cons k a b x d e ks vs L h ih=>
  obtain⟨Ps,e,hp⟩:=ih
  refine⟨(mkInt k,do let y ←mkText x;standAt pos;pure y)::Ps,?_,.cons ⟨fun s q=> ?_,fun s q=> ?_⟩ hp⟩
  ·show (some (mkInt k),_)::((evalEachOpt ks env).zip ((evalEach vs env).map fun v=>(do let x ←v;standAt pos;pure x:Sem Value)))=(some (mkInt k),_)::soP Ps
   rw[e];rfl
  ·exact rn_bind (n:=1) (m:=0) rn_fresh rn_pure
  ·exact rn_bind (n:=1) (m:=1) (rn_bind (n:=1) (m:=0) rn_fresh rn_pure) (rn_bind (n:=1) (m:=0) rn_at rn_pure)
theorem rn_table {x:Str}{xp dp ap:Pos}{ks:List (Option Expr)}{vs:List Expr}{env:Env}{L:List (Int×Str)}{j m:Nat}{s₂:Shared}{q₂:Pos}(hL:tabL ks vs=some L) (h1:17*(j+1)<L.length) (h2:L.length≤17*(j+1)+15) (hz:L.length≤100000) (hn:(L.map fun d=>hashInt d.1).Nodup) (hs:sysModules<s.heap.objs.size) (hd:n₀≤s.heap.objs.size)
  (hw:swapsWith (.Dict ks vs dp) (some (.Name x xp)) ap.line env=pure false)
  (hb:Rn treeTable p w n₀ ann q₀ c m (bindName env x (.ref s.heap.objs.size)) (stD s s.heap (dispE s.toks L j) L.length (dispS s.toks L j) (s.toks+3*L.length)) xp () s₂ q₂):
  Rn treeTable p w n₀ ann q₀ c (2000*(j+2)+m+3) (exec (.Assign [.Name x xp] (.Dict ks vs dp) ap) env) s q .next s₂ q₂:=by
 obtain⟨Ps,e,hp⟩:=pairs_of (pos:=dp) (p:=p) (w:=w) (n₀:=n₀) (ann:=ann) (q₀:=q₀) (c:=c) (env:=env) (tabW_of ks vs L hL)
 refine rn_eq ?_ (exec_Assign_Name env x xp (.Dict ks vs dp) ap hw)
 have hdisp:=rn_display (s:=s) (q:=dp) (j:=j) hp h1 h2 hz hn hs hd
 refine Rn.le (rn_bind (n:=1) rn_at (rn_bind (n:=1+2000*(j+2)) (q₁:=dp) (a:=.ref s.heap.objs.size) ?_ (rn_bind (n:=1) rn_at (rn_bind hb rn_pure)))) (by omega)
 refine rn_eq ?_ (arm_eval_Dict ks vs dp env)
 refine rn_bind (n:=1) rn_at ?_
 exact rn_eq hdisp (by rw[e])
end
theorem pushL_cons (h:Heap) (o:Obj) (os:List Obj):pushL h (o::os)=pushL (h.push o) os:=rfl
noncomputable def insL:BT→Nat→List Obj→BT
 | t,_,[]=>t
 | t,n,o::os=>insL (t.ins n o) (n+1) os
noncomputable def insOk:BT→Nat→List Obj→Bool
 | _,_,[]=>true
 | t,n,o::os=>((t.ins n o).get n).isSome&&insOk (t.ins n o) (n+1) os
theorem pushL_abs {life:Life}: ∀(os:List Obj) (t:BT) (n:Nat),insOk t n os=true→pushL (absHeap t n life) os=absHeap (insL t n os) (n+os.length) life
 | [],t,n,_=>rfl
 | o::os,t,n,h=>by
  unfold insOk at h
  obtain⟨h1,h2⟩:=Bool.and_eq_true_iff.mp h
  show pushL ((absHeap t n life).push o) os=absHeap (insL (t.ins n o) (n+1) os) (n+(os.length+1)) life
  rw[←absHeap_ins h1,pushL_abs os _ _ h2]
  congr 1
  omega
noncomputable def rises:List Int→Bool
 | a::b::r=>decide (a<b)&&rises (b::r)
 | _=>true
theorem rises_lt: ∀(l:List Int) (a:Int),rises (a::l)=true→ ∀x∈l,a<x
 | [],_,_,x,hx=>by cases hx
 | b::r,a,h,x,hx=>by
  unfold rises at h
  obtain⟨h1,h2⟩:=Bool.and_eq_true_iff.mp h
  have h1:=of_decide_eq_true h1
  rcases List.mem_cons.mp hx with rfl | hx
  ·exact h1
  ·exact Int.lt_trans h1 (rises_lt r b h2 x hx)
theorem rises_nodup: ∀(l:List Int),rises l=true→l.Nodup
 | [],_=>.nil
 | [a],_=>by simp
 | a::b::r,h=>by
  rw[List.nodup_cons]
  have h2:rises (b::r)=true:=by unfold rises at h;exact(Bool.and_eq_true_iff.mp h).2
  exact⟨fun hm=>Int.lt_irrefl _ (rises_lt _ _ h a hm),rises_nodup _ h2⟩
end Mine
end
section
set_option maxRecDepth 100000
set_option maxHeartbeats 4000000
open PySem PySem.W PyProof.Rows PySem.Calls
namespace Mine
noncomputable section
noncomputable abbrev segTQ:=PySem.W.Fast.tw10110043849684766642
noncomputable abbrev segPQ:=PySem.W.Fast.tw14374325043358763698
noncomputable abbrev tabQ:=PySem.W.Fast.tw14364793385576792824
noncomputable abbrev exQ:=PySem.W.Fast.tw12563942051412417395
noncomputable abbrev goQ:=PySem.W.Fast.tw15667345088766844465
noncomputable abbrev runQ:=PySem.W.Fast.tw14082659384304107361
noncomputable abbrev denQ:=PySem.W.Fast.tw11892475500146522536
noncomputable abbrev bindQ:=PySem.W.Fast.tw7536695828754713326
theorem segT_q: @segRunT= @segTQ:=PySem.W.Fast.te10110043849684766642
theorem segP_q: @segRun= @segPQ:=PySem.W.Fast.te14374325043358763698
theorem ex_q: @execs= @exQ:=PySem.W.Fast.te12563942051412417395
theorem go_q: @topGo= @goQ:=PySem.W.Fast.te15667345088766844465
theorem run_q: @topRun= @runQ:=PySem.W.Fast.te14082659384304107361
theorem den_q: @denote= @denQ:=PySem.W.Fast.te11892475500146522536
theorem bind_q: @bindName= @bindQ:=PySem.W.Fast.te7536695828754713326
section
variable {p:Program}{w:World}{n₀ n N:Nat}{ann:Option Value}{q:Pos}{c:Code}{env:Env}{S S':SharedT}{s s' r:Shared}{l rest:List Stmt}{pos pos':Pos}
theorem top_piece (h:segTQ tabQ p w n₀ ann 1 n S ⟨(exQ l env).wrap doneF deadEnd id id,c,pos,[topFrame q]⟩=some (.next,S',c,pos')) (k:topRun treeTable p w n₀ ann N S'.abs (restOf rest env c pos' [topFrame q])=some r):
  topRun treeTable p w n₀ ann (n+N) S.abs (restOf (l++rest) env c pos [topFrame q])=some r:=
 piece_app (segRun_of (by rw[segT_q,tab_q];unfold piecesOf;rw[ex_q];exact h)) k
theorem top_block {b:List Stmt}(h:segPQ tabQ p w n₀ ann 1 n s (blockOf b env c pos [topFrame q])=some (.next,s',c,pos')) (k:topRun treeTable p w n₀ ann N s' (restOf b env c pos' [topFrame q])=some r):
  topRun treeTable p w n₀ ann (n+N) s ⟨denote treeTable (.body b env),c,pos,[topFrame q]⟩=some r:=
 piece_block (by rw[segP_q,tab_q];exact h) k
theorem top_pre {t:Thread}(h:goQ tabQ p w n₀ ann n s t=some (s',⟨denQ tabQ c,c,pos,[topFrame q]⟩)) (k:topRun treeTable p w n₀ ann N s' ⟨denote treeTable c,c,pos,[topFrame q]⟩=some r):topRun treeTable p w n₀ ann (n+N) s t=some r:=
 go_top (by rw[go_q,tab_q,h,den_q]) k
theorem top_fin {t:Thread}(h:runQ tabQ p w n₀ ann n s t=some r):topRun treeTable p w n₀ ann n s t=some r:=by rw[run_q,tab_q];exact h
theorem rn_bindQ {x:Str}{v:Value}(h: ∀gd lv,segTQ tabQ p w n₀ ann 1 n S ⟨(bindQ env x v).wrap (fun _=>.pure (.done .next)) deadEnd gd lv,c,pos,[topFrame q]⟩=some (.next,S',c,pos')):
  Rn treeTable p w n₀ ann q c n (bindName env x v) S.abs pos () S'.abs pos':=
 rn_seg (res:=fun _=>.next) (f:=.next) (fun gd lv=>segRun_of (by rw[segT_q,tab_q,bind_q];exact h gd lv)) (fun _ _=>rfl)
end
noncomputable abbrev Zs (l:List Nat):Str:=Str.mk (Array.mk l)
noncomputable abbrev ek (P:Params) (l:List Nat) (t:Nat) (v:Value):DictEntry:=⟨PyData.keyHash P (Zs l),.str (Zs l) t,v⟩
noncomputable abbrev lf (o:Obj):BT:=.node o .nil .nil
end
end Mine
end
section
set_option maxRecDepth 100000
set_option maxHeartbeats 4000000
open PySem PySem.W PyProof.Rows PySem.Calls
namespace Mine
noncomputable section
noncomputable abbrev PW:Program:=PySem.Challenge.pw_wr0055_01
noncomputable def ksOf:Stmt→List (Option Expr) | .Assign _ (.Dict ks _ _) _=>ks | _=>[]
noncomputable def vsOf:Stmt→List Expr | .Assign _ (.Dict _ vs _) _=>vs | _=>[]
noncomputable def envM:Env:={scope:=PW.main.scope,locals:=mainNs,globals:=mainNs,cells:=[],code:=.ref 13,frame:=some 14}
noncomputable def cM:Code:=.body (behindTheImports PW) envM
noncomputable def qM:Pos:=⟨0,0,0,0⟩
noncomputable def a11 (P:Params):Obj:=⟨(.type "tuple"),none,(.seq (Array.mk []) 0),Array.mk []⟩
noncomputable def a12 (P:Params):Obj:=⟨Value.none,none,(.fields (Array.mk [])),Array.mk []⟩
noncomputable def a13 (P:Params):Obj:=⟨(.type "code"),none,(.fields (Array.mk [(.str (Zs [60,109,111,100,117,108,101,62]) 182),(.str (Zs [60,109,111,100,117,108,101,62]) 183),(.str (Zs [47,99,108,97,105,109,47,99,117,116,46,112,121]) 184),(.int 1 0),(.int 0 0),(.int 0 0),(.int 0 0),(.int 0 0),(.ref 11),(.bool false),(.int 181 0),(.ref 12),Value.none,Value.none,Value.none,Value.none,(.int 185 0),(.int 1 0),(.str (Zs [47,99,108,97,105,109,47,99,117,116,46,112,121]) 186)])),Array.mk []⟩
noncomputable def a14 (P:Params):Obj:=⟨(.type "frame"),none,.plain,Array.mk [(some (.ref 13)),(some (.ref 3)),(some (.ref 3)),none,(some (.str (Zs [95,95,109,97,105,110,95,95]) 164)),none,(some (.ref 0))]⟩
noncomputable def a3v1 (P:Params):Obj:=⟨(.type "dict"),none,(.dict (Array.mk [ek P [95,95,110,97,109,101,95,95] 165 (.str (Zs [99,112,121,51,49,51,46,115,116,114,105,110,103,112,114,101,112]) 194),ek P [95,95,100,111,99,95,95] 166 Value.none,ek P [95,95,112,97,99,107,97,103,101,95,95] 167 Value.none,ek P [95,95,108,111,97,100,101,114,95,95] 168 (.builtin "__main__.__loader__#opaque"),ek P [95,95,115,112,101,99,95,95] 169 Value.none,ek P [95,95,97,110,110,111,116,97,116,105,111,110,115,95,95] 170 (.ref 6),ek P [95,95,98,117,105,108,116,105,110,115,95,95] 171 (.ref 4),ek P [95,95,102,105,108,101,95,95] 173 (.str (Zs [47,99,108,97,105,109,47,99,117,116,46,112,121]) 172),ek P [95,95,99,97,99,104,101,100,95,95] 174 Value.none,ek P [95,119,97,108,108] 193 (.ref 21)]) 10),Array.mk []⟩
noncomputable def a12v1 (P:Params):Obj:=⟨Value.none,none,(.fields (Array.mk [(.int 1 0),(.int 0 0),(.ref 20)])),Array.mk []⟩
noncomputable def a15 (P:Params):Obj:=⟨(.type "tuple"),none,(.seq (Array.mk []) 0),Array.mk []⟩
noncomputable def a16 (P:Params):Obj:=⟨Value.none,none,(.fields (Array.mk [])),Array.mk []⟩
noncomputable def a17 (P:Params):Obj:=⟨(.type "tuple"),none,(.seq (Array.mk [(.str (Zs [107]) 190)]) 0),Array.mk []⟩
noncomputable def a18 (P:Params):Obj:=⟨(.type "tuple"),none,(.seq (Array.mk []) 0),Array.mk []⟩
noncomputable def a19 (P:Params):Obj:=⟨Value.none,none,(.func ⟨(Zs [95,119,97,108,108]),(Zs [95,119,97,108,108]),parsOf (ST 0),.stmts (bodyOf (ST 0)),scopeOf (ST 0),0,[],Value.none,Value.none,Value.none,Value.none,none,Value.none,Value.none,0⟩),Array.mk []⟩
noncomputable def a20 (P:Params):Obj:=⟨(.type "code"),none,(.fields (Array.mk [(.str (Zs [95,119,97,108,108]) 187),(.str (Zs [95,119,97,108,108]) 188),(.str (Zs [47,99,108,97,105,109,47,99,117,116,46,112,121]) 189),(.int 1 0),(.int 1 0),(.int 0 0),(.int 0 0),(.int 3 0),(.ref 15),(.bool true),(.int 181 0),(.ref 16),Value.none,(.ref 17),(.ref 18),(.ref 19),(.int 191 0),(.int 1 0),(.str (Zs [47,99,108,97,105,109,47,99,117,116,46,112,121]) 192)])),Array.mk []⟩
noncomputable def a21 (P:Params):Obj:=⟨(.type "function"),none,(.func ⟨(Zs [95,119,97,108,108]),(Zs [95,119,97,108,108]),parsOf (ST 0),.stmts (bodyOf (ST 0)),scopeOf (ST 0),3,[],Value.none,Value.none,Value.none,(.str (Zs [95,95,109,97,105,110,95,95]) 164),none,(.ref 20),Value.none,0⟩),Array.mk []⟩
noncomputable def a3v2 (P:Params):Obj:=⟨(.type "dict"),none,(.dict (Array.mk [ek P [95,95,110,97,109,101,95,95] 165 (.str (Zs [99,112,121,51,49,51,46,115,116,114,105,110,103,112,114,101,112]) 194),ek P [95,95,100,111,99,95,95] 166 Value.none,ek P [95,95,112,97,99,107,97,103,101,95,95] 167 Value.none,ek P [95,95,108,111,97,100,101,114,95,95] 168 (.builtin "__main__.__loader__#opaque"),ek P [95,95,115,112,101,99,95,95] 169 Value.none,ek P [95,95,97,110,110,111,116,97,116,105,111,110,115,95,95] 170 (.ref 6),ek P [95,95,98,117,105,108,116,105,110,115,95,95] 171 (.ref 4),ek P [95,95,102,105,108,101,95,95] 173 (.str (Zs [47,99,108,97,105,109,47,99,117,116,46,112,121]) 172),ek P [95,95,99,97,99,104,101,100,95,95] 174 Value.none,ek P [95,119,97,108,108] 193 (.ref 21),ek P [98,49,95,115,101,116] 255 (.ref 29)]) 11),Array.mk []⟩
noncomputable def a22 (P:Params):Obj:=⟨(.type "list"),none,(.seq (Array.mk [(.int 173 196),(.int 847 197),(.int 6150 198),(.int 6155 199),(.int 6156 200),(.int 6157 201),(.int 8203 202),(.int 8204 203),(.int 8205 204),(.int 8288 205),(.int 65279 206)]) 0),Array.mk []⟩
noncomputable def a23 (P:Params):Obj:=⟨(.type "range"),none,(.fields (Array.mk [(.int 65024 207),(.int 65040 208),(.int 1 209)])),Array.mk []⟩
noncomputable def a24 (P:Params):Obj:=⟨(.type "list"),none,(.seq (Array.mk [(.int 65024 212),(.int 65025 213),(.int 65026 214),(.int 65027 215),(.int 65028 216),(.int 65029 217),(.int 65030 218),(.int 65031 219),(.int 65032 220),(.int 65033 221),(.int 65034 222),(.int 65035 223),(.int 65036 224),(.int 65037 225),(.int 65038 226),(.int 65039 227)]) 18),Array.mk []⟩
noncomputable def a25 (P:Params):Obj:=⟨(.type "range_iterator"),none,(.fields (Array.mk [(.int 65040 0),(.int 0 0),(.int 1 0)])),Array.mk []⟩
noncomputable def a26 (P:Params):Obj:=⟨(.type "tuple"),none,(.seq (Array.mk []) 0),Array.mk []⟩
noncomputable def a27 (P:Params):Obj:=⟨(.type "StopIteration"),none,(.fields (Array.mk [(.ref 26),Value.none,Value.none,Value.none,(.bool false),Value.none])),Array.mk []⟩
noncomputable def a28 (P:Params):Obj:=⟨(.type "list"),none,(.seq (Array.mk [(.int 173 196),(.int 847 197),(.int 6150 198),(.int 6155 199),(.int 6156 200),(.int 6157 201),(.int 8203 202),(.int 8204 203),(.int 8205 204),(.int 8288 205),(.int 65279 206),(.int 65024 212),(.int 65025 213),(.int 65026 214),(.int 65027 215),(.int 65028 216),(.int 65029 217),(.int 65030 218),(.int 65031 219),(.int 65032 220),(.int 65033 221),(.int 65034 222),(.int 65035 223),(.int 65036 224),(.int 65037 225),(.int 65038 226),(.int 65039 227)]) 0),Array.mk []⟩
noncomputable def a29 (P:Params):Obj:=⟨(.type "set"),none,(.set (Array.mk [(65024,(.int 65024 212)),(65025,(.int 65025 213)),(65026,(.int 65026 214)),(65027,(.int 65027 215)),(65028,(.int 65028 216)),(65029,(.int 65029 217)),(6150,(.int 6150 198)),(65030,(.int 65030 218)),(65031,(.int 65031 219)),(65032,(.int 65032 220)),(65033,(.int 65033 221)),(6155,(.int 6155 199)),(6156,(.int 6156 200)),(6157,(.int 6157 201)),(8203,(.int 8203 202)),(8204,(.int 8204 203)),(8205,(.int 8205 204)),(65034,(.int 65034 222)),(65035,(.int 65035 223)),(65036,(.int 65036 224)),(65037,(.int 65037 225)),(65038,(.int 65038 226)),(65039,(.int 65039 227)),(173,(.int 173 196)),(847,(.int 847 197)),(8288,(.int 8288 205)),(65279,(.int 65279 206))]) 29 (match P.followText "set-order" with | true=>⟨127,Array.mk [0,1,2,3,4,5,6,7,8,9,10,11,12,13,14,15,16,17,18,19,20,21,22,45,79,96,127],Array.mk [],0,false,2,true⟩ | false=>⟨127,Array.mk [0,1,2,3,4,5,6,7,8,9,10,11,12,13,14,15,16,17,18,19,20,21,22,45,79,96,127],Array.mk [],0,true,2,true⟩)),Array.mk []⟩
noncomputable def a30 (P:Params):Obj:=⟨(.type "list_iterator"),none,(.fields (Array.mk [Value.none,(.int 27 0)])),Array.mk []⟩
noncomputable def a31 (P:Params):Obj:=⟨(.type "tuple"),none,(.seq (Array.mk []) 0),Array.mk []⟩
noncomputable def a32 (P:Params):Obj:=⟨(.type "StopIteration"),none,(.fields (Array.mk [(.ref 31),Value.none,Value.none,Value.none,(.bool false),Value.none])),Array.mk []⟩
noncomputable def a3v3 (P:Params):Obj:=⟨(.type "dict"),none,(.dict (Array.mk [ek P [95,95,110,97,109,101,95,95] 165 (.str (Zs [99,112,121,51,49,51,46,115,116,114,105,110,103,112,114,101,112]) 194),ek P [95,95,100,111,99,95,95] 166 Value.none,ek P [95,95,112,97,99,107,97,103,101,95,95] 167 Value.none,ek P [95,95,108,111,97,100,101,114,95,95] 168 (.builtin "__main__.__loader__#opaque"),ek P [95,95,115,112,101,99,95,95] 169 Value.none,ek P [95,95,97,110,110,111,116,97,116,105,111,110,115,95,95] 170 (.ref 6),ek P [95,95,98,117,105,108,116,105,110,115,95,95] 171 (.ref 4),ek P [95,95,102,105,108,101,95,95] 173 (.str (Zs [47,99,108,97,105,109,47,99,117,116,46,112,121]) 172),ek P [95,95,99,97,99,104,101,100,95,95] 174 Value.none,ek P [95,119,97,108,108] 193 (.ref 21),ek P [98,49,95,115,101,116] 255 (.ref 29),ek P [105,110,95,116,97,98,108,101,95,98,49] 262 (.ref 39)]) 12),Array.mk []⟩
noncomputable def a12v2 (P:Params):Obj:=⟨Value.none,none,(.fields (Array.mk [(.int 1 0),(.int 0 0),(.ref 20),(.int 6 0),(.int 0 0),(.ref 38)])),Array.mk []⟩
noncomputable def a33 (P:Params):Obj:=⟨(.type "tuple"),none,(.seq (Array.mk []) 0),Array.mk []⟩
noncomputable def a34 (P:Params):Obj:=⟨Value.none,none,(.fields (Array.mk [])),Array.mk []⟩
noncomputable def a35 (P:Params):Obj:=⟨(.type "tuple"),none,(.seq (Array.mk [(.str (Zs [99,111,100,101]) 259)]) 0),Array.mk []⟩
noncomputable def a36 (P:Params):Obj:=⟨(.type "tuple"),none,(.seq (Array.mk []) 0),Array.mk []⟩
noncomputable def a37 (P:Params):Obj:=⟨Value.none,none,(.func ⟨(Zs [105,110,95,116,97,98,108,101,95,98,49]),(Zs [105,110,95,116,97,98,108,101,95,98,49]),parsOf (ST 3),.stmts (bodyOf (ST 3)),scopeOf (ST 3),0,[],Value.none,Value.none,Value.none,Value.none,none,Value.none,Value.none,0⟩),Array.mk []⟩
noncomputable def a38 (P:Params):Obj:=⟨(.type "code"),none,(.fields (Array.mk [(.str (Zs [105,110,95,116,97,98,108,101,95,98,49]) 256),(.str (Zs [105,110,95,116,97,98,108,101,95,98,49]) 257),(.str (Zs [47,99,108,97,105,109,47,99,117,116,46,112,121]) 258),(.int 6 0),(.int 1 0),(.int 0 0),(.int 0 0),(.int 3 0),(.ref 33),(.bool true),(.int 181 0),(.ref 34),Value.none,(.ref 35),(.ref 36),(.ref 37),(.int 260 0),(.int 6 0),(.str (Zs [47,99,108,97,105,109,47,99,117,116,46,112,121]) 261)])),Array.mk []⟩
noncomputable def a39 (P:Params):Obj:=⟨(.type "function"),none,(.func ⟨(Zs [105,110,95,116,97,98,108,101,95,98,49]),(Zs [105,110,95,116,97,98,108,101,95,98,49]),parsOf (ST 3),.stmts (bodyOf (ST 3)),scopeOf (ST 3),3,[],Value.none,Value.none,Value.none,(.str (Zs [99,112,121,51,49,51,46,115,116,114,105,110,103,112,114,101,112]) 194),none,(.ref 38),Value.none,0⟩),Array.mk []⟩
noncomputable def a40 (P:Params):Obj:=dicO (dispE 263 b3L 37) 650
noncomputable def a41 (P:Params):Obj:=(dispS 263 b3L 37).getD 0 default
noncomputable def a42 (P:Params):Obj:=(dispS 263 b3L 37).getD 1 default
noncomputable def a43 (P:Params):Obj:=(dispS 263 b3L 37).getD 2 default
noncomputable def a44 (P:Params):Obj:=(dispS 263 b3L 37).getD 3 default
noncomputable def a45 (P:Params):Obj:=(dispS 263 b3L 37).getD 4 default
noncomputable def a46 (P:Params):Obj:=(dispS 263 b3L 37).getD 5 default
noncomputable def a47 (P:Params):Obj:=(dispS 263 b3L 37).getD 6 default
noncomputable def a48 (P:Params):Obj:=(dispS 263 b3L 37).getD 7 default
noncomputable def a49 (P:Params):Obj:=(dispS 263 b3L 37).getD 8 default
noncomputable def a50 (P:Params):Obj:=(dispS 263 b3L 37).getD 9 default
noncomputable def a51 (P:Params):Obj:=(dispS 263 b3L 37).getD 10 default
noncomputable def a52 (P:Params):Obj:=(dispS 263 b3L 37).getD 11 default
noncomputable def a53 (P:Params):Obj:=(dispS 263 b3L 37).getD 12 default
noncomputable def a54 (P:Params):Obj:=(dispS 263 b3L 37).getD 13 default
noncomputable def a55 (P:Params):Obj:=(dispS 263 b3L 37).getD 14 default
noncomputable def a56 (P:Params):Obj:=(dispS 263 b3L 37).getD 15 default
noncomputable def a57 (P:Params):Obj:=(dispS 263 b3L 37).getD 16 default
noncomputable def a58 (P:Params):Obj:=(dispS 263 b3L 37).getD 17 default
noncomputable def a59 (P:Params):Obj:=(dispS 263 b3L 37).getD 18 default
noncomputable def a60 (P:Params):Obj:=(dispS 263 b3L 37).getD 19 default
noncomputable def a61 (P:Params):Obj:=(dispS 263 b3L 37).getD 20 default
noncomputable def a62 (P:Params):Obj:=(dispS 263 b3L 37).getD 21 default
noncomputable def a63 (P:Params):Obj:=(dispS 263 b3L 37).getD 22 default
noncomputable def a64 (P:Params):Obj:=(dispS 263 b3L 37).getD 23 default
noncomputable def a65 (P:Params):Obj:=(dispS 263 b3L 37).getD 24 default
noncomputable def a66 (P:Params):Obj:=(dispS 263 b3L 37).getD 25 default
noncomputable def a67 (P:Params):Obj:=(dispS 263 b3L 37).getD 26 default
noncomputable def a68 (P:Params):Obj:=(dispS 263 b3L 37).getD 27 default
noncomputable def a69 (P:Params):Obj:=(dispS 263 b3L 37).getD 28 default
noncomputable def a70 (P:Params):Obj:=(dispS 263 b3L 37).getD 29 default
noncomputable def a71 (P:Params):Obj:=(dispS 263 b3L 37).getD 30 default
noncomputable def a72 (P:Params):Obj:=(dispS 263 b3L 37).getD 31 default
noncomputable def a73 (P:Params):Obj:=(dispS 263 b3L 37).getD 32 default
noncomputable def a74 (P:Params):Obj:=(dispS 263 b3L 37).getD 33 default
noncomputable def a75 (P:Params):Obj:=(dispS 263 b3L 37).getD 34 default
noncomputable def a76 (P:Params):Obj:=(dispS 263 b3L 37).getD 35 default
noncomputable def a77 (P:Params):Obj:=(dispS 263 b3L 37).getD 36 default
noncomputable def a78 (P:Params):Obj:=(dispS 263 b3L 37).getD 37 default
noncomputable def a3v4 (P:Params):Obj:=⟨(.type "dict"),none,(.dict (Array.mk [ek P [95,95,110,97,109,101,95,95] 165 (.str (Zs [99,112,121,51,49,51,46,115,116,114,105,110,103,112,114,101,112]) 194),ek P [95,95,100,111,99,95,95] 166 Value.none,ek P [95,95,112,97,99,107,97,103,101,95,95] 167 Value.none,ek P [95,95,108,111,97,100,101,114,95,95] 168 (.builtin "__main__.__loader__#opaque"),ek P [95,95,115,112,101,99,95,95] 169 Value.none,ek P [95,95,97,110,110,111,116,97,116,105,111,110,115,95,95] 170 (.ref 6),ek P [95,95,98,117,105,108,116,105,110,115,95,95] 171 (.ref 4),ek P [95,95,102,105,108,101,95,95] 173 (.str (Zs [47,99,108,97,105,109,47,99,117,116,46,112,121]) 172),ek P [95,95,99,97,99,104,101,100,95,95] 174 Value.none,ek P [95,119,97,108,108] 193 (.ref 21),ek P [98,49,95,115,101,116] 255 (.ref 29),ek P [105,110,95,116,97,98,108,101,95,98,49] 262 (.ref 39),ek P [98,51,95,101,120,99,101,112,116,105,111,110,115] 2213 (.ref 40)]) 13),Array.mk []⟩
noncomputable def a3v5 (P:Params):Obj:=⟨(.type "dict"),none,(.dict (Array.mk [ek P [95,95,110,97,109,101,95,95] 165 (.str (Zs [99,112,121,51,49,51,46,101,109,97,105,108,46,104,101,97,100,101,114]) 2245),ek P [95,95,100,111,99,95,95] 166 Value.none,ek P [95,95,112,97,99,107,97,103,101,95,95] 167 Value.none,ek P [95,95,108,111,97,100,101,114,95,95] 168 (.builtin "__main__.__loader__#opaque"),ek P [95,95,115,112,101,99,95,95] 169 Value.none,ek P [95,95,97,110,110,111,116,97,116,105,111,110,115,95,95] 170 (.ref 6),ek P [95,95,98,117,105,108,116,105,110,115,95,95] 171 (.ref 4),ek P [95,95,102,105,108,101,95,95] 173 (.str (Zs [47,99,108,97,105,109,47,99,117,116,46,112,121]) 172),ek P [95,95,99,97,99,104,101,100,95,95] 174 Value.none,ek P [95,119,97,108,108] 193 (.ref 21),ek P [98,49,95,115,101,116] 255 (.ref 29),ek P [105,110,95,116,97,98,108,101,95,98,49] 262 (.ref 39),ek P [98,51,95,101,120,99,101,112,116,105,111,110,115] 2213 (.ref 40),ek P [109,97,112,95,116,97,98,108,101,95,98,51] 2221 (.ref 85),ek P [105,110,95,116,97,98,108,101,95,99,49,49] 2228 (.ref 92),ek P [69,76,76,73,80,83,73,83,95,77,65,82,75,69,82] 2232 (.str (Zs [46,46,46]) 2231),ek P [95,101,108,108,105,112,115,105,115,95,109,97,116,99,104] 2244 (.ref 99),ek P [78,76] 2248 (.str (Zs [10]) 2247),ek P [69,77,80,84,89,83,84,82,73,78,71] 2250 (.str (Zs []) 2249)]) 19),Array.mk []⟩
noncomputable def a12v3 (P:Params):Obj:=⟨Value.none,none,(.fields (Array.mk [(.int 1 0),(.int 0 0),(.ref 20),(.int 6 0),(.int 0 0),(.ref 38),(.int 9 0),(.int 0 0),(.ref 84),(.int 14 0),(.int 0 0),(.ref 91),(.int 18 0),(.int 0 0),(.ref 98)])),Array.mk []⟩
noncomputable def a79 (P:Params):Obj:=⟨(.type "tuple"),none,(.seq (Array.mk []) 0),Array.mk []⟩
noncomputable def a80 (P:Params):Obj:=⟨Value.none,none,(.fields (Array.mk [])),Array.mk []⟩
noncomputable def a81 (P:Params):Obj:=⟨(.type "tuple"),none,(.seq (Array.mk [(.str (Zs [99,111,100,101]) 2217),(.str (Zs [114]) 2218)]) 0),Array.mk []⟩
noncomputable def a82 (P:Params):Obj:=⟨(.type "tuple"),none,(.seq (Array.mk []) 0),Array.mk []⟩
noncomputable def a83 (P:Params):Obj:=⟨Value.none,none,(.func ⟨(Zs [109,97,112,95,116,97,98,108,101,95,98,51]),(Zs [109,97,112,95,116,97,98,108,101,95,98,51]),parsOf (ST 5),.stmts (bodyOf (ST 5)),scopeOf (ST 5),0,[],Value.none,Value.none,Value.none,Value.none,none,Value.none,Value.none,0⟩),Array.mk []⟩
noncomputable def a84 (P:Params):Obj:=⟨(.type "code"),none,(.fields (Array.mk [(.str (Zs [109,97,112,95,116,97,98,108,101,95,98,51]) 2214),(.str (Zs [109,97,112,95,116,97,98,108,101,95,98,51]) 2215),(.str (Zs [47,99,108,97,105,109,47,99,117,116,46,112,121]) 2216),(.int 9 0),(.int 1 0),(.int 0 0),(.int 0 0),(.int 3 0),(.ref 79),(.bool true),(.int 181 0),(.ref 80),Value.none,(.ref 81),(.ref 82),(.ref 83),(.int 2219 0),(.int 9 0),(.str (Zs [47,99,108,97,105,109,47,99,117,116,46,112,121]) 2220)])),Array.mk []⟩
noncomputable def a85 (P:Params):Obj:=⟨(.type "function"),none,(.func ⟨(Zs [109,97,112,95,116,97,98,108,101,95,98,51]),(Zs [109,97,112,95,116,97,98,108,101,95,98,51]),parsOf (ST 5),.stmts (bodyOf (ST 5)),scopeOf (ST 5),3,[],Value.none,Value.none,Value.none,(.str (Zs [99,112,121,51,49,51,46,115,116,114,105,110,103,112,114,101,112]) 194),none,(.ref 84),Value.none,0⟩),Array.mk []⟩
noncomputable def a86 (P:Params):Obj:=⟨(.type "tuple"),none,(.seq (Array.mk []) 0),Array.mk []⟩
noncomputable def a87 (P:Params):Obj:=⟨Value.none,none,(.fields (Array.mk [])),Array.mk []⟩
noncomputable def a88 (P:Params):Obj:=⟨(.type "tuple"),none,(.seq (Array.mk [(.str (Zs [99,111,100,101]) 2225)]) 0),Array.mk []⟩
noncomputable def a89 (P:Params):Obj:=⟨(.type "tuple"),none,(.seq (Array.mk []) 0),Array.mk []⟩
noncomputable def a90 (P:Params):Obj:=⟨Value.none,none,(.func ⟨(Zs [105,110,95,116,97,98,108,101,95,99,49,49]),(Zs [105,110,95,116,97,98,108,101,95,99,49,49]),parsOf (ST 6),.stmts (bodyOf (ST 6)),scopeOf (ST 6),0,[],Value.none,Value.none,Value.none,Value.none,none,Value.none,Value.none,0⟩),Array.mk []⟩
noncomputable def a91 (P:Params):Obj:=⟨(.type "code"),none,(.fields (Array.mk [(.str (Zs [105,110,95,116,97,98,108,101,95,99,49,49]) 2222),(.str (Zs [105,110,95,116,97,98,108,101,95,99,49,49]) 2223),(.str (Zs [47,99,108,97,105,109,47,99,117,116,46,112,121]) 2224),(.int 14 0),(.int 1 0),(.int 0 0),(.int 0 0),(.int 3 0),(.ref 86),(.bool true),(.int 181 0),(.ref 87),Value.none,(.ref 88),(.ref 89),(.ref 90),(.int 2226 0),(.int 14 0),(.str (Zs [47,99,108,97,105,109,47,99,117,116,46,112,121]) 2227)])),Array.mk []⟩
noncomputable def a92 (P:Params):Obj:=⟨(.type "function"),none,(.func ⟨(Zs [105,110,95,116,97,98,108,101,95,99,49,49]),(Zs [105,110,95,116,97,98,108,101,95,99,49,49]),parsOf (ST 6),.stmts (bodyOf (ST 6)),scopeOf (ST 6),3,[],Value.none,Value.none,Value.none,(.str (Zs [99,112,121,51,49,51,46,115,116,114,105,110,103,112,114,101,112]) 194),none,(.ref 91),Value.none,0⟩),Array.mk []⟩
noncomputable def a93 (P:Params):Obj:=⟨(.type "tuple"),none,(.seq (Array.mk []) 0),Array.mk []⟩
noncomputable def a94 (P:Params):Obj:=⟨Value.none,none,(.fields (Array.mk [])),Array.mk []⟩
noncomputable def a95 (P:Params):Obj:=⟨(.type "tuple"),none,(.seq (Array.mk [(.str (Zs [119,97,110,116]) 2236),(.str (Zs [103,111,116]) 2237),(.str (Zs [119,115]) 2238),(.str (Zs [115,116,97,114,116,112,111,115]) 2239),(.str (Zs [101,110,100,112,111,115]) 2240),(.str (Zs [119]) 2241)]) 0),Array.mk []⟩
noncomputable def a96 (P:Params):Obj:=⟨(.type "tuple"),none,(.seq (Array.mk []) 0),Array.mk []⟩
noncomputable def a97 (P:Params):Obj:=⟨Value.none,none,(.func ⟨(Zs [95,101,108,108,105,112,115,105,115,95,109,97,116,99,104]),(Zs [95,101,108,108,105,112,115,105,115,95,109,97,116,99,104]),parsOf (ST 9),.stmts (bodyOf (ST 9)),scopeOf (ST 9),0,[],Value.none,Value.none,Value.none,Value.none,none,Value.none,Value.none,0⟩),Array.mk []⟩
noncomputable def a98 (P:Params):Obj:=⟨(.type "code"),none,(.fields (Array.mk [(.str (Zs [95,101,108,108,105,112,115,105,115,95,109,97,116,99,104]) 2233),(.str (Zs [95,101,108,108,105,112,115,105,115,95,109,97,116,99,104]) 2234),(.str (Zs [47,99,108,97,105,109,47,99,117,116,46,112,121]) 2235),(.int 18 0),(.int 2 0),(.int 0 0),(.int 0 0),(.int 3 0),(.ref 93),(.bool true),(.int 181 0),(.ref 94),Value.none,(.ref 95),(.ref 96),(.ref 97),(.int 2242 0),(.int 18 0),(.str (Zs [47,99,108,97,105,109,47,99,117,116,46,112,121]) 2243)])),Array.mk []⟩
noncomputable def a99 (P:Params):Obj:=⟨(.type "function"),none,(.func ⟨(Zs [95,101,108,108,105,112,115,105,115,95,109,97,116,99,104]),(Zs [95,101,108,108,105,112,115,105,115,95,109,97,116,99,104]),parsOf (ST 9),.stmts (bodyOf (ST 9)),scopeOf (ST 9),3,[],Value.none,Value.none,Value.none,(.str (Zs [99,112,121,51,49,51,46,100,111,99,116,101,115,116]) 2229),none,(.ref 98),Value.none,0⟩),Array.mk []⟩
noncomputable def a3v6 (P:Params):Obj:=⟨(.type "dict"),none,(.dict (Array.mk [ek P [95,95,110,97,109,101,95,95] 165 (.str (Zs [99,112,121,51,49,51,46,101,109,97,105,108,46,104,101,97,100,101,114]) 2245),ek P [95,95,100,111,99,95,95] 166 Value.none,ek P [95,95,112,97,99,107,97,103,101,95,95] 167 Value.none,ek P [95,95,108,111,97,100,101,114,95,95] 168 (.builtin "__main__.__loader__#opaque"),ek P [95,95,115,112,101,99,95,95] 169 Value.none,ek P [95,95,97,110,110,111,116,97,116,105,111,110,115,95,95] 170 (.ref 6),ek P [95,95,98,117,105,108,116,105,110,115,95,95] 171 (.ref 4),ek P [95,95,102,105,108,101,95,95] 173 (.str (Zs [47,99,108,97,105,109,47,99,117,116,46,112,121]) 172),ek P [95,95,99,97,99,104,101,100,95,95] 174 Value.none,ek P [95,119,97,108,108] 193 (.ref 21),ek P [98,49,95,115,101,116] 255 (.ref 29),ek P [105,110,95,116,97,98,108,101,95,98,49] 262 (.ref 39),ek P [98,51,95,101,120,99,101,112,116,105,111,110,115] 2213 (.ref 40),ek P [109,97,112,95,116,97,98,108,101,95,98,51] 2221 (.ref 85),ek P [105,110,95,116,97,98,108,101,95,99,49,49] 2228 (.ref 92),ek P [69,76,76,73,80,83,73,83,95,77,65,82,75,69,82] 2232 (.str (Zs [46,46,46]) 2231),ek P [95,101,108,108,105,112,115,105,115,95,109,97,116,99,104] 2244 (.ref 99),ek P [78,76] 2248 (.str (Zs [10]) 2247),ek P [69,77,80,84,89,83,84,82,73,78,71] 2250 (.str (Zs []) 2249),ek P [95,86,97,108,117,101,70,111,114,109,97,116,116,101,114] 2358 (.ref 172)]) 20),Array.mk []⟩
noncomputable def a12v4 (P:Params):Obj:=⟨Value.none,none,(.fields (Array.mk [(.int 1 0),(.int 0 0),(.ref 20),(.int 6 0),(.int 0 0),(.ref 38),(.int 9 0),(.int 0 0),(.ref 84),(.int 14 0),(.int 0 0),(.ref 91),(.int 18 0),(.int 0 0),(.ref 98),(.int 49 0),(.int 0 0),(.ref 105)])),Array.mk []⟩
noncomputable def a100 (P:Params):Obj:=⟨(.type "tuple"),none,(.seq (Array.mk []) 0),Array.mk []⟩
noncomputable def a101 (P:Params):Obj:=⟨(.type "builtin_function_or_method"),none,(.fields (Array.mk [(.builtin "type.__prepare__"),(.type "type")])),Array.mk []⟩
noncomputable def a102 (P:Params):Obj:=⟨(.type "dict"),none,(.dict (Array.mk [ek P [95,95,109,111,100,117,108,101,95,95] 2258 (.str (Zs [99,112,121,51,49,51,46,101,109,97,105,108,46,104,101,97,100,101,114]) 2245),ek P [95,95,113,117,97,108,110,97,109,101,95,95] 2260 (.str (Zs [95,86,97,108,117,101,70,111,114,109,97,116,116,101,114]) 2259),ek P [95,95,102,105,114,115,116,108,105,110,101,110,111,95,95] 2262 (.int 49 2261),ek P [95,95,105,110,105,116,95,95] 2273 (.ref 113),ek P [95,115,116,114] 2281 (.ref 120),ek P [95,95,115,116,114,95,95] 2288 (.ref 127),ek P [110,101,119,108,105,110,101] 2296 (.ref 134),ek P [97,100,100,95,116,114,97,110,115,105,116,105,111,110] 2303 (.ref 141),ek P [102,101,101,100] 2313 (.ref 148),ek P [95,109,97,120,108,101,110,103,116,104,115] 2320 (.ref 155),ek P [95,97,115,99,105,105,95,115,112,108,105,116] 2330 (.ref 162),ek P [95,97,112,112,101,110,100,95,99,104,117,110,107] 2344 (.ref 169),ek P [95,95,115,116,97,116,105,99,95,97,116,116,114,105,98,117,116,101,115,95,95] 2351 (.ref 170)]) 13),Array.mk []⟩
noncomputable def a103 (P:Params):Obj:=⟨(.type "tuple"),none,(.seq (Array.mk []) 0),Array.mk []⟩
noncomputable def a104 (P:Params):Obj:=⟨Value.none,none,(.fields (Array.mk [(.int 51 0),(.int 4 0),(.ref 112),(.int 59 0),(.int 4 0),(.ref 119),(.int 63 0),(.int 4 0),(.ref 126),(.int 66 0),(.int 4 0),(.ref 133),(.int 77 0),(.int 4 0),(.ref 140),(.int 80 0),(.int 4 0),(.ref 147),(.int 83 0),(.int 4 0),(.ref 154),(.int 86 0),(.int 4 0),(.ref 161),(.int 89 0),(.int 4 0),(.ref 168)])),Array.mk []⟩
noncomputable def a105 (P:Params):Obj:=⟨(.type "code"),none,(.fields (Array.mk [(.str (Zs [95,86,97,108,117,101,70,111,114,109,97,116,116,101,114]) 2253),(.str (Zs [95,86,97,108,117,101,70,111,114,109,97,116,116,101,114]) 2254),(.str (Zs [47,99,108,97,105,109,47,99,117,116,46,112,121]) 2255),(.int 49 0),(.int 0 0),(.int 0 0),(.int 0 0),(.int 0 0),(.ref 103),(.bool false),(.int 181 0),(.ref 104),Value.none,Value.none,Value.none,Value.none,(.int 2256 0),(.int 49 0),(.str (Zs [47,99,108,97,105,109,47,99,117,116,46,112,121]) 2257)])),Array.mk []⟩
noncomputable def a106 (P:Params):Obj:=⟨(.type "frame"),none,.plain,Array.mk [(some (.ref 105)),(some (.ref 3)),(some (.ref 102)),none,(some (.str (Zs [99,112,121,51,49,51,46,101,109,97,105,108,46,104,101,97,100,101,114]) 2245)),none,(some (.ref 0))]⟩
noncomputable def a107 (P:Params):Obj:=⟨(.type "tuple"),none,(.seq (Array.mk []) 0),Array.mk []⟩
noncomputable def a108 (P:Params):Obj:=⟨Value.none,none,(.fields (Array.mk [])),Array.mk []⟩
noncomputable def a109 (P:Params):Obj:=⟨(.type "tuple"),none,(.seq (Array.mk [(.str (Zs [115,101,108,102]) 2266),(.str (Zs [104,101,97,100,101,114,108,101,110]) 2267),(.str (Zs [109,97,120,108,101,110]) 2268),(.str (Zs [99,111,110,116,105,110,117,97,116,105,111,110,95,119,115]) 2269),(.str (Zs [115,112,108,105,116,99,104,97,114,115]) 2270)]) 0),Array.mk []⟩
noncomputable def a110 (P:Params):Obj:=⟨(.type "tuple"),none,(.seq (Array.mk []) 0),Array.mk []⟩
noncomputable def a111 (P:Params):Obj:=⟨Value.none,none,(.func ⟨(Zs [95,95,105,110,105,116,95,95]),(Zs [95,86,97,108,117,101,70,111,114,109,97,116,116,101,114,46,95,95,105,110,105,116,95,95]),parsOf (nthS (bodyOf (ST 13)) 0),.stmts (bodyOf (nthS (bodyOf (ST 13)) 0)),scopeOf (nthS (bodyOf (ST 13)) 0),0,[],Value.none,Value.none,Value.none,Value.none,none,Value.none,Value.none,0⟩),Array.mk []⟩
noncomputable def a112 (P:Params):Obj:=⟨(.type "code"),none,(.fields (Array.mk [(.str (Zs [95,95,105,110,105,116,95,95]) 2263),(.str (Zs [95,86,97,108,117,101,70,111,114,109,97,116,116,101,114,46,95,95,105,110,105,116,95,95]) 2264),(.str (Zs [47,99,108,97,105,109,47,99,117,116,46,112,121]) 2265),(.int 51 0),(.int 5 0),(.int 0 0),(.int 0 0),(.int 3 0),(.ref 107),(.bool true),(.int 181 0),(.ref 108),Value.none,(.ref 109),(.ref 110),(.ref 111),(.int 2271 0),(.int 51 0),(.str (Zs [47,99,108,97,105,109,47,99,117,116,46,112,121]) 2272)])),Array.mk []⟩
noncomputable def a113 (P:Params):Obj:=⟨(.type "function"),none,(.func ⟨(Zs [95,95,105,110,105,116,95,95]),(Zs [95,86,97,108,117,101,70,111,114,109,97,116,116,101,114,46,95,95,105,110,105,116,95,95]),parsOf (nthS (bodyOf (ST 13)) 0),.stmts (bodyOf (nthS (bodyOf (ST 13)) 0)),scopeOf (nthS (bodyOf (ST 13)) 0),3,[],Value.none,Value.none,Value.none,(.str (Zs [99,112,121,51,49,51,46,101,109,97,105,108,46,104,101,97,100,101,114]) 2245),none,(.ref 112),Value.none,0⟩),Array.mk []⟩
noncomputable def a114 (P:Params):Obj:=⟨(.type "tuple"),none,(.seq (Array.mk []) 0),Array.mk []⟩
noncomputable def a115 (P:Params):Obj:=⟨Value.none,none,(.fields (Array.mk [])),Array.mk []⟩
noncomputable def a116 (P:Params):Obj:=⟨(.type "tuple"),none,(.seq (Array.mk [(.str (Zs [115,101,108,102]) 2277),(.str (Zs [108,105,110,101,115,101,112]) 2278)]) 0),Array.mk []⟩
noncomputable def a117 (P:Params):Obj:=⟨(.type "tuple"),none,(.seq (Array.mk []) 0),Array.mk []⟩
noncomputable def a118 (P:Params):Obj:=⟨Value.none,none,(.func ⟨(Zs [95,115,116,114]),(Zs [95,86,97,108,117,101,70,111,114,109,97,116,116,101,114,46,95,115,116,114]),parsOf (nthS (bodyOf (ST 13)) 1),.stmts (bodyOf (nthS (bodyOf (ST 13)) 1)),scopeOf (nthS (bodyOf (ST 13)) 1),0,[],Value.none,Value.none,Value.none,Value.none,none,Value.none,Value.none,0⟩),Array.mk []⟩
noncomputable def a119 (P:Params):Obj:=⟨(.type "code"),none,(.fields (Array.mk [(.str (Zs [95,115,116,114]) 2274),(.str (Zs [95,86,97,108,117,101,70,111,114,109,97,116,116,101,114,46,95,115,116,114]) 2275),(.str (Zs [47,99,108,97,105,109,47,99,117,116,46,112,121]) 2276),(.int 59 0),(.int 2 0),(.int 0 0),(.int 0 0),(.int 3 0),(.ref 114),(.bool true),(.int 181 0),(.ref 115),Value.none,(.ref 116),(.ref 117),(.ref 118),(.int 2279 0),(.int 59 0),(.str (Zs [47,99,108,97,105,109,47,99,117,116,46,112,121]) 2280)])),Array.mk []⟩
noncomputable def a120 (P:Params):Obj:=⟨(.type "function"),none,(.func ⟨(Zs [95,115,116,114]),(Zs [95,86,97,108,117,101,70,111,114,109,97,116,116,101,114,46,95,115,116,114]),parsOf (nthS (bodyOf (ST 13)) 1),.stmts (bodyOf (nthS (bodyOf (ST 13)) 1)),scopeOf (nthS (bodyOf (ST 13)) 1),3,[],Value.none,Value.none,Value.none,(.str (Zs [99,112,121,51,49,51,46,101,109,97,105,108,46,104,101,97,100,101,114]) 2245),none,(.ref 119),Value.none,0⟩),Array.mk []⟩
noncomputable def a121 (P:Params):Obj:=⟨(.type "tuple"),none,(.seq (Array.mk []) 0),Array.mk []⟩
noncomputable def a122 (P:Params):Obj:=⟨Value.none,none,(.fields (Array.mk [])),Array.mk []⟩
noncomputable def a123 (P:Params):Obj:=⟨(.type "tuple"),none,(.seq (Array.mk [(.str (Zs [115,101,108,102]) 2285)]) 0),Array.mk []⟩
noncomputable def a124 (P:Params):Obj:=⟨(.type "tuple"),none,(.seq (Array.mk []) 0),Array.mk []⟩
noncomputable def a125 (P:Params):Obj:=⟨Value.none,none,(.func ⟨(Zs [95,95,115,116,114,95,95]),(Zs [95,86,97,108,117,101,70,111,114,109,97,116,116,101,114,46,95,95,115,116,114,95,95]),parsOf (nthS (bodyOf (ST 13)) 2),.stmts (bodyOf (nthS (bodyOf (ST 13)) 2)),scopeOf (nthS (bodyOf (ST 13)) 2),0,[],Value.none,Value.none,Value.none,Value.none,none,Value.none,Value.none,0⟩),Array.mk []⟩
noncomputable def a126 (P:Params):Obj:=⟨(.type "code"),none,(.fields (Array.mk [(.str (Zs [95,95,115,116,114,95,95]) 2282),(.str (Zs [95,86,97,108,117,101,70,111,114,109,97,116,116,101,114,46,95,95,115,116,114,95,95]) 2283),(.str (Zs [47,99,108,97,105,109,47,99,117,116,46,112,121]) 2284),(.int 63 0),(.int 1 0),(.int 0 0),(.int 0 0),(.int 3 0),(.ref 121),(.bool true),(.int 181 0),(.ref 122),Value.none,(.ref 123),(.ref 124),(.ref 125),(.int 2286 0),(.int 63 0),(.str (Zs [47,99,108,97,105,109,47,99,117,116,46,112,121]) 2287)])),Array.mk []⟩
noncomputable def a127 (P:Params):Obj:=⟨(.type "function"),none,(.func ⟨(Zs [95,95,115,116,114,95,95]),(Zs [95,86,97,108,117,101,70,111,114,109,97,116,116,101,114,46,95,95,115,116,114,95,95]),parsOf (nthS (bodyOf (ST 13)) 2),.stmts (bodyOf (nthS (bodyOf (ST 13)) 2)),scopeOf (nthS (bodyOf (ST 13)) 2),3,[],Value.none,Value.none,Value.none,(.str (Zs [99,112,121,51,49,51,46,101,109,97,105,108,46,104,101,97,100,101,114]) 2245),none,(.ref 126),Value.none,0⟩),Array.mk []⟩
noncomputable def a128 (P:Params):Obj:=⟨(.type "tuple"),none,(.seq (Array.mk []) 0),Array.mk []⟩
noncomputable def a129 (P:Params):Obj:=⟨Value.none,none,(.fields (Array.mk [])),Array.mk []⟩
noncomputable def a130 (P:Params):Obj:=⟨(.type "tuple"),none,(.seq (Array.mk [(.str (Zs [115,101,108,102]) 2292),(.str (Zs [101,110,100,95,111,102,95,108,105,110,101]) 2293)]) 0),Array.mk []⟩
noncomputable def a131 (P:Params):Obj:=⟨(.type "tuple"),none,(.seq (Array.mk []) 0),Array.mk []⟩
noncomputable def a132 (P:Params):Obj:=⟨Value.none,none,(.func ⟨(Zs [110,101,119,108,105,110,101]),(Zs [95,86,97,108,117,101,70,111,114,109,97,116,116,101,114,46,110,101,119,108,105,110,101]),parsOf (nthS (bodyOf (ST 13)) 3),.stmts (bodyOf (nthS (bodyOf (ST 13)) 3)),scopeOf (nthS (bodyOf (ST 13)) 3),0,[],Value.none,Value.none,Value.none,Value.none,none,Value.none,Value.none,0⟩),Array.mk []⟩
noncomputable def a133 (P:Params):Obj:=⟨(.type "code"),none,(.fields (Array.mk [(.str (Zs [110,101,119,108,105,110,101]) 2289),(.str (Zs [95,86,97,108,117,101,70,111,114,109,97,116,116,101,114,46,110,101,119,108,105,110,101]) 2290),(.str (Zs [47,99,108,97,105,109,47,99,117,116,46,112,121]) 2291),(.int 66 0),(.int 1 0),(.int 0 0),(.int 0 0),(.int 3 0),(.ref 128),(.bool true),(.int 181 0),(.ref 129),Value.none,(.ref 130),(.ref 131),(.ref 132),(.int 2294 0),(.int 66 0),(.str (Zs [47,99,108,97,105,109,47,99,117,116,46,112,121]) 2295)])),Array.mk []⟩
noncomputable def a134 (P:Params):Obj:=⟨(.type "function"),none,(.func ⟨(Zs [110,101,119,108,105,110,101]),(Zs [95,86,97,108,117,101,70,111,114,109,97,116,116,101,114,46,110,101,119,108,105,110,101]),parsOf (nthS (bodyOf (ST 13)) 3),.stmts (bodyOf (nthS (bodyOf (ST 13)) 3)),scopeOf (nthS (bodyOf (ST 13)) 3),3,[],Value.none,Value.none,Value.none,(.str (Zs [99,112,121,51,49,51,46,101,109,97,105,108,46,104,101,97,100,101,114]) 2245),none,(.ref 133),Value.none,0⟩),Array.mk []⟩
noncomputable def a135 (P:Params):Obj:=⟨(.type "tuple"),none,(.seq (Array.mk []) 0),Array.mk []⟩
noncomputable def a136 (P:Params):Obj:=⟨Value.none,none,(.fields (Array.mk [])),Array.mk []⟩
noncomputable def a137 (P:Params):Obj:=⟨(.type "tuple"),none,(.seq (Array.mk [(.str (Zs [115,101,108,102]) 2300)]) 0),Array.mk []⟩
noncomputable def a138 (P:Params):Obj:=⟨(.type "tuple"),none,(.seq (Array.mk []) 0),Array.mk []⟩
noncomputable def a139 (P:Params):Obj:=⟨Value.none,none,(.func ⟨(Zs [97,100,100,95,116,114,97,110,115,105,116,105,111,110]),(Zs [95,86,97,108,117,101,70,111,114,109,97,116,116,101,114,46,97,100,100,95,116,114,97,110,115,105,116,105,111,110]),parsOf (nthS (bodyOf (ST 13)) 4),.stmts (bodyOf (nthS (bodyOf (ST 13)) 4)),scopeOf (nthS (bodyOf (ST 13)) 4),0,[],Value.none,Value.none,Value.none,Value.none,none,Value.none,Value.none,0⟩),Array.mk []⟩
noncomputable def a140 (P:Params):Obj:=⟨(.type "code"),none,(.fields (Array.mk [(.str (Zs [97,100,100,95,116,114,97,110,115,105,116,105,111,110]) 2297),(.str (Zs [95,86,97,108,117,101,70,111,114,109,97,116,116,101,114,46,97,100,100,95,116,114,97,110,115,105,116,105,111,110]) 2298),(.str (Zs [47,99,108,97,105,109,47,99,117,116,46,112,121]) 2299),(.int 77 0),(.int 1 0),(.int 0 0),(.int 0 0),(.int 3 0),(.ref 135),(.bool true),(.int 181 0),(.ref 136),Value.none,(.ref 137),(.ref 138),(.ref 139),(.int 2301 0),(.int 77 0),(.str (Zs [47,99,108,97,105,109,47,99,117,116,46,112,121]) 2302)])),Array.mk []⟩
noncomputable def a141 (P:Params):Obj:=⟨(.type "function"),none,(.func ⟨(Zs [97,100,100,95,116,114,97,110,115,105,116,105,111,110]),(Zs [95,86,97,108,117,101,70,111,114,109,97,116,116,101,114,46,97,100,100,95,116,114,97,110,115,105,116,105,111,110]),parsOf (nthS (bodyOf (ST 13)) 4),.stmts (bodyOf (nthS (bodyOf (ST 13)) 4)),scopeOf (nthS (bodyOf (ST 13)) 4),3,[],Value.none,Value.none,Value.none,(.str (Zs [99,112,121,51,49,51,46,101,109,97,105,108,46,104,101,97,100,101,114]) 2245),none,(.ref 140),Value.none,0⟩),Array.mk []⟩
noncomputable def a142 (P:Params):Obj:=⟨(.type "tuple"),none,(.seq (Array.mk []) 0),Array.mk []⟩
noncomputable def a143 (P:Params):Obj:=⟨Value.none,none,(.fields (Array.mk [])),Array.mk []⟩
noncomputable def a144 (P:Params):Obj:=⟨(.type "tuple"),none,(.seq (Array.mk [(.str (Zs [115,101,108,102]) 2307),(.str (Zs [102,119,115]) 2308),(.str (Zs [115,116,114,105,110,103]) 2309),(.str (Zs [99,104,97,114,115,101,116]) 2310)]) 0),Array.mk []⟩
noncomputable def a145 (P:Params):Obj:=⟨(.type "tuple"),none,(.seq (Array.mk []) 0),Array.mk []⟩
noncomputable def a146 (P:Params):Obj:=⟨Value.none,none,(.func ⟨(Zs [102,101,101,100]),(Zs [95,86,97,108,117,101,70,111,114,109,97,116,116,101,114,46,102,101,101,100]),parsOf (nthS (bodyOf (ST 13)) 5),.stmts (bodyOf (nthS (bodyOf (ST 13)) 5)),scopeOf (nthS (bodyOf (ST 13)) 5),0,[],Value.none,Value.none,Value.none,Value.none,none,Value.none,Value.none,0⟩),Array.mk []⟩
noncomputable def a147 (P:Params):Obj:=⟨(.type "code"),none,(.fields (Array.mk [(.str (Zs [102,101,101,100]) 2304),(.str (Zs [95,86,97,108,117,101,70,111,114,109,97,116,116,101,114,46,102,101,101,100]) 2305),(.str (Zs [47,99,108,97,105,109,47,99,117,116,46,112,121]) 2306),(.int 80 0),(.int 4 0),(.int 0 0),(.int 0 0),(.int 3 0),(.ref 142),(.bool true),(.int 181 0),(.ref 143),Value.none,(.ref 144),(.ref 145),(.ref 146),(.int 2311 0),(.int 80 0),(.str (Zs [47,99,108,97,105,109,47,99,117,116,46,112,121]) 2312)])),Array.mk []⟩
noncomputable def a148 (P:Params):Obj:=⟨(.type "function"),none,(.func ⟨(Zs [102,101,101,100]),(Zs [95,86,97,108,117,101,70,111,114,109,97,116,116,101,114,46,102,101,101,100]),parsOf (nthS (bodyOf (ST 13)) 5),.stmts (bodyOf (nthS (bodyOf (ST 13)) 5)),scopeOf (nthS (bodyOf (ST 13)) 5),3,[],Value.none,Value.none,Value.none,(.str (Zs [99,112,121,51,49,51,46,101,109,97,105,108,46,104,101,97,100,101,114]) 2245),none,(.ref 147),Value.none,0⟩),Array.mk []⟩
noncomputable def a149 (P:Params):Obj:=⟨(.type "tuple"),none,(.seq (Array.mk []) 0),Array.mk []⟩
noncomputable def a150 (P:Params):Obj:=⟨Value.none,none,(.fields (Array.mk [])),Array.mk []⟩
noncomputable def a151 (P:Params):Obj:=⟨(.type "tuple"),none,(.seq (Array.mk [(.str (Zs [115,101,108,102]) 2317)]) 0),Array.mk []⟩
noncomputable def a152 (P:Params):Obj:=⟨(.type "tuple"),none,(.seq (Array.mk []) 0),Array.mk []⟩
noncomputable def a153 (P:Params):Obj:=⟨Value.none,none,(.func ⟨(Zs [95,109,97,120,108,101,110,103,116,104,115]),(Zs [95,86,97,108,117,101,70,111,114,109,97,116,116,101,114,46,95,109,97,120,108,101,110,103,116,104,115]),parsOf (nthS (bodyOf (ST 13)) 6),.stmts (bodyOf (nthS (bodyOf (ST 13)) 6)),scopeOf (nthS (bodyOf (ST 13)) 6),0,[],Value.none,Value.none,Value.none,Value.none,none,Value.none,Value.none,0⟩),Array.mk []⟩
noncomputable def a154 (P:Params):Obj:=⟨(.type "code"),none,(.fields (Array.mk [(.str (Zs [95,109,97,120,108,101,110,103,116,104,115]) 2314),(.str (Zs [95,86,97,108,117,101,70,111,114,109,97,116,116,101,114,46,95,109,97,120,108,101,110,103,116,104,115]) 2315),(.str (Zs [47,99,108,97,105,109,47,99,117,116,46,112,121]) 2316),(.int 83 0),(.int 1 0),(.int 0 0),(.int 0 0),(.int 3 0),(.ref 149),(.bool true),(.int 181 0),(.ref 150),Value.none,(.ref 151),(.ref 152),(.ref 153),(.int 2318 0),(.int 83 0),(.str (Zs [47,99,108,97,105,109,47,99,117,116,46,112,121]) 2319)])),Array.mk []⟩
noncomputable def a155 (P:Params):Obj:=⟨(.type "function"),none,(.func ⟨(Zs [95,109,97,120,108,101,110,103,116,104,115]),(Zs [95,86,97,108,117,101,70,111,114,109,97,116,116,101,114,46,95,109,97,120,108,101,110,103,116,104,115]),parsOf (nthS (bodyOf (ST 13)) 6),.stmts (bodyOf (nthS (bodyOf (ST 13)) 6)),scopeOf (nthS (bodyOf (ST 13)) 6),3,[],Value.none,Value.none,Value.none,(.str (Zs [99,112,121,51,49,51,46,101,109,97,105,108,46,104,101,97,100,101,114]) 2245),none,(.ref 154),Value.none,0⟩),Array.mk []⟩
noncomputable def a156 (P:Params):Obj:=⟨(.type "tuple"),none,(.seq (Array.mk []) 0),Array.mk []⟩
noncomputable def a157 (P:Params):Obj:=⟨Value.none,none,(.fields (Array.mk [])),Array.mk []⟩
noncomputable def a158 (P:Params):Obj:=⟨(.type "tuple"),none,(.seq (Array.mk [(.str (Zs [115,101,108,102]) 2324),(.str (Zs [102,119,115]) 2325),(.str (Zs [115,116,114,105,110,103]) 2326),(.str (Zs [115,112,108,105,116,99,104,97,114,115]) 2327)]) 0),Array.mk []⟩
noncomputable def a159 (P:Params):Obj:=⟨(.type "tuple"),none,(.seq (Array.mk []) 0),Array.mk []⟩
noncomputable def a160 (P:Params):Obj:=⟨Value.none,none,(.func ⟨(Zs [95,97,115,99,105,105,95,115,112,108,105,116]),(Zs [95,86,97,108,117,101,70,111,114,109,97,116,116,101,114,46,95,97,115,99,105,105,95,115,112,108,105,116]),parsOf (nthS (bodyOf (ST 13)) 7),.stmts (bodyOf (nthS (bodyOf (ST 13)) 7)),scopeOf (nthS (bodyOf (ST 13)) 7),0,[],Value.none,Value.none,Value.none,Value.none,none,Value.none,Value.none,0⟩),Array.mk []⟩
noncomputable def a161 (P:Params):Obj:=⟨(.type "code"),none,(.fields (Array.mk [(.str (Zs [95,97,115,99,105,105,95,115,112,108,105,116]) 2321),(.str (Zs [95,86,97,108,117,101,70,111,114,109,97,116,116,101,114,46,95,97,115,99,105,105,95,115,112,108,105,116]) 2322),(.str (Zs [47,99,108,97,105,109,47,99,117,116,46,112,121]) 2323),(.int 86 0),(.int 4 0),(.int 0 0),(.int 0 0),(.int 3 0),(.ref 156),(.bool true),(.int 181 0),(.ref 157),Value.none,(.ref 158),(.ref 159),(.ref 160),(.int 2328 0),(.int 86 0),(.str (Zs [47,99,108,97,105,109,47,99,117,116,46,112,121]) 2329)])),Array.mk []⟩
noncomputable def a162 (P:Params):Obj:=⟨(.type "function"),none,(.func ⟨(Zs [95,97,115,99,105,105,95,115,112,108,105,116]),(Zs [95,86,97,108,117,101,70,111,114,109,97,116,116,101,114,46,95,97,115,99,105,105,95,115,112,108,105,116]),parsOf (nthS (bodyOf (ST 13)) 7),.stmts (bodyOf (nthS (bodyOf (ST 13)) 7)),scopeOf (nthS (bodyOf (ST 13)) 7),3,[],Value.none,Value.none,Value.none,(.str (Zs [99,112,121,51,49,51,46,101,109,97,105,108,46,104,101,97,100,101,114]) 2245),none,(.ref 161),Value.none,0⟩),Array.mk []⟩
noncomputable def a163 (P:Params):Obj:=⟨(.type "tuple"),none,(.seq (Array.mk []) 0),Array.mk []⟩
noncomputable def a164 (P:Params):Obj:=⟨Value.none,none,(.fields (Array.mk [])),Array.mk []⟩
noncomputable def a165 (P:Params):Obj:=⟨(.type "tuple"),none,(.seq (Array.mk [(.str (Zs [115,101,108,102]) 2334),(.str (Zs [102,119,115]) 2335),(.str (Zs [115,116,114,105,110,103]) 2336),(.str (Zs [99,104]) 2337),(.str (Zs [105]) 2338),(.str (Zs [112,114,101,118,112,97,114,116]) 2339),(.str (Zs [112,97,114,116]) 2340),(.str (Zs [114,101,109,97,105,110,100,101,114]) 2341)]) 0),Array.mk []⟩
noncomputable def a166 (P:Params):Obj:=⟨(.type "tuple"),none,(.seq (Array.mk []) 0),Array.mk []⟩
noncomputable def a167 (P:Params):Obj:=⟨Value.none,none,(.func ⟨(Zs [95,97,112,112,101,110,100,95,99,104,117,110,107]),(Zs [95,86,97,108,117,101,70,111,114,109,97,116,116,101,114,46,95,97,112,112,101,110,100,95,99,104,117,110,107]),parsOf (nthS (bodyOf (ST 13)) 8),.stmts (bodyOf (nthS (bodyOf (ST 13)) 8)),scopeOf (nthS (bodyOf (ST 13)) 8),0,[],Value.none,Value.none,Value.none,Value.none,none,Value.none,Value.none,0⟩),Array.mk []⟩
noncomputable def a168 (P:Params):Obj:=⟨(.type "code"),none,(.fields (Array.mk [(.str (Zs [95,97,112,112,101,110,100,95,99,104,117,110,107]) 2331),(.str (Zs [95,86,97,108,117,101,70,111,114,109,97,116,116,101,114,46,95,97,112,112,101,110,100,95,99,104,117,110,107]) 2332),(.str (Zs [47,99,108,97,105,109,47,99,117,116,46,112,121]) 2333),(.int 89 0),(.int 3 0),(.int 0 0),(.int 0 0),(.int 3 0),(.ref 163),(.bool true),(.int 181 0),(.ref 164),Value.none,(.ref 165),(.ref 166),(.ref 167),(.int 2342 0),(.int 89 0),(.str (Zs [47,99,108,97,105,109,47,99,117,116,46,112,121]) 2343)])),Array.mk []⟩
noncomputable def a169 (P:Params):Obj:=⟨(.type "function"),none,(.func ⟨(Zs [95,97,112,112,101,110,100,95,99,104,117,110,107]),(Zs [95,86,97,108,117,101,70,111,114,109,97,116,116,101,114,46,95,97,112,112,101,110,100,95,99,104,117,110,107]),parsOf (nthS (bodyOf (ST 13)) 8),.stmts (bodyOf (nthS (bodyOf (ST 13)) 8)),scopeOf (nthS (bodyOf (ST 13)) 8),3,[],Value.none,Value.none,Value.none,(.str (Zs [99,112,121,51,49,51,46,101,109,97,105,108,46,104,101,97,100,101,114]) 2245),none,(.ref 168),Value.none,0⟩),Array.mk []⟩
noncomputable def a170 (P:Params):Obj:=⟨(.type "tuple"),none,(.seq (Array.mk [(.str (Zs [95,99,111,110,116,105,110,117,97,116,105,111,110,95,119,115]) 2345),(.str (Zs [95,99,111,110,116,105,110,117,97,116,105,111,110,95,119,115,95,108,101,110]) 2346),(.str (Zs [95,99,117,114,114,101,110,116,95,108,105,110,101]) 2347),(.str (Zs [95,108,105,110,101,115]) 2348),(.str (Zs [95,109,97,120,108,101,110]) 2349),(.str (Zs [95,115,112,108,105,116,99,104,97,114,115]) 2350)]) 0),Array.mk []⟩
noncomputable def a171 (P:Params):Obj:=⟨(.type "dict"),none,(.dict (Array.mk [ek P [95,95,109,111,100,117,108,101,95,95] 2258 (.str (Zs [99,112,121,51,49,51,46,101,109,97,105,108,46,104,101,97,100,101,114]) 2245),ek P [95,95,102,105,114,115,116,108,105,110,101,110,111,95,95] 2262 (.int 49 2261),ek P [95,95,105,110,105,116,95,95] 2273 (.ref 113),ek P [95,115,116,114] 2281 (.ref 120),ek P [95,95,115,116,114,95,95] 2288 (.ref 127),ek P [110,101,119,108,105,110,101] 2296 (.ref 134),ek P [97,100,100,95,116,114,97,110,115,105,116,105,111,110] 2303 (.ref 141),ek P [102,101,101,100] 2313 (.ref 148),ek P [95,109,97,120,108,101,110,103,116,104,115] 2320 (.ref 155),ek P [95,97,115,99,105,105,95,115,112,108,105,116] 2330 (.ref 162),ek P [95,97,112,112,101,110,100,95,99,104,117,110,107] 2344 (.ref 169),ek P [95,95,115,116,97,116,105,99,95,97,116,116,114,105,98,117,116,101,115,95,95] 2351 (.ref 170),ek P [95,95,100,105,99,116,95,95] 2353 (.ref 173),ek P [95,95,119,101,97,107,114,101,102,95,95] 2355 (.ref 174),ek P [95,95,100,111,99,95,95] 2356 Value.none]) 4),Array.mk []⟩
noncomputable def a172 (P:Params):Obj:=⟨(.type "type"),none,(.cls ⟨(Zs [95,86,97,108,117,101,70,111,114,109,97,116,116,101,114]),[(.type "object")],[(.ref 172),(.type "object")],171,(Zs [95,86,97,108,117,101,70,111,114,109,97,116,116,101,114]),true,[],[],false,none,false⟩),Array.mk [none,none,(some (.str (Zs [95,86,97,108,117,101,70,111,114,109,97,116,116,101,114]) 2251)),(some (.str (Zs [95,86,97,108,117,101,70,111,114,109,97,116,116,101,114]) 2259)),(some (.builtin "object.__new__")),(some (.bool true))]⟩
noncomputable def a173 (P:Params):Obj:=⟨(.type "getset_descriptor"),none,(.fields (Array.mk [(.str (Zs [95,95,100,105,99,116,95,95]) 2352),(.ref 172),(.builtin "function.__dict__"),(.builtin "function.__dict__#set")])),Array.mk []⟩
noncomputable def a174 (P:Params):Obj:=⟨(.type "getset_descriptor"),none,(.fields (Array.mk [(.str (Zs [95,95,119,101,97,107,114,101,102,95,95]) 2354),(.ref 172),(.builtin "ExceptionGroup.__weakref__"),Value.none])),Array.mk []⟩
noncomputable def a175 (P:Params):Obj:=⟨(.type "super"),none,(.fields (Array.mk [(.ref 172),(.ref 172),(.ref 172)])),Array.mk []⟩
noncomputable def a176 (P:Params):Obj:=⟨(.type "builtin_function_or_method"),none,(.fields (Array.mk [(.builtin "object.__init_subclass__"),(.ref 172)])),Array.mk []⟩
noncomputable def a3v7 (P:Params):Obj:=⟨(.type "dict"),none,(.dict (Array.mk [ek P [95,95,110,97,109,101,95,95] 165 (.str (Zs [99,112,121,51,49,51,46,101,109,97,105,108,46,104,101,97,100,101,114]) 2245),ek P [95,95,100,111,99,95,95] 166 Value.none,ek P [95,95,112,97,99,107,97,103,101,95,95] 167 Value.none,ek P [95,95,108,111,97,100,101,114,95,95] 168 (.builtin "__main__.__loader__#opaque"),ek P [95,95,115,112,101,99,95,95] 169 Value.none,ek P [95,95,97,110,110,111,116,97,116,105,111,110,115,95,95] 170 (.ref 6),ek P [95,95,98,117,105,108,116,105,110,115,95,95] 171 (.ref 4),ek P [95,95,102,105,108,101,95,95] 173 (.str (Zs [47,99,108,97,105,109,47,99,117,116,46,112,121]) 172),ek P [95,95,99,97,99,104,101,100,95,95] 174 Value.none,ek P [95,119,97,108,108] 193 (.ref 21),ek P [98,49,95,115,101,116] 255 (.ref 29),ek P [105,110,95,116,97,98,108,101,95,98,49] 262 (.ref 39),ek P [98,51,95,101,120,99,101,112,116,105,111,110,115] 2213 (.ref 40),ek P [109,97,112,95,116,97,98,108,101,95,98,51] 2221 (.ref 85),ek P [105,110,95,116,97,98,108,101,95,99,49,49] 2228 (.ref 92),ek P [69,76,76,73,80,83,73,83,95,77,65,82,75,69,82] 2232 (.str (Zs [46,46,46]) 2231),ek P [95,101,108,108,105,112,115,105,115,95,109,97,116,99,104] 2244 (.ref 99),ek P [78,76] 2248 (.str (Zs [10]) 2247),ek P [69,77,80,84,89,83,84,82,73,78,71] 2250 (.str (Zs []) 2249),ek P [95,86,97,108,117,101,70,111,114,109,97,116,116,101,114] 2358 (.ref 172),ek P [95,65,99,99,117,109,117,108,97,116,111,114] 2454 (.ref 256)]) 21),Array.mk []⟩
noncomputable def a12v5 (P:Params):Obj:=⟨Value.none,none,(.fields (Array.mk [(.int 1 0),(.int 0 0),(.ref 20),(.int 6 0),(.int 0 0),(.ref 38),(.int 9 0),(.int 0 0),(.ref 84),(.int 14 0),(.int 0 0),(.ref 91),(.int 18 0),(.int 0 0),(.ref 98),(.int 49 0),(.int 0 0),(.ref 105),(.int 115 0),(.int 0 0),(.ref 183)])),Array.mk []⟩
noncomputable def a177 (P:Params):Obj:=⟨(.type "tuple"),none,(.seq (Array.mk [(.type "list")]) 0),Array.mk []⟩
noncomputable def a178 (P:Params):Obj:=⟨(.type "builtin_function_or_method"),none,(.fields (Array.mk [(.builtin "type.__prepare__"),(.type "type")])),Array.mk []⟩
noncomputable def a179 (P:Params):Obj:=⟨(.type "dict"),none,(.dict (Array.mk [ek P [95,95,109,111,100,117,108,101,95,95] 2366 (.str (Zs [99,112,121,51,49,51,46,101,109,97,105,108,46,104,101,97,100,101,114]) 2245),ek P [95,95,113,117,97,108,110,97,109,101,95,95] 2368 (.str (Zs [95,65,99,99,117,109,117,108,97,116,111,114]) 2367),ek P [95,95,102,105,114,115,116,108,105,110,101,110,111,95,95] 2370 (.int 115 2369),ek P [95,95,105,110,105,116,95,95] 2380 (.ref 193),ek P [112,117,115,104] 2389 (.ref 200),ek P [112,111,112,95,102,114,111,109] 2399 (.ref 208),ek P [112,111,112] 2407 (.ref 216),ek P [95,95,108,101,110,95,95] 2414 (.ref 223),ek P [95,95,115,116,114,95,95] 2421 (.ref 230),ek P [114,101,115,101,116] 2429 (.ref 238),ek P [105,115,95,111,110,108,121,119,115] 2436 (.ref 245),ek P [112,97,114,116,95,99,111,117,110,116] 2444 (.ref 253),ek P [95,95,115,116,97,116,105,99,95,97,116,116,114,105,98,117,116,101,115,95,95] 2446 (.ref 254),ek P [95,95,99,108,97,115,115,99,101,108,108,95,95] 2447 (.ref 180)]) 14),Array.mk []⟩
noncomputable def a180 (P:Params):Obj:=⟨(.type "cell"),none,(.cell (some (.ref 256))),Array.mk []⟩
noncomputable def a181 (P:Params):Obj:=⟨(.type "tuple"),none,(.seq (Array.mk []) 0),Array.mk []⟩
noncomputable def a182 (P:Params):Obj:=⟨Value.none,none,(.fields (Array.mk [(.int 117 0),(.int 4 0),(.ref 192),(.int 121 0),(.int 4 0),(.ref 199),(.int 124 0),(.int 4 0),(.ref 207),(.int 129 0),(.int 4 0),(.ref 215),(.int 134 0),(.int 4 0),(.ref 222),(.int 137 0),(.int 4 0),(.ref 229),(.int 140 0),(.int 4 0),(.ref 237),(.int 146 0),(.int 4 0),(.ref 244),(.int 149 0),(.int 4 0),(.ref 252)])),Array.mk []⟩
noncomputable def a183 (P:Params):Obj:=⟨(.type "code"),none,(.fields (Array.mk [(.str (Zs [95,65,99,99,117,109,117,108,97,116,111,114]) 2361),(.str (Zs [95,65,99,99,117,109,117,108,97,116,111,114]) 2362),(.str (Zs [47,99,108,97,105,109,47,99,117,116,46,112,121]) 2363),(.int 115 0),(.int 0 0),(.int 0 0),(.int 0 0),(.int 0 0),(.ref 181),(.bool false),(.int 181 0),(.ref 182),Value.none,Value.none,Value.none,Value.none,(.int 2364 0),(.int 115 0),(.str (Zs [47,99,108,97,105,109,47,99,117,116,46,112,121]) 2365)])),Array.mk []⟩
noncomputable def a184 (P:Params):Obj:=⟨(.type "frame"),none,.plain,Array.mk [(some (.ref 183)),(some (.ref 3)),(some (.ref 179)),none,(some (.str (Zs [99,112,121,51,49,51,46,101,109,97,105,108,46,104,101,97,100,101,114]) 2245)),none,(some (.ref 0))]⟩
noncomputable def a185 (P:Params):Obj:=⟨(.type "tuple"),none,(.seq (Array.mk [(.int 0 2371)]) 0),Array.mk []⟩
noncomputable def a186 (P:Params):Obj:=⟨(.type "tuple"),none,(.seq (Array.mk [(.ref 180)]) 0),Array.mk []⟩
noncomputable def a187 (P:Params):Obj:=⟨(.type "tuple"),none,(.seq (Array.mk [(.str (Zs [95,95,99,108,97,115,115,95,95]) 2375)]) 0),Array.mk []⟩
noncomputable def a188 (P:Params):Obj:=⟨Value.none,none,(.fields (Array.mk [])),Array.mk []⟩
noncomputable def a189 (P:Params):Obj:=⟨(.type "tuple"),none,(.seq (Array.mk [(.str (Zs [115,101,108,102]) 2376),(.str (Zs [105,110,105,116,105,97,108,95,115,105,122,101]) 2377)]) 0),Array.mk []⟩
noncomputable def a190 (P:Params):Obj:=⟨(.type "tuple"),none,(.seq (Array.mk []) 0),Array.mk []⟩
noncomputable def a191 (P:Params):Obj:=⟨Value.none,none,(.func ⟨(Zs [95,95,105,110,105,116,95,95]),(Zs [95,65,99,99,117,109,117,108,97,116,111,114,46,95,95,105,110,105,116,95,95]),parsOf (nthS (bodyOf (ST 14)) 0),.stmts (bodyOf (nthS (bodyOf (ST 14)) 0)),scopeOf (nthS (bodyOf (ST 14)) 0),0,[],Value.none,Value.none,Value.none,Value.none,none,Value.none,Value.none,0⟩),Array.mk []⟩
noncomputable def a192 (P:Params):Obj:=⟨(.type "code"),none,(.fields (Array.mk [(.str (Zs [95,95,105,110,105,116,95,95]) 2372),(.str (Zs [95,65,99,99,117,109,117,108,97,116,111,114,46,95,95,105,110,105,116,95,95]) 2373),(.str (Zs [47,99,108,97,105,109,47,99,117,116,46,112,121]) 2374),(.int 117 0),(.int 2 0),(.int 0 0),(.int 0 0),(.int 3 0),(.ref 187),(.bool true),(.int 181 0),(.ref 188),Value.none,(.ref 189),(.ref 190),(.ref 191),(.int 2378 0),(.int 117 0),(.str (Zs [47,99,108,97,105,109,47,99,117,116,46,112,121]) 2379)])),Array.mk []⟩
noncomputable def a193 (P:Params):Obj:=⟨(.type "function"),none,(.func ⟨(Zs [95,95,105,110,105,116,95,95]),(Zs [95,65,99,99,117,109,117,108,97,116,111,114,46,95,95,105,110,105,116,95,95]),parsOf (nthS (bodyOf (ST 14)) 0),.stmts (bodyOf (nthS (bodyOf (ST 14)) 0)),scopeOf (nthS (bodyOf (ST 14)) 0),3,[((Zs [95,95,99,108,97,115,115,95,95]),180)],(.ref 185),Value.none,Value.none,(.str (Zs [99,112,121,51,49,51,46,101,109,97,105,108,46,104,101,97,100,101,114]) 2245),none,(.ref 192),(.ref 186),0⟩),Array.mk []⟩
noncomputable def a194 (P:Params):Obj:=⟨(.type "tuple"),none,(.seq (Array.mk []) 0),Array.mk []⟩
noncomputable def a195 (P:Params):Obj:=⟨Value.none,none,(.fields (Array.mk [])),Array.mk []⟩
noncomputable def a196 (P:Params):Obj:=⟨(.type "tuple"),none,(.seq (Array.mk [(.str (Zs [115,101,108,102]) 2384),(.str (Zs [102,119,115]) 2385),(.str (Zs [115,116,114,105,110,103]) 2386)]) 0),Array.mk []⟩
noncomputable def a197 (P:Params):Obj:=⟨(.type "tuple"),none,(.seq (Array.mk []) 0),Array.mk []⟩
noncomputable def a198 (P:Params):Obj:=⟨Value.none,none,(.func ⟨(Zs [112,117,115,104]),(Zs [95,65,99,99,117,109,117,108,97,116,111,114,46,112,117,115,104]),parsOf (nthS (bodyOf (ST 14)) 1),.stmts (bodyOf (nthS (bodyOf (ST 14)) 1)),scopeOf (nthS (bodyOf (ST 14)) 1),0,[],Value.none,Value.none,Value.none,Value.none,none,Value.none,Value.none,0⟩),Array.mk []⟩
noncomputable def a199 (P:Params):Obj:=⟨(.type "code"),none,(.fields (Array.mk [(.str (Zs [112,117,115,104]) 2381),(.str (Zs [95,65,99,99,117,109,117,108,97,116,111,114,46,112,117,115,104]) 2382),(.str (Zs [47,99,108,97,105,109,47,99,117,116,46,112,121]) 2383),(.int 121 0),(.int 3 0),(.int 0 0),(.int 0 0),(.int 3 0),(.ref 194),(.bool true),(.int 181 0),(.ref 195),Value.none,(.ref 196),(.ref 197),(.ref 198),(.int 2387 0),(.int 121 0),(.str (Zs [47,99,108,97,105,109,47,99,117,116,46,112,121]) 2388)])),Array.mk []⟩
noncomputable def a200 (P:Params):Obj:=⟨(.type "function"),none,(.func ⟨(Zs [112,117,115,104]),(Zs [95,65,99,99,117,109,117,108,97,116,111,114,46,112,117,115,104]),parsOf (nthS (bodyOf (ST 14)) 1),.stmts (bodyOf (nthS (bodyOf (ST 14)) 1)),scopeOf (nthS (bodyOf (ST 14)) 1),3,[],Value.none,Value.none,Value.none,(.str (Zs [99,112,121,51,49,51,46,101,109,97,105,108,46,104,101,97,100,101,114]) 2245),none,(.ref 199),Value.none,0⟩),Array.mk []⟩
noncomputable def a201 (P:Params):Obj:=⟨(.type "tuple"),none,(.seq (Array.mk [(.int 0 2390)]) 0),Array.mk []⟩
noncomputable def a202 (P:Params):Obj:=⟨(.type "tuple"),none,(.seq (Array.mk []) 0),Array.mk []⟩
noncomputable def a203 (P:Params):Obj:=⟨Value.none,none,(.fields (Array.mk [])),Array.mk []⟩
noncomputable def a204 (P:Params):Obj:=⟨(.type "tuple"),none,(.seq (Array.mk [(.str (Zs [115,101,108,102]) 2394),(.str (Zs [105]) 2395),(.str (Zs [112,111,112,112,101,100]) 2396)]) 0),Array.mk []⟩
noncomputable def a205 (P:Params):Obj:=⟨(.type "tuple"),none,(.seq (Array.mk []) 0),Array.mk []⟩
noncomputable def a206 (P:Params):Obj:=⟨Value.none,none,(.func ⟨(Zs [112,111,112,95,102,114,111,109]),(Zs [95,65,99,99,117,109,117,108,97,116,111,114,46,112,111,112,95,102,114,111,109]),parsOf (nthS (bodyOf (ST 14)) 2),.stmts (bodyOf (nthS (bodyOf (ST 14)) 2)),scopeOf (nthS (bodyOf (ST 14)) 2),0,[],Value.none,Value.none,Value.none,Value.none,none,Value.none,Value.none,0⟩),Array.mk []⟩
noncomputable def a207 (P:Params):Obj:=⟨(.type "code"),none,(.fields (Array.mk [(.str (Zs [112,111,112,95,102,114,111,109]) 2391),(.str (Zs [95,65,99,99,117,109,117,108,97,116,111,114,46,112,111,112,95,102,114,111,109]) 2392),(.str (Zs [47,99,108,97,105,109,47,99,117,116,46,112,121]) 2393),(.int 124 0),(.int 2 0),(.int 0 0),(.int 0 0),(.int 3 0),(.ref 202),(.bool true),(.int 181 0),(.ref 203),Value.none,(.ref 204),(.ref 205),(.ref 206),(.int 2397 0),(.int 124 0),(.str (Zs [47,99,108,97,105,109,47,99,117,116,46,112,121]) 2398)])),Array.mk []⟩
noncomputable def a208 (P:Params):Obj:=⟨(.type "function"),none,(.func ⟨(Zs [112,111,112,95,102,114,111,109]),(Zs [95,65,99,99,117,109,117,108,97,116,111,114,46,112,111,112,95,102,114,111,109]),parsOf (nthS (bodyOf (ST 14)) 2),.stmts (bodyOf (nthS (bodyOf (ST 14)) 2)),scopeOf (nthS (bodyOf (ST 14)) 2),3,[],(.ref 201),Value.none,Value.none,(.str (Zs [99,112,121,51,49,51,46,101,109,97,105,108,46,104,101,97,100,101,114]) 2245),none,(.ref 207),Value.none,0⟩),Array.mk []⟩
noncomputable def a209 (P:Params):Obj:=⟨(.type "tuple"),none,(.seq (Array.mk [(.ref 180)]) 0),Array.mk []⟩
noncomputable def a210 (P:Params):Obj:=⟨(.type "tuple"),none,(.seq (Array.mk [(.str (Zs [95,95,99,108,97,115,115,95,95]) 2403)]) 0),Array.mk []⟩
noncomputable def a211 (P:Params):Obj:=⟨Value.none,none,(.fields (Array.mk [])),Array.mk []⟩
noncomputable def a212 (P:Params):Obj:=⟨(.type "tuple"),none,(.seq (Array.mk [(.str (Zs [115,101,108,102]) 2404)]) 0),Array.mk []⟩
noncomputable def a213 (P:Params):Obj:=⟨(.type "tuple"),none,(.seq (Array.mk []) 0),Array.mk []⟩
noncomputable def a214 (P:Params):Obj:=⟨Value.none,none,(.func ⟨(Zs [112,111,112]),(Zs [95,65,99,99,117,109,117,108,97,116,111,114,46,112,111,112]),parsOf (nthS (bodyOf (ST 14)) 3),.stmts (bodyOf (nthS (bodyOf (ST 14)) 3)),scopeOf (nthS (bodyOf (ST 14)) 3),0,[],Value.none,Value.none,Value.none,Value.none,none,Value.none,Value.none,0⟩),Array.mk []⟩
noncomputable def a215 (P:Params):Obj:=⟨(.type "code"),none,(.fields (Array.mk [(.str (Zs [112,111,112]) 2400),(.str (Zs [95,65,99,99,117,109,117,108,97,116,111,114,46,112,111,112]) 2401),(.str (Zs [47,99,108,97,105,109,47,99,117,116,46,112,121]) 2402),(.int 129 0),(.int 1 0),(.int 0 0),(.int 0 0),(.int 3 0),(.ref 210),(.bool true),(.int 181 0),(.ref 211),Value.none,(.ref 212),(.ref 213),(.ref 214),(.int 2405 0),(.int 129 0),(.str (Zs [47,99,108,97,105,109,47,99,117,116,46,112,121]) 2406)])),Array.mk []⟩
noncomputable def a216 (P:Params):Obj:=⟨(.type "function"),none,(.func ⟨(Zs [112,111,112]),(Zs [95,65,99,99,117,109,117,108,97,116,111,114,46,112,111,112]),parsOf (nthS (bodyOf (ST 14)) 3),.stmts (bodyOf (nthS (bodyOf (ST 14)) 3)),scopeOf (nthS (bodyOf (ST 14)) 3),3,[((Zs [95,95,99,108,97,115,115,95,95]),180)],Value.none,Value.none,Value.none,(.str (Zs [99,112,121,51,49,51,46,101,109,97,105,108,46,104,101,97,100,101,114]) 2245),none,(.ref 215),(.ref 209),0⟩),Array.mk []⟩
noncomputable def a217 (P:Params):Obj:=⟨(.type "tuple"),none,(.seq (Array.mk []) 0),Array.mk []⟩
noncomputable def a218 (P:Params):Obj:=⟨Value.none,none,(.fields (Array.mk [])),Array.mk []⟩
noncomputable def a219 (P:Params):Obj:=⟨(.type "tuple"),none,(.seq (Array.mk [(.str (Zs [115,101,108,102]) 2411)]) 0),Array.mk []⟩
noncomputable def a220 (P:Params):Obj:=⟨(.type "tuple"),none,(.seq (Array.mk []) 0),Array.mk []⟩
noncomputable def a221 (P:Params):Obj:=⟨Value.none,none,(.func ⟨(Zs [95,95,108,101,110,95,95]),(Zs [95,65,99,99,117,109,117,108,97,116,111,114,46,95,95,108,101,110,95,95]),parsOf (nthS (bodyOf (ST 14)) 4),.stmts (bodyOf (nthS (bodyOf (ST 14)) 4)),scopeOf (nthS (bodyOf (ST 14)) 4),0,[],Value.none,Value.none,Value.none,Value.none,none,Value.none,Value.none,0⟩),Array.mk []⟩
noncomputable def a222 (P:Params):Obj:=⟨(.type "code"),none,(.fields (Array.mk [(.str (Zs [95,95,108,101,110,95,95]) 2408),(.str (Zs [95,65,99,99,117,109,117,108,97,116,111,114,46,95,95,108,101,110,95,95]) 2409),(.str (Zs [47,99,108,97,105,109,47,99,117,116,46,112,121]) 2410),(.int 134 0),(.int 1 0),(.int 0 0),(.int 0 0),(.int 3 0),(.ref 217),(.bool true),(.int 181 0),(.ref 218),Value.none,(.ref 219),(.ref 220),(.ref 221),(.int 2412 0),(.int 134 0),(.str (Zs [47,99,108,97,105,109,47,99,117,116,46,112,121]) 2413)])),Array.mk []⟩
noncomputable def a223 (P:Params):Obj:=⟨(.type "function"),none,(.func ⟨(Zs [95,95,108,101,110,95,95]),(Zs [95,65,99,99,117,109,117,108,97,116,111,114,46,95,95,108,101,110,95,95]),parsOf (nthS (bodyOf (ST 14)) 4),.stmts (bodyOf (nthS (bodyOf (ST 14)) 4)),scopeOf (nthS (bodyOf (ST 14)) 4),3,[],Value.none,Value.none,Value.none,(.str (Zs [99,112,121,51,49,51,46,101,109,97,105,108,46,104,101,97,100,101,114]) 2245),none,(.ref 222),Value.none,0⟩),Array.mk []⟩
noncomputable def a224 (P:Params):Obj:=⟨(.type "tuple"),none,(.seq (Array.mk []) 0),Array.mk []⟩
noncomputable def a225 (P:Params):Obj:=⟨Value.none,none,(.fields (Array.mk [])),Array.mk []⟩
noncomputable def a226 (P:Params):Obj:=⟨(.type "tuple"),none,(.seq (Array.mk [(.str (Zs [115,101,108,102]) 2418)]) 0),Array.mk []⟩
noncomputable def a227 (P:Params):Obj:=⟨(.type "tuple"),none,(.seq (Array.mk []) 0),Array.mk []⟩
noncomputable def a228 (P:Params):Obj:=⟨Value.none,none,(.func ⟨(Zs [95,95,115,116,114,95,95]),(Zs [95,65,99,99,117,109,117,108,97,116,111,114,46,95,95,115,116,114,95,95]),parsOf (nthS (bodyOf (ST 14)) 5),.stmts (bodyOf (nthS (bodyOf (ST 14)) 5)),scopeOf (nthS (bodyOf (ST 14)) 5),0,[],Value.none,Value.none,Value.none,Value.none,none,Value.none,Value.none,0⟩),Array.mk []⟩
noncomputable def a229 (P:Params):Obj:=⟨(.type "code"),none,(.fields (Array.mk [(.str (Zs [95,95,115,116,114,95,95]) 2415),(.str (Zs [95,65,99,99,117,109,117,108,97,116,111,114,46,95,95,115,116,114,95,95]) 2416),(.str (Zs [47,99,108,97,105,109,47,99,117,116,46,112,121]) 2417),(.int 137 0),(.int 1 0),(.int 0 0),(.int 0 0),(.int 3 0),(.ref 224),(.bool true),(.int 181 0),(.ref 225),Value.none,(.ref 226),(.ref 227),(.ref 228),(.int 2419 0),(.int 137 0),(.str (Zs [47,99,108,97,105,109,47,99,117,116,46,112,121]) 2420)])),Array.mk []⟩
noncomputable def a230 (P:Params):Obj:=⟨(.type "function"),none,(.func ⟨(Zs [95,95,115,116,114,95,95]),(Zs [95,65,99,99,117,109,117,108,97,116,111,114,46,95,95,115,116,114,95,95]),parsOf (nthS (bodyOf (ST 14)) 5),.stmts (bodyOf (nthS (bodyOf (ST 14)) 5)),scopeOf (nthS (bodyOf (ST 14)) 5),3,[],Value.none,Value.none,Value.none,(.str (Zs [99,112,121,51,49,51,46,101,109,97,105,108,46,104,101,97,100,101,114]) 2245),none,(.ref 229),Value.none,0⟩),Array.mk []⟩
noncomputable def a231 (P:Params):Obj:=⟨(.type "tuple"),none,(.seq (Array.mk [Value.none]) 0),Array.mk []⟩
noncomputable def a232 (P:Params):Obj:=⟨(.type "tuple"),none,(.seq (Array.mk []) 0),Array.mk []⟩
noncomputable def a233 (P:Params):Obj:=⟨Value.none,none,(.fields (Array.mk [])),Array.mk []⟩
noncomputable def a234 (P:Params):Obj:=⟨(.type "tuple"),none,(.seq (Array.mk [(.str (Zs [115,101,108,102]) 2425),(.str (Zs [115,116,97,114,116,118,97,108]) 2426)]) 0),Array.mk []⟩
noncomputable def a235 (P:Params):Obj:=⟨(.type "tuple"),none,(.seq (Array.mk []) 0),Array.mk []⟩
noncomputable def a236 (P:Params):Obj:=⟨Value.none,none,(.func ⟨(Zs [114,101,115,101,116]),(Zs [95,65,99,99,117,109,117,108,97,116,111,114,46,114,101,115,101,116]),parsOf (nthS (bodyOf (ST 14)) 6),.stmts (bodyOf (nthS (bodyOf (ST 14)) 6)),scopeOf (nthS (bodyOf (ST 14)) 6),0,[],Value.none,Value.none,Value.none,Value.none,none,Value.none,Value.none,0⟩),Array.mk []⟩
noncomputable def a237 (P:Params):Obj:=⟨(.type "code"),none,(.fields (Array.mk [(.str (Zs [114,101,115,101,116]) 2422),(.str (Zs [95,65,99,99,117,109,117,108,97,116,111,114,46,114,101,115,101,116]) 2423),(.str (Zs [47,99,108,97,105,109,47,99,117,116,46,112,121]) 2424),(.int 140 0),(.int 2 0),(.int 0 0),(.int 0 0),(.int 3 0),(.ref 232),(.bool true),(.int 181 0),(.ref 233),Value.none,(.ref 234),(.ref 235),(.ref 236),(.int 2427 0),(.int 140 0),(.str (Zs [47,99,108,97,105,109,47,99,117,116,46,112,121]) 2428)])),Array.mk []⟩
noncomputable def a238 (P:Params):Obj:=⟨(.type "function"),none,(.func ⟨(Zs [114,101,115,101,116]),(Zs [95,65,99,99,117,109,117,108,97,116,111,114,46,114,101,115,101,116]),parsOf (nthS (bodyOf (ST 14)) 6),.stmts (bodyOf (nthS (bodyOf (ST 14)) 6)),scopeOf (nthS (bodyOf (ST 14)) 6),3,[],(.ref 231),Value.none,Value.none,(.str (Zs [99,112,121,51,49,51,46,101,109,97,105,108,46,104,101,97,100,101,114]) 2245),none,(.ref 237),Value.none,0⟩),Array.mk []⟩
noncomputable def a239 (P:Params):Obj:=⟨(.type "tuple"),none,(.seq (Array.mk []) 0),Array.mk []⟩
noncomputable def a240 (P:Params):Obj:=⟨Value.none,none,(.fields (Array.mk [])),Array.mk []⟩
noncomputable def a241 (P:Params):Obj:=⟨(.type "tuple"),none,(.seq (Array.mk [(.str (Zs [115,101,108,102]) 2433)]) 0),Array.mk []⟩
noncomputable def a242 (P:Params):Obj:=⟨(.type "tuple"),none,(.seq (Array.mk []) 0),Array.mk []⟩
noncomputable def a243 (P:Params):Obj:=⟨Value.none,none,(.func ⟨(Zs [105,115,95,111,110,108,121,119,115]),(Zs [95,65,99,99,117,109,117,108,97,116,111,114,46,105,115,95,111,110,108,121,119,115]),parsOf (nthS (bodyOf (ST 14)) 7),.stmts (bodyOf (nthS (bodyOf (ST 14)) 7)),scopeOf (nthS (bodyOf (ST 14)) 7),0,[],Value.none,Value.none,Value.none,Value.none,none,Value.none,Value.none,0⟩),Array.mk []⟩
noncomputable def a244 (P:Params):Obj:=⟨(.type "code"),none,(.fields (Array.mk [(.str (Zs [105,115,95,111,110,108,121,119,115]) 2430),(.str (Zs [95,65,99,99,117,109,117,108,97,116,111,114,46,105,115,95,111,110,108,121,119,115]) 2431),(.str (Zs [47,99,108,97,105,109,47,99,117,116,46,112,121]) 2432),(.int 146 0),(.int 1 0),(.int 0 0),(.int 0 0),(.int 3 0),(.ref 239),(.bool true),(.int 181 0),(.ref 240),Value.none,(.ref 241),(.ref 242),(.ref 243),(.int 2434 0),(.int 146 0),(.str (Zs [47,99,108,97,105,109,47,99,117,116,46,112,121]) 2435)])),Array.mk []⟩
noncomputable def a245 (P:Params):Obj:=⟨(.type "function"),none,(.func ⟨(Zs [105,115,95,111,110,108,121,119,115]),(Zs [95,65,99,99,117,109,117,108,97,116,111,114,46,105,115,95,111,110,108,121,119,115]),parsOf (nthS (bodyOf (ST 14)) 7),.stmts (bodyOf (nthS (bodyOf (ST 14)) 7)),scopeOf (nthS (bodyOf (ST 14)) 7),3,[],Value.none,Value.none,Value.none,(.str (Zs [99,112,121,51,49,51,46,101,109,97,105,108,46,104,101,97,100,101,114]) 2245),none,(.ref 244),Value.none,0⟩),Array.mk []⟩
noncomputable def a246 (P:Params):Obj:=⟨(.type "tuple"),none,(.seq (Array.mk [(.ref 180)]) 0),Array.mk []⟩
noncomputable def a247 (P:Params):Obj:=⟨(.type "tuple"),none,(.seq (Array.mk [(.str (Zs [95,95,99,108,97,115,115,95,95]) 2440)]) 0),Array.mk []⟩
noncomputable def a248 (P:Params):Obj:=⟨Value.none,none,(.fields (Array.mk [])),Array.mk []⟩
noncomputable def a249 (P:Params):Obj:=⟨(.type "tuple"),none,(.seq (Array.mk [(.str (Zs [115,101,108,102]) 2441)]) 0),Array.mk []⟩
noncomputable def a250 (P:Params):Obj:=⟨(.type "tuple"),none,(.seq (Array.mk []) 0),Array.mk []⟩
noncomputable def a251 (P:Params):Obj:=⟨Value.none,none,(.func ⟨(Zs [112,97,114,116,95,99,111,117,110,116]),(Zs [95,65,99,99,117,109,117,108,97,116,111,114,46,112,97,114,116,95,99,111,117,110,116]),parsOf (nthS (bodyOf (ST 14)) 8),.stmts (bodyOf (nthS (bodyOf (ST 14)) 8)),scopeOf (nthS (bodyOf (ST 14)) 8),0,[],Value.none,Value.none,Value.none,Value.none,none,Value.none,Value.none,0⟩),Array.mk []⟩
noncomputable def a252 (P:Params):Obj:=⟨(.type "code"),none,(.fields (Array.mk [(.str (Zs [112,97,114,116,95,99,111,117,110,116]) 2437),(.str (Zs [95,65,99,99,117,109,117,108,97,116,111,114,46,112,97,114,116,95,99,111,117,110,116]) 2438),(.str (Zs [47,99,108,97,105,109,47,99,117,116,46,112,121]) 2439),(.int 149 0),(.int 1 0),(.int 0 0),(.int 0 0),(.int 3 0),(.ref 247),(.bool true),(.int 181 0),(.ref 248),Value.none,(.ref 249),(.ref 250),(.ref 251),(.int 2442 0),(.int 149 0),(.str (Zs [47,99,108,97,105,109,47,99,117,116,46,112,121]) 2443)])),Array.mk []⟩
noncomputable def a253 (P:Params):Obj:=⟨(.type "function"),none,(.func ⟨(Zs [112,97,114,116,95,99,111,117,110,116]),(Zs [95,65,99,99,117,109,117,108,97,116,111,114,46,112,97,114,116,95,99,111,117,110,116]),parsOf (nthS (bodyOf (ST 14)) 8),.stmts (bodyOf (nthS (bodyOf (ST 14)) 8)),scopeOf (nthS (bodyOf (ST 14)) 8),3,[((Zs [95,95,99,108,97,115,115,95,95]),180)],Value.none,Value.none,Value.none,(.str (Zs [99,112,121,51,49,51,46,101,109,97,105,108,46,104,101,97,100,101,114]) 2245),none,(.ref 252),(.ref 246),0⟩),Array.mk []⟩
noncomputable def a254 (P:Params):Obj:=⟨(.type "tuple"),none,(.seq (Array.mk [(.str (Zs [95,105,110,105,116,105,97,108,95,115,105,122,101]) 2445)]) 0),Array.mk []⟩
noncomputable def a255 (P:Params):Obj:=⟨(.type "dict"),none,(.dict (Array.mk [ek P [95,95,109,111,100,117,108,101,95,95] 2366 (.str (Zs [99,112,121,51,49,51,46,101,109,97,105,108,46,104,101,97,100,101,114]) 2245),ek P [95,95,102,105,114,115,116,108,105,110,101,110,111,95,95] 2370 (.int 115 2369),ek P [95,95,105,110,105,116,95,95] 2380 (.ref 193),ek P [112,117,115,104] 2389 (.ref 200),ek P [112,111,112,95,102,114,111,109] 2399 (.ref 208),ek P [112,111,112] 2407 (.ref 216),ek P [95,95,108,101,110,95,95] 2414 (.ref 223),ek P [95,95,115,116,114,95,95] 2421 (.ref 230),ek P [114,101,115,101,116] 2429 (.ref 238),ek P [105,115,95,111,110,108,121,119,115] 2436 (.ref 245),ek P [112,97,114,116,95,99,111,117,110,116] 2444 (.ref 253),ek P [95,95,115,116,97,116,105,99,95,97,116,116,114,105,98,117,116,101,115,95,95] 2446 (.ref 254),ek P [95,95,100,105,99,116,95,95] 2449 (.ref 257),ek P [95,95,119,101,97,107,114,101,102,95,95] 2451 (.ref 258),ek P [95,95,100,111,99,95,95] 2452 Value.none]) 5),Array.mk []⟩
noncomputable def a256 (P:Params):Obj:=⟨(.type "type"),none,(.cls ⟨(Zs [95,65,99,99,117,109,117,108,97,116,111,114]),[(.type "list")],[(.ref 256),(.type "list"),(.type "object")],255,(Zs [95,65,99,99,117,109,117,108,97,116,111,114]),true,[],[],false,none,false⟩),Array.mk [(some (.ref 177)),none,(some (.str (Zs [95,65,99,99,117,109,117,108,97,116,111,114]) 2359)),(some (.str (Zs [95,65,99,99,117,109,117,108,97,116,111,114]) 2367)),(some (.builtin "list.__new__")),(some (.bool true))]⟩
noncomputable def a257 (P:Params):Obj:=⟨(.type "getset_descriptor"),none,(.fields (Array.mk [(.str (Zs [95,95,100,105,99,116,95,95]) 2448),(.ref 256),(.builtin "function.__dict__"),(.builtin "function.__dict__#set")])),Array.mk []⟩
noncomputable def a258 (P:Params):Obj:=⟨(.type "getset_descriptor"),none,(.fields (Array.mk [(.str (Zs [95,95,119,101,97,107,114,101,102,95,95]) 2450),(.ref 256),(.builtin "ExceptionGroup.__weakref__"),Value.none])),Array.mk []⟩
noncomputable def a259 (P:Params):Obj:=⟨(.type "super"),none,(.fields (Array.mk [(.ref 256),(.ref 256),(.ref 256)])),Array.mk []⟩
noncomputable def a260 (P:Params):Obj:=⟨(.type "builtin_function_or_method"),none,(.fields (Array.mk [(.builtin "object.__init_subclass__"),(.ref 256)])),Array.mk []⟩
noncomputable def a3v8 (P:Params):Obj:=⟨(.type "dict"),none,(.dict (Array.mk [ek P [95,95,110,97,109,101,95,95] 165 (.str (Zs [108,97,119,95,119,114,48,48,53,53,95,48,49]) 2467),ek P [95,95,100,111,99,95,95] 166 Value.none,ek P [95,95,112,97,99,107,97,103,101,95,95] 167 Value.none,ek P [95,95,108,111,97,100,101,114,95,95] 168 (.builtin "__main__.__loader__#opaque"),ek P [95,95,115,112,101,99,95,95] 169 Value.none,ek P [95,95,97,110,110,111,116,97,116,105,111,110,115,95,95] 170 (.ref 6),ek P [95,95,98,117,105,108,116,105,110,115,95,95] 171 (.ref 4),ek P [95,95,102,105,108,101,95,95] 173 (.str (Zs [47,99,108,97,105,109,47,99,117,116,46,112,121]) 172),ek P [95,95,99,97,99,104,101,100,95,95] 174 Value.none,ek P [95,119,97,108,108] 193 (.ref 21),ek P [98,49,95,115,101,116] 255 (.ref 29),ek P [105,110,95,116,97,98,108,101,95,98,49] 262 (.ref 39),ek P [98,51,95,101,120,99,101,112,116,105,111,110,115] 2213 (.ref 40),ek P [109,97,112,95,116,97,98,108,101,95,98,51] 2221 (.ref 85),ek P [105,110,95,116,97,98,108,101,95,99,49,49] 2228 (.ref 92),ek P [69,76,76,73,80,83,73,83,95,77,65,82,75,69,82] 2232 (.str (Zs [46,46,46]) 2231),ek P [95,101,108,108,105,112,115,105,115,95,109,97,116,99,104] 2244 (.ref 99),ek P [78,76] 2248 (.str (Zs [10]) 2247),ek P [69,77,80,84,89,83,84,82,73,78,71] 2250 (.str (Zs []) 2249),ek P [95,86,97,108,117,101,70,111,114,109,97,116,116,101,114] 2358 (.ref 172),ek P [95,65,99,99,117,109,117,108,97,116,111,114] 2454 (.ref 256),ek P [73,110,116,50,65,80] 2466 (.ref 267),ek P [95,108,97,119,95,119,111,114,100] 2474 (.ref 272),ek P [95,108,97,119,95,116,121,112,101,100] 2483 (.ref 279),ek P [108,97,119] 2489 (.ref 284)]) 25),Array.mk []⟩
noncomputable def a12v6 (P:Params):Obj:=⟨Value.none,none,(.fields (Array.mk [(.int 1 0),(.int 0 0),(.ref 20),(.int 6 0),(.int 0 0),(.ref 38),(.int 9 0),(.int 0 0),(.ref 84),(.int 14 0),(.int 0 0),(.ref 91),(.int 18 0),(.int 0 0),(.ref 98),(.int 49 0),(.int 0 0),(.ref 105),(.int 115 0),(.int 0 0),(.ref 183),(.int 152 0),(.int 0 0),(.ref 266),(.int 161 0),(.int 0 0),(.ref 271),(.int 166 0),(.int 0 0),(.ref 278),(.int 171 0),(.int 0 0),(.ref 283)])),Array.mk []⟩
noncomputable def a261 (P:Params):Obj:=⟨(.type "tuple"),none,(.seq (Array.mk []) 0),Array.mk []⟩
noncomputable def a262 (P:Params):Obj:=⟨Value.none,none,(.fields (Array.mk [])),Array.mk []⟩
noncomputable def a263 (P:Params):Obj:=⟨(.type "tuple"),none,(.seq (Array.mk [(.str (Zs [110,117,109]) 2460),(.str (Zs [118,97,108]) 2461),(.str (Zs [65,80]) 2462),(.str (Zs [109,111,100]) 2463)]) 0),Array.mk []⟩
noncomputable def a264 (P:Params):Obj:=⟨(.type "tuple"),none,(.seq (Array.mk []) 0),Array.mk []⟩
noncomputable def a265 (P:Params):Obj:=⟨Value.none,none,(.func ⟨(Zs [73,110,116,50,65,80]),(Zs [73,110,116,50,65,80]),parsOf (ST 16),.stmts (bodyOf (ST 16)),scopeOf (ST 16),0,[],Value.none,Value.none,Value.none,Value.none,none,Value.none,Value.none,0⟩),Array.mk []⟩
noncomputable def a266 (P:Params):Obj:=⟨(.type "code"),none,(.fields (Array.mk [(.str (Zs [73,110,116,50,65,80]) 2457),(.str (Zs [73,110,116,50,65,80]) 2458),(.str (Zs [47,99,108,97,105,109,47,99,117,116,46,112,121]) 2459),(.int 152 0),(.int 1 0),(.int 0 0),(.int 0 0),(.int 3 0),(.ref 261),(.bool true),(.int 181 0),(.ref 262),Value.none,(.ref 263),(.ref 264),(.ref 265),(.int 2464 0),(.int 152 0),(.str (Zs [47,99,108,97,105,109,47,99,117,116,46,112,121]) 2465)])),Array.mk []⟩
noncomputable def a267 (P:Params):Obj:=⟨(.type "function"),none,(.func ⟨(Zs [73,110,116,50,65,80]),(Zs [73,110,116,50,65,80]),parsOf (ST 16),.stmts (bodyOf (ST 16)),scopeOf (ST 16),3,[],Value.none,Value.none,Value.none,(.str (Zs [99,112,121,51,49,51,46,105,109,97,112,108,105,98]) 2455),none,(.ref 266),Value.none,0⟩),Array.mk []⟩
noncomputable def a268 (P:Params):Obj:=⟨(.type "tuple"),none,(.seq (Array.mk []) 0),Array.mk []⟩
noncomputable def a269 (P:Params):Obj:=⟨Value.none,none,(.fields (Array.mk [])),Array.mk []⟩
noncomputable def a270 (P:Params):Obj:=⟨Value.none,none,(.func ⟨(Zs [95,108,97,119,95,119,111,114,100]),(Zs [95,108,97,119,95,119,111,114,100]),parsOf (ST 18),.stmts (bodyOf (ST 18)),scopeOf (ST 18),0,[],Value.none,Value.none,Value.none,Value.none,none,Value.none,Value.none,0⟩),Array.mk []⟩
noncomputable def a271 (P:Params):Obj:=⟨(.type "code"),none,(.fields (Array.mk [(.str (Zs [95,108,97,119,95,119,111,114,100]) 2469),(.str (Zs [95,108,97,119,95,119,111,114,100]) 2470),(.str (Zs [47,99,108,97,105,109,47,99,117,116,46,112,121]) 2471),(.int 161 0),(.int 2 0),(.int 0 0),(.int 0 0),(.int 3 0),(.ref 268),(.bool true),(.int 181 0),(.ref 269),Value.none,Value.none,Value.none,(.ref 270),(.int 2472 0),(.int 161 0),(.str (Zs [47,99,108,97,105,109,47,99,117,116,46,112,121]) 2473)])),Array.mk []⟩
noncomputable def a272 (P:Params):Obj:=⟨(.type "function"),none,(.func ⟨(Zs [95,108,97,119,95,119,111,114,100]),(Zs [95,108,97,119,95,119,111,114,100]),parsOf (ST 18),.stmts (bodyOf (ST 18)),scopeOf (ST 18),3,[],Value.none,Value.none,Value.none,(.str (Zs [108,97,119,95,119,114,48,48,53,53,95,48,49]) 2467),none,(.ref 271),Value.none,0⟩),Array.mk []⟩
noncomputable def a273 (P:Params):Obj:=⟨(.type "tuple"),none,(.seq (Array.mk []) 0),Array.mk []⟩
noncomputable def a274 (P:Params):Obj:=⟨Value.none,none,(.fields (Array.mk [])),Array.mk []⟩
noncomputable def a275 (P:Params):Obj:=⟨(.type "tuple"),none,(.seq (Array.mk [(.str (Zs [108,101,116,116,101,114]) 2478),(.str (Zs [119,97,121]) 2479),(.str (Zs [97,108,112,104,97,98,101,116,115]) 2480)]) 0),Array.mk []⟩
noncomputable def a276 (P:Params):Obj:=⟨(.type "tuple"),none,(.seq (Array.mk []) 0),Array.mk []⟩
noncomputable def a277 (P:Params):Obj:=⟨Value.none,none,(.func ⟨(Zs [95,108,97,119,95,116,121,112,101,100]),(Zs [95,108,97,119,95,116,121,112,101,100]),parsOf (ST 19),.stmts (bodyOf (ST 19)),scopeOf (ST 19),0,[],Value.none,Value.none,Value.none,Value.none,none,Value.none,Value.none,0⟩),Array.mk []⟩
noncomputable def a278 (P:Params):Obj:=⟨(.type "code"),none,(.fields (Array.mk [(.str (Zs [95,108,97,119,95,116,121,112,101,100]) 2475),(.str (Zs [95,108,97,119,95,116,121,112,101,100]) 2476),(.str (Zs [47,99,108,97,105,109,47,99,117,116,46,112,121]) 2477),(.int 166 0),(.int 2 0),(.int 0 0),(.int 0 0),(.int 3 0),(.ref 273),(.bool true),(.int 181 0),(.ref 274),Value.none,(.ref 275),(.ref 276),(.ref 277),(.int 2481 0),(.int 166 0),(.str (Zs [47,99,108,97,105,109,47,99,117,116,46,112,121]) 2482)])),Array.mk []⟩
noncomputable def a279 (P:Params):Obj:=⟨(.type "function"),none,(.func ⟨(Zs [95,108,97,119,95,116,121,112,101,100]),(Zs [95,108,97,119,95,116,121,112,101,100]),parsOf (ST 19),.stmts (bodyOf (ST 19)),scopeOf (ST 19),3,[],Value.none,Value.none,Value.none,(.str (Zs [108,97,119,95,119,114,48,48,53,53,95,48,49]) 2467),none,(.ref 278),Value.none,0⟩),Array.mk []⟩
noncomputable def a280 (P:Params):Obj:=⟨(.type "tuple"),none,(.seq (Array.mk []) 0),Array.mk []⟩
noncomputable def a281 (P:Params):Obj:=⟨Value.none,none,(.fields (Array.mk [])),Array.mk []⟩
noncomputable def a282 (P:Params):Obj:=⟨Value.none,none,(.func ⟨(Zs [108,97,119]),(Zs [108,97,119]),parsOf (ST 20),.stmts (bodyOf (ST 20)),scopeOf (ST 20),0,[],Value.none,Value.none,Value.none,Value.none,none,Value.none,Value.none,0⟩),Array.mk []⟩
noncomputable def a283 (P:Params):Obj:=⟨(.type "code"),none,(.fields (Array.mk [(.str (Zs [108,97,119]) 2484),(.str (Zs [108,97,119]) 2485),(.str (Zs [47,99,108,97,105,109,47,99,117,116,46,112,121]) 2486),(.int 171 0),(.int 1 0),(.int 0 0),(.int 0 0),(.int 3 0),(.ref 280),(.bool true),(.int 181 0),(.ref 281),Value.none,Value.none,Value.none,(.ref 282),(.int 2487 0),(.int 171 0),(.str (Zs [47,99,108,97,105,109,47,99,117,116,46,112,121]) 2488)])),Array.mk []⟩
noncomputable def a284 (P:Params):Obj:=⟨(.type "function"),none,(.func ⟨(Zs [108,97,119]),(Zs [108,97,119]),parsOf (ST 20),.stmts (bodyOf (ST 20)),scopeOf (ST 20),3,[],Value.none,Value.none,Value.none,(.str (Zs [108,97,119,95,119,114,48,48,53,53,95,48,49]) 2467),none,(.ref 283),Value.none,0⟩),Array.mk []⟩
noncomputable def hA (P:Params):Heap:=⟨Array.mk [boot_o_0 P,boot_o_1 P,boot_o_2 P,boot_o_3 P,boot_o_4 P,boot_o_5 P,boot_o_6 P,boot_o_7 P,boot_o_8 P,boot_o_9 P,boot_o_10 P,a11 P,a12 P,a13 P,a14 P],⟨[],[],[],0,[],[],false,Array.mk [],[],0,false,false,false,0,[2000,10,10],false,0,true,[],[],0,false⟩⟩
noncomputable def t0 (P:Params):BT:=(.node (boot_o_0 P) (.node (boot_o_1 P) (.node (boot_o_3 P) (lf (boot_o_7 P)) (lf (a11 P))) (.node (boot_o_5 P) (lf (boot_o_9 P)) (lf (a13 P)))) (.node (boot_o_2 P) (.node (boot_o_4 P) (lf (boot_o_8 P)) (lf (a12 P))) (.node (boot_o_6 P) (lf (boot_o_10 P)) (lf (a14 P)))))
noncomputable def s0 (w:World) (os:OsState):SharedT:=⟨t0 w.params,15,⟨[],[],[],0,[],[],false,Array.mk [],[],0,false,false,false,0,[2000,10,10],false,0,true,[],[],0,false⟩,#[],⟨0,0,0,0⟩,187,os⟩
noncomputable def t1 (P:Params):BT:=(.node (boot_o_0 P) (.node (boot_o_1 P) (.node (a3v1 P) (.node (boot_o_7 P) (lf (a15 P)) .nil) (.node (a11 P) (lf (a19 P)) .nil)) (.node (boot_o_5 P) (.node (boot_o_9 P) (lf (a17 P)) .nil) (.node (a13 P) (lf (a21 P)) .nil))) (.node (boot_o_2 P) (.node (boot_o_4 P) (.node (boot_o_8 P) (lf (a16 P)) .nil) (.node (a12v1 P) (lf (a20 P)) .nil)) (.node (boot_o_6 P) (.node (boot_o_10 P) (lf (a18 P)) .nil) (lf (a14 P)))))
noncomputable def s1 (w:World) (os:OsState):SharedT:=⟨t1 w.params,22,⟨[],[],[],0,[],[],false,Array.mk [],[],0,false,false,false,0,[2000,10,10],false,0,true,[],[],0,false⟩,#[],⟨0,0,0,0⟩,196,os⟩
noncomputable def t2 (P:Params):BT:=(.node (boot_o_0 P) (.node (boot_o_1 P) (.node (a3v2 P) (.node (boot_o_7 P) (.node (a15 P) (lf (a31 P)) .nil) (lf (a23 P))) (.node (a11 P) (lf (a19 P)) (lf (a27 P)))) (.node (boot_o_5 P) (.node (boot_o_9 P) (lf (a17 P)) (lf (a25 P))) (.node (a13 P) (lf (a21 P)) (lf (a29 P))))) (.node (boot_o_2 P) (.node (boot_o_4 P) (.node (boot_o_8 P) (.node (a16 P) (lf (a32 P)) .nil) (lf (a24 P))) (.node (a12v1 P) (lf (a20 P)) (lf (a28 P)))) (.node (boot_o_6 P) (.node (boot_o_10 P) (lf (a18 P)) (lf (a26 P))) (.node (a14 P) (lf (a22 P)) (lf (a30 P))))))
noncomputable def s2 (w:World) (os:OsState):SharedT:=⟨t2 w.params,33,⟨[],[],[],0,[],[],false,Array.mk [],[],0,false,false,false,0,[2000,10,10],false,0,true,[],[],0,false⟩,#[],⟨0,0,0,0⟩,256,os⟩
noncomputable def t3 (P:Params):BT:=(.node (boot_o_0 P) (.node (boot_o_1 P) (.node (a3v3 P) (.node (boot_o_7 P) (.node (a15 P) (lf (a31 P)) .nil) (.node (a23 P) (lf (a39 P)) .nil)) (.node (a11 P) (.node (a19 P) (lf (a35 P)) .nil) (lf (a27 P)))) (.node (boot_o_5 P) (.node (boot_o_9 P) (.node (a17 P) (lf (a33 P)) .nil) (lf (a25 P))) (.node (a13 P) (.node (a21 P) (lf (a37 P)) .nil) (lf (a29 P))))) (.node (boot_o_2 P) (.node (boot_o_4 P) (.node (boot_o_8 P) (.node (a16 P) (lf (a32 P)) .nil) (lf (a24 P))) (.node (a12v2 P) (.node (a20 P) (lf (a36 P)) .nil) (lf (a28 P)))) (.node (boot_o_6 P) (.node (boot_o_10 P) (.node (a18 P) (lf (a34 P)) .nil) (lf (a26 P))) (.node (a14 P) (.node (a22 P) (lf (a38 P)) .nil) (lf (a30 P))))))
noncomputable def s3 (w:World) (os:OsState):SharedT:=⟨t3 w.params,40,⟨[],[],[],0,[],[],false,Array.mk [],[],0,false,false,false,0,[2000,10,10],false,0,true,[],[],0,false⟩,#[],⟨0,0,0,0⟩,263,os⟩
noncomputable def tD (P:Params):BT:=(.node (boot_o_0 P) (.node (boot_o_1 P) (.node (a3v3 P) (.node (boot_o_7 P) (.node (a15 P) (.node (a31 P) (lf (a63 P)) .nil) (lf (a47 P))) (.node (a23 P) (.node (a39 P) (lf (a71 P)) .nil) (lf (a55 P)))) (.node (a11 P) (.node (a19 P) (.node (a35 P) (lf (a67 P)) .nil) (lf (a51 P))) (.node (a27 P) (.node (a43 P) (lf (a75 P)) .nil) (lf (a59 P))))) (.node (boot_o_5 P) (.node (boot_o_9 P) (.node (a17 P) (.node (a33 P) (lf (a65 P)) .nil) (lf (a49 P))) (.node (a25 P) (.node (a41 P) (lf (a73 P)) .nil) (lf (a57 P)))) (.node (a13 P) (.node (a21 P) (.node (a37 P) (lf (a69 P)) .nil) (lf (a53 P))) (.node (a29 P) (.node (a45 P) (lf (a77 P)) .nil) (lf (a61 P)))))) (.node (boot_o_2 P) (.node (boot_o_4 P) (.node (boot_o_8 P) (.node (a16 P) (.node (a32 P) (lf (a64 P)) .nil) (lf (a48 P))) (.node (a24 P) (.node (a40 P) (lf (a72 P)) .nil) (lf (a56 P)))) (.node (a12v2 P) (.node (a20 P) (.node (a36 P) (lf (a68 P)) .nil) (lf (a52 P))) (.node (a28 P) (.node (a44 P) (lf (a76 P)) .nil) (lf (a60 P))))) (.node (boot_o_6 P) (.node (boot_o_10 P) (.node (a18 P) (.node (a34 P) (lf (a66 P)) .nil) (lf (a50 P))) (.node (a26 P) (.node (a42 P) (lf (a74 P)) .nil) (lf (a58 P)))) (.node (a14 P) (.node (a22 P) (.node (a38 P) (lf (a70 P)) .nil) (lf (a54 P))) (.node (a30 P) (.node (a46 P) (lf (a78 P)) .nil) (lf (a62 P)))))))
noncomputable def sD (w:World) (os:OsState):SharedT:=⟨tD w.params,79,⟨[],[],[],0,[],[],false,Array.mk [],[],0,false,false,false,0,[2000,10,10],false,0,true,[],[],0,false⟩,#[],⟨0,0,0,0⟩,2213,os⟩
noncomputable def t4 (P:Params):BT:=(.node (boot_o_0 P) (.node (boot_o_1 P) (.node (a3v4 P) (.node (boot_o_7 P) (.node (a15 P) (.node (a31 P) (lf (a63 P)) .nil) (lf (a47 P))) (.node (a23 P) (.node (a39 P) (lf (a71 P)) .nil) (lf (a55 P)))) (.node (a11 P) (.node (a19 P) (.node (a35 P) (lf (a67 P)) .nil) (lf (a51 P))) (.node (a27 P) (.node (a43 P) (lf (a75 P)) .nil) (lf (a59 P))))) (.node (boot_o_5 P) (.node (boot_o_9 P) (.node (a17 P) (.node (a33 P) (lf (a65 P)) .nil) (lf (a49 P))) (.node (a25 P) (.node (a41 P) (lf (a73 P)) .nil) (lf (a57 P)))) (.node (a13 P) (.node (a21 P) (.node (a37 P) (lf (a69 P)) .nil) (lf (a53 P))) (.node (a29 P) (.node (a45 P) (lf (a77 P)) .nil) (lf (a61 P)))))) (.node (boot_o_2 P) (.node (boot_o_4 P) (.node (boot_o_8 P) (.node (a16 P) (.node (a32 P) (lf (a64 P)) .nil) (lf (a48 P))) (.node (a24 P) (.node (a40 P) (lf (a72 P)) .nil) (lf (a56 P)))) (.node (a12v2 P) (.node (a20 P) (.node (a36 P) (lf (a68 P)) .nil) (lf (a52 P))) (.node (a28 P) (.node (a44 P) (lf (a76 P)) .nil) (lf (a60 P))))) (.node (boot_o_6 P) (.node (boot_o_10 P) (.node (a18 P) (.node (a34 P) (lf (a66 P)) .nil) (lf (a50 P))) (.node (a26 P) (.node (a42 P) (lf (a74 P)) .nil) (lf (a58 P)))) (.node (a14 P) (.node (a22 P) (.node (a38 P) (lf (a70 P)) .nil) (lf (a54 P))) (.node (a30 P) (.node (a46 P) (lf (a78 P)) .nil) (lf (a62 P)))))))
noncomputable def s4 (w:World) (os:OsState):SharedT:=⟨t4 w.params,79,⟨[],[],[],0,[],[],false,Array.mk [],[],0,false,false,false,0,[2000,10,10],false,0,true,[],[],0,false⟩,#[],⟨0,0,0,0⟩,2214,os⟩
noncomputable def t5 (P:Params):BT:=(.node (boot_o_0 P) (.node (boot_o_1 P) (.node (a3v5 P) (.node (boot_o_7 P) (.node (a15 P) (.node (a31 P) (lf (a63 P)) (lf (a95 P))) (.node (a47 P) (lf (a79 P)) .nil)) (.node (a23 P) (.node (a39 P) (lf (a71 P)) .nil) (.node (a55 P) (lf (a87 P)) .nil))) (.node (a11 P) (.node (a19 P) (.node (a35 P) (lf (a67 P)) (lf (a99 P))) (.node (a51 P) (lf (a83 P)) .nil)) (.node (a27 P) (.node (a43 P) (lf (a75 P)) .nil) (.node (a59 P) (lf (a91 P)) .nil)))) (.node (boot_o_5 P) (.node (boot_o_9 P) (.node (a17 P) (.node (a33 P) (lf (a65 P)) (lf (a97 P))) (.node (a49 P) (lf (a81 P)) .nil)) (.node (a25 P) (.node (a41 P) (lf (a73 P)) .nil) (.node (a57 P) (lf (a89 P)) .nil))) (.node (a13 P) (.node (a21 P) (.node (a37 P) (lf (a69 P)) .nil) (.node (a53 P) (lf (a85 P)) .nil)) (.node (a29 P) (.node (a45 P) (lf (a77 P)) .nil) (.node (a61 P) (lf (a93 P)) .nil))))) (.node (boot_o_2 P) (.node (boot_o_4 P) (.node (boot_o_8 P) (.node (a16 P) (.node (a32 P) (lf (a64 P)) (lf (a96 P))) (.node (a48 P) (lf (a80 P)) .nil)) (.node (a24 P) (.node (a40 P) (lf (a72 P)) .nil) (.node (a56 P) (lf (a88 P)) .nil))) (.node (a12v3 P) (.node (a20 P) (.node (a36 P) (lf (a68 P)) .nil) (.node (a52 P) (lf (a84 P)) .nil)) (.node (a28 P) (.node (a44 P) (lf (a76 P)) .nil) (.node (a60 P) (lf (a92 P)) .nil)))) (.node (boot_o_6 P) (.node (boot_o_10 P) (.node (a18 P) (.node (a34 P) (lf (a66 P)) (lf (a98 P))) (.node (a50 P) (lf (a82 P)) .nil)) (.node (a26 P) (.node (a42 P) (lf (a74 P)) .nil) (.node (a58 P) (lf (a90 P)) .nil))) (.node (a14 P) (.node (a22 P) (.node (a38 P) (lf (a70 P)) .nil) (.node (a54 P) (lf (a86 P)) .nil)) (.node (a30 P) (.node (a46 P) (lf (a78 P)) .nil) (.node (a62 P) (lf (a94 P)) .nil))))))
noncomputable def s5 (w:World) (os:OsState):SharedT:=⟨t5 w.params,100,⟨[],[],[],0,[],[],false,Array.mk [],[],0,false,false,false,0,[2000,10,10],false,0,true,[],[],0,false⟩,#[],⟨0,0,0,0⟩,2251,os⟩
noncomputable def t6 (P:Params):BT:=(.node (boot_o_0 P) (.node (boot_o_1 P) (.node (a3v6 P) (.node (boot_o_7 P) (.node (a15 P) (.node (a31 P) (.node (a63 P) (lf (a127 P)) .nil) (.node (a95 P) (lf (a159 P)) .nil)) (.node (a47 P) (.node (a79 P) (lf (a143 P)) .nil) (.node (a111 P) (lf (a175 P)) .nil))) (.node (a23 P) (.node (a39 P) (.node (a71 P) (lf (a135 P)) .nil) (.node (a103 P) (lf (a167 P)) .nil)) (.node (a55 P) (.node (a87 P) (lf (a151 P)) .nil) (lf (a119 P))))) (.node (a11 P) (.node (a19 P) (.node (a35 P) (.node (a67 P) (lf (a131 P)) .nil) (.node (a99 P) (lf (a163 P)) .nil)) (.node (a51 P) (.node (a83 P) (lf (a147 P)) .nil) (lf (a115 P)))) (.node (a27 P) (.node (a43 P) (.node (a75 P) (lf (a139 P)) .nil) (.node (a107 P) (lf (a171 P)) .nil)) (.node (a59 P) (.node (a91 P) (lf (a155 P)) .nil) (lf (a123 P)))))) (.node (boot_o_5 P) (.node (boot_o_9 P) (.node (a17 P) (.node (a33 P) (.node (a65 P) (lf (a129 P)) .nil) (.node (a97 P) (lf (a161 P)) .nil)) (.node (a49 P) (.node (a81 P) (lf (a145 P)) .nil) (lf (a113 P)))) (.node (a25 P) (.node (a41 P) (.node (a73 P) (lf (a137 P)) .nil) (.node (a105 P) (lf (a169 P)) .nil)) (.node (a57 P) (.node (a89 P) (lf (a153 P)) .nil) (lf (a121 P))))) (.node (a13 P) (.node (a21 P) (.node (a37 P) (.node (a69 P) (lf (a133 P)) .nil) (.node (a101 P) (lf (a165 P)) .nil)) (.node (a53 P) (.node (a85 P) (lf (a149 P)) .nil) (lf (a117 P)))) (.node (a29 P) (.node (a45 P) (.node (a77 P) (lf (a141 P)) .nil) (.node (a109 P) (lf (a173 P)) .nil)) (.node (a61 P) (.node (a93 P) (lf (a157 P)) .nil) (lf (a125 P))))))) (.node (boot_o_2 P) (.node (boot_o_4 P) (.node (boot_o_8 P) (.node (a16 P) (.node (a32 P) (.node (a64 P) (lf (a128 P)) .nil) (.node (a96 P) (lf (a160 P)) .nil)) (.node (a48 P) (.node (a80 P) (lf (a144 P)) .nil) (.node (a112 P) (lf (a176 P)) .nil))) (.node (a24 P) (.node (a40 P) (.node (a72 P) (lf (a136 P)) .nil) (.node (a104 P) (lf (a168 P)) .nil)) (.node (a56 P) (.node (a88 P) (lf (a152 P)) .nil) (lf (a120 P))))) (.node (a12v4 P) (.node (a20 P) (.node (a36 P) (.node (a68 P) (lf (a132 P)) .nil) (.node (a100 P) (lf (a164 P)) .nil)) (.node (a52 P) (.node (a84 P) (lf (a148 P)) .nil) (lf (a116 P)))) (.node (a28 P) (.node (a44 P) (.node (a76 P) (lf (a140 P)) .nil) (.node (a108 P) (lf (a172 P)) .nil)) (.node (a60 P) (.node (a92 P) (lf (a156 P)) .nil) (lf (a124 P)))))) (.node (boot_o_6 P) (.node (boot_o_10 P) (.node (a18 P) (.node (a34 P) (.node (a66 P) (lf (a130 P)) .nil) (.node (a98 P) (lf (a162 P)) .nil)) (.node (a50 P) (.node (a82 P) (lf (a146 P)) .nil) (lf (a114 P)))) (.node (a26 P) (.node (a42 P) (.node (a74 P) (lf (a138 P)) .nil) (.node (a106 P) (lf (a170 P)) .nil)) (.node (a58 P) (.node (a90 P) (lf (a154 P)) .nil) (lf (a122 P))))) (.node (a14 P) (.node (a22 P) (.node (a38 P) (.node (a70 P) (lf (a134 P)) .nil) (.node (a102 P) (lf (a166 P)) .nil)) (.node (a54 P) (.node (a86 P) (lf (a150 P)) .nil) (lf (a118 P)))) (.node (a30 P) (.node (a46 P) (.node (a78 P) (lf (a142 P)) .nil) (.node (a110 P) (lf (a174 P)) .nil)) (.node (a62 P) (.node (a94 P) (lf (a158 P)) .nil) (lf (a126 P))))))))
noncomputable def s6 (w:World) (os:OsState):SharedT:=⟨t6 w.params,177,⟨[],[],[],0,[],[],false,Array.mk [],[],0,false,false,false,0,[2000,10,10],false,0,true,[],[],0,false⟩,#[],⟨0,0,0,0⟩,2359,os⟩
noncomputable def t7 (P:Params):BT:=(.node (boot_o_0 P) (.node (boot_o_1 P) (.node (a3v7 P) (.node (boot_o_7 P) (.node (a15 P) (.node (a31 P) (.node (a63 P) (.node (a127 P) (lf (a255 P)) .nil) (lf (a191 P))) (.node (a95 P) (lf (a159 P)) (lf (a223 P)))) (.node (a47 P) (.node (a79 P) (lf (a143 P)) (lf (a207 P))) (.node (a111 P) (lf (a175 P)) (lf (a239 P))))) (.node (a23 P) (.node (a39 P) (.node (a71 P) (lf (a135 P)) (lf (a199 P))) (.node (a103 P) (lf (a167 P)) (lf (a231 P)))) (.node (a55 P) (.node (a87 P) (lf (a151 P)) (lf (a215 P))) (.node (a119 P) (lf (a183 P)) (lf (a247 P)))))) (.node (a11 P) (.node (a19 P) (.node (a35 P) (.node (a67 P) (.node (a131 P) (lf (a259 P)) .nil) (lf (a195 P))) (.node (a99 P) (lf (a163 P)) (lf (a227 P)))) (.node (a51 P) (.node (a83 P) (lf (a147 P)) (lf (a211 P))) (.node (a115 P) (lf (a179 P)) (lf (a243 P))))) (.node (a27 P) (.node (a43 P) (.node (a75 P) (lf (a139 P)) (lf (a203 P))) (.node (a107 P) (lf (a171 P)) (lf (a235 P)))) (.node (a59 P) (.node (a91 P) (lf (a155 P)) (lf (a219 P))) (.node (a123 P) (lf (a187 P)) (lf (a251 P))))))) (.node (boot_o_5 P) (.node (boot_o_9 P) (.node (a17 P) (.node (a33 P) (.node (a65 P) (.node (a129 P) (lf (a257 P)) .nil) (lf (a193 P))) (.node (a97 P) (lf (a161 P)) (lf (a225 P)))) (.node (a49 P) (.node (a81 P) (lf (a145 P)) (lf (a209 P))) (.node (a113 P) (lf (a177 P)) (lf (a241 P))))) (.node (a25 P) (.node (a41 P) (.node (a73 P) (lf (a137 P)) (lf (a201 P))) (.node (a105 P) (lf (a169 P)) (lf (a233 P)))) (.node (a57 P) (.node (a89 P) (lf (a153 P)) (lf (a217 P))) (.node (a121 P) (lf (a185 P)) (lf (a249 P)))))) (.node (a13 P) (.node (a21 P) (.node (a37 P) (.node (a69 P) (lf (a133 P)) (lf (a197 P))) (.node (a101 P) (lf (a165 P)) (lf (a229 P)))) (.node (a53 P) (.node (a85 P) (lf (a149 P)) (lf (a213 P))) (.node (a117 P) (lf (a181 P)) (lf (a245 P))))) (.node (a29 P) (.node (a45 P) (.node (a77 P) (lf (a141 P)) (lf (a205 P))) (.node (a109 P) (lf (a173 P)) (lf (a237 P)))) (.node (a61 P) (.node (a93 P) (lf (a157 P)) (lf (a221 P))) (.node (a125 P) (lf (a189 P)) (lf (a253 P)))))))) (.node (boot_o_2 P) (.node (boot_o_4 P) (.node (boot_o_8 P) (.node (a16 P) (.node (a32 P) (.node (a64 P) (.node (a128 P) (lf (a256 P)) .nil) (lf (a192 P))) (.node (a96 P) (lf (a160 P)) (lf (a224 P)))) (.node (a48 P) (.node (a80 P) (lf (a144 P)) (lf (a208 P))) (.node (a112 P) (lf (a176 P)) (lf (a240 P))))) (.node (a24 P) (.node (a40 P) (.node (a72 P) (lf (a136 P)) (lf (a200 P))) (.node (a104 P) (lf (a168 P)) (lf (a232 P)))) (.node (a56 P) (.node (a88 P) (lf (a152 P)) (lf (a216 P))) (.node (a120 P) (lf (a184 P)) (lf (a248 P)))))) (.node (a12v5 P) (.node (a20 P) (.node (a36 P) (.node (a68 P) (.node (a132 P) (lf (a260 P)) .nil) (lf (a196 P))) (.node (a100 P) (lf (a164 P)) (lf (a228 P)))) (.node (a52 P) (.node (a84 P) (lf (a148 P)) (lf (a212 P))) (.node (a116 P) (lf (a180 P)) (lf (a244 P))))) (.node (a28 P) (.node (a44 P) (.node (a76 P) (lf (a140 P)) (lf (a204 P))) (.node (a108 P) (lf (a172 P)) (lf (a236 P)))) (.node (a60 P) (.node (a92 P) (lf (a156 P)) (lf (a220 P))) (.node (a124 P) (lf (a188 P)) (lf (a252 P))))))) (.node (boot_o_6 P) (.node (boot_o_10 P) (.node (a18 P) (.node (a34 P) (.node (a66 P) (.node (a130 P) (lf (a258 P)) .nil) (lf (a194 P))) (.node (a98 P) (lf (a162 P)) (lf (a226 P)))) (.node (a50 P) (.node (a82 P) (lf (a146 P)) (lf (a210 P))) (.node (a114 P) (lf (a178 P)) (lf (a242 P))))) (.node (a26 P) (.node (a42 P) (.node (a74 P) (lf (a138 P)) (lf (a202 P))) (.node (a106 P) (lf (a170 P)) (lf (a234 P)))) (.node (a58 P) (.node (a90 P) (lf (a154 P)) (lf (a218 P))) (.node (a122 P) (lf (a186 P)) (lf (a250 P)))))) (.node (a14 P) (.node (a22 P) (.node (a38 P) (.node (a70 P) (lf (a134 P)) (lf (a198 P))) (.node (a102 P) (lf (a166 P)) (lf (a230 P)))) (.node (a54 P) (.node (a86 P) (lf (a150 P)) (lf (a214 P))) (.node (a118 P) (lf (a182 P)) (lf (a246 P))))) (.node (a30 P) (.node (a46 P) (.node (a78 P) (lf (a142 P)) (lf (a206 P))) (.node (a110 P) (lf (a174 P)) (lf (a238 P)))) (.node (a62 P) (.node (a94 P) (lf (a158 P)) (lf (a222 P))) (.node (a126 P) (lf (a190 P)) (lf (a254 P)))))))))
noncomputable def s7 (w:World) (os:OsState):SharedT:=⟨t7 w.params,261,⟨[],[],[],0,[],[],false,Array.mk [],[],0,false,false,false,0,[2000,10,10],false,0,true,[],[],0,false⟩,#[],⟨0,0,0,0⟩,2455,os⟩
noncomputable def t8 (P:Params):BT:=(.node (boot_o_0 P) (.node (boot_o_1 P) (.node (a3v8 P) (.node (boot_o_7 P) (.node (a15 P) (.node (a31 P) (.node (a63 P) (.node (a127 P) (lf (a255 P)) .nil) (lf (a191 P))) (.node (a95 P) (lf (a159 P)) (lf (a223 P)))) (.node (a47 P) (.node (a79 P) (.node (a143 P) (lf (a271 P)) .nil) (lf (a207 P))) (.node (a111 P) (lf (a175 P)) (lf (a239 P))))) (.node (a23 P) (.node (a39 P) (.node (a71 P) (.node (a135 P) (lf (a263 P)) .nil) (lf (a199 P))) (.node (a103 P) (lf (a167 P)) (lf (a231 P)))) (.node (a55 P) (.node (a87 P) (.node (a151 P) (lf (a279 P)) .nil) (lf (a215 P))) (.node (a119 P) (lf (a183 P)) (lf (a247 P)))))) (.node (a11 P) (.node (a19 P) (.node (a35 P) (.node (a67 P) (.node (a131 P) (lf (a259 P)) .nil) (lf (a195 P))) (.node (a99 P) (lf (a163 P)) (lf (a227 P)))) (.node (a51 P) (.node (a83 P) (.node (a147 P) (lf (a275 P)) .nil) (lf (a211 P))) (.node (a115 P) (lf (a179 P)) (lf (a243 P))))) (.node (a27 P) (.node (a43 P) (.node (a75 P) (.node (a139 P) (lf (a267 P)) .nil) (lf (a203 P))) (.node (a107 P) (lf (a171 P)) (lf (a235 P)))) (.node (a59 P) (.node (a91 P) (.node (a155 P) (lf (a283 P)) .nil) (lf (a219 P))) (.node (a123 P) (lf (a187 P)) (lf (a251 P))))))) (.node (boot_o_5 P) (.node (boot_o_9 P) (.node (a17 P) (.node (a33 P) (.node (a65 P) (.node (a129 P) (lf (a257 P)) .nil) (lf (a193 P))) (.node (a97 P) (lf (a161 P)) (lf (a225 P)))) (.node (a49 P) (.node (a81 P) (.node (a145 P) (lf (a273 P)) .nil) (lf (a209 P))) (.node (a113 P) (lf (a177 P)) (lf (a241 P))))) (.node (a25 P) (.node (a41 P) (.node (a73 P) (.node (a137 P) (lf (a265 P)) .nil) (lf (a201 P))) (.node (a105 P) (lf (a169 P)) (lf (a233 P)))) (.node (a57 P) (.node (a89 P) (.node (a153 P) (lf (a281 P)) .nil) (lf (a217 P))) (.node (a121 P) (lf (a185 P)) (lf (a249 P)))))) (.node (a13 P) (.node (a21 P) (.node (a37 P) (.node (a69 P) (.node (a133 P) (lf (a261 P)) .nil) (lf (a197 P))) (.node (a101 P) (lf (a165 P)) (lf (a229 P)))) (.node (a53 P) (.node (a85 P) (.node (a149 P) (lf (a277 P)) .nil) (lf (a213 P))) (.node (a117 P) (lf (a181 P)) (lf (a245 P))))) (.node (a29 P) (.node (a45 P) (.node (a77 P) (.node (a141 P) (lf (a269 P)) .nil) (lf (a205 P))) (.node (a109 P) (lf (a173 P)) (lf (a237 P)))) (.node (a61 P) (.node (a93 P) (lf (a157 P)) (lf (a221 P))) (.node (a125 P) (lf (a189 P)) (lf (a253 P)))))))) (.node (boot_o_2 P) (.node (boot_o_4 P) (.node (boot_o_8 P) (.node (a16 P) (.node (a32 P) (.node (a64 P) (.node (a128 P) (lf (a256 P)) .nil) (lf (a192 P))) (.node (a96 P) (lf (a160 P)) (lf (a224 P)))) (.node (a48 P) (.node (a80 P) (.node (a144 P) (lf (a272 P)) .nil) (lf (a208 P))) (.node (a112 P) (lf (a176 P)) (lf (a240 P))))) (.node (a24 P) (.node (a40 P) (.node (a72 P) (.node (a136 P) (lf (a264 P)) .nil) (lf (a200 P))) (.node (a104 P) (lf (a168 P)) (lf (a232 P)))) (.node (a56 P) (.node (a88 P) (.node (a152 P) (lf (a280 P)) .nil) (lf (a216 P))) (.node (a120 P) (lf (a184 P)) (lf (a248 P)))))) (.node (a12v6 P) (.node (a20 P) (.node (a36 P) (.node (a68 P) (.node (a132 P) (lf (a260 P)) .nil) (lf (a196 P))) (.node (a100 P) (lf (a164 P)) (lf (a228 P)))) (.node (a52 P) (.node (a84 P) (.node (a148 P) (lf (a276 P)) .nil) (lf (a212 P))) (.node (a116 P) (lf (a180 P)) (lf (a244 P))))) (.node (a28 P) (.node (a44 P) (.node (a76 P) (.node (a140 P) (lf (a268 P)) .nil) (lf (a204 P))) (.node (a108 P) (lf (a172 P)) (lf (a236 P)))) (.node (a60 P) (.node (a92 P) (.node (a156 P) (lf (a284 P)) .nil) (lf (a220 P))) (.node (a124 P) (lf (a188 P)) (lf (a252 P))))))) (.node (boot_o_6 P) (.node (boot_o_10 P) (.node (a18 P) (.node (a34 P) (.node (a66 P) (.node (a130 P) (lf (a258 P)) .nil) (lf (a194 P))) (.node (a98 P) (lf (a162 P)) (lf (a226 P)))) (.node (a50 P) (.node (a82 P) (.node (a146 P) (lf (a274 P)) .nil) (lf (a210 P))) (.node (a114 P) (lf (a178 P)) (lf (a242 P))))) (.node (a26 P) (.node (a42 P) (.node (a74 P) (.node (a138 P) (lf (a266 P)) .nil) (lf (a202 P))) (.node (a106 P) (lf (a170 P)) (lf (a234 P)))) (.node (a58 P) (.node (a90 P) (.node (a154 P) (lf (a282 P)) .nil) (lf (a218 P))) (.node (a122 P) (lf (a186 P)) (lf (a250 P)))))) (.node (a14 P) (.node (a22 P) (.node (a38 P) (.node (a70 P) (.node (a134 P) (lf (a262 P)) .nil) (lf (a198 P))) (.node (a102 P) (lf (a166 P)) (lf (a230 P)))) (.node (a54 P) (.node (a86 P) (.node (a150 P) (lf (a278 P)) .nil) (lf (a214 P))) (.node (a118 P) (lf (a182 P)) (lf (a246 P))))) (.node (a30 P) (.node (a46 P) (.node (a78 P) (.node (a142 P) (lf (a270 P)) .nil) (lf (a206 P))) (.node (a110 P) (lf (a174 P)) (lf (a238 P)))) (.node (a62 P) (.node (a94 P) (lf (a158 P)) (lf (a222 P))) (.node (a126 P) (lf (a190 P)) (lf (a254 P)))))))))
noncomputable def s8 (w:World) (os:OsState):SharedT:=⟨t8 w.params,285,⟨[],[],[],0,[],[],false,Array.mk [],[],0,false,false,false,0,[2000,10,10],false,0,true,[],[],0,false⟩,#[],⟨0,0,0,0⟩,2490,os⟩
theorem preR: ∀(w:World) (os:OsState),goQ tabQ PW w 11 (some (.ref 6)) 12 ⟨boot_heap w.params,#[],boot_drawn,boot_toks,os⟩ (topStub PW)=some (⟨hA w.params,#[],⟨0,0,0,0⟩,187,os⟩,⟨denQ tabQ cM,cM,⟨0,0,0,0⟩,[topFrame qM]⟩):=by
 intro w os;kernel_rfl
theorem blockR: ∀(w:World) (os:OsState),segPQ tabQ PW w 11 (some (.ref 6)) 1 1 ⟨hA w.params,#[],⟨0,0,0,0⟩,187,os⟩ (blockOf (behindTheImports PW) envM cM ⟨0,0,0,0⟩ [topFrame qM])=some (.next,(s0 w os).abs,cM,⟨0,0,0,0⟩):=by
 intro w os;kernel_rfl
theorem run0: ∀(w:World) (os:OsState),segTQ tabQ PW w 11 (some (.ref 6)) 1 39 (s0 w os) ⟨(exQ (((behindTheImports PW).drop 0).take 2) envM).wrap doneF deadEnd id id,cM,⟨0,0,0,0⟩,[topFrame qM]⟩=some (.next,s1 w os,cM,⟨4,0,4,8⟩):=by
 intro w os;kernel_rfl
theorem seg0: ∀(w:World) (os:OsState) (N:Nat) (r:Shared),topRun treeTable PW w 11 (some (.ref 6)) N (s1 w os).abs (restOf ((behindTheImports PW).drop 2) envM cM ⟨4,0,4,8⟩ [topFrame qM])=some r→topRun treeTable PW w 11 (some (.ref 6)) (39+N) (s0 w os).abs (restOf ((behindTheImports PW).drop 0) envM cM ⟨0,0,0,0⟩ [topFrame qM])=some r:=fun w os N r h=>
 top_piece (l:=((behindTheImports PW).drop 0).take 2) (rest:=(behindTheImports PW).drop 2) (run0 w os) h
theorem run1falsefalse: ∀(w:World) (os:OsState),segTQ tabQ PW ((w.withFollow "special-get-raises" false).withFollow "set-order" false) 11 (some (.ref 6)) 1 999 (s1 ((w.withFollow "special-get-raises" false).withFollow "set-order" false) os) ⟨(exQ (((behindTheImports PW).drop 2).take 1) envM).wrap doneF deadEnd id id,cM,⟨4,0,4,8⟩,[topFrame qM]⟩=some (.next,s2 ((w.withFollow "special-get-raises" false).withFollow "set-order" false) os,cM,⟨5,0,5,6⟩):=by
 intro w os;kernel_rfl
theorem run1falsetrue: ∀(w:World) (os:OsState),segTQ tabQ PW ((w.withFollow "special-get-raises" true).withFollow "set-order" false) 11 (some (.ref 6)) 1 999 (s1 ((w.withFollow "special-get-raises" true).withFollow "set-order" false) os) ⟨(exQ (((behindTheImports PW).drop 2).take 1) envM).wrap doneF deadEnd id id,cM,⟨4,0,4,8⟩,[topFrame qM]⟩=some (.next,s2 ((w.withFollow "special-get-raises" true).withFollow "set-order" false) os,cM,⟨5,0,5,6⟩):=by
 intro w os;kernel_rfl
theorem run1truefalse: ∀(w:World) (os:OsState),segTQ tabQ PW ((w.withFollow "special-get-raises" false).withFollow "set-order" true) 11 (some (.ref 6)) 1 999 (s1 ((w.withFollow "special-get-raises" false).withFollow "set-order" true) os) ⟨(exQ (((behindTheImports PW).drop 2).take 1) envM).wrap doneF deadEnd id id,cM,⟨4,0,4,8⟩,[topFrame qM]⟩=some (.next,s2 ((w.withFollow "special-get-raises" false).withFollow "set-order" true) os,cM,⟨5,0,5,6⟩):=by
 intro w os;kernel_rfl
theorem run1truetrue: ∀(w:World) (os:OsState),segTQ tabQ PW ((w.withFollow "special-get-raises" true).withFollow "set-order" true) 11 (some (.ref 6)) 1 999 (s1 ((w.withFollow "special-get-raises" true).withFollow "set-order" true) os) ⟨(exQ (((behindTheImports PW).drop 2).take 1) envM).wrap doneF deadEnd id id,cM,⟨4,0,4,8⟩,[topFrame qM]⟩=some (.next,s2 ((w.withFollow "special-get-raises" true).withFollow "set-order" true) os,cM,⟨5,0,5,6⟩):=by
 intro w os;kernel_rfl
theorem run1: ∀(w:World) (os:OsState),segTQ tabQ PW w 11 (some (.ref 6)) 1 999 (s1 w os) ⟨(exQ (((behindTheImports PW).drop 2).take 1) envM).wrap doneF deadEnd id id,cM,⟨4,0,4,8⟩,[topFrame qM]⟩=some (.next,s2 w os,cM,⟨5,0,5,6⟩):=fun w os=>byRow2 "set-order" (P:=fun w=>segTQ tabQ PW w 11 (some (.ref 6)) 1 999 (s1 w os) ⟨(exQ (((behindTheImports PW).drop 2).take 1) envM).wrap doneF deadEnd id id,cM,⟨4,0,4,8⟩,[topFrame qM]⟩=some (.next,s2 w os,cM,⟨5,0,5,6⟩))
 (byRow2 "special-get-raises" (P:=fun w=>segTQ tabQ PW (w.withFollow "set-order" false) 11 (some (.ref 6)) 1 999 (s1 (w.withFollow "set-order" false) os) ⟨(exQ (((behindTheImports PW).drop 2).take 1) envM).wrap doneF deadEnd id id,cM,⟨4,0,4,8⟩,[topFrame qM]⟩=some (.next,s2 (w.withFollow "set-order" false) os,cM,⟨5,0,5,6⟩)) (fun w=>run1falsefalse w os) (fun w=>run1falsetrue w os))
 (byRow2 "special-get-raises" (P:=fun w=>segTQ tabQ PW (w.withFollow "set-order" true) 11 (some (.ref 6)) 1 999 (s1 (w.withFollow "set-order" true) os) ⟨(exQ (((behindTheImports PW).drop 2).take 1) envM).wrap doneF deadEnd id id,cM,⟨4,0,4,8⟩,[topFrame qM]⟩=some (.next,s2 (w.withFollow "set-order" true) os,cM,⟨5,0,5,6⟩)) (fun w=>run1truefalse w os) (fun w=>run1truetrue w os)) w
theorem seg1: ∀(w:World) (os:OsState) (N:Nat) (r:Shared),topRun treeTable PW w 11 (some (.ref 6)) N (s2 w os).abs (restOf ((behindTheImports PW).drop 3) envM cM ⟨5,0,5,6⟩ [topFrame qM])=some r→topRun treeTable PW w 11 (some (.ref 6)) (999+N) (s1 w os).abs (restOf ((behindTheImports PW).drop 2) envM cM ⟨4,0,4,8⟩ [topFrame qM])=some r:=fun w os N r h=>
 top_piece (l:=((behindTheImports PW).drop 2).take 1) (rest:=(behindTheImports PW).drop 3) (run1 w os) h
theorem run2: ∀(w:World) (os:OsState),segTQ tabQ PW w 11 (some (.ref 6)) 1 30 (s2 w os) ⟨(exQ (((behindTheImports PW).drop 3).take 1) envM).wrap doneF deadEnd id id,cM,⟨5,0,5,6⟩,[topFrame qM]⟩=some (.next,s3 w os,cM,⟨6,0,7,30⟩):=by
 intro w os;kernel_rfl
theorem seg2: ∀(w:World) (os:OsState) (N:Nat) (r:Shared),topRun treeTable PW w 11 (some (.ref 6)) N (s3 w os).abs (restOf ((behindTheImports PW).drop 4) envM cM ⟨6,0,7,30⟩ [topFrame qM])=some r→topRun treeTable PW w 11 (some (.ref 6)) (30+N) (s2 w os).abs (restOf ((behindTheImports PW).drop 3) envM cM ⟨5,0,5,6⟩ [topFrame qM])=some r:=fun w os N r h=>
 top_piece (l:=((behindTheImports PW).drop 3).take 1) (rest:=(behindTheImports PW).drop 4) (run2 w os) h
theorem dictShape:ST 4= .Assign [.Name (Zs [98,51,95,101,120,99,101,112,116,105,111,110,115]) ⟨8,0,8,13⟩] (.Dict (ksOf (ST 4)) (vsOf (ST 4)) ⟨8,16,8,8704⟩) ⟨8,0,8,8704⟩:=by kernel_rfl
theorem dictTab:tabL (ksOf (ST 4)) (vsOf (ST 4))=some b3L:=by kernel_rfl
theorem dictLen:b3L.length=650:=by kernel_rfl
theorem dictRises:rises (b3L.map fun d=>hashInt d.1)=true:=by kernel_rfl
theorem dictOk: ∀P:Params,insOk (t3 P) 40 (dicO (dispE 263 b3L 37) 650::dispS 263 b3L 37)=true:=by intro P;kernel_rfl
theorem dictIns: ∀P:Params,insL (t3 P) 40 (dicO (dispE 263 b3L 37) 650::dispS 263 b3L 37)=tD P:=by intro P;kernel_rfl
theorem dictN:40+(dicO (dispE 263 b3L 37) 650::dispS 263 b3L 37).length=79:=by kernel_rfl
theorem dictSt: ∀(w:World) (os:OsState),stD (s3 w os).abs (s3 w os).abs.heap (dispE 263 b3L 37) b3L.length (dispS 263 b3L 37) (263+3*b3L.length)=(sD w os).abs:=by
 intro w os
 have e:=pushL_abs (life:=⟨[],[],[],0,[],[],false,Array.mk [],[],0,false,false,false,0,[2000,10,10],false,0,true,[],[],0,false⟩) _ _ _ (dictOk w.params)
 rw[dictIns,dictN,pushL_cons] at e
 rw[dictLen]
 exact congrArg (fun h=>(⟨h,#[],⟨0,0,0,0⟩,2213,os⟩:Shared)) e
theorem dictSize: ∀(w:World) (os:OsState),(s3 w os).abs.heap.objs.size=40:=fun w os=>absHeap_size _ _ _
theorem dictBind: ∀(w:World) (os:OsState) gd lv,segTQ tabQ PW w 11 (some (.ref 6)) 1 60 (sD w os) ⟨(bindQ envM (Zs [98,51,95,101,120,99,101,112,116,105,111,110,115]) (.ref 40)).wrap (fun _=>.pure (.done .next)) deadEnd gd lv,cM,⟨8,0,8,13⟩,[topFrame qM]⟩=some (.next,s4 w os,cM,⟨8,0,8,13⟩):=by
 intro w os gd lv;kernel_rfl
theorem seg3: ∀(w:World) (os:OsState) (N:Nat) (r:Shared),topRun treeTable PW w 11 (some (.ref 6)) N (s4 w os).abs (restOf ((behindTheImports PW).drop 5) envM cM ⟨8,0,8,13⟩ [topFrame qM])=some r→topRun treeTable PW w 11 (some (.ref 6)) (78063+N) (s3 w os).abs (restOf ((behindTheImports PW).drop 4) envM cM ⟨6,0,7,30⟩ [topFrame qM])=some r:=by
 intro w os N r h
 have hR:Rn treeTable PW w 11 (some (.ref 6)) qM cM (2000*(37+2)+60+3) (exec (ST 4) envM) (s3 w os).abs ⟨6,0,7,30⟩ .next (s4 w os).abs ⟨8,0,8,13⟩:=by
  rw[dictShape]
  refine rn_table (j:=37) dictTab (by rw[dictLen];decide) (by rw[dictLen];decide) (by rw[dictLen];decide) (rises_nodup _ dictRises) (by rw[dictSize];decide) (by rw[dictSize];decide) (by rfl) ?_
  rw[dictSize]
  have ht:(s3 w os).abs.toks=263:=rfl
  rw[ht,dictSt]
  exact rn_bindQ (dictBind w os)
 exact rn_stmt (st:=ST 4) (rest:=(behindTheImports PW).drop 5) hR h
theorem run4: ∀(w:World) (os:OsState),segTQ tabQ PW w 11 (some (.ref 6)) 1 139 (s4 w os) ⟨(exQ (((behindTheImports PW).drop 5).take 8) envM).wrap doneF deadEnd id id,cM,⟨8,0,8,13⟩,[topFrame qM]⟩=some (.next,s5 w os,cM,⟨48,0,48,11⟩):=by
 intro w os;kernel_rfl
theorem seg4: ∀(w:World) (os:OsState) (N:Nat) (r:Shared),topRun treeTable PW w 11 (some (.ref 6)) N (s5 w os).abs (restOf ((behindTheImports PW).drop 13) envM cM ⟨48,0,48,11⟩ [topFrame qM])=some r→topRun treeTable PW w 11 (some (.ref 6)) (139+N) (s4 w os).abs (restOf ((behindTheImports PW).drop 5) envM cM ⟨8,0,8,13⟩ [topFrame qM])=some r:=fun w os N r h=>
 top_piece (l:=((behindTheImports PW).drop 5).take 8) (rest:=(behindTheImports PW).drop 13) (run4 w os) h
theorem run5: ∀(w:World) (os:OsState),segTQ tabQ PW w 11 (some (.ref 6)) 1 494 (s5 w os) ⟨(exQ (((behindTheImports PW).drop 13).take 1) envM).wrap doneF deadEnd id id,cM,⟨48,0,48,11⟩,[topFrame qM]⟩=some (.next,s6 w os,cM,⟨49,0,114,47⟩):=by
 intro w os;kernel_rfl
theorem seg5: ∀(w:World) (os:OsState) (N:Nat) (r:Shared),topRun treeTable PW w 11 (some (.ref 6)) N (s6 w os).abs (restOf ((behindTheImports PW).drop 14) envM cM ⟨49,0,114,47⟩ [topFrame qM])=some r→topRun treeTable PW w 11 (some (.ref 6)) (494+N) (s5 w os).abs (restOf ((behindTheImports PW).drop 13) envM cM ⟨48,0,48,11⟩ [topFrame qM])=some r:=fun w os N r h=>
 top_piece (l:=((behindTheImports PW).drop 13).take 1) (rest:=(behindTheImports PW).drop 14) (run5 w os) h
theorem run6: ∀(w:World) (os:OsState),segTQ tabQ PW w 11 (some (.ref 6)) 1 505 (s6 w os) ⟨(exQ (((behindTheImports PW).drop 14).take 1) envM).wrap doneF deadEnd id id,cM,⟨49,0,114,47⟩,[topFrame qM]⟩=some (.next,s7 w os,cM,⟨115,0,150,32⟩):=by
 intro w os;kernel_rfl
theorem seg6: ∀(w:World) (os:OsState) (N:Nat) (r:Shared),topRun treeTable PW w 11 (some (.ref 6)) N (s7 w os).abs (restOf ((behindTheImports PW).drop 15) envM cM ⟨115,0,150,32⟩ [topFrame qM])=some r→topRun treeTable PW w 11 (some (.ref 6)) (505+N) (s6 w os).abs (restOf ((behindTheImports PW).drop 14) envM cM ⟨49,0,114,47⟩ [topFrame qM])=some r:=fun w os N r h=>
 top_piece (l:=((behindTheImports PW).drop 14).take 1) (rest:=(behindTheImports PW).drop 15) (run6 w os) h
theorem run7: ∀(w:World) (os:OsState),segTQ tabQ PW w 11 (some (.ref 6)) 1 134 (s7 w os) ⟨(exQ (((behindTheImports PW).drop 15).take 6) envM).wrap doneF deadEnd id id,cM,⟨115,0,150,32⟩,[topFrame qM]⟩=some (.next,s8 w os,cM,⟨171,0,230,151⟩):=by
 intro w os;kernel_rfl
theorem seg7: ∀(w:World) (os:OsState) (N:Nat) (r:Shared),topRun treeTable PW w 11 (some (.ref 6)) N (s8 w os).abs (restOf ((behindTheImports PW).drop 21) envM cM ⟨171,0,230,151⟩ [topFrame qM])=some r→topRun treeTable PW w 11 (some (.ref 6)) (134+N) (s7 w os).abs (restOf ((behindTheImports PW).drop 15) envM cM ⟨115,0,150,32⟩ [topFrame qM])=some r:=fun w os N r h=>
 top_piece (l:=((behindTheImports PW).drop 15).take 6) (rest:=(behindTheImports PW).drop 21) (run7 w os) h
theorem finR: ∀(w:World) (os:OsState),runQ tabQ PW w 11 (some (.ref 6)) 2 (s8 w os).abs ⟨doneF .next,cM,⟨171,0,230,151⟩,[topFrame qM]⟩=some (s8 w os).abs:=by
 intro w os;kernel_rfl
theorem topR: ∀(w:World) (os:OsState),topRun treeTable PW w 11 (some (.ref 6)) (12+(1+(39+(999+(30+(78063+(139+(494+(505+(134+2)))))))))) ⟨boot_heap w.params,#[],boot_drawn,boot_toks,os⟩ (topStub PW)=some (s8 w os).abs:=fun w os=>
 have finT:topRun treeTable PW w 11 (some (.ref 6)) 2 (s8 w os).abs (restOf ((behindTheImports PW).drop 21) envM cM ⟨171,0,230,151⟩ [topFrame qM])=some (s8 w os).abs:=top_fin (finR w os)
 top_pre (preR w os) (top_block (blockR w os) (seg0 w os _ _ (seg1 w os _ _ (seg2 w os _ _ (seg3 w os _ _ (seg4 w os _ _ (seg5 w os _ _ (seg6 w os _ _ (seg7 w os _ _ finT)))))))))
noncomputable def hF (P:Params):Heap:=⟨Array.mk [boot_o_0 P,boot_o_1 P,boot_o_2 P,a3v8 P,boot_o_4 P,boot_o_5 P,boot_o_6 P,boot_o_7 P,boot_o_8 P,boot_o_9 P,boot_o_10 P,a11 P,a12v6 P,a13 P,a14 P,a15 P,a16 P,a17 P,a18 P,a19 P,a20 P,a21 P,a22 P,a23 P,a24 P,a25 P,a26 P,a27 P,a28 P,a29 P,a30 P,a31 P,a32 P,a33 P,a34 P,a35 P,a36 P,a37 P,a38 P,a39 P,a40 P,a41 P,a42 P,a43 P,a44 P,a45 P,a46 P,a47 P,a48 P,a49 P,a50 P,a51 P,a52 P,a53 P,a54 P,a55 P,a56 P,a57 P,a58 P,a59 P,a60 P,a61 P,a62 P,a63 P,a64 P,a65 P,a66 P,a67 P,a68 P,a69 P,a70 P,a71 P,a72 P,a73 P,a74 P,a75 P,a76 P,a77 P,a78 P,a79 P,a80 P,a81 P,a82 P,a83 P,a84 P,a85 P,a86 P,a87 P,a88 P,a89 P,a90 P,a91 P,a92 P,a93 P,a94 P,a95 P,a96 P,a97 P,a98 P,a99 P,a100 P,a101 P,a102 P,a103 P,a104 P,a105 P,a106 P,a107 P,a108 P,a109 P,a110 P,a111 P,a112 P,a113 P,a114 P,a115 P,a116 P,a117 P,a118 P,a119 P,a120 P,a121 P,a122 P,a123 P,a124 P,a125 P,a126 P,a127 P,a128 P,a129 P,a130 P,a131 P,a132 P,a133 P,a134 P,a135 P,a136 P,a137 P,a138 P,a139 P,a140 P,a141 P,a142 P,a143 P,a144 P,a145 P,a146 P,a147 P,a148 P,a149 P,a150 P,a151 P,a152 P,a153 P,a154 P,a155 P,a156 P,a157 P,a158 P,a159 P,a160 P,a161 P,a162 P,a163 P,a164 P,a165 P,a166 P,a167 P,a168 P,a169 P,a170 P,a171 P,a172 P,a173 P,a174 P,a175 P,a176 P,a177 P,a178 P,a179 P,a180 P,a181 P,a182 P,a183 P,a184 P,a185 P,a186 P,a187 P,a188 P,a189 P,a190 P,a191 P,a192 P,a193 P,a194 P,a195 P,a196 P,a197 P,a198 P,a199 P,a200 P,a201 P,a202 P,a203 P,a204 P,a205 P,a206 P,a207 P,a208 P,a209 P,a210 P,a211 P,a212 P,a213 P,a214 P,a215 P,a216 P,a217 P,a218 P,a219 P,a220 P,a221 P,a222 P,a223 P,a224 P,a225 P,a226 P,a227 P,a228 P,a229 P,a230 P,a231 P,a232 P,a233 P,a234 P,a235 P,a236 P,a237 P,a238 P,a239 P,a240 P,a241 P,a242 P,a243 P,a244 P,a245 P,a246 P,a247 P,a248 P,a249 P,a250 P,a251 P,a252 P,a253 P,a254 P,a255 P,a256 P,a257 P,a258 P,a259 P,a260 P,a261 P,a262 P,a263 P,a264 P,a265 P,a266 P,a267 P,a268 P,a269 P,a270 P,a271 P,a272 P,a273 P,a274 P,a275 P,a276 P,a277 P,a278 P,a279 P,a280 P,a281 P,a282 P,a283 P,a284 P],⟨[],[],[],0,[],[],false,Array.mk [],[],0,false,false,false,0,[2000,10,10],false,0,true,[],[],0,false⟩⟩
theorem hF_eq: ∀P:Params,absHeap (t8 P) 285 ⟨[],[],[],0,[],[],false,Array.mk [],[],0,false,false,false,0,[2000,10,10],false,0,true,[],[],0,false⟩=hF P:=by intro P;kernel_rfl
noncomputable def asF:List Nat:=[0,1,2,3,4,5,6,7,9,10,11,13,14,15,17,18,20,21,22,23,24,25,26,27,28,29,30,31,32,33,35,36,38,39,40,41,42,43,44,45,46,47,48,49,50,51,52,53,54,55,56,57,58,59,60,61,62,63,64,65,66,67,68,69,70,71,72,73,74,75,76,77,78,79,81,82,84,85,86,88,89,91,92,93,95,96,98,99,100,101,102,103,105,106,107,109,110,112,113,114,116,117,119,120,121,123,124,126,127,128,130,131,133,134,135,137,138,140,141,142,144,145,147,148,149,151,152,154,155,156,158,159,161,162,163,165,166,168,169,170,171,172,173,174,175,176,177,178,179,180,181,183,184,185,186,187,189,190,192,193,194,196,197,199,200,201,202,204,205,207,208,209,210,212,213,215,216,217,219,220,222,223,224,226,227,229,230,231,232,234,235,237,238,239,241,242,244,245,246,247,249,250,252,253,254,255,256,257,258,259,260,261,263,264,266,267,268,271,272,273,275,276,278,279,280,283,284]
noncomputable def KF (P:Params):Frag:=[(0,boot_o_0 P),(1,boot_o_1 P),(2,boot_o_2 P),(3,a3v8 P),(4,boot_o_4 P),(5,boot_o_5 P),(6,boot_o_6 P),(7,boot_o_7 P),(9,boot_o_9 P),(10,boot_o_10 P),(11,a11 P),(13,a13 P),(14,a14 P),(15,a15 P),(17,a17 P),(18,a18 P),(20,a20 P),(21,a21 P),(22,a22 P),(23,a23 P),(24,a24 P),(25,a25 P),(26,a26 P),(27,a27 P),(28,a28 P),(29,a29 P),(30,a30 P),(31,a31 P),(32,a32 P),(33,a33 P),(35,a35 P),(36,a36 P),(38,a38 P),(39,a39 P),(40,a40 P),(41,a41 P),(42,a42 P),(43,a43 P),(44,a44 P),(45,a45 P),(46,a46 P),(47,a47 P),(48,a48 P),(49,a49 P),(50,a50 P),(51,a51 P),(52,a52 P),(53,a53 P),(54,a54 P),(55,a55 P),(56,a56 P),(57,a57 P),(58,a58 P),(59,a59 P),(60,a60 P),(61,a61 P),(62,a62 P),(63,a63 P),(64,a64 P),(65,a65 P),(66,a66 P),(67,a67 P),(68,a68 P),(69,a69 P),(70,a70 P),(71,a71 P),(72,a72 P),(73,a73 P),(74,a74 P),(75,a75 P),(76,a76 P),(77,a77 P),(78,a78 P),(79,a79 P),(81,a81 P),(82,a82 P),(84,a84 P),(85,a85 P),(86,a86 P),(88,a88 P),(89,a89 P),(91,a91 P),(92,a92 P),(93,a93 P),(95,a95 P),(96,a96 P),(98,a98 P),(99,a99 P),(100,a100 P),(101,a101 P),(102,a102 P),(103,a103 P),(105,a105 P),(106,a106 P),(107,a107 P),(109,a109 P),(110,a110 P),(112,a112 P),(113,a113 P),(114,a114 P),(116,a116 P),(117,a117 P),(119,a119 P),(120,a120 P),(121,a121 P),(123,a123 P),(124,a124 P),(126,a126 P),(127,a127 P),(128,a128 P),(130,a130 P),(131,a131 P),(133,a133 P),(134,a134 P),(135,a135 P),(137,a137 P),(138,a138 P),(140,a140 P),(141,a141 P),(142,a142 P),(144,a144 P),(145,a145 P),(147,a147 P),(148,a148 P),(149,a149 P),(151,a151 P),(152,a152 P),(154,a154 P),(155,a155 P),(156,a156 P),(158,a158 P),(159,a159 P),(161,a161 P),(162,a162 P),(163,a163 P),(165,a165 P),(166,a166 P),(168,a168 P),(169,a169 P),(170,a170 P),(171,a171 P),(172,a172 P),(173,a173 P),(174,a174 P),(175,a175 P),(176,a176 P),(177,a177 P),(178,a178 P),(179,a179 P),(180,a180 P),(181,a181 P),(183,a183 P),(184,a184 P),(185,a185 P),(186,a186 P),(187,a187 P),(189,a189 P),(190,a190 P),(192,a192 P),(193,a193 P),(194,a194 P),(196,a196 P),(197,a197 P),(199,a199 P),(200,a200 P),(201,a201 P),(202,a202 P),(204,a204 P),(205,a205 P),(207,a207 P),(208,a208 P),(209,a209 P),(210,a210 P),(212,a212 P),(213,a213 P),(215,a215 P),(216,a216 P),(217,a217 P),(219,a219 P),(220,a220 P),(222,a222 P),(223,a223 P),(224,a224 P),(226,a226 P),(227,a227 P),(229,a229 P),(230,a230 P),(231,a231 P),(232,a232 P),(234,a234 P),(235,a235 P),(237,a237 P),(238,a238 P),(239,a239 P),(241,a241 P),(242,a242 P),(244,a244 P),(245,a245 P),(246,a246 P),(247,a247 P),(249,a249 P),(250,a250 P),(252,a252 P),(253,a253 P),(254,a254 P),(255,a255 P),(256,a256 P),(257,a257 P),(258,a258 P),(259,a259 P),(260,a260 P),(261,a261 P),(263,a263 P),(264,a264 P),(266,a266 P),(267,a267 P),(268,a268 P),(271,a271 P),(272,a272 P),(273,a273 P),(275,a275 P),(276,a276 P),(278,a278 P),(279,a279 P),(280,a280 P),(283,a283 P),(284,a284 P)]
noncomputable def asW:List Nat:=asF++[8,16,34,80,87,94,108,115,122,129,136,143,150,157,164,188,195,203,211,218,225,233,240,248,262,269,274,281]
noncomputable def KW (P:Params):Frag:=KF P++[(8,boot_o_8 P),(16,a16 P),(34,a34 P),(80,a80 P),(87,a87 P),(94,a94 P),(108,a108 P),(115,a115 P),(122,a122 P),(129,a129 P),(136,a136 P),(143,a143 P),(150,a150 P),(157,a157 P),(164,a164 P),(188,a188 P),(195,a195 P),(203,a203 P),(211,a211 P),(218,a218 P),(225,a225 P),(233,a233 P),(240,a240 P),(248,a248 P),(262,a262 P),(269,a269 P),(274,a274 P),(281,a281 P)]
theorem asW_eq: ∀P:Params,asW=(KW P).map (·.1):=fun P=>by kernel_rfl
theorem lookK: ∀(w:World) (os:OsState),asW.map (⟨hF w.params,#[],⟨0,0,0,0⟩,2490,os⟩:Shared).heap.get? =(KW w.params).map fun p=>some p.2:=by
 intro w os;kernel_rfl
noncomputable def qV:Program:={PW with main:={PW.main with body:=[ST 20]}}
noncomputable def looseV:List Str:=["_wall","b1_set","in_table_b1","b3_exceptions","map_table_b3","in_table_c11","ELLIPSIS_MARKER","_ellipsis_match","NL","EMPTYSTRING","_ValueFormatter","_Accumulator","Int2AP","_law_word","_law_typed"]
theorem openE: ∀w:World,(fencedOpening treeTable PW w 100000).map (fun s=>(s.heap,s.gens,s.drawn,s.toks))=some (boot_heap w.params,Array.mk [],boot_drawn,boot_toks):=
 boot_open (by kernel_rfl) (by decide) (fun s=>by kernel_rfl)
theorem sizeE: ∀w:World,((boot_heap w.params).isNs mainGlobals&&(Array.mk ([]:List GenState)).size==0,(boot_heap w.params).objs.size,(boot_heap w.params).nsMap mainGlobals "__annotations__")=(true,11,(some (.ref 6))):=by
 intro w;kernel_rfl
theorem lookS: ∀(w:World) (os:OsState),(staticsOk (importedModules PW.main.body) (boot_heap w.params) (hF w.params)&&namesBound PW (hF w.params)&&gensDone (⟨hF w.params,#[],⟨0,0,0,0⟩,2490,os⟩:Shared)&&laidKept (boot_heap w.params) (hF w.params))=true:=by
 intro w os;kernel_rfl
theorem lookO: ∀(w:World) (os:OsState),openSeen qV looseV (importedModules PW.main.body) (fun _=>true) true (⟨hF w.params,#[],⟨0,0,0,0⟩,2490,os⟩:Shared)=openGood qV looseV:=by
 intro w os
 rw[show @openSeen=PySem.W.Fast.tw4187177175401517315 from PySem.W.Fast.te4187177175401517315]
 kernel_rfl
theorem leftV:LeftO PW qV looseV (fun _=>true) (fun s=>asW.map s.heap.get?) (fun w=>(KW w.params).map fun p=>some p.2) 100000:=
 LeftO.of_pieces (H₁:=hF) openE sizeE (fun w os=>(topR w os).trans (by show some (⟨absHeap (t8 w.params) 285 ⟨[],[],[],0,[],[],false,Array.mk [],[],0,false,false,false,0,[2000,10,10],false,0,true,[],[],0,false⟩,#[],⟨0,0,0,0⟩,2490,os⟩:Shared)=_;rw[hF_eq])) (by decide) (fun w=>funext fun os=>by rw[lookS,lookO,lookK])
end
end Mine
end
section
set_option maxRecDepth 100000
set_option maxHeartbeats 8000000
open PySem PySem.W PyProof.Rows PySem.Calls
namespace Mine
section
variable {P:Params}{mg mb:Str→Option Value}
noncomputable def adV:Ads:=⟨267,272,279,0,99,39,92,85,29,40⟩
theorem d_ap:IsDef ⟨KF P,mg,mb⟩ "Int2AP" "Int2AP" (ST 16) 267:=⟨_,_,_,_,_,_,_,rfl,rfl,by kernel_rfl⟩
theorem d_word:IsDef ⟨KF P,mg,mb⟩ "_law_word" "_law_word" (ST 18) 272:=⟨_,_,_,_,_,_,_,rfl,rfl,by kernel_rfl⟩
theorem d_typed:IsDef ⟨KF P,mg,mb⟩ "_law_typed" "_law_typed" (ST 19) 279:=⟨_,_,_,_,_,_,_,rfl,rfl,by kernel_rfl⟩
theorem d_ell:IsDef ⟨KF P,mg,mb⟩ "_ellipsis_match" "_ellipsis_match" (ST 9) 99:=⟨_,_,_,_,_,_,_,rfl,rfl,by kernel_rfl⟩
theorem d_b1:IsDef ⟨KF P,mg,mb⟩ "in_table_b1" "in_table_b1" (ST 3) 39:=⟨_,_,_,_,_,_,_,rfl,rfl,by kernel_rfl⟩
theorem d_c11:IsDef ⟨KF P,mg,mb⟩ "in_table_c11" "in_table_c11" (ST 6) 92:=⟨_,_,_,_,_,_,_,rfl,rfl,by kernel_rfl⟩
theorem d_b3:IsDef ⟨KF P,mg,mb⟩ "map_table_b3" "map_table_b3" (ST 5) 85:=⟨_,_,_,_,_,_,_,rfl,rfl,by kernel_rfl⟩
structure MgOk (P:Params) (mg mb:Str→Option Value):Prop where
 g: ∀x v,nsIn (KF P) mainGlobals x=some (some v)→mg x=some v
 n: ∀x,nsIn (KF P) mainGlobals x=some none→mg x=none
 b: ∀x:Str,x≠("__name__":Str)→mb x=bootBuiltins x
theorem names_ok (M:MgOk P mg mb):Names ⟨KF P,mg,mb⟩:=by
 refine⟨⟨M.n _ ?_,(M.b _ ?_).trans ?_⟩,⟨M.n _ ?_,(M.b _ ?_).trans ?_⟩,⟨M.n _ ?_,(M.b _ ?_).trans ?_⟩,⟨M.n _ ?_,(M.b _ ?_).trans ?_⟩,⟨M.n _ ?_,(M.b _ ?_).trans ?_⟩,⟨M.n _ ?_,(M.b _ ?_).trans ?_⟩,⟨M.n _ ?_,(M.b _ ?_).trans ?_⟩,⟨M.n _ ?_,(M.b _ ?_).trans ?_⟩,⟨M.n _ ?_,(M.b _ ?_).trans ?_⟩⟩
 all_goals first | decide | kernel_rfl
noncomputable def setChk (es:List (Int×Value)) (l:List Int):Bool:=(es.all fun e=>match e.2 with | .int k _=>e.1==hashInt k&&l.contains k | _=>false)&&l.all fun k=>es.any fun e=>match e.2 with | .int k' _=>k==k' | _=>false
theorem set_of {o:Obj}{es:Array (Int×Value)}{ep:Nat}{t:SetTable}{l:List Int}(h1:o.ExactSet) (h2:o.data= .set es ep t) (h3:setChk es.toList l=true) (h4:es.size<scanBound) (h5:t.fits es.size=true):isSI l o:=by
 have h3:=Bool.and_eq_true_iff.mp h3
 refine⟨es,ep,t,h1,h2,fun e he=> ?_,fun k hk=> ?_,h4,h5⟩
 ·have:=List.all_eq_true.mp h3.1 e he
  obtain⟨x,v⟩:=e
  cases v with
  | int k u=>
   have:=Bool.and_eq_true_iff.mp this
   exact⟨k,u,by rw[show x=hashInt k from beq_iff_eq.mp this.1],List.contains_iff_mem.mp this.2⟩
  | _=>cases this
 ·obtain⟨e,he,h⟩:=List.any_eq_true.mp (List.all_eq_true.mp h3.2 k hk)
  obtain⟨x,v⟩:=e
  cases v with
  | int k' u=>exact⟨_,he,u,by rw[show k=k' from beq_iff_eq.mp h]⟩
  | _=>cases h
theorem set_ok:isSI b1L (a29 P):=set_of ⟨rfl,rfl,rfl⟩ rfl (by kernel_rfl) (by show 27<4096;decide) (by generalize P.followText "set-order"=q;cases q<;>rfl)
theorem tab_ok:isTI b3L (dicO (dispE 263 b3L 37) 650):=⟨(dispE 263 b3L 37).toArray,_,⟨rfl,rfl,rfl⟩,rfl,dispE_tab 263 b3L 37⟩
theorem text_ok (M:MgOk P mg mb):Text ⟨KF P,mg,mb⟩ adV:=by
 refine⟨d_ap,M.g _ _ ?_,d_word,M.g _ _ ?_,d_typed,M.g _ _ ?_,d_ell,M.g _ _ ?_,d_b1,M.g _ _ ?_,d_b3,M.g _ _ ?_,d_c11,M.g _ _ ?_,M.g _ _ ?_,⟨_,rfl,set_ok⟩,M.g _ _ ?_,⟨_,rfl,tab_ok⟩,rfl,⟨2231,M.g _ _ ?_⟩,⟨2247,M.g _ _ ?_⟩,⟨2249,M.g _ _ ?_⟩⟩
 all_goals kernel_rfl
end
end Mine
end
section
set_option maxRecDepth 100000
set_option maxHeartbeats 8000000
open PySem PySem.W PyProof.Rows PySem.Calls
namespace Mine
section
variable {P:Params}{mg mb:Str→Option Value}
noncomputable def cdA:ClassData:=⟨Zs [95,65,99,99,117,109,117,108,97,116,111,114],[.type "list"],[.ref 256,.type "list",.type "object"],255,Zs [95,65,99,99,117,109,117,108,97,116,111,114],true,[],[],false,none,false⟩
noncomputable def cdF:ClassData:=⟨Zs [95,86,97,108,117,101,70,111,114,109,97,116,116,101,114],[.type "object"],[.ref 172,.type "object"],171,Zs [95,86,97,108,117,101,70,111,114,109,97,116,116,101,114],true,[],[],false,none,false⟩
noncomputable def acV:AcAds:={C:=256,cd:=cdA,cc:=180,init:=193,push:=200,popf:=208,pop:=216,len:=223,str:=230,reset:=238,only:=245,count:=253,cinit:=192,cpop:=215,ccount:=252,clen:=222,cstr:=229,Plen:=218,Pstr:=225,vpush:=.ref 199,vpopf:=.ref 207,vreset:=.ref 237,vonly:=.ref 244,dinit:=185,dpopf:=201,dreset:=231}
noncomputable def fmV:FmAds:={C:=172,cd:=cdF,init:=113,str:=120,newline:=134,chunk:=169,vinit:=.ref 112,vstr:=.ref 119,vnewline:=.ref 133,vchunk:=.ref 168}
theorem cls_A:ClsK (KF P) 256 cdA:=⟨by kernel_rfl,rfl,rfl,by kernel_rfl,fun _=>rfl,.inr ⟨by kernel_rfl,by kernel_rfl⟩,by kernel_rfl,by kernel_rfl,by kernel_rfl⟩
theorem cls_F:ClsK (KF P) 172 cdF:=⟨by kernel_rfl,rfl,rfl,by kernel_rfl,fun _=>rfl,.inl (by kernel_rfl),by kernel_rfl,by kernel_rfl,by kernel_rfl⟩
theorem lst_A:LstK (KF P) 256 cdA:=⟨cls_A,by kernel_rfl,by kernel_rfl,by kernel_rfl,by kernel_rfl,by kernel_rfl,by kernel_rfl,by kernel_rfl,by kernel_rfl,by kernel_rfl⟩
theorem act_ok:AcT ⟨KF P,mg,mb⟩ acV where
 lk:=lst_A
 no:=by kernel_rfl
 push:=⟨by kernel_rfl,by kernel_rfl,⟨_,_,_,_,_,_,rfl,rfl,rfl,by kernel_rfl⟩⟩
 count:=⟨by kernel_rfl,by kernel_rfl,⟨_,_,_,_,_,_,rfl,rfl,rfl,by kernel_rfl⟩⟩
 pop:=⟨by kernel_rfl,by kernel_rfl,⟨_,_,_,_,_,_,rfl,rfl,rfl,by kernel_rfl⟩⟩
 init:=⟨by kernel_rfl,by kernel_rfl,⟨_,_,_,_,_,_,rfl,rfl,rfl,by kernel_rfl⟩⟩
 popf:=⟨by kernel_rfl,by kernel_rfl,⟨_,_,_,_,_,_,rfl,rfl,rfl,by kernel_rfl⟩⟩
 len:=⟨by kernel_rfl,by kernel_rfl,⟨_,_,_,_,_,_,rfl,rfl,rfl,by kernel_rfl⟩⟩
 str:=⟨by kernel_rfl,by kernel_rfl,⟨_,_,_,_,_,_,rfl,rfl,rfl,by kernel_rfl⟩⟩
 reset:=⟨by kernel_rfl,by kernel_rfl,⟨_,_,_,_,_,_,rfl,rfl,rfl,by kernel_rfl⟩⟩
 vinit:=⟨_,_,_,rfl,rfl⟩
 vpop:=⟨_,_,_,rfl,rfl⟩
 vres:=⟨_,_,rfl,rfl⟩
 only:=⟨by kernel_rfl,by kernel_rfl,⟨_,_,_,_,_,_,rfl,rfl,rfl,by kernel_rfl⟩⟩
theorem fmt_ok (M:MgOk P mg mb):FmT ⟨KF P,mg,mb⟩ fmV acV where
 cls:=cls_F
 no:=fun y hy=>by
  simp only[List.mem_cons,List.not_mem_nil,or_false] at hy
  rcases hy with rfl | rfl | rfl | rfl | rfl | rfl<;>kernel_rfl
 init:=⟨by kernel_rfl,by kernel_rfl,⟨_,_,_,_,_,_,rfl,rfl,rfl,by kernel_rfl⟩⟩
 str:=⟨by kernel_rfl,by kernel_rfl,⟨_,_,_,_,_,_,rfl,rfl,rfl,by kernel_rfl⟩⟩
 newline:=⟨by kernel_rfl,by kernel_rfl,⟨_,_,_,_,_,_,rfl,rfl,rfl,by kernel_rfl⟩⟩
 chunk:=⟨by kernel_rfl,by kernel_rfl,⟨_,_,_,_,_,_,rfl,rfl,rfl,by kernel_rfl⟩⟩
 acc:=M.g _ _ (by kernel_rfl)
 sl:=by kernel_rfl
 del:=rfl
 call:=by kernel_rfl
 inst:=by kernel_rfl
theorem sup_ok (M:MgOk P mg mb):SupK PW ⟨KF P,mg,mb⟩ acV where
 cell:=⟨_,rfl,rfl⟩
 code:=fun c hc=>by
  simp only[List.mem_cons,List.not_mem_nil,or_false] at hc
  rcases hc with rfl | rfl | rfl
  ·exact⟨_,_,_,_,rfl,rfl,rfl,by kernel_rfl⟩
  ·exact⟨_,_,_,_,rfl,rfl,rfl,by kernel_rfl⟩
  ·exact⟨_,_,_,_,rfl,rfl,rfl,by kernel_rfl⟩
 top:=by kernel_rfl
 glob:=⟨M.n _ (by kernel_rfl),(M.b _ (by decide)).trans (by kernel_rfl)⟩
 third:=by kernel_rfl
 len:=by kernel_rfl
 pop:=by kernel_rfl
 init:=by kernel_rfl
 typ:=by kernel_rfl
 qual:=by kernel_rfl
 nomod:=by kernel_rfl
theorem gen_ok (M:MgOk P mg mb):GenK ⟨KF P,mg,mb⟩ acV 4 (boot_o_4 P) where
 len:=⟨by decide,_,_,_,_,_,_,_,_,_,rfl,rfl,rfl,rfl,rfl,rfl,rfl⟩
 str:=⟨by decide,_,_,_,_,_,_,_,_,_,rfl,rfl,rfl,rfl,rfl,rfl,rfl⟩
 bi:=M.g _ _ (by kernel_rfl)
 bn:=by decide
 bl:=rfl
 bc:=rfl
 bd:=rfl
 bp:=rfl
 sum:=⟨M.n _ (by kernel_rfl),(M.b _ (by decide)).trans (by kernel_rfl)⟩
 empty:=⟨2249,M.g _ _ (by kernel_rfl)⟩
theorem fk_ok (M:MgOk P mg mb):FK PW ⟨KF P,mg,mb⟩ fmV acV where
 E:=fmt_ok M
 D:=act_ok
 S:=sup_ok M
 G:=names_ok M
 Gs:=⟨M.n _ (by kernel_rfl),(M.b _ (by decide)).trans (by kernel_rfl)⟩
 hs:=by kernel_rfl
 H:=⟨4,_,gen_ok M⟩
 star:=⟨by kernel_rfl,by kernel_rfl,by kernel_rfl,by kernel_rfl,by kernel_rfl⟩
theorem lawk_ok (M:MgOk P mg mb):LawK ⟨KF P,mg,mb⟩ fmV where
 fm:=M.g _ _ (by kernel_rfl)
 mks:=by kernel_rfl
 call:=by kernel_rfl
end
end Mine
end
section
set_option maxRecDepth 100000
set_option maxHeartbeats 8000000
open PySem PySem.W PyProof.Rows PySem.Calls
namespace Mine
theorem vrs_ints: ∀{vs:List Value}{xs:List Int},IntsAre vs xs→VRs (pvI xs) vs:=by
 intro vs xs h
 induction h with
 | nil=>exact .nil
 | cons h t _ ih=>exact .cons (.int _ _) ih
theorem kw_lookup {K:Frag}{l:Frag}{a:Addr}{o:Obj}(h:K.lookup a=some o):(K++l).lookup a=some o:=by
 rw[List.lookup_append,h];rfl
theorem the_call (w:World) (s₀ s₁:Shared) (mg mb:Str→Option Value) (G:Ground qV looseV Challenge.rw_wr0055_01.row.records (fun x x_1=>True) w s₀ mg mb s₁.heap)
  (Y:(KW w.params).In s₁.heap) (fa:Addr) (o:Obj) (pm cd doc dV kV:Value) (ho:s₁.heap.get? fa=some o)
  (hd:o.data= .func {docDef "law" (parsOf (ST 20)) (bodyOf (ST 20)) (scopeOf (ST 20)) pm cd doc with defaults:=dV,kwdefaults:=kV})
  (hcd:s₁.heap.CodeRec cd "law") (hD:Dflts mg s₁.heap (parsOf (ST 20)) [] dV kV) (hmg:mg "law"=some (.ref fa)) (hg:s₁.gens= #[])
  (args:List WData) (vals:List Value) (as:List Addr) (hpre:Challenge.rw_wr0055_01.row.claim.pre args=true) (hlay:WData.layableAll args=true)
  (hrd:ReadsAllW Challenge.rw_wr0055_01.row.records (classAt s₀.heap) s₁.heap vals args as) (hwl:WellAll w.params s₁.heap vals args) (hlo: ∀a∈as,(a==sysModules)=false):
  wpAny (model Challenge.rw_wr0055_01.row.prog w) callerA (PySem.call (.ref fa) vals)
  (fun v s'=>GoodWG Challenge.rw_wr0055_01.row.claim (classAt s₀.heap) (ExcName.means s₀.heap) args s₁ (Except.ok (Flow.ret v)) s')
  (fun e s'=>GoodWG Challenge.rw_wr0055_01.row.claim (classAt s₀.heap) (ExcName.means s₀.heap) args s₁ (Except.error e) s') s₁:=by
 wrow_args hpre hlay hrd hwl hlo
 rename_i ns _ _ _ _ _ _ _ sa vs _ hL _ w1 _ hI _ hlen _
 have hE: ∃n,s₁.heap.get? sa=some {cls:=.type "list",data:=.seq vs.toArray n}:=by
  obtain⟨o',e,_,n,e2⟩:=hL
  have w1':Well w.params s₁.heap (.ref sa) (.list (ofPys (ns.map PyData.int))):=w1
  cases w1' with
  | list e3 _=>
   rw[e] at e3;cases e3
   cases e2
   exact⟨_,e⟩
 have T:=G.T
 have K0:(KF w.params).In s₁.heap:=fun a o h=>Y a o (kw_lookup h)
 have M:MgOk w.params mg mb:=⟨fun x v e=>mg_of K0 T.g e,fun x e=>mg_none_of K0 T.g e,T.builtins⟩
 obtain rfl:dV= .none:=by rcases hD.pos with ⟨_,h⟩ | ⟨h,_⟩;exact h;exact absurd rfl h
 obtain rfl:kV= .none:=by rcases hD.kw with ⟨_,h⟩ | ⟨h,_⟩;exact h;exact absurd rfl h
 have h1:s₁.heap.get? acV.Plen=some {cls:=.none,data:=.fields #[]}:=Y _ _ (by rfl)
 have h2:s₁.heap.get? acV.Pstr=some {cls:=.none,data:=.fields #[]}:=Y _ _ (by rfl)
 have c1:isCodeTable s₁.heap acV.Plen:=⟨acV.clen,_,_,K0 _ _ (by rfl),rfl,rfl,by rfl⟩
 have c2:isCodeTable s₁.heap acV.Pstr:=⟨acV.cstr,_,_,K0 _ _ (by rfl),rfl,rfl,by rfl⟩
 have hsa:sa∉[acV.Plen,acV.Pstr]:=by
  intro hm
  obtain⟨n,e⟩:=hE
  rcases List.mem_cons.mp hm with rfl | hm
  ·rw[h1] at e;cases e
  ·rw[List.mem_singleton.mp hm,h2] at e;cases e
 refine enter_call (codeAny_mono (enter (prog:=PySem.Challenge.pw_wr0055_01) (w:=w) (T:=⟨KF w.params,mg,mb⟩) (a:=adV) (f:=fmV) (aa:=acV) (ns:=ns) (fk_ok M) (lawk_ok M) (text_ok M) (names_ok M) K0 (by
  intro p hp
  rcases List.mem_cons.mp hp with rfl | hp
  ·rfl
  ·rw[List.mem_singleton.mp hp];rfl) (by decide) T.g T.b T.nolimit (by decide) h1 h2 ho hd hcd (by
  obtain⟨n,e⟩:=hE
  exact⟨_,e,vs,n,vrs_ints hI,rfl⟩) hsa (by omega) (by rw[hg];exact .empty)) ?_)
 rintro res s' ⟨rfl,hk,hp,hos,hge⟩
 refine⟨.inl ⟨.bool true,.bool true,[],rfl,fun cls=>rfl,.bool _,postW_of (by wrow_shape) (by wtm_val) (by str_meet;first | done | w_fin),fun _=>⟨.nil,nofun⟩⟩,⟨fun b o' e=> ?_,fun b o' e=> ?_⟩,hos,hge⟩
 ·by_cases hb:b∈[acV.Plen,acV.Pstr]
  ·obtain⟨op,e',ps,rfl,_⟩:=hp b hb
   rcases List.mem_cons.mp hb with rfl | hb
   ·rw[h1] at e;cases e
    exact .inr (.inl ⟨c1,rfl,#[],ps,rfl,by rw[e'];simp⟩)
   ·obtain rfl:=List.mem_singleton.mp hb
    rw[h2] at e;cases e
    exact .inr (.inl ⟨c2,rfl,#[],ps,rfl,by rw[e'];simp⟩)
  ·exact .inl (hk b o' hb e)
 ·by_cases hb:b∈[acV.Plen,acV.Pstr]
  ·obtain⟨op,e',_⟩:=hp b hb
   exact⟨op,e'⟩
  ·exact⟨_,hk b o' hb e⟩
end Mine
end
set_option maxRecDepth 100000
set_option maxHeartbeats 8000000
open PySem PySem.W PyProof.Rows PySem.Calls
namespace Mine
theorem said_ok:OpenLaw.wellSaid PySem.Challenge.rw_wr0055_01=true:=by
 rw[show @OpenLaw.wellSaid=PySem.W.Fast.tw9446332074065402090 from PySem.W.Fast.te9446332074065402090]
 kernel_rfl
end Mine
theorem PySem.Challenge.cw_wr0055_01_holds : PySem.Challenge.rw_wr0055_01.Holds := by
 w_on
 refine holds_law Mine.said_ok fun said=> ?_
 refine holds_open (d:=(⟨"law",Mine.parsOf (Mine.ST 20),Mine.bodyOf (Mine.ST 20),Mine.scopeOf (Mine.ST 20),_⟩:PySem.DefRec)) (q:=Mine.qV) (loose:=Mine.looseV) (Xt:=fun _=>true) (XP:=fun _ _=>True) (YP:=fun w h=>(Mine.KW w.params).In h) Mine.leftV ?hY ?hYk (fun _ _=>trivial) (fun _ _ _ _ _=>trivial) (by rfl) (by rfl) (by rfl) ?hRf (by rfl) (by first | assumption | decide+kernel) (by decide+kernel) ⟨rfl,rfl,rfl,rfl,rfl,by decide+kernel⟩ ?hw ?hc
 case hw=>w_witness2
 case hY=>exact fun w s e=>InK.of Mine.asW_eq w s e
 case hYk=>exact fun w h h' x k=>InK.keeps w h h' x k
 case hRf=>exact fun s _=>recFacts_of (by rfl)
 case hc=>
  intro w s₀ s₁ mg mb G Y fa o pm cd doc dV kV ho hd hcd hD hmg hg args vals as hpre hlay hrd hwl hlo
  exact Mine.the_call w s₀ s₁ mg mb G Y fa o pm cd doc dV kV ho hd hcd hD hmg hg args vals as hpre hlay hrd hwl hlo
