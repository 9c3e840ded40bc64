import PyProof.Rows.All
import Wide.FinOn
import OpenK.AllK
import Wide.All
import Lean
import PySem.Challenge.RW_an0018_01
set_option linter.all false
set_option linter.constructorNameAsVariable false
set_option maxRecDepth 100000
set_option exponentiation.threshold 20000
set_option Elab.async false
set_option bootstrap.genMatcherCode false
set_option genSizeOf false
set_option genSizeOfSpec false
set_option genInjectivity false
set_option tactic.hygienic false
set_option backward.match.sparseCases false
noncomputable section
namespace LA
inductive T|v (i:Nat)|k (n:Nat)|a (x y:T)|m (n:Nat) (x:T)
inductive Z|c (x:T)|w (i:Nat)|k (n:Nat)|a (x y:Z)|s (x y:Z)|g (x:Z)|m (n:Nat) (x:Z)
inductive F|l (x y:T)|e (x y:T)|zl (x y:Z)|ze (x y:Z)|ff|i (p q:F)|n (p q:F)|o (p q:F)|b (p q:F)
noncomputable def gY{α:Type}(d:α):List α→Nat→α
 |[],_=>d
 |x::_,0=>x
 |_::xs,i+1=>gY d xs i
noncomputable def T.d (v:List Nat):T→Nat
 | .v i=>gY 0 v i
 | .k n=>n
 | .a x y=>x.d v+y.d v
 | .m n x=>n*x.d v
noncomputable def Z.d (v:List Nat) (w:List Int):Z→Int
 | .c x=>(x.d v:Int)
 | .w i=>gY 0 w i
 | .k n=>(n:Int)
 | .a x y=>x.d v w+y.d v w
 | .s x y=>x.d v w-y.d v w
 | .g x=> -x.d v w
 | .m n x=>(n:Int)*x.d v w
noncomputable def F.d (v:List Nat) (w:List Int):F→Prop
 | .l x y=>x.d v≤y.d v
 | .e x y=>x.d v=y.d v
 | .zl x y=>x.d v w≤y.d v w
 | .ze x y=>x.d v w=y.d v w
 | .ff=>False
 | .i p q=>p.d v w→q.d v w
 | .n p q=>p.d v w∧q.d v w
 | .o p q=>p.d v w∨q.d v w
 | .b p q=>p.d v w↔q.d v w
structure L where
 c:Int
 a:List Int
noncomputable def cA:List Int→List Int→Int
 |a::as,x::xs=>a*x+cA as xs
 |_,_=>0
noncomputable def L.ev (r:List Int) (l:L):Int:=l.c+cA l.a r
noncomputable def jt(p q:Int):List Int→List Int→List Int
 |[],bs=>bs.map (q*·)
 |a::as,bs=>match bs with
  |[]=>p*a::jt p q as []
  |b::bs=>(p*a+q*b)::jt p q as bs
theorem nU{as:List Int}:cA as []=0:=by cases as<;>rfl
theorem yl{q:Int}: ∀(bs r:List Int),cA (bs.map (q*·)) r=q*cA bs r
 |_,[]=>by rw[nU,nU,Int.mul_zero]
 |[],_::_=>(Int.mul_zero q).symm
 |b::bs,x::r=>by
  show q*b*x+cA (bs.map (q*·)) r=q*(b*x+cA bs r)
  rw[yl,Int.mul_add,Int.mul_assoc]
theorem rT{p q:Int}: ∀(as bs r:List Int),cA (jt p q as bs) r=p*cA as r+q*cA bs r
 |_,_,[]=>by rw[nU,nU,nU,Int.mul_zero,Int.mul_zero];rfl
 |[],bs,x::r=>(yl bs (x::r)).trans (by rw[show cA [] (x::r)=0 from rfl,Int.mul_zero,Int.zero_add])
 |a::as,[],x::r=>by
  show p*a*x+cA (jt p q as []) r=p*(a*x+cA as r)+q*0
  rw[rT,Int.mul_add,Int.mul_assoc,show cA [] r=0 by cases r<;>rfl,Int.mul_zero,Int.add_zero,Int.add_zero]
 |a::as,b::bs,x::r=>by
  show(p*a+q*b)*x+cA (jt p q as bs) r=p*(a*x+cA as r)+q*(b*x+cA bs r)
  rw[rT,Int.mul_add,Int.add_mul,Int.mul_add,Int.mul_assoc,Int.mul_assoc];omega
noncomputable def L.cb (p q:Int) (x y:L):L:=⟨p*x.c+q*y.c,jt p q x.a y.a⟩
theorem ko{p q:Int}{x y:L}{r:List Int}:(x.cb p q y).ev r=p*x.ev r+q*y.ev r:=by
 show p*x.c+q*y.c+cA (jt p q x.a y.a) r=p*(x.c+cA x.a r)+q*(y.c+cA y.a r)
 rw[rT,Int.mul_add,Int.mul_add]
 omega
noncomputable def ju:Nat→List Int
 |0=>[1]
 |n+1=>0::ju n
theorem rU: ∀{i:Nat}{r:List Int},cA (ju i) r=gY 0 r i
 |0,[]=>rfl
 |0,x::r=>by cases r<;>simp[ju,cA,gY]
 |i+1,[]=>rfl
 |i+1,x::r=>by simp only[ju,cA,gY,rU];omega
noncomputable def T.f:T→L
 | .v i=>⟨0,ju i⟩
 | .k n=>⟨n,[]⟩
 | .a x y=>x.f.cb 1 1 y.f
 | .m n x=>x.f.cb n 0 ⟨0,[]⟩
noncomputable def Z.f (n:Nat):Z→L
 | .c x=>x.f
 | .w i=>⟨0,ju (n+i)⟩
 | .k n=>⟨n,[]⟩
 | .a x y=>(x.f n).cb 1 1 (y.f n)
 | .s x y=>(x.f n).cb 1 (-1) (y.f n)
 | .g x=>(x.f n).cb (-1) 0 ⟨0,[]⟩
 | .m j x=>(x.f n).cb j 0 ⟨0,[]⟩
noncomputable def gZ(v:List Nat)(w:List Int):List Int:=v.map Int.ofNat++w
theorem uI{w:List Int}: ∀{v:List Nat}{i:Nat},i<v.length→gY 0 (gZ v w) i=((gY 0 v i:Nat):Int)
 |[],_,h=>by cases h
 |x::v,0,_=>rfl
 |x::v,i+1,h=>uI (v:=v) (by simpa using h)
theorem ym{w:List Int}{i:Nat}: ∀{v:List Nat},gY 0 (gZ v w) (v.length+i)=gY 0 w i
 |[]=>by simp[gZ,Nat.zero_add]
 |x::v=>by rw[List.length_cons,Nat.add_right_comm];exact ym (w:=w) (v:=v)
noncomputable def T.ok (n:Nat):T→Bool
 | .v i=>Nat.blt i n
 | .k _=>true
 | .a x y=>x.ok n&&y.ok n
 | .m _ x=>x.ok n
noncomputable def Z.ok (n:Nat):Z→Bool
 | .c x=>x.ok n
 | .a x y=>x.ok n&&y.ok n
 | .s x y=>x.ok n&&y.ok n
 | .g x=>x.ok n
 | .m _ x=>x.ok n
 |_=>true
theorem c6{a b:Bool}(h:(a&&b)=true):a=true:=(Bool.and_eq_true_iff.mp h).1
theorem dQ{a b:Bool}(h:(a&&b)=true):b=true:=(Bool.and_eq_true_iff.mp h).2
theorem pN{c:Int}{r:List Int}:L.ev r ⟨c,[]⟩=c:=by simp[L.ev,cA]
theorem T.dS {v:List Nat} {w:List Int}: ∀{t:T},t.ok v.length=true→t.f.ev (gZ v w)=(t.d v:Int)
 | .v i,h=>by
  show 0+cA (ju i) (gZ v w)=_
  rw[rU,uI (Nat.le_of_ble_eq_true h),Int.zero_add];rfl
 | .k n,_=>pN
 | .a x y,h=>by
  show(x.f.cb 1 1 y.f).ev _=((x.d v+y.d v:Nat):Int)
  rw[ko,dS (c6 h),dS (dQ h)];omega
 | .m n x,h=>by
  show(x.f.cb n 0 ⟨0,[]⟩).ev _=((n*x.d v:Nat):Int)
  rw[ko,dS (t:=x) h,pN,Int.natCast_mul];omega
theorem Z.dS {v:List Nat} {w:List Int}: ∀{t:Z},t.ok v.length=true→(t.f v.length).ev (gZ v w)=t.d v w
 | .c x,h=>T.dS (t:=x) h
 | .w i,h=>by
  show 0+cA (ju (v.length+i)) (gZ v w)=_
  rw[rU,ym,Int.zero_add];rfl
 | .k n,_=>pN
 | .a x y,h=>by
  show((x.f v.length).cb 1 1 (y.f v.length)).ev _=x.d v w+y.d v w
  rw[ko,dS (c6 h),dS (dQ h)];omega
 | .s x y,h=>by
  show((x.f v.length).cb 1 (-1) (y.f v.length)).ev _=x.d v w-y.d v w
  rw[ko,dS (c6 h),dS (dQ h)];omega
 | .g x,h=>by
  show((x.f v.length).cb (-1) 0 ⟨0,[]⟩).ev _= -x.d v w
  rw[ko,dS (t:=x) h,pN];omega
 | .m n x,h=>by
  show((x.f v.length).cb n 0 ⟨0,[]⟩).ev _=(n:Int)*x.d v w
  rw[ko,dS (t:=x) h,pN];omega
noncomputable def L.h (l:L):Int:=match l.a with|[]=>0|x::_=>x
noncomputable def L.t (l:L):L:=⟨l.c,match l.a with|[]=>[]|_::r=>r⟩
theorem yn{x:Int}{r:List Int}{l:L}:l.ev (x::r)=l.h*x+l.t.ev r:=by
 obtain⟨c,a⟩:=l
 cases a with
 |nil=>simp[L.ev,L.h,L.t,cA]
 |cons y a=>simp only[L.ev,L.h,L.t,cA];omega
noncomputable def L.g1 (g:Nat) (l:L):L:=match Nat.blt 1 g&&(jt g 0 (l.a.map (·/(g:Int))) []==l.a)with
 |true=>⟨l.c/g,l.a.map (·/(g:Int))⟩
 |false=>l
noncomputable def L.g (l:L):L:=l.g1 (l.a.foldl (fun g x=>Nat.gcd g x.natAbs) 0)
theorem EB{r:List Int}{l:L}(h:0≤l.ev r):0≤l.g.ev r:=by
 show 0≤(l.g1 _).ev r
 generalize l.a.foldl (fun g x=>Nat.gcd g x.natAbs) 0=g
 unfold L.g1
 cases q:(Nat.blt 1 g&&(jt g 0 (l.a.map (·/(g:Int))) []==l.a))with
 |false=>exact h
 |true=>
  have q1:1<g:=Nat.le_of_ble_eq_true (c6 q)
  have q2:=beq_iff_eq.mp (dQ q)
  unfold L.ev at*
  rw[←q2,rT,Int.zero_mul,Int.add_zero]at h
  generalize cA (l.a.map (·/(g:Int))) r=D at*
  have k: -D≤l.c/g:=(Int.le_ediv_iff_mul_le (by omega)).mpr (by rw[Int.neg_mul,Int.mul_comm];omega)
  show 0≤l.c/g+D
  omega
noncomputable def L.EC (l:L):Bool:=l.a.all (·==0)&&decide (0≤l.c)
noncomputable def elim(cs:List L):List L:=
 let n:=cs.filter (fun l=>decide (l.h<0))
 (((cs.filter (fun l=>l.h==0)).map L.t)++(cs.filter (fun l=>decide (0<l.h))).flatMap fun p=>n.map fun q=>(p.t.cb (-q.h) p.h q.t).g).filter (fun l=> !l.EC)
noncomputable def jv(r:List Int)(cs:List L):Prop:= ∀l∈cs,0≤l.ev r
theorem ED{x:Int}{r:List Int}{cs:List L}(h:jv (x::r) cs):jv r (elim cs):=by
 intro l hl
 have hl:=(List.mem_filter.mp hl).1
 rcases List.mem_append.mp hl with hl|hl
 ·obtain⟨p,hp,rfl⟩:=List.mem_map.mp hl
  obtain⟨h1,h2⟩:=List.mem_filter.mp hp
  have:=h p h1
  rw[yn,beq_iff_eq.mp h2]at this
  omega
 ·obtain⟨p,hp,hl⟩:=List.mem_flatMap.mp hl
  obtain⟨q,hq,rfl⟩:=List.mem_map.mp hl
  obtain⟨p1,p2⟩:=List.mem_filter.mp hp
  obtain⟨q1,q2⟩:=List.mem_filter.mp hq
  have p2:=of_decide_eq_true p2
  have q2:=of_decide_eq_true q2
  refine EB ?_
  rw[ko]
  have hp:=h p p1
  have hq:=h q q1
  rw[yn]at hp hq
  have a1:=Int.mul_nonneg (a:= -q.h) (by omega) hp
  have a2:=Int.mul_nonneg (Int.le_of_lt p2) hq
  rw[Int.mul_add]at a1 a2
  have e: -q.h*(p.h*x)+p.h*(q.h*x)=0:=by rw[Int.neg_mul,Int.mul_left_comm];omega
  omega
noncomputable def fm:Nat→List L→Bool
 |0,cs=>cs.any fun l=>decide (l.c<0)
 |n+1,cs=>fm n (elim cs)
theorem yo: ∀{r:List Int}{cs:List L},fm r.length cs=true→jv r cs→False
 |[],cs,h,a=>by
  obtain⟨l,h1,h2⟩:=List.any_eq_true.mp h
  have:=a l h1
  have h2:=of_decide_eq_true h2
  unfold L.ev at this
  rw[nU]at this
  omega
 |x::r,cs,h,a=>yo (r:=r) h (ED a)
noncomputable def L.sub (x y:L) (c:Int):L:=⟨(x.cb (-1) 1 y).c+c,(x.cb (-1) 1 y).a⟩
theorem gE{x y:L}{c:Int}{r:List Int}:(x.sub y c).ev r=y.ev r-x.ev r+c:=by
 have:=ko (p:= -1) (q:=1) (x:=x) (y:=y) (r:=r)
 unfold L.ev at this
 show(x.cb (-1) 1 y).c+c+cA (x.cb (-1) 1 y).a r=_
 unfold L.ev
 omega
noncomputable def F.r (n:Nat):F→Bool→(List L→Bool)→List L→Bool
 | .l x y,true,k,cs=>x.ok n&&y.ok n&&k (x.f.sub y.f 0::cs)
 | .l x y,false,k,cs=>x.ok n&&y.ok n&&k (y.f.sub x.f (-1)::cs)
 | .e x y,true,k,cs=>x.ok n&&y.ok n&&k (x.f.sub y.f 0::y.f.sub x.f 0::cs)
 | .e x y,false,k,cs=>x.ok n&&y.ok n&&(k (x.f.sub y.f (-1)::cs)&&k (y.f.sub x.f (-1)::cs))
 | .zl x y,true,k,cs=>x.ok n&&y.ok n&&k ((x.f n).sub (y.f n) 0::cs)
 | .zl x y,false,k,cs=>x.ok n&&y.ok n&&k ((y.f n).sub (x.f n) (-1)::cs)
 | .ze x y,true,k,cs=>x.ok n&&y.ok n&&k ((x.f n).sub (y.f n) 0::(y.f n).sub (x.f n) 0::cs)
 | .ze x y,false,k,cs=>x.ok n&&y.ok n&&(k ((x.f n).sub (y.f n) (-1)::cs)&&k ((y.f n).sub (x.f n) (-1)::cs))
 | .ff,true,_,_=>true
 | .ff,false,k,cs=>k cs
 | .i p q,true,k,cs=>p.r n false k cs&&q.r n true k cs
 | .i p q,false,k,cs=>p.r n true (q.r n false k) cs
 | .n p q,true,k,cs=>p.r n true (q.r n true k) cs
 | .n p q,false,k,cs=>p.r n false k cs&&q.r n false k cs
 | .o p q,true,k,cs=>p.r n true k cs&&q.r n true k cs
 | .o p q,false,k,cs=>p.r n false (q.r n false k) cs
 | .b p q,true,k,cs=>p.r n true (q.r n true k) cs&&p.r n false (q.r n false k) cs
 | .b p q,false,k,cs=>p.r n true (q.r n false k) cs&&p.r n false (q.r n true k) cs
noncomputable def S(p:Prop):Bool→Prop
 |true=>p
 |false=> ¬p
theorem jv.cons {r:List Int} {l:L} {cs:List L} (h:0≤l.ev r) (a:jv r cs):jv r (l::cs):=fun x hx=>by
 rcases List.mem_cons.mp hx with rfl|hx
 ·exact h
 ·exact a x hx
theorem F.EE {v:List Nat} {w:List Int} (f:F): ∀{b:Bool}{k:List L→Bool}{cs:List L},(∀cs,k cs=true→jv (gZ v w) cs→False)→f.r v.length b k cs=true→jv (gZ v w) cs→S (f.d v w) b→False:=by
 induction f with
 |l x y=>
  intro b k cs K h a s
  cases b
  all_goals
   have e1:=T.dS (w:=w) (c6 (c6 h))
   have e2:=T.dS (w:=w) (dQ (c6 h))
   have h:=dQ h
  ·exact K _ h (.cons (by rw[gE,e1,e2];have s: ¬(x.d v≤y.d v):=s;omega) a)
  ·exact K _ h (.cons (by rw[gE,e1,e2];have s:x.d v≤y.d v:=s;omega) a)
 |e x y=>
  intro b k cs K h a s
  cases b
  all_goals
   have e1:=T.dS (w:=w) (c6 (c6 h))
   have e2:=T.dS (w:=w) (dQ (c6 h))
   have h:=dQ h
  ·have s: ¬(x.d v=y.d v):=s
   rcases Nat.lt_or_gt_of_ne s with s|s
   ·exact K _ (c6 h) (.cons (by rw[gE,e1,e2];omega) a)
   ·exact K _ (dQ h) (.cons (by rw[gE,e1,e2];omega) a)
  ·have s:x.d v=y.d v:=s
   exact K _ h (.cons (by rw[gE,e1,e2];omega) (.cons (by rw[gE,e1,e2];omega) a))
 |zl x y=>
  intro b k cs K h a s
  cases b
  all_goals
   have e1:=Z.dS (w:=w) (c6 (c6 h))
   have e2:=Z.dS (w:=w) (dQ (c6 h))
   have h:=dQ h
  ·exact K _ h (.cons (by rw[gE,e1,e2];have s: ¬(x.d v w≤y.d v w):=s;omega) a)
  ·exact K _ h (.cons (by rw[gE,e1,e2];have s:x.d v w≤y.d v w:=s;omega) a)
 |ze x y=>
  intro b k cs K h a s
  cases b
  all_goals
   have e1:=Z.dS (w:=w) (c6 (c6 h))
   have e2:=Z.dS (w:=w) (dQ (c6 h))
   have h:=dQ h
  ·have s: ¬(x.d v w=y.d v w):=s
   rcases Int.lt_or_gt_of_ne s with s|s
   ·exact K _ (c6 h) (.cons (by rw[gE,e1,e2];omega) a)
   ·exact K _ (dQ h) (.cons (by rw[gE,e1,e2];omega) a)
  ·have s:x.d v w=y.d v w:=s
   exact K _ h (.cons (by rw[gE,e1,e2];omega) (.cons (by rw[gE,e1,e2];omega) a))
 |ff=>
  intro b k cs K h a s
  cases b
  ·exact K _ h a
  ·exact s
 |i p q ip iq=>
  intro b k cs K h a s
  cases b
  ·refine Classical.byContradiction fun _=>s fun hp=> ?_
   exact(ip (b:=true) (fun cs h a=>iq (b:=false) K h a fun hq=>s fun _=>hq) h a hp).elim
  ·by_cases hp:p.d v w
   ·exact iq (b:=true) K (dQ h) a (s hp)
   ·exact ip (b:=false) K (c6 h) a hp
 |n p q ip iq=>
  intro b k cs K h a s
  cases b
  ·by_cases hp:p.d v w
   ·exact iq (b:=false) K (dQ h) a fun hq=>s ⟨hp,hq⟩
   ·exact ip (b:=false) K (c6 h) a hp
  ·exact ip (b:=true) (fun cs h a=>iq (b:=true) K h a s.2) h a s.1
 |o p q ip iq=>
  intro b k cs K h a s
  cases b
  ·exact ip (b:=false) (fun cs h a=>iq (b:=false) K h a fun hq=>s (.inr hq)) h a fun hp=>s (.inl hp)
  ·rcases s with s|s
   ·exact ip (b:=true) K (c6 h) a s
   ·exact iq (b:=true) K (dQ h) a s
 |b p q ip iq=>
  intro b k cs K h a s
  by_cases hp:p.d v w<;>by_cases hq:q.d v w
  all_goals cases b
  ·exact s ⟨fun _=>hq,fun _=>hp⟩
  ·exact ip (b:=true) (fun cs h a=>iq (b:=true) K h a hq) (c6 h) a hp
  ·exact ip (b:=true) (fun cs h a=>iq (b:=false) K h a hq) (c6 h) a hp
  ·exact hq (s.mp hp)
  ·exact ip (b:=false) (fun cs h a=>iq (b:=true) K h a hq) (dQ h) a hp
  ·exact hp (s.mpr hq)
  ·exact s ⟨fun h=>(hp h).elim,fun h=>(hq h).elim⟩
  ·exact ip (b:=false) (fun cs h a=>iq (b:=false) K h a hq) (dQ h) a hp
noncomputable def uJ(i:Nat):Nat→List L
 |0=>[]
 |n+1=>⟨0,ju i⟩::uJ (i+1) n
theorem yp{r:List Int}: ∀{n i:Nat},(∀j,i≤j→j<i+n→0≤gY 0 r j)→jv r (uJ i n)
 |0,_,_=>fun l h=>by cases h
 |n+1,i,h=> .cons (by unfold L.ev;rw[rU,Int.zero_add];exact h i (Nat.le_refl _) (by omega)) (yp fun j h1 h2=>h j (by omega) (by omega))
noncomputable def bP(n m:Nat)(f:F):Bool:=f.r n false (fm (n+m)) (uJ 0 n)
theorem bW(v:List Nat)(w:List Int)(f:F)(h:bP v.length w.length f=true:=by kernel_rfl):f.d v w:=by
 refine Classical.byContradiction fun s=>F.EE (b:=false) f (fun cs k a=>yo (r:=gZ v w) ?_ a) h (yp fun j _ hj=> ?_) s
 ·rw[gZ,List.length_append,List.length_map];exact k
 ·rw[uI (by omega)];omega
theorem EF(x y:Nat):y≤x∧x-y+y=x∨x≤y∧x-y=0:=by omega
theorem EG(k x:Nat)(h:Nat.blt 0 k=true):x%k+k*(x/k)=x∧x%k+1≤k:=⟨Nat.mod_add_div x k,Nat.mod_lt _ (Nat.le_of_ble_eq_true h)⟩
theorem EH(k:Nat)(x:Int)(h:Nat.blt 0 k=true):x%(k:Int)+(k:Int)*(x/(k:Int))=x∧0≤x%(k:Int)∧x%(k:Int)+1≤(k:Int):=
 have h:0<k:=Nat.le_of_ble_eq_true h
 ⟨Int.emod_add_mul_ediv x k,Int.emod_nonneg _ (by omega),Int.emod_lt_of_pos _ (by omega)⟩
theorem EI(x:Int):0≤x∧(x.toNat:Int)=x∨x≤0∧x.toNat=0:=by omega
theorem EJ(x:Int):0≤x∧(x.natAbs:Int)=x∨x≤0∧(x.natAbs:Int)= -x:=by omega
theorem EK(x y:Nat):x≤y∧min x y=x∨y≤x∧min x y=y:=by omega
theorem EL(x y:Nat):x≤y∧max x y=y∨y≤x∧max x y=x:=by omega
end LA
namespace CC
open LA
noncomputable def yA:T:= .v 0
noncomputable def yB:T:= .v 1
noncomputable def yC:T:= .v 2
noncomputable def yD:T:= .v 3
noncomputable def yE:T:= .v 4
noncomputable def yF:T:= .v 5
noncomputable def yG:T:= .v 6
noncomputable def yH:T:= .v 7
noncomputable def yI:T:= .v 8
noncomputable def yJ:T:= .v 9
noncomputable def yK:T:= .v 10
noncomputable def yL:T:= .v 11
noncomputable def yU:Z:= .w 0
noncomputable def yV:Z:= .w 1
noncomputable def yW:Z:= .w 2
noncomputable def yX:Z:= .w 3
noncomputable def k_(n:Nat):T:= .k n
noncomputable def a_(x y:T):T:=x.a y
noncomputable def m_(n:Nat)(x:T):T:=x.m n
noncomputable def p_(x:T):T:=x.a (.k 1)
noncomputable def c_(x:T):Z:= .c x
noncomputable def z_(n:Nat):Z:= .k n
noncomputable def t_(x y:Z):Z:=x.a y
noncomputable def s_(x y:Z):Z:=x.s y
noncomputable def g_(x:Z):Z:=x.g
noncomputable def u_(n:Nat)(x:Z):Z:=x.m n
noncomputable def q_(x:Z):Z:=x.a (.k 1)
noncomputable def l_(x y:T):F:= .l x y
noncomputable def e_(x y:T):F:= .e x y
noncomputable def r_(x y:Z):F:= .zl x y
noncomputable def j_(x y:Z):F:= .ze x y
noncomputable def f_:F:= .ff
noncomputable def i_(x y:F):F:=x.i y
noncomputable def n_(x y:F):F:=x.n y
noncomputable def o_(x y:F):F:=x.o y
noncomputable def b_(x y:F):F:=x.b y
noncomputable def x_(x:F):F:=x.i .ff
theorem F_s{x y:Nat}:y≤x∧x-y+y=x∨x≤y∧x-y=0:=EF x y
theorem F_d(k:Nat){x:Nat}(h:Nat.blt 0 k=true):x%k+k*(x/k)=x∧x%k+1≤k:=EG k x h
theorem F_z(k:Nat){x:Int}(h:Nat.blt 0 k=true):x%(k:Int)+(k:Int)*(x/(k:Int))=x∧0≤x%(k:Int)∧x%(k:Int)+1≤(k:Int):=EH k x h
theorem F_t{x:Int}:0≤x∧(x.toNat:Int)=x∨x≤0∧x.toNat=0:=EI x
theorem F_a{x:Int}:0≤x∧(x.natAbs:Int)=x∨x≤0∧(x.natAbs:Int)= -x:=EJ x
theorem F_m{x y:Nat}:x≤y∧min x y=x∨y≤x∧min x y=y:=EK x y
theorem F_M{x y:Nat}:x≤y∧max x y=y∨y≤x∧max x y=x:=EL x y
theorem qaa(f:LA.F)(h:LA.bP 0 0 f=true:=by kernel_rfl):f.d [] []:=LA.bW _ _ f h
theorem qab{x0:Int}(f:LA.F)(h:LA.bP 0 1 f=true:=by kernel_rfl):f.d [] [x0]:=LA.bW _ _ f h
theorem qac{x0 x1:Int}(f:LA.F)(h:LA.bP 0 2 f=true:=by kernel_rfl):f.d [] [x0,x1]:=LA.bW _ _ f h
theorem qad{x0 x1 x2:Int}(f:LA.F)(h:LA.bP 0 3 f=true:=by kernel_rfl):f.d [] [x0,x1,x2]:=LA.bW _ _ f h
theorem qba{a0:Nat}(f:LA.F)(h:LA.bP 1 0 f=true:=by kernel_rfl):f.d [a0] []:=LA.bW _ _ f h
theorem qbb{a0:Nat}{x0:Int}(f:LA.F)(h:LA.bP 1 1 f=true:=by kernel_rfl):f.d [a0] [x0]:=LA.bW _ _ f h
theorem qbc{a0:Nat}{x0 x1:Int}(f:LA.F)(h:LA.bP 1 2 f=true:=by kernel_rfl):f.d [a0] [x0,x1]:=LA.bW _ _ f h
theorem qca{a0 a1:Nat}(f:LA.F)(h:LA.bP 2 0 f=true:=by kernel_rfl):f.d [a0,a1] []:=LA.bW _ _ f h
theorem qcb{a0 a1:Nat}{x0:Int}(f:LA.F)(h:LA.bP 2 1 f=true:=by kernel_rfl):f.d [a0,a1] [x0]:=LA.bW _ _ f h
theorem qcc{a0 a1:Nat}{x0 x1:Int}(f:LA.F)(h:LA.bP 2 2 f=true:=by kernel_rfl):f.d [a0,a1] [x0,x1]:=LA.bW _ _ f h
theorem qcd{a0 a1:Nat}{x0 x1 x2:Int}(f:LA.F)(h:LA.bP 2 3 f=true:=by kernel_rfl):f.d [a0,a1] [x0,x1,x2]:=LA.bW _ _ f h
theorem qda{a0 a1 a2:Nat}(f:LA.F)(h:LA.bP 3 0 f=true:=by kernel_rfl):f.d [a0,a1,a2] []:=LA.bW _ _ f h
theorem qdb{a0 a1 a2:Nat}{x0:Int}(f:LA.F)(h:LA.bP 3 1 f=true:=by kernel_rfl):f.d [a0,a1,a2] [x0]:=LA.bW _ _ f h
theorem qdc{a0 a1 a2:Nat}{x0 x1:Int}(f:LA.F)(h:LA.bP 3 2 f=true:=by kernel_rfl):f.d [a0,a1,a2] [x0,x1]:=LA.bW _ _ f h
theorem qdd{a0 a1 a2:Nat}{x0 x1 x2:Int}(f:LA.F)(h:LA.bP 3 3 f=true:=by kernel_rfl):f.d [a0,a1,a2] [x0,x1,x2]:=LA.bW _ _ f h
theorem qde{a0 a1 a2:Nat}{x0 x1 x2 x3:Int}(f:LA.F)(h:LA.bP 3 4 f=true:=by kernel_rfl):f.d [a0,a1,a2] [x0,x1,x2,x3]:=LA.bW _ _ f h
theorem qea{a0 a1 a2 a3:Nat}(f:LA.F)(h:LA.bP 4 0 f=true:=by kernel_rfl):f.d [a0,a1,a2,a3] []:=LA.bW _ _ f h
theorem qeb{a0 a1 a2 a3:Nat}{x0:Int}(f:LA.F)(h:LA.bP 4 1 f=true:=by kernel_rfl):f.d [a0,a1,a2,a3] [x0]:=LA.bW _ _ f h
theorem qec{a0 a1 a2 a3:Nat}{x0 x1:Int}(f:LA.F)(h:LA.bP 4 2 f=true:=by kernel_rfl):f.d [a0,a1,a2,a3] [x0,x1]:=LA.bW _ _ f h
theorem qed{a0 a1 a2 a3:Nat}{x0 x1 x2:Int}(f:LA.F)(h:LA.bP 4 3 f=true:=by kernel_rfl):f.d [a0,a1,a2,a3] [x0,x1,x2]:=LA.bW _ _ f h
theorem qfa{a0 a1 a2 a3 a4:Nat}(f:LA.F)(h:LA.bP 5 0 f=true:=by kernel_rfl):f.d [a0,a1,a2,a3,a4] []:=LA.bW _ _ f h
theorem qfb{a0 a1 a2 a3 a4:Nat}{x0:Int}(f:LA.F)(h:LA.bP 5 1 f=true:=by kernel_rfl):f.d [a0,a1,a2,a3,a4] [x0]:=LA.bW _ _ f h
theorem qfe{a0 a1 a2 a3 a4:Nat}{x0 x1 x2 x3:Int}(f:LA.F)(h:LA.bP 5 4 f=true:=by kernel_rfl):f.d [a0,a1,a2,a3,a4] [x0,x1,x2,x3]:=LA.bW _ _ f h
theorem qga{a0 a1 a2 a3 a4 a5:Nat}(f:LA.F)(h:LA.bP 6 0 f=true:=by kernel_rfl):f.d [a0,a1,a2,a3,a4,a5] []:=LA.bW _ _ f h
theorem qgb{a0 a1 a2 a3 a4 a5:Nat}{x0:Int}(f:LA.F)(h:LA.bP 6 1 f=true:=by kernel_rfl):f.d [a0,a1,a2,a3,a4,a5] [x0]:=LA.bW _ _ f h
theorem qgc{a0 a1 a2 a3 a4 a5:Nat}{x0 x1:Int}(f:LA.F)(h:LA.bP 6 2 f=true:=by kernel_rfl):f.d [a0,a1,a2,a3,a4,a5] [x0,x1]:=LA.bW _ _ f h
theorem qha{a0 a1 a2 a3 a4 a5 a6:Nat}(f:LA.F)(h:LA.bP 7 0 f=true:=by kernel_rfl):f.d [a0,a1,a2,a3,a4,a5,a6] []:=LA.bW _ _ f h
theorem qhb{a0 a1 a2 a3 a4 a5 a6:Nat}{x0:Int}(f:LA.F)(h:LA.bP 7 1 f=true:=by kernel_rfl):f.d [a0,a1,a2,a3,a4,a5,a6] [x0]:=LA.bW _ _ f h
theorem qhe{a0 a1 a2 a3 a4 a5 a6:Nat}{x0 x1 x2 x3:Int}(f:LA.F)(h:LA.bP 7 4 f=true:=by kernel_rfl):f.d [a0,a1,a2,a3,a4,a5,a6] [x0,x1,x2,x3]:=LA.bW _ _ f h
theorem qia{a0 a1 a2 a3 a4 a5 a6 a7:Nat}(f:LA.F)(h:LA.bP 8 0 f=true:=by kernel_rfl):f.d [a0,a1,a2,a3,a4,a5,a6,a7] []:=LA.bW _ _ f h
theorem qib{a0 a1 a2 a3 a4 a5 a6 a7:Nat}{x0:Int}(f:LA.F)(h:LA.bP 8 1 f=true:=by kernel_rfl):f.d [a0,a1,a2,a3,a4,a5,a6,a7] [x0]:=LA.bW _ _ f h
theorem qja{a0 a1 a2 a3 a4 a5 a6 a7 a8:Nat}(f:LA.F)(h:LA.bP 9 0 f=true:=by kernel_rfl):f.d [a0,a1,a2,a3,a4,a5,a6,a7,a8] []:=LA.bW _ _ f h
theorem qjb{a0 a1 a2 a3 a4 a5 a6 a7 a8:Nat}{x0:Int}(f:LA.F)(h:LA.bP 9 1 f=true:=by kernel_rfl):f.d [a0,a1,a2,a3,a4,a5,a6,a7,a8] [x0]:=LA.bW _ _ f h
theorem qka{a0 a1 a2 a3 a4 a5 a6 a7 a8 a9:Nat}(f:LA.F)(h:LA.bP 10 0 f=true:=by kernel_rfl):f.d [a0,a1,a2,a3,a4,a5,a6,a7,a8,a9] []:=LA.bW _ _ f h
theorem qla{a0 a1 a2 a3 a4 a5 a6 a7 a8 a9 uK:Nat}(f:LA.F)(h:LA.bP 11 0 f=true:=by kernel_rfl):f.d [a0,a1,a2,a3,a4,a5,a6,a7,a8,a9,uK] []:=LA.bW _ _ f h
theorem qma{a0 a1 a2 a3 a4 a5 a6 a7 a8 a9 uK EM:Nat}(f:LA.F)(h:LA.bP 12 0 f=true:=by kernel_rfl):f.d [a0,a1,a2,a3,a4,a5,a6,a7,a8,a9,uK,EM] []:=LA.bW _ _ f h
end CC
local macro_rules | `(tactic| trace $s:str) => do
  let ws := s.getString.splitOn " "
  let w := ws.headD ""
  let neg := w.startsWith "!"
  let w := if neg then (w.toList.drop 1) else w.toList
  let ap (f : String) (a : Array Lean.Term) : Lean.Term := Lean.Syntax.mkApp (Lean.mkIdent (.mkSimple f)) a
  let z := ap "f_" #[]
  let mut st : List Lean.Term := []
  let mut n := 0
  let mut b := 0
  for c in w.drop 2 do
    let nm := c.toString ++ "_"
    if c.isDigit then n := n * 10 + (c.toNat - 48)
    else if c == '^' then
      b := n
      n := 0
    else if c.isUpper then st := ap ("y" ++ c.toString) #[] :: st
    else if c == 'f' then st := ap nm #[] :: st
    else if "kzmu".toList.contains c then
      let q ← if b == 0 then `($(Lean.quote n)) else `(($(Lean.quote b) ^ $(Lean.quote n)))
      if "kz".toList.contains c then st := ap nm #[q] :: st
      else st := ap nm #[q, st.headD z] :: st.tail
      n := 0
      b := 0
    else if "pcgqx".toList.contains c then st := ap nm #[st.headD z] :: st.tail
    else st := ap nm #[st.tail.headD z, st.headD z] :: st.tail.tail
  let mut a : Array Lean.Term := #[]
  for v in ws.tail do
    if v == "_" then a := a.push (← `(by assumption))
    else if v.startsWith "." then
      let f := String.ofList (v.toList.drop 1 |>.take 1)
      let d := v.toList.drop 2
      if d.isEmpty then a := a.push (ap ("F_" ++ f) #[])
      else a := a.push (ap ("F_" ++ f) #[Lean.quote (String.ofList d).toNat!, ← `(rfl)])
    else a := a.push (Lean.mkIdent (.mkSimple v))
  let t := Lean.Syntax.mkApp (← `(($(ap ("q" ++ String.ofList (w.take 2)) #[st.headD z])))) a
  if neg then `(tactic| exact ($t).elim) else `(tactic| exact $t)
namespace CC
theorem bn{A B:Prop}{Q:Prop}(h:A∧B)(k:A→B→Q):Q:=by obtain⟨h0,h1⟩:=h;exact k h0 h1
theorem cH{A B C:Prop}{Q:Prop}(h:A∧B∧C)(k:A→B→C→Q):Q:=by obtain⟨h0,h1,h2⟩:=h;exact k h0 h1 h2
theorem dT{A B C D:Prop}{Q:Prop}(h:A∧B∧C∧D)(k:A→B→C→D→Q):Q:=by obtain⟨h0,h1,h2,h3⟩:=h;exact k h0 h1 h2 h3
theorem kq{A B C D E:Prop}{Q:Prop}(h:A∧B∧C∧D∧E)(k:A→B→C→D→E→Q):Q:=by obtain⟨h0,h1,h2,h3,h4⟩:=h;exact k h0 h1 h2 h3 h4
theorem EN{A B C D E F:Prop}{Q:Prop}(h:A∧B∧C∧D∧E∧F)(k:A→B→C→D→E→F→Q):Q:=by obtain⟨h0,h1,h2,h3,h4,h5⟩:=h;exact k h0 h1 h2 h3 h4 h5
theorem br{az:Sort _}{A:az→Prop}{Q:Prop}(h: ∃(x:az),A x)(k: ∀(x:az),A x→Q):Q:=by obtain⟨x,h0⟩:=h;exact k x h0
theorem aA{az:Sort _}{A B:az→Prop}{Q:Prop}(h: ∃(x:az),A x∧B x)(k: ∀(x:az),A x→B x→Q):Q:=by obtain⟨x,h0,h1⟩:=h;exact k x h0 h1
theorem ck{az:Sort _}{A B C:az→Prop}{Q:Prop}(h: ∃(x:az),A x∧B x∧C x)(k: ∀(x:az),A x→B x→C x→Q):Q:=by obtain⟨x,h0,h1,h2⟩:=h;exact k x h0 h1 h2
theorem jw{az:Sort _}{A B C D:az→Prop}{Q:Prop}(h: ∃(x:az),A x∧B x∧C x∧D x)(k: ∀(x:az),A x→B x→C x→D x→Q):Q:=by obtain⟨x,h0,h1,h2,h3⟩:=h;exact k x h0 h1 h2 h3
theorem lJ{az:Sort _}{A B C D E:az→Prop}{Q:Prop}(h: ∃(x:az),A x∧B x∧C x∧D x∧E x)(k: ∀(x:az),A x→B x→C x→D x→E x→Q):Q:=by obtain⟨x,h0,h1,h2,h3,h4⟩:=h;exact k x h0 h1 h2 h3 h4
theorem kr{az:Sort _}{aH:Sort _}{A:az→aH→Prop}{Q:Prop}(h: ∃(x:az)(y:aH),A x y)(k: ∀(x:az)(y:aH),A x y→Q):Q:=by obtain⟨x,y,h0⟩:=h;exact k x y h0
theorem cQ{az:Sort _}{aH:Sort _}{A B:az→aH→Prop}{Q:Prop}(h: ∃(x:az)(y:aH),A x y∧B x y)(k: ∀(x:az)(y:aH),A x y→B x y→Q):Q:=by obtain⟨x,y,h0,h1⟩:=h;exact k x y h0 h1
theorem d7{az:Sort _}{aH:Sort _}{A B C:az→aH→Prop}{Q:Prop}(h: ∃(x:az)(y:aH),A x y∧B x y∧C x y)(k: ∀(x:az)(y:aH),A x y→B x y→C x y→Q):Q:=by obtain⟨x,y,h0,h1,h2⟩:=h;exact k x y h0 h1 h2
theorem rV{az:Sort _}{aH:Sort _}{A B C D:az→aH→Prop}{Q:Prop}(h: ∃(x:az)(y:aH),A x y∧B x y∧C x y∧D x y)(k: ∀(x:az)(y:aH),A x y→B x y→C x y→D x y→Q):Q:=by obtain⟨x,y,h0,h1,h2,h3⟩:=h;exact k x y h0 h1 h2 h3
theorem pO{az:Sort _}{aH:Sort _}{A B C D E:az→aH→Prop}{Q:Prop}(h: ∃(x:az)(y:aH),A x y∧B x y∧C x y∧D x y∧E x y)(k: ∀(x:az)(y:aH),A x y→B x y→C x y→D x y→E x y→Q):Q:=by obtain⟨x,y,h0,h1,h2,h3,h4⟩:=h;exact k x y h0 h1 h2 h3 h4
theorem EO{az:Sort _}{aH:Sort _}{A B C D E F G:az→aH→Prop}{Q:Prop}(h: ∃(x:az)(y:aH),A x y∧B x y∧C x y∧D x y∧E x y∧F x y∧G x y)(k: ∀(x:az)(y:aH),A x y→B x y→C x y→D x y→E x y→F x y→G x y→Q):Q:=by obtain⟨x,y,h0,h1,h2,h3,h4,h5,h6⟩:=h;exact k x y h0 h1 h2 h3 h4 h5 h6
theorem cR{az:Sort _}{aH:Sort _}{ba:Sort _}{A:az→aH→ba→Prop}{Q:Prop}(h: ∃(x:az)(y:aH)(z:ba),A x y z)(k: ∀(x:az)(y:aH)(z:ba),A x y z→Q):Q:=by obtain⟨x,y,z,h0⟩:=h;exact k x y z h0
theorem g9{az:Sort _}{aH:Sort _}{ba:Sort _}{A B:az→aH→ba→Prop}{Q:Prop}(h: ∃(x:az)(y:aH)(z:ba),A x y z∧B x y z)(k: ∀(x:az)(y:aH)(z:ba),A x y z→B x y z→Q):Q:=by obtain⟨x,y,z,h0,h1⟩:=h;exact k x y z h0 h1
theorem pP{az:Sort _}{aH:Sort _}{ba:Sort _}{A B C:az→aH→ba→Prop}{Q:Prop}(h: ∃(x:az)(y:aH)(z:ba),A x y z∧B x y z∧C x y z)(k: ∀(x:az)(y:aH)(z:ba),A x y z→B x y z→C x y z→Q):Q:=by obtain⟨x,y,z,h0,h1,h2⟩:=h;exact k x y z h0 h1 h2
theorem nW{az:Sort _}{aH:Sort _}{ba:Sort _}{A B C D:az→aH→ba→Prop}{Q:Prop}(h: ∃(x:az)(y:aH)(z:ba),A x y z∧B x y z∧C x y z∧D x y z)(k: ∀(x:az)(y:aH)(z:ba),A x y z→B x y z→C x y z→D x y z→Q):Q:=by obtain⟨x,y,z,h0,h1,h2,h3⟩:=h;exact k x y z h0 h1 h2 h3
theorem uL{az:Sort _}{aH:Sort _}{ba:Sort _}{A B C D E:az→aH→ba→Prop}{Q:Prop}(h: ∃(x:az)(y:aH)(z:ba),A x y z∧B x y z∧C x y z∧D x y z∧E x y z)(k: ∀(x:az)(y:aH)(z:ba),A x y z→B x y z→C x y z→D x y z→E x y z→Q):Q:=by obtain⟨x,y,z,h0,h1,h2,h3,h4⟩:=h;exact k x y z h0 h1 h2 h3 h4
theorem yq{az:Sort _}{aH:Sort _}{ba:Sort _}{A B C D E F:az→aH→ba→Prop}{Q:Prop}(h: ∃(x:az)(y:aH)(z:ba),A x y z∧B x y z∧C x y z∧D x y z∧E x y z∧F x y z)(k: ∀(x:az)(y:aH)(z:ba),A x y z→B x y z→C x y z→D x y z→E x y z→F x y z→Q):Q:=by obtain⟨x,y,z,h0,h1,h2,h3,h4,h5⟩:=h;exact k x y z h0 h1 h2 h3 h4 h5
theorem pQ{az:Sort _}{aH:Sort _}{ba:Sort _}{A B C D E F G H:az→aH→ba→Prop}{Q:Prop}(h: ∃(x:az)(y:aH)(z:ba),A x y z∧B x y z∧C x y z∧D x y z∧E x y z∧F x y z∧G x y z∧H x y z)(k: ∀(x:az)(y:aH)(z:ba),A x y z→B x y z→C x y z→D x y z→E x y z→F x y z→G x y z→H x y z→Q):Q:=by obtain⟨x,y,z,h0,h1,h2,h3,h4,h5,h6,h7⟩:=h;exact k x y z h0 h1 h2 h3 h4 h5 h6 h7
theorem yr{az:Sort _}{aH:Sort _}{ba:Sort _}{bQ:Sort _}{A B:az→aH→ba→bQ→Prop}{Q:Prop}(h: ∃(x:az)(y:aH)(z:ba)(u:bQ),A x y z u∧B x y z u)(k: ∀(x:az)(y:aH)(z:ba)(u:bQ),A x y z u→B x y z u→Q):Q:=by obtain⟨x,y,z,u,h0,h1⟩:=h;exact k x y z u h0 h1
theorem uM{az:Sort _}{aH:Sort _}{ba:Sort _}{bQ:Sort _}{A B C D:az→aH→ba→bQ→Prop}{Q:Prop}(h: ∃(x:az)(y:aH)(z:ba)(u:bQ),A x y z u∧B x y z u∧C x y z u∧D x y z u)(k: ∀(x:az)(y:aH)(z:ba)(u:bQ),A x y z u→B x y z u→C x y z u→D x y z u→Q):Q:=by obtain⟨x,y,z,u,h0,h1,h2,h3⟩:=h;exact k x y z u h0 h1 h2 h3
theorem EP{az:Sort _}{aH:Sort _}{ba:Sort _}{bQ:Sort _}{A B C D E:az→aH→ba→bQ→Prop}{Q:Prop}(h: ∃(x:az)(y:aH)(z:ba)(u:bQ),A x y z u∧B x y z u∧C x y z u∧D x y z u∧E x y z u)(k: ∀(x:az)(y:aH)(z:ba)(u:bQ),A x y z u→B x y z u→C x y z u→D x y z u→E x y z u→Q):Q:=by obtain⟨x,y,z,u,h0,h1,h2,h3,h4⟩:=h;exact k x y z u h0 h1 h2 h3 h4
theorem EQ{az:Sort _}{aH:Sort _}{ba:Sort _}{bQ:Sort _}{A B C D E F:az→aH→ba→bQ→Prop}{Q:Prop}(h: ∃(x:az)(y:aH)(z:ba)(u:bQ),A x y z u∧B x y z u∧C x y z u∧D x y z u∧E x y z u∧F x y z u)(k: ∀(x:az)(y:aH)(z:ba)(u:bQ),A x y z u→B x y z u→C x y z u→D x y z u→E x y z u→F x y z u→Q):Q:=by obtain⟨x,y,z,u,h0,h1,h2,h3,h4,h5⟩:=h;exact k x y z u h0 h1 h2 h3 h4 h5
theorem uN{az:Sort _}{aH:Sort _}{ba:Sort _}{bQ:Sort _}{A B C D E F G H:az→aH→ba→bQ→Prop}{Q:Prop}(h: ∃(x:az)(y:aH)(z:ba)(u:bQ),A x y z u∧B x y z u∧C x y z u∧D x y z u∧E x y z u∧F x y z u∧G x y z u∧H x y z u)(k: ∀(x:az)(y:aH)(z:ba)(u:bQ),A x y z u→B x y z u→C x y z u→D x y z u→E x y z u→F x y z u→G x y z u→H x y z u→Q):Q:=by obtain⟨x,y,z,u,h0,h1,h2,h3,h4,h5,h6,h7⟩:=h;exact k x y z u h0 h1 h2 h3 h4 h5 h6 h7
theorem yt{az:Sort _}{aH:Sort _}{ba:Sort _}{bQ:Sort _}{dU:Sort _}{A B C D E:az→aH→ba→bQ→dU→Prop}{Q:Prop}(h: ∃(x:az)(y:aH)(z:ba)(u:bQ)(v:dU),A x y z u v∧B x y z u v∧C x y z u v∧D x y z u v∧E x y z u v)(k: ∀(x:az)(y:aH)(z:ba)(u:bQ)(v:dU),A x y z u v→B x y z u v→C x y z u v→D x y z u v→E x y z u v→Q):Q:=by obtain⟨x,y,z,u,v,h0,h1,h2,h3,h4⟩:=h;exact k x y z u v h0 h1 h2 h3 h4
theorem ER{az:Sort _}{aH:Sort _}{ba:Sort _}{bQ:Sort _}{dU:Sort _}{A B C D E F G H I J:az→aH→ba→bQ→dU→Prop}{Q:Prop}(h: ∃(x:az)(y:aH)(z:ba)(u:bQ)(v:dU),A x y z u v∧B x y z u v∧C x y z u v∧D x y z u v∧E x y z u v∧F x y z u v∧G x y z u v∧H x y z u v∧I x y z u v∧J x y z u v)(k: ∀(x:az)(y:aH)(z:ba)(u:bQ)(v:dU),A x y z u v→B x y z u v→C x y z u v→D x y z u v→E x y z u v→F x y z u v→G x y z u v→H x y z u v→I x y z u v→J x y z u v→Q):Q:=by obtain⟨x,y,z,u,v,h0,h1,h2,h3,h4,h5,h6,h7,h8,h9⟩:=h;exact k x y z u v h0 h1 h2 h3 h4 h5 h6 h7 h8 h9
theorem ES{az:Sort _}{aH:Sort _}{ba:Sort _}{bQ:Sort _}{dU:Sort _}{hF:Sort _}{A B C:az→aH→ba→bQ→dU→hF→Prop}{Q:Prop}(h: ∃(x:az)(y:aH)(z:ba)(u:bQ)(v:dU)(w:hF),A x y z u v w∧B x y z u v w∧C x y z u v w)(k: ∀(x:az)(y:aH)(z:ba)(u:bQ)(v:dU)(w:hF),A x y z u v w→B x y z u v w→C x y z u v w→Q):Q:=by obtain⟨x,y,z,u,v,w,h0,h1,h2⟩:=h;exact k x y z u v w h0 h1 h2
theorem yv{az:Sort _}{aH:Sort _}{ba:Sort _}{bQ:Sort _}{dU:Sort _}{hF:Sort _}{A B C D E F G H I J K L:az→aH→ba→bQ→dU→hF→Prop}{Q:Prop}(h: ∃(x:az)(y:aH)(z:ba)(u:bQ)(v:dU)(w:hF),A x y z u v w∧B x y z u v w∧C x y z u v w∧D x y z u v w∧E x y z u v w∧F x y z u v w∧G x y z u v w∧H x y z u v w∧I x y z u v w∧J x y z u v w∧K x y z u v w∧L x y z u v w)(k: ∀(x:az)(y:aH)(z:ba)(u:bQ)(v:dU)(w:hF),A x y z u v w→B x y z u v w→C x y z u v w→D x y z u v w→E x y z u v w→F x y z u v w→G x y z u v w→H x y z u v w→I x y z u v w→J x y z u v w→K x y z u v w→L x y z u v w→Q):Q:=by obtain⟨x,y,z,u,v,w,h0,h1,h2,h3,h4,h5,h6,h7,h8,h9,ET,EU⟩:=h;exact k x y z u v w h0 h1 h2 h3 h4 h5 h6 h7 h8 h9 ET EU
theorem EV{az:Sort _}{aH:Sort _}{ba:Sort _}{bQ:Sort _}{dU:Sort _}{hF:Sort _}{uO:Sort _}{A B C D E F:az→aH→ba→bQ→dU→hF→uO→Prop}{Q:Prop}(h: ∃(x:az)(y:aH)(z:ba)(u:bQ)(v:dU)(w:hF)(t:uO),A x y z u v w t∧B x y z u v w t∧C x y z u v w t∧D x y z u v w t∧E x y z u v w t∧F x y z u v w t)(k: ∀(x:az)(y:aH)(z:ba)(u:bQ)(v:dU)(w:hF)(t:uO),A x y z u v w t→B x y z u v w t→C x y z u v w t→D x y z u v w t→E x y z u v w t→F x y z u v w t→Q):Q:=by obtain⟨x,y,z,u,v,w,t,h0,h1,h2,h3,h4,h5⟩:=h;exact k x y z u v w t h0 h1 h2 h3 h4 h5
end CC
theorem CC.nope {P:Prop} (h:false=true):P:=Bool.noConfusion h
theorem CC.none_ne {α:Type} {a:α} {P:Prop} (h:(none:Option α)=some a):P:=Option.noConfusion rfl (heq_of_eq h)
local macro_rules | `(tactic| cases $h:ident) => `(tactic| first | exact CC.nope $h | exact CC.none_ne $h)
namespace CC
inductive Nm
 |kind|value|self|hH|x|v|fY|eX|width|cM|nX|hJ
 |reset|data|byte|ey|dB|b9|ku|m|kx|mode|lK|gF
 |bX|dH|bx|pR|pS|lL|yw|lM|cv|n|cI|dW
 |lN|lO|dC|iP|cJ|d9|lQ|dx|x1|x0|n1|n2
 |u_|reversed|nY|rW|y|bits|arr|b|i|params|K|cols
 |int|lR|cast|bool|lS|lT|parser|ao|gG|fC|close|size
 |eO|near|uQ|uR|uT|uU|row|above|wide|picks|told|codes
 |place|k|one|two|j|first|second|ef|way|jx|gH|black
 |iQ|eY|rows|number|rest|others|ak|head|align|dD|bY|jy
 |iR|cw|iS|jz|eC|got|gI|hK|refused|other|part|gJ
deriving DecidableEq
inductive Cl|gJ|gG|nX|nY|ao|cv|ey|dB
deriving DecidableEq
inductive Fn
 |cast|pT|kx|ky|fC|b9|dH|dW|reset|iP|gF|lM|lK|lN|fD|close|lQ|gI|jx|hK|gH|iR|iS|eC|jy|nZ|lL
deriving DecidableEq
inductive CL|ak|eO|kz|black|kA
deriving DecidableEq
inductive T|none|int (i:Int)|str (s:List Nat)|node (l r:T)
deriving DecidableEq
inductive V|none|bool (b:Bool)|int (i:Int)|str (s:List Nat)|bytes (b:List UInt8)|ref (i:Nat)|fn (f:Fn)|cls (c:Cl)|b7 (c:CL)|tree (t:T)|ty (b:Bool)
deriving DecidableEq
inductive O|list (xs:List V)|inst (c:Cl) (at_:List (Nm×V))|bg (f:Fn) (self:V)|dict (es:List (Nm×V))
inductive cx|add|sub|mul|div|mod|shl|band
inductive fZ|eq|ne|lt|le|gt|ge|is|pU|isin|jA
inductive Ty|list|int|bytes
mutual
inductive X
 |loc (n:Nm)|glob (n:Nm)|int (i:Int)|str (s:List Nat)|bytes (b:List UInt8)|bool (b:Bool)|none
 |neg (x:X)|bin (o:cx) (x y:X)|cmp (o:fZ) (x y:X)|and (xs:XS)|bz (t:Q) (a b:X)
 |sub (x i:X)|fE (x l h:X)|fF (x l:X)|eP (x h:X)|kB (l:List Int) (i:X)|attr (x:X) (n:Nm)
 |list (xs:XS)|dict (ks:List Nm) (xs:XS)|comp (e:X) (n:Nm) (it:It)|iT (e:X) (n:Nm) (it:It) (c:Q)
 |len (x:X)|max2 (x y:X)|min2 (x y:X)|sorted (x:X)|bytesOf (x:X)|kC (x:X)|fG (x:X) (t:Ty)
 |toBytes (x n:X)|join (x y:X)|append (x y:X)|iU (x:X) (k:Nm)
 |call (f:X) (xs:XS) (ks:List Nm)|bg (x:X) (n:Nm) (xs:XS) (ks:List Nm)
inductive XS|nil|cons (x:X) (xs:XS)
inductive QS|nil|cons (x:Q) (xs:QS)
inductive Q|tr (x:X)|not (x:Q)|and (xs:QS)|or (xs:QS)|cmp (o:fZ) (x y:X)|fH (o p:fZ) (x y z:X)
inductive It|val (x:X)|jB (x:X)|gb (x y:X)|jC (x y z:X)|tup (xs:XS)|enum (x:X)|gen (x:X)
end
inductive HA|dk (a n b m:Nm)|setB (n:Nm) (v:Bool)|brk|lU (v:Bool)
inductive HT|at_ (b m:Nm)|gl (n:Nm)
mutual
inductive S
 |assign (n:Nm) (x:X)|bS (x:X) (n:Nm) (y:X)|gc (x i y:X)|fI (x:X) (k:Nm) (y:X)
 |aug (n:Nm) (o:cx) (x:X)|hM (x:X) (n:Nm) (o:cx) (y:X)|kD (x i:X) (o:cx) (y:X)
 |expr (x:X)|ifs (t:Q) (a b:SS)|gK (t:Q) (b:SS)|bK (n:Nm) (it:It) (b:SS)|kE (n m:Nm) (it:It) (b:SS)
 |ret (x:X)|brk|assert (t:Q)|iV (x:X)|n5 (x:X) (n:Nm) (y:X)|lV (x y:X)|eZ (b:SS) (hs:HS)
inductive SS|nil|cons (s:S) (r:SS)
inductive HS|nil|cons (t:HT) (b:List HA) (r:HS)
end
structure H where
 o:Nat→Option O
 n:Nat
noncomputable def H.set (h:H) (i:Nat) (x:O):H:=⟨fun j=>if j=i then some x else h.o j,h.n⟩
noncomputable def H.push (h:H) (x:O):H:=⟨fun j=>if j=h.n then some x else h.o j,h.n+1⟩
abbrev L:=Nm→Option V
noncomputable def L.set (l:L) (n:Nm) (v:V):L:=fun m=>if m=n then some v else l m
noncomputable def aU:Nat:=16777216
noncomputable def T.v:T→V
 | .none=> .none| .int i=> .int i| .str s=> .str s| .node l r=> .tree (.node l r)
noncomputable def own(n:Nm):List (Nm×V)→Option V
 |[]=>none
 |(m,v)::r=>if m=n then some v else own n r
noncomputable def put(n:Nm)(v:V):List (Nm×V)→List (Nm×V)
 |[]=>[(n,v)]
 |(m,w)::r=>if m=n then(m,v)::r else(m,w)::put n v r
noncomputable def ca:T:=(.node (.node (.node (.node (.node (.node (.node (.node (.node (.node (.node (.node .none (.node (.node (.node (.node (.node (.node (.node (.node (.node (.node (.node (.node .none (.str [101])) .none) .none) .none) .none) .none) .none) .none) .none) .none) .none) .none)) .none) .none) .none) .none) (.node (.node (.node (.str [120,49]) (.str [120,50])) (.node (.str [120,51]) (.str [120,52]))) (.node (.node (.str [120,53]) (.str [120,54])) (.node (.str [120,55]) (.str [117]))))) (.node (.int (-3)) (.int 3))) (.node (.int (-2)) (.int 2))) (.str [112])) (.str [104])) (.node (.int (-1)) (.int 1))) (.int 0))
noncomputable def iW:T:=(.node (.node (.node (.node (.node (.node (.node (.node .none (.node (.node (.node (.int 1792) (.node (.int 1984) (.int 2048))) (.node (.node (.int 2112) (.int 2176)) (.node (.int 2240) (.int 2304)))) (.node (.node (.int 1856) (.int 1920)) (.node (.node (.int 2368) (.int 2432)) (.node (.int 2496) (.int 2560)))))) (.node (.int 29) (.int 30))) (.node (.node (.int 45) (.int 46)) (.int 22))) (.node (.node (.int 23) (.node (.int 47) (.int 48))) (.int 13))) (.node (.node (.node (.int 20) (.node (.int 33) (.int 34))) (.node (.node (.int 35) (.int 36)) (.node (.int 37) (.int 38)))) (.node (.node (.int 19) (.node (.int 31) (.int 32))) (.int 1)))) (.node (.node (.node (.int 12) (.node (.node (.int 53) (.int 54)) (.int 26))) (.node (.node (.node (.int 39) (.int 40)) (.node (.int 41) (.int 42))) (.node (.node (.int 43) (.int 44)) (.int 21)))) (.node (.node (.node (.int 28) (.node (.int 61) (.int 62))) (.node (.node (.int 63) (.int 0)) (.node (.int 320) (.int 384)))) (.int 10)))) (.node (.node (.node (.int 11) (.node (.node (.int 27) (.node (.int 59) (.int 60))) (.node (.node (.node (.int 1472) (.int 1536)) (.node (.int 1600) (.int 1728))) (.int 18)))) (.node (.node (.node (.int 24) (.node (.int 49) (.int 50))) (.node (.node (.int 51) (.int 52)) (.int 25))) (.node (.node (.node (.int 55) (.int 56)) (.node (.int 57) (.int 58))) (.int 192)))) (.node (.node (.node (.int 1664) (.node (.node (.int 448) (.int 512)) (.node (.node (.int 704) (.int 768)) (.int 640)))) (.node (.node (.node (.int 576) (.node (.int 832) (.int 896))) (.node (.node (.int 960) (.int 1024)) (.node (.int 1088) (.int 1152)))) (.node (.node (.node (.int 1216) (.int 1280)) (.node (.int 1344) (.int 1408))) (.int 256)))) (.int 2)))) (.node (.node (.node (.int 3) (.node (.int 128) (.int 8))) (.node (.node (.int 9) (.node (.int 16) (.int 17))) (.int 4))) (.node (.node (.int 5) (.node (.node (.int 14) (.int 15)) (.int 64))) (.node (.int 6) (.int 7)))))
noncomputable def iY:T:=(.node (.node (.node (.node (.node (.node (.node (.node .none (.node (.node (.node (.int 1792) (.node (.int 1984) (.int 2048))) (.node (.node (.int 2112) (.int 2176)) (.node (.int 2240) (.int 2304)))) (.node (.node (.int 1856) (.int 1920)) (.node (.node (.int 2368) (.int 2432)) (.node (.int 2496) (.int 2560)))))) (.node (.node (.node (.int 18) (.node (.node (.int 52) (.node (.int 640) (.int 704))) (.node (.node (.int 768) (.int 832)) (.int 55)))) (.node (.node (.node (.int 56) (.node (.int 1280) (.int 1344))) (.node (.node (.int 1408) (.int 1472)) (.int 59))) (.node (.node (.int 60) (.node (.int 1536) (.int 1600))) (.int 24)))) (.node (.node (.node (.int 25) (.node (.node (.int 1664) (.int 1728)) (.int 320))) (.node (.node (.int 384) (.int 448)) (.node (.node (.int 512) (.int 576)) (.int 53)))) (.node (.node (.node (.int 54) (.node (.int 896) (.int 960))) (.node (.node (.int 1024) (.int 1088)) (.node (.int 1152) (.int 1216)))) (.int 64))))) (.node (.node (.int 13) (.node (.node (.node (.int 23) (.node (.int 50) (.int 51))) (.node (.node (.int 44) (.int 45)) (.node (.int 46) (.int 47)))) (.node (.node (.node (.int 57) (.int 58)) (.node (.int 61) (.int 256))) (.int 16)))) (.node (.node (.node (.int 17) (.node (.node (.int 48) (.int 49)) (.node (.int 62) (.int 63)))) (.node (.node (.node (.int 30) (.int 31)) (.node (.int 32) (.int 33))) (.node (.node (.int 40) (.int 41)) (.int 22)))) (.int 14)))) (.node (.node (.int 10) (.int 11)) (.node (.node (.node (.int 15) (.node (.node (.node (.int 128) (.int 192)) (.node (.int 26) (.int 27))) (.node (.node (.int 28) (.int 29)) (.int 19)))) (.node (.node (.node (.int 20) (.node (.int 34) (.int 35))) (.node (.node (.int 36) (.int 37)) (.node (.int 38) (.int 39)))) (.node (.node (.int 21) (.node (.int 42) (.int 43))) (.int 0)))) (.int 12)))) (.node (.node (.int 9) (.int 8)) (.int 7))) (.node (.int 6) (.int 5))) (.node (.int 1) (.int 4))) (.node (.int 3) (.int 2)))
noncomputable def EW:T:=(.node (.node (.node (.node (.node (.node (.node (.node (.node (.node .none (.node (.str [84,49,48,48,48,48]) (.str [84,48,48,48,48,48]))) (.node (.str [84,49,48,48,48]) (.str [84,48,48,48,48]))) (.node (.str [84,49,48,48]) (.str [84,48,48,48]))) (.node (.str [84,49,48]) (.str [84,48,48]))) (.str [48,48,48,48,48])) (.str [48,48,48,48,49])) (.str [48,48,48,49])) (.str [48,48,49])) (.str [48,49])) (.str [49]))
noncomputable def bJ:Cl→Nm→Option V
 | .ao,.kx=>some (.fn .kx)
 | .ao,.fC=>some (.fn .fC)
 | .ao,.b9=>some (.fn .b9)
 | .ao,.dH=>some (.fn .dH)
 | .ao,.dW=>some (.fn .dW)
 | .ao,.reset=>some (.fn .reset)
 | .ao,.iP=>some (.fn .iP)
 | .ao,.gF=>some (.fn .gF)
 | .ao,.lM=>some (.fn .lM)
 | .ao,.lK=>some (.fn .lK)
 | .ao,.lN=>some (.fn .lN)
 | .ao,.close=>some (.fn .close)
 | .ao,.lQ=>some (.fn .lQ)
 | .ao,.lL=>some (.fn .lL)
 | .ao,.ku=>some (.tree ca)
 | .ao,.pR=>some (.tree iW)
 | .ao,.pS=>some (.tree iY)
 | .ao,.yw=>some (.tree EW)
 | .ao,.cv=>some (.cls .cv)
 | .ao,.ey=>some (.cls .ey)
 | .ao,.dB=>some (.cls .dB)
 | .ao,.hJ=>some (.fn .fD)
 | .nY,.hJ=>some (.fn .ky)
 | .nX,.hJ=>some (.fn .pT)
 |_,_=>none
noncomputable def sub:Cl→Cl→Bool
 | .cv,.gJ| .ey,.gJ| .dB,.gJ| .gG,.gJ=>true
 |a,b=>a=b
noncomputable def cB:Cl→Bool
 | .gJ| .gG| .cv| .ey| .dB=>true
 |_=>false
noncomputable def glob:Nm→Option V
 | .gJ=>some (.cls .gJ)
 | .gG=>some (.cls .gG)
 | .nX=>some (.cls .nX)
 | .nY=>some (.cls .nY)
 | .ao=>some (.cls .ao)
 | .cast=>some (.fn .cast)
 | .gI=>some (.fn .gI)
 | .jx=>some (.fn .jx)
 | .hK=>some (.fn .hK)
 | .gH=>some (.fn .gH)
 | .iR=>some (.fn .iR)
 | .iS=>some (.fn .iS)
 | .eC=>some (.fn .eC)
 | .jy=>some (.fn .jy)
 | .uQ=>some (.b7 .eO)
 | .uT=>some (.b7 .kz)
 | .uR=>some (.b7 .black)
 | .uU=>some (.b7 .kA)
 | .jz=>some (.str [48,48,48,48,48,48,48,48,48,48,48,49,48,48,48,48,48,48,48,48,48,48,48,49])
 | .int=>some (.ty true)
 | .bool=>some (.ty false)
 |_=>none
inductive CR|ret (v:V)|exc (c:Cl)
structure Cx where
 call:Fn→List V→List (Nm×V)→H→Option (CR×H)
 cl:CL→List V
 fuel:Nat
noncomputable def dE:List V→Option (List Int)
 |[]=>some []
 | .int i::r=>(dE r).map (i::·)
 |_::_=>none
noncomputable def kF:List V→Option (List (List Nat))
 |[]=>some []
 | .str i::r=>(kF r).map (i::·)
 |_::_=>none
noncomputable def jD:List V→Option (List (List UInt8))
 |[]=>some []
 | .bytes i::r=>(jD r).map (i::·)
 |_::_=>none
noncomputable def Cx.items (C:Cx) (h:H):V→Option (List V)
 | .b7 c=>some (C.cl c)
 | .ref i=>match h.o i with|some (.list xs)=>some xs|_=>none
 |_=>none
noncomputable def cy(h:H)(xs:List V):Option (V×H):=if xs.length≤aU then some (.ref h.n,h.push (.list xs))else none
noncomputable def yx(h:H):cx→Int→Int→Option (V×H)
 | .add,a,b=>some (.int (a+b),h)
 | .sub,a,b=>some (.int (a-b),h)
 | .mul,a,b=>if a.natAbs<2^31∧b.natAbs<2^31 then some (.int (a*b),h)else none
 | .div,a,b=>if b≠0∧b.natAbs<1073741824 then some (.int (a.fdiv b),h)else none
 | .mod,a,b=>if b≠0 then some (.int (a.fmod b),h)else none
 | .shl,a,b=>if 0≤b∧b≤10000∧a.natAbs<2^10000 then some (.int (a*2^b.toNat),h)else none
 | .band,a,b=>if 0≤a∧0≤b then some (.int ((a.toNat&&&b.toNat:Nat):Int),h)else none
noncomputable def yy(h:H)(s t:List Nat):cx→Option (V×H)
 | .add=>if s.length+t.length≤aU then some (.str (s++t),h)else none
 |_=>none
noncomputable def EY(h:H)(n:Int):List Nat→Option (V×H)
 |[c]=>if 0≤n∧n≤1000 then some (.str (List.replicate n.toNat c),h)else none
 |_=>none
noncomputable def yz(h:H)(s:List Nat)(n:Int):cx→Option (V×H)
 | .mul=>EY h n s
 |_=>none
noncomputable def y0(h:H)(s t:List UInt8):cx→Option (V×H)
 | .add=>if s.length+t.length≤aU then some (.bytes (s++t),h)else none
 |_=>none
noncomputable def y5(h:H)(x y:Option O):Option (V×H):=match x,y with
 |some (.list xs),some (.list ys)=>cy h (xs++ys)
 |_,_=>none
noncomputable def EZ(h:H)(i j:Nat):cx→Option (V×H)
 | .add=>y5 h (h.o i) (h.o j)
 |_=>none
noncomputable def y6(h:H)(n:Int):Option O→Option (V×H)
 |some (.list [x])=>if 0≤n∧n≤100000 then cy h (List.replicate n.toNat x)else none
 |_=>none
noncomputable def E1(h:H)(i:Nat)(n:Int):cx→Option (V×H)
 | .mul=>y6 h n (h.o i)
 |_=>none
noncomputable def E2(h:H)(o:cx)(i:Int):V→Option (V×H)
 | .int j=>yx h o i j
 |_=>none
noncomputable def E3(h:H)(o:cx)(s:List Nat):V→Option (V×H)
 | .str t=>yy h s t o
 | .int n=>yz h s n o
 |_=>none
noncomputable def E4(h:H)(o:cx)(s:List UInt8):V→Option (V×H)
 | .bytes t=>y0 h s t o
 |_=>none
noncomputable def E5(h:H)(o:cx)(i:Nat):V→Option (V×H)
 | .ref j=>EZ h i j o
 | .int n=>E1 h i n o
 |_=>none
noncomputable def dm(_:Cx)(h:H)(o:cx)(a b:V):Option (V×H):=match a with
 | .int i=>E2 h o i b
 | .str s=>E3 h o s b
 | .bytes s=>E4 h o s b
 | .ref i=>E5 h o i b
 |_=>none
noncomputable def lW(o:cx)(a b:V):Option V:=match o with
 | .add=>(match a with
  | .int i=>(match b with
   | .int j=>some (.int (i+j))
   |_=>none)
  | .bytes s=>(match b with
   | .bytes t=>if s.length+t.length≤aU then some (.bytes (s++t))else none
   |_=>none)
  |_=>none)
 |_=>none
noncomputable def uV(C:Cx)(h:H)(a b:V)(f:List Int→List Int→Bool):Option Bool:=match(C.items h a).bind dE with
 |some xs=>(match(C.items h b).bind dE with
  |some ys=>some (f xs ys)
  |none=>none)
 |none=>none
noncomputable def n7(C:Cx)(h:H)(a b:V):Option Bool:=match a with
 | .int i=>(match b with
  | .int j=>some (i==j)
  | .str _=>some false
  |_=>none)
 | .str s=>(match b with
  | .str t=>some (s==t)
  |_=>none)
 | .bytes s=>(match b with
  | .bytes t=>some (s==t)
  |_=>none)
 | .bool c=>(match b with
  | .bool d=>some (c==d)
  |_=>none)
 | .none=>(match b with
  | .int _=>some false
  | .str _=>some false
  |_=>none)
 |a=>uV C h a b (·==·)
noncomputable def n8(C:Cx)(h:H)(a b:V):Option Bool:=match a with
 | .int i=>(match b with
  | .int j=>some (i !=j)
  |_=>none)
 | .bytes s=>(match b with
  | .bytes t=>some (s !=t)
  |_=>none)
 |a=>uV C h a b fun xs ys=> !(xs==ys)
noncomputable def mem(C:Cx)(h:H)(a b:V):Option Bool:=match a with
 | .int i=>(match(C.items h b).bind dE with
  |some xs=>some (xs.contains i)
  |none=>none)
 |_=>none
noncomputable def pV(f:Int→Int→Bool)(a b:V):Option Bool:=match a with
 | .int i=>(match b with
  | .int j=>some (f i j)
  |_=>none)
 |_=>none
noncomputable def isNone(a b:V)(f:Bool→Bool):Option Bool:=match b with
 | .none=>if a= .tree .none then none else some (f (a== .none))
 |_=>none
noncomputable def cK(C:Cx)(h:H)(o:fZ)(a b:V):Option Bool:=match o with
 | .eq=>n7 C h a b
 | .ne=>n8 C h a b
 | .lt=>pV (fun i j=>decide (i<j)) a b
 | .le=>pV (fun i j=>decide (i≤j)) a b
 | .gt=>pV (fun i j=>decide (j<i)) a b
 | .ge=>pV (fun i j=>decide (j≤i)) a b
 | .is=>isNone a b id
 | .pU=>isNone a b (!·)
 | .isin=>mem C h a b
 | .jA=>(mem C h a b).map (!·)
noncomputable def jE(C:Cx)(h:H):V→Option Bool
 | .none=>some false
 | .bool b=>some b
 | .int i=>some (i !=0)
 |v=>(C.items h v).map (!·.isEmpty)
noncomputable def idx(C:Cx)(h:H)(a b:V):Option V:=match b with
 | .int i=>(match a with
  | .tree t=>(match t with
   | .node l r=>if i=0 then some l.v else if i=1 then some r.v else none
   |_=>none)
  |v=>(match C.items h v with
   |some xs=>if 0≤i then xs[i.toNat]? else none
   |none=>none))
 |_=>none
noncomputable def be{α:Type}(xs:List α)(l h:Nat):List α:=(xs.take h).drop l
noncomputable def rX(h:H)(s:List Nat)(l u:Option Int):Option (V×H):=match l,u with
 |some a,some b=>if a≤b∧b≤s.length∧s.length≤aU then some (.str (be s a.toNat b.toNat),h)else none
 |_,_=>none
noncomputable def fF(C:Cx)(h:H)(l u:Option Int)(v:V):Option (V×H):=match C.items h v with
 |some xs=>cy h (be xs (l.getD 0).toNat ((u.map Int.toNat).getD xs.length))
 |none=>none
noncomputable def uW(C:Cx)(h:H)(l u:Option Int):V→Option (V×H)
 | .str s=>rX h s l u
 | .bytes s=>if s.length≤aU then some (.bytes (be s (l.getD 0).toNat ((u.map Int.toNat).getD s.length)),h)else none
 |v=>fF C h l u v
noncomputable def eD(C:Cx)(h:H)(v:V)(l u:Option Int):Option (V×H):=
 if 0≤l.getD 0∧0≤u.getD 0∧l.getD 0<2^31∧u.getD 0<2^31 then uW C h l u v else none
noncomputable def inst?(h:H):V→Option (Nat×List (Nm×V))
 | .ref i=>match h.o i with
  |some (.inst .ao at_)=>some (i,at_)
  |_=>none
 |_=>none
noncomputable def lX(h:H)(i:Nat):Option V→Option (V×H)
 |some (.fn f)=>some (.ref h.n,h.push (.bg f (.ref i)))
 |some v=>some (v,h)
 |none=>none
noncomputable def E6(h:H)(i:Nat)(n:Nm):Option V→Option (V×H)
 |some v=>if bJ .ao n=none then some (v,h)else none
 |none=>lX h i (bJ .ao n)
noncomputable def eE(h:H)(v:V)(n:Nm):Option (V×H):=match inst? h v with
 |some (i,at_)=>E6 h i n (own n at_)
 |none=>none
noncomputable def dk(h:H)(v:V)(n:Nm)(x:V):Option H:=match inst? h v with
 |some (i,at_)=>if bJ .ao n=none∧at_.length≤400 then some (h.set i (.inst .ao (put n x at_)))else none
 |none=>none
noncomputable def pW(first:List V):Option V→Option (V×List V)
 |some (.fn f)=>some (.fn f,first)
 |_=>none
noncomputable def y7(i:Nat)(n:Nm):Option V→Option (V×List V)
 |some v=>if bJ .ao n=none then some (v,[])else none
 |none=>pW [.ref i] (bJ .ao n)
noncomputable def gf(h:H)(v:V)(n:Nm):Option (V×List V):=match v with
 | .cls c=>if n= .hJ then pW [] (bJ c n)else none
 |v=>(match inst? h v with
  |some (i,at_)=>y7 i n (own n at_)
  |none=>none)
noncomputable def uX(C:Cx)(o:Option O)(xs:List V)(ks:List (Nm×V))(h:H):Option (CR×H):=match o with
 |some (.bg f self)=>C.call f (self::xs) ks h
 |_=>none
noncomputable def uY(n:Nat):Option (CR×H)→Option (CR×H)
 |some (.ret .none,h')=>some (.ret (.ref n),h')
 |_=>none
noncomputable def Cx.go (C:Cx) (f:V) (xs:List V) (ks:List (Nm×V)) (h:H):Option (CR×H):=match f with
 | .fn f=>C.call f xs ks h
 | .ref i=>uX C (h.o i) xs ks h
 | .cls .ao=>uY h.n (C.call .fD (.ref h.n::xs) ks (h.push (.inst .ao [])))
 |_=>none
noncomputable def n9:Option (CR×H)→Option (V×H)
 |some (.ret v,h)=>some (v,h)
 |_=>none
noncomputable def split(vs:List V)(ks:List Nm):List V×List (Nm×V):=(vs.take (vs.length-ks.length),ks.zip (vs.drop (vs.length-ks.length)))
noncomputable def kG(_:H)(v:V)(t:Ty):Option Bool:=match v with
 | .tree t'=>(match t' with
  | .node _ _=>(match t with
   | .list=>some true
   |_=>none)
  |_=>none)
 | .int _=>(match t with
  | .list=>some false
  | .int=>some true
  | .bytes=>none)
 | .str _=>(match t with
  | .list=>some false
  | .int=>some false
  | .bytes=>none)
 | .none=>(match t with
  | .list=>some false
  | .int=>some false
  | .bytes=>none)
 | .bytes _=>(match t with
  | .bytes=>some true
  |_=>none)
 |_=>none
noncomputable def jF:List Nat→Option Nat
 |l=>if l.length=8∧l.all (fun c=>c==48||c==49)then some (l.foldl (fun a c=>2*a+(c-48)) 0)else none
noncomputable def eF:List V→Option (List UInt8)
 |[]=>some []
 | .int i::r=>if 0≤i∧i<256 then(eF r).map (UInt8.ofNat i.toNat::·)else none
 |_::_=>none
noncomputable def bigEndian(v n:Nat):List UInt8:=(List.range n).map fun k=>UInt8.ofNat (v/256^(n-1-k)%256)
noncomputable def jG(a:Int):List Int→List Int
 |[]=>[a]
 |b::r=>if a≤b then a::b::r else b::jG a r
noncomputable def sortI:List Int→List Int
 |[]=>[]
 |a::r=>jG a (sortI r)
noncomputable def cS(a b c:Int):List V:=(List.range ((b-a+c-1)/c).toNat).map fun(k:Nat)=>V.int (a+c*(k:Int))
noncomputable def bV(C:Cx)(h:H)(src:Option V)(all:List V):Bool:=match src with
 |none=>true
 |some v=>C.items h v==some all
noncomputable def cq(C:Cx)(el:V→H→Option (V×H))(cd:V→H→Option (Bool×H))(src:Option V)(all:List V):List V→List V→H→Option (List V×H)
 |[],acc,h=>if bV C h src all then some (acc.reverse,h)else none
 |v::vs,acc,h=>if bV C h src all then
  match cd v h with
  |some (true,h)=>match el v h with
   |some (y,h)=>cq C el cd src all vs (y::acc) h
   |none=>none
  |some (false,h)=>cq C el cd src all vs acc h
  |none=>none
  else none
noncomputable def y8(C:Cx)(v:V)(h:H):Option (V×H):=(C.items h v).map fun xs=>(.int xs.length,h)
noncomputable def rY(C:Cx):Option (V×H)→Option (V×H)
 |some (.str s,h)=>if s.length≤1000000000 then some (.int s.length,h)else none
 |some (.bytes s,h)=>if s.length≤1000000000 then some (.int s.length,h)else none
 |some (v,h)=>y8 C v h
 |none=>none
noncomputable def uZ(C:Cx)(y:Option (V×H)):Option (V×H):=match y with
 |some (v,h)=>(match(C.items h v).bind kF with
  |some xs=>if xs.flatten.length≤16000000 then some (.str xs.flatten,h)else none
  |none=>none)
 |none=>none
noncomputable def u0(C:Cx)(y:Option (V×H)):Option (V×H):=match y with
 |some (v,h)=>(match(C.items h v).bind jD with
  |some xs=>if xs.flatten.length≤16000000 then some (.bytes xs.flatten,h)else none
  |none=>none)
 |none=>none
noncomputable def rZ(C:Cx)(x:Option (V×H))(y:H→Option (V×H)):Option (V×H):=match x with
 |some (.str [],h)=>uZ C (y h)
 |some (.bytes [],h)=>u0 C (y h)
 |_=>none
noncomputable def kH(l:L):X→Option V
 | .loc n=>l n
 | .int i=>some (.int i)
 | .neg (.int i)=>some (.int (-i))
 |_=>none
noncomputable def gh(l:L):XS→Option (List V)
 | .nil=>some []
 | .cons x xs=>match kH l x,gh l xs with
  |some v,some vs=>some (v::vs)
  |_,_=>none
mutual
noncomputable def ev(C:Cx)(l:L):X→H→Option (V×H)
 | .loc n,h=>(l n).map (·,h)
 | .glob n,h=>(glob n).map (·,h)
 | .int i,h=>some (.int i,h)
 | .str s,h=>some (.str s,h)
 | .bytes b,h=>some (.bytes b,h)
 | .bool b,h=>some (.bool b,h)
 | .none,h=>some (.none,h)
 | .neg x,h=>match ev C l x h with
  |some (.int i,h)=>some (.int (-i),h)
  |_=>none
 | .bin o x y,h=>match ev C l x h with
  |some (a,h)=>match ev C l y h with
   |some (b,h)=>dm C h o a b
   |none=>none
  |none=>none
 | .cmp o x y,h=>match ev C l x h with
  |some (a,h)=>match ev C l y h with
   |some (b,h)=>(cK C h o a b).map (.bool ·,h)
   |none=>none
  |none=>none
 | .and xs,h=>oa C l xs h
 | .bz t a b,h=>match te C l t h with
  |some (true,h)=>ev C l a h
  |some (false,h)=>ev C l b h
  |none=>none
 | .sub x i,h=>match ev C l x h with
  |some (a,h)=>match ev C l i h with
   |some (b,h)=>(idx C h a b).map (·,h)
   |none=>none
  |none=>none
 | .fE x i j,h=>match ev C l x h with
  |some (a,h)=>match ev C l i h with
   |some (.int b,h)=>match ev C l j h with
    |some (.int c,h)=>eD C h a (some b) (some c)
    |_=>none
   |_=>none
  |none=>none
 | .fF x i,h=>match ev C l x h with
  |some (a,h)=>match ev C l i h with
   |some (.int b,h)=>eD C h a (some b) none
   |_=>none
  |none=>none
 | .eP x j,h=>match ev C l x h with
  |some (a,h)=>match ev C l j h with
   |some (.int c,h)=>eD C h a none (some c)
   |_=>none
  |none=>none
 | .kB t i,h=>match ev C l i h with
  |some (.int b,h)=>if 0≤b∧t.length≤1000 then(t[b.toNat]?).map (.int ·,h)else none
  |_=>none
 | .attr x n,h=>match ev C l x h with
  |some (a,h)=>eE h a n
  |none=>none
 | .list xs,h=>match cz C l xs h with
  |some (vs,h)=>cy h vs
  |none=>none
 | .dict ks xs,h=>match gh l xs with
  |some vs=>if ks.Nodup∧ks.length=vs.length∧0<ks.length∧ks.length≤15 then some (.ref h.n,h.push (.dict (ks.zip vs)))else none
  |none=>none
 | .comp e n it,h=>match iter C l it h with
  |some (vs,src,h)=>
   let r:=(cq C (fun v=>ev C (L.set l n v) e) (fun _ h=>some (true,h)) src vs vs [] h)
   r.bind fun(ys,h)=>cy h ys
  |none=>none
 | .iT e n it c,h=>match iter C l it h with
  |some (vs,src,h)=>
   let r:=(cq C (fun v=>ev C (L.set l n v) e) (fun v=>te C (L.set l n v) c) src vs vs [] h)
   r.bind fun(ys,h)=>cy h ys
  |none=>none
 | .len x,h=>rY C (ev C l x h)
 | .max2 x y,h=>match ev C l x h with
  |some (.int a,h)=>match ev C l y h with
   |some (.int b,h)=>some (.int (if a<b then b else a),h)
   |_=>none
  |_=>none
 | .min2 x y,h=>match ev C l x h with
  |some (.int a,h)=>match ev C l y h with
   |some (.int b,h)=>some (.int (if b<a then b else a),h)
   |_=>none
  |_=>none
 | .sorted x,h=>match ev C l x h with
  |some (v,h)=>match(C.items h v).bind dE with
   |some xs=>if xs.length<64 then cy h ((sortI xs).map .int)else none
   |none=>none
  |none=>none
 | .bytesOf x,h=>match ev C l x h with
  |some (v,h)=>match(C.items h v).bind eF with
   |some b=>if b.length≤aU then some (.bytes b,h)else none
   |none=>none
  |none=>none
 | .kC x,h=>match ev C l x h with
  |some (.str s,h)=>(jF s).map fun n=>(.int (n:Int),h)
  |_=>none
 | .fG x t,h=>match ev C l x h with
  |some (v,h)=>(kG h v t).map (.bool ·,h)
  |none=>none
 | .toBytes x n,h=>match ev C l x h with
  |some (.int a,h)=>match ev C l n h with
   |some (.int b,h)=>if 0≤a∧0≤b∧b≤100∧a.toNat<256^b.toNat then some (.bytes (bigEndian a.toNat b.toNat),h)else none
   |_=>none
  |_=>none
 | .join x y,h=>rZ C (ev C l x h) fun h=>ev C l y h
 | .append x y,h=>match ev C l x h with
  |some (.ref i,h)=>match h.o i with
   |some (.list _)=>match ev C l y h with
    |some (v,h)=>match h.o i with
     |some (.list xs)=>if xs.length<aU then some (.none,h.set i (.list (xs++[v])))else none
     |_=>none
    |none=>none
   |_=>none
  |_=>none
 | .iU x k,h=>match ev C l x h with
  |some (.ref i,h)=>match h.o i with
   |some (.dict es)=>some ((own k es).getD .none,h)
   |_=>none
  |_=>none
 | .call f xs ks,h=>match ev C l f h with
  |some (f,h)=>match cz C l xs h with
   |some (vs,h)=>n9 (C.go f (split vs ks).1 (split vs ks).2 h)
   |none=>none
  |none=>none
 | .bg x n xs ks,h=>match ev C l x h with
  |some (a,h)=>match gf h a n with
   |some (f,first)=>match cz C l xs h with
    |some (vs,h)=>n9 (C.go f (first++(split vs ks).1) (split vs ks).2 h)
    |none=>none
   |none=>none
  |none=>none
noncomputable def te(C:Cx)(l:L):Q→H→Option (Bool×H)
 | .not x,h=>match te C l x h with
  |some (b,h)=>some (!b,h)
  |none=>none
 | .and xs,h=>iZ C l xs h
 | .or xs,h=>i0 C l xs h
 | .cmp o x y,h=>match ev C l x h with
  |some (a,h)=>match ev C l y h with
   |some (b,h)=>(cK C h o a b).map (·,h)
   |none=>none
  |none=>none
 | .fH o p x y z,h=>match ev C l x h with
  |some (a,h)=>match ev C l y h with
   |some (b,h)=>match cK C h o a b with
    |some true=>match ev C l z h with
     |some (c,h)=>(cK C h p b c).map (·,h)
     |none=>none
    |some false=>some (false,h)
    |none=>none
   |none=>none
  |none=>none
 | .tr x,h=>match ev C l x h with
  |some (v,h)=>(jE C h v).map (·,h)
  |none=>none
noncomputable def iZ(C:Cx)(l:L):QS→H→Option (Bool×H)
 | .nil,h=>some (true,h)
 | .cons x xs,h=>match te C l x h with
  |some (true,h)=>iZ C l xs h
  |some (false,h)=>some (false,h)
  |none=>none
noncomputable def i0(C:Cx)(l:L):QS→H→Option (Bool×H)
 | .nil,h=>some (false,h)
 | .cons x xs,h=>match te C l x h with
  |some (true,h)=>some (true,h)
  |some (false,h)=>i0 C l xs h
  |none=>none
noncomputable def oa(C:Cx)(l:L):XS→H→Option (V×H)
 | .nil,_=>none
 | .cons x xs,h=>match ev C l x h with
  |some (a,h)=>match xs with
   | .nil=>some (a,h)
   |_=>match jE C h a with
    |some true=>oa C l xs h
    |some false=>some (a,h)
    |none=>none
  |none=>none
noncomputable def cz(C:Cx)(l:L):XS→H→Option (List V×H)
 | .nil,h=>some ([],h)
 | .cons x xs,h=>match ev C l x h with
  |some (v,h)=>match cz C l xs h with
   |some (vs,h)=>some (v::vs,h)
   |none=>none
  |none=>none
noncomputable def iter(C:Cx)(l:L):It→H→Option (List V×Option V×H)
 | .val x,h=>match ev C l x h with
  |some (v,h)=>(C.items h v).map fun xs=>(xs,some v,h)
  |none=>none
 | .jB x,h=>match ev C l x h with
  |some (.int a,h)=>if a.natAbs<2^31 then some (cS 0 a 1,none,h)else none
  |_=>none
 | .gb x y,h=>match ev C l x h with
  |some (.int a,h)=>match ev C l y h with
   |some (.int b,h)=>if a.natAbs<2^31∧b.natAbs<2^31 then some (cS a b 1,none,h)else none
   |_=>none
  |_=>none
 | .jC x y z,h=>match ev C l x h with
  |some (.int a,h)=>match ev C l y h with
   |some (.int b,h)=>match ev C l z h with
    |some (.int c,h)=>if a.natAbs<2^31∧b.natAbs<2^31∧0<c∧c<2^30 then some (cS a b c,none,h)else none
    |_=>none
   |_=>none
  |_=>none
 | .tup xs,h=>match cz C l xs h with
  |some (vs,h)=>if vs.length≤1000 then some (vs,none,h)else none
  |none=>none
 | .enum ..,_=>none
 | .gen ..,_=>none
end
inductive Fl|next|brk|cont|ret (v:V)|exc (c:Cl)
noncomputable def i4:Option (V×H)→Option (CR×H)
 |some (v,h)=>some (.ret v,h)
 |none=>none
noncomputable def dX(C:Cx)(l:L):X→H→Option (CR×H)
 | .call f xs ks,h=>match ev C l f h with
  |some (f,h)=>match cz C l xs h with
   |some (vs,h)=>C.go f (split vs ks).1 (split vs ks).2 h
   |none=>none
  |none=>none
 | .bg x n xs ks,h=>match ev C l x h with
  |some (a,h)=>match gf h a n with
   |some (f,first)=>match cz C l xs h with
    |some (vs,h)=>C.go f (first++(split vs ks).1) (split vs ks).2 h
    |none=>none
   |none=>none
  |none=>none
 |x,h=>i4 (ev C l x h)
noncomputable def bD{α:Type}(ok:H→Bool)(body:α→L→H→Option (Fl×L×H)):List α→L→H→Option (Fl×L×H)
 |[],l,h=>if ok h then some (.next,l,h)else none
 |v::vs,l,h=>if ok h then
  match body v l h with
  |some (.next,l,h)|some (.cont,l,h)=>bD ok body vs l h
  |some (.brk,l,h)=>some (.next,l,h)
  |r=>r
  else none
noncomputable def c7(t:L→H→Option (Bool×H))(body:L→H→Option (Fl×L×H)):Nat→L→H→Option (Fl×L×H)
 |0,_,_=>none
 |k+1,l,h=>match t l h with
  |some (false,h)=>some (.next,l,h)
  |some (true,h)=>match body l h with
   |some (.next,l,h)|some (.cont,l,h)=>c7 t body k l h
   |some (.brk,l,h)=>some (.next,l,h)
   |some (.ret v,l,h)=>some (.ret v,l,h)
   |_=>none
  |none=>none
inductive HF|next|brk|ret (v:Bool)
noncomputable def HF.fl:HF→Fl
 | .next=> .next
 | .brk=> .brk
 | .ret v=> .ret (.bool v)
noncomputable def oc:HA→L→H→Option (HF×L×H)
 | .dk a n b m,l,h=>match l b with
  |some vb=>(match l a with
   |some va=>(match eE h vb m with
    |some (v,h)=>(match dk h va n v with
     |some h=>some (.next,l,h)
     |none=>none)
    |none=>none)
   |none=>none)
  |none=>none
 | .setB n v,l,h=>some (.next,l.set n (.bool v),h)
 | .brk,l,h=>some (.brk,l,h)
 | .lU v,l,h=>some (.ret v,l,h)
noncomputable def kI:List HA→L→H→Option (HF×L×H)
 |[],l,h=>some (.next,l,h)
 |a::r,l,h=>match oc a l h with
  |some (.next,l,h)=>kI r l h
  |r=>r
noncomputable def lY(l:L)(h:H):HT→Option V
 | .at_ b m=>match l b with
  |some vb=>(eE h vb m).map (·.1)
  |none=>none
 | .gl n=>glob n
noncomputable def se:Option V→Option Cl
 |some (.cls d)=>some d
 |_=>none
noncomputable def hN(c:Cl):HS→L→H→Option (Fl×L×H)
 | .nil,l,h=>some (.exc c,l,h)
 | .cons t b r,l,h=>match se (lY l h t)with
  |some d=>if cB d then(if sub c d then(kI b l h).map fun p=>(p.1.fl,p.2)else hN c r l h)else none
  |none=>none
noncomputable def sg(hs:HS):Option (Fl×L×H)→Option (Fl×L×H)
 |some (.exc c,l,h)=>if cB c then hN c hs l h else none
 |r=>r
noncomputable def sh(h:H)(j:Nat)(xs:List V)(k:Int)(v:V):Option H:=
 if 0≤k∧k.toNat<xs.length then some (h.set j (.list (xs.set k.toNat v)))
 else if k<0∧0≤k+xs.length then some (h.set j (.list (xs.set (k+xs.length).toNat v)))else none
noncomputable def kJ(h:H)(a i v:V):Option H:=match a with
 | .ref j=>(match i with
  | .int k=>(match h.o j with
   |some (.list xs)=>sh h j xs k v
   |_=>none)
  |_=>none)
 |_=>none
mutual
noncomputable def ex(C:Cx):S→L→H→Option (Fl×L×H)
 | .assign n x,l,h=>match dX C l x h with
  |some (.ret v,h)=>some (.next,l.set n v,h)
  |some (.exc c,h)=>some (.exc c,l,h)
  |none=>none
 | .bS x n y,l,h=>match dX C l y h with
  |some (.ret v,h)=>match ev C l x h with
   |some (a,h)=>match dk h a n v with
    |some h=>some (.next,l,h)
    |none=>none
   |none=>none
  |some (.exc c,h)=>some (.exc c,l,h)
  |none=>none
 | .gc x i y,l,h=>match ev C l y h with
  |some (v,h)=>match ev C l x h with
   |some (a,h)=>match ev C l i h with
    |some (b,h)=>match kJ h a b v with
     |some h=>some (.next,l,h)
     |none=>none
    |none=>none
   |none=>none
  |none=>none
 | .fI x k y,l,h=>match ev C l y h with
  |some (v,h)=>match ev C l x h with
   |some (.ref i,h)=>match h.o i with
    |some (.dict es)=>if es.length≤400 then some (.next,l,h.set i (.dict (put k v es)))else none
    |_=>none
   |_=>none
  |none=>none
 | .aug n o x,l,h=>match l n with
  |some a=>match ev C l x h with
   |some (b,h)=>match lW o a b with
    |some v=>some (.next,l.set n v,h)
    |none=>none
   |none=>none
  |none=>none
 | .hM x n o y,l,h=>match ev C l x h with
  |some (a,h)=>match eE h a n with
   |some (u,h)=>match ev C l y h with
    |some (b,h)=>match lW o u b with
     |some v=>match dk h a n v with
      |some h=>some (.next,l,h)
      |none=>none
     |none=>none
    |none=>none
   |none=>none
  |none=>none
 | .kD x i o y,l,h=>match ev C l x h with
  |some (a,h)=>match ev C l i h with
   |some (k,h)=>match idx C h a k with
    |some u=>match ev C l y h with
     |some (b,h)=>match lW o u b with
      |some v=>match kJ h a k v with
       |some h=>some (.next,l,h)
       |none=>none
      |none=>none
     |none=>none
    |none=>none
   |none=>none
  |none=>none
 | .expr x,l,h=>match dX C l x h with
  |some (.ret v,h)=>some (.next,l,h)
  |some (.exc c,h)=>some (.exc c,l,h)
  |none=>none
 | .ifs t a b,l,h=>match te C l t h with
  |some (true,h)=>ay C a l h
  |some (false,h)=>ay C b l h
  |none=>none
 | .gK t b,l,h=>c7 (fun l h=>te C l t h) (fun l h=>ay C b l h) C.fuel l h
 | .bK n it b,l,h=>match it with
  | .gen x=>match ev C l x h with
   |some (.bytes bs,h)=>bD (fun _=>true) (fun v l h=>ay C b (l.set n v) h) (bs.map fun c=>V.int (c.toNat:Int)) l h
   |_=>none
  |it=>match iter C l it h with
   |some (vs,src,h)=>bD (fun h=>bV C h src vs) (fun v l h=>ay C b (l.set n v) h) vs l h
   |none=>none
 | .kE n m it b,l,h=>match it with
  | .enum x=>match ev C l x h with
   |some (v,h)=>match C.items h v with
    |some vs=>bD (fun h=>bV C h (some v) vs) (fun(p:V×Nat) l h=>ay C b ((l.set n (.int (p.2:Int))).set m p.1) h) vs.zipIdx l h
    |none=>none
   |none=>none
  |_=>none
 | .ret x,l,h=>match ev C l x h with
  |some (v,h)=>some (.ret v,l,h)
  |none=>none
 | .brk,l,h=>some (.brk,l,h)
 | .assert t,l,h=>match te C l t h with
  |some (true,h)=>some (.next,l,h)
  |_=>none
 | .iV x,l,h=>match ev C l x h with
  |some (.cls c,h)=>if cB c then some (.exc c,l,h)else none
  |_=>none
 | .n5 x n y,l,h=>match ev C l (.attr x n) h with
  |some (.cls c,h)=>if cB c then(match ev C l y h with
   |some (_,h)=>some (.exc c,l,h)
   |none=>none)else none
  |_=>none
 | .lV x y,l,h=>match ev C l x h with
  |some (.cls c,h)=>if cB c then(match ev C l y h with
   |some (_,h)=>some (.exc c,l,h)
   |none=>none)else none
  |_=>none
 | .eZ b hs,l,h=>sg hs (ay C b l h)
noncomputable def ay(C:Cx):SS→L→H→Option (Fl×L×H)
 | .nil,l,h=>some (.next,l,h)
 | .cons s r,l,h=>match ex C s l h with
  |some (.next,l,h)=>ay C r l h
  |r=>r
end
structure eQ where
 ps:List Nm
 ds:List (Nm×V)
 body:SS
noncomputable def lZ(I:eQ)(xs:List V)(ks:List (Nm×V)):Option (List (Nm×V)):=
 if I.ds.isEmpty then(if ks.isEmpty∧xs.length=I.ps.length then some (I.ps.zip xs)else none)
 else if 2≤xs.length∧xs.length+ks.length≤I.ps.length∧I.ps.length≤xs.length+ks.length+I.ds.length∧ks.map (·.1)=(I.ps.drop xs.length).take ks.length then
  some (I.ps.zip (xs++(ks.map (·.2)++(I.ds.map (·.2)).drop (xs.length+ks.length+I.ds.length-I.ps.length))))
 else none
noncomputable def og:Option (Fl×L×H)→Option (CR×H)
 |some (.next,_,h)=>some (.ret .none,h)
 |some (.ret v,_,h)=>some (.ret v,h)
 |some (.exc c,_,h)=>some (.exc c,h)
 |_=>none
noncomputable def u8(C:Cx)(I:eQ)(xs:List V)(ks:List (Nm×V))(h:H):Option (CR×H):=
 match lZ I xs ks with
 |some bs=>og (ay C I.body (fun n=>own n bs) h)
 |none=>none
noncomputable def E7:SS:=(.cons (.ret (.loc .value))
 .nil)
noncomputable def E8:SS:=(.cons (.bS (.loc .self) .hH (.int 0))
 .nil)
noncomputable def E9:SS:=(.cons (.assign .v (.bz (.tr (.loc .x)) (.sub (.attr (.loc .self) .fY) (.int 1)) (.sub (.attr (.loc .self) .fY) (.int 0))))
 (.cons (.hM (.loc .self) .hH .add (.int 1))
 (.cons (.ifs (.tr (.fG (.loc .v) .list))
 (.cons (.bS (.loc .self) .fY (.loc .v))
 .nil)
 (.cons (.assert (.cmp .pU (.attr (.loc .self) .eX) .none))
 (.cons (.bS (.loc .self) .fY (.bg (.loc .self) .eX (.cons (.loc .v) .nil) []))
 .nil)))
 .nil)))
noncomputable def Fa:SS:=(.cons (.expr (.bg (.glob .nX) .hJ (.cons (.loc .self) .nil) []))
 (.cons (.bS (.loc .self) .width (.loc .width))
 (.cons (.bS (.loc .self) .cM (.loc .cM))
 (.cons (.expr (.bg (.loc .self) .reset .nil []))
 .nil))))
noncomputable def Fb:SS:=(.cons (.bK .byte (.gen (.loc .data))
 (.cons (.eZ (.cons (.bK .m (.tup (.cons (.int 128) (.cons (.int 64) (.cons (.int 32) (.cons (.int 16) (.cons (.int 8) (.cons (.int 4) (.cons (.int 2) (.cons (.int 1) .nil)))))))))
 (.cons (.expr (.bg (.loc .self) .kx (.cons (.bin .band (.loc .byte) (.loc .m)) .nil) []))
 .nil))
 .nil)
 (.cons (.at_ .self .dB) [.dk .self .eX .self .b9,.dk .self .fY .self .ku] (.cons (.at_ .self .ey) [.brk] .nil)))
 .nil))
 .nil)
noncomputable def Fc:SS:=(.cons (.ifs (.cmp .eq (.loc .mode) (.str [112]))
 (.cons (.expr (.bg (.loc .self) .lK .nil []))
 (.cons (.expr (.bg (.loc .self) .gF .nil []))
 (.cons (.ret (.attr (.loc .self) .ku))
 .nil)))
 (.cons (.ifs (.cmp .eq (.loc .mode) (.str [104]))
 (.cons (.bS (.loc .self) .bX (.int 0))
 (.cons (.bS (.loc .self) .eX (.attr (.loc .self) .dH))
 (.cons (.ifs (.tr (.attr (.loc .self) .bx))
 (.cons (.ret (.attr (.loc .self) .pR))
 .nil)
 (.cons (.ret (.attr (.loc .self) .pS))
 .nil))
 .nil)))
 (.cons (.ifs (.cmp .eq (.loc .mode) (.str [117]))
 (.cons (.bS (.loc .self) .eX (.attr (.loc .self) .lL))
 (.cons (.ret (.attr (.loc .self) .yw))
 .nil))
 (.cons (.ifs (.cmp .eq (.loc .mode) (.str [101]))
 (.cons (.iV (.attr (.loc .self) .ey))
 .nil)
 (.cons (.ifs (.tr (.fG (.loc .mode) .int))
 (.cons (.expr (.bg (.loc .self) .lM (.cons (.loc .mode) .nil) []))
 (.cons (.expr (.bg (.loc .self) .gF .nil []))
 (.cons (.ret (.attr (.loc .self) .ku))
 .nil)))
 (.cons (.n5 (.loc .self) .cv (.loc .mode))
 .nil))
 .nil))
 .nil))
 .nil))
 .nil))
 .nil)
noncomputable def Fd:SS:=(.cons (.ifs (.cmp .is (.loc .n) .none)
 (.cons (.iV (.attr (.loc .self) .cv))
 .nil)
 .nil)
 (.cons (.hM (.loc .self) .bX .add (.loc .n))
 (.cons (.ifs (.cmp .lt (.loc .n) (.int 64))
 (.cons (.bS (.loc .self) .cI (.int 0))
 (.cons (.bS (.loc .self) .bx (.bin .sub (.int 1) (.attr (.loc .self) .bx)))
 (.cons (.bS (.loc .self) .eX (.attr (.loc .self) .dW))
 .nil)))
 .nil)
 (.cons (.ifs (.tr (.attr (.loc .self) .bx))
 (.cons (.ret (.attr (.loc .self) .pR))
 .nil)
 (.cons (.ret (.attr (.loc .self) .pS))
 .nil))
 .nil))))
noncomputable def Fe:SS:=(.cons (.ifs (.cmp .is (.loc .n) .none)
 (.cons (.iV (.attr (.loc .self) .cv))
 .nil)
 .nil)
 (.cons (.hM (.loc .self) .cI .add (.loc .n))
 (.cons (.ifs (.cmp .lt (.loc .n) (.int 64))
 (.cons (.bS (.loc .self) .bx (.bin .sub (.int 1) (.attr (.loc .self) .bx)))
 (.cons (.bS (.loc .self) .eX (.attr (.loc .self) .b9))
 (.cons (.expr (.bg (.loc .self) .lN (.cons (.attr (.loc .self) .bX) (.cons (.attr (.loc .self) .cI) .nil)) []))
 (.cons (.expr (.bg (.loc .self) .gF .nil []))
 (.cons (.ret (.attr (.loc .self) .ku))
 .nil)))))
 (.cons (.ifs (.tr (.attr (.loc .self) .bx))
 (.cons (.ret (.attr (.loc .self) .pR))
 .nil)
 (.cons (.ret (.attr (.loc .self) .pS))
 .nil))
 .nil))
 .nil)))
noncomputable def Ff:SS:=(.cons (.bS (.loc .self) .lO (.int 0))
 (.cons (.bS (.loc .self) .dC (.bin .mul (.list (.cons (.int 1) .nil)) (.attr (.loc .self) .width)))
 (.cons (.expr (.bg (.loc .self) .iP .nil []))
 (.cons (.bS (.loc .self) .eX (.attr (.loc .self) .b9))
 (.cons (.bS (.loc .self) .fY (.attr (.loc .self) .ku))
 .nil)))))
noncomputable def Fg:SS:=(.cons (.bS (.loc .self) .cJ (.attr (.loc .self) .dC))
 (.cons (.bS (.loc .self) .dC (.bin .mul (.list (.cons (.int 1) .nil)) (.attr (.loc .self) .width)))
 (.cons (.bS (.loc .self) .d9 (.neg (.int 1)))
 (.cons (.bS (.loc .self) .bx (.int 1))
 .nil))))
noncomputable def Fh:SS:=(.cons (.ifs (.cmp .le (.attr (.loc .self) .width) (.attr (.loc .self) .d9))
 (.cons (.expr (.bg (.loc .self) .lQ (.cons (.attr (.loc .self) .lO) (.cons (.attr (.loc .self) .dC) .nil)) []))
 (.cons (.hM (.loc .self) .lO .add (.int 1))
 (.cons (.expr (.bg (.loc .self) .iP .nil []))
 (.cons (.ifs (.tr (.attr (.loc .self) .cM))
 (.cons (.iV (.attr (.loc .self) .dB))
 .nil)
 .nil)
 .nil))))
 .nil)
 .nil)
noncomputable def Fi:SS:=(.cons (.assign .x1 (.bin .add (.attr (.loc .self) .d9) (.int 1)))
 (.cons (.gK (.tr (.int 1))
 (.cons (.ifs (.cmp .eq (.loc .x1) (.int 0))
 (.cons (.ifs (.and (.cons (.cmp .eq (.attr (.loc .self) .bx) (.int 1)) (.cons (.cmp .ne (.sub (.attr (.loc .self) .cJ) (.loc .x1)) (.attr (.loc .self) .bx)) .nil)))
 (.cons .brk
 .nil)
 .nil)
 .nil)
 (.cons (.ifs (.or (.cons (.cmp .eq (.loc .x1) (.len (.attr (.loc .self) .cJ))) (.cons (.and (.cons (.cmp .eq (.sub (.attr (.loc .self) .cJ) (.bin .sub (.loc .x1) (.int 1))) (.attr (.loc .self) .bx)) (.cons (.cmp .ne (.sub (.attr (.loc .self) .cJ) (.loc .x1)) (.attr (.loc .self) .bx)) .nil))) .nil)))
 (.cons .brk
 .nil)
 .nil)
 .nil))
 (.cons (.aug .x1 .add (.int 1))
 .nil)))
 (.cons (.aug .x1 .add (.loc .dx))
 (.cons (.assign .x0 (.max2 (.int 0) (.attr (.loc .self) .d9)))
 (.cons (.assign .x1 (.max2 (.int 0) (.min2 (.attr (.loc .self) .width) (.loc .x1))))
 (.cons (.ifs (.cmp .lt (.loc .x1) (.loc .x0))
 (.cons (.bK .x (.gb (.loc .x1) (.loc .x0))
 (.cons (.gc (.attr (.loc .self) .dC) (.loc .x) (.attr (.loc .self) .bx))
 .nil))
 .nil)
 (.cons (.ifs (.cmp .lt (.loc .x0) (.loc .x1))
 (.cons (.bK .x (.gb (.loc .x0) (.loc .x1))
 (.cons (.gc (.attr (.loc .self) .dC) (.loc .x) (.attr (.loc .self) .bx))
 .nil))
 .nil)
 .nil)
 .nil))
 (.cons (.bS (.loc .self) .d9 (.loc .x1))
 (.cons (.bS (.loc .self) .bx (.bin .sub (.int 1) (.attr (.loc .self) .bx)))
 .nil))))))))
noncomputable def Fj:SS:=(.cons (.assign .x1 (.bin .add (.attr (.loc .self) .d9) (.int 1)))
 (.cons (.gK (.tr (.int 1))
 (.cons (.ifs (.cmp .eq (.loc .x1) (.int 0))
 (.cons (.ifs (.and (.cons (.cmp .eq (.attr (.loc .self) .bx) (.int 1)) (.cons (.cmp .ne (.sub (.attr (.loc .self) .cJ) (.loc .x1)) (.attr (.loc .self) .bx)) .nil)))
 (.cons .brk
 .nil)
 .nil)
 .nil)
 (.cons (.ifs (.or (.cons (.cmp .eq (.loc .x1) (.len (.attr (.loc .self) .cJ))) (.cons (.and (.cons (.cmp .eq (.sub (.attr (.loc .self) .cJ) (.bin .sub (.loc .x1) (.int 1))) (.attr (.loc .self) .bx)) (.cons (.cmp .ne (.sub (.attr (.loc .self) .cJ) (.loc .x1)) (.attr (.loc .self) .bx)) .nil))) .nil)))
 (.cons .brk
 .nil)
 .nil)
 .nil))
 (.cons (.aug .x1 .add (.int 1))
 .nil)))
 (.cons (.gK (.tr (.int 1))
 (.cons (.ifs (.cmp .eq (.loc .x1) (.int 0))
 (.cons (.ifs (.and (.cons (.cmp .eq (.attr (.loc .self) .bx) (.int 0)) (.cons (.cmp .eq (.sub (.attr (.loc .self) .cJ) (.loc .x1)) (.attr (.loc .self) .bx)) .nil)))
 (.cons .brk
 .nil)
 .nil)
 .nil)
 (.cons (.ifs (.or (.cons (.cmp .eq (.loc .x1) (.len (.attr (.loc .self) .cJ))) (.cons (.and (.cons (.cmp .ne (.sub (.attr (.loc .self) .cJ) (.bin .sub (.loc .x1) (.int 1))) (.attr (.loc .self) .bx)) (.cons (.cmp .eq (.sub (.attr (.loc .self) .cJ) (.loc .x1)) (.attr (.loc .self) .bx)) .nil))) .nil)))
 (.cons .brk
 .nil)
 .nil)
 .nil))
 (.cons (.aug .x1 .add (.int 1))
 .nil)))
 (.cons (.bK .x (.gb (.attr (.loc .self) .d9) (.loc .x1))
 (.cons (.gc (.attr (.loc .self) .dC) (.loc .x) (.attr (.loc .self) .bx))
 .nil))
 (.cons (.bS (.loc .self) .d9 (.loc .x1))
 .nil)))))
noncomputable def Fk:SS:=(.cons (.ifs (.cmp .lt (.attr (.loc .self) .d9) (.int 0))
 (.cons (.bS (.loc .self) .d9 (.int 0))
 .nil)
 .nil)
 (.cons (.assign .x (.attr (.loc .self) .d9))
 (.cons (.bK .u_ (.jB (.loc .n1))
 (.cons (.ifs (.cmp .le (.len (.attr (.loc .self) .dC)) (.loc .x))
 (.cons .brk
 .nil)
 .nil)
 (.cons (.gc (.attr (.loc .self) .dC) (.loc .x) (.attr (.loc .self) .bx))
 (.cons (.aug .x .add (.int 1))
 .nil))))
 (.cons (.bK .u_ (.jB (.loc .n2))
 (.cons (.ifs (.cmp .le (.len (.attr (.loc .self) .dC)) (.loc .x))
 (.cons .brk
 .nil)
 .nil)
 (.cons (.gc (.attr (.loc .self) .dC) (.loc .x) (.bin .sub (.int 1) (.attr (.loc .self) .bx)))
 (.cons (.aug .x .add (.int 1))
 .nil))))
 (.cons (.bS (.loc .self) .d9 (.loc .x))
 .nil)))))
noncomputable def vc:SS:=(.cons (.expr (.bg (.glob .nY) .hJ (.cons (.loc .self) (.cons (.loc .width) (.cons (.loc .cM) .nil))) [.cM]))
 (.cons (.bS (.loc .self) .reversed (.loc .reversed))
 (.cons (.bS (.loc .self) .rW (.bytes []))
 .nil)))
noncomputable def Fm:SS:=(.cons (.ret (.attr (.loc .self) .rW))
 .nil)
noncomputable def Fo:SS:=(.cons (.assign .arr (.bin .mul (.list (.cons (.int 0) .nil)) (.bin .div (.bin .add (.len (.loc .bits)) (.int 7)) (.int 8))))
 (.cons (.ifs (.tr (.attr (.loc .self) .reversed))
 (.cons (.assign .bits (.comp (.bin .sub (.int 1) (.loc .b)) .b (.val (.loc .bits))))
 .nil)
 .nil)
 (.cons (.kE .i .b (.enum (.loc .bits))
 (.cons (.ifs (.tr (.loc .b))
 (.cons (.kD (.loc .arr) (.bin .div (.loc .i) (.int 8)) .add (.kB [128,64,32,16,8,4,2,1] (.bin .mod (.loc .i) (.int 8))))
 .nil)
 .nil)
 .nil))
 (.cons (.hM (.loc .self) .rW .add (.bytesOf (.loc .arr)))
 .nil))))
noncomputable def Fp:SS:=(.cons (.assign .K (.iU (.loc .params) .K))
 (.cons (.ifs (.cmp .eq (.loc .K) (.neg (.int 1)))
 (.cons (.assign .cols (.call (.glob .cast) (.cons (.glob .int) (.cons (.iU (.loc .params) .lR) .nil)) []))
 (.cons (.assign .cM (.call (.glob .cast) (.cons (.glob .bool) (.cons (.iU (.loc .params) .lS) .nil)) []))
 (.cons (.assign .reversed (.call (.glob .cast) (.cons (.glob .bool) (.cons (.iU (.loc .params) .lT) .nil)) []))
 (.cons (.assign .parser (.call (.glob .ao) (.cons (.loc .cols) (.cons (.loc .cM) (.cons (.loc .reversed) .nil))) [.cM,.reversed]))
 .nil))))
 (.cons (.lV (.glob .gG) (.loc .K))
 .nil))
 (.cons (.expr (.bg (.loc .parser) .fC (.cons (.loc .data) .nil) []))
 (.cons (.ret (.bg (.loc .parser) .close .nil []))
 .nil))))
noncomputable def Fq:SS:=(.cons (.ret (.list (.cons (.str [48,48,48,48,48,49,48]) (.cons (.str [48,48,48,48,49,48]) (.cons (.str [48,49,48]) (.cons (.str [49]) (.cons (.str [48,49,49]) (.cons (.str [48,48,48,48,49,49]) (.cons (.str [48,48,48,48,48,49,49]) .nil)))))))))
 .nil)
noncomputable def Fs:SS:=(.cons (.ret (.list (.cons (.str [48,48,48,48,48,48,49,48,48,48]) (.cons (.str [48,48,48,48,48,48,49,48,48,49]) (.cons (.str [48,48,48,48,48,48,49,48,49,48]) (.cons (.str [48,48,48,48,48,48,49,48,49,49]) (.cons (.str [48,48,48,48,48,48,49,49,48,48]) (.cons (.str [48,48,48,48,48,48,49,49,48,49]) (.cons (.str [48,48,48,48,48,48,49,49,49,48]) (.cons (.str [48,48,48,48,48,48,48,49]) (.cons (.str [48,48,48,48,48,48,48,48,48,48,48,48]) (.cons (.str [48,48,48,48,48,48,48,48,48,48,48,49,49]) (.cons (.str [48,48,48,48,48,48,48,48,48,48,48,49,48,48,48,48,48,48,48,48,48,48,48,48,48,48]) (.cons (.str [48,48,49,48,48,48,48,48,48,48,48]) (.cons (.str [48,48,49,48,48,49,49,48,49,48,49,48,48,48,48,48,48,48,48]) .nil)))))))))))))))
 .nil)
noncomputable def Ft:SS:=(.cons (.assign .near (.bz (.tr (.loc .eO)) (.glob .uQ) (.glob .uR)))
 (.cons (.ifs (.cmp .lt (.loc .size) (.int 64))
 (.cons (.ret (.sub (.loc .near) (.loc .size)))
 .nil)
 .nil)
 (.cons (.ret (.bin .add (.sub (.bz (.tr (.loc .eO)) (.glob .uT) (.glob .uU)) (.bin .sub (.bin .div (.loc .size) (.int 64)) (.int 1))) (.sub (.loc .near) (.bin .mod (.loc .size) (.int 64)))))
 .nil)))
noncomputable def Fu:SS:=(.cons (.assign .codes (.list .nil))
 (.cons (.assign .place (.neg (.int 1)))
 (.cons (.assign .k (.int 0))
 (.cons (.gK (.cmp .lt (.loc .place) (.loc .width))
 (.cons (.assign .one (.bz (.cmp .lt (.loc .k) (.len (.loc .row))) (.sub (.loc .row) (.loc .k)) (.loc .width)))
 (.cons (.assign .two (.bz (.cmp .lt (.bin .add (.loc .k) (.int 1)) (.len (.loc .row))) (.sub (.loc .row) (.bin .add (.loc .k) (.int 1))) (.loc .width)))
 (.cons (.assign .j (.bin .mod (.loc .k) (.int 2)))
 (.cons (.gK (.and (.cons (.cmp .lt (.loc .j) (.len (.loc .above))) (.cons (.cmp .le (.sub (.loc .above) (.loc .j)) (.loc .place)) .nil)))
 (.cons (.aug .j .add (.int 2))
 .nil))
 (.cons (.assign .first (.bz (.cmp .lt (.loc .j) (.len (.loc .above))) (.sub (.loc .above) (.loc .j)) (.loc .width)))
 (.cons (.assign .second (.bz (.cmp .lt (.bin .add (.loc .j) (.int 1)) (.len (.loc .above))) (.sub (.loc .above) (.bin .add (.loc .j) (.int 1))) (.loc .width)))
 (.cons (.assign .ef (.list .nil))
 (.cons (.ifs (.not (.tr (.loc .wide)))
 (.cons (.ifs (.fH .le .le (.neg (.int 3)) (.bin .sub (.loc .one) (.loc .first)) (.int 3))
 (.cons (.expr (.append (.loc .ef) (.int 1)))
 .nil)
 .nil)
 (.cons (.ifs (.cmp .lt (.loc .second) (.loc .one))
 (.cons (.expr (.append (.loc .ef) (.int 2)))
 .nil)
 .nil)
 .nil))
 .nil)
 (.cons (.expr (.append (.loc .ef) (.int 0)))
 (.cons (.assign .way (.sub (.loc .ef) (.bin .mod (.bin .div (.sub (.loc .picks) (.bin .mod (.bin .add (.loc .told) (.len (.loc .codes))) (.len (.loc .picks)))) (.int 8)) (.len (.loc .ef)))))
 (.cons (.ifs (.cmp .eq (.loc .way) (.int 1))
 (.cons (.expr (.append (.loc .codes) (.sub (.call (.glob .jx) .nil []) (.bin .add (.bin .sub (.loc .one) (.loc .first)) (.int 3)))))
 (.cons (.assign .place (.loc .one))
 (.cons (.aug .k .add (.int 1))
 .nil)))
 (.cons (.ifs (.cmp .eq (.loc .way) (.int 2))
 (.cons (.expr (.append (.loc .codes) (.str [48,48,48,49])))
 (.cons (.assign .place (.loc .second))
 .nil))
 (.cons (.expr (.append (.loc .codes) (.bin .add (.bin .add (.str [48,48,49]) (.call (.glob .gH) (.cons (.bin .sub (.loc .one) (.max2 (.loc .place) (.int 0))) (.cons (.cmp .eq (.bin .mod (.loc .k) (.int 2)) (.int 0)) .nil)) [])) (.call (.glob .gH) (.cons (.bin .sub (.loc .two) (.loc .one)) (.cons (.cmp .eq (.bin .mod (.loc .k) (.int 2)) (.int 1)) .nil)) []))))
 (.cons (.assign .place (.loc .two))
 (.cons (.aug .k .add (.int 2))
 .nil))))
 .nil))
 .nil))))))))))))
 (.cons (.ret (.loc .codes))
 .nil)))))
noncomputable def Fv:SS:=(.cons (.assign .value (.int 0))
 (.cons (.bK .k (.jC (.int 0) (.len (.loc .row)) (.int 2))
 (.cons (.assign .iQ (.bz (.cmp .lt (.bin .add (.loc .k) (.int 1)) (.len (.loc .row))) (.sub (.loc .row) (.bin .add (.loc .k) (.int 1))) (.loc .width)))
 (.cons (.aug .value .add (.bin .sub (.bin .shl (.int 1) (.bin .sub (.loc .width) (.sub (.loc .row) (.loc .k)))) (.bin .shl (.int 1) (.bin .sub (.loc .width) (.loc .iQ)))))
 .nil)))
 (.cons (.ifs (.not (.tr (.loc .black)))
 (.cons (.assign .value (.bin .sub (.bin .sub (.bin .shl (.int 1) (.loc .width)) (.int 1)) (.loc .value)))
 .nil)
 .nil)
 (.cons (.assign .size (.bin .div (.bin .add (.loc .width) (.int 7)) (.int 8)))
 (.cons (.ret (.toBytes (.bin .shl (.loc .value) (.bin .sub (.bin .mul (.int 8) (.loc .size)) (.loc .width))) (.loc .size)))
 .nil)))))
noncomputable def Fw:SS:=(.cons (.assign .bits (.bin .add (.loc .bits) (.bin .mul (.str [48]) (.bin .mod (.neg (.len (.loc .bits))) (.int 8)))))
 (.cons (.ret (.bytesOf (.comp (.kC (.fE (.loc .bits) (.loc .k) (.bin .add (.loc .k) (.int 8)))) .k (.jC (.int 0) (.len (.loc .bits)) (.int 8)))))
 .nil))
noncomputable def Fx:SS:=(.cons (.assign .rows (.list .nil))
 (.cons (.assign .row (.list .nil))
 (.cons (.bK .number (.val (.loc .eY))
 (.cons (.assign .kind (.bin .mod (.loc .number) (.int 4)))
 (.cons (.assign .rest (.bin .div (.loc .number) (.int 4)))
 (.cons (.ifs (.cmp .eq (.loc .kind) (.int 0))
 (.cons (.expr (.append (.loc .rows) (.loc .row)))
 .nil)
 (.cons (.ifs (.and (.cons (.cmp .eq (.loc .kind) (.int 3)) (.cons (.cmp .ne (.loc .row) (.list .nil)) .nil)))
 (.cons (.assign .k (.bin .mod (.loc .rest) (.len (.loc .row))))
 (.cons (.assign .place (.bin .sub (.bin .add (.sub (.loc .row) (.loc .k)) (.bin .mod (.bin .div (.loc .rest) (.len (.loc .row))) (.int 7))) (.int 3)))
 (.cons (.assign .others (.bin .add (.eP (.loc .row) (.loc .k)) (.fF (.loc .row) (.bin .add (.loc .k) (.int 1)))))
 (.cons (.ifs (.and (.cons (.fH .le .lt (.int 0) (.loc .place) (.loc .width)) (.cons (.cmp .jA (.loc .place) (.loc .others)) .nil)))
 (.cons (.assign .row (.sorted (.bin .add (.loc .others) (.list (.cons (.loc .place) .nil)))))
 .nil)
 .nil)
 .nil))))
 (.cons (.ifs (.cmp .isin (.bin .mod (.loc .rest) (.loc .width)) (.loc .row))
 (.cons (.assign .row (.iT (.loc .place) .place (.val (.loc .row)) (.cmp .ne (.loc .place) (.bin .mod (.loc .rest) (.loc .width)))))
 .nil)
 (.cons (.assign .row (.sorted (.bin .add (.loc .row) (.list (.cons (.bin .mod (.loc .rest) (.loc .width)) .nil)))))
 .nil))
 .nil))
 .nil))
 .nil))))
 (.cons (.expr (.append (.loc .rows) (.loc .row)))
 (.cons (.ret (.eP (.loc .rows) (.int 3)))
 .nil)))))
noncomputable def pX:SS:=(.cons (.assign .head (.bz (.tr (.loc .ak)) (.sub (.loc .ak) (.int 0)) (.int 0)))
 (.cons (.assign .size (.bz (.cmp .gt (.len (.loc .ak)) (.int 1)) (.sub (.loc .ak) (.int 1)) (.int 9)))
 (.cons (.assign .eY (.fE (.loc .ak) (.int 2) (.int 14)))
 (.cons (.assign .black (.cmp .eq (.bin .mod (.loc .head) (.int 2)) (.int 1)))
 (.cons (.assign .align (.cmp .eq (.bin .mod (.bin .div (.loc .head) (.int 2)) (.int 2)) (.int 1)))
 (.cons (.assign .dD (.bin .mod (.bin .div (.loc .head) (.int 4)) (.int 5)))
 (.cons (.assign .wide (.cmp .eq (.bin .mod (.bin .div (.loc .head) (.int 20)) (.int 6)) (.int 5)))
 (.cons (.ifs (.tr (.loc .wide))
 (.cons (.assign .bY (.bz (.tr (.loc .eY)) (.bin .mod (.sub (.loc .eY) (.int 0)) (.int 60)) (.int 0)))
 (.cons (.assign .width (.bin .add (.int 64) (.bin .mod (.loc .size) (.int 512))))
 (.cons (.ifs (.tr (.loc .black))
 (.cons (.assign .rows (.list (.cons (.sub (.list (.cons (.list .nil) (.cons (.list (.cons (.bin .sub (.bin .sub (.loc .width) (.int 1)) (.loc .bY)) .nil)) (.cons (.list (.cons (.int 0) (.cons (.bin .add (.int 1) (.loc .bY)) .nil))) .nil)))) (.bin .mod (.loc .bY) (.int 3))) .nil)))
 .nil)
 (.cons (.assign .rows (.list (.cons (.sub (.list (.cons (.list (.cons (.loc .bY) .nil)) (.cons (.list (.cons (.bin .div (.loc .bY) (.int 2)) (.cons (.bin .sub (.bin .sub (.loc .width) (.int 1)) (.bin .div (.loc .bY) (.int 2))) .nil))) .nil))) (.bin .mod (.loc .bY) (.int 2))) .nil)))
 .nil))
 .nil)))
 (.cons (.assign .width (.bin .add (.int 1) (.bin .mod (.loc .size) (.int 16))))
 (.cons (.assign .rows (.bz (.tr (.loc .ak)) (.call (.glob .jy) (.cons (.loc .eY) (.cons (.loc .width) .nil)) []) (.list .nil)))
 .nil)))
 (.cons (.assign .bits (.str []))
 (.cons (.assign .told (.int 0))
 (.cons (.assign .above (.list .nil))
 (.cons (.bK .row (.val (.loc .rows))
 (.cons (.ifs (.tr (.loc .align))
 (.cons (.assign .bits (.bin .add (.loc .bits) (.bin .mul (.str [48]) (.bin .mod (.neg (.len (.loc .bits))) (.int 8)))))
 .nil)
 .nil)
 (.cons (.assign .codes (.call (.glob .iR) (.cons (.loc .row) (.cons (.loc .above) (.cons (.loc .width) (.cons (.loc .wide) (.cons (.loc .ak) (.cons (.loc .told) .nil)))))) []))
 (.cons (.aug .told .add (.len (.loc .codes)))
 (.cons (.assign .bits (.bin .add (.loc .bits) (.join (.str []) (.loc .codes))))
 (.cons (.assign .above (.loc .row))
 .nil))))))
 (.cons (.ifs (.tr (.loc .align))
 (.cons (.assign .bits (.bin .add (.loc .bits) (.bin .mul (.str [48]) (.bin .mod (.neg (.len (.loc .bits))) (.int 8)))))
 .nil)
 .nil)
 (.cons (.assign .cw (.join (.bytes []) (.comp (.call (.glob .iS) (.cons (.loc .row) (.cons (.loc .width) (.cons (.loc .black) .nil))) []) .row (.val (.loc .rows)))))
 (.cons (.ifs (.cmp .lt (.loc .dD) (.int 2))
 (.cons (.assign .params (.dict [.K,.lR] (.cons (.neg (.int 1)) (.cons (.loc .width) .nil))))
 (.cons (.ifs (.tr (.loc .align))
 (.cons (.fI (.loc .params) .lS (.bool true))
 .nil)
 .nil)
 (.cons (.ifs (.tr (.loc .black))
 (.cons (.fI (.loc .params) .lT (.bool true))
 .nil)
 .nil)
 (.cons (.assign .data (.bz (.cmp .eq (.loc .dD) (.int 1)) (.bin .add (.call (.glob .eC) (.cons (.bin .add (.loc .bits) (.glob .jz)) .nil) []) (.bytesOf (.comp (.bin .mod (.loc .number) (.int 256)) .number (.val (.eP (.loc .ak) (.int 9)))))) (.call (.glob .eC) (.cons (.loc .bits) .nil) [])))
 (.cons (.assign .got (.call (.glob .gI) (.cons (.loc .data) (.cons (.loc .params) .nil)) []))
 (.cons (.ifs (.or (.cons (.not (.tr (.fG (.loc .got) .bytes))) (.cons (.cmp .ne (.loc .got) (.loc .cw)) .nil)))
 (.cons (.ret (.bool false))
 .nil)
 .nil)
 (.cons (.fI (.loc .params) .K (.bz (.cmp .ne (.loc .size) (.neg (.int 1))) (.loc .size) (.int 0)))
 (.cons (.eZ (.cons (.expr (.call (.glob .gI) (.cons (.loc .data) (.cons (.loc .params) .nil)) []))
 .nil)
 (.cons (.gl .gG) [.lU true] .nil))
 (.cons (.ret (.bool false))
 .nil)))))))))
 .nil)
 (.cons (.assign .parser (.call (.glob .ao) (.cons (.loc .width) (.cons (.loc .align) (.cons (.loc .black) .nil))) []))
 (.cons (.ifs (.cmp .eq (.loc .dD) (.int 4))
 (.cons (.assign .data (.call (.glob .eC) (.cons (.bin .add (.loc .bits) (.sub (.call (.glob .hK) .nil []) (.bin .mod (.loc .size) (.len (.call (.glob .hK) .nil []))))) .nil) []))
 .nil)
 (.cons (.assign .data (.call (.glob .eC) (.cons (.bin .add (.loc .bits) (.bz (.cmp .eq (.loc .dD) (.int 3)) (.glob .jz) (.str []))) .nil) []))
 .nil))
 (.cons (.assign .first (.bz (.tr (.loc .ak)) (.bin .mod (.sub (.loc .ak) (.int 0)) (.bin .add (.len (.loc .data)) (.int 1))) (.int 0)))
 (.cons (.assign .second (.bin .add (.loc .first) (.bin .mod (.loc .size) (.bin .add (.bin .sub (.len (.loc .data)) (.loc .first)) (.int 1)))))
 (.cons (.assign .refused (.bool false))
 (.cons (.assign .other (.call (.glob .ao) (.cons (.int 1) (.cons (.bool true) .nil)) []))
 (.cons (.bK .part (.tup (.cons (.eP (.loc .data) (.loc .first)) (.cons (.fE (.loc .data) (.loc .first) (.loc .second)) (.cons (.fF (.loc .data) (.loc .second)) .nil))))
 (.cons (.expr (.bg (.loc .other) .fC (.cons (.bytes [128]) .nil) []))
 (.cons (.ifs (.not (.tr (.loc .refused)))
 (.cons (.eZ (.cons (.expr (.bg (.loc .parser) .fC (.cons (.loc .part) .nil) []))
 .nil)
 (.cons (.gl .gJ) [.setB .refused true] .nil))
 .nil)
 .nil)
 .nil)))
 (.cons (.assign .got (.bg (.loc .parser) .close .nil []))
 (.cons (.ret (.and (.cons (.cmp .eq (.loc .refused) (.cmp .eq (.loc .dD) (.int 4))) (.cons (.fG (.loc .got) .bytes) (.cons (.cmp .eq (.loc .got) (.loc .cw)) (.cons (.cmp .eq (.bg (.loc .other) .close .nil []) (.bytes [128,128,128])) .nil))))))
 .nil))))))))))))))))))))))))
noncomputable def fJ:Fn→Option eQ
 | .cast=>some ⟨[.kind,.value],[],E7⟩
 | .pT=>some ⟨[.self],[],E8⟩
 | .kx=>some ⟨[.self,.x],[],E9⟩
 | .ky=>some ⟨[.self,.width,.cM],[(.cM,.bool false)],Fa⟩
 | .fC=>some ⟨[.self,.data],[],Fb⟩
 | .b9=>some ⟨[.self,.mode],[],Fc⟩
 | .dH=>some ⟨[.self,.n],[],Fd⟩
 | .dW=>some ⟨[.self,.n],[],Fe⟩
 | .reset=>some ⟨[.self],[],Ff⟩
 | .iP=>some ⟨[.self],[],Fg⟩
 | .gF=>some ⟨[.self],[],Fh⟩
 | .lM=>some ⟨[.self,.dx],[],Fi⟩
 | .lK=>some ⟨[.self],[],Fj⟩
 | .lN=>some ⟨[.self,.n1,.n2],[],Fk⟩
 | .fD=>some ⟨[.self,.width,.cM,.reversed],[(.cM,.bool false),(.reversed,.bool false)],vc⟩
 | .close=>some ⟨[.self],[],Fm⟩
 | .lQ=>some ⟨[.self,.y,.bits],[],Fo⟩
 | .gI=>some ⟨[.data,.params],[],Fp⟩
 | .jx=>some ⟨[],[],Fq⟩
 | .hK=>some ⟨[],[],Fs⟩
 | .gH=>some ⟨[.size,.eO],[],Ft⟩
 | .iR=>some ⟨[.row,.above,.width,.wide,.picks,.told],[],Fu⟩
 | .iS=>some ⟨[.row,.width,.black],[],Fv⟩
 | .eC=>some ⟨[.bits],[],Fw⟩
 | .jy=>some ⟨[.eY,.width],[],Fx⟩
 | .nZ=>some ⟨[.ak],[],pX⟩
 | .lL=>none
noncomputable def jH:CL→List V
 | .eO=>[.str [48,48,49,49,48,49,48,49],.str [48,48,48,49,49,49],.str [48,49,49,49],.str [49,48,48,48],.str [49,48,49,49],.str [49,49,48,48],.str [49,49,49,48],.str [49,49,49,49],.str [49,48,48,49,49],.str [49,48,49,48,48],.str [48,48,49,49,49],.str [48,49,48,48,48],.str [48,48,49,48,48,48],.str [48,48,48,48,49,49],.str [49,49,48,49,48,48],.str [49,49,48,49,48,49],.str [49,48,49,48,49,48],.str [49,48,49,48,49,49],.str [48,49,48,48,49,49,49],.str [48,48,48,49,49,48,48],.str [48,48,48,49,48,48,48],.str [48,48,49,48,49,49,49],.str [48,48,48,48,48,49,49],.str [48,48,48,48,49,48,48],.str [48,49,48,49,48,48,48],.str [48,49,48,49,48,49,49],.str [48,48,49,48,48,49,49],.str [48,49,48,48,49,48,48],.str [48,48,49,49,48,48,48],.str [48,48,48,48,48,48,49,48],.str [48,48,48,48,48,48,49,49],.str [48,48,48,49,49,48,49,48],.str [48,48,48,49,49,48,49,49],.str [48,48,48,49,48,48,49,48],.str [48,48,48,49,48,48,49,49],.str [48,48,48,49,48,49,48,48],.str [48,48,48,49,48,49,48,49],.str [48,48,48,49,48,49,49,48],.str [48,48,48,49,48,49,49,49],.str [48,48,49,48,49,48,48,48],.str [48,48,49,48,49,48,48,49],.str [48,48,49,48,49,48,49,48],.str [48,48,49,48,49,48,49,49],.str [48,48,49,48,49,49,48,48],.str [48,48,49,48,49,49,48,49],.str [48,48,48,48,48,49,48,48],.str [48,48,48,48,48,49,48,49],.str [48,48,48,48,49,48,49,48],.str [48,48,48,48,49,48,49,49],.str [48,49,48,49,48,48,49,48],.str [48,49,48,49,48,48,49,49],.str [48,49,48,49,48,49,48,48],.str [48,49,48,49,48,49,48,49],.str [48,48,49,48,48,49,48,48],.str [48,48,49,48,48,49,48,49],.str [48,49,48,49,49,48,48,48],.str [48,49,48,49,49,48,48,49],.str [48,49,48,49,49,48,49,48],.str [48,49,48,49,49,48,49,49],.str [48,49,48,48,49,48,49,48],.str [48,49,48,48,49,48,49,49],.str [48,48,49,49,48,48,49,48],.str [48,48,49,49,48,48,49,49],.str [48,48,49,49,48,49,48,48]]
 | .kz=>[.str [49,49,48,49,49],.str [49,48,48,49,48],.str [48,49,48,49,49,49],.str [48,49,49,48,49,49,49],.str [48,48,49,49,48,49,49,48],.str [48,48,49,49,48,49,49,49],.str [48,49,49,48,48,49,48,48],.str [48,49,49,48,48,49,48,49]]
 | .black=>[.str [48,48,48,48,49,49,48,49,49,49],.str [48,49,48],.str [49,49],.str [49,48],.str [48,49,49],.str [48,48,49,49],.str [48,48,49,48],.str [48,48,48,49,49],.str [48,48,48,49,48,49],.str [48,48,48,49,48,48],.str [48,48,48,48,49,48,48],.str [48,48,48,48,49,48,49],.str [48,48,48,48,49,49,49],.str [48,48,48,48,48,49,48,48],.str [48,48,48,48,48,49,49,49],.str [48,48,48,48,49,49,48,48,48],.str [48,48,48,48,48,49,48,49,49,49],.str [48,48,48,48,48,49,49,48,48,48],.str [48,48,48,48,48,48,49,48,48,48],.str [48,48,48,48,49,49,48,48,49,49,49],.str [48,48,48,48,49,49,48,49,48,48,48],.str [48,48,48,48,49,49,48,49,49,48,48],.str [48,48,48,48,48,49,49,48,49,49,49],.str [48,48,48,48,48,49,48,49,48,48,48],.str [48,48,48,48,48,48,49,48,49,49,49],.str [48,48,48,48,48,48,49,49,48,48,48],.str [48,48,48,48,49,49,48,48,49,48,49,48],.str [48,48,48,48,49,49,48,48,49,48,49,49],.str [48,48,48,48,49,49,48,48,49,49,48,48],.str [48,48,48,48,49,49,48,48,49,49,48,49],.str [48,48,48,48,48,49,49,48,49,48,48,48],.str [48,48,48,48,48,49,49,48,49,48,48,49],.str [48,48,48,48,48,49,49,48,49,48,49,48],.str [48,48,48,48,48,49,49,48,49,48,49,49],.str [48,48,48,48,49,49,48,49,48,48,49,48],.str [48,48,48,48,49,49,48,49,48,48,49,49],.str [48,48,48,48,49,49,48,49,48,49,48,48],.str [48,48,48,48,49,49,48,49,48,49,48,49],.str [48,48,48,48,49,49,48,49,48,49,49,48],.str [48,48,48,48,49,49,48,49,48,49,49,49],.str [48,48,48,48,48,49,49,48,49,49,48,48],.str [48,48,48,48,48,49,49,48,49,49,48,49],.str [48,48,48,48,49,49,48,49,49,48,49,48],.str [48,48,48,48,49,49,48,49,49,48,49,49],.str [48,48,48,48,48,49,48,49,48,49,48,48],.str [48,48,48,48,48,49,48,49,48,49,48,49],.str [48,48,48,48,48,49,48,49,48,49,49,48],.str [48,48,48,48,48,49,48,49,48,49,49,49],.str [48,48,48,48,48,49,49,48,48,49,48,48],.str [48,48,48,48,48,49,49,48,48,49,48,49],.str [48,48,48,48,48,49,48,49,48,48,49,48],.str [48,48,48,48,48,49,48,49,48,48,49,49],.str [48,48,48,48,48,48,49,48,48,49,48,48],.str [48,48,48,48,48,48,49,49,48,49,49,49],.str [48,48,48,48,48,48,49,49,49,48,48,48],.str [48,48,48,48,48,48,49,48,48,49,49,49],.str [48,48,48,48,48,48,49,48,49,48,48,48],.str [48,48,48,48,48,49,48,49,49,48,48,48],.str [48,48,48,48,48,49,48,49,49,48,48,49],.str [48,48,48,48,48,48,49,48,49,48,49,49],.str [48,48,48,48,48,48,49,48,49,49,48,48],.str [48,48,48,48,48,49,48,49,49,48,49,48],.str [48,48,48,48,48,49,49,48,48,49,49,48],.str [48,48,48,48,48,49,49,48,48,49,49,49]]
 | .kA=>[.str [48,48,48,48,48,48,49,49,49,49],.str [48,48,48,48,49,49,48,48,49,48,48,48],.str [48,48,48,48,49,49,48,48,49,48,48,49],.str [48,48,48,48,48,49,48,49,49,48,49,49],.str [48,48,48,48,48,48,49,49,48,48,49,49],.str [48,48,48,48,48,48,49,49,48,49,48,48],.str [48,48,48,48,48,48,49,49,48,49,48,49],.str [48,48,48,48,48,48,49,49,48,49,49,48,48]]
 | .ak=>[]
noncomputable def aj(ak:List Int):CL→List V
 | .ak=>ak.map .int
 |c=>jH c
noncomputable def Cn(cl:CL→List V)(fuel:Nat):Nat→Cx
 |0=>⟨fun _ _ _ _=>none,cl,fuel⟩
 |n+1=>⟨fun f xs ks h=>match fJ f with
  |some I=>u8 (Cn cl fuel n) I xs ks h
  |none=>none,cl,fuel⟩
theorem SP{α β:Type}{a c:α}{b d:β}{P:α→β→Prop}(e:some (a,b)=some (c,d))(k:P a b):P c d:=by
 obtain⟨e1,e2⟩:=Prod.mk.inj (Option.some.inj e)
 exact e1▸e2▸k
section
variable{α β γ:Type}{P:Prop}{r:γ}
theorem oI{x:Option (List Int)}{f:List Int→Option γ}(e:(match x with|some a=>f a|none=>none)=some r)(k: ∀a,x=some a→f a=some r→P):P:=by
 induction x with
 |none=>exact none_ne e
 |some a=>exact k a rfl e
theorem oV{x:Option (V)}{f:V→Option γ}(e:(match x with|some a=>f a|none=>none)=some r)(k: ∀a,x=some a→f a=some r→P):P:=by
 induction x with
 |none=>exact none_ne e
 |some a=>exact k a rfl e
theorem oH{x:Option (H)}{f:H→Option γ}(e:(match x with|some a=>f a|none=>none)=some r)(k: ∀a,x=some a→f a=some r→P):P:=by
 induction x with
 |none=>exact none_ne e
 |some a=>exact k a rfl e
theorem oY{x:Option (List UInt8)}{f:List UInt8→Option γ}(e:(match x with|some a=>f a|none=>none)=some r)(k: ∀a,x=some a→f a=some r→P):P:=by
 induction x with
 |none=>exact none_ne e
 |some a=>exact k a rfl e
theorem oL{x:Option (List V)}{f:List V→Option γ}(e:(match x with|some a=>f a|none=>none)=some r)(k: ∀a,x=some a→f a=some r→P):P:=by
 induction x with
 |none=>exact none_ne e
 |some a=>exact k a rfl e
theorem oS{x:Option (List (List Nat))}{f:List (List Nat)→Option γ}(e:(match x with|some a=>f a|none=>none)=some r)(k: ∀a,x=some a→f a=some r→P):P:=by
 induction x with
 |none=>exact none_ne e
 |some a=>exact k a rfl e
theorem Fy{x:Option (List (List UInt8))}{f:List (List UInt8)→Option γ}(e:(match x with|some a=>f a|none=>none)=some r)(k: ∀a,x=some a→f a=some r→P):P:=by
 induction x with
 |none=>exact none_ne e
 |some a=>exact k a rfl e
theorem mA{x:Option (V×H)}{f:V→H→Option γ}(e:(match x with|some (a,b)=>f a b|none=>none)=some r)(k: ∀a b,x=some (a,b)→f a b=some r→P):P:=by
 induction x with
 |none=>exact none_ne e
 |some a=>exact k a.1 a.2 rfl e
theorem mL{x:Option (List V×H)}{f:List V→H→Option γ}(e:(match x with|some (a,b)=>f a b|none=>none)=some r)(k: ∀a b,x=some (a,b)→f a b=some r→P):P:=by
 induction x with
 |none=>exact none_ne e
 |some a=>exact k a.1 a.2 rfl e
theorem mN{x:Option (Bool×H)}{f:Bool→H→Option γ}(e:(match x with|some (a,b)=>f a b|none=>none)=some r)(k: ∀a b,x=some (a,b)→f a b=some r→P):P:=by
 induction x with
 |none=>exact none_ne e
 |some a=>exact k a.1 a.2 rfl e
theorem mK{x:Option (V×List V)}{f:V→List V→Option γ}(e:(match x with|some (a,b)=>f a b|none=>none)=some r)(k: ∀a b,x=some (a,b)→f a b=some r→P):P:=by
 induction x with
 |none=>exact none_ne e
 |some a=>exact k a.1 a.2 rfl e
theorem m3{x:Option (List V×Option V×H)}{f:List V→Option V→H→Option γ}(e:(match x with|some (a,b,c)=>f a b c|none=>none)=some r)(k: ∀a b c,x=some (a,b,c)→f a b c=some r→P):P:=by
 induction x with
 |none=>exact none_ne e
 |some a=>exact k a.1 a.2.1 a.2.2 rfl e
theorem mM{x:Option α}{f:α→γ}(e:x.map f=some r)(k: ∀a,x=some a→f a=r→P):P:=by
 induction x with
 |none=>exact none_ne e
 |some a=>exact k a rfl (Option.some.inj e)
theorem mB{x:Option α}{f:α→Option γ}(e:x.bind f=some r)(k: ∀a,x=some a→f a=some r→P):P:=by
 induction x with
 |none=>exact none_ne e
 |some a=>exact k a rfl e
theorem mF{c:Prop}[d:Decidable c]{x:Option γ}(e:(if c then x else none)=some r)(k:c→x=some r→P):P:=by
 induction d with
 |isTrue h=>exact k h e
 |isFalse h=>exact none_ne e
theorem mG{c:Prop}[d:Decidable c]{x:Option γ}(e:(if c then none else x)=some r)(k: ¬c→x=some r→P):P:=by
 induction d with
 |isTrue h=>exact none_ne e
 |isFalse h=>exact k h e
theorem oh{c:Prop}[d:Decidable c]{x y:Option γ}(e:(if c then x else y)=some r)(k:c→x=some r→P)(k2: ¬c→y=some r→P):P:=by
 induction d with
 |isTrue h=>exact k h e
 |isFalse h=>exact k2 h e
theorem mT{x:Option (Bool×H)}{f g:H→Option γ}(e:(match x with|some (true,h)=>f h|some (false,h)=>g h|none=>none)=some r)(k: ∀h,x=some (true,h)→f h=some r→P)(k2: ∀h,x=some (false,h)→g h=some r→P):P:=by
 induction x with
 |none=>exact none_ne e
 |some p=>match p with
  |(true,h)=>exact k h rfl e
  |(false,h)=>exact k2 h rfl e
theorem mI{x:Option (V×H)}{f:Int→H→Option γ}(e:(match x with|some (.int a,h)=>f a h|_=>none)=some r)(k: ∀a h,x=some (.int a,h)→f a h=some r→P):P:=by
 induction x with
 |none=>exact none_ne e
 |some p=>
  induction p with
  |mk v h=>
   induction v with
   |int i=>exact k _ _ rfl e
   |_=>exact none_ne e
theorem mR{x:Option (V×H)}{f:Nat→H→Option γ}(e:(match x with|some (.ref a,h)=>f a h|_=>none)=some r)(k: ∀a h,x=some (.ref a,h)→f a h=some r→P):P:=by
 induction x with
 |none=>exact none_ne e
 |some p=>
  induction p with
  |mk v h=>
   induction v with
   |ref i=>exact k _ _ rfl e
   |_=>exact none_ne e
theorem mC{x:Option (V×H)}{f:Cl→H→Option γ}(e:(match x with|some (.cls a,h)=>f a h|_=>none)=some r)(k: ∀a h,x=some (.cls a,h)→f a h=some r→P):P:=by
 induction x with
 |none=>exact none_ne e
 |some p=>
  induction p with
  |mk v h=>
   induction v with
   |cls i=>exact k _ _ rfl e
   |_=>exact none_ne e
theorem mS{x:Option (V×H)}{f:List Nat→H→Option γ}(e:(match x with|some (.str a,h)=>f a h|_=>none)=some r)(k: ∀a h,x=some (.str a,h)→f a h=some r→P):P:=by
 induction x with
 |none=>exact none_ne e
 |some p=>
  induction p with
  |mk v h=>
   induction v with
   |str i=>exact k _ _ rfl e
   |_=>exact none_ne e
theorem Fz{x:Option (V×H)}{f:List UInt8→H→Option γ}(e:(match x with|some (.bytes a,h)=>f a h|_=>none)=some r)(k: ∀a h,x=some (.bytes a,h)→f a h=some r→P):P:=by
 induction x with
 |none=>exact none_ne e
 |some p=>
  induction p with
  |mk v h=>
   induction v with
   |bytes i=>exact k _ _ rfl e
   |_=>exact none_ne e
theorem sj{x:Option O}{f:List V→Option γ}(e:(match x with|some (.list a)=>f a|_=>none)=some r)(k: ∀a,x=some (.list a)→f a=some r→P):P:=by
 induction x with
 |none=>exact none_ne e
 |some p=>
  induction p with
  |list i=>exact k _ rfl e
  |_=>exact none_ne e
theorem mD{x:Option O}{f:List (Nm×V)→Option γ}(e:(match x with|some (.dict a)=>f a|_=>none)=some r)(k: ∀a,x=some (.dict a)→f a=some r→P):P:=by
 induction x with
 |none=>exact none_ne e
 |some p=>
  induction p with
  |dict i=>exact k _ rfl e
  |_=>exact none_ne e
theorem vI{a:V}{f:Int→Option γ}(e:(match a with| .int i=>f i|_=>none)=some r)(k: ∀i,a= .int i→f i=some r→P):P:=by
 induction a with
 |int i=>exact k i rfl e
 |_=>exact none_ne e
theorem vB{a:V}{f:List UInt8→Option γ}(e:(match a with| .bytes i=>f i|_=>none)=some r)(k: ∀i,a= .bytes i→f i=some r→P):P:=by
 induction a with
 |bytes i=>exact k i rfl e
 |_=>exact none_ne e
theorem vS{a:V}{f:List Nat→Option γ}(e:(match a with| .str i=>f i|_=>none)=some r)(k: ∀i,a= .str i→f i=some r→P):P:=by
 induction a with
 |str i=>exact k i rfl e
 |_=>exact none_ne e
theorem FA{a:V}{f:List Nat→Option γ}{g:Int→Option γ}(e:(match a with| .str i=>f i| .int i=>g i|_=>none)=some r)(k: ∀i,a= .str i→f i=some r→P)(k2: ∀i,a= .int i→g i=some r→P):P:=by
 induction a with
 |str i=>exact k i rfl e
 |int i=>exact k2 i rfl e
 |_=>exact none_ne e
theorem FC{a:V}{f:Nat→Option γ}{g:Int→Option γ}(e:(match a with| .ref i=>f i| .int i=>g i|_=>none)=some r)(k: ∀i,a= .ref i→f i=some r→P)(k2: ∀i,a= .int i→g i=some r→P):P:=by
 induction a with
 |ref i=>exact k i rfl e
 |int i=>exact k2 i rfl e
 |_=>exact none_ne e
theorem sq{o:cx}{x:Option γ}(e:(match o with| .add=>x|_=>none)=some r)(k:o= .add→x=some r→P):P:=by
 induction o with
 |add=>exact k rfl e
 |_=>exact none_ne e
theorem y9{o:cx}{x:Option γ}(e:(match o with| .mul=>x|_=>none)=some r)(k:o= .mul→x=some r→P):P:=by
 induction o with
 |mul=>exact k rfl e
 |_=>exact none_ne e
theorem v4{a:V}{f1:Int→Option γ}{f2:List Nat→Option γ}{f3:List UInt8→Option γ}{f4:Nat→Option γ}(e:(match a with| .int i=>f1 i| .str i=>f2 i| .bytes i=>f3 i| .ref i=>f4 i|_=>none)=some r)
 (k1: ∀i,a= .int i→f1 i=some r→P) (k2: ∀i,a= .str i→f2 i=some r→P) (k3: ∀i,a= .bytes i→f3 i=some r→P) (k4: ∀i,a= .ref i→f4 i=some r→P):P:=by
 induction a with
 |int i=>exact k1 i rfl e
 |str i=>exact k2 i rfl e
 |bytes i=>exact k3 i rfl e
 |ref i=>exact k4 i rfl e
 |_=>exact none_ne e
theorem FD{a:V}{f1:Int→Option γ}{f3:List UInt8→Option γ}(e:(match a with| .int i=>f1 i| .bytes i=>f3 i|_=>none)=some r)(k1: ∀i,a= .int i→f1 i=some r→P)(k3: ∀i,a= .bytes i→f3 i=some r→P):P:=by
 induction a with
 |int i=>exact k1 i rfl e
 |bytes i=>exact k3 i rfl e
 |_=>exact none_ne e
theorem FE{a:V}{f1:Int→Option γ}{f3:List UInt8→Option γ}{g:V→Option γ}(e:(match a with| .int i=>f1 i| .bytes i=>f3 i|a=>g a)=some r)(k1: ∀i,a= .int i→f1 i=some r→P)(k3: ∀i,a= .bytes i→f3 i=some r→P)(k4:g a=some r→P):P:=by
 induction a with
 |int i=>exact k1 i rfl e
 |bytes i=>exact k3 i rfl e
 |_=>exact k4 e
theorem vE{a:V}{f1:Int→Option γ}{f2:List Nat→Option γ}{f3:List UInt8→Option γ}{f4:Bool→Option γ}{f5:Option γ}{g:V→Option γ}(e:(match a with| .int i=>f1 i| .str i=>f2 i| .bytes i=>f3 i| .bool i=>f4 i| .none=>f5|a=>g a)=some r)
 (k1: ∀i,a= .int i→f1 i=some r→P) (k2: ∀i,a= .str i→f2 i=some r→P) (k3: ∀i,a= .bytes i→f3 i=some r→P) (k4: ∀i,a= .bool i→f4 i=some r→P) (k5:a= .none→f5=some r→P) (k6:g a=some r→P):P:=by
 induction a with
 |int i=>exact k1 i rfl e
 |str i=>exact k2 i rfl e
 |bytes i=>exact k3 i rfl e
 |bool i=>exact k4 i rfl e
 |none=>exact k5 rfl e
 |_=>exact k6 e
theorem za{a:V}{f:Int→Option γ}{g:List Nat→Option γ}(e:(match a with| .int i=>f i| .str i=>g i|_=>none)=some r)(k: ∀i,a= .int i→f i=some r→P)(k2: ∀i,a= .str i→g i=some r→P):P:=by
 induction a with
 |str i=>exact k2 i rfl e
 |int i=>exact k i rfl e
 |_=>exact none_ne e
theorem vO{a:V}{f:Bool→Option γ}(e:(match a with| .bool i=>f i|_=>none)=some r)(k: ∀i,a= .bool i→f i=some r→P):P:=by
 induction a with
 |bool i=>exact k i rfl e
 |_=>exact none_ne e
theorem vN{a:V}{x:Option γ}(e:(match a with| .none=>x|_=>none)=some r)(k:a= .none→x=some r→P):P:=by
 induction a with
 |none=>exact k rfl e
 |_=>exact none_ne e
theorem FF{a:V}{f:T→Option γ}{g:V→Option γ}(e:(match a with| .tree t=>f t|a=>g a)=some r)(k: ∀t,a= .tree t→f t=some r→P)(k2:g a=some r→P):P:=by
 induction a with
 |tree t=>exact k t rfl e
 |_=>exact k2 e
theorem tN{t:T}{f:T→T→Option γ}(e:(match t with| .node x y=>f x y|_=>none)=some r)(k: ∀x y,t= .node x y→f x y=some r→P):P:=by
 induction t with
 |node x y=>exact k x y rfl e
 |_=>exact none_ne e
theorem mP{x:Option (Nat×List (Nm×V))}{f:Nat→List (Nm×V)→Option γ}(e:(match x with|some (a,b)=>f a b|none=>none)=some r)(k: ∀a b,x=some (a,b)→f a b=some r→P):P:=by
 induction x with
 |none=>exact none_ne e
 |some a=>exact k a.1 a.2 rfl e
theorem pY{a b:Int}{r:List Int}:jG a (b::r)=if a≤b then a::b::r else b::jG a r:=rfl
theorem inst_c{h:H}{v:V}{i:Nat}{at_:List (Nm×V)}(e:inst? h v=some (i,at_))(k:v= .ref i→h.o i=some (.inst .ao at_)→P):P:=by
 induction v with
 |ref j=>
  have e:(match h.o j with|some (.inst .ao a)=>some (j,a)|_=>none)=some (i,at_):=e
  cases q:h.o j with
  |none=>rw[q]at e;exact none_ne e
  |some o=>
   rw[q]at e
   induction o with
   |inst c a=>
    induction c with
    |ao=>exact SP (P:=fun i at_=>(V.ref j= .ref i→h.o i=some (.inst .ao at_)→P)→P) e (fun k=>k rfl q) k
    |_=>exact none_ne e
   |_=>exact none_ne e
 |_=>exact none_ne e
theorem zd{h:H}{i:Nat}{x:Option V}{r:V×H}(e:lX h i x=some r)(k: ∀f,x=some (.fn f)→some (V.ref h.n,h.push (.bg f (.ref i)))=some r→P)(k2: ∀v,x=some v→(∀f,v≠ .fn f)→some (v,h)=some r→P):P:=by
 induction x with
 |none=>exact none_ne e
 |some v=>
  induction v with
  |fn f=>exact k f rfl e
  |_=>exact k2 _ rfl (fun _ q=>V.noConfusion q) e
theorem zf{fs:List V}{x:Option V}{r:V×List V}(e:pW fs x=some r)(k: ∀f,x=some (.fn f)→some (V.fn f,fs)=some r→P):P:=by
 induction x with
 |none=>exact none_ne e
 |some v=>
  induction v with
  |fn f=>exact k f rfl e
  |_=>exact none_ne e
theorem FG{C:Cx}{o:Option O}{xs:List V}{ks:List (Nm×V)}{h:H}{r:CR×H}(e:uX C o xs ks h=some r)(k: ∀g self,o=some (.bg g self)→C.call g (self::xs) ks h=some r→P):P:=by
 induction o with
 |none=>exact none_ne e
 |some o=>
  induction o with
  |bg g self=>exact k g self rfl e
  |_=>exact none_ne e
theorem FH{n:Nat}{x:Option (CR×H)}{r:CR×H}(e:uY n x=some r)(k: ∀h2,x=some (.ret .none,h2)→some (.ret (.ref n),h2)=some r→P):P:=by
 induction x with
 |none=>exact none_ne e
 |some p=>
  obtain⟨c,h2⟩:=p
  induction c with
  |ret v=>
   induction v with
   |none=>exact k h2 rfl e
   |_=>exact none_ne e
  |exc _=>exact none_ne e
theorem su{x:Option (CR×H)}{f:V→H→Option γ}{g:Cl→H→Option γ}(e:(match x with|some (.ret v,h)=>f v h|some (.exc c,h)=>g c h|none=>none)=some r)(k1: ∀v h,x=some (.ret v,h)→f v h=some r→P)(k2: ∀c h,x=some (.exc c,h)→g c h=some r→P):P:=by
 induction x with
 |none=>exact none_ne e
 |some p=>
  obtain⟨c,h⟩:=p
  induction c with
  |ret v=>exact k1 v h rfl e
  |exc c=>exact k2 c h rfl e
theorem sv{x:Option (V×H)}{r:CR×H}(e:i4 x=some r)(k: ∀v h,x=some (v,h)→some (CR.ret v,h)=some r→P):P:=by
 induction x with
 |none=>exact none_ne e
 |some p=>exact k p.1 p.2 rfl e
theorem sy{x:Option (CR×H)}{r:V×H}(e:n9 x=some r)(k: ∀v h,x=some (.ret v,h)→some (v,h)=some r→P):P:=by
 induction x with
 |none=>exact none_ne e
 |some p=>
  obtain⟨c,h⟩:=p
  induction c with
  |ret v=>exact k v h rfl e
  |exc _=>exact none_ne e
theorem FI{C:Cx}{l:L}{x:X}{h:H}{r:CR×H}(e:dX C l x h=some r)(k1: ∀f xs ks,x= .call f xs ks→ ∀fv h1,ev C l f h=some (fv,h1)→ ∀vs h2,cz C l xs h1=some (vs,h2)→C.go fv (split vs ks).1 (split vs ks).2 h2=some r→P)
 (k2: ∀y n xs ks,x= .bg y n xs ks→ ∀a h1,ev C l y h=some (a,h1)→ ∀f fst,gf h1 a n=some (f,fst)→ ∀vs h2,cz C l xs h1=some (vs,h2)→C.go f (fst++(split vs ks).1) (split vs ks).2 h2=some r→P)
 (k3: ∀v h1,ev C l x h=some (v,h1)→some (CR.ret v,h1)=some r→P):P:=by
 have k3:i4 (ev C l x h)=some r→P:=fun e=>sv e k3
 cases x with
 |call f xs ks=>exact mA e fun fv h1 e2 e3=>mL e3 fun vs h2 e4 e5=>k1 f xs ks rfl fv h1 e2 vs h2 e4 e5
 |bg y n xs ks=>exact mA e fun a h1 e2 e3=>mK e3 fun f fst e4 e5=>mL e5 fun vs h2 e6 e7=>k2 y n xs ks rfl a h1 e2 f fst e4 vs h2 e6 e7
 |_=>exact k3 e
theorem FJ{x:Option (Bool×H)}{f:H→Option γ}(e:(match x with|some (true,h)=>f h|_=>none)=some r)(k: ∀h,x=some (true,h)→f h=some r→P):P:=by
 induction x with
 |none=>exact none_ne e
 |some p=>
  obtain⟨b,h⟩:=p
  induction b with
  |true=>exact k h rfl e
  |false=>exact none_ne e
noncomputable def sA(f:Fl)(l:L)(h:H)(y:L→H→Option (Fl×L×H))(r:Fl×L×H):Prop:=match f with
 | .next=>y l h=some r
 | .cont=>y l h=some r
 | .brk=>some (Fl.next,l,h)=some r
 |f=>some (f,l,h)=some r
theorem FK{x:Option (Fl×L×H)}{y:L→H→Option (Fl×L×H)}{r:Fl×L×H}(e:(match x with|some (.next,l,h)|some (.cont,l,h)=>y l h|some (.brk,l,h)=>some (.next,l,h)|r=>r)=some r)(k: ∀f l h,x=some (f,l,h)→sA f l h y r→P):P:=by
 induction x with
 |none=>exact none_ne e
 |some p=>
  obtain⟨f,l,h⟩:=p
  exact k f l h rfl (by induction f<;>exact e)
noncomputable def zg(go:L→H→Option (Fl×L×H)):Option (Fl×L×H)→Option (Fl×L×H)
 |some (.next,l,h)|some (.cont,l,h)=>go l h
 |some (.brk,l,h)=>some (.next,l,h)
 |some (.ret v,l,h)=>some (.ret v,l,h)
 |_=>none
theorem FL{t:L→H→Option (Bool×H)}{body:L→H→Option (Fl×L×H)}{n:Nat}{l:L}{h:H}{r:Fl×L×H}(e:c7 t body (n+1) l h=some r)(k1: ∀h1,t l h=some (false,h1)→some (Fl.next,l,h1)=some r→P)
 (k2: ∀h1,t l h=some (true,h1)→ ∀f l2 h2,body l h1=some (f,l2,h2)→sA f l2 h2 (c7 t body n) r→P):P:=by
 have e:(match t l h with
  |some (false,h)=>some (Fl.next,l,h)
  |some (true,h)=>zg (c7 t body n) (body l h)
  |none=>none)=some r:=e
 cases q:t l h with
 |none=>rw[q]at e;exact none_ne e
 |some p=>
  obtain⟨b,h1⟩:=p
  rw[q]at e
  induction b with
  |false=>exact k1 h1 q e
  |true=>
   have e:zg (c7 t body n) (body l h1)=some r:=e
   cases q2:body l h1 with
   |none=>rw[q2]at e;exact none_ne e
   |some p=>
    obtain⟨f,l2,h2⟩:=p
    rw[q2]at e
    refine k2 h1 q f l2 h2 q2 ?_
    induction f with
    |exc c=>exact none_ne e
    |_=>exact e
theorem oB{x:Option (List (Nm×V))}{f:List (Nm×V)→Option γ}(e:(match x with|some a=>f a|none=>none)=some r)(k: ∀a,x=some a→f a=some r→P):P:=by
 induction x with
 |none=>exact none_ne e
 |some a=>exact k a rfl e
theorem oF{x:Option eQ}{f:eQ→Option γ}(e:(match x with|some a=>f a|none=>none)=some r)(k: ∀a,x=some a→f a=some r→P):P:=by
 induction x with
 |none=>exact none_ne e
 |some a=>exact k a rfl e
theorem zh{x:Option (Fl×L×H)}{r:CR×H}(e:og x=some r)(k1: ∀l h,x=some (.next,l,h)→some (CR.ret .none,h)=some r→P)(k2: ∀v l h,x=some (.ret v,l,h)→some (CR.ret v,h)=some r→P)(k3: ∀c l h,x=some (.exc c,l,h)→some (CR.exc c,h)=some r→P):P:=by
 induction x with
 |none=>exact none_ne e
 |some p=>
  obtain⟨f,l,h⟩:=p
  induction f with
  |next=>exact k1 l h rfl e
  |ret v=>exact k2 v l h rfl e
  |exc c=>exact k3 c l h rfl e
  |_=>exact none_ne e
end
end CC
namespace CC
open PySem PySem.W PySem.Calls PyProof.Rows
noncomputable def Nm.strs:List Str:=List.map Str.ofString ["kind","value","self","_pos","x","v","_state","_accept","width","bytealign","BitParser","__init__","reset","data","byte","EOFB","ByteSkip","_parse_mode","MODE","m","_parse_bit","mode","_do_pass","_flush_line","_n1","_parse_horiz1","_color","WHITE","BLACK","_parse_uncompressed","UNCOMPRESSED","_do_vertical","InvalidData","n","_n2","_parse_horiz2","_do_horizontal","_y","_curline","_reset_line","_refline","_curpos","output_line","dx","x1","x0","n1","n2","_","reversed","CCITTG4Parser","_buf","y","bits","arr","b","i","params","K","cols","int","Columns","cast","bool","EncodedByteAlign","BlackIs1","parser","CCITTFaxDecoder","PDFValueError","feedbytes","close","size","white","near","_law_white","_law_black","_law_white_far","_law_black_far","row","above","wide","picks","told","codes","place","k","one","two","j","first","second","ways","way","_law_vertical","_law_run","black","end","numbers","rows","number","rest","others","script","head","align","ending","few","_law_picture","_law_line","due","_law_octets","_law_end","_law_pack","got","ccittfaxdecode","_law_no_code","refused","other","part","PDFException"]
noncomputable def Nm.str (n:Nm):Str:=Nm.strs.getD n.ctorIdx "kind"
theorem Nm.idx (n:Nm):Nat.blt n.ctorIdx 120=true:=by induction n<;>exact Eq.refl true
theorem Nm.FM {n m:Nm} (e:n.ctorIdx=m.ctorIdx):n=m:=(Nm.ofNat_ctorIdx n).symm.trans ((congrArg Nm.ofNat e).trans (Nm.ofNat_ctorIdx m))
theorem Nm.sB {P:Str→Bool} (h:Nm.strs.all P=true) (n:Nm):P n.str=true:=by
 have lt:n.ctorIdx<Nm.strs.length:=Nat.le_of_ble_eq_true n.idx
 rw[Nm.str,List.getD_eq_getElem?_getD,List.getElem?_eq_getElem lt]
 exact List.all_eq_true.mp h _ (List.getElem_mem lt)
theorem Nm.str_inj {n m:Nm} (e:n.str=m.str):n=m:=by
 have l1:n.ctorIdx<Nm.strs.length:=Nat.le_of_ble_eq_true n.idx
 have l2:m.ctorIdx<Nm.strs.length:=Nat.le_of_ble_eq_true m.idx
 rw[Nm.str,Nm.str,List.getD_eq_getElem?_getD,List.getD_eq_getElem?_getD,List.getElem?_eq_getElem l1,List.getElem?_eq_getElem l2]at e
 have nd:Nm.strs.Nodup:=by decide+kernel
 exact Nm.FM ((List.getElem_inj nd).mp (by simpa only[Option.getD_some]using e))
noncomputable def cx.op:cx→Operator
 | .add=> .Add| .sub=> .Sub| .mul=> .Mult| .div=> .FloorDiv| .mod=> .Mod| .shl=> .LShift| .band=> .BitAnd
noncomputable def fZ.op:fZ→CmpOp
 | .eq=> .Eq| .ne=> .NotEq| .lt=> .Lt| .le=> .LtE| .gt=> .Gt| .ge=> .GtE| .is=> .Is| .pU=> .IsNot| .isin=> .In| .jA=> .NotIn
noncomputable def kK(sc:Scope)(n:Nm):Bool:=match sc.names.lookup n.str with
 |some .local|some .cell|some .free=>true
 |_=>false
noncomputable def sE(sc:Scope)(x:Str):Bool:=sc.names.lookup x==some .globalImplicit
noncomputable def i5:PySem.Expr→Nat
 | .Starred .. =>1
 | .Call .. =>2
 | .ListComp .. | .SetComp .. | .DictComp .. =>3
 | .Slice .. =>4
 | .Attribute .. =>5
 | .Name .. =>6
 | .Set .. =>7
 | .BoolOp .. | .IfExp .. | .Compare .. | .UnaryOp .. =>8
 |_=>0
noncomputable def aW(e:PySem.Expr):Bool:= !(i5 e).beq 1
noncomputable def jI(e:PySem.Expr):Bool:= !(i5 e).beq 2
noncomputable def fc(e:PySem.Expr):Bool:=(i5 e).beq 3
noncomputable def hP(e:PySem.Expr):Bool:= !(i5 e).beq 4
noncomputable def oi(e:PySem.Expr):Bool:=(i5 e).beq 5
noncomputable def sF(e:PySem.Expr):Bool:=(i5 e).beq 6
noncomputable def FN(e:PySem.Expr):Bool:= !(i5 e).beq 7
noncomputable def zi(e:PySem.Expr):Bool:= !(i5 e).beq 8
noncomputable def l7(env:Scope)(sc:Scope):Scope:=
 {sc with names:=sc.names.map fun(n,k)=>if k== .free&&env.kind== .function&&env.names.lookup n==some .cell then(n,.cell)else(n,k)}
noncomputable def sG(sc s:Scope)(n:Nm):Bool:=
 s.kind== .function&& !s.isCoroutine&&s.names.lookup n.str==some .local&&s.names.all fun(x,k)=>
  k != .cell&&(k != .free||sc.names.lookup x==some .cell)&&(k != .local||x==n.str||x== ".0")&&s.names.lookup x==some k
noncomputable def bA:PySem.Expr→List PySem.Expr
 | .BoolOp _ es _=>es
 | .BinOp a _ b _=>[a,b]
 | .UnaryOp _ a _=>[a]
 | .IfExp c a b _=>[c,a,b]
 | .Dict _ es _=>es
 | .ListComp a gs _ _=>a::gs.flatMap fun g=>g.iter::g.target::g.ifs
 | .Compare a _ bs _=>a::bs
 | .Call f as _ _=>f::as
 | .Attribute a _ _=>[a]
 | .Subscript a b _=>[a,b]
 | .List es _=>es
 | .Tuple es _ _=>es
 | .Slice a b _ _=>a.toList++b.toList
 |_=>[]
noncomputable def ad(e:PySem.Expr)(i:Nat):PySem.Expr:=(bA e).getD i e
structure Ex where
 k:Nat:=0
 sc:Scope:=default
 keys:List (Option PySem.Expr):=[]
 aI:List Keyword:=[]
 name:Str:= ""
noncomputable def pZ:PySem.Expr→Ex
 | .Constant _ k _=>{k}
 | .Tuple _ k _=>{k}
 | .ListComp _ _ sc _=>{sc}
 | .Dict keys _ _=>{keys}
 | .Call _ _ aI _=>{aI}
 | .Name name _=>{name}
 |_=>{}
abbrev eR(e:PySem.Expr):Nat:=(pZ e).k
abbrev l9(e:PySem.Expr):Scope:=(pZ e).sc
abbrev p9(e:PySem.Expr):List (Option PySem.Expr):=(pZ e).keys
abbrev eS(e:PySem.Expr):List Keyword:=(pZ e).aI
abbrev E0:PySem.Expr:=default
abbrev dY(es:List PySem.Expr):PySem.Expr:=es.headD E0
noncomputable def vd(es:List Keyword):Keyword:=es.headD default
noncomputable def ve:List Int→List PySem.Expr→List PySem.Expr
 |[],_=>[]
 |i::l,es=> .Constant (.int i) (eR (dY es)) (dY es).pos::ve l es.tail
noncomputable def i6:List Nm→List (Option PySem.Expr)→List (Option PySem.Expr)
 |[],_=>[]
 |k::l,os=>some (.Constant (.str k.str) (eR ((os.headD none).getD E0)) ((os.headD none).getD E0).pos)::i6 l os.tail
noncomputable def gL(e:PySem.Expr)(as:List PySem.Expr):PySem.Expr:= .Call (ad e 0) as [] e.pos
noncomputable def oj(e a:PySem.Expr)(m:Str)(as:List PySem.Expr)(aI:List Keyword):PySem.Expr:= .Call (.Attribute a m (ad e 0).pos) as aI e.pos
mutual
noncomputable def aB:X→PySem.Expr→PySem.Expr
 | .loc n,e=> .Name n.str e.pos
 | .glob n,e=> .Name n.str e.pos
 | .int i,e=> .Constant (.int i) (eR e) e.pos
 | .str s,e=> .Constant (.str ⟨s.toArray⟩) (eR e) e.pos
 | .bytes s,e=> .Constant (.bytes s) (eR e) e.pos
 | .bool b,e=> .Constant (.bool b) (eR e) e.pos
 | .none,e=> .Constant .none (eR e) e.pos
 | .neg x,e=> .UnaryOp .USub (aB x (ad e 0)) e.pos
 | .bin o x y,e=> .BinOp (aB x (ad e 0)) o.op (aB y (ad e 1)) e.pos
 | .cmp o x y,e=> .Compare (aB x (ad e 0)) [o.op] [aB y (ad e 1)] e.pos
 | .and xs,e=> .BoolOp .And (eG xs (bA e)) e.pos
 | .bz t x y,e=> .IfExp (hU t (ad e 0)) (aB x (ad e 1)) (aB y (ad e 2)) e.pos
 | .sub x i,e=> .Subscript (aB x (ad e 0)) (aB i (ad e 1)) e.pos
 | .fE x l h,e=> .Subscript (aB x (ad e 0)) (.Slice (some (aB l (ad (ad e 1) 0))) (some (aB h (ad (ad e 1) 1))) none (ad e 1).pos) e.pos
 | .fF x l,e=> .Subscript (aB x (ad e 0)) (.Slice (some (aB l (ad (ad e 1) 0))) none none (ad e 1).pos) e.pos
 | .eP x h,e=> .Subscript (aB x (ad e 0)) (.Slice none (some (aB h (ad (ad e 1) 0))) none (ad e 1).pos) e.pos
 | .kB t i,e=> .Subscript (.Tuple (ve t (bA (ad e 0))) (eR (ad e 0)) (ad e 0).pos) (aB i (ad e 1)) e.pos
 | .attr x n,e=> .Attribute (aB x (ad e 0)) n.str e.pos
 | .list xs,e=> .List (eG xs (bA e)) e.pos
 | .dict ks xs,e=> .Dict (i6 ks (p9 e)) (eG xs (bA e)) e.pos
 | .comp x n it,e=> .ListComp (aB x (ad e 0)) [⟨.Name n.str (ad e 2).pos,gM it (ad e 1),[],0⟩] (l9 e) e.pos
 | .iT x n it c,e=> .ListComp (aB x (ad e 0)) [⟨.Name n.str (ad e 2).pos,gM it (ad e 1),[hU c (ad e 3)],0⟩] (l9 e) e.pos
 | .len x,e=>gL e [aB x (ad e 1)]
 | .max2 x y,e=>gL e [aB x (ad e 1),aB y (ad e 2)]
 | .min2 x y,e=>gL e [aB x (ad e 1),aB y (ad e 2)]
 | .sorted x,e=>gL e [aB x (ad e 1)]
 | .bytesOf x,e=>gL e [aB x (ad e 1)]
 | .kC x,e=>gL e [aB x (ad e 1),.Constant (.int 2) (eR (ad e 2)) (ad e 2).pos]
 | .fG x _,e=>gL e [aB x (ad e 1),ad e 2]
 | .toBytes x n,e=>oj e (aB x (ad (ad e 0) 0)) "to_bytes" [aB n (ad e 1),.Constant (.str "big") (eR (ad e 2)) (ad e 2).pos] []
 | .join x y,e=>oj e (aB x (ad (ad e 0) 0)) "join" [aB y (ad e 1)] []
 | .append x y,e=>oj e (aB x (ad (ad e 0) 0)) "append" [aB y (ad e 1)] []
 | .iU x k,e=>oj e (aB x (ad (ad e 0) 0)) "get" [.Constant (.str k.str) (eR (ad e 1)) (ad e 1).pos] []
 | .call f xs ks,e=> .Call (aB f (ad e 0)) (hV xs (bA e).tail) (hW xs (bA e).tail (eS e) ks) e.pos
 | .bg x n xs ks,e=>oj e (aB x (ad (ad e 0) 0)) n.str (hV xs (bA e).tail) (hW xs (bA e).tail (eS e) ks)
noncomputable def eG:XS→List PySem.Expr→List PySem.Expr
 | .nil,_=>[]
 | .cons x xs,es=>aB x (dY es)::eG xs es.tail
noncomputable def hV:XS→List PySem.Expr→List PySem.Expr
 | .nil,_=>[]
 | .cons _ _,[]=>[]
 | .cons x xs,a::r=>aB x a::hV xs r
noncomputable def hW:XS→List PySem.Expr→List Keyword→List Nm→List Keyword
 | .nil,_,_,_=>[]
 | .cons _ xs,_::r,aI,ks=>hW xs r aI ks
 | .cons x xs,[],aI,ks=>⟨some (ks.headD .self).str,aB x (vd aI).value,(vd aI).pos⟩::hW xs [] aI.tail ks.tail
noncomputable def hU:Q→PySem.Expr→PySem.Expr
 | .tr x,e=>aB x e
 | .not x,e=> .UnaryOp .Not (hU x (ad e 0)) e.pos
 | .and xs,e=> .BoolOp .And (md xs (bA e)) e.pos
 | .or xs,e=> .BoolOp .Or (md xs (bA e)) e.pos
 | .cmp o x y,e=> .Compare (aB x (ad e 0)) [o.op] [aB y (ad e 1)] e.pos
 | .fH o p x y z,e=> .Compare (aB x (ad e 0)) [o.op,p.op] [aB y (ad e 1),aB z (ad e 2)] e.pos
noncomputable def md:QS→List PySem.Expr→List PySem.Expr
 | .nil,_=>[]
 | .cons x xs,es=>hU x (dY es)::md xs es.tail
noncomputable def gM:It→PySem.Expr→PySem.Expr
 | .val x,e=>aB x e
 | .jB x,e=>gL e [aB x (ad e 1)]
 | .gb x y,e=>gL e [aB x (ad e 1),aB y (ad e 2)]
 | .jC x y z,e=>gL e [aB x (ad e 1),aB y (ad e 2),aB z (ad e 3)]
 | .tup xs,e=> .Tuple (eG xs (bA e)) (eR e) e.pos
 | .enum x,e=>gL e [aB x (ad e 1)]
 | .gen x,e=>gL e [aB x (ad e 1)]
end
noncomputable def jJ(sc:Scope)(x:Str)(f:PySem.Expr):Bool:=sF f&&(pZ f).name==x&&sE sc x
noncomputable def Ty.str:Ty→Str
 | .list=> "list" | .int=> "int" | .bytes=> "bytes"
noncomputable def gN(sc:Scope)(x:Str)(e:PySem.Expr):Bool:=jJ sc x (ad e 0)
noncomputable def me(e:PySem.Expr):Bool:=jI (ad (ad e 0) 0)&&(ad e 0).pos.endLine==e.pos.line
mutual
noncomputable def aP(sc:Scope):X→PySem.Expr→Bool
 | .loc n,_=>kK sc n
 | .glob n,_=>sE sc n.str
 | .neg x,e=>aP sc x (ad e 0)
 | .bin _ x y,e=>aP sc x (ad e 0)&&aP sc y (ad e 1)
 | .cmp o x y,e=>aP sc x (ad e 0)&&aP sc y (ad e 1)&& !behindInMarks o.op (ad e 1)
 | .and xs,e=>sI sc xs (bA e)
 | .bz t x y,e=>jK sc t (ad e 0)&&aP sc x (ad e 1)&&aP sc y (ad e 2)
 | .sub x i,e=>aP sc x (ad e 0)&&aP sc i (ad e 1)&&hP (ad e 1)
 | .fE x l h,e=>aP sc x (ad e 0)&&aP sc l (ad (ad e 1) 0)&&aP sc h (ad (ad e 1) 1)
 | .fF x l,e=>aP sc x (ad e 0)&&aP sc l (ad (ad e 1) 0)
 | .eP x h,e=>aP sc x (ad e 0)&&aP sc h (ad (ad e 1) 0)
 | .kB _ i,e=>aP sc i (ad e 1)&&hP (ad e 1)
 | .attr x _,e=>aP sc x (ad e 0)&&jI (ad e 0)
 | .list xs,e=>ol sc xs (bA e)
 | .dict _ xs,e=>ol sc xs (bA e)
 | .comp x n it,e=>om sc it (ad e 1)&&aP (l7 sc (l9 e)) x (ad e 0)&&sG sc (l9 e) n
 | .iT x n it c,e=>om sc it (ad e 1)&&aP (l7 sc (l9 e)) x (ad e 0)&&sG sc (l9 e) n&&jK (l7 sc (l9 e)) c (ad e 3)
 | .len x,e=>aP sc x (ad e 1)&&gN sc "len" e&&aW (ad e 1)
 | .max2 x y,e=>aP sc x (ad e 1)&&aP sc y (ad e 2)&&gN sc "max" e&&aW (ad e 1)&&aW (ad e 2)
 | .min2 x y,e=>aP sc x (ad e 1)&&aP sc y (ad e 2)&&gN sc "min" e&&aW (ad e 1)&&aW (ad e 2)
 | .sorted x,e=>aP sc x (ad e 1)&&gN sc "sorted" e&&aW (ad e 1)
 | .bytesOf x,e=>aP sc x (ad e 1)&&gN sc "bytes" e&&aW (ad e 1)
 | .kC x,e=>aP sc x (ad e 1)&&gN sc "int" e&&aW (ad e 1)
 | .fG x t,e=>aP sc x (ad e 1)&&gN sc "isinstance" e&&aW (ad e 1)&&jJ sc t.str (ad e 2)
 | .toBytes x n,e=>aP sc x (ad (ad e 0) 0)&&aP sc n (ad e 1)&&me e&&aW (ad e 1)
 | .join x y,e=>aP sc x (ad (ad e 0) 0)&&aP sc y (ad e 1)&&me e&&aW (ad e 1)
 | .append x y,e=>aP sc x (ad (ad e 0) 0)&&aP sc y (ad e 1)&&me e&&aW (ad e 1)
 | .iU x _,e=>aP sc x (ad (ad e 0) 0)&&me e
 | .call f xs ks,e=>aP sc f (ad e 0)&& !oi (ad e 0)&&qb sc xs (bA e).tail (eS e) ks&&Nat.ble ((bA e).tail.length+2*(eS e).length) 20
 | .bg x _ xs ks,e=>aP sc x (ad (ad e 0) 0)&&me e&&qb sc xs (bA e).tail (eS e) ks&&Nat.ble ((bA e).tail.length+2*(eS e).length) 20
 |_,_=>true
noncomputable def sI(sc:Scope):XS→List PySem.Expr→Bool
 | .nil,_=>true
 | .cons x xs,es=>aP sc x (dY es)&&sI sc xs es.tail
noncomputable def ol(sc:Scope):XS→List PySem.Expr→Bool
 | .nil,_=>true
 | .cons x xs,es=>aP sc x (dY es)&&aW (dY es)&&ol sc xs es.tail
noncomputable def qb(sc:Scope):XS→List PySem.Expr→List Keyword→List Nm→Bool
 | .nil,_,_,ks=>ks.isEmpty
 | .cons x xs,a::r,aI,ks=>aP sc x a&&aW a&&qb sc xs r aI ks
 | .cons x xs,[],aI,ks=> !ks.isEmpty&&aP sc x (vd aI).value&&qb sc xs [] aI.tail ks.tail
noncomputable def jK(sc:Scope):Q→PySem.Expr→Bool
 | .tr x,e=>aP sc x e&&zi e
 | .not x,e=>jK sc x (ad e 0)
 | .and xs,e=>qc sc xs (bA e)
 | .or xs,e=>qc sc xs (bA e)
 | .cmp o x y,e=>aP sc x (ad e 0)&&aP sc y (ad e 1)&& !behindInMarks o.op (ad e 1)
 | .fH _ p x y z,e=>aP sc x (ad e 0)&&aP sc y (ad e 1)&&aP sc z (ad e 2)&& !behindInMarks p.op (ad e 2)
noncomputable def qc(sc:Scope):QS→List PySem.Expr→Bool
 | .nil,_=>true
 | .cons x xs,es=>jK sc x (dY es)&&qc sc xs es.tail
noncomputable def om(sc:Scope):It→PySem.Expr→Bool
 | .val x,e=>aP sc x e
 | .jB x,e=>aP sc x (ad e 1)&&gN sc "range" e&&aW (ad e 1)
 | .gb x y,e=>aP sc x (ad e 1)&&aP sc y (ad e 2)&&gN sc "range" e&&aW (ad e 1)&&aW (ad e 2)
 | .jC x y z,e=>aP sc x (ad e 1)&&aP sc y (ad e 2)&&aP sc z (ad e 3)&&gN sc "range" e&&aW (ad e 1)&&aW (ad e 2)&&aW (ad e 3)
 | .tup xs,e=>ol sc xs (bA e)
 | .enum x,e=>aP sc x (ad e 1)&&gN sc "enumerate" e&&aW (ad e 1)
 | .gen x,e=>aP sc x (ad e 1)&&gN sc "get_bytes" e&&aW (ad e 1)
end
structure Sx where
 es:List PySem.Expr:=[]
 a:List Stmt:=[]
 b:List Stmt:=[]
 hs:List ExceptHandler:=[]
noncomputable def sx:Stmt→Sx
 | .Assign ts a _=>{es:=a::ts}
 | .AugAssign t _ a _=>{es:=[t,a]}
 | .Expr a _=>{es:=[a]}
 | .If c a b _=>{es:=[c],a,b}
 | .While c a _ _=>{es:=[c],a}
 | .For t i a _ _=>{es:=[t,i],a}
 | .Return a _=>{es:=a.toList}
 | .Assert c _ _=>{es:=[c]}
 | .Raise a _ _=>{es:=a.toList}
 | .Try a hs _ _ _=>{a,hs}
 |_=>{}
noncomputable def sk(e:Stmt)(i:Nat):PySem.Expr:=(sx e).es.getD i E0
abbrev sb(e:Stmt):List Stmt:=(sx e).a
noncomputable def S0:Stmt:= .Pass default
structure Hx where
 t:PySem.Expr:=E0
 b:List Stmt:=[]
 p:Pos:=default
noncomputable def hx(hs:List ExceptHandler):Hx:=match hs with
 | .ExceptHandler (some t) _ b p::_=>{t,b,p}
 |_=>{}
noncomputable def nameAt(n:Nm)(e:PySem.Expr):PySem.Expr:= .Name n.str e.pos
noncomputable def sJ(b m:Nm)(e:PySem.Expr):PySem.Expr:= .Attribute (nameAt b (ad e 0)) m.str e.pos
noncomputable def zj:HT→PySem.Expr→PySem.Expr
 | .at_ b m,e=>sJ b m e
 | .gl n,e=>nameAt n e
noncomputable def zk:HA→Stmt→Stmt
 | .dk a n b m,e=> .Assign [sJ a n (sk e 1)] (sJ b m (sk e 0)) e.pos
 | .setB n v,e=> .Assign [nameAt n (sk e 1)] (.Constant (.bool v) (eR (sk e 0)) (sk e 0).pos) e.pos
 | .brk,e=> .Break e.pos
 | .lU v,e=> .Return (some (.Constant (.bool v) (eR (sk e 0)) (sk e 0).pos)) e.pos
noncomputable def qe:List HA→List Stmt→List Stmt
 |[],_=>[]
 |a::r,es=>zk a (es.headD S0)::qe r es.tail
mutual
noncomputable def qf:S→Stmt→Stmt
 | .assign n x,e=> .Assign [nameAt n (sk e 1)] (aB x (sk e 0)) e.pos
 | .bS x n y,e=> .Assign [.Attribute (aB x (ad (sk e 1) 0)) n.str (sk e 1).pos] (aB y (sk e 0)) e.pos
 | .gc x i y,e=> .Assign [.Subscript (aB x (ad (sk e 1) 0)) (aB i (ad (sk e 1) 1)) (sk e 1).pos] (aB y (sk e 0)) e.pos
 | .fI x k y,e=> .Assign [.Subscript (aB x (ad (sk e 1) 0)) (.Constant (.str k.str) (eR (ad (sk e 1) 1)) (ad (sk e 1) 1).pos) (sk e 1).pos] (aB y (sk e 0)) e.pos
 | .aug n o x,e=> .AugAssign (nameAt n (sk e 0)) o.op (aB x (sk e 1)) e.pos
 | .hM x n o y,e=> .AugAssign (.Attribute (aB x (ad (sk e 0) 0)) n.str (sk e 0).pos) o.op (aB y (sk e 1)) e.pos
 | .kD x i o y,e=> .AugAssign (.Subscript (aB x (ad (sk e 0) 0)) (aB i (ad (sk e 0) 1)) (sk e 0).pos) o.op (aB y (sk e 1)) e.pos
 | .expr x,e=> .Expr (aB x (sk e 0)) e.pos
 | .ifs t a b,e=> .If (hU t (sk e 0)) (fK a (sb e)) (fK b (sx e).b) e.pos
 | .gK t b,e=> .While (hU t (sk e 0)) (fK b (sb e)) [] e.pos
 | .bK n it b,e=> .For (nameAt n (sk e 0)) (gM it (sk e 1)) (fK b (sb e)) [] e.pos
 | .kE n m it b,e=> .For (.Tuple [nameAt n (ad (sk e 0) 0),nameAt m (ad (sk e 0) 1)] (eR (sk e 0)) (sk e 0).pos) (gM it (sk e 1)) (fK b (sb e)) [] e.pos
 | .ret x,e=> .Return (some (aB x (sk e 0))) e.pos
 | .brk,e=> .Break e.pos
 | .assert t,e=> .Assert (hU t (sk e 0)) none e.pos
 | .iV x,e=> .Raise (some (aB x (sk e 0))) none e.pos
 | .n5 x n y,e=> .Raise (some (oj (sk e 0) (aB x (ad (ad (sk e 0) 0) 0)) n.str [aB y (ad (sk e 0) 1)] [])) none e.pos
 | .lV x y,e=> .Raise (some (.Call (aB x (ad (sk e 0) 0)) [aB y (ad (sk e 0) 1)] [] (sk e 0).pos)) none e.pos
 | .eZ b hs,e=> .Try (fK b (sb e)) (hY hs (sx e).hs) [] [] e.pos
noncomputable def fK:SS→List Stmt→List Stmt
 | .nil,_=>[]
 | .cons s r,es=>qf s (es.headD S0)::fK r es.tail
noncomputable def hY:HS→List ExceptHandler→List ExceptHandler
 | .nil,_=>[]
 | .cons t b r,es=> .ExceptHandler (some (zj t (hx es).t)) none (qe b (hx es).b) (hx es).p::hY r es.tail
end
noncomputable def slot(sc:Scope)(n:Nm):Bool:=sc.names.lookup n.str==some .local||sc.names.lookup n.str==some .cell
noncomputable def zm(sc:Scope):HT→PySem.Expr→Bool
 | .at_ b _,_=>kK sc b
 | .gl n,_=>sE sc n.str
noncomputable def zn(sc:Scope):HA→Stmt→Bool
 | .dk a _ b _,_=>kK sc a&&kK sc b
 | .setB n _,_=>slot sc n
 |_,_=>true
noncomputable def vf(sc:Scope):List HA→List Stmt→Bool
 |[],_=>true
 |a::r,es=>zn sc a (es.headD S0)&&vf sc r es.tail
mutual
noncomputable def vg(sc:Scope):S→Stmt→Bool
 | .assign n x,e=>slot sc n&&aP sc x (sk e 0)
 | .bS x _ y,e=>aP sc x (ad (sk e 1) 0)&&aP sc y (sk e 0)&& !fc (sk e 0)
 | .gc x i y,e=>aP sc x (ad (sk e 1) 0)&&aP sc i (ad (sk e 1) 1)&&aP sc y (sk e 0)&& !fc (sk e 0)&&hP (ad (sk e 1) 1)
 | .fI x _ y,e=>aP sc x (ad (sk e 1) 0)&&aP sc y (sk e 0)&& !fc (sk e 0)
 | .aug n _ x,e=>slot sc n&&aP sc x (sk e 1)
 | .hM x _ _ y,e=>aP sc x (ad (sk e 0) 0)&&aP sc y (sk e 1)
 | .kD x i _ y,e=>aP sc x (ad (sk e 0) 0)&&aP sc i (ad (sk e 0) 1)&&aP sc y (sk e 1)&&hP (ad (sk e 0) 1)
 | .expr x,e=>aP sc x (sk e 0)&& !fc (sk e 0)
 | .ifs t a b,e=>jK sc t (sk e 0)&&i7 sc a (sb e)&&i7 sc b (sx e).b
 | .gK t b,e=>jK sc t (sk e 0)&&i7 sc b (sb e)
 | .bK n it b,e=>slot sc n&&om sc it (sk e 1)&&i7 sc b (sb e)&&FN (sk e 1)
 | .kE n m it b,e=>slot sc n&&slot sc m&&om sc it (sk e 1)&&i7 sc b (sb e)&&n.str !=m.str
 | .ret x,e=>aP sc x (sk e 0)
 | .brk,_=>true
 | .assert t,e=>jK sc t (sk e 0)
 | .iV x,e=>aP sc x (sk e 0)&&oi (sk e 0)
 | .n5 x _ y,e=>aP sc x (ad (ad (sk e 0) 0) 0)&&aP sc y (ad (sk e 0) 1)&&me (sk e 0)&&aW (ad (sk e 0) 1)
 | .lV x y,e=>aP sc x (ad (sk e 0) 0)&&aP sc y (ad (sk e 0) 1)&&aW (ad (sk e 0) 1)&&sF (ad (sk e 0) 0)
 | .eZ b hs,e=>i7 sc b (sb e)&&sK sc hs (sx e).hs&& !(sx e).hs.isEmpty
noncomputable def i7(sc:Scope):SS→List Stmt→Bool
 | .nil,_=>true
 | .cons s r,es=>vg sc s (es.headD S0)&&i7 sc r es.tail
noncomputable def sK(sc:Scope):HS→List ExceptHandler→Bool
 | .nil,_=>true
 | .cons t b r,es=>zm sc t (hx es).t&&vf sc b (hx es).b&&sK sc r es.tail&& !(hx es).b.isEmpty
end
section
variable(sc:Scope)
noncomputable def cN(x:X)(e:PySem.Expr):Prop:=aB x e=e∧aP sc x e=true
noncomputable def mf(x:XS)(e:List PySem.Expr):Prop:=eG x e=e∧ol sc x e=true
noncomputable def qg(x:XS)(e:List PySem.Expr):Prop:=eG x e=e∧sI sc x e=true
noncomputable def qh(x:Q)(e:PySem.Expr):Prop:=hU x e=e∧jK sc x e=true
noncomputable def qi(x:QS)(e:List PySem.Expr):Prop:=md x e=e∧qc sc x e=true
noncomputable def jL(x:It)(e:PySem.Expr):Prop:=gM x e=e∧om sc x e=true
noncomputable def hZ(x:XS)(as:List PySem.Expr)(aI:List Keyword)(ks:List Nm):Prop:=(hV x as=as∧hW x as aI ks=aI)∧qb sc x as aI ks=true
noncomputable def sL(x:S)(e:Stmt):Prop:=qf x e=e∧vg sc x e=true
noncomputable def ic(x:SS)(e:List Stmt):Prop:=fK x e=e∧i7 sc x e=true
end
theorem T1{a b:Bool}(h:(a&&b)=true):a=true:=by cases a;exact nomatch h;rfl
theorem T2{a b:Bool}(h:(a&&b)=true):b=true:=by cases a;exact nomatch h;exact h
theorem TN{a:Bool}(h:(!a)=true):a=false:=by cases a;rfl;exact nomatch h
theorem TR{α:Type}{f:α→Bool}{a b:α}(h:a=b)(s:f b=true):f a=true:=h▸s
theorem cN.mk {sc:Scope} {x:X} {b:PySem.Expr} (h:aB x b=b) (s:aP sc x b=true):cN sc x (aB x b):=h.symm▸⟨h,s⟩
theorem mf.mk {sc:Scope} {x:XS} {b:List PySem.Expr} (h:eG x b=b) (s:ol sc x b=true):mf sc x (eG x b):=h.symm▸⟨h,s⟩
theorem qg.mk {sc:Scope} {x:XS} {b:List PySem.Expr} (h:eG x b=b) (s:sI sc x b=true):qg sc x (eG x b):=h.symm▸⟨h,s⟩
theorem qh.mk {sc:Scope} {x:Q} {b:PySem.Expr} (h:hU x b=b) (s:jK sc x b=true):qh sc x (hU x b):=h.symm▸⟨h,s⟩
theorem qi.mk {sc:Scope} {x:QS} {b:List PySem.Expr} (h:md x b=b) (s:qc sc x b=true):qi sc x (md x b):=h.symm▸⟨h,s⟩
theorem jL.mk {sc:Scope} {x:It} {b:PySem.Expr} (h:gM x b=b) (s:om sc x b=true):jL sc x (gM x b):=h.symm▸⟨h,s⟩
theorem sL.mk {sc:Scope} {x:S} {b:Stmt} (h:qf x b=b) (s:vg sc x b=true):sL sc x (qf x b):=h.symm▸⟨h,s⟩
theorem ic.mk {sc:Scope} {x:SS} {b:List Stmt} (h:fK x b=b) (s:i7 sc x b=true):ic sc x (fK x b):=h.symm▸⟨h,s⟩
abbrev au:=Nat→Option (Addr×Addr)
structure Wd where
 prog:Program
 w:World
 h₀:Heap
 K:Frag
 fL:Fn→Addr
 bc:Cl→Addr
 vh:CL→Addr
 ak:List Int
 os:OsState
noncomputable def kL(h:Heap):T→Value→Prop
 | .none,v=>v= .none
 | .int i,v=> ∃t,v= .int i t
 | .str s,v=> ∃t,v= .str ⟨s.toArray⟩ t
 | .node l r,v=> ∃a vl vr,v= .ref a∧h.IsList a #[vl,vr]∧kL h l vl∧kL h r vr
noncomputable def VR(W:Wd)(ρ:au):V→Value→Prop
 | .none,v=>v= .none
 | .bool b,v=>v= .bool b
 | .int i,v=> ∃t,v= .int i t
 | .str s,v=> ∃t,v= .str ⟨s.toArray⟩ t
 | .bytes b,v=> ∃t,v= .bytes b.toArray t
 | .ref i,v=> ∃a dx,ρ i=some (a,dx)∧v= .ref a
 | .fn f,v=>v= .ref (W.fL f)
 | .cls c,v=>v= .ref (W.bc c)
 | .b7 c,v=>v= .ref (W.vh c)
 | .tree t,v=>kL W.h₀ t v
 | .ty b,v=>v= .type (if b then "int" else "bool")
noncomputable def bT{α β:Type}(R:α→β→Prop):List α→List β→Prop
 |[],[]=>True
 |x::xs,y::ys=>R x y∧bT R xs ys
 |_,_=>False
abbrev bo(W:Wd)(ρ:au):List V→List Value→Prop:=bT (VR W ρ)
abbrev cf(W:Wd)(ρ:au):List (Nm×V)→List (Str×Value)→Prop:=bT fun x y=>y.1=x.1.str∧VR W ρ x.2 y.2
abbrev fg(W:Wd)(ρ:au):List (Nm×V)→List DictEntry→Prop:=bT fun x y=>(∃t,y.key= .str x.1.str t)∧y.hash=PyData.keyHash W.w.params x.1.str∧VR W ρ x.2 y.val
section
variable{α β:Type}{R R':α→β→Prop}
theorem bT.ind {P:List α→List β→Prop} (h0:P [] []) (h1: ∀x y xs ys,R x y→bT R xs ys→P xs ys→P (x::xs) (y::ys)) {xs:List α}: ∀{ys:List β},bT R xs ys→P xs ys:=by
 induction xs with
 |nil=>intro ys r;induction ys with
  |nil=>exact h0
  |cons y ys=>exact r.elim
 |cons x xs ih=>intro ys r;induction ys with
  |nil=>exact r.elim
  |cons y ys=>exact h1 x y xs ys r.1 r.2 (ih r.2)
theorem bT.imp (k: ∀x y,R x y→R' x y) {xs:List α} {ys:List β} (r:bT R xs ys):bT R' xs ys:=r.ind (P:=bT R') trivial fun x y _ _ a _ b=>⟨k x y a,b⟩
theorem bT.len {xs:List α} {ys:List β} (r:bT R xs ys):xs.length=ys.length:=bT.ind (P:=fun(xs:List α)(ys:List β)=>xs.length=ys.length) rfl (fun _ _ _ _ _ _ b=>congrArg (·+1) b) r
theorem bT.app {xs sM:List α} {ys sN:List β} (r:bT R xs ys) (r':bT R sM sN):bT R (xs++sM) (ys++sN):=r.ind (P:=fun xs ys=>bT R (xs++sM) (ys++sN)) r' fun x y xs ys a _ b=>show bT R (x::(xs++sM)) (y::(ys++sN))from⟨a,b⟩
theorem bT.get {xs:List α} {ys:List β} (r:bT R xs ys): ∀{i:Nat}{a:α},xs[i]? =some a→ ∃b,ys[i]? =some b∧R a b:=
 r.ind (P:=fun xs ys=> ∀{i:Nat}{a:α},xs[i]? =some a→ ∃b,ys[i]? =some b∧R a b) (fun e=>nomatch e) fun x y xs ys a _ b i c e=>match i with
  |0=>⟨y,rfl,Option.some.inj e▸a⟩
  |_+1=>b e
theorem bT.take {xs:List α} {ys:List β} (r:bT R xs ys): ∀n,bT R (xs.take n) (ys.take n):=r.ind (P:=fun xs ys=> ∀n,bT R (xs.take n) (ys.take n)) (fun n=>by rw[List.take_nil,List.take_nil];trivial) fun _ _ _ _ a _ b n=>match n with
 |0=>trivial
 |n+1=>⟨a,b n⟩
theorem bT.drop {xs:List α} {ys:List β} (r:bT R xs ys): ∀n,bT R (xs.drop n) (ys.drop n):=r.ind (P:=fun xs ys=> ∀n,bT R (xs.drop n) (ys.drop n)) (fun n=>by rw[List.drop_nil,List.drop_nil];trivial) fun _ _ _ _ a r b n=>match n with
 |0=>⟨a,r⟩
 |n+1=>b n
theorem bT.set {xs:List α} {ys:List β} (r:bT R xs ys): ∀(i:Nat){a:α}{b:β},R a b→bT R (xs.set i a) (ys.set i b):=r.ind (P:=fun xs ys=> ∀(i:Nat){a:α}{b:β},R a b→bT R (xs.set i a) (ys.set i b)) (fun _ _ _ _=>trivial) fun _ _ _ _ a r b i _ _ h=>match i with
 |0=>⟨h,r⟩
 |i+1=>⟨a,b i h⟩
theorem bT.rep {a:α} {b:β} (h:R a b): ∀n,bT R (List.replicate n a) (List.replicate n b)
 |0=>trivial
 |n+1=>⟨h,bT.rep h n⟩
end
noncomputable def au.le (ρ ag:au):Prop:= ∀i p,ρ i=some p→ag i=some p
theorem au.le.refl (ρ:au):ρ.le ρ:=fun _ _ h=>h
theorem au.le.trans {a b c:au} (x:a.le b) (y:b.le c):a.le c:=fun i p h=>y i p (x i p h)
theorem VR.mono {W:Wd} {ρ ag:au} (le:ρ.le ag) {x:V} {v:Value}:VR W ρ x v→VR W ag x v:=by
 induction x with
 |ref i=>exact Exists.imp fun a h=>h.imp fun dx h=>⟨le i _ h.1,h.2⟩
 |_=>exact id
theorem bo.mono {W:Wd} {ρ ag:au} (le:ρ.le ag) {x:List V} {v:List Value} (r:bo W ρ x v):bo W ag x v:=r.imp fun _ _ a=>a.mono le
theorem fg.mono {W:Wd} {ρ ag:au} (le:ρ.le ag) {x:List (Nm×V)} {v:List DictEntry} (r:fg W ρ x v):fg W ag x v:=r.imp fun _ _ a=>⟨a.1,a.2.1,a.2.2.mono le⟩
theorem cf.mono {W:Wd} {ρ ag:au} (le:ρ.le ag) {x:List (Nm×V)} {v:List (Str×Value)} (r:cf W ρ x v):cf W ag x v:=r.imp fun _ _ a=>⟨a.1,a.2.mono le⟩
theorem bo.rep {W:Wd} {ρ:au} {a:V} {b:Value} (h:VR W ρ a b) (n:Nat):bo W ρ (List.replicate n a) (List.replicate n b):=bT.rep h n
theorem FO{x:V}{xs:List V}{ns:List Int}(e:dE (x::xs)=some ns): ∃i r,x= .int i∧dE xs=some r∧i::r=ns:=by
 induction x with
 |int i=>
  refine aA (Option.map_eq_some_iff.mp e) fun r hr h=> ?_
  exact⟨i,r,rfl,hr,h⟩
 |_=>cases e
theorem bo.FP {W:Wd} {ρ:au} {x:List V} {v:List Value} (h:bo W ρ x v): ∀{ns:List Int},dE x=some ns→IntsAre v ns:=
 h.ind (P:=fun x v=> ∀{ns:List Int},dE x=some ns→IntsAre v ns) (fun e=>by cases e;exact .nil) fun x y xs ys a _ b ns e=>by
  (refine d7 (FO e) fun i r qj hr FQ=> ?_;obtain rfl:=qj;obtain rfl:=FQ)
  (refine br a fun t vi=> ?_;obtain rfl:=vi)
  exact .cons _ _ (b hr)
noncomputable def jM(W:Wd)(ρ:au)(a dx:Addr)(h:Heap):O→Prop
 | .list xs=> ∃n vs,h.get? a=some {cls:= .type "list",dict:=none,data:= .seq vs n,slots:= #[]}∧xs.length≤aU∧bo W ρ xs vs.toList
 | .inst c at_=> ∃es n,h.get? a=some (instObj (W.bc c) dx)∧h.get? dx=some (dictOf es n)∧a≠dx∧es.length≤500∧fg W ρ at_ es
 | .bg f self=> ∃v,h.get? a=some (methodObj (.ref (W.fL f)) v)∧VR W ρ self v
 | .dict at_=> ∃kvs,h.DictOf (PySem.strKind W.prog W.w) a kvs∧kvs.length≤500∧cf W ρ at_ kvs
theorem jM.mono {W:Wd} {ρ ag:au} {a dx:Addr} {h h':Heap} (le:ρ.le ag) (k: ∀b,(b=a∨b=dx)→ ∀o,h.get? b=some o→h'.get? b=some o) {o:O}:jM W ρ a dx h o→jM W ag a dx h' o:=by
 induction o with
 |list xs=>exact Exists.imp fun n h=>h.imp fun vs h=>⟨k a (.inl rfl) _ h.1,h.2.1,h.2.2.mono le⟩
 |inst c at_=>exact Exists.imp fun es h=>h.imp fun n h=>⟨k a (.inl rfl) _ h.1,k dx (.inr rfl) _ h.2.1,h.2.2.1,h.2.2.2.1,h.2.2.2.2.mono le⟩
 |bg f self=>exact Exists.imp fun v h=>⟨k a (.inl rfl) _ h.1,h.2.mono le⟩
 |dict at_=>exact Exists.imp fun kvs h=>⟨Exists.imp (fun o z=>z.imp fun es z=>z.imp fun ep z=>⟨k a (.inl rfl) _ z.1,z.2⟩) h.1,h.2.1,h.2.2.mono le⟩
noncomputable def frames(fs:List Env):List Addr:=fs.filterMap (·.frame)
noncomputable def oo(W:Wd)(env:Env)(fs:List Env)(a:Addr):Prop:=W.h₀.get? a=none∧a≠env.locals∧(∀x c,env.cells.lookup x=some c→a≠c)∧a∉frames fs
structure zp(env:Env):Prop where
 kind:env.scope.kind= .function
 glob:env.globals=mainGlobals
 zq:env.builtins=builtinsNs
 co:env.scope.isCoroutine=false
 fr: ∃L,env.frame=some L
structure ig(W:Wd)(env:Env)(ρ:au)(l:L)(h:Heap):Prop where
 ns: ∃m,h.Ns env.locals m∧ ∀n v,l n=some v→env.kindOf n.str=some .local→ ∃v',m n.str=some v'∧VR W ρ v v'
 cell: ∀n v,l n=some v→(env.kindOf n.str=some .cell∨env.kindOf n.str=some .free)→ ∃c v',env.cells.lookup n.str=some c∧h.IsCell c (some v')∧VR W ρ v v'
 has: ∀x,env.kindOf x=some .cell→ ∃c v',env.cells.lookup x=some c∧h.IsCell c v'
 oq:W.h₀.get? env.locals=none
 i8: ∀x c,env.cells.lookup x=some c→W.h₀.get? c=none∧c≠env.locals∧ ∃v,h.IsCell c v
 qk: ∀x y c,env.cells.lookup x=some c→env.cells.lookup y=some c→x=y
structure ah(W:Wd)(env:Env)(fs:List Env)(ρ:au)(l:L)(h:H)(s:Shared):Prop where
 eo:zp env
 cL:W.h₀.StaysIn s.heap
 ff:s.heap.FunFrames W.h₀ fs
 objs: ∀i o,h.o i=some o→ ∃a dx,ρ i=some (a,dx)∧jM W ρ a dx s.heap o
 eT: ∀i,h.n≤i→h.o i=none∧ρ i=none
 dI: ∀i a dx,ρ i=some (a,dx)→oo W env fs a∧oo W env fs dx
 inj: ∀i j a dx b dy,ρ i=some (a,dx)→ρ j=some (b,dy)→i≠j→a≠b∧a≠dy∧dx≠b∧dx≠dy
 dq: ∀i a dx,ρ i=some (a,dx)→(s.heap.get? a).isSome∧(s.heap.get? dx).isSome
 loc:ig W env ρ l s.heap
 gens:AllBare s.gens
 os:s.os=W.os
noncomputable def gO(env:Env)(ρ:au)(b:Addr):Prop:= ∃i a dx,ρ i=some (a,dx)∧(b=a∨b=dx)
structure aY(env:Env)(fs:List Env)(ρ:au)(s:Shared)(ag:au)(s':Shared):Prop where
 le:ρ.le ag
 fresh: ∀i a dx,ag i=some (a,dx)→ρ i=none→s.heap.get? a=none∧s.heap.get? dx=none
 kept: ∀b o,s.heap.get? b=some o→ ¬gO env ρ b→(b∉frames fs→s'.heap.get? b=some o)∧ ∃sl,s'.heap.get? b=some {o with slots:=sl}
 de: ∀b,(s.heap.get? b).isSome→(s'.heap.get? b).isSome
 gens: ∀(i:Nat)(g:GenState),s.gens[i]? =some g→s'.gens[i]? =some g
section
variable{W:Wd}{env:Env}{fs:List Env}{ρ ag bZ:au}{l:L}{h h':H}{s s' bj:Shared}
theorem aY.refl:aY env fs ρ s ρ s:=⟨.refl _,fun i a dx e e'=>(by rw[e]at e';cases e'),fun b o e _=>⟨fun _=>e,o.slots,e⟩,fun _ h=>h,fun _ _ h=>h⟩
theorem aY.grow {s':Shared} (k: ∀b o,s.heap.get? b=some o→s'.heap.get? b=some o) (g:s'.gens=s.gens):aY env fs ρ s ρ s':=
 ⟨.refl _,fun i a dx e e'=>(by rw[e]at e';cases e'),fun b o e _=>⟨fun _=>k _ _ e,o.slots,k _ _ e⟩,fun b hb=>(by
  refine br (Option.isSome_iff_exists.mp hb) fun o ho=> ?_
  rw[k _ _ ho];rfl),fun _ _ h=>(by rw[g];exact h)⟩
theorem aY.trans (x:aY env fs ρ s ag s') (y:aY env fs ag s' bZ bj):aY env fs ρ s bZ bj:=by
 have nw: ∀b o,s.heap.get? b=some o→ ¬gO env ρ b→ ¬gO env ag b:=by
  intro b o e n
  rintro⟨i,a,dx,hi,hb⟩
  cases q:ρ i with
  |some p=>
   have:=x.le i p q
   rw[hi]at this;cases this
   exact n ⟨i,a,dx,q,hb⟩
  |none=>
   refine bn (x.fresh i a dx hi q) fun f1 f2=> ?_
   rcases hb with rfl|rfl
   ·rw[e]at f1;cases f1
   ·rw[e]at f2;cases f2
 refine⟨x.le.trans y.le,fun i a dx e q=> ?_,fun b o e n=> ?_,fun b hb=>y.de b (x.de b hb),fun i g e=>y.gens i g (x.gens i g e)⟩
 ·cases q':ag i with
  |none=>
   refine bn (y.fresh i a dx e q') fun f1 f2=> ?_
   have no: ∀b,s'.heap.get? b=none→s.heap.get? b=none:=fun b hb=>by
    cases z:s.heap.get? b with
    |none=>rfl
    |some o=>have:=x.de b (by rw[z];rfl);rw[hb]at this;cases this
   exact⟨no _ f1,no _ f2⟩
  |some p=>
   have:=y.le i p q'
   rw[e]at this;cases this
   exact x.fresh i a dx q' q
 ·obtain⟨k1,sl,k2⟩:=x.kept b o e n
  obtain⟨j1,vj,j2⟩:=y.kept b _ k2 (nw b o e n)
  refine⟨fun hb=> ?_,vj,j2⟩
  have:=k1 hb
  rw[k2]at this
  have q:=j1 hb
  rw[q];exact this
theorem ig.keeps {hp ii:Heap} (R:ig W env ρ l hp) (le:ρ.le ag) (k: ∀b o,(b=env.locals∨ ∃x c,env.cells.lookup x=some c∧b=c)→hp.get? b=some o→ ∃sl,ii.get? b=some {o with slots:=sl}):ig W env ag l ii:=by
 refine aA R.ns fun m hn hm=> ?_
 refine⟨⟨m,?_,fun n v e q=> ?_⟩,fun n v e q=> ?_,fun x q=> ?_,R.oq,fun x c e=> ?_,R.qk⟩
 ·refine pP hn fun o es ep ho hd r=> ?_
  refine br (k _ _ (.inl rfl) ho) fun sl hs=> ?_
  exact⟨_,es,ep,hs,hd,r⟩
 ·refine aA (hm n v e q) fun v' a b=> ?_
  exact⟨v',a,b.mono le⟩
 ·(refine d7 (R.cell n v e q) fun c v' a FR b=> ?_;refine aA FR fun o ho hd=> ?_)
  refine br (k _ _ (.inr ⟨_,_,a,rfl⟩) ho) fun sl hs=> ?_
  exact⟨c,v',a,⟨_,hs,hd⟩,b.mono le⟩
 ·obtain⟨c,v',a,o,ho,hd⟩:=R.has x q
  refine br (k _ _ (.inr ⟨_,_,a,rfl⟩) ho) fun sl hs=> ?_
  exact⟨c,v',a,_,hs,hd⟩
 ·obtain⟨r1,r2,v,o,ho,hd⟩:=R.i8 x c e
  refine br (k _ _ (.inr ⟨_,_,e,rfl⟩) ho) fun sl hs=> ?_
  exact⟨r1,r2,v,_,hs,hd⟩
theorem ah.grow (S:ah W env fs ρ l h s) (k: ∀b o,s.heap.get? b=some o→s'.heap.get? b=some o) (g:s'.gens=s.gens) (o:s'.os=s.os):ah W env fs ρ l h s' where
 eo:=S.eo
 cL:=fun b o e=>k b o (S.cL b o e)
 ff:=S.ff.of_keeps fun b o e _=>⟨o,k b o e,rfl⟩
 objs:=fun i o e=>(S.objs i o e).imp fun a h=>h.imp fun dx h=>⟨h.1,h.2.mono (.refl _) fun b _ o e=>k b o e⟩
 eT:=S.eT
 dI:=S.dI
 inj:=S.inj
 dq:=fun i a dx e=>by
  refine bn (S.dq i a dx e) fun d1 d2=> ?_
  refine br (Option.isSome_iff_exists.mp d1) fun o1 h1=> ?_
  refine br (Option.isSome_iff_exists.mp d2) fun o2 h2=> ?_
  rw[k _ _ h1,k _ _ h2];exact⟨rfl,rfl⟩
 loc:=S.loc.keeps (.refl _) fun b o _ e=>⟨o.slots,k b o e⟩
 gens:=by rw[g];exact S.gens
 os:=by rw[o];exact S.os
theorem ah.toks (S:ah W env fs ρ l h s) (t:Nat):ah W env fs ρ l h {s with toks:=t}:=S.grow (fun _ _ e=>e) rfl rfl
theorem aY.toks (t:Nat):aY env fs ρ s ρ {s with toks:=t}:=aY.grow (fun _ _ e=>e) rfl
theorem ah.push (S:ah W env fs ρ l h s) {o:O} {a dx:Addr} (k: ∀b o,s.heap.get? b=some o→s'.heap.get? b=some o) (g:s'.gens=s.gens) (os:s'.os=s.os)
 (ha:s.heap.get? a=none) (sO:s.heap.get? dx=none) (da:(s'.heap.get? a).isSome) (dd:(s'.heap.get? dx).isSome) (hO:jM W ρ a dx s'.heap o):
 ∃ag,ah W env fs ag l (h.push o) s'∧aY env fs ρ s ag s'∧ag h.n=some (a,dx):=by
 have nn:ρ h.n=none:=(S.eT h.n (Nat.le_refl _)).2
 let ag:au:=fun i=>if i=h.n then some (a,dx)else ρ i
 have le:ρ.le ag:=fun i p e=>by
  by_cases q:i=h.n
  ·subst q;rw[nn]at e;cases e
  ·show(if i=h.n then _ else _)=_;rw[if_neg q];exact e
 have at_:ag h.n=some (a,dx):=by show(if h.n=h.n then _ else _)=_;rw[if_pos rfl]
 have S':=S.grow k g os
 have zr: ∀x,s.heap.get? x=none→oo W env fs x:=by
  intro x hx
  refine⟨?_,?_,?_,?_⟩
  ·cases q:W.h₀.get? x with
   |none=>rfl
   |some o=>have:=S.cL _ _ q;rw[hx]at this;cases this
  ·rintro rfl
   (refine aA S.loc.ns fun m FS _=> ?_;refine g9 FS fun o _ _ ho _=> ?_)
   rw[hx]at ho;cases ho
  ·intro y c hc q
   subst q
   obtain⟨_,_,v,o,ho,_⟩:=S.loc.i8 y _ hc
   rw[hx]at ho;cases ho
  ·intro hm
   obtain⟨_,o,ho,_⟩:=S.ff.mem hm
   rw[hx]at ho;cases ho
 have ij: ∀i a' qm,ρ i=some (a',qm)→a'≠a∧a'≠dx∧qm≠a∧qm≠dx:=by
  intro i a' qm e
  refine bn (S.dq i a' qm e) fun d1 d2=> ?_
  refine⟨?_,?_,?_,?_⟩<;>rintro rfl
  ·rw[ha]at d1;cases d1
  ·rw[sO]at d1;cases d1
  ·rw[ha]at d2;cases d2
  ·rw[sO]at d2;cases d2
 have fM: ∀i p,ag i=some p→(i=h.n∧p=(a,dx))∨(i≠h.n∧ρ i=some p):=by
  intro i p e
  by_cases q:i=h.n
  ·subst q;rw[at_]at e;cases e;exact .inl ⟨rfl,rfl⟩
  ·have e':(if i=h.n then some (a,dx)else ρ i)=some p:=e
   rw[if_neg q]at e';exact .inr ⟨q,e'⟩
 refine⟨ag,⟨S.eo,S'.cL,S'.ff,fun i x e=> ?_,fun i hi=> ?_,fun i b db e=> ?_,fun i j b db c dc e1 e2 ne=> ?_,fun i b db e=> ?_,S'.loc.keeps le fun b o _ e=>⟨o.slots,e⟩,S'.gens,S'.os⟩,
  ⟨le,fun i b db e q=> ?_,fun b o e _=>⟨fun _=>k _ _ e,o.slots,k _ _ e⟩,fun b hb=> ?_,fun i x e=>by rw[g];exact e⟩,at_⟩
 ·by_cases q:i=h.n
  ·subst q
   have e':(if h.n=h.n then some o else h.o h.n)=some x:=e
   rw[if_pos rfl]at e';cases e'
   exact⟨a,dx,at_,hO.mono le fun _ _ _ e=>e⟩
  ·have e':(if i=h.n then some o else h.o i)=some x:=e
   rw[if_neg q]at e'
   refine cQ (S'.objs i x e') fun b db r z=> ?_
   exact⟨b,db,le _ _ r,z.mono le fun _ _ _ e=>e⟩
 ·have hi:h.n+1≤i:=hi
  have q:i≠h.n:=by trace"caBpAlABexi hi"
  refine bn (S.eT i (by trace"caApBlABli hi")) fun b1 b2=> ?_
  refine⟨?_,?_⟩
  ·show(if i=h.n then some o else h.o i)=none
   rw[if_neg q];exact b1
  ·show(if i=h.n then some (a,dx)else ρ i)=none
   rw[if_neg q];exact b2
 ·rcases fM i _ e with⟨rfl,z⟩|⟨_,z⟩
  ·cases z;exact⟨zr _ ha,zr _ sO⟩
  ·exact S.dI i b db z
 ·rcases fM i _ e1 with⟨rfl,z⟩|⟨_,z⟩
  ·cases z
   rcases fM j _ e2 with⟨rfl,z2⟩|⟨_,z2⟩
   ·exact absurd rfl ne
   ·refine dT (ij j _ _ z2) fun o1 o2 o3 o4=> ?_
    exact⟨o1.symm,o3.symm,o2.symm,o4.symm⟩
  ·rcases fM j _ e2 with⟨rfl,z2⟩|⟨_,z2⟩
   ·cases z2
    exact ij i _ _ z
   ·exact S.inj i j _ _ _ _ z z2 ne
 ·rcases fM i _ e with⟨rfl,z⟩|⟨_,z⟩
  ·cases z;exact⟨da,dd⟩
  ·exact S'.dq i b db z
 ·rcases fM i _ e with⟨rfl,z⟩|⟨_,z⟩
  ·cases z;exact⟨ha,sO⟩
  ·rw[q]at z;cases z
 ·refine br (Option.isSome_iff_exists.mp hb) fun x hx=> ?_
  rw[k _ _ hx];rfl
theorem ah.upd (S:ah W env fs ρ l h s) {i:Nat} {o:O} {a dx:Addr} (hi:ρ i=some (a,dx)) (k: ∀b,b≠a→b≠dx→s'.heap.get? b=s.heap.get? b) (g:s'.gens=s.gens) (os:s'.os=s.os)
 (da:(s'.heap.get? a).isSome) (dd:(s'.heap.get? dx).isSome) (hO:jM W ρ a dx s'.heap o):
 ah W env fs ρ l (h.set i o) s'∧aY env fs ρ s ρ s':=by
 (refine kq (S.dI i a dx hi) fun FT q1 q2 q3 q4=> ?_;refine dT FT fun p1 p2 p3 p4=> ?_)
 have kk: ∀b o,(W.h₀.get? b=some o∨b=env.locals∨(∃x c,env.cells.lookup x=some c∧b=c)∨b∈frames fs)→s'.heap.get? b=s.heap.get? b:=by
  intro b o hb
  refine k b ?_ ?_
  ·rintro rfl
   rcases hb with hb|hb|⟨x,c,hx,hb⟩|hb
   ·rw[p1]at hb;cases hb
   ·exact p2 hb
   ·exact p3 x c hx hb
   ·exact p4 hb
  ·rintro rfl
   rcases hb with hb|hb|⟨x,c,hx,hb⟩|hb
   ·rw[q1]at hb;cases hb
   ·exact q2 hb
   ·exact q3 x c hx hb
   ·exact q4 hb
 have lt:i<h.n:=by
  apply Nat.lt_of_not_le
  intro q
  rw[(S.eT i q).2]at hi;cases hi
 have vk: ∀{l:List Env},(∀e∈l,e∈fs)→s.heap.FunFrames W.h₀ l→s'.heap.FunFrames W.h₀ l:=by
  intro l
  induction l with
  |nil=>intro _ _;trivial
  |cons e r ih=>
   rintro hm ⟨f1,⟨L,oL,f2,f3,f4,f5⟩,f6⟩
   refine⟨f1,⟨L,oL,f2,f3,?_,f5⟩,ih (fun e he=>hm e (.tail _ he)) f6⟩
   rw[kk L oL (.inr (.inr (.inr (List.mem_filterMap.mpr ⟨e,hm e (.head _),f2⟩))))];exact f4
 have od: ∀b,(s.heap.get? b).isSome→(s'.heap.get? b).isSome:=by
  intro b hb
  by_cases qa:b=a
  ·rw[qa];exact da
  ·by_cases qd:b=dx
   ·rw[qd];exact dd
   ·rw[k b qa qd];exact hb
 refine⟨⟨S.eo,fun b o e=>by rw[kk b o (.inl e)];exact S.cL b o e,vk (fun _ h=>h) S.ff,fun j x e=> ?_,fun j hj=> ?_,S.dI,S.inj,fun j b db e=> ?_,S.loc.keeps (.refl _) fun b o hb e=>⟨o.slots,?_⟩,by rw[g];exact S.gens,by rw[os];exact S.os⟩,
  ⟨.refl _,fun i a dx e e'=>(by rw[e]at e';cases e'),fun b o e n=> ?_,od,fun _ _ h=>(by rw[g];exact h)⟩⟩
 ·by_cases q:j=i
  ·subst q
   have e':(if j=j then some o else h.o j)=some x:=e
   rw[if_pos rfl]at e';cases e'
   exact⟨a,dx,hi,hO⟩
  ·have e':(if j=i then some o else h.o j)=some x:=e
   rw[if_neg q]at e'
   refine cQ (S.objs j x e') fun b db r z=> ?_
   refine dT (S.inj j i _ _ _ _ r hi q) fun n1 n2 n3 n4=> ?_
   refine⟨b,db,r,z.mono (.refl _) ?_⟩
   rintro c (rfl|rfl) o e
   ·rw[k _ n1 n2];exact e
   ·rw[k _ n3 n4];exact e
 ·refine bn (S.eT j hj) fun b1 b2=> ?_
  have hj:h.n≤j:=hj
  refine⟨?_,b2⟩
  show(if j=i then some o else h.o j)=none
  rw[if_neg (by trace"daCpBlBAlACexii lt hj")];exact b1
 ·refine bn (S.dq j b db e) fun d1 d2=> ?_
  exact⟨od _ d1,od _ d2⟩
 ·rw[kk b o (by rcases hb with hb|hb;exact .inr (.inl hb);exact .inr (.inr (.inl hb)))];exact e
 ·have:s'.heap.get? b=s.heap.get? b:=k b (fun q=>n ⟨i,a,dx,hi,.inl q⟩) (fun q=>n ⟨i,a,dx,hi,.inr q⟩)
  exact⟨fun _=>by rw[this];exact e,o.slots,by rw[this];exact e⟩
end
noncomputable def GV(W:Wd)(mg mb:Str→Option Value)(n:Str)(v:V):Prop:= ∃v',(∀ρ,VR W ρ v v')∧(mg n=some v'∨mg n=none∧mb n=some v')
noncomputable def BI(mg mb:Str→Option Value)(n:Str)(v:Value):Prop:=mg n=none∧mb n=some v
structure qo(W:Wd)(mg mb:Str→Option Value):Prop where
 g:W.h₀.Ns mainGlobals mg
 b:W.h₀.Ns builtinsNs mb
 glob: ∀n v,glob n=some v→GV W mg mb n.str v
 len:BI mg mb "len" (.builtin "len")
 max:BI mg mb "max" (.builtin "max")
 min:BI mg mb "min" (.builtin "min")
 sorted:BI mg mb "sorted" (.builtin "sorted")
 isinstance:BI mg mb "isinstance" (.builtin "isinstance")
 bytes:BI mg mb "bytes" (.type "bytes")
 int:BI mg mb "int" (.type "int")
 list:BI mg mb "list" (.type "list")
 range:BI mg mb "range" (.type "range")
 enumerate:BI mg mb "enumerate" (.type "enumerate")
structure b6(A:Around)(fs:List Env)(k:Nat):Prop where
 hd:A.handled=none
 fr:A.frames=some fs
 dp:A.depth+20*(k+1)≤850
 un:A.units+200*(k+1)≤9000
section
variable{W:Wd}{env:Env}{fs:List Env}{ρ ag aD:au}{l:L}{h h' bF:H}{s s' ai:Shared}{A:Around}{k:Nat}{E:Value→Shared→Prop}
noncomputable def Got(W:Wd)(env:Env)(fs:List Env)(l:L)(ρ:au)(s:Shared)(v:V)(h':H)(Q:Value→Shared→Prop):Prop:=
 ∀v' s' ag,ah W env fs ag l h' s'→aY env fs ρ s ag s'→VR W ag v v'→Q v' s'
noncomputable def fh(W:Wd)(env:Env)(fs:List Env)(l:L)(ρ:au)(s:Shared)(v:Bool)(h':H)(Q:Bool→Shared→Prop):Prop:=
 ∀s' ag,ah W env fs ag l h' s'→aY env fs ρ s ag s'→Q v s'
noncomputable def jN(W:Wd)(env:Env)(fs:List Env)(l:L)(ρ:au)(s:Shared)(v:List V)(h':H)(Q:List Value→Shared→Prop):Prop:=
 ∀v' s' ag,ah W env fs ag l h' s'→aY env fs ρ s ag s'→bo W ag v v'→Q v' s'
theorem Got.after {v:V} {Q:Value→Shared→Prop} (g:Got W env fs l ρ s v h' Q) (x:aY env fs ρ s aD ai):Got W env fs l aD ai v h' Q:=
 fun v' s' ag S E r=>g v' s' ag S (x.trans E) r
theorem Got.of {v a:V} {b:H} {Q:Value→Shared→Prop} (g:Got W env fs l ρ s v h' Q) (e:some (a,b)=some (v,h')):Got W env fs l ρ s a b Q:=SP (P:=fun v h'=>Got W env fs l ρ s v h' Q→Got W env fs l ρ s a b Q) e id g
theorem fh.after {v:Bool} {Q:Bool→Shared→Prop} (g:fh W env fs l ρ s v h' Q) (x:aY env fs ρ s aD ai):fh W env fs l aD ai v h' Q:=
 fun s' ag S E=>g s' ag S (x.trans E)
theorem Got.now {v:V} {v':Value} {Q:Value→Shared→Prop} (g:Got W env fs l ρ s v h Q) (S:ah W env fs ρ l h s) (r:VR W ρ v v') {t:Nat}:Q v' {s with toks:=t}:=
 g v' _ ρ (S.toks t) (aY.toks t) r
theorem Got.here {v:V} {v':Value} {Q:Value→Shared→Prop} (g:Got W env fs l ρ s v h Q) (S:ah W env fs ρ l h s) (r:VR W ρ v v'):Q v' s:=g v' s ρ S .refl r
theorem fh.now {v:Bool} {Q:Bool→Shared→Prop} (g:fh W env fs l ρ s v h Q) (S:ah W env fs ρ l h s) {t:Nat}:Q v {s with toks:=t}:=g _ ρ (S.toks t) (aY.toks t)
theorem fh.here {v:Bool} {Q:Bool→Shared→Prop} (g:fh W env fs l ρ s v h Q) (S:ah W env fs ρ l h s):Q v s:=g s ρ S .refl
theorem Got.list {xs:List V} {vs:List Value} {Q:Value→Shared→Prop} (g:Got W env fs l ρ s (.ref h.n) (h.push (.list xs)) Q) (S:ah W env fs ρ l h s) (r:bo W ρ xs vs) (hz:xs.length≤aU) {t:Nat}:
 Q (.ref s.heap.objs.size) {s with heap:=s.heap.push {cls:= .type "list",data:= .seq vs.toArray},toks:=t}:=by
 have ho:(s.heap.push {cls:= .type "list",data:= .seq vs.toArray}).get? s.heap.objs.size=some {cls:= .type "list",data:= .seq vs.toArray}:=Heap.get?_push_size _ rfl
 have hn:s.heap.get? s.heap.objs.size=none:=by
  cases q:s.heap.get? s.heap.objs.size with
  |none=>rfl
  |some o=>exact absurd (Heap.lt_size q) (Nat.lt_irrefl _)
 refine ck (S.push (o:= .list xs) (a:=s.heap.objs.size) (dx:=s.heap.objs.size) (s':={s with heap:=s.heap.push {cls:= .type "list",data:= .seq vs.toArray},toks:=t})
  (fun b o e=>Heap.get?_push_of_some _ e) rfl rfl hn hn (by rw[ho];rfl) (by rw[ho];rfl) ⟨0,vs.toArray,ho,hz,r⟩) fun ag S' X cC=> ?_
 exact g _ _ ag S' X ⟨_,_,cC,rfl⟩
theorem ah.zt (S:ah W env fs ρ l h s): ∃m,s.heap.Ns env.locals m:=S.loc.ns.imp fun m a=>a.1
theorem ah.ns {m:Str→Option Value} {a:Addr} (S:ah W env fs ρ l h s) (n:W.h₀.Ns a m):s.heap.Ns a m:=n.keeps S.cL
theorem qp{mg mb}(N:qo W mg mb)(S:ah W env fs ρ l h s){x:Str}{v':Value}(hx:sE env.scope x=true)(hd:(x==("__debug__" :Str))=false)(hv:mg x=some v'∨mg x=none∧mb x=some v'){pos:Pos}{Q:Value→Shared→Prop}(q:Q v' s):
 wpAny (model W.prog W.w) A (eval (.Name x pos) env) Q E s:=by
 refine Name_function_global S.eo.kind (beq_iff_eq.mp hx) ?_ hd
 rcases hv with hv|⟨h1,h2⟩
 ·exact loadGlobal_global (mg:=mg) (by rw[S.eo.glob];exact S.ns N.g) hv q
 ·exact loadGlobal_builtin (mg:=mg) (mb:=mb) (by rw[S.eo.glob];exact S.ns N.g) h1 (by rw[S.eo.zq];exact S.ns N.b) h2 q
theorem vm(n:Nm):(n.str==("__debug__" :Str))=false:=TN (Nm.sB (P:=fun x=> !(x==("__debug__" :Str))) (by decide+kernel) n)
theorem FU(n:Nm):(n.str==("__classdict__" :Str))=false:=TN (Nm.sB (P:=fun x=> !(x==("__classdict__" :Str))) (by decide+kernel) n)
theorem FV{P:Prop}{sc:Scope}{n:Nm}(h:kK sc n=true)(k1:sc.names.lookup n.str=some .local→P)(k2:sc.names.lookup n.str=some .cell∨sc.names.lookup n.str=some .free→P):P:=by
 have h:(match sc.names.lookup n.str with|some .local|some .cell|some .free=>true|_=>false)=true:=h
 cases e:sc.names.lookup n.str with
 |none=>rw[e]at h;exact nope h
 |some d=>
  rw[e]at h k1 k2
  induction d with
  |«local»=>exact k1 rfl
  |cell=>exact k2 (.inl rfl)
  |free=>exact k2 (.inr rfl)
  |_=>exact nope h
theorem vn(S:ah W env fs ρ l h s){n:Nm}{v:V}(hl:kK env.scope n=true)(hv:l n=some v){pos:Pos}{Q:Value→Shared→Prop}(q: ∀v',VR W ρ v v'→Q v' s):
 wpAny (model W.prog W.w) A (eval (.Name n.str pos) env) Q E s:=
 wpAny_Name (FV hl (fun e=>by
  refine aA S.loc.ns fun m hn hm=> ?_
  refine aA (hm n v hv e) fun v' e' r=> ?_
  exact wpAny_loadName_local S.eo.kind e hn e' (q v' r)) fun e=>by
  refine d7 (S.loc.cell n v hv e) fun c v' a b r=> ?_
  exact e.elim (fun e=>wpAny_loadName_cell S.eo.kind e a b (q v' r)) fun e=>wpAny_loadName_free S.eo.kind e a b (q v' r) (FU n)) (vm n)
theorem vo(S:ah W env fs ρ l h s){n:Nm}{v:V}(hl:kK env.scope n=true)(hv:l n=some v){pos:Pos}{Q:Value→Shared→Prop}(g:Got W env fs l ρ s v h Q):
 wpAny (model W.prog W.w) A (eval (.Name n.str pos) env) Q E s:=vn S hl hv fun _ r=>g.here S r
noncomputable def gj(W:Wd):Prop:= ∀c,∃vs:List Value,W.h₀.IsList (W.vh c) vs.toArray∧(aj W.ak c).length≤1000∧ ∀ρ,bo W ρ (aj W.ak c) vs
@[elab_as_elim] theorem ah.list {P:Value→Prop} (S:ah W env fs ρ l h s) {i:Nat} {xs:List V} {v':Value} (e:h.o i=some (.list xs)) (r:VR W ρ (.ref i) v')
 (k: ∀a dx n vs,ρ i=some (a,dx)→s.heap.get? a=some {cls:= .type "list",dict:=none,data:= .seq vs n,slots:= #[]}→xs.length≤aU→bo W ρ xs vs.toList→P (.ref a)):P v':=by
 obtain⟨a,dx,e1,n,vs,e2,ez,e3⟩:=S.objs i _ e
 refine cQ r fun b _ q q2=> ?_
 have q3:a=b:=congrArg Prod.fst (Option.some.inj (e1.symm.trans q))
 exact q2▸q3▸k a dx n vs e1 e2 ez e3
theorem FW{P:Prop}{C:Cx}{v:V}{xs:List V}(hi:C.items h v=some xs)(k: ∀i,v= .ref i→h.o i=some (.list xs)→P)(k2: ∀c,v= .b7 c→C.cl c=xs→P):P:=by
 induction v with
 |ref i=>exact sj hi fun ys e e2=>k i rfl (e.trans (congrArg (fun x=>some (O.list x)) (Option.some.inj e2)))
 |b7 c=>exact k2 c rfl (Option.some.inj hi)
 |_=>exact none_ne hi
@[elab_as_elim] theorem i9 {P:Value→Prop} {C:Cx} (CL:gj W) (hC:C.cl=aj W.ak) (S:ah W env fs ρ l h s) {v:V} {v':Value} {xs:List V} (hi:C.items h v=some xs) (r:VR W ρ v v')
 (k: ∀a vs,s.heap.IsList a vs.toArray→xs.length≤aU→bo W ρ xs vs→P (.ref a)):P v':=
 FW hi (fun i e e0=>S.list (v':=v') e0 (e▸r) fun a _ n vs _ e2 z e3=>k a vs.toList ⟨_,e2,rfl,n,rfl⟩ z e3) fun c e e0=>by
  subst e e0
  (refine ck (CL c) fun vs FX z b=> ?_;refine aA FX fun o ho q=> ?_)
  exact(show v'= .ref (W.vh c)from r)▸k _ vs ⟨o,S.cL _ _ ho,q⟩ (hC▸Nat.le_trans z (by decide)) (hC▸b ρ)
@[elab_as_elim] theorem FY {P:Value→Prop} {C:Cx} (CL:gj W) (hC:C.cl=aj W.ak) (S:ah W env fs ρ l h s) {v:V} {v':Value} {xs:List V} (hi:C.items h v=some xs) (r:VR W ρ v v')
 (k: ∀a vs,VR W ρ v (.ref a)→s.heap.IsList a vs.toArray→xs.length≤aU→bo W ρ xs vs→P (.ref a)):P v':=i9 (P:=fun v'=>VR W ρ v v'→P v') CL hC S hi r (fun a vs h1 h2 h3 r=>k a vs r h1 h2 h3) r
theorem sP{P:Prop}{C:Cx}(CL:gj W)(hC:C.cl=aj W.ak)(S:ah W env fs ρ l h s){v:V}{a:Addr}{xs:List V}(hi:C.items h v=some xs)(r:VR W ρ v (.ref a))
 (k: ∀vs,s.heap.IsList a vs.toArray→xs.length≤aU→bo W ρ xs vs→P):P:=
 i9 (P:=fun v'=>v'= .ref a→P) CL hC S hi r (fun b vs hl hz rr e=>k vs ((Value.ref.inj e:b=a)▸hl) hz rr) rfl
end
section
variable{W:Wd}{env:Env}{fs:List Env}{ρ ag aD:au}{l:L}{h h' bF:H}{s s' ai:Shared}{A:Around}{k:Nat}{E:Value→Shared→Prop}
theorem FZ:aU=sizeLine:=rfl
theorem zw{a:Int}{n:Nat}(h:a.natAbs<2^n):Builtin.Int.intBits a≤n:=intBits_le h
theorem vp(a b:List Nat):((⟨a.toArray⟩:Str)++(⟨b.toArray⟩:Str))=(⟨(a++b).toArray⟩:Str):=by
 show Str.append _ _=_
 unfold Str.append
 simp
theorem str_len(a:List Nat):(⟨a.toArray⟩:Str).length=a.length:=by
 show(a.toArray).size=_
 simp
theorem zx(c:Nat): ∀(n:Nat)(acc:Array Nat),(List.replicate n #[c]).foldl (·++·) acc=acc++(List.replicate n c).toArray
 |0,acc=>by simp
 |n+1,acc=>by
  rw[List.replicate_succ,List.foldl_cons,zx c n,List.replicate_succ]
  apply Array.ext';simp
theorem zy(c:Value): ∀(n:Nat)(acc:Array Value),(List.replicate n #[c]).foldl (fun x y=>x++y) acc=acc++(List.replicate n c).toArray
 |0,acc=>by simp
 |n+1,acc=>by
  rw[List.replicate_succ,List.foldl_cons,zy c n,List.replicate_succ]
  apply Array.ext';simp
theorem F0(c:Nat){b:Int}(h0:0≤b):Txt.mul (⟨[c].toArray⟩:Str) b=⟨(List.replicate b.toNat c).toArray⟩:=by
 unfold Txt.mul
 split
 ·rename_i q
  have:b=0:=by trace"ab0zUrUq1zrU0zjii h0 q"
  subst this;rfl
 ·split
  ·rename_i q
   have:b=1:=by
    simp[str_len]at q
    exact q
   subst this;rfl
  ·congr 1
   have:=zx c b.toNat #[]
   simpa using this
theorem F4{a:Addr}{x:Value}{n:Nat}{b:Int}{u:Tok}{Q:Value→Shared→Prop}(hl:s.heap.get? a=some {cls:= .type "list",dict:=none,data:= .seq #[x] n,slots:= #[]})(h0:0≤b)(h1:b≤100000)
 (q:Q (.ref s.heap.objs.size) {s with heap:=s.heap.push {cls:= .type "list",data:= .seq (List.replicate b.toNat x).toArray},toks:=s.toks}):wpAny (model W.prog W.w) A (binaryOp .Mult (.ref a) (.int b u)) Q E s:=by
 have e:(List.foldl (fun x1 x2=>x1++x2) (#[]:Array Value) (List.replicate (if(#[x]:Array Value).isEmpty=true then 0 else b.toNat) #[x]))=(List.replicate b.toNat x).toArray:=by
  have:=zy x b.toNat #[]
  simpa using this
 refine wpAny_binaryOp_repeat_ref (T:= "list") (U:= "int") (by decide) ⟨_,hl,rfl⟩ (fun s'=>typeIs_int s' b u) noFill_list_mul F.fills_int_mul F.slot_int_rmul repeat_list F.slot_int_index.lookup
  (call_meets F.slot_int_rmul (typeIs_int s b u) F.entry_int_rmul (F.args_int_rmul_2 _ _) (int___rmul___int_list b u a #[x] n)
   ⟨hl,rfl,⟨_,hl,rfl⟩,call_meets F.slot_list_mul ⟨_,hl,rfl⟩ F.entry_list_mul (F.args_list_mul_2 _ _)
    (AutoListH.list___mul___list_int_3 a #[x] n b u (by simp[Builtin.List.listFitsIndex];trace"ab0zUrU100000zr9223372036854775808zgUrUq9223372036854775808zrnii h0 h1") (by simp;trace"ab0zUrU100000zrU1152921504606846975zrii h0 h1") (by simp[Builtin.List.listTooLong,sizeLine];trace"ab0zUrU100000zrU16777216zrii h0 h1"))
    ⟨hl,?_⟩⟩)
 rw[e]
 exact q
theorem F5{a b:Int}{t u:Tok}{Q:Value→Shared→Prop}(q:0≤a∧0≤b)(h:Q (.int ((a.toNat&&&b.toNat:Nat):Int) s.toks) {s with toks:=s.toks+1}):
 wpAny (model W.prog W.w) A (binaryOp .BitAnd (.int a t) (.int b u)) Q E s:=by
 refine PyProof.Rows.and_int ?_
 have e:Builtin.bitAnd a b=((a.toNat&&&b.toNat:Nat):Int):=by
  unfold Builtin.bitAnd
  rw[decide_eq_true q.1,decide_eq_true q.2]
 rw[e];exact h
theorem F6{c:Nat}{b:Int}{t u:Tok}{Q:Value→Shared→Prop}(q:0≤b∧b≤1000)(h: ∀t' k,Q (.str ⟨(List.replicate b.toNat c).toArray⟩ t') {s with toks:=k}):
 wpAny (model W.prog W.w) A (binaryOp .Mult (.str ⟨[c].toArray⟩ t) (.int b u)) Q E s:=by
 refine SB.mul ?_ (fun t' k=> ?_)
 ·refine⟨?_,fun h1 _=> ?_,fun _ _=> ?_⟩
  ·simp;trace"ab0zUrU1000zrn9223372036854775808zgUrUq9223372036854775808zrni q"
  ·rw[str_len]
   have:(1:Int)≤(2^63-1)/b:=by
    refine(Int.le_ediv_iff_mul_le (by trace"ab0zUrU1000zrnUq1zrx0zqUrii q h1")).mpr ?_
    trace"ab0zUrU1000zrnUq1zrxU1u2^63z1zsrii q h1"
   simp only[List.length_cons,List.length_nil]
   trace"ab1zUrUq0kpcrxi this"
  ·rw[str_len]
   unfold Builtin.Str.tooLong
   simp[sizeLine];trace"ab0zUrU1000zrnUq1zrxU16777216zrii q _"
 ·rw[F0 _ q.1]
  exact h t' k
theorem F7{a b:List UInt8}{t u:Tok}{Q:Value→Shared→Prop}(q:a.length+b.length≤aU)(h: ∀t' k,Q (.bytes (a++b).toArray t') {s with toks:=k}):
 wpAny (model W.prog W.w) A (binaryOp .Add (.bytes a.toArray t) (.bytes b.toArray u)) Q E s:=by
 refine KBy.add_bytes (by simp;exact q) fun t' k=> ?_
 have:a.toArray++b.toArray=(a++b).toArray:=by simp
 rw[this]
 exact h t' k
theorem F8(S:ah W env fs ρ l h s){i j:Nat}{v:V}{a' b':Value}(hb:y5 h (h.o i) (h.o j)=some (v,h'))(ra:VR W ρ (.ref i) a')(rb:VR W ρ (.ref j) b')
 {Q:Value→Shared→Prop} (g:Got W env fs l ρ s v h' Q):wpAny (model W.prog W.w) A (binaryOp .Add a' b') Q E s:=by
 have k: ∃xs ys,h.o i=some (.list xs)∧h.o j=some (.list ys)∧cy h (xs++ys)=some (v,h'):=by
  revert hb
  cases h.o i with
  |none=>exact fun hb=>none_ne hb
  |some x=>
   induction x with
   |list xs=>
    cases h.o j with
    |none=>exact fun hb=>none_ne hb
    |some x=>
     induction x with
     |list ys=>exact fun hb=>⟨xs,ys,rfl,rfl,hb⟩
     |_=>exact fun hb=>none_ne hb
   |_=>exact fun hb=>none_ne hb
 refine d7 k fun xs ys e1 e2 hb=> ?_
 refine S.list e1 ra fun p _ n vs _ a2 _ a3=>S.list e2 rb fun p2 _ n2 Qf _ b2 _ b3=>mF hb fun q e=> ?_
 refine P.add_list a2 b2 ?_ ?_
 ·have:=(g.of e).list S (a3.app b3) q (t:=s.toks)
  rw[←Array.toList_append]at this
  exact this
 ·rw[List.length_append,a3.len,b3.len]at q
  exact q
theorem F9(S:ah W env fs ρ l h s){i:Nat}{n:Int}{v:V}{a' b':Value}(hb:y6 h n (h.o i)=some (v,h'))(ra:VR W ρ (.ref i) a')(rb:VR W ρ (.int n) b')
 {Q:Value→Shared→Prop} (g:Got W env fs l ρ s v h' Q):wpAny (model W.prog W.w) A (binaryOp .Mult a' b') Q E s:=by
 have k: ∃x,h.o i=some (.list [x])∧(if 0≤n∧n≤100000 then cy h (List.replicate n.toNat x)else none)=some (v,h'):=by
  revert hb
  cases h.o i with
  |none=>exact fun hb=>none_ne hb
  |some x=>
   induction x with
   |list xs=>
    induction xs with
    |nil=>exact fun hb=>none_ne hb
    |cons x t=>
     induction t with
     |nil=>exact fun hb=>⟨x,rfl,hb⟩
     |cons _ _=>exact fun hb=>none_ne hb
   |_=>exact fun hb=>none_ne hb
 refine aA k fun x e1 hb=> ?_
 obtain⟨u,rfl⟩:=rb
 refine S.list e1 ra fun p _ m vs _ a2 _ a3=>mF hb fun q hb=>mF hb fun q2 e=> ?_
 obtain⟨ls⟩:=vs
 induction ls with
 |nil=>exact a3.elim
 |cons y t=>
  induction t with
  |nil=>exact F4 a2 q.1 q.2 ((g.of e).list S (bo.rep a3.1 _) q2)
  |cons _ _=>exact a3.2.elim
theorem Ga(S:ah W env fs ρ l h s){o:cx}{a b:Int}{v:V}{a' b':Value}(hb:yx h o a b=some (v,h'))(ra:VR W ρ (.int a) a')(rb:VR W ρ (.int b) b')
 {Q:Value→Shared→Prop} (g:Got W env fs l ρ s v h' Q):wpAny (model W.prog W.w) A (binaryOp o.op a' b') Q E s:=by
 obtain⟨t,rfl⟩:=ra
 obtain⟨u,rfl⟩:=rb
 induction o with
 |add=>exact PyProof.Rows.add_int ((g.of hb).now S ⟨_,rfl⟩)
 |sub=>exact PyProof.Rows.sub_int ((g.of hb).now S ⟨_,rfl⟩)
 |mul=>exact mF hb fun q e=>PyProof.Rows.mul_int ((g.of e).now S ⟨_,rfl⟩) (IntMulOk.of_left (Nat.le_trans (zw q.1) (by decide)))
 |div=>exact mF hb fun q e=>PyProof.Rows.floordiv_int q.1 ((g.of e).now S ⟨_,rfl⟩) (.inl (PyProof.noPylong_small q.2))
 |mod=>exact mF hb fun q e=>PyProof.Rows.mod_int q ((g.of e).now S ⟨_,rfl⟩)
 |shl=>
  refine mF hb fun q e=>PyProof.Rows.lshift_int q.1 ?_ ((g.of e).now S ⟨_,rfl⟩)
  have:=zw q.2.2
  have:=q.2.1
  trace"cc0zVrV10000zrBp2^10000klnnA10000kl0zUrBcUjnU0zrBcUgjnoAcVt2^27zriii q _ .a"
 |band=>exact mF hb fun q e=>F5 q ((g.of e).now S ⟨_,rfl⟩)
theorem Gb(S:ah W env fs ρ l h s){o:cx}{x y:List Nat}{v:V}{a' b':Value}(hb:yy h x y o=some (v,h'))(ra:VR W ρ (.str x) a')(rb:VR W ρ (.str y) b')
 {Q:Value→Shared→Prop} (g:Got W env fs l ρ s v h' Q):wpAny (model W.prog W.w) A (binaryOp o.op a' b') Q E s:=by
 refine sq hb fun e hb=>mF hb fun q e2=> ?_
 subst e
 obtain⟨t,rfl⟩:=ra
 obtain⟨u,rfl⟩:=rb
 refine SB.add (fun t' k=> ?_) (by rw[str_len,str_len];exact q)
 rw[vp]
 exact(g.of e2).now S ⟨_,rfl⟩
theorem Gc(S:ah W env fs ρ l h s){o:cx}{x:List Nat}{n:Int}{v:V}{a' b':Value}(hb:yz h x n o=some (v,h'))(ra:VR W ρ (.str x) a')(rb:VR W ρ (.int n) b')
 {Q:Value→Shared→Prop} (g:Got W env fs l ρ s v h' Q):wpAny (model W.prog W.w) A (binaryOp o.op a' b') Q E s:=by
 refine y9 hb fun e hb=> ?_
 subst e
 induction x with
 |nil=>exact none_ne hb
 |cons c t=>
  induction t with
  |cons _ _=>exact none_ne hb
  |nil=>
   obtain⟨t,rfl⟩:=ra
   obtain⟨u,rfl⟩:=rb
   exact mF hb fun q e=>F6 q fun t' k=>(g.of e).now S ⟨_,rfl⟩
theorem Gd(S:ah W env fs ρ l h s){o:cx}{x y:List UInt8}{v:V}{a' b':Value}(hb:y0 h x y o=some (v,h'))(ra:VR W ρ (.bytes x) a')(rb:VR W ρ (.bytes y) b')
 {Q:Value→Shared→Prop} (g:Got W env fs l ρ s v h' Q):wpAny (model W.prog W.w) A (binaryOp o.op a' b') Q E s:=by
 refine sq hb fun e hb=>mF hb fun q e2=> ?_
 subst e
 obtain⟨t,rfl⟩:=ra
 obtain⟨u,rfl⟩:=rb
 exact F7 q fun t' k=>(g.of e2).now S ⟨_,rfl⟩
theorem Ge{C:Cx}(S:ah W env fs ρ l h s){o:cx}{a b v:V}{a' b':Value}(hb:dm C h o a b=some (v,h'))(ra:VR W ρ a a')(rb:VR W ρ b b')
 {Q:Value→Shared→Prop} (g:Got W env fs l ρ s v h' Q):wpAny (model W.prog W.w) A (binaryOp o.op a' b') Q E s:=
 v4 hb (fun i e hb=>vI hb fun j e2 hb=>Ga S hb (e▸ra) (e2▸rb) g) (fun x e hb=>FA hb (fun y e2 hb=>Gb S hb (e▸ra) (e2▸rb) g) fun n e2 hb=>Gc S hb (e▸ra) (e2▸rb) g)
  (fun x e hb=>vB hb fun y e2 hb=>Gd S hb (e▸ra) (e2▸rb) g)
  fun i e hb=>FC hb (fun j e2 hb=>sq hb fun e3 hb=>e3▸F8 S hb (e▸ra) (e2▸rb) g) fun n e2 hb=>y9 hb fun e3 hb=>e3▸F9 S hb (e▸ra) (e2▸rb) g
end
end CC
namespace CC
open PySem PySem.W PySem.Calls PyProof.Rows PyProof.Rows.KTD
section
variable{W:Wd}{env:Env}{fs:List Env}{ρ ag aD:au}{l:L}{h h' bF:H}{s s' ai:Shared}{A:Around}{k:Nat}{E:Value→Shared→Prop}
theorem Gf(a b:List Nat):((⟨a.toArray⟩:Str)==(⟨b.toArray⟩:Str))=(a==b):=by
 rw[Bool.eq_iff_iff]
 simp
@[elab_as_elim] theorem mj {C:Cx} (CL:gj W) (hC:C.cl=aj W.ak) (S:ah W env fs ρ l h s) {v:V} {v':Value} {ns:List Int} {P:Value→Prop} (hi:(C.items h v).bind dE=some ns) (r:VR W ρ v v')
 (k: ∀a vs,s.heap.IsList a vs.toArray→vs.length≤aU→IntsAre vs ns→P (.ref a)):P v':=
 mB hi fun xs h1 h2=>i9 CL hC S h1 r fun a vs hl hz rr=>k a vs hl (rr.len▸hz) (rr.FP h2)
theorem zA(a b:List Int):(a==b)=decide (a=b):=by rw[Bool.eq_iff_iff];simp
theorem zB(i:Int): ∀ns:List Int,inNums i ns=ns.contains i
 |[]=>rfl
 |x::r=>by
  show(decide (i=x)||inNums i r)=_
  rw[zB i r,List.contains_cons]
  congr 1
theorem zC{P:Prop}{C:Cx}{a b:V}{f:List Int→List Int→Bool}{c:Bool}(hb:uV C h a b f=some c)(k: ∀xs ys,(C.items h a).bind dE=some xs→(C.items h b).bind dE=some ys→f xs ys=c→P):P:=
 oI hb fun xs e1 hb=>oI hb fun ys e2 hb=>k xs ys e1 e2 (Option.some.inj hb)
theorem Gg{C:Cx}(CL:gj W)(hC:C.cl=aj W.ak)(S:ah W env fs ρ l h s)(hu:A.units≤9000){a b:V}{c:Bool}{a' b':Value}(hb:n7 C h a b=some c)(ra:VR W ρ a a')(rb:VR W ρ b b')
 {Q:Value→Shared→Prop} (g:Q (.bool c) s):wpAny (model W.prog W.w) A (compareOp .Eq a' b') Q E s:=by
 refine vE hb (fun i e hb=>za hb (fun j e2 e3=> ?_) fun j e2 e3=> ?_) (fun i e hb=>vS hb fun j e2 e3=> ?_) (fun i e hb=>vB hb fun j e2 e3=> ?_) (fun i e hb=>vO hb fun j e2 e3=> ?_) (fun e hb=>za hb (fun j e2 e3=> ?_) fun j e2 e3=> ?_)
  fun hb=>zC hb fun xs ys e1 e2 e3=>mj CL hC S e1 ra fun p vs hl _ hi=>mj CL hC S e2 rb fun q us qq _ kM=>eq_intsK hl hi qq kM (Nat.lt_of_le_of_lt (Nat.add_le_add_right hu 64) (by decide)) ((zA xs ys).symm.trans e3▸g)
 all_goals subst e e2;cases e3
 ·obtain⟨t,rfl⟩:=ra;obtain⟨u,rfl⟩:=rb
  exact PyProof.Rows.eq_int g
 ·obtain⟨t,rfl⟩:=ra;obtain⟨u,rfl⟩:=rb
  exact PySem.EqMixed.eq_int_str g
 ·obtain⟨t,rfl⟩:=ra;obtain⟨u,rfl⟩:=rb
  exact PyProof.Rows.eq_str (Gf i j▸g)
 ·obtain⟨t,rfl⟩:=ra;obtain⟨u,rfl⟩:=rb
  exact PySem.W.eq_bytes g
 ·obtain rfl:=ra;obtain rfl:=rb
  exact PyProof.Rows.eq_bool g
 ·obtain rfl:=ra;obtain⟨u,rfl⟩:=rb
  exact PySem.EqNone.eq_none_int g
 ·obtain rfl:=ra;obtain⟨u,rfl⟩:=rb
  exact PySem.EqNone.eq_none_str g
theorem Gh{C:Cx}(CL:gj W)(hC:C.cl=aj W.ak)(S:ah W env fs ρ l h s)(hu:A.units≤9000){a b:V}{c:Bool}{a' b':Value}(hb:n8 C h a b=some c)(ra:VR W ρ a a')(rb:VR W ρ b b')
 {Q:Value→Shared→Prop} (g:Q (.bool c) s):wpAny (model W.prog W.w) A (compareOp .NotEq a' b') Q E s:=by
 refine FE hb (fun i e hb=>vI hb fun j e2 e3=> ?_) (fun i e hb=>vB hb fun j e2 e3=> ?_)
  fun hb=>zC hb fun xs ys e1 e2 e3=>mj CL hC S e1 ra fun p vs hl _ hi=>mj CL hC S e2 rb fun q us qq _ kM=>ne_intsK hl hi qq kM (Nat.lt_of_le_of_lt (Nat.add_le_add_right hu 64) (by decide)) ((congrArg (!·) (zA xs ys)).symm.trans e3▸g)
 all_goals subst e e2;cases e3;obtain⟨t,rfl⟩:=ra;obtain⟨u,rfl⟩:=rb
 ·exact PyProof.Rows.ne_int g
 ·exact PySem.W.ne_bytes g
theorem kL.cases {h:Heap} {t:T} {v:Value} (r:kL h t v):v= .none∨(∃i t,v= .int i t)∨(∃x t,v= .str x t)∨ ∃a,v= .ref a:=by
 induction t with
 |none=>exact .inl r
 |int i=>obtain⟨t,rfl⟩:=r;exact .inr (.inl ⟨_,_,rfl⟩)
 |str i=>obtain⟨t,rfl⟩:=r;exact .inr (.inr (.inl ⟨_,_,rfl⟩))
 |node x y=>(refine g9 r fun a _ _ Gi _=> ?_;obtain rfl:=Gi);exact .inr (.inr (.inr ⟨_,rfl⟩))
theorem Gj{a:V}{a':Value}(Gk:a≠ .tree .none)(ra:VR W ρ a a'):plainIs a' .none=true∧(a'==Value.none)=(a== .none):=by
 have kt: ∀v,a'=v→plainIs v .none=true∧(v==Value.none)=(a== .none)→plainIs a' .none=true∧(a'==Value.none)=(a== .none):=fun v e h=>e▸h
 induction a with
 |int i=>exact ra.elim fun t e=>kt _ e ⟨rfl,rfl⟩
 |str i=>exact ra.elim fun t e=>kt _ e ⟨rfl,rfl⟩
 |bytes i=>exact ra.elim fun t e=>kt _ e ⟨rfl,rfl⟩
 |ref i=>exact ra.elim fun t e=>e.elim fun _ e=>kt _ e.2 ⟨rfl,rfl⟩
 |tree t=>
  induction t with
  |none=>exact absurd rfl Gk
  |int i=>exact ra.elim fun t e=>kt _ e ⟨rfl,rfl⟩
  |str i=>exact ra.elim fun t e=>kt _ e ⟨rfl,rfl⟩
  |node x y=>refine g9 ra fun a _ _ e _=> ?_;exact kt _ e ⟨rfl,rfl⟩
 |_=>exact kt _ ra ⟨rfl,rfl⟩
theorem Gl{P:Prop}{C:Cx}{a b:V}{c:Bool}(hb:mem C h a b=some c)(k: ∀i xs,a= .int i→(C.items h b).bind dE=some xs→xs.contains i=c→P):P:=
 vI hb fun i e hb=>oI hb fun xs e2 hb=>k i xs e e2 (Option.some.inj hb)
theorem sQ{f:Int→Int→Bool}{a b:V}{c:Bool}{a' b':Value}(hb:pV f a b=some c)(ra:VR W ρ a a')(rb:VR W ρ b b'){P:Value→Value→Prop}(k: ∀i j t u,f i j=c→P (.int i t) (.int j u)):P a' b':=
 vI hb fun i e hb=>vI hb fun j e2 e3=>by
  subst e e2
  obtain⟨t,rfl⟩:=ra
  obtain⟨u,rfl⟩:=rb
  exact k i j t u (Option.some.inj e3)
theorem zD{a b:V}{f:Bool→Bool}{c:Bool}{a' b':Value}(hb:isNone a b f=some c)(ra:VR W ρ a a')(rb:VR W ρ b b'){P:Value→Prop}(k:plainIs a' .none=true→f (a'==Value.none)=c→P .none):P b':=
 vN hb fun e hb=>by
  subst e
  obtain rfl:b'= .none:=rb
  refine mG hb fun q e=> ?_
  obtain⟨p1,p2⟩:=Gj q ra
  exact k p1 (p2▸Option.some.inj e)
theorem qt{C:Cx}(CL:gj W)(hC:C.cl=aj W.ak)(S:ah W env fs ρ l h s)(hu:A.units≤9000){o:fZ}{a b:V}{c:Bool}{a' b':Value}(hb:cK C h o a b=some c)(ra:VR W ρ a a')(rb:VR W ρ b b')
 {Q:Value→Shared→Prop} (g:Q (.bool c) s):wpAny (model W.prog W.w) A (compareOp o.op a' b') Q E s:=by
 have mk: ∀{o:CmpOp}{d:Bool},mem C h a b=some d→(∀i t q us ns,s.heap.IsList q (List.toArray us)→IntsAre us ns→inNums i ns=d→wpAny (model W.prog W.w) A (compareOp o (.int i t) (.ref q)) Q E s)→wpAny (model W.prog W.w) A (compareOp o a' b') Q E s:=
  fun hb k=>Gl hb fun i xs e e2 e3=>by
   subst e
   obtain⟨t,rfl⟩:=ra
   exact mj CL hC S e2 rb fun q us qq _ kM=>k i t q us xs qq kM ((zB i xs).trans e3)
 induction o with
 |eq=>exact Gg CL hC S hu hb ra rb g
 |ne=>exact Gh CL hC S hu hb ra rb g
 |lt=>exact sQ hb ra rb (P:=fun a' b'=>wpAny (model W.prog W.w) A (compareOp .Lt a' b') Q E s) fun i j t u e=>PyProof.Rows.lt_int (e▸g)
 |le=>exact sQ hb ra rb (P:=fun a' b'=>wpAny (model W.prog W.w) A (compareOp .LtE a' b') Q E s) fun i j t u e=>PyProof.Rows.le_int (e▸g)
 |gt=>exact sQ hb ra rb (P:=fun a' b'=>wpAny (model W.prog W.w) A (compareOp .Gt a' b') Q E s) fun i j t u e=>PyProof.Rows.gt_int (e▸g)
 |ge=>exact sQ hb ra rb (P:=fun a' b'=>wpAny (model W.prog W.w) A (compareOp .GtE a' b') Q E s) fun i j t u e=>PyProof.Rows.ge_int (e▸g)
 |is=>exact zD hb ra rb (P:=fun b'=>wpAny (model W.prog W.w) A (compareOp .Is a' b') Q E s) fun p e=>wpAny_is_plain p ((show(a'==Value.none)=c from e)▸g)
 |pU=>exact zD hb ra rb (P:=fun b'=>wpAny (model W.prog W.w) A (compareOp .IsNot a' b') Q E s) fun p e=>wpAny_isNot_plain p ((show(!(a'==Value.none))=c from e)▸g)
 |isin=>exact mk hb fun i t q us ns hl hi e=>in_nums ⟨us,hl,hi⟩ (fun _ _ e=>e) (e▸g)
 |jA=>exact mM hb fun d hb e0=>mk hb fun i t q us ns hl hi e=>notin_nums ⟨us,hl,hi⟩ (fun _ _ e=>e) (e▸e0▸g)
theorem zE{n:Nat}(h:n≤aU):(n:Int)<2^63:=by
 have h:n≤16777216:=h
 trace"baA16777216klAcq2^63zri h"
theorem vq{C:Cx}(CL:gj W)(hC:C.cl=aj W.ak)(S:ah W env fs ρ l h s){a:V}{c:Bool}{a':Value}(hb:jE C h a=some c)(ra:VR W ρ a a')
 {Q:Bool→Shared→Prop} (g:fh W env fs l ρ s c h Q):wpAny (model W.prog W.w) A (truthy a') Q E s:=by
 have k:(C.items h a).map (!·.isEmpty)=some c→wpAny (model W.prog W.w) A (truthy a') Q E s:=fun hb=>mM hb fun xs h1 e=>i9 CL hC S h1 ra fun p vs hl hz r=>by
  refine wpAny_truthy_list hl (zE (n:=vs.toArray.size) ((show xs.length=vs.toArray.size from r.len)▸hz)) ?_
  have e2:vs.toArray.isEmpty=xs.isEmpty:=by
   rw[List.isEmpty_toArray]
   induction xs with
   |nil=>induction vs with
    |nil=>rfl
    |cons _ _=>exact r.elim
   |cons _ _=>induction vs with
    |nil=>exact r.elim
    |cons _ _=>rfl
  rw[e2,e]
  exact g.now S
 induction a with
 |none=>obtain rfl:=ra;exact truthy_none (Option.some.inj hb▸g.here S)
 |bool b=>obtain rfl:=ra;exact wpAny_truthy_bool (Option.some.inj hb▸g.here S)
 |int i=>obtain⟨t,rfl⟩:=ra;exact PyProof.Rows.truthy_int (Option.some.inj hb▸g.here S)
 |ref i=>exact k hb
 |b7 i=>exact k hb
 |_=>exact none_ne hb
theorem Gm:typeLookup (.type "bytes") (dunderI "add")=pure none:=by rw[typeLookup_type,builtinLookup_eq_fast];kernel_rfl
theorem Gn{a b:List UInt8}{t u:Tok}{Q:Value→Shared→Prop}(q:a.length+b.length≤aU)(h: ∀t' k,Q (.bytes (a++b).toArray t') {s with toks:=k}):
 wpAny (model W.prog W.w) A (inplaceOp .Add (.bytes a.toArray t) (.bytes b.toArray u)) Q E s:=by
 refine wpAny_inplaceOp_concat (typeIs_bytes s _ t) (typeIs_bytes s _ u) Gm KBy.noFill_bytes_add KBy.seq_bytes_add
  (call_gives FB.slot_bytes_add (typeIs_bytes s _ t) FB.entry_bytes_add (FB.args_bytes_add_2 _ _) (KBy.gives_bytes_add (KBy.tooLong_not (by simp;exact q))) ?_)
 have e:a.toArray++b.toArray=(a++b).toArray:=by simp
 by_cases hb:a.toArray.isEmpty=true
 ·rw[if_pos hb]
  have e1:a=[]:=by simpa using hb
  have h':=h u s.toks
  rw[e1,List.nil_append]at h'
  exact h'
 ·rw[if_neg hb]
  by_cases hc:b.toArray.isEmpty=true
  ·rw[if_pos hc]
   have e1:b=[]:=by simpa using hc
   have h':=h t s.toks
   rw[e1,List.append_nil]at h'
   exact h'
  ·rw[if_neg hc]
   rw[e]
   exact⟨by rw[←FZ];simpa using q,h s.toks (s.toks+1)⟩
theorem vt(S:ah W env fs ρ l h s){o:cx}{a b v:V}{a' b':Value}(hb:lW o a b=some v)(ra:VR W ρ a a')(rb:VR W ρ b b')
 {Q:Value→Shared→Prop} (g:Got W env fs l ρ s v h Q):wpAny (model W.prog W.w) A (inplaceOp o.op a' b') Q E s:=by
 refine sq hb fun e0 hb=>FD hb (fun i e hb=>vI hb fun j e2 e3=> ?_) fun i e hb=>vB hb fun j e2 hb=>mF hb fun q e3=> ?_
 all_goals subst e0 e e2;obtain rfl:=Option.some.inj e3;obtain⟨t,rfl⟩:=ra;obtain⟨u,rfl⟩:=rb
 ·exact wpAny_iadd_int (g.now S ⟨_,rfl⟩)
 ·exact Gn q fun t' k=>g.now S ⟨_,rfl⟩
theorem T.zF {t:T} {v:Value} (r:kL W.h₀ t v):VR W ρ t.v v:=by
 induction t<;>exact r
theorem zH{C:Cx}(CL:gj W)(hC:C.cl=aj W.ak)(S:ah W env fs ρ l h s){a b v:V}{a' b':Value}(hb:idx C h a b=some v)(ra:VR W ρ a a')(rb:VR W ρ b b')
 {Q:Value→Shared→Prop} (g:Got W env fs l ρ s v h Q):wpAny (model W.prog W.w) A (getItem a' b') Q E s∧s.TypeIs a' "list" :=by
 refine vI hb fun i e hb=>FF hb (fun t e2 hb=>tN hb fun x y e3 hb=> ?_) fun hb=>oL hb fun xs h1 hb=>mF hb fun q e3=> ?_
 ·subst e e2 e3
  (refine nW ra fun p vl vr Go Gp t1 t2=> ?_;obtain rfl:=Go;obtain⟨o,ho,hl⟩:=Gp)
  have hl:s.heap.IsList p #[vl,vr]:=⟨o,S.cL _ _ ho,hl⟩
  obtain⟨t,rfl⟩:=rb
  refine⟨oh hb (fun q e=> ?_) fun _ hb=>mF hb fun q e=> ?_,hl.typeIs⟩
  ·obtain rfl:=Option.some.inj e;subst q
   exact wpAny_getItem_list (x:=vl) hl (by decide) (by decide) rfl (g.here S (T.zF t1))
  ·obtain rfl:=Option.some.inj e;subst q
   exact wpAny_getItem_list (x:=vr) hl (by decide) (by decide) rfl (g.here S (T.zF t2))
 ·subst e
  obtain⟨t,rfl⟩:=rb
  refine i9 CL hC S h1 ra fun p vs hl hz r=> ?_
  refine aA (r.get e3) fun x hx rx=> ?_
  have hz:xs.length≤16777216:=hz
  have:=(List.getElem?_eq_some_iff.mp e3).1
  exact⟨wpAny_getItem_list (x:=x) hl q (by trace"cbA16777216klBpAl0zUrBcUjnU0zrB0kenoUq2^63zriii hz this .t") (List.getElem?_toArray.trans hx) (g.here S rx),hl.typeIs⟩
end
section
variable{M:Model}{W:Wd}{env:Env}{fs:List Env}{ρ ag aD:au}{l:L}{h h' bF:H}{s s' ai:Shared}{A:Around}{k:Nat}{E:Value→Shared→Prop}
theorem qu{prog:Program}{w:World}{value eD:PySem.Expr}{o i:Value}{T id:String}{ops:List Value}{Q:Value→Shared→Prop}(hT:s.TypeIs o T)
 (hl:typeLookup (.type T) "__getitem__" =pure (some (.builtin id))) (h:wpAny (model prog w) A (getItem o i) Q E s)
 (hs:subscripted eD false o i=operate ops (getItem o i)):
 wpAny (model prog w) A (subscriptTail value eD o i) Q E s:=by
 unfold subscriptTail
 refine wpAny_bind ?_
 rw[getitemInPython_of_ne hT.not_modules]
 refine wpAny_bind (wpAny_specialOf hT hl ?_)
 have fin:wpAny (model prog w) A (subscripted eD false o i) (fun r kN=>wpAny (model prog w) A (letTemporaryGo value o r>>=fun _=>pure r) Q E kN) E s:=by
  rw[hs]
  exact wpAny_operating (wpAny_mono h (fun r kN Gq=>wpAny_bind (wpAny_letTemporaryGo (wpAny_pure Gq))) fun _ _ x=>x)
 first
  |exact wpAny_pure (wpAny_bind fin)
  |exact wpAny_bind (wpAny_pure (wpAny_bind fin))
  |exact wpAny_bind fin
theorem zI{e:PySem.Expr}(n:hP e=true)(o i:Value):subscripted e false o i=operate [o,i] (getItem o i):=by
 cases e with
 |Slice a b c d=>exact nope n
 |_=>exact Eq.refl (operate [o,i] (getItem o i))
theorem Gr{C:Cx}(CL:gj W)(hC:C.cl=aj W.ak)(S:ah W env fs ρ l h s){a b v:V}{a' b':Value}(hb:idx C h a b=some v)(ra:VR W ρ a a')(rb:VR W ρ b b')
 {value e:PySem.Expr} (ns:hP e=true) {Q:Value→Shared→Prop} (g:Got W env fs l ρ s v h Q):wpAny (model W.prog W.w) A (subscriptTail value e a' b') Q E s:=
 have k:=zH CL hC S hb ra rb g
 qu k.2 list_getitem_lookup k.1 (zI ns _ _)
theorem sR(p:Option (Int×Tok)):IsPart (partValue p) (p.map (·.1)):=by
 induction p with
 |none=>exact .none
 |some p=>exact .int _ _
theorem Gs{x:List Nat}{a b:Nat}(ja:a≤b)(hb:b≤x.length)(t:Tok)(u v:Tok){Q:Value→Shared→Prop}(hz:x.length≤aU)(h: ∀t' k,Q (.str ⟨(be x a b).toArray⟩ t') {s with toks:=k}):
 (sliceMade (⟨x.toArray⟩:Str) t (some ((a:Int),u)) (some ((b:Int),v)) none).post Q s:=by
 refine post_val_or_str ?_
 have e0:slicePicked (⟨x.toArray⟩:Str) (some ((a:Int),u)) (some ((b:Int),v)) none=Builtin.Str.strSliceIndices (some (a:Int)) (some (b:Int)) 1 (⟨x.toArray⟩:Str).length:=rfl
 have e1:=StrLaws.sliced_plain (⟨x.toArray⟩:Str) ja (by rw[str_len];exact hb)
 have e2:(x.drop a).take (b-a)=be x a b:=by unfold be;rw[List.drop_take]
 have key: ∀c:Bool,(c=true→b-a=x.length)→(if c=true then(⟨x.toArray⟩:Str)else⟨((slicePicked (⟨x.toArray⟩:Str) (some ((a:Int),u)) (some ((b:Int),v)) none).filterMap ((⟨x.toArray⟩:Str).cps[·]?)).toArray⟩)=⟨(be x a b).toArray⟩:=by
  intro c hc
  split
  ·rename_i q
   have:=hc q
   rw[←e2,show a=0 by trace"eaCDlDAlBAeCDlBCaDenDClB0kenoC0keiiii ja hb this .s",show b=x.length by trace"eaDClCBlABeDClADaCenCDlA0kenoCBeiiii ja hb this .s"]
   simp
  ·rw[e0,e1,e2]
 have hl:(be x a b).length≤x.length:=by unfold be;simp;trace"eaCBlCBlACenBClABenoABDalii hb .m"
 rw[key]
 ·exact⟨by rw[str_len];exact Nat.le_trans hl hz,h⟩
 ·intro hc
  simp only[Bool.and_eq_true,beq_iff_eq]at hc
  have:=hc.2
  rw[e0,StrLaws.strSliceIndices_plain ja (by rw[str_len];exact hb),str_len]at this
  simpa using this
theorem zJ{α:Type}(xs:List α){lo hi:Option Int}(h0:0≤lo.getD 0)(h1:0≤hi.getD 0):
 (xs.drop (lo.elim 0 (clipAt xs.length))).take (hi.elim xs.length (clipAt xs.length)-lo.elim 0 (clipAt xs.length))=be xs (lo.getD 0).toNat ((hi.map Int.toNat).getD xs.length):=by
 have e1:lo.elim 0 (clipAt xs.length)=min (lo.getD 0).toNat xs.length:=by
  induction lo with
  |none=>simp
  |some i=>
   obtain⟨n,rfl⟩:=Int.eq_ofNat_of_zero_le h0
   exact clipAt_nat _ _
 have e2:hi.elim xs.length (clipAt xs.length)=min ((hi.map Int.toNat).getD xs.length) xs.length:=by
  induction hi with
  |none=>simp
  |some i=>
   obtain⟨n,rfl⟩:=Int.eq_ofNat_of_zero_le h1
   exact clipAt_nat _ _
 rw[e1,e2]
 unfold be
 generalize (lo.getD 0).toNat=a
 generalize (hi.map Int.toNat).getD xs.length=b
 apply List.ext_getElem?
 intro i
 simp only[List.getElem?_take,List.getElem?_drop]
 by_cases p:i<min b xs.length-min a xs.length
 ·have:min a xs.length=a:=by trace"haFpGlEDlGEaDenDElG0kenoAClEAenCAlECenoBClDBenCBlDCenoEAeiiii p .s .m .m"
  rw[if_pos p,this,if_pos (by trace"haCpAlGBeGDlAGaDenDGlA0kenoBFlGBenFBlGFenoEFlDEenFElDFenoBCapEliiiii p this .s .m .m")]
 ·rw[if_neg p]
  split
  ·rw[List.getElem?_eq_none (by trace"haGpBlxCGapAlDFlBDaFenFDlB0kenoCElDCenEClDEenoAElFAenEAlFEenoECGaliiiii p _ .s .m .m")]
  ·rfl
abbrev pt(p:Option (Int×Tok)):Option Int:=p.map fun x=>x.1
noncomputable def gm(s:Shared)(lo hi:Option (Int×Tok)):Shared:={s with heap:=s.heap.push {cls:= .type "slice",data:= .fields #[partValue lo,partValue hi,.none]}}
theorem Gu{P:Prop}{x:List Nat}{v:V}{l u:Option Int}(hb:rX h x l u=some (v,h'))(k: ∀a b,l=some a→u=some b→a≤b∧b≤x.length∧x.length≤aU→some (V.str (be x a.toNat b.toNat),h)=some (v,h')→P):P:=by
 induction l with
 |none=>exact none_ne hb
 |some a=>
  induction u with
  |none=>exact none_ne hb
  |some b=>exact mF hb fun q e=>k a b rfl rfl q e
theorem Gv{P:Prop}{C:Cx}{a:V}{l u:Option Int}{r:V×H}(hb:uW C h l u a=some r)(k1: ∀x,a= .str x→rX h x l u=some r→P)
 (k2: ∀x,a= .bytes x→(if x.length≤aU then some (V.bytes (be x (l.getD 0).toNat ((u.map Int.toNat).getD x.length)),h)else none)=some r→P)
 (k3:fF C h l u a=some r→P):P:=by
 induction a with
 |str x=>exact k1 x rfl hb
 |bytes x=>exact k2 x rfl hb
 |_=>exact k3 hb
section
variable{C:Cx}{v:V}{a':Value}{lo hi:Option (Int×Tok)}{value:PySem.Expr}{lx ly:Option PySem.Expr}{p:Pos}{Q:Value→Shared→Prop}
theorem Gw(S:ah W env fs ρ l h (gm s lo hi)){x:List Nat}(hb:rX h x (pt lo) (pt hi)=some (v,h'))(q1:0≤(pt lo).getD 0)(q2:0≤(pt hi).getD 0)(ra:VR W ρ (.str x) a')(g:Got W env fs l ρ (gm s lo hi) v h' Q):
 wpAny (model W.prog W.w) A (subscriptTail value (.Slice lx ly none p) a' (.ref s.heap.objs.size)) Q E (gm s lo hi):=by
 obtain⟨t,rfl⟩:=ra
 refine Gu hb fun i j e1 e2 c e=> ?_
 rw[e1]at q1
 rw[e2]at q2
 obtain⟨a,rfl⟩:=Int.eq_ofNat_of_zero_le (show 0≤i from q1)
 obtain⟨b,rfl⟩:=Int.eq_ofNat_of_zero_le (show 0≤j from q2)
 refine mM e1 fun p e1 e3=>mM e2 fun p2 e2 e4=> ?_
 obtain⟨i',ti⟩:=p
 obtain⟨j',tj⟩:=p2
 subst e1 e2
 obtain rfl:i'=(a:Int):=e3
 obtain rfl:j'=(b:Int):=e4
 exact qu (T:= "str") (ops:=[.ref s.heap.objs.size,_]) (typeIs_str _ _ _) F.slot_str_getitem.lookup
  (wpAny_getItem_str_slice (l:=some ((a:Int),ti)) (u:=some ((b:Int),tj)) (st:=none) ⟨_,Heap.get?_push_size _ rfl,rfl,rfl⟩ rfl (Gs (Int.ofNat_le.mp c.1) (Int.ofNat_le.mp c.2.1) _ _ _ c.2.2 fun t' k=>(g.of e).now S ⟨_,rfl⟩)) rfl
theorem Gx(S:ah W env fs ρ l h (gm s lo hi)){x:List UInt8}(c:x.length≤aU)(e:some (V.bytes (be x ((pt lo).getD 0).toNat (((pt hi).map Int.toNat).getD x.length)),h)=some (v,h'))(q1:0≤(pt lo).getD 0)(q2:0≤(pt hi).getD 0)
 (ra:VR W ρ (.bytes x) a') (g:Got W env fs l ρ (gm s lo hi) v h' Q):wpAny (model W.prog W.w) A (subscriptTail value (.Slice lx ly none p) a' (.ref s.heap.objs.size)) Q E (gm s lo hi):=by
 obtain⟨t,rfl⟩:=ra
 refine qu (T:= "bytes") (ops:=[.ref s.heap.objs.size,_]) (typeIs_bytes _ _ _) FB.slot_bytes_getitem.lookup (getItem_meets (typeIs_bytes _ _ _) (by decide) FB.slot_bytes_getitem FB.entry_bytes_getitem (FB.args_bytes_getitem_2 _ _)
  (KBc.meets_slice2 x.toArray t _ (sR lo) (sR hi)) ⟨Heap.IsSliceOf.new ..,Nat.le_trans (KBc.size_picked_le _ _ _) c,fun t' k=> ?_⟩) rfl
 have e3:KBy.picked x.toArray (pt lo) (pt hi)=(be x ((pt lo).getD 0).toNat (((pt hi).map Int.toNat).getD x.length)).toArray:=(KBc.picked_eq _ _ _).trans (congrArg List.toArray (zJ x q1 q2))
 rw[e3]
 exact(g.of e).now S ⟨_,rfl⟩
theorem Gy(S:ah W env fs ρ l h (gm s lo hi)){x:List V}{xs:List Value}{b:Addr}(hl:(gm s lo hi).heap.IsList b xs.toArray)(r:bo W ρ x xs)(hz:x.length≤aU)(hb:cy h (be x ((pt lo).getD 0).toNat (((pt hi).map Int.toNat).getD x.length))=some (v,h'))
 (q1:0≤(pt lo).getD 0) (q2:0≤(pt hi).getD 0) (g:Got W env fs l ρ (gm s lo hi) v h' Q):wpAny (model W.prog W.w) A (subscriptTail value (.Slice lx ly none p) (.ref b) (.ref s.heap.objs.size)) Q E (gm s lo hi):=by
 refine mF hb fun c2 e=>qu (T:= "list") (ops:=[.ref s.heap.objs.size,_]) hl.typeIs list_getitem_lookup (wpAny_getItem_list_slice hl (Heap.IsSliceOf.new ..) (sR lo) (sR hi) .none (fun e=>by cases e) ?_ (show xs.toArray.size≤_ from(show x.length=xs.toArray.size from r.len)▸hz)) rfl
 have e3:slicePick xs.toArray (pt lo) (pt hi) none=(be xs ((pt lo).getD 0).toNat (((pt hi).map Int.toNat).getD xs.length)).toArray:=(slicePick_plain _ _ _).trans (congrArg List.toArray (zJ xs q1 q2))
 rw[e3]
 exact(g.of e).list S (t:=s.toks) (r.len▸(r.take _).drop _) c2
theorem vu(CL:gj W)(hC:C.cl=aj W.ak)(S:ah W env fs ρ l h s){a:V}(hb:eD C h a (pt lo) (pt hi)=some (v,h'))(ra:VR W ρ a a')(g:Got W env fs l ρ s v h' Q):
 wpAny (model W.prog W.w) A (subscriptTail value (.Slice lx ly none p) a' (.ref s.heap.objs.size)) Q E (gm s lo hi):=
 have sS:ah W env fs ρ l h (gm s lo hi):=S.grow (fun _ _ e=>Heap.get?_push_of_some _ e) rfl rfl
 have vv:aY env fs ρ s ρ (gm s lo hi):=aY.grow (fun _ _ e=>Heap.get?_push_of_some _ e) rfl
 mF hb fun q hb=>Gv hb (fun x e hb=>Gw sS hb q.1 q.2.1 (e▸ra) (g.after vv)) (fun x e hb=>mF hb fun c e2=>Gx sS c e2 q.1 q.2.1 (e▸ra) (g.after vv))
  fun hb=>oL hb fun xs h1 hb=>i9 CL hC sS h1 ra fun b vs hl hz r=>Gy sS hl r hz hb q.1 q.2.1 (g.after vv)
end
end
structure zK(W:Wd):Prop where
 tup: ∀d,cB d=true→instIn W.K (.ref (W.bc d)) (.type "tuple")=some false
 kG: ∀d,cB d=true→(clsIn W.K (W.bc d)).isSome=true
 typ: ∀d,cB d=true→typeIn W.K (.ref (W.bc d))=some (.type "type")
 base: ∀d,cB d=true→mroIn W.K (W.bc d) (.type "BaseException")=some true
 sub: ∀c d,cB c=true→cB d=true→mroIn W.K (W.bc c) (.ref (W.bc d))=some (CC.sub c d)
 keep: ∀c,cB c=true→keepIn W.K (.ref (W.bc c))=true
 call: ∀c,cB c=true→ ∀{s:Shared}{A:Around}{E Q:Value→Shared→Prop}{rest:List Value},W.h₀.StaysIn s.heap→rest.length≤5→
  (∀h' e,Heap.MadeExcOf s.heap h' e (.ref (W.bc c)) rest→Q (.ref e) {s with heap:=h'})→wpAny (model W.prog W.w) A (call (.ref (W.bc c)) rest) Q E s
structure aN(W:Wd)(mg mb:Str→Option Value):Prop where
 X:W.K.In W.h₀
 exc:zK W
 cl:gj W
 nm:qo W mg mb
 sm:(W.h₀.get? sysModules).isSome
 pg:plainGet W.K (W.bc .ao) "" =true
 hd:hasDictIn W.K (W.bc .ao)=true
 po:plainOver W.K (W.bc .ao)=true
 sa:findIn W.K (.ref (W.bc .ao)) "__setattr__" =some (some (.builtin "object.__setattr__"))
 sT: ∀n f,bJ .ao n=some (.fn f)→findIn W.K (.ref (W.bc .ao)) n.str=some (some (.ref (W.fL f)))
 vw: ∀n v,bJ .ao n=some v→(∀f,v≠ .fn f)→ ∃a,findIn W.K (.ref (W.bc .ao)) n.str=some (some a)∧specialIn W.K a "__get__" =some none∧ ∀ρ,VR W ρ v a
 mq: ∀n,bJ .ao n=none→findIn W.K (.ref (W.bc .ao)) n.str=some none
 sU: ∀f,isFn W.K (.ref (W.fL f))=true
 zM: ∀f,specialIn W.K (.ref (W.fL f)) "__get__" =some (some (.builtin "function.__get__"))
 zN: ∀f,takesIn W.K (.ref (W.fL f))=some false
 zO: ∀f,fnIn W.K (W.fL f)=true
 zP: ∀f,keepIn W.K (.ref (W.fL f))=true
 zQ:keepIn W.K (.ref (W.bc .ao))=true
 zR:makesIn W.K (W.bc .ao)=true
 zS: ∀c f,bJ c .hJ=some (.fn f)→readsIn W.K (W.bc c) (.type "type")=true∧specialIn W.K (.ref (W.bc c)) "__getattribute__" =some (some (.builtin "type.__getattribute__"))∧findCls W.K (.ref (W.bc c)) (.type "type") Nm.hJ.str=some (.val (.ref (W.fL f)))
section
variable{W:Wd}{mg mb:Str→Option Value}{env:Env}{fs:List Env}{ρ ag aD:au}{l:L}{h h' bF:H}{s s' ai:Shared}{A:Around}{k:Nat}{E:Value→Shared→Prop}
theorem sV{v:V}{v':Value}(r:VR W ρ v v'):handedIn v'=true:=by
 induction v with
 |int i=>exact r.elim fun t e=>e▸rfl
 |str i=>exact r.elim fun t e=>e▸rfl
 |bytes i=>exact r.elim fun t e=>e▸rfl
 |ref i=>exact r.elim fun t e=>e.elim fun _ e=>e.2▸rfl
 |tree t=>rcases kL.cases r with e|⟨_,_,e⟩|⟨_,_,e⟩|⟨_,e⟩<;>exact e▸rfl
 |_=>exact(show v'=_ from r)▸rfl
theorem vz(n:Nm):copiedNames.contains n.str=false:=TN (Nm.sB (P:=fun x=> !copiedNames.contains x) (by decide+kernel) n)
theorem zT{k:Value}{n m:Nm}(e: ∃t,k= .str n.str t):k.isStr m.str=decide (n=m):=by
 obtain⟨t,rfl⟩:=e
 show(n.str==m.str)=_
 rw[Bool.eq_iff_iff]
 simp
 exact⟨Nm.str_inj,fun e=>e▸rfl⟩
theorem fg.noRef {at_:List (Nm×V)} {es:List DictEntry} (h:fg W ρ at_ es):es.any (·.refKey)=false:=
 h.ind (P:=fun _ es=>es.any (·.refKey)=false) rfl fun x e at_ r a _ b=>by
  obtain⟨⟨t,hk⟩,_⟩:=a
  rw[List.any_cons,b,DictEntry.refKey,hk];rfl
theorem fg.find {at_:List (Nm×V)} {es:List DictEntry} (h:fg W ρ at_ es) (n:Nm):match own n at_ with
 |some v=> ∃e,es.find? (·.key.isStr n.str)=some e∧VR W ρ v e.val
 |none=>es.find? (·.key.isStr n.str)=none:=
 h.ind (P:=fun at_ es=>match own n at_ with
  |some v=> ∃e,es.find? (·.key.isStr n.str)=some e∧VR W ρ v e.val
  |none=>es.find? (·.key.isStr n.str)=none) rfl fun x e at_ r a _ b=>by
  rw[show own n (x::at_)=if x.1=n then some x.2 else own n at_ from rfl,List.find?_cons,zT a.1]
  by_cases q:x.1=n
  ·rw[if_pos q,decide_eq_true q]
   exact⟨e,rfl,a.2.2⟩
  ·rw[if_neg q,decide_eq_false q]
   exact b
theorem fg.getL {at_:List (Nm×V)} {es:List DictEntry} (r:fg W ρ at_ es) (n:Nm):match own n at_ with
 |some v=> ∃v',getL n.str es=some (some v')∧VR W ρ v v'
 |none=>getL n.str es=some none:=by
 have:=r.find n
 split
 ·rename_i e
  rw[e]at this
  refine aA this fun x a b=> ?_
  refine⟨x.val,?_,b⟩
  unfold PySem.W.getL
  rw[a]
 ·rename_i e
  rw[e]at this
  unfold PySem.W.getL
  dsimp only at this
  rw[this,r.noRef]
  rfl
structure qv(W:Wd)(ρ:au)(hp:Heap)(i:Nat)(at_:List (Nm×V))(x dx:Addr)(es:List DictEntry)(n:Nat):Prop where
 cC:ρ i=some (x,dx)
 I:InstAt hp x (instObj (W.bc .ao) dx) (W.bc .ao) (some (dictOf es n))
 hd:hp.get? dx=some (dictOf es n)
 r:fg W ρ at_ es
 ne:x≠dx
 hz:es.length≤500
@[elab_as_elim] theorem ah.inst {P:Value→Prop} (S:ah W env fs ρ l h s) {v:V} {v':Value} {i:Nat} {at_:List (Nm×V)} (e:inst? h v=some (i,at_)) (r:VR W ρ v v')
 (k: ∀x dx es n,h.o i=some (.inst .ao at_)→qv W ρ s.heap i at_ x dx es n→P (.ref x)):P v':=
 inst_c e fun e1 e2=>by
  subst e1
  obtain⟨a,dx,cC,es,n,h1,h2,h3,h4,h5⟩:=S.objs i _ e2
  refine cQ r fun b _ q q2=> ?_
  have q3:a=b:=congrArg Prod.fst (Option.some.inj (cC.symm.trans q))
  exact q2▸q3▸k a dx es n e2 ⟨cC,⟨h1,rfl,rfl,h2⟩,h2,h5,h3,h4⟩
theorem ah.K (O:aN W mg mb) (S:ah W env fs ρ l h s):W.K.In s.heap:=fun a o e=>S.cL _ _ (O.X a o e)
theorem dZ(hp:Heap):hp.get? hp.objs.size=none:=by
 cases q:hp.get? hp.objs.size with
 |none=>rfl
 |some o=>exact absurd (Heap.lt_size q) (Nat.lt_irrefl _)
theorem Got.obj {o:O} {ob:Obj} {Q:Value→Shared→Prop} (g:Got W env fs l ρ s (.ref h.n) (h.push o) Q) (S:ah W env fs ρ l h s) (hf:ob.isFreed=false)
 (r: ∀hp:Heap,hp.get? s.heap.objs.size=some ob→jM W ρ s.heap.objs.size s.heap.objs.size hp o) {t:Nat}:
 Q (.ref s.heap.objs.size) {s with heap:=s.heap.push ob,toks:=t}:=by
 have ho:(s.heap.push ob).get? s.heap.objs.size=some ob:=Heap.get?_push_size _ hf
 refine ck (S.push (o:=o) (a:=s.heap.objs.size) (dx:=s.heap.objs.size) (s':={s with heap:=s.heap.push ob,toks:=t})
  (fun b o e=>Heap.get?_push_of_some _ e) rfl rfl (dZ _) (dZ _) (by rw[ho];rfl) (by rw[ho];rfl) (r _ ho)) fun ag S' X cC=> ?_
 exact g _ _ ag S' X ⟨_,_,cC,rfl⟩
theorem qv.own {i:Nat} {at_:List (Nm×V)} {x dx:Addr} {es:List DictEntry} {n:Nat} {hp:Heap} (I:qv W ρ hp i at_ x dx es n) {m:Nm} {v:V} (e:own m at_=some v) {P:Prop} (k: ∀v',VR W ρ v v'→lookIn m.str (dictOf es n)=some (some v')→P):P:=by
 have g:=I.r.getL m
 rw[e]at g
 refine aA g fun v' a b=> ?_
 exact k v' b ((lookIn_dict ..).trans a)
theorem qv.none {i:Nat} {at_:List (Nm×V)} {x dx:Addr} {es:List DictEntry} {n:Nat} {hp:Heap} (I:qv W ρ hp i at_ x dx es n) {m:Nm} (e:CC.own m at_= .none):lookIn m.str (dictOf es n)=some .none:=by
 have g:=I.r.getL m
 rw[e]at g
 exact(lookIn_dict ..).trans g
theorem sW(O:aN W mg mb)(S:ah W env fs ρ l h s){a v:V}{a':Value}{n:Nm}(hb:eE h a n=some (v,h'))(ra:VR W ρ a a')
 {Q:Value→Shared→Prop} (g:Got W env fs l ρ s v h' Q) {expr:Bool}:wpAny (model W.prog W.w) A (getAttr a' n.str expr) Q E s:=by
 refine mP hb fun i at_ e hb=>S.inst e ra fun x dx es nn _ I=> ?_
 cases q:own n at_ with
 |some u=>
  rw[q]at hb
  refine I.own q fun v' rv gl=>mF hb fun e3 e4=> ?_
  exact get_value (S.K O) I.I (plainGet_of O.pg).1 (findObj_own O.hd (O.mq n e3) rfl gl) (sV rv) ((g.of e4).now S rv)
 |none=>
  rw[q]at hb
  have gl:=I.none q
  refine zd hb (fun f e3 e4=> ?_) fun u e3 ne e4=> ?_
  ·refine get_bind (S.K O) I.I (plainGet_of O.pg).1 (findObj_fn O.hd (O.sT n f e3) (O.zM f) (O.zN f) (vz n) gl) (plainGet_of O.pg).2 ?_
   refine wpAny_call (fn_get (s:={s with toks:=s.toks+1}) ((S.toks _).K O) (beq_iff_eq.mp (O.sU f)) (handed_on rfl ?_))
   exact(g.of e4).obj S rfl fun hp e=>⟨_,e,⟨_,_,I.cC,rfl⟩⟩
  ·refine ck (O.vw n u e3 ne) fun b h1 h2 h3=> ?_
   exact get_value (S.K O) I.I (plainGet_of O.pg).1 (findObj_cls O.hd h1 h2 (sV (h3 ρ)) (vz n) gl) (sV (h3 ρ)) ((g.of e4).now S (h3 ρ))
noncomputable def ot(W:Wd)(ρ:au)(s:Shared)(f:V)(fst:List V)(Q:Value×List Value→Shared→Prop):Prop:= ∀f' vA t,VR W ρ f f'→bo W ρ fst vA→Q (f',vA) {s with toks:=t}
theorem ot.of {f a:V} {fst b:List V} {Q:Value×List Value→Shared→Prop} (g:ot W ρ s f fst Q) (e:some (a,b)=some (f,fst)):ot W ρ s a b Q:=SP (P:=fun f fst=>ot W ρ s f fst Q→ot W ρ s a b Q) e id g
theorem Gz(O:aN W mg mb)(S:ah W env fs ρ l h s){a f:V}{fst:List V}{a':Value}{n:Nm}(hb:gf h a n=some (f,fst))(ra:VR W ρ a a'){pl:Sem Bool}
 {Q:Value×List Value→Shared→Prop} (g:ot W ρ s f fst Q):wpAny (model W.prog W.w) A (getMethod a' n.str pl) Q E s:=by
 have k:(match inst? h a with|some (i,at_)=>y7 i n (own n at_)|none=>none)=some (f,fst)→wpAny (model W.prog W.w) A (getMethod a' n.str pl) Q E s:=fun hb=>by
  refine mP hb fun i at_ e hb=>S.inst e ra fun x dx es nn _ I=> ?_
  cases q:own n at_ with
  |some u=>
   rw[q]at hb
   refine I.own q fun v' rv gl=>mF hb fun e3 e4=> ?_
   exact method_usual (S.K O) I.I (plainGet_of O.pg).1 (plainGet_of O.pg).2 (O.mq n e3) rfl (get_value (S.K O) I.I (plainGet_of O.pg).1 (findObj_own O.hd (O.mq n e3) rfl gl) (sV rv) (g.of e4 _ _ _ rv trivial))
  |none=>
   rw[q]at hb
   have gl:=I.none q
   refine zf hb fun f e3 e4=>method_fn (S.K O) I.I (plainGet_of O.pg).1 (plainGet_of O.pg).2 (O.sT n f e3) (beq_iff_eq.mp (O.sU f)) (by show(lookIn n.str (dictOf es nn)).map _=_;rw[gl];rfl) ?_
   exact g.of e4 _ _ s.toks rfl ⟨⟨_,_,I.cC,rfl⟩,trivial⟩
 induction a with
 |cls c=>
  refine mF hb fun e1 hb=>zf hb fun f e2 e3=> ?_
  subst e1
  obtain rfl:a'= .ref (W.bc c):=ra
  refine cH (O.zS c f e2) fun c1 c2 c3=> ?_
  exact method_cls (S.K O) c2 (cls_value (S.K O) c1 c3 rfl (g.of e3 _ _ _ rfl trivial))
 |ref i=>exact k hb
 |_=>exact none_ne hb
theorem fg.put {x:V} {x':Value} {n:Nm} {tk:Tok} (rx:VR W ρ x x') {at_:List (Nm×V)} {es:List DictEntry} (h:fg W ρ at_ es):fg W ρ (CC.put n x at_) (putL n.str (PyData.keyHash W.w.params n.str) (.str n.str tk) x' es):=
 h.ind (P:=fun at_ es=>fg W ρ (CC.put n x at_) (putL n.str (PyData.keyHash W.w.params n.str) (.str n.str tk) x' es)) ⟨⟨⟨tk,rfl⟩,rfl,rx⟩,trivial⟩ fun mv e at_ r a b ih=>by
  obtain⟨m,v⟩:=mv
  refine cH a fun hk hh hv=> ?_
  rw[show CC.put n x ((m,v)::at_)=if m=n then(m,x)::at_ else(m,v)::CC.put n x at_ from rfl]
  unfold putL
  rw[zT hk]
  by_cases q:m=n
  ·subst q
   rw[if_pos rfl,decide_eq_true rfl]
   exact⟨⟨hk,hh,rx⟩,b⟩
  ·rw[if_neg q,decide_eq_false q]
   exact⟨⟨hk,hh,hv⟩,ih⟩
theorem zU(name:Str)(hs:Int)(key v:Value): ∀es:List DictEntry,(putL name hs key v es).length≤es.length+1
 |[]=>Nat.le_refl _
 |e::r=>by
  unfold putL
  split
  ·simp
  ·have:=zU name hs key v r
   simp;trace"caABplABpli this"
theorem vC(O:aN W mg mb)(S:ah W env fs ρ l h s){a x:V}{a' x':Value}{n:Nm}(hb:dk h a n x=some h')(ra:VR W ρ a a')(rx:VR W ρ x x')
 {Q:Unit→Shared→Prop} (g: ∀s',ah W env fs ρ l h' s'→aY env fs ρ s ρ s'→Q () s'):wpAny (model W.prog W.w) A (setAttr a' n.str x') Q E s:=by
 refine mP hb fun i at_ e hb=>mF hb fun q e4=>S.inst e ra fun y dx es nn _ I=> ?_
 obtain⟨e3,jO⟩:=q
 have e4:=(Option.some.inj e4).symm
 subst e4
 refine set_plain (S.K O) I.I O.sa ?_
 have jP:=S.toks (s.toks+1)
 refine osa_open (s:={s with toks:=s.toks+1}) (jP.K O) I.I O.po (by unfold takerIn;rw[O.mq n e3];rfl:takerIn _ _ _=some none) fun b=> ?_
 refine aA (any_some (show(clsIn W.K (W.bc .ao)).any (·.hasDict)=true from O.hd)) fun cd hc GA=> ?_
 refine wpAny_bind (wpAny_pure (wpAny_bind (wpAny_bind (wpAny_loadPart I.I.at_ (wpAny_bind ((looks_clsIn (jP.K O) hc).here ?_))))))
 rw[GA]
 refine wpAny_pure (a:=some dx) (wpAny_bind (wpAny_pure (wpAny_bind ?_)))
 unfold nsSet
 refine wpAny_bind (wpAny_bind (wpAny_askSetting (wpAny_pure (wpAny_bind (wpAny_mkText (wpAny_bind (wpAny_loadPart I.hd ?_)))))))
 show wpAny _ _ (if aRefKeyMayBeTheName n.str es.toArray=true then _ else _) _ _ _
 have c:aRefKeyMayBeTheName n.str es.toArray=false:=by
  rw[aRefKeyMayBeTheName_at,←Array.any_toList,←Array.any_toList]
  rw[I.r.noRef,Bool.and_false]
 rw[if_neg (by rw[c];decide)]
 refine wpAny_updatePart I.hd ?_
 have kO:=Heap.get?_update_self (Obj.putName n.str (PyData.keyHash W.w.params n.str) (.str n.str (s.toks+1)) x') I.hd (by rw[putName_dict];rfl)
 rw[putName_dict]at kO
 have z1:=zU n.str (PyData.keyHash W.w.params n.str) (.str n.str (s.toks+1)) x' es
 have z2:=I.r.len
 refine wpAny_bind (wpAny_lookBehind kO (pastItsLine_dict (by rw[List.size_toArray,sizeLine_eq];trace"daB400klCAplBAeC16777216kpliii jO z1 z2")) (wpAny_pure ?_))
 have U:=S.upd (i:=i) (o:= .inst .ao (CC.put n x at_)) (a:=y) (dx:=dx)
  (s':={s with heap:=s.heap.update dx (Obj.putName n.str (PyData.keyHash W.w.params n.str) (.str n.str (s.toks+1)) x'),toks:=s.toks+1+1}) I.cC
  (fun b _ n2=>Heap.get?_update_other _ _ (fun q=>n2 q.symm)) rfl rfl
  (by rw[Heap.get?_update_other _ _ (fun q=>I.ne q.symm),I.I.at_];rfl) (by rw[kO];rfl)
  ⟨_,_,by rw[Heap.get?_update_other _ _ (fun q=>I.ne q.symm)];exact I.I.at_,kO,I.ne,by trace"daB400klCAplBAeC500kliii jO z1 z2",I.r.put rx⟩
 exact g _ U.1 U.2
end
noncomputable def zV(base:Heap)(fs:List Env)(a:Addr)(cls:Value)(h:Heap):Prop:=
 base.StaysIn h∧base.get? a=none∧h.FunFrames base fs∧ ∃oe vs a0,h.get? a=some oe∧oe.cls=cls∧oe.data= .fields vs∧vs[1]? =some .none∧vs[0]? =some a0
noncomputable def ou(W:Wd)(env:Env)(fs:List Env)(ρ:au)(ax:Shared)(base:Heap)(s:Shared):Prop:=
 W.h₀.StaysIn base∧ ∀b,((ax.heap.get? b).isSome∨gO env ρ b)→b∉frames fs→base.get? b=s.heap.get? b
noncomputable def gP(W:Wd)(env:Env)(fs:List Env)(ρ:au)(ax:Shared)(c:Cl)(e:Value)(s:Shared):Prop:=
 ∃base a L,e= .ref a∧env.frame=some L∧ou W env fs ρ ax base s∧
  (zV base fs a (.ref (W.bc c)) s.heap∨(∃a0,Heap.FlyingW base fs a (.ref (W.bc c)) a0 s.heap)∨ ∃a0,Heap.HeldW base fs a (.ref (W.bc c)) a0 L s.heap)
theorem gP.after {W:Wd} {env:Env} {fs:List Env} {ag:au} {s ai s':Shared} {c:Cl} {e:Value} (x:gP W env fs ag ai c e s') (X: ∀b,(s.heap.get? b).isSome→(ai.heap.get? b).isSome):gP W env fs ag s c e s':=by
 refine nW x fun base a L h1 h2 h3 h4=> ?_
 exact⟨base,a,L,h1,h2,⟨h3.1,fun b hb=>h3.2 b (hb.imp (X b) id)⟩,h4⟩
noncomputable def gp(W:Wd)(env:Env)(fs:List Env)(l:L)(ρ:au)(s:Shared)(r:CR)(h':H)(R:Result→Shared→Prop):Prop:=match r with
 | .ret v=>Got W env fs l ρ s v h' (fun v s=>R (.ok (.ret v)) s)
 | .exc c=> ∀e s' ag,ah W env fs ag l h' s'→aY env fs ρ s ag s'→gP W env fs ag s c e s'→R (.error e) s'
structure vD(A:Around)(fs:List Env)(k:Nat):Prop where
 hd:A.handled=none
 fr:A.frames=some fs
 dp:A.depth+20*k+15≤850
 un:A.units+200*k+150≤9000
theorem b6.call {A:Around} {fs:List Env} {k:Nat} (a:b6 A fs k):vD A fs k:=⟨a.hd,a.fr,by have:=a.dp;trace"caABp20ma850klAB20ma15ka850kli this",by have:=a.un;trace"caABp200ma9000klAB200ma150ka9000kli this"⟩
structure bq(W:Wd)(C:Cx)(k:Nat):Prop where
 cl:C.cl=aj W.ak
 call: ∀{f xs ks h r h'},C.call f xs ks h=some (r,h')→ ∀{env fs ρ l s A R}{vs kvs:List Value},ah W env fs ρ l h s→vD A fs k→bo W ρ xs vs→bo W ρ (ks.map (·.2)) kvs→
  gp W env fs l ρ s r h' R→codeAny (model W.prog W.w) A (.call (.ref (W.fL f)) ⟨vs,(ks.map (·.1.str)).zip kvs⟩) R s
noncomputable def Jx(W:Wd)(k:Nat)(env:Env)(e:PySem.Expr)(l:L)(h:H)(v:V)(h':H):Prop:= ∀⦃fs:List Env⦄⦃ρ:au⦄⦃s:Shared⦄⦃A:Around⦄⦃E:Value→Shared→Prop⦄⦃Q:Value→Shared→Prop⦄,
 ah W env fs ρ l h s→b6 A fs k→Got W env fs l ρ s v h' Q→wpAny (model W.prog W.w) A (eval e env) Q E s
noncomputable def ow(W:Wd)(k:Nat)(env:Env)(es:List PySem.Expr)(l:L)(h:H)(v:List V)(h':H):Prop:= ∀⦃pos:Pos⦄⦃fs:List Env⦄⦃ρ:au⦄⦃s:Shared⦄⦃A:Around⦄⦃E:Value→Shared→Prop⦄⦃Q:List Value→Shared→Prop⦄,
 ah W env fs ρ l h s→b6 A fs k→jN W env fs l ρ s v h' Q→wpAny (model W.prog W.w) A (spliced (backTo pos (starEach es env))) Q E s
noncomputable def Jq(W:Wd)(k:Nat)(env:Env)(e:PySem.Expr)(l:L)(h:H)(v:Bool)(h':H):Prop:= ∀⦃fs:List Env⦄⦃ρ:au⦄⦃s:Shared⦄⦃A:Around⦄⦃E:Value→Shared→Prop⦄⦃Q:Bool→Shared→Prop⦄,
 ah W env fs ρ l h s→b6 A fs k→fh W env fs l ρ s v h' Q→wpAny (model W.prog W.w) A (isTrue e env (eval e env)) Q E s
noncomputable def aG(W:Wd)(C:Cx)(k:Nat)(x:X):Prop:= ∀{env:Env}{e:PySem.Expr}{l:L}{h h':H}{v:V},cN env.scope x e→ev C l x h=some (v,h')→Jx W k env e l h v h'
noncomputable def ox(W:Wd)(C:Cx)(k:Nat)(xs:XS):Prop:= ∀{env:Env}{es:List PySem.Expr}{l:L}{h h':H}{vs:List V},mf env.scope xs es→cz C l xs h=some (vs,h')→ow W k env es l h vs h'
noncomputable def gq(W:Wd)(C:Cx)(k:Nat)(x:Q):Prop:= ∀{env:Env}{e:PySem.Expr}{l:L}{h h':H}{v:Bool},qh env.scope x e→te C l x h=some (v,h')→Jq W k env e l h v h'
section
variable{W:Wd}{mg mb:Str→Option Value}{C:Cx}{k:Nat}{env:Env}{e:PySem.Expr}{l:L}{h h' h1 h2 h3:H}{u v w v1 v2:V}{p:Pos}{a b c:PySem.Expr}
theorem Jx.of {sc:Scope} {x:X} (r:cN sc x e) (j:Jx W k env (aB x e) l h v h'):Jx W k env e l h v h':=r.1▸j
theorem ow.of {sc:Scope} {x:XS} {es:List PySem.Expr} {vs:List V} (r:mf sc x es) (j:ow W k env (eG x es) l h vs h'):ow W k env es l h vs h':=r.1▸j
theorem Jq.of {sc:Scope} {x:Q} {t:Bool} (r:qh sc x e) (j:Jq W k env (hU x e) l h t h'):Jq W k env e l h t h':=r.1▸j
theorem GB{n:Nm}:aG W C k (.loc n):=fun r e1=>Jx.of r (mM e1 fun v e2 e3 _ _ _ _ _ _ S _ g=>vo S r.2 e2 (g.of (congrArg some e3)))
theorem GC(O:aN W mg mb){n:Nm}:aG W C k (.glob n):=fun r e1=>Jx.of r (mM e1 fun v e2 e3 _ _ _ _ _ _ S _ g=>
 (O.nm.glob n _ e2).elim fun _ z=>qp O.nm S r.2 (vm n) z.2 ((g.of (congrArg some e3)).here S (z.1 _)))
theorem GD{i:Int}:aG W C k (.int i):=fun r e1=>Jx.of r fun _ _ _ _ _ _ S _ g=>wpAny_Constant_int ((g.of e1).now S ⟨_,rfl⟩)
theorem GE{i:List Nat}:aG W C k (.str i):=fun r e1=>Jx.of r fun _ _ _ _ _ _ S _ g=>wpAny_Constant_str ((g.of e1).now S ⟨_,rfl⟩)
theorem GG{i:List UInt8}:aG W C k (.bytes i):=fun r e1=>Jx.of r fun _ _ _ _ _ _ S _ g=>PySem.W.Constant_bytes ((g.of e1).now S ⟨_,rfl⟩)
theorem GH{i:Bool}:aG W C k (.bool i):=fun r e1=>Jx.of r fun _ _ _ _ _ _ S _ g=>wpAny_Constant_bool ((g.of e1).here S rfl)
theorem GI:aG W C k .none:=fun r e1=>Jx.of r fun _ _ _ _ _ _ S _ g=>wpAny_Constant_none ((g.of e1).here S rfl)
theorem GJ{x:X}(hx:aG W C k x):aG W C k (.neg x):=fun r e1=>Jx.of r (mI e1 fun i h1 e2 e3 _ _ _ _ _ _ S a g=>
 wpAny_UnaryOp (hx (.mk (congrArg (ad · 0) r.1) r.2) e2 S a fun v' s' ag S' X r=>r.elim fun t e=>e▸PyProof.Rows.neg_int (((g.of e3).after X).now S' ⟨_,rfl⟩)))
theorem GK(O:aN W mg mb){o:cx}{x y:X}(hx:aG W C k x)(hy:aG W C k y):aG W C k (.bin o x y):=fun r e1=>Jx.of r (mA e1 fun u h1 e2 e3=>mA e3 fun w h2 e4 e5=>
 fun _ _ _ _ _ _ S a g=>wpAny_BinOp (hx (.mk (congrArg (ad · 0) r.1) (T1 r.2)) e2 S a fun v1 s1 aQ S1 X1 q1=>hy (.mk (congrArg (ad · 1) r.1) (T2 r.2)) e4 S1 a fun v2 s2 aZ S2 X2 q2=>
  Ge S2 e5 (q1.mono X2.le) q2 ((g.after X1).after X2)))
theorem b6.u9 {A:Around} {fs:List Env} (a:b6 A fs k):A.units≤9000:=Nat.le_trans (Nat.le_add_right _ _) a.un
theorem GL(O:aN W mg mb)(CO:bq W C k){o:fZ}{x y:X}(hx:aG W C k x)(hy:aG W C k y):aG W C k (.cmp o x y):=fun r e1=>Jx.of r (mA e1 fun u h1 e2 e3=>mA e3 fun w h2 e4 e5=>mM e5 fun c e6 e7=>
 fun _ _ _ _ _ _ S a g=>wpAny_Compare1 (hx (.mk (congrArg (ad · 0) r.1) (T1 (T1 r.2))) e2 S a fun v1 s1 aQ S1 X1 q1=>hy (.mk (congrArg (ad · 1) r.1) (T2 (T1 r.2))) e4 S1 a fun v2 s2 aZ S2 X2 q2=>
  qt O.cl CO.cl S2 a.u9 e6 (q1.mono X2.le) q2 ((((g.of (congrArg some e7)).after X1).after X2).here S2 rfl)) (TR (f:=fun b=> !behindInMarks o.op b) (congrArg (ad · 1) r.1) (T2 r.2)|>TN))
theorem GN{t:Q}{x y:X}(ht:gq W C k t)(hx:aG W C k x)(hy:aG W C k y):aG W C k (.bz t x y):=fun r e1=>Jx.of r (mT e1
 (fun h1 e2 e3 _ _ _ _ _ _ S a g=>wpAny_IfExp (ht (.mk (congrArg (ad · 0) r.1) (T1 (T1 r.2))) e2 S a fun s1 aQ S1 X1=>hx (.mk (congrArg (ad · 1) r.1) (T2 (T1 r.2))) e3 S1 a (g.after X1)))
 fun h1 e2 e3 _ _ _ _ _ _ S a g=>wpAny_IfExp (ht (.mk (congrArg (ad · 0) r.1) (T1 (T1 r.2))) e2 S a fun s1 aQ S1 X1=>hy (.mk (congrArg (ad · 2) r.1) (T2 r.2)) e3 S1 a (g.after X1)))
theorem GO(O:aN W mg mb)(CO:bq W C k){x y:X}(hx:aG W C k x)(hy:aG W C k y):aG W C k (.sub x y):=fun r e1=>Jx.of r (mA e1 fun u h1 e2 e3=>mA e3 fun w h2 e4 e5=>mM e5 fun c e6 e7=>
 fun _ _ _ _ _ _ S a g=>Subscript_ (hx (.mk (congrArg (ad · 0) r.1) (T1 (T1 r.2))) e2 S a fun v1 s1 aQ S1 X1 q1=>hy (.mk (congrArg (ad · 1) r.1) (T2 (T1 r.2))) e4 S1 a fun v2 s2 aZ S2 X2 q2=>
  Gr O.cl CO.cl S2 e6 (q1.mono X2.le) q2 (TR (f:=hP) (congrArg (ad · 1) r.1) (T2 r.2)) (((g.of (congrArg some e7)).after X1).after X2)))
theorem GP(O:aN W mg mb)(CO:bq W C k){x y z:X}(hx:aG W C k x)(hy:aG W C k y)(hz:aG W C k z):aG W C k (.fE x y z):=fun r e1=>Jx.of r (mA e1 fun u h1 e2 e3=>mI e3 fun i h2 e4 e5=>mI e5 fun j h3 e6 e7=>by
 intro fs ρ s A E Q S a g
 refine Subscript_ (hx (.mk (congrArg (ad · 0) r.1) (T1 (T1 r.2))) e2 S a fun v1 s1 aQ S1 X1 q1=>wpAny_Slice (hy (.mk (congrArg (fun e=>ad (ad e 1) 0) r.1) (T2 (T1 r.2))) e4 S1 a fun v2 s2 aZ S2 X2 q2=>hz (.mk (congrArg (fun e=>ad (ad e 1) 1) r.1) (T2 r.2)) e6 S2 a fun v3 s3 fi S3 X3 q3=> ?_))
 obtain⟨t2,rfl⟩:=q2
 obtain⟨t3,rfl⟩:=q3
 exact wpAny_pure (vu (lo:=some (i,t2)) (hi:=some (j,t3)) O.cl CO.cl S3 e7 ((q1.mono X2.le).mono X3.le) (((g.after X1).after X2).after X3)))
theorem GQ(O:aN W mg mb)(CO:bq W C k){x y:X}(hx:aG W C k x)(hy:aG W C k y):aG W C k (.fF x y):=fun r e1=>Jx.of r (mA e1 fun u h1 e2 e3=>mI e3 fun i h2 e4 e5=>by
 intro fs ρ s A E Q S a g
 refine Subscript_ (hx (.mk (congrArg (ad · 0) r.1) (T1 r.2)) e2 S a fun v1 s1 aQ S1 X1 q1=>wpAny_Slice (hy (.mk (congrArg (fun e=>ad (ad e 1) 0) r.1) (T2 r.2)) e4 S1 a fun v2 s2 aZ S2 X2 q2=> ?_))
 obtain⟨t2,rfl⟩:=q2
 exact wpAny_pure (wpAny_pure (vu (lo:=some (i,t2)) (hi:=none) O.cl CO.cl S2 e5 (q1.mono X2.le) ((g.after X1).after X2))))
theorem GR(O:aN W mg mb)(CO:bq W C k){x y:X}(hx:aG W C k x)(hy:aG W C k y):aG W C k (.eP x y):=fun r e1=>Jx.of r (mA e1 fun u h1 e2 e3=>mI e3 fun i h2 e4 e5=>by
 intro fs ρ s A E Q S a g
 refine Subscript_ (hx (.mk (congrArg (ad · 0) r.1) (T1 r.2)) e2 S a fun v1 s1 aQ S1 X1 q1=>wpAny_Slice (wpAny_pure (hy (.mk (congrArg (fun e=>ad (ad e 1) 0) r.1) (T2 r.2)) e4 S1 a fun v2 s2 aZ S2 X2 q2=> ?_)))
 obtain⟨t2,rfl⟩:=q2
 exact wpAny_pure (vu (lo:=none) (hi:=some (i,t2)) O.cl CO.cl S2 e5 (q1.mono X2.le) ((g.after X1).after X2)))
theorem zX{o:PySem.Expr}(n:jI o=true)(attr:Str)(env:Env)(qw:Sem Value):attributeBase o attr env qw=qw:=by
 cases o with
 |Call a b c d=>exact nope n
 |_=>exact Eq.refl qw
theorem vF{prog w A E s env}{value:PySem.Expr}{attr:Str}{pos:Pos}{Q:Value→Shared→Prop}(n:jI value=true)
 (h:wpAny (model prog w) A (eval value env) (fun o ai=>wpAny (model prog w) A (getAttr o attr true) Q E ai) E s):wpAny (model prog w) A (eval (.Attribute value attr pos) env) Q E s:=by
 refine Attribute_any_ h ?_
 have e:eval (.Attribute value attr pos) env=(do
  let o←attributeBase value attr env (eval value env)
  standAt pos.atName
  let r←holding [o] (getAttr o attr true)
  letTemporaryGo value o r
  pure r):=rfl
 rw[e,zX n]
theorem GS(O:aN W mg mb){x:X}{n:Nm}(hx:aG W C k x):aG W C k (.attr x n):=fun r e1=>Jx.of r (mA e1 fun u h1 e2 e3=>
 fun _ _ _ _ _ _ S a g=>vF (TR (f:=jI) (congrArg (ad · 0) r.1) (T2 r.2)) (hx (.mk (congrArg (ad · 0) r.1) (T1 r.2)) e2 S a fun v1 s1 aQ S1 X1 q1=>sW O S1 e3 q1 (g.after X1)))
theorem GT{xs:XS}(hx:ox W C k xs):aG W C k (.list xs):=fun r e1=>Jx.of r (mL e1 fun vs h1 e2 e3=>mF e3 fun q e4=>
 fun _ _ _ _ _ _ S a g=>List_ (hx (.mk (congrArg bA r.1) r.2) e2 S a fun v1 s1 aQ S1 X1 q1=>wpAny_newList (((g.of e4).after X1).list S1 (t:=s1.toks) q1 q) (q1.len▸q)))
end
noncomputable def Ty.name:Ty→String
 | .list=> "list" | .int=> "int" | .bytes=> "bytes"
section
variable{W:Wd}{mg mb:Str→Option Value}{env:Env}{fs:List Env}{ρ ag aD:au}{l:L}{h h' bF:H}{s s' ai:Shared}{A:Around}{k:Nat}{E:Value→Shared→Prop}
theorem GU(S:ah W env fs ρ l h s){v:V}{t:Ty}{b:Bool}{v':Value}(hb:kG h v t=some b)(r:VR W ρ v v'){Q:Value→Shared→Prop}(g:Got W env fs l ρ s (.bool b) h Q):
 wpAny (model W.prog W.w) A (call (.builtin "isinstance") [v',.type t.name]) Q E s:=by
 have g2: ∀{c:Bool},some c=some b→Got W env fs l ρ s (.bool c) h Q:=fun e=>(Option.some.inj e).symm▸g
 induction v with
 |tree t'=>
  refine tN hb fun x y e hb=> ?_
  subst e
  induction t with
  |list=>
   (refine pP r fun a vl vr e GW _=> ?_;refine aA GW fun o ho hl=> ?_)
   exact e▸call_isinstance (isinstance_true (Tx:= "list") F.isi_meta_list F.sub_list_list) ⟨Heap.IsList.typeIs ⟨o,S.cL _ _ ho,hl⟩,(g2 hb).here S rfl⟩
  |_=>exact none_ne hb
 |int i=>
  (refine br r fun u GX=> ?_;obtain rfl:=GX)
  induction t with
  |list=>exact call_isinstance (isinstance_false_int (by decide+kernel) F.isi_meta_list F.sub_int_list) ((g2 hb).now S rfl)
  |int=>exact call_isinstance (isinstance_true (Tx:= "int") F.isi_meta_int F.sub_int_int) ⟨typeIs_int _ _ _,(g2 hb).here S rfl⟩
  |bytes=>exact none_ne hb
 |str i=>
  (refine br r fun u vi=> ?_;obtain rfl:=vi)
  induction t with
  |list=>exact call_isinstance (isinstance_false_str (by decide+kernel) F.isi_meta_list F.sub_str_list) ((g2 hb).now S rfl)
  |int=>exact call_isinstance (isinstance_false_str (by decide+kernel) F.isi_meta_int F.sub_str_int) ((g2 hb).now S rfl)
  |bytes=>exact none_ne hb
 |none=>
  obtain rfl:=r
  induction t with
  |list=>exact call_isinstance (isinstance_false_none (by decide+kernel) F.isi_meta_list F.sub_NoneType_list) ((g2 hb).now S rfl)
  |int=>exact call_isinstance (isinstance_false_none (by decide+kernel) F.isi_meta_int F.sub_NoneType_int) ((g2 hb).now S rfl)
  |bytes=>exact none_ne hb
 |bytes i=>
  (refine br r fun u vG=> ?_;obtain rfl:=vG)
  induction t with
  |bytes=>exact call_isinstance (isinstance_true (Tx:= "bytes") F.isi_meta_bytes F.sub_bytes_bytes) ⟨typeIs_bytes _ _ _,(g2 hb).here S rfl⟩
  |_=>exact none_ne hb
 |_=>exact none_ne hb
end
theorem zY:Slot "bytes" "join" "bytes.join" :=
 .of (owner:= "bytes") (n:= "join") (by rw[typeLookup_type,builtinLookup_eq_fast];kernel_rfl) (by decide+kernel) (by decide+kernel) (by decide+kernel)
  (by first|exact .inl (by decide+kernel)|exact .inr (by decide+kernel)) (by rw[isSubtype_type];kernel_rfl)
theorem GY:typeOf (.builtin "bytes.join")=pure (.type "method_descriptor"):=by show builtinType _=_;rw[builtinType_eq_fast];kernel_rfl
theorem GZ:entryFor table "bytes.join" =some Builtin.«bytes.join»:=entryFor_of_tree (by kernel_rfl)
theorem G1(a b:Value):argsOk "bytes.join" ⟨[a,b],[]⟩:=by unfold argsOk;kernel_rfl
inductive jb:List Value→List (List UInt8)→Prop
 |nil:jb [] []
 |cons (b:List UInt8) (t:Tok) {v:List Value} {r:List (List UInt8)}:jb v r→jb (Value.bytes (List.toArray b) t::v) (b::r)
theorem jb.get {vs:List Value} {bs:List (List UInt8)} (h:jb vs bs): ∀(i:Nat)(b:List UInt8),bs[i]? =some b→ ∃t,vs[i]? =some (.bytes b.toArray t):=by
 induction h with
 |nil=>intro i b e;simp at e
 |cons _ _ _ ih=>
  intro i b e
  induction i with
  |zero=>simp at e;subst e;exact⟨_,rfl⟩
  |succ i=>exact ih i b (by simpa using e)
theorem jb.len {vs:List Value} {bs:List (List UInt8)} (h:jb vs bs):vs.length=bs.length:=by
 induction h with
 |nil=>rfl
 |cons _ _ _ ih=>simp[ih]
theorem G3(l:List (List UInt8)):Builtin.Bytes.joined #[] (l.map List.toArray)=l.flatten.toArray:=by
 unfold Builtin.Bytes.joined
 have: ∀(l:List (List UInt8))(k:Nat)(acc:Array UInt8),((l.map List.toArray).zipIdx k).foldl (fun out(x:Array UInt8×Nat)=>(if x.2>0 then out++ #[]else out)++x.1) acc=acc++l.flatten.toArray:=by
  intro l
  induction l with
  |nil=>intro k acc;simp
  |cons a l ih=>
   intro k acc
   simp only[List.map_cons,List.zipIdx_cons,List.foldl_cons]
   rw[ih]
   simp
 have:=this l 0 #[]
 simpa using this
section
variable{prog:Program}{w:World}{A:Around}{E:Value→Shared→Prop}{s:Shared}
theorem zZ{keep:List Value}: ∀{vs:List Value}{Q:Unit→Shared→Prop},Q () s→wpAny (model prog w) A (Builtin.Bytes.joinLetGo (vs.map fun v=>(v,none)) keep) Q E s
 |[],_,h=>wpAny_pure h
 |v::vs,Q,h=>by
  show wpAny _ _ (do
   let z5:=keep++_
   if let some w:=(none:Option Value)then holding (v::w::z5) (Builtin.Bytes.giveBack w)
   letGo (v::(none:Option Value).toList) z5
   Builtin.Bytes.joinLetGo (vs.map fun v=>(v,none)) keep) _ _ _
  exact wpAny_bind (wpAny_letGo (zZ h))
theorem G4{b:Array UInt8}{t:Tok}{id:String}:Builtin.Bytes.takeBufferQuiet? id (.bytes b t) 0=pure (some (b,none)):=by
 unfold Builtin.Bytes.takeBufferQuiet? Builtin.Bytes.takeBuffer?
 rw[KBy.special_eq KBy.look_buffer,pure_bind]
 have e0:((0:Int)==Builtin.Bytes.fullReadOnly)=false:=by decide
 rw[e0,KBy.own_buffer,pure_bind]
 rw[KBy.buffer_eq]
 kernel_rfl
theorem G5{D:Addr}{vs:List Value}{bs:List (List UInt8)}{t:Tok}{Q:Value→Shared→Prop}(hl:s.heap.IsList D vs.toArray)(hb:jb vs bs)(hz:bs.flatten.length≤16000000)
 (h: ∀t' k,Q (.bytes bs.flatten.toArray t') {s with toks:=k}):wpAny (model prog w) A (call (.builtin "bytes.join") [.bytes #[] t,.ref D]) Q E s:=by
 refine wpAny_call_entry zY (typeIs_bytes s _ t) GZ ?_ (G1 _ _)
 obtain⟨o,ho,hd,n,hs⟩:=id hl
 have si: ∀{Q:Option (Array Value)→Shared→Prop}{A':Around}{E':Value→Shared→Prop},Q (some vs.toArray) s→wpAny (model prog w) A' (seqItems? (.ref D)) Q E' s:=by
  intro Q A' E' q
  refine wpAny_bind (wpAny_load ho ?_)
  rw[hs]
  exact wpAny_pure q
 show wpAny _ _ (Builtin.Bytes.joinM .bytes ⟨[.bytes #[] t,.ref D],[]⟩) _ _ _
 unfold Builtin.Bytes.joinM
 refine wpAny_bind (wpAny_of_eq (a:=(Value.bytes #[] t,Value.ref D)) (by kernel_rfl) ?_)
 show wpAny _ _ (Builtin.Bytes.joinItems (.ref D)>>=_) _ _ _
 refine wpAny_bind (wpAny_bind (wpAny_typeOf hl.typeIs ?_))
 show wpAny _ _ (pure (Value.ref D)) _ _ _
 refine wpAny_pure (wpAny_bind (si ?_))
 dsimp only
 have G6: ∀i,((vs.take i).map fun v=>(v,(none:Option Value))).any (fun x=>x.1.onHeap)=false:=by
  intro i
  rw[List.any_eq_false]
  intro x hx
  (refine aA (List.mem_map.mp hx) fun v hv qj=> ?_;obtain rfl:=qj)
  have hv:=List.mem_of_mem_take hv
  refine br (List.mem_iff_getElem?.mp hv) fun j hj=> ?_
  have lt:j<bs.length:=by rw[←hb.len];exact(List.getElem?_eq_some_iff.mp hj).1
  refine br (hb.get j bs[j] (List.getElem?_eq_getElem lt)) fun t2 e=> ?_
  rw[hj]at e;cases e
  exact Bool.false_ne_true
 have z6: ∀{A':Around}{f:Nat→Array (Array UInt8)×List (Value×Option Value)→Sem (ForInStep (Array (Array UInt8)×List (Value×Option Value)))}{g:Array (Array UInt8)×List (Value×Option Value)→Sem Fin}{Q':Fin→Shared→Prop}{E':Value→Shared→Prop},
  (∀i b t2,vs[i]? =some (.bytes (List.toArray b) t2)→bs[i]? =some b→ ∀mr:ForInStep (Array (Array UInt8)×List (Value×Option Value))→Shared→Prop,mr (.yield (((bs.take i).map List.toArray).toArray.push b.toArray,((vs.take i).map fun v=>(v,none))++[(.bytes b.toArray t2,none)])) s→
   wpAny (model prog w) A' (f i (((bs.take i).map List.toArray).toArray,(vs.take i).map fun v=>(v,none))) mr E' s)→
  wpAny (model prog w) A' (g ((bs.map List.toArray).toArray,vs.map fun v=>(v,none))) Q' E' s→
  wpAny (model prog w) A' (forIn [:vs.toArray.size] (#[],[]) f>>=g) Q' E' s:=by
  intro A' f g Q' E' hf hg
  refine wpAny_bind ?_
  rw[Std.Legacy.Range.forIn_eq_forIn_range']
  refine wpAny_forIn_list _ (fun(r:List Nat) st s'=>s'=s∧ ∃i,i≤vs.length∧r=List.range' i (vs.length-i)∧st=(((bs.take i).map List.toArray).toArray,(vs.take i).map fun v=>(v,none))) _ ?_ ?_ _ _ ?_
  ·rintro x rest b s' ⟨rfl,i,hi,e,rfl⟩
   have lt:i<vs.length:=by
    apply Nat.lt_of_not_le
    intro q
    rw[show vs.length-i=0 by trace"daCBlBClCBlACaBenBClA0kenoA0keiii hi q .s"]at e
    cases e
   rw[show vs.length-i=(vs.length-(i+1))+1 by trace"eaDpClDpClADpaCenCDplA0kenoDClBDaCenCDlB0kenoBApeiii lt .s .s",List.range'_succ]at e
   refine bn (List.cons.inj e) fun e1 e0=> ?_
   subst e0
   rw[e1]
   clear e
   have lb:i<bs.length:=by rw[←hb.len];exact lt
   refine br (hb.get i bs[i] (List.getElem?_eq_getElem lb)) fun t2 e2=> ?_
   refine hf i bs[i] t2 e2 (List.getElem?_eq_getElem lb) _ ?_
   refine⟨rfl,i+1,lt,rfl,?_⟩
   have e3:vs[i]? =some (.bytes (List.toArray bs[i]) t2):=e2
   have k1:bs.take (i+1)=bs.take i++[bs[i]]:=by rw[List.take_succ,List.getElem?_eq_getElem lb];rfl
   have k2:vs.take (i+1)=vs.take i++[.bytes (List.toArray bs[i]) t2]:=by rw[List.take_succ,e3];rfl
   rw[k1,k2,List.map_append,List.map_append]
   simp only[List.push_toArray,List.map_cons,List.map_nil]
  ·rintro b s' ⟨rfl,i,hi,e,rfl⟩
   have:vs.length-i=0:=by
    have:=congrArg List.length e
    simpa using this.symm
   have cV:=hb.len
   rw[List.take_of_length_le (by trace"eaA0keCBeDClADaCenCDlA0kenoBDliii this cV .s"),List.take_of_length_le (by trace"eaA0keCBeDClADaCenCDlA0kenoCDliii this cV .s")]
   exact hg
  ·refine⟨rfl,0,Nat.zero_le _,?_,?_⟩
   ·simp[Std.Legacy.Range.size]
   ·simp
 have sum: ∀(l:List (List UInt8))(k:Nat),(l.map List.toArray).toArray.foldl (fun x1 x2=>x1+x2.size) k=k+l.flatten.length:=by
  intro l
  induction l with
  |nil=>intro k;simp
  |cons a l ih=>
   intro k
   have:=ih (k+a.length)
   simp at this⊢
   trace"eaABCaDaeABCDaaei this"
 have step: ∀{A':Around}{i:Nat}{b:List UInt8}{t2:Tok}{parts:Array (Array UInt8)}{mr:Option (Array UInt8×Option Value)→Shared→Prop}{E'}{hs id},vs[i]? =some (.bytes (List.toArray b) t2)→mr (some (b.toArray,none)) s→
  wpAny (model prog w) A' (holding hs (Builtin.Bytes.takeBufferQuiet? id (vs.toArray.getD i Value.none) 0)) mr E' s:=by
  intro A' i b t2 parts mr E' hs id e q
  have:vs.toArray.getD i Value.none= .bytes b.toArray t2:=by simp[Array.getD_eq_getD_getElem?,e]
  rw[this,G4]
  exact wpAny_holding (wpAny_pure q)
 have gd: ∀{i:Nat}{b:List UInt8}{t2:Tok},vs[i]? =some (.bytes (List.toArray b) t2)→vs.toArray.getD i Value.none= .bytes b.toArray t2:=by
  intro i b t2 e
  simp[Array.getD_eq_getD_getElem?,e]
 have fin: ∀{A':Around}{nm:String},wpAny (model prog w) A' (do
  let vH←Builtin.Bytes.Kind.new .bytes (Builtin.Bytes.joined #[] (bs.map List.toArray).toArray.toList)
  holding (vH::(vs.map fun v=>(v,(none:Option Value))).flatMap fun x=>x.1::x.2.toList) point
  Builtin.Bytes.joinLetGo (vs.map fun v=>(v,none)) [vH]
  ret vH) (fun fin s'=> ∃v,fin= .done (.ret v)∧Q v s') E s:=by
  intro A' nm
  have e1:Builtin.Bytes.joined #[] (bs.map List.toArray).toArray.toList=bs.flatten.toArray:=by
   rw[←G3]
  rw[e1]
  refine wpAny_bind (wpAny_mkBytes (wpAny_bind (wpAny_holding (wpAny_point (wpAny_bind (zZ (wpAny_pure ⟨_,rfl,h _ _⟩)))))) (by rw[sizeLine_eq];simp only[List.size_toArray];trace"baA16000000klA16777216kli hz"))
 induction hb with
 |nil=>
  refine z6 (fun i b t2 e=>by simp at e) ?_
  refine wpAny_bind (wpAny_of_eq (a:= #[]) rfl ?_)
  exact fin (nm:= "")
 |cons b t' hr=>
  induction hr with
  |nil=>
   refine wpAny_bind (wpAny_typeOf (typeIs_bytes _ _ _) ?_)
   refine wpAny_bind (wpAny_rule (wpAny_pure ⟨_,rfl,?_⟩))
   have:=h t' s.toks
   exact show Q (.bytes b.toArray t') s from by simpa using this
  |cons b2 t2 hr=>
   refine z6 (fun i b t2 e e2 mr q=> ?_) ?_
   ·refine wpAny_bind (si ?_)
    dsimp only
    rw[G6 i]
    refine wpAny_bind (step (parts:= #[]) e ?_)
    dsimp only
    refine wpAny_bind (si ?_)
    dsimp only
    rw[if_neg (by simp),gd e]
    exact wpAny_pure q
   ·refine wpAny_bind (wpAny_of_eq (a:= #[]) rfl ?_)
    dsimp only
    rw[sum,if_neg (by rw[KBy.tooLong_not (by simp only[Array.size_empty,Nat.zero_mul];trace"baA16000000kl0kAa16777216kli hz")];exact Bool.false_ne_true)]
    exact fin (nm:= "")
end
end CC
namespace CC
open PySem PySem.W PySem.Calls PySem.NumText PyProof.Rows PyProof.Rows.KTD
noncomputable def vJ(x:int_private% "Numeral"):Option Int:=(int_private% "Numeral.rec") (motive:=fun _=>Option Int) none (fun _=>none) none (fun i=>some i) x
theorem G7{x:int_private% "Numeral"}{i:Int}:vJ x=some i→x=(int_private% "Numeral.value") i:=
 (int_private% "Numeral.rec") (motive:=fun x=>vJ x=some i→x=(int_private% "Numeral.value") i) (fun e=>none_ne e) (fun _ e=>none_ne e) (fun e=>none_ne e) (fun _ e=>congrArg _ (Option.some.inj e)) x
noncomputable def vK:Nat→List (List Nat)
 |0=>[[]]
 |n+1=>(vK n).flatMap fun w=>[48::w,49::w]
theorem z7: ∀{l:List Nat},(l.all fun c=>c==48||c==49)=true→l∈vK l.length
 |[],_=> .head _
 |c::r,h=>by
  refine List.mem_flatMap.mpr ⟨r,z7 (T2 h),?_⟩
  rcases Bool.or_eq_true_iff.mp (T1 h)with e|e
  ·exact beq_iff_eq.mp e▸ .head _
  ·exact beq_iff_eq.mp e▸ .tail _ (.head _)
noncomputable def z9(l:List Nat):Bool:=l.all (·<128)&&l.takeWhile (· !=0)==l&&vJ ((int_private% "readNumeral") 0 2 l)==some ((l.foldl (fun a c=>2*a+(c-48)) 0:Nat):Int)
theorem G8:(vK 8).all z9=true:=by decide+kernel
theorem G9{l:List Nat}{n:Nat}(h:jF l=some n):(l.all (·<128))=true∧l.takeWhile (· !=0)=l∧l.length=8∧(int_private% "readNumeral") 0 2 l=(int_private% "Numeral.value") (n:Int):=
 mF (x:=some (l.foldl (fun a c=>2*a+(c-48)) 0)) h fun q e=>
  have k:z9 l=true:=List.all_eq_true.mp G8 l (q.1▸z7 q.2)
  ⟨T1 (T1 k),beq_iff_eq.mp (T2 (T1 k)),q.1,G7 ((beq_iff_eq.mp (T2 k)).trans (congrArg (fun n:Nat=>some (n:Int)) (Option.some.inj e)))⟩
theorem Ha{M:Model}{A:Around}{E:Value→Shared→Prop}{s:Shared}{Q:Value→Shared→Prop}{v:Value}{qx:List Nat}{n:Int}
 (hs:(qx.takeWhile (· !=0)).length≤640) (hr:(int_private% "readNumeral") 0 2 (qx.takeWhile (· !=0))=(int_private% "Numeral.value") n)
 (ha:((qx.takeWhile (· !=0)).length==qx.length)=true) (h:Q (.int n s.toks) {s with toks:=s.toks+1}):
 wpAny M A ((int_private% "intFromText") v qx 2) Q E s:=by
 obtain⟨hp,g,d,tk,os⟩:=s
 repeat (any_goals (first
  |assumption
  |(with_reducible refine wpAny_ite_true (decide_eq_true hs) ?_)
  |(with_reducible refine wpAny_ite_true (decide_eq_true ha) ?_)
  |wp_step))
 all_goals (try rw[hr])
 all_goals (try dsimp only)
 repeat (any_goals (first
  |assumption
  |(with_reducible refine wpAny_ite_true (decide_eq_true hs) ?_)
  |(with_reducible refine wpAny_ite_true (decide_eq_true ha) ?_)
  |wp_step))
theorem Hb(a b:Value):checkTypeCall "int" ⟨[a,b],[]⟩=pure ():=by kernel_rfl
theorem Hc(a b:Value):checkBuiltinCall "int.__new__" ⟨[.type "int",a,b],[]⟩=pure ():=by kernel_rfl
theorem He(a b c:Value):argsOk "object.__init__" ⟨[a,b,c],[]⟩:=by unfold argsOk;kernel_rfl
structure Hd(p:Prop):Prop where
 out:p
set_option maxHeartbeats 4000000 in
theorem Hf{l:List Nat}{u t:Tok}{n:Nat}(hb:jF l=some n):Gives (Builtin.«int.__new__» ⟨[.type "int",.str ⟨l.toArray⟩ u,.int 2 t],[]⟩) (.int n):=
 .of_wp fun M A E s Q h=>by
  obtain⟨hp,g,d,tk,os⟩:=s
  have f1:=F.conv_sub_int
  have f2:=F.madeHere_int
  refine dT (G9 hb) fun h1 h2 h3 h4=> ?_
  have hk:Hd ((l.takeWhile (· !=0)).length≤640∧(int_private% "readNumeral") 0 2 (l.takeWhile (· !=0))=(int_private% "Numeral.value") (n:Int)∧((l.takeWhile (· !=0)).length==l.length)=true):=
   ⟨by rw[h2,h3];decide,by rw[h2];exact h4,by rw[h2];simp⟩
  have Hg:(if(l.toArray.all (·<128))=true then l.toArray.toList else Unicode.numberText l.toArray.toList)=l:=by
   rw[if_pos (by rw[List.all_toArray];exact h1)]
  clear h1 h2 h3 h4 hb
  repeat (any_goals (first
   |assumption
   |((with_reducible show wpAny _ _ ((int_private% "intFromText") _ _ _) _ _ _);rw[Hg];refine Ha hk.out.1 hk.out.2.1 hk.out.2.2 ?_)
   |wp_step))
  all_goals first|exact⟨_,rfl,h⟩|skip
theorem Hh{prog:Program}{w:World}{A:Around}{E:Value→Shared→Prop}{s:Shared}{l:List Nat}{u t:Tok}{n:Nat}{Q:Value→Shared→Prop}(hb:jF l=some n)(h:Q (.int n s.toks) {s with toks:=s.toks+1}):
 wpAny (model prog w) A (call (.type "int") [.str ⟨l.toArray⟩ u,.int 2 t]) Q E s:=
 callType_new F.called_int F.newNe_int (Hb _ _) (Hc _ _) (fun obj=>He obj _ _) F.entry_int_new (Hf hb).meets (show(Made.int n).post _ s from⟨rfl,h⟩)
end CC
namespace CC
open PySem PySem.W PySem.Calls PyProof.Rows PyProof.Rows.KTD
section
variable{prog:Program}{w:World}{W:Wd}{mg mb:Str→Option Value}{C:Cx}{env:Env}{fs:List Env}{ρ ag aD:au}{l:L}{h h' bF:H}{s s' ai:Shared}{A:Around}{k:Nat}{E:Value→Shared→Prop}
theorem jc{e:PySem.Expr}(p:aW e=true)(rest:List PySem.Expr)(env:Env):starEach (e::rest) env=(false,eval e env)::starEach rest env:=by
 cases e with
 |Starred a b=>exact nope p
 |_=>exact rfl
noncomputable def d4:List PySem.Expr→Bool
 |[]=>true
 |e::r=>aW e&&d4 r
theorem jQ{pos:Pos}: ∀{as:List PySem.Expr},d4 as=true→(backTo pos (starEach as env)).any (·.1)=false
 |[],_=>rfl
 |e::r,h=>by
  have h:=Bool.and_eq_true_iff.mp h
  rw[jc h.1]
  have:=jQ (pos:=pos) h.2
  simp only[backTo,List.map_cons,List.any_cons,Bool.false_or]at this⊢
  exact this
theorem Hi{f:Value}(hf: ∀a,f≠ .ref a): ∀h':Heap,True→ ∃k,(k=Keeper.frame∨k=Keeper.machine∨k=Keeper.boundFrame)∧Looks (model prog w) h' (keeperOf f) k:=by
 intro h' _
 refine⟨.machine,.inr (.inl rfl),?_⟩
 induction f<;>first|exact Looks.now|exact absurd rfl (hf _)
theorem call_plain{f:Value}(hf: ∀a,f≠ .ref a){first:List Value}{pos:Pos}{a:PySem.Expr}{as:List PySem.Expr}{Q:Value→Shared→Prop}(hp:d4 (a::as)=true)
 (hh:wpAny (model prog w) A (spliced (backTo pos (starEach (a::as) env))) (fun vs ai=>wpAny (model prog w) A (call f (first++vs)) Q E ai) E s):
 wpAny (model prog w) A (callWith pos f first (backTo pos (starEach (a::as) env)) []) Q E s:=by
 refine callWith_of (P:=fun _=>True) (by rw[jQ hp];rfl) (Hi hf) ?_
 have ii:=hp
 simp only[d4,Bool.and_eq_true]at hp
 rw[jc hp.1]at hh⊢
 exact evalArgs_plain (wpAny_mono hh (fun _ _ z=>⟨trivial,z⟩) fun _ _ z=>z)
theorem vL{P:PySem.Expr→Prop}{sc:Scope}{x:Str}{f:PySem.Expr}(rep:jJ sc x f=true)(k: ∀p,P (.Name x p)):P f:=by
 cases f with
 |Name y p=>exact(beq_iff_eq.mp (T2 (T1 rep)):y=x)▸k p
 |_=>exact nope rep
theorem Hj(N:qo W mg mb)(S:ah W env fs ρ l h s){x:Str}{f:PySem.Expr}{v':Value}(rep:jJ env.scope x f=true)(hd:(x==("__debug__" :Str))=false)(hv:mg x=some v'∨mg x=none∧mb x=some v'){Q:Value→Shared→Prop}(q:Q v' s):
 wpAny (model W.prog W.w) A (eval f env) Q E s:=vL (P:=fun f=>wpAny (model W.prog W.w) A (eval f env) Q E s) rep fun _=>qp N S (T2 rep) hd hv q
theorem kP{W:Wd}(N:qo W mg mb)(S:ah W env fs ρ l h s){x:Str}{f:PySem.Expr}{g:Value}(hg: ∀a,g≠ .ref a)(rep:jJ env.scope x f=true)(hd:(x==("__debug__" :Str))=false)(hb:BI mg mb x g){a:PySem.Expr}{as:List PySem.Expr}{pos:Pos}{Q:Value→Shared→Prop}
 (hp:d4 (a::as)=true) (hh:wpAny (model W.prog W.w) A (spliced (backTo pos (starEach (a::as) env))) (fun vs ai=>wpAny (model W.prog W.w) A (call g vs) Q E ai) E s):
 wpAny (model W.prog W.w) A (eval (.Call f (a::as) [] pos) env) Q E s:=by
 exact vL (P:=fun f=>wpAny (model W.prog W.w) A (eval (.Call f (a::as) [] pos) env) Q E s) rep fun p=>wpAny_Call_NameR (qp N S (T2 rep) hd (.inr hb) (call_plain hg hp hh))
theorem jd{a:PySem.Expr}{pos:Pos}{Q:List Value→Shared→Prop}(hp:aW a=true)(hh:wpAny (model prog w) A (eval a env) (fun v ai=>Q [v] ai) E s):wpAny (model prog w) A (spliced (backTo pos (starEach [a] env))) Q E s:=
 spliced_more (wpAny_mono hh (fun v ai z=>spliced_none z) fun _ _ z=>z) (jc hp _ _)
theorem oy{a b:PySem.Expr}{pos:Pos}{Q:List Value→Shared→Prop}(hp:aW a=true)(vM:aW b=true)(hh:wpAny (model prog w) A (eval a env) (fun v ai=>wpAny (model prog w) A (eval b env) (fun u bj=>Q [v,u] bj) E ai) E s):
 wpAny (model prog w) A (spliced (backTo pos (starEach [a,b] env))) Q E s:=
 spliced_more (wpAny_mono hh (fun v ai z=>jd vM z) fun _ _ z=>z) (jc hp _ _)
theorem Hk{a b c:PySem.Expr}{pos:Pos}{Q:List Value→Shared→Prop}(hp:aW a=true)(vM:aW b=true)(Hl:aW c=true)
 (hh:wpAny (model prog w) A (eval a env) (fun v ai=>wpAny (model prog w) A (eval b env) (fun u bj=>wpAny (model prog w) A (eval c env) (fun x kN=>Q [v,u,x] kN) E bj) E ai) E s):
 wpAny (model prog w) A (spliced (backTo pos (starEach [a,b,c] env))) Q E s:=
 spliced_more (wpAny_mono hh (fun v ai z=>oy vM Hl z) fun _ _ z=>z) (jc hp _ _)
theorem Aa{sc:Scope}{x:Str}{e:PySem.Expr}(r:jJ sc x e=true):aW e=true:=by
 have:Nat.beq (i5 e) 6=true:=T1 (T1 r)
 rw[aW,Nat.eq_of_beq_eq_true this];rfl
theorem ik{a:PySem.Expr}(h:aW a=true):d4 [a]=true:=by rw[d4,h];rfl
theorem oz{a b:PySem.Expr}(h:aW a=true)(h2:aW b=true):d4 [a,b]=true:=by rw[d4,h];exact ik h2
section
variable{u v:V}{h1 h2:H}{f a b:PySem.Expr}{p:Pos}
theorem qy(O:aN W mg mb){x:Str}{g:Value}(hb:BI mg mb x g)(hg: ∀a,g≠ .ref a)(hd:(x==("__debug__" :Str))=false)(r:jJ env.scope x f=true)(ha:Jx W k env a l h u h1)(pa:aW a=true)
 (c: ∀{fs:List Env}{ρ:au}{s:Shared}{A:Around}{E:Value→Shared→Prop}{Q:Value→Shared→Prop}{u':Value},ah W env fs ρ l h1 s→b6 A fs k→Got W env fs l ρ s v h2 Q→VR W ρ u u'→wpAny (model W.prog W.w) A (call g [u']) Q E s):
 Jx W k env (.Call f [a] [] p) l h v h2:=fun _ _ _ _ _ _ S A g=>kP O.nm S hg r hd hb (ik pa) (jd pa (ha S A fun v1 s1 aQ S1 X1 q1=>c S1 A (g.after X1) q1))
theorem Ab(O:aN W mg mb){x:Str}{g:Value}{w:V}{h3:H}(hb:BI mg mb x g)(hg: ∀a,g≠ .ref a)(hd:(x==("__debug__" :Str))=false)(r:jJ env.scope x f=true)(ha:Jx W k env a l h u h1)(qz:Jx W k env b l h1 w h2)(pa:aW a=true)(pb:aW b=true)
 (c: ∀{fs:List Env}{ρ:au}{s:Shared}{A:Around}{E:Value→Shared→Prop}{Q:Value→Shared→Prop}{u' w':Value},ah W env fs ρ l h2 s→b6 A fs k→Got W env fs l ρ s v h3 Q→VR W ρ u u'→VR W ρ w w'→wpAny (model W.prog W.w) A (call g [u',w']) Q E s):
 Jx W k env (.Call f [a,b] [] p) l h v h3:=fun _ _ _ _ _ _ S A g=>kP O.nm S hg r hd hb (oz pa pb) (oy pa pb (ha S A fun v1 s1 aQ S1 X1 q1=>qz S1 A fun v2 s2 aZ S2 X2 q2=>c S2 A ((g.after X1).after X2) (q1.mono X2.le) q2))
end
theorem mt{n:String}(a:Addr):Value.builtin n≠ .ref a:=fun e=>Value.noConfusion e
theorem oA{n:String}(a:Addr):Value.type n≠ .ref a:=fun e=>Value.noConfusion e
theorem Hm{P:Prop}{C:Cx}{x:Option (V×H)}{r:V×H}(e:rY C x=some r)(k1: ∀b h,x=some (.str b,h)→b.length≤1000000000→some (V.int b.length,h)=some r→P)
 (k2: ∀b h,x=some (.bytes b,h)→b.length≤1000000000→some (V.int b.length,h)=some r→P) (k3: ∀v h,x=some (v,h)→y8 C v h=some r→P):P:=by
 induction x with
 |none=>exact none_ne e
 |some p=>
  obtain⟨v,h⟩:=p
  induction v with
  |str b=>exact mF e fun q e=>k1 b h rfl q e
  |bytes b=>exact mF e fun q e=>k2 b h rfl q e
  |_=>exact k3 _ h rfl e
theorem Hn(O:aN W mg mb)(CO:bq W C k){x:X}(hx:aG W C k x):aG W C k (.len x):=fun r e1=>Jx.of r (Hm e1
 (fun b h1 e2 q e3=>qy O O.nm.len mt (by decide+kernel) (T2 (T1 r.2)) (hx (.mk (congrArg (ad · 1) r.1) (T1 (T1 r.2))) e2) (TR (f:=aW) (congrArg (ad · 1) r.1) (T2 r.2)) fun S A g z=>by
  obtain⟨t,rfl⟩:=z
  refine len_str (by rw[str_len];trace"baA1000000000kl2^63zAcrxi q") ?_
  rw[str_len]
  exact(g.of e3).now S ⟨_,rfl⟩)
 (fun b h1 e2 q e3=>qy O O.nm.len mt (by decide+kernel) (T2 (T1 r.2)) (hx (.mk (congrArg (ad · 1) r.1) (T1 (T1 r.2))) e2) (TR (f:=aW) (congrArg (ad · 1) r.1) (T2 r.2)) fun S A g z=>by
  obtain⟨t,rfl⟩:=z
  exact PySem.W.len_bytes (show b.length≤1099511627776 from Nat.le_trans q (by decide)) ((g.of e3).now S ⟨_,rfl⟩))
 fun u h1 e2 e3=>mM e3 fun xs hi e3=>qy O O.nm.len mt (by decide+kernel) (T2 (T1 r.2)) (hx (.mk (congrArg (ad · 1) r.1) (T1 (T1 r.2))) e2) (TR (f:=aW) (congrArg (ad · 1) r.1) (T2 r.2)) fun S A g z=>
  i9 O.cl CO.cl S hi z fun p vs hl hz r=>by
   rw[r.len]at e3 hz
   exact call_len_list hl (zE (n:=vs.toArray.size) hz) ((g.of (congrArg some e3)).now S ⟨_,rfl⟩))
theorem Got.ite {c:Prop} [Decidable c] {a b:Int} {Q:Value→Shared→Prop} (g:Got W env fs l ρ s (.int (if c then a else b)) h Q) (S:ah W env fs ρ l h s) {t u:Tok}:Q (if c then .int a t else .int b u) s:=by
 by_cases q:c
 ·rw[if_pos q]at g⊢;exact g.here S ⟨_,rfl⟩
 ·rw[if_neg q]at g⊢;exact g.here S ⟨_,rfl⟩
theorem Ho(O:aN W mg mb){x y:X}(hx:aG W C k x)(hy:aG W C k y):aG W C k (.max2 x y):=fun r e1=>Jx.of r (mI e1 fun i h1 e2 e3=>mI e3 fun j h2 e4 e5=>
 Ab O O.nm.max mt (by decide+kernel) (T2 (T1 (T1 r.2))) (hx (.mk (congrArg (ad · 1) r.1) (T1 (T1 (T1 (T1 r.2))))) e2) (hy (.mk (congrArg (ad · 2) r.1) (T2 (T1 (T1 (T1 r.2))))) e4) (TR (f:=aW) (congrArg (ad · 1) r.1) (T2 (T1 r.2))) (TR (f:=aW) (congrArg (ad · 2) r.1) (T2 r.2)) fun S A g z z2=>by
  obtain⟨t,rfl⟩:=z
  obtain⟨t2,rfl⟩:=z2
  exact max_two_ints A.hd fun hp tk kk=>((g.of e5).after (aY.grow (by exact kk) (by rfl))).ite (S.grow (by exact kk) (by rfl) (by rfl)))
theorem Hp(O:aN W mg mb){x y:X}(hx:aG W C k x)(hy:aG W C k y):aG W C k (.min2 x y):=fun r e1=>Jx.of r (mI e1 fun i h1 e2 e3=>mI e3 fun j h2 e4 e5=>
 Ab O O.nm.min mt (by decide+kernel) (T2 (T1 (T1 r.2))) (hx (.mk (congrArg (ad · 1) r.1) (T1 (T1 (T1 (T1 r.2))))) e2) (hy (.mk (congrArg (ad · 2) r.1) (T2 (T1 (T1 (T1 r.2))))) e4) (TR (f:=aW) (congrArg (ad · 1) r.1) (T2 (T1 r.2))) (TR (f:=aW) (congrArg (ad · 2) r.1) (T2 r.2)) fun S A g z z2=>by
  obtain⟨t,rfl⟩:=z
  obtain⟨t2,rfl⟩:=z2
  exact min_two_ints A.hd fun hp tk kk=>((g.of e5).after (aY.grow (by exact kk) (by rfl))).ite (S.grow (by exact kk) (by rfl) (by rfl)))
theorem Got.fresh {o:O} {a:Addr} {Q:Value→Shared→Prop} (g:Got W env fs l ρ s (.ref h.n) (h.push o) Q) (S:ah W env fs ρ l h s) (kk: ∀b o,s.heap.get? b=some o→s'.heap.get? b=some o)
 (hg:s'.gens=s.gens) (ho:s'.os=s.os) (ha:s.heap.get? a=none) (da:(s'.heap.get? a).isSome) (hO:jM W ρ a a s'.heap o):Q (.ref a) s':=by
 refine ck (S.push (o:=o) (a:=a) (dx:=a) (s':=s') kk hg ho ha ha da da hO) fun ag S' X cC=> ?_
 exact g _ _ ag S' X ⟨_,_,cC,rfl⟩
theorem vP(a:Int): ∀l:List Int,(jG a l).Perm (a::l)
 |[]=> .refl _
 |b::r=>by
  rw[pY]
  split
  ·exact .refl _
  ·exact((vP a r).cons b).trans (.swap ..)
theorem Ac: ∀l:List Int,(sortI l).Perm l
 |[]=> .refl _
 |a::r=>(vP a _).trans ((Ac r).cons a)
theorem Ad(a:Int): ∀{l:List Int},l.Pairwise (·≤·)→(jG a l).Pairwise (·≤·)
 |[],_=>List.pairwise_singleton _ _
 |b::r,h=>by
  rw[pY]
  rw[List.pairwise_cons]at h
  split
  ·rename_i q
   rw[List.pairwise_cons,List.pairwise_cons]
   exact⟨fun x hx=>(List.mem_cons.mp hx).elim (fun e=>e▸q) (fun hx=>Int.le_trans q (h.1 x hx)),h⟩
  ·rename_i q
   rw[List.pairwise_cons]
   refine⟨fun x hx=> ?_,Ad a h.2⟩
   rcases List.mem_cons.mp ((vP a r).mem_iff.mp hx)with rfl|hx
   ·trace"acUVrxVUri q"
   ·exact h.1 x hx
theorem Ae: ∀l:List Int,(sortI l).Pairwise (·≤·)
 |[]=> .nil
 |a::r=>Ad a (Ae r)
theorem Hq: ∀{a b:List Int},a.Perm b→a.Pairwise (·≤·)→b.Pairwise (·≤·)→a=b:=by
 intro a b p ha hb
 exact p.eq_of_pairwise (fun x y _ _ h1 h2=>Int.le_antisymm h1 h2) ha hb
theorem IntsAre.bo {vs:List Value} {ns:List Int} (hi:IntsAre vs ns):bo W ρ (ns.map .int) vs:=by
 induction hi with
 |nil=>trivial
 |cons _ _ _ ih=>exact⟨⟨_,rfl⟩,ih⟩
theorem vQ(hp:Heap):hp.get? (hp.objs.size+1)=none:=by
 cases z:hp.get? (hp.objs.size+1)with
 |none=>rfl
 |some o=>exact absurd (Heap.lt_size z) (Nat.not_lt.mpr (Nat.le_succ _))
theorem Hr(O:aN W mg mb)(CO:bq W C k){x:X}(hx:aG W C k x):aG W C k (.sorted x):=fun r e1=>Jx.of r (mA e1 fun u h1 e2 e3=>oI e3 fun xs hi e4=>mF e4 fun q e5=>mF e5 fun q2 e6=>
 qy O O.nm.sorted mt (by decide+kernel) (T2 (T1 r.2)) (hx (.mk (congrArg (ad · 1) r.1) (T1 (T1 r.2))) e2) (TR (f:=aW) (congrArg (ad · 1) r.1) (T2 r.2)) fun S A g z=>
  mj O.cl CO.cl S hi z fun p vs hl hz hI=>sorted_ints hl hI (Nat.lt_of_le_of_lt (Nat.le_of_eq (IntsAre.length hI)) q) fun out Qg a1 a2 a3=>by
   obtain⟨c,hc⟩:=sortedAll_at _ vs out
   exact(g.of e6).fresh S (fun b o e=>sortedAll_old e) rfl rfl (vQ _) (by rw[hc];rfl) ⟨c,out,hc,q2,Hq (a2.trans (Ac xs).symm) a3 (Ae xs)▸IntsAre.bo a1⟩)
theorem Hs{vs:List V}: ∀{b:List UInt8},eF vs=some b→ ∃ns,dE vs=some ns∧(∀n∈ns,0≤n∧n<256)∧(ns.map fun n=>n.toNat.toUInt8)=b:=by
 induction vs with
 |nil=>intro b e;cases e;exact⟨[],rfl,fun _ h=>(nomatch h),rfl⟩
 |cons x r ih=>
  intro b e
  induction x with
  |int i=>
   have e:(if 0≤i∧i<256 then(eF r).map (UInt8.ofNat i.toNat::·)else none)=some b:=e
   by_cases q:0≤i∧i<256
   ·rw[if_pos q]at e
    (refine aA (Option.map_eq_some_iff.mp e) fun c hc vR=> ?_;obtain rfl:=vR)
    refine ck (ih hc) fun ns h1 h2 h3=> ?_
    exact⟨i::ns,congrArg (Option.map (i::·)) h1,List.forall_mem_cons.mpr ⟨q,h2⟩,congrArg (UInt8.ofNat i.toNat::·) h3⟩
   ·rw[if_neg q]at e;cases e
  |_=>cases e
theorem Ht(O:aN W mg mb)(CO:bq W C k){x:X}(hx:aG W C k x):aG W C k (.bytesOf x):=fun r e1=>Jx.of r (mA e1 fun u h1 e2 e3=>oY e3 fun xs hi e4=>mF e4 fun q e5=>
 qy O O.nm.bytes oA (by decide+kernel) (T2 (T1 r.2)) (hx (.mk (congrArg (ad · 1) r.1) (T1 (T1 r.2))) e2) (TR (f:=aW) (congrArg (ad · 1) r.1) (T2 r.2)) fun S A g z=>
  mB hi fun Qh i1 i2=>by
   refine ck (Hs i2) fun ns n1 n2 n3=> ?_
   refine mj O.cl CO.cl S (Option.bind_eq_some_iff.mpr ⟨_,i1,n1⟩) z fun p vs hl hz hI=>PySem.call_bytes_ints hl hI n2 hz A.hd fun hp t tk kk=> ?_
   exact((g.of e5).after (aY.grow (by exact kk) (by rfl))).here (S.grow (by exact kk) (by rfl) (by rfl)) ⟨t,congrArg (fun x=>Value.bytes (List.toArray x) t) n3⟩)
theorem Hu(O:aN W mg mb){x:X}(hx:aG W C k x):aG W C k (.kC x):=fun r e1=>Jx.of r (mS e1 fun u h1 e2 e3=>mM e3 fun n' hb e4=>mB hb fun n Af e5=>
 fun _ _ _ _ _ _ S a g=>kP O.nm S oA (T2 (T1 r.2)) (by decide+kernel) O.nm.int (oz (TR (f:=aW) (congrArg (ad · 1) r.1) (T2 r.2)) rfl) (oy (TR (f:=aW) (congrArg (ad · 1) r.1) (T2 r.2)) rfl
  (hx (.mk (congrArg (ad · 1) r.1) (T1 (T1 r.2))) e2 S a fun v1 s1 aQ S1 X1 q1=>wpAny_Constant_int (q1.elim fun t e=>e▸Hh Af (((g.of (congrArg some e4)).after X1).now S1 ⟨_,congrArg (fun i=>Value.int i _) (Option.some.inj e5)⟩)))))
theorem Hv(O:aN W mg mb)(t:Ty):BI mg mb t.str (.type t.name):=by
 induction t with
 |list=>exact O.nm.list
 |int=>exact O.nm.int
 |bytes=>exact O.nm.bytes
theorem Hw(O:aN W mg mb){x:X}{t:Ty}(hx:aG W C k x):aG W C k (.fG x t):=fun{env e l h h' v} r e1=>Jx.of r (mA e1 fun u h1 e2 e3=>mM e3 fun b hb e4=>
 have r3:jJ env.scope t.str (ad e 2)=true:=T2 r.2
 have pa:aW (aB x (ad e 1))=true:=TR (f:=aW) (congrArg (ad · 1) r.1) (T2 (T1 r.2))
 fun _ _ _ _ _ _ S a g=>kP O.nm S mt (T2 (T1 (T1 r.2))) (by decide+kernel) O.nm.isinstance (oz pa (Aa r3)) (oy pa (Aa r3) (hx (.mk (congrArg (ad · 1) r.1) (T1 (T1 (T1 r.2)))) e2 S a fun v1 s1 aQ S1 X1 q1=>
  Hj O.nm S1 r3 (by induction t<;>decide+kernel) (.inr (Hv O t)) (GU S1 hb q1 ((g.of (congrArg some e4)).after X1)))))
end
section
variable{prog:Program}{w:World}{W:Wd}{mg mb:Str→Option Value}{C:Cx}{env:Env}{fs:List Env}{ρ ag aD:au}{l:L}{h h' bF:H}{s s' ai:Shared}{A:Around}{k:Nat}{E:Value→Shared→Prop}
theorem vT{o:PySem.Expr}{name:Str}{ap p:Pos}{as:List PySem.Expr}{aI:List Keyword}{Q:Value→Shared→Prop}(n:jI o=true)(el:(ap.endLine==p.line)=true)
 (bY:methodCallForm (as.length+aI.length) (backTo p (starEach as env)) (backToKw p (keywordEach aI env))=true)
 (hh:wpAny (model prog w) A (eval o env) (fun ov ai=> ∀pl,wpAny (model prog w) A (getMethod ov name pl) (fun fx bj=>wpAny (model prog w) A (callWith p fx.1 fx.2 (backTo p (starEach as env)) (backToKw p (keywordEach aI env))) Q E bj) E ai) E s):
 wpAny (model prog w) A (eval (.Call (.Attribute o name ap) as aI p) env) Q E s:=by
 have e:eval (.Call (.Attribute o name ap) as aI p) env=(do
  let ov←attributeBase o name env (eval o env)
  standAt ap.atName
  methodCall o name ap p env ov (as.length+aI.length) (backTo p (starEach as env)) (backToKw p (keywordEach aI env))):=rfl
 rw[e,zX n]
 refine wpAny_bind (wpAny_mono hh (fun ov ai bF=>wpAny_bind (wpAny_standAt ?_)) fun _ _ x=>x)
 unfold methodCall
 rw[bY]
 refine wpAny_bind (wpAny_holding (wpAny_mono (bF _) (fun fx bj vU=> ?_) fun _ _ x=>x))
 obtain⟨f,first⟩:=fx
 unfold methodCallPos
 rw[if_pos (by rw[el];rfl)]
 exact wpAny_bind (wpAny_pure vU)
theorem Ag{as:List PySem.Expr}{p:Pos}(hp:d4 as=true)(hn:as.length<30):methodCallForm (as.length+([]:List Keyword).length) (backTo p (starEach as env)) (backToKw p (keywordEach [] env))=true:=by
 have:=jQ (pos:=p) (env:=env) hp
 unfold methodCallForm
 rw[Bool.and_eq_true,Bool.and_eq_true]
 refine⟨⟨?_,rfl⟩,decide_eq_true (show as.length+0+0<30 from hn)⟩
 rw[List.all_eq_true]
 intro x hx
 rw[List.any_eq_false]at this
 simpa using this x hx
theorem Ah{o:PySem.Expr}{name:Str}{ap p:Pos}{a:PySem.Expr}{as:List PySem.Expr}{id:String}{Q:Value→Shared→Prop}(n:jI o=true)(el:(ap.endLine==p.line)=true)(hp:d4 (a::as)=true)(hn:as.length<29)
 (hh:wpAny (model prog w) A (eval o env) (fun ov ai=>(∀pl Q',Q' (.builtin id,[ov]) ai→wpAny (model prog w) A (getMethod ov name pl) Q' E ai)∧wpAny (model prog w) A (spliced (backTo p (starEach (a::as) env))) (fun vs bj=>wpAny (model prog w) A (call (.builtin id) (ov::vs)) Q E bj) E ai) E s):
 wpAny (model prog w) A (eval (.Call (.Attribute o name ap) (a::as) [] p) env) Q E s:=by
 refine vT n el (Ag hp (Nat.succ_lt_succ hn)) (wpAny_mono hh (fun ov ai bF pl=>bF.1 pl _ ?_) fun _ _ x=>x)
 exact call_plain (fun _ e=>by cases e) hp bF.2
theorem Hy{x:Int}{n:Nat}{t u v:Tok}{Q:Value→Shared→Prop}(hk:n≤100)(h0:0≤x)(h1:x<256^n)
 (hh: ∀(b:Array UInt8) t' k',KBw.bInts b=(KTBy.little n x).reverse→Q (.bytes b t') {s with toks:=k'}):
 wpAny (model prog w) A (call (.builtin "int.to_bytes") [.int x t,.int (n:Int) u,.str (PySem.Str.ofString "big") v]) Q E s:=by
 refine wpAny_call_entry KTBy.slot (typeIs_int s x t) KTBy.entry ?_ (KTBy.args _ _ _)
 have hb:=KTBy.bits_le (k:=n) rfl h0 h1
 show wpAny _ _ (Builtin.Int.intOfSelf (.int x t)>>=fun y=>_) _ _ s
 refine wpAny_bind (wpAny_of_eq (a:=x) rfl ?_)
 show wpAny _ _ (Builtin.Int.intBindNamed "to_bytes" ["length","byteorder","signed"] 0 2 [.int (n:Int) u,.str (PySem.Str.ofString "big") v] []>>=fun l=>_) _ _ s
 refine wpAny_bind (wpAny_of_eq (a:=[some (.int (n:Int) u),some (.str (PySem.Str.ofString "big") v),none]) (by kernel_rfl) ?_)
 show wpAny _ _ (Builtin.Int.intIndex "int.to_bytes" (.int (n:Int) u)>>=fun n=>_) _ _ s
 refine wpAny_bind (wpAny_of_eq (a:=(n:Int)) rfl ?_)
 have c1:(decide ((n:Int)< -(2^63:Int))||decide ((n:Int)≥2^63))=false:=by
  rw[Bool.or_eq_false_iff]
  exact⟨decide_eq_false (by trace"baA100klAcq2^63zgrxi hk"),decide_eq_false (by trace"baA100kl2^63zAcrxi hk")⟩
 refine KTBy.if_not c1 ?_
 refine wpAny_bind (wpAny_of_eq (a:=PySem.Str.ofString "big") (by kernel_rfl) ?_)
 refine wpAny_bind (wpAny_of_eq (a:=false) rfl ?_)
 refine wpAny_bind (wpAny_of_eq (a:=false) (by kernel_rfl) ?_)
 refine wpAny_ite_false (decide_eq_false (show ¬((n:Int)<0) by trace"baA100klAcq0zrxi hk")) ?_
 refine wpAny_ite_false (decide_eq_false (show ¬((n:Int)>2^63-1-33) by trace"baA100kl2^63z1zs33zsqAcrxi hk")) ?_
 refine wpAny_ite_false (decide_eq_false (show ¬((n:Int)>(sizeLine:Int)) by rw[sizeLine_eq];trace"baA100kl16777216kcqAcrxi hk")) ?_
 have c2:(decide (x<0)&& !false)=false:=by rw[decide_eq_false (show ¬x<0 by trace"ab0zUrUq0zrxi h0")];rfl
 refine KTBy.if_not c2 ?_
 refine KTBy.if_not (by show(_&&decide ((Builtin.Int.intBits x:Int)>8*(n:Int)))=false;rw[decide_eq_false (show ¬((Builtin.Int.intBits x:Int)>8*(n:Int)) by trace"caAB8mlBc8uqAcrxi hb"),Bool.and_false]) ?_
 refine wpAny_bind (wpAny_mkBytes (wpAny_pure ⟨_,rfl,hh _ _ _ ?_⟩) (by show(List.reverse (KTBy.low x (Int.toNat (n:Int)))).length≤sizeLine;rw[List.length_reverse,KTBy.low_length,Int.toNat_natCast,sizeLine_eq];trace"baA100klA16777216kli hk"))
 show(List.map (fun c:UInt8=>((c.toNat:Nat):Int)) (List.reverse (KTBy.low x (Int.toNat (n:Int)))))=(KTBy.little n x).reverse
 rw[Int.toNat_natCast,List.map_reverse,KTBy.low_ints h0 h1,←KTBy.little_eq]
theorem Hz{v n:Nat}{b:Array UInt8}(e:KBw.bInts b=(KTBy.little n (v:Int)).reverse):b=(bigEndian v n).toArray:=by
 rw[KTBy.little_eq]at e
 apply Array.ext'
 show b.toList=bigEndian v n
 have hl:b.toList.length=n:=by
  have:=congrArg List.length e
  simpa[KBw.bInts]using this
 apply List.ext_getElem
 ·rw[hl];simp[bigEndian]
 ·intro i h1 h2
  have hi:i<n:=by rw[←hl];exact h1
  have e1:(KBw.bInts b)[i]? =some ((b.toList[i].toNat:Nat):Int):=by
   unfold KBw.bInts
   rw[List.getElem?_map,List.getElem?_eq_getElem h1]
   rfl
  rw[e]at e1
  have e2:((List.map (fun(i:Nat)=>(v:Int)/256^i%256) (List.range n)).reverse)[i]? =some ((v:Int)/256^(n-1-i)%256):=by
   rw[List.getElem?_reverse (by simpa using hi)]
   simp only[List.length_map,List.length_range]
   rw[List.getElem?_map,List.getElem?_range (by trace"faBEeDpBlDClADaCenCDlA0keno1kElCpEenE1klC0kenoApEliiii hl h1 .s .s")]
   rfl
  rw[e2]at e1
  have e3:=Option.some.inj e1
  have e4:v/256^(n-1-i)%256=b.toList[i].toNat:=by
   rw[KTBy.p256]at e3
   exact_mod_cast e3
  have e5:(bigEndian v n)[i]=UInt8.ofNat (v/256^(n-1-i)%256):=by
   simp[bigEndian]
  rw[e5,e4]
  simp
theorem sX{o a:PySem.Expr}{name:Str}{ap p:Pos}{id:String}{as:List PySem.Expr}{u v:V}{h1 h2:H}(sd:jI o=true)(el:(ap.endLine==p.line)=true)(hp:d4 (a::as)=true)(hn:as.length<29)(ho:Jx W k env o l h u h1)
 (m: ∀{fs:List Env}{ρ:au}{s:Shared}{A:Around}{E:Value→Shared→Prop}{u':Value},ah W env fs ρ l h1 s→VR W ρ u u'→ ∀pl Q',Q' (.builtin id,[u']) s→wpAny (model W.prog W.w) A (getMethod u' name pl) Q' E s)
 (c: ∀{fs:List Env}{ρ:au}{s:Shared}{A:Around}{E:Value→Shared→Prop}{Q:Value→Shared→Prop}{u':Value},ah W env fs ρ l h1 s→b6 A fs k→Got W env fs l ρ s v h2 Q→VR W ρ u u'→
  wpAny (model W.prog W.w) A (spliced (backTo p (starEach (a::as) env))) (fun vs bj=>wpAny (model W.prog W.w) A (call (.builtin id) (u'::vs)) Q E bj) E s):Jx W k env (.Call (.Attribute o name ap) (a::as) [] p) l h v h2:=
 fun _ _ _ _ _ _ S A g=>Ah sd el hp hn (ho S A fun v1 s1 aQ S1 X1 z1=>⟨m S1 z1,c S1 A (g.after X1) z1⟩)
theorem oD{e a:PySem.Expr}(h:me e=true)(q:a=ad (ad e 0) 0):jI a=true:=q▸T1 h
theorem HB{x y:X}(hx:aG W C k x)(hy:aG W C k y):aG W C k (.toBytes x y):=fun r e1=>Jx.of r (mI e1 fun i h1 e2 e3=>mI e3 fun j h2 e4 e5=>mF e5 fun q e6=>
 have pb:=TR (f:=aW) (congrArg (ad · 1) r.1) (T2 r.2)
 sX (id:= "int.to_bytes") (oD (T2 (T1 r.2)) (congrArg (fun e=>ad (ad e 0) 0) r.1)) (T2 (T2 (T1 r.2))) (oz pb rfl) (Nat.le_of_ble_eq_true rfl) (hx (.mk (congrArg (fun e=>ad (ad e 0) 0) r.1) (T1 (T1 (T1 r.2)))) e2)
  (fun S z pl Q' hq=>z.elim fun t e=>e▸KTBy.method (e▸hq)) fun S1 a g z1=>oy pb rfl (hy (.mk (congrArg (ad · 1) r.1) (T2 (T1 (T1 r.2)))) e4 S1 a fun v2 s2 aZ S2 X2 z2=>wpAny_Constant_str (by
   obtain⟨t,rfl⟩:=z1
   obtain⟨t2,rfl⟩:=z2
   refine dT q fun q1 q2 q3 q4=> ?_
   obtain⟨m,rfl⟩:=Int.eq_ofNat_of_zero_le q1
   obtain⟨n,rfl⟩:=Int.eq_ofNat_of_zero_le q2
   refine Hy (Int.ofNat_le.mp q3) q1 ?_ fun b t' k' hb=>Hz hb▸((g.of e6).after X2).now S2 ⟨_,rfl⟩
   rw[KTBy.p256]
   exact Int.ofNat_lt.mpr q4)))
theorem bo.strs {x:List V} {v:List Value} (h:bo W ρ x v): ∀{ns:List (List Nat)},kF x=some ns→StrsAre v (ns.map fun n=>⟨n.toArray⟩):=
 h.ind (P:=fun x v=> ∀{ns:List (List Nat)},kF x=some ns→StrsAre v (ns.map fun n=>⟨n.toArray⟩)) (fun e=>by cases e;exact .nil) fun x y xs ys a _ b ns e=>by
  induction x with
  |str i=>
   obtain⟨t,rfl⟩:=a
   (refine aA (Option.map_eq_some_iff.mp e) fun r hr HC=> ?_;obtain rfl:=HC)
   exact .cons _ _ (b hr)
  |_=>cases e
theorem bo.HE {x:List V} {v:List Value} (h:bo W ρ x v): ∀{ns:List (List UInt8)},jD x=some ns→jb v ns:=
 h.ind (P:=fun x v=> ∀{ns:List (List UInt8)},jD x=some ns→jb v ns) (fun e=>by cases e;exact .nil) fun x y xs ys a _ b ns e=>by
  induction x with
  |bytes i=>
   obtain⟨t,rfl⟩:=a
   (refine aA (Option.map_eq_some_iff.mp e) fun r hr vR=> ?_;obtain rfl:=vR)
   exact .cons _ _ (b hr)
  |_=>cases e
theorem Ai: ∀l:List (List Nat),Str.join (⟨#[]⟩:Str) (l.map fun n=>⟨n.toArray⟩)=⟨l.flatten.toArray⟩
 |[]=>rfl
 |[x]=>by
  show(⟨x.toArray⟩:Str)=_
  simp
 |x::y::r=>by
  show(⟨x.toArray⟩:Str)++(⟨([]:List Nat).toArray⟩:Str)++Str.join _ ((y::r).map _)=_
  rw[Ai (y::r),vp,vp]
  simp
theorem HG(l:List (List Nat)):Txt.join (⟨#[]⟩:Str) (l.map fun n=>⟨n.toArray⟩)=⟨l.flatten.toArray⟩:=by
 show Builtin.Str.glued _ _=_
 rw[StrLaws.glued_eq_join]
 exact Ai l
theorem HH{α:Type}: ∀l:List (List α),(l.map (·.length)).sum=l.flatten.length:=by
 intro l
 rw[List.length_flatten]
theorem HI{xs:List (List Nat)}(q:xs.flatten.length≤16000000)(m:Nat):((xs.map fun n=>(⟨n.toArray⟩:Str)).map (·.length)).sum+m*(⟨#[]⟩:Str).length≤16777216:=by
 have e:(xs.map fun n=>(⟨n.toArray⟩:Str)).map (·.length)=xs.map (·.length):=(List.map_map ..).trans (List.map_congr_left fun a _=>str_len a)
 rw[e,HH]
 exact Nat.le_trans q (by decide)
theorem HJ{P:Prop}{C:Cx}{x:Option (V×H)}{y:H→Option (V×H)}{r:V×H}(e:rZ C x y=some r)(k1: ∀h,x=some (.str [],h)→uZ C (y h)=some r→P)(k2: ∀h,x=some (.bytes [],h)→u0 C (y h)=some r→P):P:=by
 induction x with
 |none=>exact none_ne e
 |some p=>
  obtain⟨v,h⟩:=p
  induction v with
  |str b=>
   induction b with
   |nil=>exact k1 h rfl e
   |cons _ _=>exact none_ne e
  |bytes b=>
   induction b with
   |nil=>exact k2 h rfl e
   |cons _ _=>exact none_ne e
  |_=>exact none_ne e
theorem HK(O:aN W mg mb)(CO:bq W C k){x y:X}(hx:aG W C k x)(hy:aG W C k y):aG W C k (.join x y):=fun r e1=>Jx.of r (
 have pb:=TR (f:=aW) (congrArg (ad · 1) r.1) (T2 r.2)
 have nc:=oD (T2 (T1 r.2)) (congrArg (fun e=>ad (ad e 0) 0) r.1)
 have rx:cN _ x _:= .mk (congrArg (fun e=>ad (ad e 0) 0) r.1) (T1 (T1 (T1 r.2)))
 have ry:cN _ y _:= .mk (congrArg (ad · 1) r.1) (T2 (T1 (T1 r.2)))
 HJ e1 (fun h1 e2 e3=>mA e3 fun u h2 e4 e5=>oS e5 fun xs hi e6=>mF e6 fun q e7=>
  sX (id:= "str.join") nc (T2 (T2 (T1 r.2))) (ik pb) (Nat.le_of_ble_eq_true rfl) (hx rx e2) (fun S z pl Q' hq=>z.elim fun t e=>e▸GM.join (e▸hq))
   fun S1 a g z1=>jd pb (hy ry e4 S1 a fun v2 s2 aZ S2 X2 z2=>by
    obtain⟨t,rfl⟩:=z1
    refine mB hi fun HL i1 i2=>i9 O.cl CO.cl S2 i1 z2 fun p vs hl hz hv=>join_list hl (hv.strs i2) ?_ fun t' kk=> ?_
    ·exact HI q _
    ·rw[HG]
     exact((g.of e7).after X2).now S2 ⟨t',rfl⟩))
  fun h1 e2 e3=>mA e3 fun u h2 e4 e5=>Fy e5 fun xs hi e6=>mF e6 fun q e7=>
  sX (id:= "bytes.join") nc (T2 (T2 (T1 r.2))) (ik pb) (Nat.le_of_ble_eq_true rfl) (hx rx e2) (fun S z pl Q' hq=>z.elim fun t e=>e▸KBd.method_of _ (typeIs_bytes _ _ _) zY GY KBd.noRef (e▸hq))
   fun S1 a g z1=>jd pb (hy ry e4 S1 a fun v2 s2 aZ S2 X2 z2=>by
    obtain⟨t,rfl⟩:=z1
    exact mB hi fun HL i1 i2=>i9 O.cl CO.cl S2 i1 z2 fun p vs hl hz hv=>G5 hl (hv.HE i2) q fun t' kk=>((g.of e7).after X2).now S2 ⟨t',rfl⟩))
theorem HM(S:ah W env fs ρ l h s){i:Nat}{xs:List V}{b v:V}{u' b':Value}(hi:h.o i=some (.list xs))(q:xs.length<aU)(e:some (V.none,h.set i (.list (xs++[b])))=some (v,h'))(zu:VR W ρ (.ref i) u')(zb:VR W ρ b b')
 {Q:Value→Shared→Prop} (g:Got W env fs l ρ s v h' Q):wpAny (model W.prog W.w) A (call (.builtin "list.append") [u',b']) Q E s:=
 S.list hi zu fun p dx n vs cC ho hz hr=>by
  have cV:xs.length=vs.size:=hr.len
  refine call_meets F.slot_list_append (Heap.IsList.typeIs ⟨_,ho,rfl,n,rfl⟩) F.entry_list_append (F.args_list_append_2 _ _) (AutoListH.list_append_list_val_0 p vs n b' (cV▸hz)) ⟨ho,?_⟩
  have hg:=get?_update_seq (c:= "list") ho (fun x=>x.push b')
  have U:=S.upd (i:=i) (o:= .list (xs++[b])) (a:=p) (dx:=dx) (s':={s with heap:=s.heap.update p (Obj.mapSeq fun x=>x.push b'),toks:=s.toks}) cC
   (fun b n1 _=>Heap.get?_update_other _ _ (fun q=>n1 q.symm)) rfl rfl (by rw[hg];rfl) ?_ ⟨_,vs.push b',hg,by rw[List.length_append];exact q,by rw[Array.toList_push];exact hr.app ⟨zb,trivial⟩⟩
  ·exact g.of e _ _ _ U.1 U.2 rfl
  ·by_cases e:dx=p
   ·rw[e,hg];rfl
   ·rw[Heap.get?_update_other _ _ (fun q=>e q.symm)]
    exact(S.dq i p dx cC).2
theorem HN{x y:X}(hx:aG W C k x)(hy:aG W C k y):aG W C k (.append x y):=fun r e1=>Jx.of r (mR e1 fun i h1 e2 e3=>sj e3 fun ys HO e3=>mA e3 fun b h2 e4 e5=>sj e5 fun xs hi e6=>mF e6 fun q e7=>
 have pb:=TR (f:=aW) (congrArg (ad · 1) r.1) (T2 r.2)
 sX (id:= "list.append") (oD (T2 (T1 r.2)) (congrArg (fun e=>ad (ad e 0) 0) r.1)) (T2 (T2 (T1 r.2))) (ik pb) (Nat.le_of_ble_eq_true rfl) (hx (.mk (congrArg (fun e=>ad (ad e 0) 0) r.1) (T1 (T1 (T1 r.2)))) e2)
  (fun{fs ρ s A E u'} S z=>S.list (P:=fun u'=> ∀pl Q',Q' (.builtin "list.append",[u']) s→wpAny (model W.prog W.w) A (getMethod u' "append" pl) Q' E s) HO z fun p dx n vs _ ho _ _ pl Q' hq=>getMethod_list_append ho rfl rfl hq)
  fun S1 a g z1=>jd pb (hy (.mk (congrArg (ad · 1) r.1) (T2 (T1 (T1 r.2)))) e4 S1 a fun v2 s2 aZ S2 X2 z2=>HM S2 hi q e7 (z1.mono X2.le) z2 (g.after X2)))
theorem cf.at {n:Nm} {at_:List (Nm×V)} {kvs:List (Str×Value)} (r:cf W ρ at_ kvs):VR W ρ ((own n at_).getD .none) ((valueAt kvs n.str).getD .none):=
 r.ind (P:=fun at_ kvs=>VR W ρ ((own n at_).getD .none) ((valueAt kvs n.str).getD .none)) rfl fun x y xs ys a _ b=>by
  rw[show own n (x::xs)=if x.1=n then some x.2 else own n xs from rfl,show valueAt (y::ys) n.str=(List.find? _ (y::ys)).map _ from rfl,List.find?_cons,a.1]
  by_cases q:x.1=n
  ·rw[if_pos q,decide_eq_true (congrArg Nm.str q)]
   exact a.2
  ·rw[if_neg q,decide_eq_false fun e=>q (Nm.str_inj e)]
   exact b
theorem HP(O:aN W mg mb)(S:ah W env fs ρ l h s){i:Nat}{a dx:Addr}(e:ρ i=some (a,dx)):(a==sysModules)=false:=by
 rw[beq_eq_false_iff_ne]
 rintro rfl
 have:=(S.dI i _ _ e).1.1
 have z:=O.sm
 rw[this]at z;cases z
theorem HR(O:aN W mg mb)(S:ah W env fs ρ l h s){i:Nat}{es:List (Nm×V)}{n:Nm}{v:V}{u':Value}(hi:h.o i=some (.dict es))(e:some ((own n es).getD .none,h)=some (v,h'))(zu:VR W ρ (.ref i) u')
 {Q:Value→Shared→Prop} (g:Got W env fs l ρ s v h' Q):(∀pl Q',Q' (.builtin "dict.get",[u']) s→wpAny (model W.prog W.w) A (getMethod u' "get" pl) Q' E s)∧
  wpAny (model W.prog W.w) A (call (.builtin "dict.get") [u',.str n.str s.toks]) Q E {s with toks:=s.toks+1}:=by
 obtain⟨p,dx,cC,kvs,hd,hz,hr⟩:=S.objs _ _ hi
 refine cQ zu fun p' _ q e2=> ?_
 have q3:p=p':=congrArg Prod.fst (Option.some.inj (cC.symm.trans q))
 subst e2 q3
 have hk: ∀a,Value.ref p= .ref a→ ∃o,s.heap.get? a=some o∧o.dict=none:=by
  rintro _ ⟨⟩
  refine pP hd fun o _ _ ho hx _=> ?_
  exact⟨o,ho,hx.2.1⟩
 refine⟨fun pl Q' hq=>getMethod_builtin hd.typeIs F.plainAttrs_dict F.slot_dict_get F.type_dict_get hk hq,?_⟩
 exact call_meetsIn (s:={s with toks:=s.toks+1}) F.slot_dict_get hd.typeIs F.entry_dict_get (F.args_dict_get_2 _ _) (meets_dict_get (PySem.strKind W.prog W.w) p (k:=n.str) (by simp[PySem.strKind,PySem.Value.isStrOf]) (HP O S cC)) ⟨_,hd.mapOf,(g.of e).now S hr.at⟩
theorem HU(O:aN W mg mb){x:X}{n:Nm}(hx:aG W C k x):aG W C k (.iU x n):=fun r e1=>Jx.of r (mR e1 fun i h1 e2 e3=>mD e3 fun es hi e4=>
 fun _ _ _ _ _ _ S A g=>Ah (id:= "dict.get") (oD (T2 r.2) (congrArg (fun e=>ad (ad e 0) 0) r.1)) (T2 (T2 r.2)) rfl (Nat.le_of_ble_eq_true rfl) (hx (.mk (congrArg (fun e=>ad (ad e 0) 0) r.1) (T1 r.2)) e2 S A fun v1 s1 aQ S1 X1 z1=>
  have k:=HR O S1 hi e4 z1 (g.after X1)
  ⟨k.1,jd rfl (wpAny_Constant_str k.2)⟩))
end
section
variable{prog:Program}{w:World}{W:Wd}{mg mb:Str→Option Value}{C:Cx}{env:Env}{fs:List Env}{ρ ag aD:au}{l:L}{h h' bF:H}{s s' ai:Shared}{A:Around}{k:Nat}{E:Value→Shared→Prop}
theorem HV{pos:Pos}: ∀{t:List Int}{es es2:List PySem.Expr}{s:Shared}{Q:List Value→Shared→Prop},ve t es2=es→(∀vs tk,IntsAre vs t→Q vs {s with toks:=tk})→wpAny (model prog w) A (spliced (backTo pos (starEach es env))) Q E s:=by
 intro t
 induction t with
 |nil=>intro es es2 s Q r q;exact r▸spliced_none (q [] s.toks .nil)
 |cons i t ih=>
  intro es es2 s Q r q
  exact r▸spliced_more (wpAny_Constant_int (ih (s:={s with toks:=s.toks+1}) rfl fun vs tk hv=>q _ tk (.cons _ _ hv))) rfl
theorem IsTup.after {T:Addr} {xs:Array Value} (hT:IsTup s.heap T xs) (no: ¬gO env ρ T) (X:aY env fs ρ s ag s'):IsTup s'.heap T xs:=by
 obtain⟨o,ho,r1,n,r2⟩:=hT
 obtain⟨_,sl,hs⟩:=X.kept _ _ ho no
 exact⟨_,hs,r1,n,r2⟩
theorem ah.HW (S:ah W env fs ρ l h s) {b:Addr} (hb:s.heap.get? b=none): ¬gO env ρ b:=by
 rintro⟨i,x,dx,e,z⟩
 refine bn (S.dq i x dx e) fun d1 d2=> ?_
 rcases z with rfl|rfl
 ·rw[hb]at d1;cases d1
 ·rw[hb]at d2;cases d2
theorem HX{T:Addr}{t:List Int}{vs:List Value}{b u:Int}{v':Value}{a b':PySem.Expr}(hT:IsTup s.heap T vs.toArray)(hv:IntsAre vs t)(q:0≤b)(hz:t.length≤1000)(hu:t[b.toNat]? =some u)(z:VR W ρ (.int b) v')(ns:hP b'=true){Q:Value→Shared→Prop}(k: ∀t,Q (.int u t) s):
 wpAny (model prog w) A (subscriptTail a b' (.ref T) v') Q E s:=by
 (refine br z fun tt HY=> ?_;obtain rfl:=HY)
 have e5:=IntsAre.length hv
 have eg:b.toNat<t.length:=(List.getElem?_eq_some_iff.mp hu).1
 refine br (hv.get b.toNat _ hu) fun t3 hx=> ?_
 refine qu (T:= "tuple") (ops:=[_,_]) hT.typeIs slot_tuple_getitem.lookup (getItem_tuple (j:=b.toNat) hT (by trace"ab0zUr2^63zgUri q") (by trace"dbB1000klABeCpBl0zUrCcUjnU0zrC0kenoUq2^63zriiii hz e5 eg .t") ?_ (List.getElem?_toArray.trans hx) (k t3)) (zI ns _ _)
 have h1: ¬b<0:=by trace"ab0zUrUq0zrxi q"
 have h3:b<(vs.length:Int):=by trace"db0zUrC1000klBCeApCl0zUrAcUjnU0zrA0kenoUqBcriiiii q hz e5 eg .t"
 simp[seqIndex?,h1,h3,q]
theorem HZ{t:List Int}{i:X}(hi:aG W C k i):aG W C k (.kB t i):=fun r e1=>Jx.of r (mI e1 fun b h1 e2 e3=>mF e3 fun q e4=>mM e4 fun u hu e5=>
 fun _ _ s _ _ _ S a g=>Subscript_ (Tuple_ (HV (es2:=bA (ad _ 0)) rfl fun vs tk hv=>wpAny_newTuple
  (have kk: ∀b o,s.heap.get? b=some o→(s.heap.push {cls:= .type "tuple",data:= .seq vs.toArray}).get? b=some o:=fun _ _ e=>Heap.get?_push_of_some _ e
   have X2:=aY.grow (s':={s with heap:=s.heap.push {cls:= .type "tuple",data:= .seq vs.toArray},toks:=tk}) kk rfl
   hi (.mk (congrArg (ad · 1) r.1) (T1 r.2)) e2 (S.grow kk rfl rfl) a fun v1 s1 aQ S1 X1 z1=>
    HX (IsTup.after ⟨_,Heap.get?_push_size _ rfl,rfl,0,rfl⟩ (S.HW (dZ _)) X1) hv q.1 q.2 hu z1 (TR (f:=hP) (congrArg (ad · 1) r.1) (T2 r.2)) fun t3=>(((g.of (congrArg some e5)).after X2).after X1).here S1 ⟨t3,rfl⟩)
  (by rw[sizeLine_eq,IntsAre.length hv];exact Nat.le_trans q.2 (by decide)))))
theorem H0{v:V}{Q:X→Prop}(k1: ∀n,l n=some v→Q (.loc n))(k2: ∀i,some (V.int i)=some v→Q (.int i))(k3: ∀i,some (V.int (-i))=some v→Q (.neg (.int i)))(x:X)(hs:kH l x=some v):Q x:=by
 cases x with
 |loc n=>exact k1 n hs
 |int i=>exact k2 i hs
 |neg x=>
  cases x with
  |int i=>exact k3 i hs
  |_=>exact none_ne hs
 |_=>exact none_ne hs
theorem H3{x:X}{e:PySem.Expr}{v:V}{Q:Value→Shared→Prop}(S:ah W env fs ρ l h s)(rep:cN env.scope x e)(hs:kH l x=some v)
 (q: ∀v' tk,VR W ρ v v'→Q v' {s with toks:=tk}):wpAny (model W.prog W.w) A (eval e env) Q E s:=
 have q2: ∀{u:V},some u=some v→ ∀v' tk,VR W ρ u v'→Q v' {s with toks:=tk}:=fun e=>(Option.some.inj e).symm▸q
 rep.1▸H0 (Q:=fun x=>aP env.scope x e=true→wpAny (model W.prog W.w) A (eval (aB x e) env) Q E s) (fun n e r=>vn S r e fun v' r=>q v' s.toks r) (fun i e _=>wpAny_Constant_int (q2 e _ _ ⟨_,rfl⟩))
  (fun i e _=>wpAny_UnaryOp (wpAny_Constant_int (PyProof.Rows.neg_int (q2 e _ _ ⟨_,rfl⟩)))) x hs rep.2
theorem Aj{P:Prop}{x:X}{xs:XS}{vs:List V}(e:gh l (.cons x xs)=some vs)(k: ∀v us,kH l x=some v→gh l xs=some us→v::us=vs→P):P:=by
 have e:(match kH l x,gh l xs with|some v,some vs=>some (v::vs)|_,_=>none)=some vs:=e
 cases h1:kH l x with
 |none=>rw[h1]at e;exact none_ne e
 |some v=>
  cases h2:gh l xs with
  |none=>rw[h1,h2]at e;exact none_ne e
  |some us=>rw[h1,h2]at e;exact k v us h1 h2 (Option.some.inj e)
theorem H4{pos:Pos}: ∀{ks:List Nm}{xs:XS}{os:List (Option PySem.Expr)}{es:List PySem.Expr}{vs:List V}{s:Shared}{Q:List (Value×Value)→Shared→Prop},ah W env fs ρ l h s→i6 ks os=os→mf env.scope xs es→gh l xs=some vs→ks.length=vs.length→
 (∀ps kvs tk,Carries (PySem.strKind W.prog W.w) ps kvs→cf W ρ (ks.zip vs) kvs→Q ps {s with toks:=tk})→wpAny (model W.prog W.w) A (evalPairs (pairTrees os es env pos)) Q E s:=by
 intro ks
 induction ks with
 |nil=>
  intro xs os es vs s Q S rk rx hv hl q
  obtain rfl:vs=[]:=List.eq_nil_of_length_eq_zero hl.symm
  exact rk▸wpAny_pure (q [] [] s.toks trivial trivial)
 |cons n ks ih=>
  intro xs os es vs s Q S rk rx hv hl q
  cases xs with
  |nil=>exact Nat.noConfusion (hl.trans (congrArg List.length (Option.some.inj hv).symm))
  |cons x xs=>
   refine Aj hv fun v us e1 e2 e3=> ?_
   subst e3
   have r1:cN env.scope x (aB x (dY es)):= .mk (congrArg dY rx.1) (T1 (T1 rx.2))
   have r3:mf env.scope xs (eG xs es.tail):= .mk (congrArg List.tail rx.1) (T2 rx.2)
   have H5:i6 ks (i6 ks os.tail)=i6 ks os.tail:=congrArg (i6 ks) (congrArg List.tail rk)
   rw[←rk,←rx.1]
   refine wpAny_bind (wpAny_Constant_str (wpAny_bind (wpAny_holding (wpAny_bind (H3 (S.toks _) r1 e1 fun v' tk H6=>wpAny_bind (wpAny_standAt (wpAny_pure ?_)))))))
   refine wpAny_bind (wpAny_holding (ih (S.toks tk) H5 r3 e2 (Nat.succ.inj hl) fun ps kvs H7 hc hd=>wpAny_pure ?_))
   exact q _ ((n.str,v')::kvs) H7 ⟨by simp[PySem.strKind,PySem.Value.isStrOf],rfl,hc⟩ ⟨⟨rfl,H6⟩,hd⟩
theorem vV: ∀{ks:List Nm}{os os2:List (Option PySem.Expr)},i6 ks os2=os→os.all (·.isSome)=true∧os.length=ks.length
 |[],_,_,e=>e▸⟨rfl,rfl⟩
 |_::ks,_,os2,e=>e▸⟨(vV (ks:=ks) (os2:=os2.tail) rfl).1,congrArg (·+1) (vV (ks:=ks) (os2:=os2.tail) rfl).2⟩
theorem H8{xs:XS}: ∀{es es2:List PySem.Expr}{vs:List V},eG xs es2=es→gh l xs=some vs→es.length=vs.length:=by
 induction xs using XS.rec (motive_1:=fun _=>True) (motive_3:=fun _=>True) (motive_4:=fun _=>True) (motive_5:=fun _=>True)with
 |nil=>intro es es2 vs r e;exact r▸Option.some.inj e▸rfl
 |cons x xs _ ih=>intro es es2 vs r e;exact Aj e fun v us e1 e2 e3=>r▸e3▸congrArg (·+1) (ih (es2:=es2.tail) rfl e2)
 |_=>trivial
theorem cf.keys {at_:List (Nm×V)} {kvs:List (Str×Value)} (r:cf W ρ at_ kvs):kvs.map (·.1)=at_.map (·.1.str):=
 r.ind (P:=fun at_ kvs=>kvs.map (·.1)=at_.map (·.1.str)) rfl fun x y at_ kvs a _ b=>by rw[List.map_cons,List.map_cons,b,a.1]
theorem cf.len {at_:List (Nm×V)} {kvs:List (Str×Value)} (r:cf W ρ at_ kvs):kvs.length=at_.length:=(bT.len r).symm
theorem Ak: ∀(more acc:List (Str×Value)),((acc++more).map (·.1)).Nodup→merged acc more=acc++more
 |[],acc,_=>by simp[merged]
 |kv::r,acc,h=>by
  have:stored acc kv.1 kv.2=acc++[kv]:=by
   unfold stored
   rw[if_neg]
   intro c
   refine aA (List.any_eq_true.mp c) fun x hx e=> ?_
   rw[List.map_append,List.nodup_append]at h
   exact h.2.2 _ (List.mem_map_of_mem hx) kv.1 (by simp) (of_decide_eq_true e)
  show merged (stored acc kv.1 kv.2) r=_
  rw[this,Ak r (acc++[kv]) (by simpa using h)]
  simp
theorem H9{ks:List Nm}{vs:List V}{kvs:List (Str×Value)}(q1:ks.Nodup)(q2:ks.length=vs.length)(hd:cf W ρ (ks.zip vs) kvs):(kvs.map (·.1)).Nodup:=by
 rw[hd.keys,show(fun(x:Nm×V)=>x.1.str)=Nm.str∘Prod.fst from rfl,←List.map_map,List.map_fst_zip (Nat.le_of_eq q2)]
 exact List.Pairwise.map _ (fun a b eh e=>eh (Nm.str_inj e)) q1
theorem Ia{ks:List Nm}{xs:XS}:aG W C k (.dict ks xs):=fun{env e l h h' v} r e1=>Jx.of r (oL e1 fun vs e2 e3=>mF e3 fun q e4=>by
 intro fs ρ s A E Q S a g
 refine dT q fun q1 q2 q3 q4=> ?_
 have rk:i6 ks (p9 e)=p9 e:=congrArg p9 r.1
 have rx:mf env.scope xs (eG xs (bA e)):= .mk (congrArg bA r.1) r.2
 have ka:=vV (ks:=ks) (os2:=p9 e) rfl
 have xl:=H8 (xs:=xs) (es2:=bA e) rfl e2
 have kk: ∀b o,s.heap.get? b=some o→(s.heap.push {cls:= .type "dict",data:= .dict #[]}).get? b=some o:=fun _ _ e=>Heap.get?_push_of_some _ e
 refine wpAny_Dict_walk (knd:=PySem.strKind W.prog W.w) ka.1 (ka.2.trans (q2.trans xl.symm)) (fun e=>absurd (ka.2.symm.trans (congrArg List.length e)) (Nat.ne_of_gt q3)) (ka.2▸Nat.le_trans q4 (by decide))
  (H4 (s:={s with heap:=s.heap.push {cls:= .type "dict",data:= .dict #[]}}) (S.grow kk rfl rfl) (congrArg (i6 ks) rk) rx e2 q2 fun ps kvs tk hc hd=> ?_)
 refine⟨kvs,hc,⟨_,#[],0,Heap.get?_push_size _ rfl,⟨rfl,rfl,rfl⟩,rfl,fun _ he=>absurd he (Array.not_mem_empty _),.nil,List.nodup_nil⟩,fun hp hD hB=> ?_⟩
 rw[Ak kvs [] (H9 q1 q2 hd)]at hD
 have ha:=dZ s.heap
 refine(g.of e4).fresh S (s':={s with heap:=hp,toks:=tk+ps.length}) (fun b o e=> ?_) rfl rfl ha ?_ ⟨kvs,hD,?_,hd⟩
 ·rw[hB.2 b (fun e2=>by subst e2;rw[ha]at e;cases e)]
  exact kk _ _ e
 ·refine g9 hD fun o _ _ ho _=> ?_
  show(hp.get? _).isSome=true
  rw[ho];rfl
 ·rw[hd.len,List.length_zip]
  exact Nat.le_trans (Nat.min_le_left _ _) (Nat.le_trans q4 (by decide)))
end
noncomputable def jR(W:Wd)(k:Nat)(env:Env)(o:PySem.BoolOp)(es:List PySem.Expr)(l:L)(h:H)(v:Bool)(h':H):Prop:= ∀⦃pos:Pos⦄⦃fs:List Env⦄⦃ρ:au⦄⦃s:Shared⦄⦃A:Around⦄⦃E:Value→Shared→Prop⦄⦃Q:Bool→Shared→Prop⦄⦃qw:Sem Value⦄,
 ah W env fs ρ l h s→b6 A fs k→fh W env fs l ρ s v h' Q→wpAny (model W.prog W.w) A (isTrue (.BoolOp o es pos) env qw) Q E s
noncomputable def qA(W:Wd)(C:Cx)(k:Nat)(x:QS):Prop:= ∀{env:Env}{es:List PySem.Expr}{l:L}{h h':H}{v:Bool},qi env.scope x es→iZ C l x h=some (v,h')→jR W k env .And es l h v h'
noncomputable def qB(W:Wd)(C:Cx)(k:Nat)(x:QS):Prop:= ∀{env:Env}{es:List PySem.Expr}{l:L}{h h':H}{v:Bool},qi env.scope x es→i0 C l x h=some (v,h')→jR W k env .Or es l h v h'
noncomputable def qC(W:Wd)(k:Nat)(env:Env)(es:List PySem.Expr)(l:L)(h:H)(v:V)(h':H):Prop:= ∀⦃pos:Pos⦄⦃fs:List Env⦄⦃ρ:au⦄⦃s:Shared⦄⦃A:Around⦄⦃E:Value→Shared→Prop⦄⦃Q:Value→Shared→Prop⦄,
 ah W env fs ρ l h s→b6 A fs k→Got W env fs l ρ s v h' Q→wpAny (model W.prog W.w) A (boolOp pos .And (evalEach es env)) Q E s
noncomputable def qD(W:Wd)(C:Cx)(k:Nat)(x:XS):Prop:= ∀{env:Env}{es:List PySem.Expr}{l:L}{h h':H}{v:V},qg env.scope x es→oa C l x h=some (v,h')→qC W k env es l h v h'
section
variable{prog:Program}{w:World}{W:Wd}{mg mb:Str→Option Value}{C:Cx}{env:Env}{fs:List Env}{ρ ag aD:au}{l:L}{h h' bF:H}{s s' ai:Shared}{A:Around}{k:Nat}{E:Value→Shared→Prop}
theorem jR.of {sc:Scope} {x:QS} {o:PySem.BoolOp} {es:List PySem.Expr} {t:Bool} (r:qi sc x es) (j:jR W k env o (md x es) l h t h'):jR W k env o es l h t h':=r.1▸j
theorem qC.of {sc:Scope} {x:XS} {es:List PySem.Expr} {t:V} (r:qg sc x es) (j:qC W k env (eG x es) l h t h'):qC W k env es l h t h':=r.1▸j
theorem fh.of {v a:Bool} {b:H} {Q:Bool→Shared→Prop} (g:fh W env fs l ρ s v h' Q) (e:some (a,b)=some (v,h')):fh W env fs l ρ s a b Q:=SP (P:=fun v h'=>fh W env fs l ρ s v h' Q→fh W env fs l ρ s a b Q) e id g
theorem Ib{e:PySem.Expr}(n:zi e=true)(env:Env)(t:Sem Value):isTrue e env t=(do let v←t;standAt e.pos;holding [v] (truthy v)):=by
 cases e with
 |UnaryOp=>exact nope n
 |BoolOp=>exact nope n
 |IfExp=>exact nope n
 |Compare=>exact nope n
 |_=>exact rfl
theorem Ic(O:aN W mg mb)(CO:bq W C k){x:X}(hx:aG W C k x):gq W C k (.tr x):=fun{env e l h h' v} r e1=>mA e1 fun u h1 e2 e3=>mM e3 fun b hb e4=>
 fun _ _ _ _ _ _ S a g=>wpAny_isTrue_value (hx ⟨r.1,T1 r.2⟩ e2 S a fun v1 s1 aQ S1 X1 q1=>vq O.cl CO.cl S1 hb q1 ((g.of (congrArg some e4)).after X1)) (Ib (T2 r.2) _ _)
theorem Id{x:Q}(hx:gq W C k x):gq W C k (.not x):=fun r e1=>Jq.of r (mN e1 fun b h1 e2 e3=>
 fun _ _ _ _ _ _ S a g=>wpAny_isTrue_Not (hx (.mk (congrArg (ad · 0) r.1) r.2) e2 S a fun s1 aQ S1 X1=>g.of e3 s1 aQ S1 X1))
theorem Ie(O:aN W mg mb)(CO:bq W C k){o:fZ}{x y:X}(hx:aG W C k x)(hy:aG W C k y):gq W C k (.cmp o x y):=fun r e1=>Jq.of r (mA e1 fun u h1 e2 e3=>mA e3 fun w h2 e4 e5=>mM e5 fun c e6 e7=>
 fun _ _ _ _ _ _ S a g=>wpAny_isTrue_Compare1 (hx (.mk (congrArg (ad · 0) r.1) (T1 (T1 r.2))) e2 S a fun v1 s1 aQ S1 X1 q1=>hy (.mk (congrArg (ad · 1) r.1) (T2 (T1 r.2))) e4 S1 a fun v2 s2 aZ S2 X2 q2=>
  qt O.cl CO.cl S2 a.u9 e6 (q1.mono X2.le) q2 (wpAny_truthy_bool (g.of (congrArg some e7) s2 aZ S2 (X1.trans X2)))) (TR (f:=fun b=> !behindInMarks o.op b) (congrArg (ad · 1) r.1) (T2 r.2)|>TN))
theorem Ig{P:Prop}{C:Cx}{h:H}{z:Option Bool}{y:Option (Bool×H)}{r:Bool×H}(e:(match z with|some true=>y|some false=>some (false,h)|none=>none)=some r)(k1:z=some true→y=some r→P)(k2:z=some false→some (false,h)=some r→P):P:=by
 induction z with
 |none=>exact none_ne e
 |some b=>induction b with
  |true=>exact k1 rfl e
  |false=>exact k2 rfl e
theorem Ih(O:aN W mg mb)(CO:bq W C k){o p:fZ}{x y z:X}(hx:aG W C k x)(hy:aG W C k y)(hz:aG W C k z):gq W C k (.fH o p x y z):=fun r e1=>Jq.of r (mA e1 fun u h1 e2 e3=>mA e3 fun w h2 e4 e5=>
 fun _ _ _ _ _ _ S a g=>isTrue_chain (hx (.mk (congrArg (ad · 0) r.1) (T1 (T1 (T1 r.2)))) e2 S a fun v1 s1 aQ S1 X1 q1=>
  wpAny_bind (wpAny_holding (hy (.mk (congrArg (ad · 1) r.1) (T2 (T1 (T1 r.2)))) e4 S1 a fun v2 s2 aZ S2 X2 q2=>wpAny_bind (wpAny_standAt (wpAny_bind (wpAny_holding
  (Ig (C:=C) e5 (fun hc e6=>mA e6 fun w3 h3 e7 e8=>mM e8 fun c Al e9=>qt O.cl CO.cl S2 a.u9 hc (q1.mono X2.le) q2 (wpAny_bind (wpAny_release' (wpAny_bind (wpAny_holding (wpAny_truthy_bool
   (wpAny_bind (wpAny_holding (hz (.mk (congrArg (ad · 2) r.1) (T2 (T1 r.2))) e7 S2 a fun v3 s3 fi S3 X3 q3=>wpAny_bind (wpAny_standAt (wpAny_bind (wpAny_operate' (qt O.cl CO.cl S3 a.u9 Al (q2.mono X3.le) q3 (wpAny_holding (wpAny_truthy_bool (g.of (congrArg some e9) s3 fi S3 ((X1.trans X2).trans X3)))))))))))))))))
   fun hc e6=>qt O.cl CO.cl S2 a.u9 hc (q1.mono X2.le) q2 (wpAny_bind (wpAny_release' (wpAny_bind (wpAny_holding (wpAny_truthy_bool (wpAny_pure (g.of e6 s2 aZ S2 (X1.trans X2))))))))))))))) (TR (f:=fun b=> !behindInMarks p.op b) (congrArg (ad · 2) r.1) (T2 r.2)|>TN))
theorem Ii:qB W C k .nil:=fun r e1=>jR.of r fun _ _ _ _ _ _ _ _ S a g=>isTrue_or_nil (g.of e1 _ _ S .refl)
theorem Ij:qA W C k .nil:=fun r e1=>jR.of r fun _ _ _ _ _ _ _ _ S a g=>isTrue_and_nil (g.of e1 _ _ S .refl)
theorem Ik{x:Q}{xs:QS}(hx:gq W C k x)(hs:qB W C k xs):qB W C k (.cons x xs):=fun r e1=>jR.of r (mT e1
 (fun h1 e2 e3 _ _ _ _ _ _ _ _ S a g=>isTrue_or (hx (.mk (congrArg dY r.1) (T1 r.2)) e2 S a fun s1 aQ S1 X1=>g.of e3 s1 aQ S1 X1))
 fun h1 e2 e3 _ _ _ _ _ _ _ _ S a g=>isTrue_or (hx (.mk (congrArg dY r.1) (T1 r.2)) e2 S a fun s1 aQ S1 X1=>hs (.mk (congrArg List.tail r.1) (T2 r.2)) e3 S1 a (g.after X1)))
theorem Il{x:Q}{xs:QS}(hx:gq W C k x)(hs:qA W C k xs):qA W C k (.cons x xs):=fun r e1=>jR.of r (mT e1
 (fun h1 e2 e3 _ _ _ _ _ _ _ _ S a g=>isTrue_and (hx (.mk (congrArg dY r.1) (T1 r.2)) e2 S a fun s1 aQ S1 X1=>hs (.mk (congrArg List.tail r.1) (T2 r.2)) e3 S1 a (g.after X1)))
 fun h1 e2 e3 _ _ _ _ _ _ _ _ S a g=>isTrue_and (hx (.mk (congrArg dY r.1) (T1 r.2)) e2 S a fun s1 aQ S1 X1=>g.of e3 s1 aQ S1 X1))
theorem Im{xs:QS}(hs:qA W C k xs):gq W C k (.and xs):=fun r e1=>Jq.of r fun _ _ _ _ _ _ S a g=>hs (.mk (congrArg bA r.1) r.2) e1 S a g
theorem Io{xs:QS}(hs:qB W C k xs):gq W C k (.or xs):=fun r e1=>Jq.of r fun _ _ _ _ _ _ S a g=>hs (.mk (congrArg bA r.1) r.2) e1 S a g
theorem Ip{P:Prop}{h:H}{u:V}{z:Option Bool}{y:Option (V×H)}{r:V×H}(e:(match z with|some true=>y|some false=>some (u,h)|none=>none)=some r)(k1:z=some true→y=some r→P)(k2:z=some false→some (u,h)=some r→P):P:=by
 induction z with
 |none=>exact none_ne e
 |some b=>induction b with
  |true=>exact k1 rfl e
  |false=>exact k2 rfl e
theorem Iq:qD W C k .nil:=fun _ e1=>none_ne e1
theorem Ir(O:aN W mg mb)(CO:bq W C k){x:X}{xs:XS}(hx:aG W C k x)(hs:qD W C k xs):qD W C k (.cons x xs):=fun{env es l h h' v} r e1=>qC.of r (mA e1 fun u h1 e2 e3=>by
 have rx:cN env.scope x (aB x (dY es)):= .mk (congrArg dY r.1) (T1 r.2)
 have rs:qg env.scope xs (eG xs es.tail):= .mk (congrArg List.tail r.1) (T2 r.2)
 cases xs with
 |nil=>exact fun _ _ _ _ _ _ _ S a g=>hx rx e2 S a (g.of e3)
 |cons y ys=>
  refine fun pos fs ρ s A E Q S a g=> ?_
  show wpAny _ _ (boolOp pos .And (eval _ env::eval _ env::evalEach _ env)) _ _ _
  refine wpAny_bind (hx rx e2 S a fun v1 s1 aQ S1 X1 q1=>wpAny_bind (wpAny_standAt (wpAny_bind (wpAny_holding (Ip e3 (fun ht e4=> ?_) fun ht e4=> ?_)))))
  ·exact vq O.cl CO.cl S1 ht q1 fun s2 aZ S2 X2=>hs rs e4 S2 a ((g.after X1).after X2)
  ·exact vq O.cl CO.cl S1 ht q1 fun s2 aZ S2 X2=>wpAny_pure ((((g.of e4).after X1).after X2).here S2 (q1.mono X2.le)))
theorem Iu{xs:XS}(hs:qD W C k xs):aG W C k (.and xs):=fun r e1=>Jx.of r fun _ _ _ _ _ _ S a g=>hs (.mk (congrArg bA r.1) r.2) e1 S a g
theorem Iw:ox W C k .nil:=fun r e1=>ow.of r fun _ _ _ _ _ _ _ S a g=>spliced_none (SP (P:=fun vs h'=>jN W _ _ _ _ _ vs h' _→_) e1 (fun g=>g [] _ _ S .refl trivial) g)
theorem Ix{x:X}{xs:XS}(hx:aG W C k x)(hs:ox W C k xs):ox W C k (.cons x xs):=fun r e1=>ow.of r (mA e1 fun u h1 e2 e3=>mL e3 fun us h2 e4 e5=>
 fun _ _ _ _ _ _ _ S a g=>spliced_more (hx (.mk (congrArg dY r.1) (T1 (T1 r.2))) e2 S a fun v1 s1 aQ S1 X1 q1=>hs (.mk (congrArg List.tail r.1) (T2 r.2)) e4 S1 a fun vs s2 aZ S2 X2 q2=>
  SP (P:=fun vs h'=>jN W _ _ _ _ _ vs h' _→_) e5 (fun g=>g _ s2 aZ S2 (X1.trans X2) ⟨q1.mono X2.le,q2⟩) g) (jc (TR (f:=aW) (congrArg dY r.1) (T2 (T1 r.2))) _ _))
end
noncomputable def dr(W:Wd)(env:Env)(fs:List Env)(ρ:au)(b:Addr):Prop:= ¬gO env ρ b∧oo W env fs b
section
variable{prog:Program}{w:World}{W:Wd}{mg mb:Str→Option Value}{C:Cx}{env:Env}{fs:List Env}{ρ ag aD bZ aO:au}{l:L}{h h' bF:H}{s s' ai bj ax:Shared}{A:Around}{k:Nat}{E:Value→Shared→Prop}{fp:List Addr}
theorem ah.side (S:ah W env fs ρ l h s) (hs: ∀b∈fp,dr W env fs ρ b) (kk: ∀b o,b∉fp→s.heap.get? b=some o→s'.heap.get? b=some o) (g:s'.gens=s.gens) (os:s'.os=s.os):ah W env fs ρ l h s':=by
 have np: ∀i a dx,ρ i=some (a,dx)→a∉fp∧dx∉fp:=fun i a dx e=>⟨fun hm=>(hs _ hm).1 ⟨i,a,dx,e,.inl rfl⟩,fun hm=>(hs _ hm).1 ⟨i,a,dx,e,.inr rfl⟩⟩
 have vk: ∀{l:List Env},(∀e∈l,e∈fs)→s.heap.FunFrames W.h₀ l→s'.heap.FunFrames W.h₀ l:=by
  intro l
  induction l with
  |nil=>intro _ _;trivial
  |cons e r ih=>
   rintro hm ⟨f1,⟨L,oL,f2,f3,f4,f5⟩,f6⟩
   refine⟨f1,⟨L,oL,f2,f3,?_,f5⟩,ih (fun e he=>hm e (.tail _ he)) f6⟩
   exact kk _ _ (fun hp=>(hs _ hp).2.2.2.2 (List.mem_filterMap.mpr ⟨e,hm e (.head _),f2⟩)) f4
 refine⟨S.eo,fun b o e=>kk b o (fun hp=> ?_) (S.cL b o e),vk (fun _ h=>h) S.ff,fun i o e=> ?_,S.eT,S.dI,S.inj,fun i a dx e=> ?_,S.loc.keeps (.refl _) fun b o hb e=>⟨o.slots,kk b o (fun hp=> ?_) e⟩,by rw[g];exact S.gens,by rw[os];exact S.os⟩
 ·have:=(hs _ hp).2.1
  rw[e]at this;cases this
 ·refine cQ (S.objs i o e) fun a dx r z=> ?_
  refine bn (np i a dx r) fun n1 n2=> ?_
  refine⟨a,dx,r,z.mono (.refl _) ?_⟩
  rintro b (rfl|rfl) o e
  ·exact kk _ _ n1 e
  ·exact kk _ _ n2 e
 ·refine bn (S.dq i a dx e) fun d1 d2=> ?_
  refine bn (np i a dx e) fun n1 n2=> ?_
  refine br (Option.isSome_iff_exists.mp d1) fun o1 h1=> ?_
  refine br (Option.isSome_iff_exists.mp d2) fun o2 h2=> ?_
  rw[kk _ _ n1 h1,kk _ _ n2 h2];exact⟨rfl,rfl⟩
 ·rcases hb with rfl|⟨x,c,hx,rfl⟩
  ·exact(hs _ hp).2.2.1 rfl
  ·exact(hs _ hp).2.2.2.1 x _ hx rfl
theorem aY.side (X:aY env fs aO ax ρ s) (hn: ∀b∈fp,ax.heap.get? b=none) (kk: ∀b o,b∉fp→s.heap.get? b=some o→s'.heap.get? b=some o) (g:s'.gens=s.gens):aY env fs aO ax ρ s':=by
 refine⟨X.le,X.fresh,fun b o e n=> ?_,fun b hb=> ?_,fun i x e=>by rw[g];exact X.gens i x e⟩
 ·have nb:b∉fp:=fun hm=>by rw[hn b hm]at e;cases e
  obtain⟨k1,sl,k2⟩:=X.kept b o e n
  exact⟨fun hf=>kk _ _ nb (k1 hf),sl,kk _ _ nb k2⟩
 ·refine br (Option.isSome_iff_exists.mp (X.de b hb)) fun o ho=> ?_
  by_cases nb:b∈fp
  ·rw[hn b nb]at hb;cases hb
  ·rw[kk _ _ nb ho];rfl
theorem dr.after (hs:dr W env fs ρ b) (X:aY env fs ρ s ag s') (hb:(s.heap.get? b).isSome):dr W env fs ag b:=by
 refine⟨?_,hs.2⟩
 rintro⟨i,a,dx,e,z⟩
 cases q:ρ i with
 |some p=>
  have:=X.le i p q
  rw[e]at this;cases this
  exact hs.1 ⟨i,a,dx,q,z⟩
 |none=>
  refine bn (X.fresh i a dx e q) fun f1 f2=> ?_
  rcases z with rfl|rfl
  ·rw[f1]at hb;cases hb
  ·rw[f2]at hb;cases hb
theorem ah.fN (S:ah W env fs ρ l h s) {b:Addr} (e:s.heap.get? b=none):dr W env fs ρ b:=by
 refine⟨?_,?_,?_,?_,?_⟩
 ·rintro⟨i,a,dx,r,z⟩
  refine bn (S.dq i a dx r) fun d1 d2=> ?_
  rcases z with rfl|rfl
  ·rw[e]at d1;cases d1
  ·rw[e]at d2;cases d2
 ·cases q:W.h₀.get? b with
  |none=>rfl
  |some o=>rw[S.cL _ _ q]at e;cases e
 ·rintro rfl
  (refine br S.zt fun m Iy=> ?_;obtain⟨o,_,_,ho,_⟩:=Iy)
  rw[e]at ho;cases ho
 ·rintro y c hc rfl
  obtain⟨_,_,v,o,ho,_⟩:=S.loc.i8 y _ hc
  rw[e]at ho;cases ho
 ·intro hm
  obtain⟨_,o,ho,_⟩:=S.ff.mem hm
  rw[e]at ho;cases ho
structure dJ(W:Wd)(C:Cx)(A:Around)(it:Value)(fp:List Addr)(At:Nat→Heap→Prop)(src:Option V)(vs:List V)(aO:au):Prop where
 jS: ∀i h h',At i h→(∀b∈fp,∀o,h.get? b=some o→h'.get? b=some o)→At i h'
 has: ∀i h,At i h→ ∀b∈fp,(h.get? b).isSome
 item: ∀{env fs ρ l h s i v Q E},ah W env fs ρ l h s→aO.le ρ→bV C h src vs=true→At i s.heap→vs[i]? =some v→
  (∀v' h' tk,VR W ρ v v'→(∀b o,b∉fp→s.heap.get? b=some o→h'.get? b=some o)→At (i+1) h'→Q (some v') {s with heap:=h',toks:=tk})→wpAny (model W.prog W.w) A (pyNext it) Q E s
 fin: ∀{env fs ρ l h s i Q E},ah W env fs ρ l h s→aO.le ρ→bV C h src vs=true→At i s.heap→vs[i]? =none→
  (∀h' tk,(∀b o,b∉fp→s.heap.get? b=some o→h'.get? b=some o)→Q none {s with heap:=h',toks:=tk})→wpAny (model W.prog W.w) A (pyNext it) Q E s
 again: ∀{s Q E i},At i s.heap→Q it s→wpAny (model W.prog W.w) A (pyIter it) Q E s
theorem sY{v:V}{vs:List V}(hl:bV C h (some v) vs=true):C.items h v=some vs:=by
 unfold bV at hl
 exact beq_iff_eq.mp hl
theorem dJ.list (O:aN W mg mb) (hC:C.cl=aj W.ak) (hA:A.handled=none) {v:V} {vs:List V} {a I:Addr} (r:VR W aO v (.ref a)):
 dJ W C A (.ref I) [I] (fun i h=>h.IsListIter I a i) (some v) vs aO where
 jS:=fun i h h' ⟨o,ho,q⟩ k=>⟨o,k I (.head _) o ho,q⟩
 has:=fun i h ⟨o,ho,q⟩ b hb=>by
  rw[List.mem_singleton.mp hb,ho];rfl
 item:=fun{env fs ρ l h s i x Q E} S le hl dK hx hq=>sP O.cl hC S (sY hl) (r.mono le) fun ws hL hz rr=>
  (rr.get hx).elim fun y z=>wpAny_pyNext_list_item dK hL (List.getElem?_toArray.trans z.1) fun h' h1 h2=>hq y h' s.toks z.2 (fun b o nb e=>(h2.2 b (fun q=>nb (q▸ .head _))).trans e) h1
 fin:=fun{env fs ρ l h s i Q E} S le hl dK hx hq=>sP O.cl hC S (sY hl) (r.mono le) fun ws hL hz rr=>
  wpAny_pyNext_list_end hA dK hL (List.getElem?_toArray.trans (List.getElem?_eq_none_iff.mpr (rr.len▸List.getElem?_eq_none_iff.mp hx))) fun h' h2=>hq h' s.toks (fun b o nb e=>h2 b o (fun q=>nb (q▸ .head _)) e)
 again:=fun dK q=>wpAny_pyIter_listiter dK q
theorem vW{a b c:Int}(hc:0<c):(Builtin.Range.rangeSize a b c).toNat=((b-a+c-1)/c).toNat:=by
 unfold Builtin.Range.rangeSize
 rw[if_pos hc]
 have e:(b-a+c-1)/c=(b-a-1)/c+1:=by
  rw[show b-a+c-1=(b-a-1)+1*c by trace"adUVsWt1zsUVs1zsW1utj",Int.add_mul_ediv_right _ _ (by trace"ab0zqUrU0zjxi hc")]
 split
 ·rw[e]
 ·rename_i q
  rw[e]
  have:(b-a-1)/c<0:=Int.ediv_neg_of_neg_of_pos (by trace"acUqVrxVUs1zsq0zri q") hc
  trace"cbUq0zr0zUqrBcUqjnUq0zrB0keno0z0zrAc0zjn0z0zrA0kenoABeiii this .t .t"
theorem Am{a b c:Int}(hc:0<c):0≤Builtin.Range.rangeSize a b c:=by
 unfold Builtin.Range.rangeSize
 rw[if_pos hc]
 split
 ·have:0≤(b-a-1)/c:=Int.ediv_nonneg (by trace"acUqVr0zVUs1zsri _") (by trace"ab0zqUr0zUri hc")
  trace"ab0zUr0zUqri this"
 ·exact Int.le_refl _
theorem dJ.range (hA:A.handled=none) {a b c:Int} {I:Addr} (hc:0<c):
 dJ W C A (.ref I) [I] (fun i h=>IsRangeIter h I (a+c*(i:Int)) (Builtin.Range.rangeSize a b c-i) c) none (cS a b c) aO where
 jS:=fun i h h' ho k=>k I (.head _) _ ho
 has:=fun i h ho b hb=>by
  rw[List.mem_singleton]at hb;subst hb;rw[ho];rfl
 item:=by
  intro env fs ρ l h s i x Q E S le hl dK hx hq
  have eg:i<(Builtin.Range.rangeSize a b c).toNat:=by
   have:=(List.getElem?_eq_some_iff.mp hx).1
   rw[vW hc]
   simpa[cS]using this
  have e:x= .int (a+c*(i:Int)):=by
   unfold cS at hx
   rw[List.getElem?_map,List.getElem?_range (by rw[←vW hc];exact eg)]at hx
   exact(Option.some.inj hx).symm
  subst e
  refine wpAny_pyNext_range_item dK (by trace"cbBpAl0zUrAcUjnU0zrA0keno0zqUBcsrii eg .t") fun h' h1 h2=>hq _ h' _ ⟨_,rfl⟩ (fun b o nb e=> ?_) ?_
  ·rw[h2.2 b (fun q=>nb (by rw[q];exact .head _))];exact e
  ·have e1:a+c*(i:Int)+c=a+c*((i+1:Nat):Int):=by
    rw[Int.natCast_add,Int.mul_add];simp;trace"adUVtWtUVWttj"
   have e2:Builtin.Range.rangeSize a b c-i-1=Builtin.Range.rangeSize a b c-((i+1:Nat):Int):=by trace"bbUAcs1zsUApcsj"
   rw[e1,e2]at h1
   exact h1
 fin:=by
  intro env fs ρ l h s i Q E S le hl dK hx hq
  have Iz:(Builtin.Range.rangeSize a b c).toNat≤i:=by
   rw[List.getElem?_eq_none_iff]at hx
   rw[vW hc]
   simpa[cS]using hx
  have:=Am (a:=a) (b:=b) hc
  exact wpAny_pyNext_range_end hA dK (by trace"cbBAl0zUr0zUrBcUjnU0zrB0kenoUAcs0zriii Iz this .t") fun h' h2=>hq h' s.toks (fun b o nb e=>h2 b o (fun q=>nb (by rw[q];exact .head _)) e)
 again:=fun dK q=>wpAny_pyIter_rangeiter dK q
theorem dJ.tuple (hA:A.handled=none) {vs:List V} {ws:List Value} {T I:Addr} (r:bo W aO vs ws) (eh:I≠T):
 dJ W C A (.ref I) [I,T] (fun i h=>h.IsTupleIter I T i∧h.IsTuple T ws.toArray) none vs aO where
 jS:=fun i h h' ⟨⟨o,ho,q⟩,⟨o2,fO,q2⟩⟩ k=>⟨⟨o,k I (.head _) o ho,q⟩,⟨o2,k T (.tail _ (.head _)) o2 fO,q2⟩⟩
 has:=fun i h ⟨⟨o,ho,q⟩,⟨o2,fO,q2⟩⟩ b hb=>by
  rcases List.mem_cons.mp hb with rfl|hb
  ·rw[ho];rfl
  ·rw[List.mem_singleton]at hb;subst hb;rw[fO];rfl
 item:=by
  intro env fs ρ l h s i x Q E S le hl dK hx hq
  refine aA ((r.mono le).get hx) fun y hy ry=> ?_
  refine wpAny_pyNext_tuple_item dK.1 dK.2 (by simpa using hy) fun h' h1 h2=>hq y h' s.toks ry (fun b o nb e=> ?_) ⟨h1,?_⟩
  ·rw[h2.2 b (fun q=>nb (by rw[q];exact .head _))];exact e
  ·refine aA dK.2 fun o2 fO q2=> ?_
   exact⟨o2,by rw[h2.2 T (fun q=>eh q.symm)];exact fO,q2⟩
 fin:=by
  intro env fs ρ l h s i Q E S le hl dK hx hq
  have hn:ws.toArray[i]? =none:=by
   have:=r.len
   rw[List.getElem?_eq_none_iff]at hx
   simp;trace"daCBlCAeABlii hx this"
  exact wpAny_pyNext_tuple_end hA dK.1 dK.2 hn fun h' h2=>hq h' s.toks (fun b o nb e=>h2 b o (fun q=>nb (by rw[q];exact .head _)) e)
 again:=fun dK q=>wpAny_pyIter_tupleiter dK.1 q
end
section
variable{prog:Program}{w:World}{W:Wd}{mg mb:Str→Option Value}{C:Cx}{env:Env}{fs:List Env}{ρ ag aD bZ aO:au}{l:L}{h h' bF:H}{s s' ai bj ax:Shared}{A:Around}{k:Nat}{E:Value→Shared→Prop}{fp:List Addr}
noncomputable def oE(env:Env)(p:Str×NameKind)(r:List (Str×Addr)):Sem (ForInStep (List (Str×Addr))):=
 if(p.2== .free)=true then do
  let a←cellOf env p.1
  pure (ForInStep.yield ((p.1,a)::r))
 else pure (ForInStep.yield r)
theorem An{env:Env}: ∀(names:List (Str×NameKind))(cs:List (Str×Addr)),(∀x∈names,x.2= .free→ ∃c,env.cells.lookup x.1=some c)→
 forIn names cs (oE env)=pure (((names.filterMap fun x=>if x.2= .free then(env.cells.lookup x.1).map (x.1,·)else none).reverse)++cs)
 |[],cs,_=>by simp
 |(x,kd)::r,cs,hh=>by
  rw[List.forIn_cons]
  have ih:=An (env:=env) r
  by_cases q:kd= .free
  ·subst q
   refine br (hh (x,.free) (.head _) rfl) fun c hc=> ?_
   have e:cellOf env x=pure c:=by unfold cellOf;rw[hc]
   have e1:oE env (x,.free) cs=pure (ForInStep.yield ((x,c)::cs)):=by
    unfold oE
    dsimp only
    rw[if_pos (by decide),e,pure_bind]
   rw[e1,pure_bind]
   dsimp only
   rw[ih _ fun y hy=>hh y (.tail _ hy)]
   simp[hc]
  ·have:(kd== .free)=false:=by rw[beq_eq_false_iff_ne];exact q
   have e1:oE env (x,kd) cs=pure (ForInStep.yield cs):=by
    unfold oE
    rw[this,if_neg Bool.false_ne_true]
   rw[e1,pure_bind]
   dsimp only
   rw[ih _ fun y hy=>hh y (.tail _ hy)]
   simp[q]
noncomputable def cW(scope:Scope)(env:Env):List (Str×Addr):=(scope.names.filterMap fun x=>if x.2= .free then(env.cells.lookup x.1).map (x.1,·)else none).reverse
theorem IA{scope:Scope}(hh: ∀x∈scope.names,x.2= .free→ ∃c,env.cells.lookup x.1=some c):closureFor scope env=pure (cW scope env):=by
 have:=An (env:=env) scope.names [] hh
 rw[List.append_nil]at this
 show(forIn scope.names [] (oE env)>>=fun cs=>pure cs)=pure _
 rw[this,pure_bind]
 rfl
theorem mem_lookup{α:Type}{x:Str}{a:α}: ∀{l:List (Str×α)},l.lookup x=some a→(x,a)∈l
 |[],e=>by cases e
 |(y,b)::r,e=>by
  rw[List.lookup_cons]at e
  cases q:x==y with
  |true=>
   rw[q]at e
   cases e
   rw[beq_iff_eq.mp q]
   exact .head _
  |false=>rw[q]at e;exact .tail _ (mem_lookup e)
theorem Ao{α:Type}{x:Str}{a:α}: ∀{l:List (Str×α)},(x,a)∈l→ ∃b,l.lookup x=some b
 |(y,b)::r,e=>by
  rw[List.lookup_cons]
  cases q:x==y with
  |true=>exact⟨b,rfl⟩
  |false=>
   rcases List.mem_cons.mp e with e|e
   ·cases e;simp at q
   ·exact Ao e
theorem mu{scope:Scope}{x:Str}{c:Addr}(e:(cW scope env).lookup x=some c):env.cells.lookup x=some c:=by
 have:=mem_lookup e
 unfold cW at this
 rw[List.mem_reverse,List.mem_filterMap]at this
 (refine aA this fun IB _ h2=> ?_;obtain⟨y,kd⟩:=IB)
 split at h2
 ·refine aA (Option.map_eq_some_iff.mp h2) fun d hd e2=> ?_
  cases e2
  exact hd
 ·cases h2
theorem IC{scope:Scope}{x:Str}{c:Addr}(hm:(x,.free)∈scope.names)(e:env.cells.lookup x=some c):(cW scope env).lookup x=some c:=by
 have:(x,c)∈cW scope env:=by
  unfold cW
  rw[List.mem_reverse,List.mem_filterMap]
  exact⟨(x,.free),hm,by simp[e]⟩
 refine br (Ao this) fun b hb=> ?_
 have:=mu hb
 rw[e]at this;cases this
 exact hb
structure my(env:Env)(scope:Scope)(n:Nm):Prop where
 kind:scope.kind= .function
 co:scope.isCoroutine=false
 loc:scope.names.lookup n.str=some .local
 cell: ∀x∈scope.names,x.2≠ .cell
 free: ∀x∈scope.names,x.2= .free→env.kindOf x.1=some .cell
 locs: ∀x∈scope.names,x.2= .local→x.1=n.str∨x.1= ".0"
 self: ∀x∈scope.names,scope.names.lookup x.1=some x.2
theorem kQ{scope:Scope}{n:Nm}(ok:sG env.scope scope n=true):my env scope n:=by
 unfold sG at ok
 simp only[Bool.and_eq_true,beq_iff_eq,Bool.not_eq_true',List.all_eq_true]at ok
 (refine bn ok fun ID o4=> ?_;obtain⟨⟨o1,o2⟩,o3⟩:=ID)
 have o5: ∀x∈scope.names,((x.2≠ .cell∧(x.2≠ .free∨env.kindOf x.1=some .cell))∧((x.2≠ .local∨x.1=n.str)∨x.1= ".0"))∧scope.names.lookup x.1=some x.2:=by
  intro x hx
  have:=o4 x hx
  obtain⟨a,b⟩:=x
  simp only[Bool.and_eq_true,Bool.or_eq_true,bne_iff_ne,ne_eq,beq_iff_eq]at this
  exact this
 refine⟨o1,o2,o3,fun x hx=>(o5 x hx).1.1.1,fun x hx e=> ?_,fun x hx e=> ?_,fun x hx=>(o5 x hx).2⟩
 ·rcases(o5 x hx).1.1.2 with q|q
  ·exact absurd e q
  ·exact q
 ·rcases(o5 x hx).1.2 with(q|q)|q
  ·exact absurd e q
  ·exact .inl q
  ·exact .inr q
theorem vX{env:Env}{x:Str}: ∀(names:List (Str×NameKind)),(names.map fun(n,k)=>if(k==NameKind.free&&env.scope.kind== .function&&env.kindOf n==some .cell)then(n,NameKind.cell)else(n,k)).lookup x=
 (names.lookup x).map fun k=>if(k==NameKind.free&&env.scope.kind== .function&&env.kindOf x==some .cell)then NameKind.cell else k
 |[]=>rfl
 |(y,kd)::r=>by
  have ih:=vX (env:=env) (x:=x) r
  show List.lookup x ((if(kd==NameKind.free&&env.scope.kind== .function&&env.kindOf y==some .cell)=true then(y,NameKind.cell)else(y,kd))::_)=_
  cases q:x==y with
  |true=>
   have:x=y:=beq_iff_eq.mp q
   subst this
   split
   ·rename_i c;simp only[List.lookup_cons,q,Option.map_some];rw[if_pos c]
   ·rename_i c;simp only[List.lookup_cons,q,Option.map_some];rw[if_neg c]
  |false=>
   split<;>simp only[List.lookup_cons,q]<;>exact ih
theorem IE(n:Nm):n.str≠ ".0" :=beq_eq_false_iff_ne.mp (TN (Nm.sB (P:=fun x=> !(x==(".0" :Str))) (by decide+kernel) n))
theorem ah.comp (S:ah W env fs ρ l h s) {scope:Scope} {n:Nm} (ok:my env scope n) {Ca:Addr} {m:Str→Option Value} {v:V} {v':Value} (hC:dr W env fs ρ Ca) (hn:s.heap.Ns Ca m) (hm:m n.str=some v') (r:VR W ρ v v'):
 ah W (compEnvC scope (cW scope env) Ca env) fs ρ (l.set n v) h s:=by
 have kind: ∀x,(compEnvC scope (cW scope env) Ca env).kindOf x=(scope.names.lookup x).map fun k=>if(k==NameKind.free&&env.scope.kind== .function&&env.kindOf x==some .cell)then NameKind.cell else k:=fun x=>vX scope.names
 have fr: ∀x,(compEnvC scope (cW scope env) Ca env).kindOf x=some .cell∨(compEnvC scope (cW scope env) Ca env).kindOf x=some .free→(x,.free)∈scope.names∧env.kindOf x=some .cell:=by
  intro x hx
  rw[kind]at hx
  have: ∃k,scope.names.lookup x=some k:=by
   rcases hx with e|e<;>refine aA (Option.map_eq_some_iff.mp e) fun k hk _=> ?_<;>exact⟨k,hk⟩
  refine br this fun kd hk=> ?_
  have je:=mem_lookup hk
  have nc:=ok.cell _ je
  rw[hk]at hx
  have:kd= .free:=by
   simp only[Option.map_some,Option.some.injEq]at hx
   rcases hx with e|e<;>split at e
   ·rename_i c
    simp only[Bool.and_eq_true,beq_iff_eq]at c
    exact c.1.1
   ·exact absurd e nc
   ·cases e
   ·exact e
  subst this
  exact⟨je,ok.free _ je rfl⟩
 have cl: ∀x,(x,NameKind.free)∈scope.names→env.kindOf x=some .cell→ ∃c,env.cells.lookup x=some c∧(compEnvC scope (cW scope env) Ca env).cells.lookup x=some c:=by
  intro x hm hk
  refine cQ (S.loc.has x hk) fun c _ hc _=> ?_
  exact⟨c,hc,IC hm hc⟩
 refine⟨⟨ok.kind,S.eo.glob,S.eo.zq,ok.co,S.eo.fr⟩,S.cL,S.ff,S.objs,S.eT,fun i a dx e=> ?_,S.inj,S.dq,⟨⟨m,hn,fun x u e q=> ?_⟩,fun x u e q=> ?_,fun x q=> ?_,hC.2.1,fun x c e=> ?_,fun x y c e1 e2=>S.loc.qk x y c (mu e1) (mu e2)⟩,S.gens,S.os⟩
 ·(refine kq (S.dI i a dx e) fun IF q1 q2 q3 q4=> ?_;refine dT IF fun p1 p2 p3 p4=> ?_)
  exact⟨⟨p1,fun z=>hC.1 ⟨i,a,dx,e,.inl z.symm⟩,fun x c hx=>p3 x c (mu hx),p4⟩,q1,fun z=>hC.1 ⟨i,a,dx,e,.inr z.symm⟩,fun x c hx=>q3 x c (mu hx),q4⟩
 ·rw[kind]at q
  refine aA (Option.map_eq_some_iff.mp q) fun kd hk e2=> ?_
  have je:=mem_lookup hk
  have:kd= .local:=by
   split at e2
   ·cases e2
   ·exact e2
  subst this
  rcases ok.locs _ je rfl with z|z
  ·have:x=n:=Nm.str_inj z
   subst this
   have e:(L.set l x v) x=some u:=e
   unfold L.set at e
   rw[if_pos rfl]at e
   cases e
   exact⟨v',hm,r⟩
  ·exact absurd z (IE x)
 ·refine bn (fr _ q) fun je hk=> ?_
  refine aA (cl _ je hk) fun c c1 c2=> ?_
  have ne:x≠n:=by
   rintro rfl
   have:=ok.self _ je
   rw[ok.loc]at this;cases this
  have e:(L.set l n v) x=some u:=e
  unfold L.set at e
  rw[if_neg ne]at e
  refine d7 (S.loc.cell x u e (.inl hk)) fun c' u' d1 d2 d3=> ?_
  rw[c1]at d1;cases d1
  exact⟨c,u',c2,d2,d3⟩
 ·refine bn (fr _ (.inl q)) fun je hk=> ?_
  refine aA (cl _ je hk) fun c c1 c2=> ?_
  refine cQ (S.loc.has x hk) fun c' u' d1 d2=> ?_
  rw[c1]at d1;cases d1
  exact⟨c,u',c2,d2⟩
 ·refine cH (S.loc.i8 x c (mu e)) fun r1 r2 r3=> ?_
  exact⟨r1,fun z=>hC.2.2.2.1 x c (mu e) z.symm,r3⟩
theorem aY.IG {oG:Env} (X:aY env fs ρ s ag s'):aY oG fs ρ s ag s':=⟨X.le,X.fresh,X.kept,X.de,X.gens⟩
theorem ah.back {oG:Env} {l':L} (S:ah W env fs ρ l h s) (S':ah W oG fs ag l' h' s') (X:aY env fs ρ s ag s'):ah W env fs ag l h' s':=by
 have no: ∀b,(b=env.locals∨ ∃x c,env.cells.lookup x=some c∧b=c)→ ¬gO env ρ b:=by
  rintro b hb ⟨i,a,dx,e,z⟩
  (refine kq (S.dI i a dx e) fun IH _ q2 q3 _=> ?_;refine dT IH fun _ p2 p3 _=> ?_)
  rcases hb with rfl|⟨x,c,hx,rfl⟩
  ·rcases z with z|z
   ·exact p2 z.symm
   ·exact q2 z.symm
  ·rcases z with z|z
   ·exact p3 x _ hx z.symm
   ·exact q3 x _ hx z.symm
 refine⟨S.eo,S'.cL,S'.ff,S'.objs,S'.eT,fun i a dx e=> ?_,S'.inj,S'.dq,S.loc.keeps X.le fun b o hb e=>(X.kept b o e (no b hb)).2,S'.gens,S'.os⟩
 (refine kq (S'.dI i a dx e) fun vY q1 _ _ q4=> ?_;refine dT vY fun p1 _ _ p4=> ?_)
 cases q:ρ i with
 |some p=>
  have:=X.le i p q
  rw[e]at this;cases this
  exact S.dI i a dx q
 |none=>
  refine bn (X.fresh i a dx e q) fun f1 f2=> ?_
  have:=S.fN f1
  have:=S.fN f2
  exact⟨(S.fN f1).2,(S.fN f2).2⟩
theorem ah.adopt (S:ah W env fs ρ l h s) {o:O} {D:Addr} (hD:dr W env fs ρ D) (hd:(s.heap.get? D).isSome) (hO:jM W ρ D D s.heap o):
 ∃ag,ah W env fs ag l (h.push o) s∧ρ.le ag∧ag h.n=some (D,D)∧(∀b,b≠D→ ¬gO env ρ b→ ¬gO env ag b)∧ ∀{aO ax},ax.heap.get? D=none→aY env fs aO ax ρ s→aY env fs aO ax ag s:=by
 have nn:ρ h.n=none:=(S.eT h.n (Nat.le_refl _)).2
 let ag:au:=fun i=>if i=h.n then some (D,D)else ρ i
 have le:ρ.le ag:=fun i p e=>by
  by_cases q:i=h.n
  ·subst q;rw[nn]at e;cases e
  ·show(if i=h.n then _ else _)=_;rw[if_neg q];exact e
 have at_:ag h.n=some (D,D):=by show(if h.n=h.n then _ else _)=_;rw[if_pos rfl]
 have fM: ∀i p,ag i=some p→(i=h.n∧p=(D,D))∨(i≠h.n∧ρ i=some p):=by
  intro i p e
  by_cases q:i=h.n
  ·subst q;rw[at_]at e;cases e;exact .inl ⟨rfl,rfl⟩
  ·have e':(if i=h.n then some (D,D)else ρ i)=some p:=e
   rw[if_neg q]at e';exact .inr ⟨q,e'⟩
 have ij: ∀i a dx,ρ i=some (a,dx)→a≠D∧dx≠D:=fun i a dx e=>⟨fun z=>hD.1 ⟨i,a,dx,e,.inl z.symm⟩,fun z=>hD.1 ⟨i,a,dx,e,.inr z.symm⟩⟩
 refine⟨ag,⟨S.eo,S.cL,S.ff,fun i x e=> ?_,fun i hi=> ?_,fun i b db e=> ?_,fun i j b db c dc e1 e2 ne=> ?_,fun i b db e=> ?_,S.loc.keeps le fun b o _ e=>⟨o.slots,e⟩,S.gens,S.os⟩,le,at_,fun b nb no=> ?_,fun{aO ax} hn X=>⟨X.le.trans le,fun i b db e q=> ?_,X.kept,X.de,X.gens⟩⟩
 ·by_cases q:i=h.n
  ·subst q
   have e':(if h.n=h.n then some o else h.o h.n)=some x:=e
   rw[if_pos rfl]at e';cases e'
   exact⟨D,D,at_,hO.mono le fun _ _ _ e=>e⟩
  ·have e':(if i=h.n then some o else h.o i)=some x:=e
   rw[if_neg q]at e'
   refine cQ (S.objs i x e') fun b db r z=> ?_
   exact⟨b,db,le _ _ r,z.mono le fun _ _ _ e=>e⟩
 ·have hi:h.n+1≤i:=hi
  have q:i≠h.n:=by trace"caBpAlABexi hi"
  refine bn (S.eT i (by trace"caApBlABli hi")) fun b1 b2=> ?_
  refine⟨?_,?_⟩
  ·show(if i=h.n then some o else h.o i)=none
   rw[if_neg q];exact b1
  ·show(if i=h.n then some (D,D)else ρ i)=none
   rw[if_neg q];exact b2
 ·rcases fM i _ e with⟨rfl,z⟩|⟨_,z⟩
  ·cases z;exact⟨hD.2,hD.2⟩
  ·exact S.dI i b db z
 ·rcases fM i _ e1 with⟨rfl,z⟩|⟨_,z⟩
  ·cases z
   rcases fM j _ e2 with⟨rfl,z2⟩|⟨_,z2⟩
   ·exact absurd rfl ne
   ·refine bn (ij j _ _ z2) fun o1 o2=> ?_
    exact⟨o1.symm,o2.symm,o1.symm,o2.symm⟩
  ·rcases fM j _ e2 with⟨rfl,z2⟩|⟨_,z2⟩
   ·cases z2
    refine bn (ij i _ _ z) fun o1 o2=> ?_
    exact⟨o1,o1,o2,o2⟩
   ·exact S.inj i j _ _ _ _ z z2 ne
 ·rcases fM i _ e with⟨rfl,z⟩|⟨_,z⟩
  ·cases z;exact⟨hd,hd⟩
  ·exact S.dq i b db z
 ·rintro⟨i,a,dx,e,z⟩
  rcases fM i _ e with⟨rfl,y⟩|⟨_,y⟩
  ·cases y;rcases z with z|z<;>exact nb z
  ·exact no ⟨i,a,dx,y,z⟩
 ·rcases fM i _ e with⟨rfl,z⟩|⟨_,z⟩
  ·cases z;exact⟨hn,hn⟩
  ·exact X.fresh i b db z q
end
noncomputable def gr(W:Wd)(C:Cx)(env:Env)(fs:List Env)(l:L)(ρ:au)(s:Shared)(A:Around)(src:Option V)(vs:List V)(h':H)(Q:Value→Shared→Prop):Prop:=
 ∀I fp At s1 aQ,ah W env fs aQ l h' s1→aY env fs ρ s aQ s1→dJ W C A I fp At src vs aQ→At 0 s1.heap→(∀b∈fp,dr W env fs aQ b∧s.heap.get? b=none)→Q I s1
noncomputable def kR(W:Wd)(C:Cx)(k:Nat)(env:Env)(e:PySem.Expr)(l:L)(h:H)(vs:List V)(src:Option V)(h':H):Prop:= ∀⦃fs:List Env⦄⦃ρ:au⦄⦃s:Shared⦄⦃A:Around⦄⦃E:Value→Shared→Prop⦄⦃Q:Value→Shared→Prop⦄,
 ah W env fs ρ l h s→b6 A fs k→gr W C env fs l ρ s A src vs h' Q→wpAny (model W.prog W.w) A (eval e env) (fun x ai=>wpAny (model W.prog W.w) A (pyIter x) Q E ai) E s
noncomputable def im(W:Wd)(C:Cx)(k:Nat)(it:It):Prop:= ∀{env:Env}{e:PySem.Expr}{l:L}{h h':H}{vs:List V}{src:Option V},jL env.scope it e→iter C l it h=some (vs,src,h')→kR W C k env e l h vs src h'
section
variable{prog:Program}{w:World}{W:Wd}{mg mb:Str→Option Value}{C:Cx}{env:Env}{fs:List Env}{ρ ag aD bZ aO:au}{l:L}{h h' bF:H}{s s' ai bj ax:Shared}{A:Around}{k:Nat}{E:Value→Shared→Prop}{fp:List Addr}
theorem gu{hp:Heap}{b:Addr}{o ob:Obj}(e:hp.get? b=some o):(hp.push ob).get? b=some o:=Heap.get?_push_of_some _ e
theorem kS(X:aY env fs ρ s ag s')(e:s'.heap.get? b=none):s.heap.get? b=none:=by
 cases z:s.heap.get? b with
 |none=>rfl
 |some o=>have:=X.de b (by rw[z];rfl);rw[e]at this;cases this
theorem kR.of {sc:Scope} {x:It} {e:PySem.Expr} {vs:List V} {src:Option V} (r:jL sc x e) (j:kR W C k env (gM x e) l h vs src h'):kR W C k env e l h vs src h':=r.1▸j
theorem gr.of {src vZ:Option V} {vs v6:List V} {v7:H} {Q:Value→Shared→Prop} (g:gr W C env fs l ρ s A src vs h' Q) (e:some (v6,vZ,v7)=some (vs,src,h')):gr W C env fs l ρ s A vZ v6 v7 Q:=
 SP (P:=fun vs p=>gr W C env fs l ρ s A p.1 vs p.2 Q→gr W C env fs l ρ s A vZ v6 v7 Q) e id g
theorem gr.after {src:Option V} {vs:List V} {Q:Value→Shared→Prop} (g:gr W C env fs l ρ s A src vs h' Q) (X:aY env fs ρ s aD ai):gr W C env fs l aD ai A src vs h' Q:=
 fun I fp At s1 aQ S X1 D a hb=>g I fp At s1 aQ S (X.trans X1) D a fun b hm=>⟨(hb b hm).1,kS X (hb b hm).2⟩
theorem gr.one {src:Option V} {vs:List V} {ob:Obj} {At:Nat→Heap→Prop} {Q:Value→Shared→Prop} {tk:Nat} (g:gr W C env fs l ρ s A src vs h Q) (S:ah W env fs ρ l h s) (D:dJ W C A (.ref s.heap.objs.size) [s.heap.objs.size] At src vs ρ) (a:At 0 (s.heap.push ob)):Q (.ref s.heap.objs.size) {s with heap:=s.heap.push ob,toks:=tk}:=
 g _ [s.heap.objs.size] At _ ρ (S.grow (fun _ _ e=>gu e) rfl rfl) (aY.grow (fun _ _ e=>gu e) rfl) D a fun b hb=>by
  rw[List.mem_singleton.mp hb]
  exact⟨S.fN (dZ _),dZ _⟩
theorem II(O:aN W mg mb)(CO:bq W C k){x:X}(hx:aG W C k x):im W C k (.val x):=fun{env e l h h' vs src} r e1=>mA e1 fun v h1 e2 e3=>mM e3 fun xs hi e4=>
 fun fs ρ s A E Q S a g=>hx r e2 S a fun v1 s1 aQ S1 X1 q1=>i9 (P:=fun v1=>VR W aQ v v1→wpAny (model W.prog W.w) A (pyIter v1) Q E s1) O.cl CO.cl S1 hi q1 (fun p ws hl hz r q1=>
  wpAny_pyIter_list hl (((g.of (congrArg some e4)).after X1).one (tk:=s1.toks) S1 (dJ.list O CO.cl a.hd q1) ⟨_,Heap.get?_push_size _ rfl,rfl,rfl⟩)) q1
theorem v8{a b c:Int}(ha:a.natAbs<2^31)(hb:b.natAbs<2^31)(hc:0<c)(Al:c<2^30):Builtin.Range.small a b c=true:=by
 have hs:0≤Builtin.Range.rangeSize a b c∧Builtin.Range.rangeSize a b c<2^33:=by
  refine⟨Am hc,?_⟩
  unfold Builtin.Range.rangeSize
  rw[if_pos hc]
  split
  ·have:(b-a-1)/c≤b-a-1:=by
    apply Int.ediv_le_self
    trace"acUqVr0zVUs1zsri _"
   trace"cdAp2^31klBp2^31klUqVrWVUs1zsr0zVrBcVjnV0zrBcVgjno0zUrAcUjnU0zrAcUgjnoWqq2^33zriiiiii ha hb _ this .a .a"
  ·trace"aa0zq2^33zr"
 unfold Builtin.Range.small Builtin.Range.rangeFitsLong
 rw[if_pos hc]
 simp only[Bool.and_eq_true,Bool.or_eq_true,decide_eq_true_eq]
 refine⟨⟨⟨⟨?_,?_⟩,?_⟩,?_⟩,.inr ?_⟩<;>omega
theorem v9(a:b6 A fs k)(S:ah W env fs ρ l h s){x y z:Int}{t u v:Tok}{tk:Nat}{Q:Value→Shared→Prop}(hs:Builtin.Range.small x y z=true)(hz:0<z)(g:gr W C env fs l ρ s A none (cS x y z) h Q):
 wpAny (model W.prog W.w) A (pyIter (.ref s.heap.objs.size)) Q E {s with heap:=s.heap.push {cls:= .type "range",data:= .fields #[.int x t,.int y u,.int z v]},toks:=tk}:=by
 have S2:=S.grow (s':={s with heap:=s.heap.push {cls:= .type "range",data:= .fields #[.int x t,.int y u,.int z v]},toks:=tk}) (fun _ _ e=>gu e) rfl rfl
 refine wpAny_pyIter_range (t:=t) (u:=u) (v:=v) (Heap.get?_push_size _ rfl) hs ?_
 refine(g.after (aY.grow (s':={s with heap:=s.heap.push {cls:= .type "range",data:= .fields #[.int x t,.int y u,.int z v]},toks:=tk}) (fun _ _ e=>gu e) rfl)).one (tk:=tk) S2 (At:=fun i h=>IsRangeIter h _ (x+z*(i:Int)) (Builtin.Range.rangeSize x y z-i) z) (dJ.range a.hd hz) ?_
 show IsRangeIter _ _ (x+z*0) (_-0) z
 rw[Int.mul_zero,Int.add_zero,Int.sub_zero]
 exact Heap.get?_push_size _ rfl
theorem IJ(O:aN W mg mb){x:X}(hx:aG W C k x):im W C k (.jB x):=fun r e1=>kR.of r (mI e1 fun n h1 e2 e3=>mF e3 fun q1 e4=>by
 intro fs ρ s A E Q S a g
 have pa:=TR (f:=aW) (congrArg (ad · 1) r.1) (T2 r.2)
 refine kP O.nm S oA (T2 (T1 r.2)) (by decide+kernel) O.nm.range (ik pa) (jd pa (hx (.mk (congrArg (ad · 1) r.1) (T1 (T1 r.2))) e2 S a fun v1 s1 aQ S1 X1 z1=> ?_))
 obtain⟨t,rfl⟩:=z1
 exact call_range_1 (v9 a S1 (v8 (by decide) q1 (by decide) (by decide)) (by decide) ((g.of e4).after X1)))
theorem IK(O:aN W mg mb){x y:X}(hx:aG W C k x)(hy:aG W C k y):im W C k (.gb x y):=fun r e1=>kR.of r (mI e1 fun n h1 e2 e3=>mI e3 fun m h2 e4 e5=>mF e5 fun q1 e6=>by
 intro fs ρ s A E Q S a g
 have pa:=TR (f:=aW) (congrArg (ad · 1) r.1) (T2 (T1 r.2))
 have pb:=TR (f:=aW) (congrArg (ad · 2) r.1) (T2 r.2)
 refine kP O.nm S oA (T2 (T1 (T1 r.2))) (by decide+kernel) O.nm.range (oz pa pb) (oy pa pb (hx (.mk (congrArg (ad · 1) r.1) (T1 (T1 (T1 (T1 r.2))))) e2 S a fun v1 s1 aQ S1 X1 z1=>hy (.mk (congrArg (ad · 2) r.1) (T2 (T1 (T1 (T1 r.2))))) e4 S1 a fun v2 s2 aZ S2 X2 z2=> ?_))
 obtain⟨t,rfl⟩:=z1
 obtain⟨t2,rfl⟩:=z2
 exact call_range_2 (v9 a S2 (v8 q1.1 q1.2 (by decide) (by decide)) (by decide) (((g.of e6).after X1).after X2)))
theorem IL(O:aN W mg mb){x y z:X}(hx:aG W C k x)(hy:aG W C k y)(hz:aG W C k z):im W C k (.jC x y z):=fun r e1=>kR.of r (mI e1 fun n h1 e2 e3=>mI e3 fun m h2 e4 e5=>mI e5 fun c h3 e6 e7=>mF e7 fun q1 e8=>by
 intro fs ρ s A E Q S a g
 have pa:=TR (f:=aW) (congrArg (ad · 1) r.1) (T2 (T1 (T1 r.2)))
 have pb:=TR (f:=aW) (congrArg (ad · 2) r.1) (T2 (T1 r.2))
 have pc:=TR (f:=aW) (congrArg (ad · 3) r.1) (T2 r.2)
 have pp:d4 [_,_,_]=true:=(congrArg (·&&_) pa).trans (oz pb pc)
 refine kP O.nm S oA (T2 (T1 (T1 (T1 r.2)))) (by decide+kernel) O.nm.range pp (Hk pa pb pc (hx (.mk (congrArg (ad · 1) r.1) (T1 (T1 (T1 (T1 (T1 (T1 r.2))))))) e2 S a fun v1 s1 aQ S1 X1 z1=>hy (.mk (congrArg (ad · 2) r.1) (T2 (T1 (T1 (T1 (T1 (T1 r.2))))))) e4 S1 a fun v2 s2 aZ S2 X2 z2=>hz (.mk (congrArg (ad · 3) r.1) (T2 (T1 (T1 (T1 (T1 r.2)))))) e6 S2 a fun v3 s3 fi S3 X3 z3=> ?_))
 obtain⟨t,rfl⟩:=z1
 obtain⟨t2,rfl⟩:=z2
 obtain⟨t3,rfl⟩:=z3
 refine call_range_3 (Int.ne_of_gt q1.2.2.1) (v9 a S3 (v8 q1.1 q1.2.1 q1.2.2.1 q1.2.2.2) q1.2.2.1 ((((g.of e8).after X1).after X2).after X3)) (.inl ?_)
 exact PyProof.noPylong_small (by have:=q1.2.2;trace"ddAp2^31klBp2^31kl0zqWrWq2^30zrnnn0zWrCcWjnW0zrCcWgjno0zVrBcVjnV0zrBcVgjno0zUrAcUjnU0zrAcUgjnoCp1073741824kliiii q1 .a .a .a"))
theorem IM(a:b6 A fs k)(S:ah W env fs ρ l h s){us:List V}{ws:List Value}{Q:Value→Shared→Prop}(r:bo W ρ us ws)(g:gr W C env fs l ρ s A none us h Q):
 wpAny (model W.prog W.w) A (pyIter (.ref s.heap.objs.size)) Q E {s with heap:=s.heap.push {cls:= .type "tuple",data:= .seq ws.toArray}}:=by
 have ht:(s.heap.push {cls:= .type "tuple",data:= .seq ws.toArray}).get? s.heap.objs.size=some {cls:= .type "tuple",data:= .seq ws.toArray}:=Heap.get?_push_size _ rfl
 refine wpAny_pyIter_tuple (items:=ws.toArray) ⟨_,ht,rfl,0,rfl⟩ ?_
 have hp: ∀b o,s.heap.get? b=some o→(s.heap.push {cls:= .type "tuple",data:= .seq ws.toArray}).get? b=some o:=fun _ _ e=>gu e
 generalize s.heap.push {cls:= .type "tuple",data:= .seq ws.toArray}=hb at ht hp
 have S2:=S.grow (s':={s with heap:=hb}) hp rfl rfl
 have X2:aY env fs ρ s ρ {s with heap:=hb}:=aY.grow hp rfl
 have ne:hb.objs.size≠s.heap.objs.size:=fun e=>by
  have:=dZ hb
  rw[e,ht]at this;cases this
 refine g _ [hb.objs.size,s.heap.objs.size] _ _ ρ (S2.grow (s':={s with heap:=hb.push _}) (fun _ _ e=>gu e) rfl rfl) (X2.trans (aY.grow (fun _ _ e=>gu e) rfl)) (dJ.tuple a.hd r ne) ⟨⟨_,Heap.get?_push_size _ rfl,rfl,rfl⟩,⟨_,gu ht,rfl,0,rfl⟩⟩ fun b hm=> ?_
 rcases List.mem_cons.mp hm with rfl|hm
 ·exact⟨S2.fN (dZ _),kS X2 (dZ _)⟩
 ·rw[List.mem_singleton.mp hm]
  exact⟨S.fN (dZ _),dZ _⟩
theorem IN{xs:XS}(hx:ox W C k xs):im W C k (.tup xs):=fun r e1=>kR.of r (mL e1 fun us h1 e2 e3=>mF e3 fun hz e4=>
 fun _ _ _ _ _ _ S a g=>Tuple_ (hx (.mk (congrArg bA r.1) r.2) e2 S a fun ws s1 aQ S1 X1 r=>wpAny_newTuple (IM a S1 r ((g.of e4).after X1)) (by rw[sizeLine_eq,←r.len];exact Nat.le_trans hz (by decide))))
end
structure fj(W:Wd)(env:Env)(fs:List Env)(aO:au)(ax:Shared)(l:L)(fp:List Addr)(At:Nat→Heap→Prop)(aD:au)(Ca D:Addr)(i:Nat)(ρ:au)(h:H)(acc:List V)(s:Shared):Prop where
 S:ah W env fs ρ l h s
 X:aY env fs aO ax ρ s
 sZ:aD.le ρ
 at_:At i s.heap
 side: ∀b∈Ca::D::fp,(dr W env fs ρ b∧ax.heap.get? b=none)∧(s.heap.get? b).isSome
 ns: ∃m,s.heap.Ns Ca m
 D: ∃eH c,s.heap.get? D=some {cls:= .type "list",dict:=none,data:= .seq eH c,slots:= #[]}∧bo W ρ acc eH.toList
structure jT(Ca D:Addr)(fp:List Addr):Prop where
 CD:Ca≠D
 Cf:Ca∉fp
 Df:D∉fp
section
variable{prog:Program}{w:World}{W:Wd}{mg mb:Str→Option Value}{C:Cx}{env:Env}{fs:List Env}{ρ ag aD bZ aO:au}{l l':L}{h h' bF hf:H}{s s' ai bj ax:Shared}{A:Around}{k:Nat}{E:Value→Shared→Prop}{fp:List Addr}
 {el:V→H→Option (V×H)} {cd:V→H→Option (Bool×H)} {src:Option V} {vs ys acc:List V} {At:Nat→Heap→Prop} {Ca D:Addr} {i:Nat} {scope:Scope} {n:Nm}
theorem wa{P:Prop}{v:V}{rest:List V}{r:List V×H}(e:cq C el cd src vs (v::rest) acc h=some r)(k1: ∀h1,cd v h=some (true,h1)→ ∀y h2,el v h1=some (y,h2)→cq C el cd src vs rest (y::acc) h2=some r→P)
 (k2: ∀h1,cd v h=some (false,h1)→cq C el cd src vs rest acc h1=some r→P):P:=mF e fun _ e=>mT e (fun h1 ec e=>mA e fun y h2 e2 e3=>k1 h1 ec y h2 e2 e3) k2
theorem IP{rest:List V}{r:List V×H}(e:cq C el cd src vs rest acc h=some r):bV C h src vs=true:=by
 induction rest with
 |nil=>exact mF e fun q _=>q
 |cons v rest=>exact mF e fun q _=>q
theorem IQ: ∀{rest acc:List V}{h:H}{r:List V×H},cq C el cd src vs rest acc h=some r→acc.length≤r.1.length:=by
 intro rest
 induction rest with
 |nil=>intro acc h r e;exact mF e fun _ e=>Option.some.inj e▸Nat.le_of_eq List.length_reverse.symm
 |cons v rest ih=>intro acc h r e;exact wa e (fun _ _ _ _ _ e=>Nat.le_of_succ_le (ih e)) fun _ _ e=>ih e
theorem IR(X:aY env fs ρ s ag s'){b:Addr}(hs:dr W env fs ρ b){o:Obj}(e:s.heap.get? b=some o):s'.heap.get? b=some o:=(X.kept b o e hs.1).1 hs.2.2.2.2
theorem Ns.keep {hp ii:Heap} {a:Addr} (n: ∃m,hp.Ns a m) (k: ∀o,hp.get? a=some o→ii.get? a=some o): ∃m,ii.Ns a m:=by
 refine yr n fun m o es ep ho r=> ?_
 exact⟨m,o,es,ep,k o ho,r⟩
theorem fj.ext (I:fj W env fs aO ax l fp At aD Ca D i ρ h acc s) {it:Value} (Dw:dJ W C A it fp At src vs aD) {oG:Env} (S:ah W oG fs ag l' h' s') (X:aY oG fs ρ s ag s'):fj W env fs aO ax l fp At aD Ca D i ag h' acc s':=by
 have X1:aY env fs ρ s ag s':=X.IG
 have kp: ∀b∈Ca::D::fp,∀o,s.heap.get? b=some o→s'.heap.get? b=some o:=fun b hb o e=>IR X1 (I.side b hb).1.1 e
 refine cQ I.D fun eH c hD rD=> ?_
 exact⟨I.S.back S X1,I.X.trans X1,I.sZ.trans X.le,Dw.jS _ _ _ I.at_ fun b hb o e=>kp b (.tail _ (.tail _ hb)) o e,fun b hb=>⟨⟨(I.side b hb).1.1.after X1 (I.side b hb).2,(I.side b hb).1.2⟩,X1.de b (I.side b hb).2⟩,
  Ns.keep I.ns (kp Ca (.head _)),eH,c,kp D (.tail _ (.head _)) _ hD,rD.mono X.le⟩
theorem fj.chg (I:fj W env fs aO ax l fp At aD Ca D i ρ h acc s) {ch:List Addr} (hc: ∀b∈ch,b∈Ca::D::fp) {hp:Heap} {tk:Nat} (k: ∀b o,b∉ch→s.heap.get? b=some o→hp.get? b=some o) (z: ∀b∈ch,(hp.get? b).isSome) {j:Nat} {Ap:List V} (at_:At j hp) (ns: ∃m,hp.Ns Ca m)
 (d: ∃eH c,hp.get? D=some {cls:= .type "list",dict:=none,data:= .seq eH c,slots:= #[]}∧bo W ρ Ap eH.toList):fj W env fs aO ax l fp At aD Ca D j ρ h Ap {s with heap:=hp,toks:=tk}:=
 ⟨I.S.side (fun b hb=>(I.side b (hc b hb)).1.1) k rfl rfl,I.X.side (fun b hb=>(I.side b (hc b hb)).1.2) k rfl,I.sZ,at_,fun b hb=>⟨(I.side b hb).1,by
  by_cases q:b∈ch
  ·exact z b q
  ·obtain⟨o,ho⟩:=Option.isSome_iff_exists.mp (I.side b hb).2
   rw[k b o q ho];rfl⟩,ns,d⟩
theorem IS(I:fj W env fs aO ax l fp At aD Ca D i ρ h acc s)(hl:bV C h src vs=true)(ok:my env scope n){it:Value}(Dw:dJ W C A it fp At src vs aD)(ap:jT Ca D fp){p:Pos}{v:V}(hv:vs[i]? =some v)
 {Q:Unit→Shared→Prop} {N:Shared→Prop} (hQ: ∀s',ah W (compEnvC scope (cW scope env) Ca env) fs ρ (l.set n v) h s'→fj W env fs aO ax l fp At aD Ca D (i+1) ρ h acc s'→Q () s'):
 wpAny (model W.prog W.w) A (pyNext it) (fun r ai=>match r with
  |none=>N ai
  |some v=>wpAny (model W.prog W.w) A (letOwnedTupleGo (.Name n.str p) it v) (fun _ ax=>wpAny (model W.prog W.w) A (assign (.Name n.str p) (compEnvC scope (cW scope env) Ca env) v) Q E ax) E ai) E s:=by
 refine Dw.item I.S I.sZ hl I.at_ hv fun v' h1 tk rv k1 a1=>wpAny_pure ?_
 refine cQ I.D fun eH c hD rD=> ?_
 have I1:=I.chg (tk:=tk) (fun b hb=> .tail _ (.tail _ hb)) k1 (Dw.has _ _ a1) a1 (Ns.keep I.ns (k1 _ · ap.Cf)) ⟨eH,c,k1 _ _ ap.Df hD,rD⟩
 obtain⟨m,hm⟩:=I1.ns
 have hk:(compEnvC scope (cW scope env) Ca env).kindOf n.str=some .local:=(vX (env:=env) (x:=n.str) scope.names).trans (by rw[ok.loc];rfl)
 refine wpAny_assign_Name (wpAny_storeName_local (s:={s with heap:=h1,toks:=tk}) hk hm (fun h2 n2 b2=> ?_) ?_)
 ·have k2: ∀b o,b∉[Ca]→h1.get? b=some o→h2.get? b=some o:=fun b o nb e=>(b2.2 b (fun q=>nb (q▸ .head _))).trans e
  have I2:=I1.chg (tk:=tk+1) (ch:=[Ca]) (fun b hb=>by rw[List.mem_singleton.mp hb];exact .head _) k2 (fun b hb=>by
   rw[List.mem_singleton.mp hb]
   refine g9 n2 fun o _ _ ho _=> ?_
   exact(congrArg Option.isSome ho).trans rfl) (Dw.jS _ _ _ a1 fun b hb o e=>k2 b o (fun q=>ap.Cf (List.mem_singleton.mp q▸hb)) e) ⟨_,n2⟩ ⟨eH,c,k2 _ _ (fun q=>ap.CD (List.mem_singleton.mp q).symm) (k1 _ _ ap.Df hD),rD⟩
  exact hQ _ (I2.S.comp ok (I.side _ (.head _)).1.1 n2 (if_pos rfl) rv) I2
 ·have:(relabel scope env).kind= .function:=ok.kind
  show((relabel scope env).kind== .class||((relabel scope env).kind== .module&&_))=false
  rw[this];rfl
theorem IT(I:fj W env fs aO ax l fp At aD Ca D i ρ h acc s){it:Value}(Dw:dJ W C A it fp At src vs aD)(ap:jT Ca D fp){y:V}{y':Value}(ry:VR W ρ y y')(hz:acc.length≤aU)
 {Q:Value→Shared→Prop} (hQ: ∀v s',fj W env fs aO ax l fp At aD Ca D i ρ h (acc++[y]) s'→Q v s'):wpAny (model W.prog W.w) A (call (.builtin "list.append") [.ref D,y']) Q E s:=by
 refine cQ I.D fun eH c hD rD=> ?_
 refine call_meets F.slot_list_append (Heap.IsList.typeIs ⟨_,hD,rfl,c,rfl⟩) F.entry_list_append (F.args_list_append_2 _ _) (AutoListH.list_append_list_val_0 D eH c y' (show eH.size≤_ from(show acc.length=eH.size from rD.len)▸hz)) ⟨hD,?_⟩
 have hg:=get?_update_seq (c:= "list") hD (fun x=>x.push y')
 have k2: ∀b o,b∉[D]→s.heap.get? b=some o→(s.heap.update D (Obj.mapSeq fun x=>x.push y')).get? b=some o:=fun b o nb e=>(Heap.get?_update_other _ _ (fun q:D=b=>nb (q▸ .head _))).trans e
 exact hQ _ _ (I.chg (ch:=[D]) (fun b hb=>by rw[List.mem_singleton.mp hb];exact .tail _ (.head _)) k2 (fun b hb=>by rw[List.mem_singleton.mp hb,hg];rfl) (Dw.jS _ _ _ I.at_ fun b hb o e=>k2 b o (fun q=>ap.Df (List.mem_singleton.mp q▸hb)) e)
  (Ns.keep I.ns fun o e=>k2 _ _ (fun q=>ap.CD (List.mem_singleton.mp q)) e) ⟨eH.push y',_,hg,by rw[Array.toList_push];exact rD.app ⟨ry,trivial⟩⟩)
end
section
variable{prog:Program}{w:World}{W:Wd}{mg mb:Str→Option Value}{C:Cx}{env:Env}{fs:List Env}{ρ ag aD bZ aO:au}{l:L}{h h' bF hf:H}{s s' ai bj ax:Shared}{A:Around}{k:Nat}{E:Value→Shared→Prop}{fp:List Addr}
 {el:V→H→Option (V×H)} {cd:V→H→Option (Bool×H)} {src:Option V} {vs ys acc:List V} {At:Nat→Heap→Prop} {Ca D:Addr} {i:Nat} {scope:Scope} {n:Nm}
theorem IU{it:It}{e:PySem.Expr}(env:Env)(x:Value):foldedSetIterable (gM it e) env x=pure x:=by
 cases it with
 |val y=>cases y<;>exact rfl
 |_=>exact rfl
theorem s0{sc:Scope}{it:It}{e:PySem.Expr}(r:jL sc it e)(env:Env)(x:Value):foldedSetIterable e env x=pure x:=r.1▸IU env x
noncomputable def kT(W:Wd)(C:Cx)(env:Env)(fs:List Env)(aO:au)(ax:Shared)(l:L)(el:V→H→Option (V×H))(cd:V→H→Option (Bool×H))(src:Option V)(vs ys:List V)(hf:H)(fp:List Addr)(At:Nat→Heap→Prop)(aD:au)(Ca D:Addr)(num:Nat)(s:Shared):Prop:=
 ∃i ρ h acc,num=vs.length-i∧i≤vs.length∧fj W env fs aO ax l fp At aD Ca D i ρ h acc s∧cq C el cd src vs (vs.drop i) acc.reverse h=some (ys,hf)
noncomputable def qE(W:Wd)(env:Env)(fs:List Env)(aO:au)(ax:Shared)(l:L)(n:Nat)(ys:List V)(hf:H)(fp:List Addr)(At:Nat→Heap→Prop)(aD:au)(Ca D:Addr)(R:Result→Shared→Prop):Prop:=
 ∀ρ s',fj W env fs aO ax l fp At aD Ca D n ρ hf ys s'→ ∀h' tk,(∀b o,b∉fp→s'.heap.get? b=some o→h'.get? b=some o)→R (.ok .next) {s' with heap:=h',toks:=tk}
theorem Aq{it:Value}(Dw:dJ W C A it fp At src vs aD)(ok:my env scope n)(ap:jT Ca D fp){p:Pos}{num:Nat}{R:Result→Shared→Prop}{Q:Unit→Shared→Prop}(hR:qE W env fs aO ax l vs.length ys hf fp At aD Ca D R)(I:kT W C env fs aO ax l el cd src vs ys hf fp At aD Ca D num s)
 (hQ: ∀i v ρ h acc s',i<vs.length→num=vs.length-i→ah W (compEnvC scope (cW scope env) Ca env) fs ρ (l.set n v) h s'→fj W env fs aO ax l fp At aD Ca D (i+1) ρ h acc s'→cq C el cd src vs (v::vs.drop (i+1)) acc.reverse h=some (ys,hf)→Q () s'):
 wpAny (model W.prog W.w) A (pyNext it) (fun r ai=>match r with
  |none=>R (.ok .next) ai
  |some v=>wpAny (model W.prog W.w) A (letOwnedTupleGo (.Name n.str p) it v) (fun _ ax=>wpAny (model W.prog W.w) A (assign (.Name n.str p) (compEnvC scope (cW scope env) Ca env) v) Q E ax) E ai) E s:=by
 refine uM I fun i ρ h acc en le I go=> ?_
 have hl:=IP go
 by_cases hi:i<vs.length
 ·rw[List.drop_eq_getElem_cons hi]at go
  exact IS I hl ok Dw ap (List.getElem?_eq_getElem hi) fun s' Sc I'=>hQ i vs[i] ρ h acc s' hi en Sc I' go
 ·have ei:i=vs.length:=Nat.le_antisymm le (Nat.le_of_not_lt hi)
  rw[ei,List.drop_length]at go
  refine mF go fun _ e=>Dw.fin I.S I.sZ hl I.at_ (List.getElem?_eq_none_iff.mpr (Nat.le_of_not_lt hi)) fun h' tk k1=> ?_
  rw[List.reverse_reverse]at e
  subst ei
  exact hR ρ s (SP (P:=fun ys hf=>fj W env fs aO ax l fp At aD Ca D vs.length ρ hf ys s) e I) h' tk k1
theorem Ar{e:X}(he:aG W C k e)(a:b6 A fs k){ae:PySem.Expr}{it:Value}(Dw:dJ W C A it fp At src vs aD)(ap:jT Ca D fp)(hz:ys.length≤aU)(rep:cN (l7 env.scope scope) e ae){v y:V}{h2:H}(hi:i<vs.length)
 (Sc:ah W (compEnvC scope (cW scope env) Ca env) fs ρ (l.set n v) h s) (I:fj W env fs aO ax l fp At aD Ca D (i+1) ρ h acc s) (e2:ev C (l.set n v) e h=some (y,h2)) (go:cq C el cd src vs (vs.drop (i+1)) (y::acc.reverse) h2=some (ys,hf)):
 wpAny (model W.prog W.w) A (eval ae (compEnvC scope (cW scope env) Ca env)) (fun y' s1=>wpAny (model W.prog W.w) A (call (.builtin "list.append") [.ref D,y']) (fun _ s'=> ∃m',m'<vs.length-i∧kT W C env fs aO ax l el cd src vs ys hf fp At aD Ca D m' s') E s1) E s:=
 he (env:=compEnvC scope (cW scope env) Ca env) rep e2 Sc a fun y' s2 aZ S2 X2 ry=>IT (I.ext Dw S2 X2) Dw ap ry (Nat.le_trans (Nat.le_of_succ_le (List.length_reverse (as:=acc)▸IQ go)) hz) fun v s' I'=>
  ⟨vs.length-(i+1),Nat.sub_succ_lt_self _ _ hi,i+1,aZ,h2,acc++[y],rfl,hi,I',by rw[List.reverse_append];exact go⟩
theorem As{e:X}(he:aG W C k e)(a:b6 A fs k)(ok:my env scope n){ae wb:PySem.Expr}{pn pos:Pos}{it:Value}(Dw:dJ W C A it fp At src vs aD)(ap:jT Ca D fp)(hz:ys.length≤aU){num:Nat}
 (rep:cN (l7 env.scope scope) e ae) {R:Result→Shared→Prop} (hR:qE W env fs aO ax l vs.length ys hf fp At aD Ca D R) (I:kT W C env fs aO ax l (fun v=>ev C (L.set l n v) e) (fun _ h=>some (true,h)) src vs ys hf fp At aD Ca D num s):
 codeAny (model W.prog W.w) A (.compLoop (.ListComp ae [⟨.Name n.str pn,wb,[],0⟩] scope pos) 0 it (.ref D) (compEnvC scope (cW scope env) Ca env)) R s:=
 kcp_loop (kT W C env fs aO ax l (fun v=>ev C (L.set l n v) e) (fun _ h=>some (true,h)) src vs ys hf fp At aD Ca D) (fun num s I=>Aq Dw ok ap hR I fun i v ρ h acc s' hi en Sc I' go=>
  wa go (fun h1 ec y h2 e2 go=>SP (P:=fun b h1=>ev C (L.set l n v) e h1=some (y,h2)→_) ec (fun e2=>en▸Ar he a Dw ap hz rep hi Sc I' e2 go) e2) fun h1 ec _=>nope (congrArg Prod.fst (Option.some.inj ec)).symm) num I
theorem Au{e:X}{c:CC.Q}(he:aG W C k e)(hc:gq W C k c)(a:b6 A fs k)(ok:my env scope n){ae ac wb:PySem.Expr}{pn pos:Pos}{it:Value}(Dw:dJ W C A it fp At src vs aD)(ap:jT Ca D fp)(hz:ys.length≤aU){num:Nat}
 (rep:cN (l7 env.scope scope) e ae) (Av:qh (l7 env.scope scope) c ac) {R:Result→Shared→Prop} (hR:qE W env fs aO ax l vs.length ys hf fp At aD Ca D R) (I:kT W C env fs aO ax l (fun v=>ev C (L.set l n v) e) (fun v=>te C (L.set l n v) c) src vs ys hf fp At aD Ca D num s):
 codeAny (model W.prog W.w) A (.compLoop (.ListComp ae [⟨.Name n.str pn,wb,[ac],0⟩] scope pos) 0 it (.ref D) (compEnvC scope (cW scope env) Ca env)) R s:=
 kct_loop (kT W C env fs aO ax l (fun v=>ev C (L.set l n v) e) (fun v=>te C (L.set l n v) c) src vs ys hf fp At aD Ca D) (fun num s I=>Aq Dw ok ap hR I fun i v ρ h acc s' hi en Sc I' go=>
  wa go (fun h1 ec y h2 e2 go=>hc (env:=compEnvC scope (cW scope env) Ca env) Av ec Sc a fun s1 aQ tc Xc=>en▸Ar he a Dw ap hz rep hi tc (I'.ext Dw tc Xc) e2 go)
   fun h1 ec go=>hc (env:=compEnvC scope (cW scope env) Ca env) Av ec Sc a fun s1 aQ tc Xc=>⟨vs.length-(i+1),en▸Nat.sub_succ_lt_self _ _ hi,i+1,aQ,h1,acc,rfl,hi,I'.ext Dw tc Xc,go⟩) num I
noncomputable def td(W:Wd)(env:Env)(fs:List Env)(ρ:au)(s:Shared)(l:L)(ys:List V)(hf:H)(A:Around)(E:Value→Shared→Prop)(mz:Option (Value→Sem Unit))(Q:Value→Shared→Prop):Prop:=
 ∀D Ca s' ag,ah W env fs ag l (hf.push (.list ys)) s'→aY env fs ρ s ag s'→VR W ag (.ref hf.n) (.ref D)→dr W env fs ag Ca→s.heap.get? Ca=none→(∃m,s'.heap.Ns Ca m)→compPost (model W.prog W.w) A E mz Q (.ref D) Ca (.ok .next) s'
theorem IV{mz:Option (Value→Sem Unit)}{Q:Value→Shared→Prop}(hz:ys.length≤aU)(ap:jT Ca D fp)(K:td W env fs aO ax l ys hf A E mz Q):qE W env fs aO ax l vs.length ys hf fp At aD Ca D (compPost (model W.prog W.w) A E mz Q (.ref D) Ca):=fun ag s' I h' tk kk=>by
 have S4:=I.S.side (s':={s' with heap:=h',toks:=tk}) (fun b hb=>(I.side b (.tail _ (.tail _ hb))).1.1) kk rfl rfl
 have X4:=I.X.side (s':={s' with heap:=h',toks:=tk}) (fun b hb=>(I.side b (.tail _ (.tail _ hb))).1.2) kk rfl
 refine cQ I.D fun eH c hD rD=> ?_
 have Aw:=kk _ _ ap.Df hD
 refine bn ((I.side D (.tail _ (.head _))).1) fun sD nD=> ?_
 refine bn ((I.side Ca (.head _)).1) fun sC nC=> ?_
 refine lJ (S4.adopt (o:= .list ys) sD (by show(h'.get? _).isSome=true;rw[Aw];rfl) ⟨c,eH,Aw,hz,rD⟩) fun cX S5 Qi IW IX X5=> ?_
 exact K D Ca _ cX S5 (X5 nD X4) ⟨_,_,IW,rfl⟩ ⟨IX _ ap.CD sC.1,sC.2⟩ nC (Ns.keep I.ns (kk _ · ap.Cf))
theorem tf{it:It}(hi:im W C k it)(a:b6 A fs k)(S:ah W env fs ρ l h s)(ok:my env scope n){pn pos:Pos}{ae ie:PySem.Expr}{ifs:List PySem.Expr}{mz:Option (Value→Sem Unit)}{Q:Value→Shared→Prop}
 (Ax:jL env.scope it ie) (IY:iter C l it h=some (vs,src,bF)) (go:cq C el cd src vs vs [] bF=some (ys,hf)) (hz:ys.length≤aU)
 (loop: ∀{Iv fp At aQ Ca D s3 num}{R:Result→Shared→Prop},dJ W C A Iv fp At src vs aQ→jT Ca D fp→qE W env fs ρ s l vs.length ys hf fp At aQ Ca D R→kT W C env fs ρ s l el cd src vs ys hf fp At aQ Ca D num s3→
  codeAny (model W.prog W.w) A (.compLoop (.ListComp ae [⟨.Name n.str pn,ie,ifs,0⟩] scope pos) 0 Iv (.ref D) (compEnvC scope (cW scope env) Ca env)) R s3)
 (K:td W env fs ρ s l ys hf A E mz Q):
 wpAny (model W.prog W.w) A (comprehension (.ListComp ae [⟨.Name n.str pn,ie,ifs,0⟩] scope pos) scope env (firstIterPos [⟨.Name n.str pn,ie,ifs,0⟩] pos) (newList []) (firstAsync [⟨.Name n.str pn,ie,ifs,0⟩]) (firstIter [⟨.Name n.str pn,ie,ifs,0⟩] env) mz) Q E s:=by
 refine wpAny_comprehension_free (g:=⟨.Name n.str pn,ie,ifs,0⟩) (gs:=[]) rfl (s0 Ax env) (IA fun x hx e=> ?_) ok.kind (fun x hx e=>by rw[ok.self x hx,e]) ?_
 ·refine cQ (S.loc.has x.1 (ok.free x hx e)) fun c _ hc _=> ?_
  exact⟨c,hc⟩
 refine hi Ax IY S a fun Iv fp At s1 aQ S1 X1 Dw jf sf=>wpAny_newList (wpAny_newFunctionEnv (fun x hx=>ok.cell x hx) (by intro x hx;cases hx) (fun h2 n2 b2=> ?_) ok.kind) (by decide)
 have wc:=dZ s1.heap
 have tg:(s1.heap.push {cls:= .type "list",data:= .seq ([]:List Value).toArray}).get? s1.heap.objs.size=some {cls:= .type "list",data:= .seq ([]:List Value).toArray}:=Heap.get?_push_size _ rfl
 have k1: ∀b o,s1.heap.get? b=some o→(s1.heap.push {cls:= .type "list",data:= .seq ([]:List Value).toArray}).get? b=some o:=fun b o e=>gu e
 generalize s1.heap.push {cls:= .type "list",data:= .seq ([]:List Value).toArray}=H1 at n2 b2 tg k1
 have qF:H1.get? H1.objs.size=none:=dZ H1
 have k2: ∀b o,H1.get? b=some o→h2.get? b=some o:=fun b o e=>by
  rw[b2.2 b (fun q=>by rw[q,qF]at e;cases e)]
  exact gu e
 have d5:s1.heap.get? H1.objs.size=none:=by
  cases z:s1.heap.get? H1.objs.size with
  |none=>rfl
  |some o=>rw[k1 _ _ z]at qF;cases qF
 have Ay: ∀{b},s1.heap.get? b=none→b∉fp:=fun e hm=>by have:=Dw.has _ _ jf _ hm;rw[e]at this;cases this
 have ap:jT H1.objs.size s1.heap.objs.size fp:=⟨fun e=>(by rw[e,tg]at qF;cases qF),Ay d5,Ay wc⟩
 have k3: ∀b o,s1.heap.get? b=some o→h2.get? b=some o:=fun b o e=>k2 _ _ (k1 _ _ e)
 have I:kT W C env fs ρ s l el cd src vs ys hf fp At aQ H1.objs.size s1.heap.objs.size vs.length {s1 with heap:=h2,toks:=s1.toks+([]:List (Str×Value)).length}:=by
  refine⟨0,aQ,bF,[],rfl,Nat.zero_le _,⟨S1.grow k3 rfl rfl,X1.trans (aY.grow k3 rfl),.refl _,Dw.jS _ _ _ jf fun b hb o e=>k3 _ _ e,fun b hb=> ?_,⟨_,n2⟩,⟨#[],0,k2 _ _ tg,trivial⟩⟩,go⟩
  rcases List.mem_cons.mp hb with rfl|hb
  ·refine g9 n2 fun o _ _ ho _=> ?_
   exact⟨⟨S1.fN d5,kS X1 d5⟩,(congrArg Option.isSome ho).trans rfl⟩
  ·rcases List.mem_cons.mp hb with rfl|hb
   ·exact⟨⟨S1.fN wc,kS X1 wc⟩,(congrArg Option.isSome (k2 _ _ tg)).trans rfl⟩
   ·refine br (Option.isSome_iff_exists.mp (Dw.has _ _ jf b hb)) fun o ho=> ?_
    exact⟨sf b hb,(congrArg Option.isSome (k3 _ _ ho)).trans rfl⟩
 have done:=loop Dw ap (IV hz ap K) I
 refine uM I fun _ _ _ _ _ _ I _=> ?_
 exact codeAny_compStart_list done (Dw.again (Dw.jS _ _ _ jf fun b hb o e=>k3 _ _ e) done)
theorem Az{Q:Value→Shared→Prop}(g:Got W env fs l ρ s (.ref hf.n) (hf.push (.list ys)) Q):td W env fs ρ s l ys hf A E none Q:=fun D Ca s' ag S' X' rD hC hn hm=>by
 refine br hm fun m hm=> ?_
 refine⟨m,hm,fun h4 b4=> ?_⟩
 have kk: ∀b o,b∉[Ca]→s'.heap.get? b=some o→h4.get? b=some o:=fun b o nb e=>(b4.2 b (fun q=>nb (q▸ .head _))).trans e
 exact g _ _ ag (S'.side (s':={s' with heap:=h4}) (fun b hb=>List.mem_singleton.mp hb▸hC) kk rfl rfl) (X'.side (s':={s' with heap:=h4}) (fun b hb=>List.mem_singleton.mp hb▸hn) kk rfl) rD
theorem th{P:Prop}{x:Option (List V×H)}{r:V×H}(e:(x.bind fun p=>cy p.2 p.1)=some r)(k: ∀ys h,x=some (ys,h)→ys.length≤aU→some (V.ref h.n,h.push (.list ys))=some r→P):P:=mB e fun p e1 e2=>mF e2 fun q e3=>k p.1 p.2 e1 q e3
theorem IZ{e:X}{it:It}(hi:im W C k it)(he:aG W C k e):aG W C k (.comp e n it):=fun{env ex l h h' v} r e1=>Jx.of r (m3 e1 fun vs src h1 e2 e3=>th e3 fun ys h2 e4 hz e5 fs ρ s A E Q S a g=>
 tf hi a S (kQ (T2 r.2)) (.mk (congrArg (ad · 1) r.1) (T1 (T1 r.2))) e2 e4 hz (fun Dw ap hR I=>As he a (kQ (T2 r.2)) Dw ap hz (.mk (congrArg (ad · 0) r.1) (T2 (T1 r.2))) hR I) (Az (g.of e5)))
theorem I0{e:X}{it:It}{c:CC.Q}(hi:im W C k it)(he:aG W C k e)(hc:gq W C k c):aG W C k (.iT e n it c):=fun{env ex l h h' v} r e1=>Jx.of r (m3 e1 fun vs src h1 e2 e3=>th e3 fun ys h2 e4 hz e5 fs ρ s A E Q S a g=>
 tf hi a S (kQ (T2 (T1 r.2))) (.mk (congrArg (ad · 1) r.1) (T1 (T1 (T1 r.2)))) e2 e4 hz (fun Dw ap hR I=>Au he hc a (kQ (T2 (T1 r.2))) Dw ap hz (.mk (congrArg (ad · 0) r.1) (T2 (T1 (T1 r.2)))) (.mk (congrArg (ad · 3) r.1) (T2 r.2)) hR I) (Az (g.of e5)))
end
set_option backward.match.sparseCases true
noncomputable def we(W:Wd)(k:Nat)(env:Env)(aI:List Keyword)(l:L)(h:H)(vs:List V)(h':H):Prop:= ∀⦃pos:Pos⦄⦃fs:List Env⦄⦃ρ:au⦄⦃s:Shared⦄⦃A:Around⦄⦃E:Value→Shared→Prop⦄⦃Q:List Value→Shared→Prop⦄,
 ah W env fs ρ l h s→b6 A fs k→jN W env fs l ρ s vs h' Q→wpAny (model W.prog W.w) A (evalAll ((backToKw pos (keywordEach aI env)).map (·.2))) Q E s
noncomputable def jg(W:Wd)(C:Cx)(k:Nat)(xs:XS):Prop:= ∀{env:Env}{aI:List Keyword}{ks:List Nm}{l:L}{h h':H}{vs:List V},hZ env.scope xs [] aI ks→cz C l xs h=some (vs,h')→we W k env aI l h vs h'
noncomputable def mE(W:Wd)(env:Env)(fs:List Env)(l:L)(ρ:au)(s:Shared)(vs:List V)(n:Nat)(h':H)(Q:List Value→List Value→Shared→Prop):Prop:= ∀ps qs s' ag,ah W env fs ag l h' s'→aY env fs ρ s ag s'→bo W ag vs (ps++qs)→qs.length=n→Q ps qs s'
noncomputable def AA(W:Wd)(k:Nat)(env:Env)(as:List PySem.Expr)(aI:List Keyword)(n:Nat)(l:L)(h:H)(vs:List V)(h':H):Prop:= ∀⦃pos:Pos⦄⦃fs:List Env⦄⦃ρ:au⦄⦃s:Shared⦄⦃A:Around⦄⦃E:Value→Shared→Prop⦄⦃Q:List Value→List Value→Shared→Prop⦄,
 ah W env fs ρ l h s→b6 A fs k→mE W env fs l ρ s vs n h' Q→
 wpAny (model W.prog W.w) A (spliced (backTo pos (starEach as env))) (fun ps ai=>wpAny (model W.prog W.w) A (evalAll ((backToKw pos (keywordEach aI env)).map (·.2))) (fun qs bj=>Q ps qs bj) E ai) E s
noncomputable def jU(W:Wd)(C:Cx)(k:Nat)(xs:XS):Prop:= ∀{env:Env}{as:List PySem.Expr}{aI:List Keyword}{ks:List Nm}{l:L}{h h':H}{vs:List V},hZ env.scope xs as aI ks→cz C l xs h=some (vs,h')→AA W k env as aI ks.length l h vs h'
section
variable{prog:Program}{w:World}{W:Wd}{mg mb:Str→Option Value}{C:Cx}{env:Env}{fs:List Env}{ρ ag aD bZ aO:au}{l:L}{h h' bF hf:H}{s s' ai bj ax:Shared}{A:Around}{k:Nat}{E:Value→Shared→Prop}{sc:Scope}
theorem jN.of {v a:List V} {b:H} {Q:List Value→Shared→Prop} (g:jN W env fs l ρ s v h' Q) (e:some (a,b)=some (v,h')):jN W env fs l ρ s a b Q:=SP (P:=fun v h'=>jN W env fs l ρ s v h' Q→jN W env fs l ρ s a b Q) e id g
theorem mE.of {v a:List V} {b:H} {n:Nat} {Q:List Value→List Value→Shared→Prop} (g:mE W env fs l ρ s v n h' Q) (e:some (a,b)=some (v,h')):mE W env fs l ρ s a n b Q:=SP (P:=fun v h'=>mE W env fs l ρ s v n h' Q→mE W env fs l ρ s a n b Q) e id g
theorem wf{as:List PySem.Expr}{aI:List Keyword}{ks:List Nm}(r:hZ sc .nil as aI ks){P:List PySem.Expr→List Keyword→List Nm→Prop}(k:P [] [] []):P as aI ks:=by
 obtain⟨⟨r1,r2⟩,r3⟩:=r
 induction ks with
 |nil=>exact r1▸r2▸k
 |cons _ _=>exact nope r3
theorem AC{x:X}{xs:XS}{a:PySem.Expr}{as:List PySem.Expr}{aI:List Keyword}{ks:List Nm}(r:hZ sc (.cons x xs) (a::as) aI ks):cN sc x a∧aW a=true∧hZ sc xs as aI ks:=
 ⟨⟨congrArg dY r.1.1,T1 (T1 r.2)⟩,T2 (T1 r.2),⟨congrArg List.tail r.1.1,r.1.2⟩,T2 r.2⟩
theorem AD{x:X}{xs:XS}{aI:List Keyword}{ks:List Nm}(r:hZ sc (.cons x xs) [] aI ks){P:List Keyword→List Nm→Prop}(k: ∀n a p aI ks,cN sc x a→hZ sc xs [] aI ks→P (⟨some n.str,a,p⟩::aI) (n::ks)):P aI ks:=by
 obtain⟨⟨_,r2⟩,r3⟩:=r
 induction ks with
 |nil=>exact nope (T1 (T1 r3))
 |cons n ks=>induction aI with
  |nil=>cases r2
  |cons kw aI=>
   obtain⟨ar,v,p⟩:=kw
   have e:=(List.cons.inj r2).1
   have e1:some n.str=ar:=congrArg Keyword.arg e
   subst e1
   have z:hV xs []=[]:=by cases xs<;>rfl
   exact k n v p aI ks ⟨congrArg Keyword.value e,T2 (T1 r3)⟩ ⟨⟨z,(List.cons.inj r2).2⟩,T2 r3⟩
theorem I3:jg W C k .nil:=fun r e1=>wf r (P:=fun _ aI _=>we W k _ aI _ _ _ _) fun _ _ _ _ _ _ _ S a g=>wpAny_pure (g.of e1 [] _ _ S .refl trivial)
theorem AE{x:X}{xs:XS}(hx:aG W C k x)(hs:jg W C k xs):jg W C k (.cons x xs):=fun{env aI ks l h h' vs} r e1=>AD r (P:=fun aI _=>we W k env aI l h vs h') fun n b p aI ks rx rs=>mA e1 fun v h1 e2 e3=>mL e3 fun us h2 e4 e5=>
 fun _ _ _ _ _ _ _ S a g=>wpAny_bind (wpAny_bind (hx rx e2 S a fun v1 s1 aQ S1 X1 q1=>wpAny_bind (wpAny_standAt (wpAny_pure
  (wpAny_bind (wpAny_holding (hs rs e4 S1 a fun us s2 aZ S2 X2 q2=>wpAny_pure (g.of e5 _ s2 aZ S2 (X1.trans X2) ⟨q1.mono X2.le,q2⟩))))))))
noncomputable def qG:XS→Nat
 | .nil=>0
 | .cons _ xs=>qG xs+1
theorem wg: ∀{xs:XS}{h h':H}{vs:List V},cz C l xs h=some (vs,h')→vs.length=qG xs
 | .nil,_,_,_,e=>SP (P:=fun vs _=>List.length vs=0) e rfl
 | .cons x xs,_,_,_,e=>mA e fun _ _ _ e=>mL e fun us _ e2 e3=>SP (P:=fun vs _=>List.length vs=qG xs+1) e3 (congrArg (·+1) (wg e2))
theorem oJ: ∀{xs:XS}{as:List PySem.Expr}{aI:List Keyword}{ks:List Nm},hZ sc xs as aI ks→d4 as=true∧aI.map (·.arg)=ks.map (fun n=>some n.str)∧qG xs=as.length+ks.length
 | .nil,_,_,_,r=>wf r (P:=fun as aI ks=>d4 as=true∧aI.map (·.arg)=ks.map (fun n=>some n.str)∧0=as.length+ks.length) ⟨rfl,rfl,rfl⟩
 | .cons x xs,a::as,aI,ks,r=>
  have z:=AC r
  have i:=oJ z.2.2
  ⟨by rw[d4,z.2.1,i.1];rfl,i.2.1,(congrArg (·+1) i.2.2).trans (Nat.succ_add _ _).symm⟩
 | .cons x xs,[],_,_,r=>AD r (P:=fun aI ks=>d4 []=true∧aI.map (·.arg)=ks.map (fun n=>some n.str)∧qG xs+1=0+ks.length) fun n a p aI ks _ rs=>
  have i:=oJ rs
  ⟨rfl,congrArg (some n.str::·) i.2.1,congrArg (·+1) i.2.2⟩
theorem I4:jU W C k .nil:=fun r e1=>wf r (P:=fun as aI ks=>AA W k _ as aI ks.length _ _ _ _) fun _ _ _ _ _ _ _ S a g=>spliced_none (wpAny_pure (g.of e1 [] [] _ _ S .refl trivial rfl))
theorem I5{x:X}{xs:XS}(hx:aG W C k x)(hs:jU W C k xs)(hk:jg W C k (.cons x xs)):jU W C k (.cons x xs):=fun{env as aI ks l h h' vs} r e1=>match as,r with
 |[],r=>fun _ _ _ _ _ _ _ S a g=>spliced_none (hk r e1 S a fun qs s' ag S' X' q=>g [] qs s' ag S' X' q (q.len.symm.trans ((wg e1).trans ((oJ r).2.2.trans (Nat.zero_add _)))))
 |b::bs,r=>mA e1 fun v h1 e2 e3=>mL e3 fun us h2 e4 e5=>
  have z:=AC r
  fun _ _ _ _ _ _ _ S a g=>spliced_more (hx z.1 e2 S a fun v1 s1 aQ S1 X1 q1=>hs z.2.2 e4 S1 a fun ps qs s2 aZ S2 X2 q2 hq=>g.of e5 (v1::ps) _ s2 aZ S2 (X1.trans X2) ⟨q1.mono X2.le,q2⟩ hq) (jc z.2.1 _ _)
theorem tl{pos:Pos}{env:Env}: ∀{aI:List Keyword}{ks:List Nm},aI.map (·.arg)=ks.map (fun n=>some n.str)→
 (backToKw pos (keywordEach aI env)).all (·.1.isSome)=true∧(backToKw pos (keywordEach aI env)).any (·.1.isNone)=false∧(backToKw pos (keywordEach aI env)).filterMap (·.1)=ks.map Nm.str
 |[],[],_=>⟨rfl,rfl,rfl⟩
 |[],_::_,e=>by cases e
 |_::_,[],e=>by cases e
 |⟨nm,v,p⟩::aI,n::ks,e=>by
  simp only[List.map_cons,List.cons.injEq]at e
  obtain⟨e1,e2⟩:=e
  subst e1
  refine cH (tl (pos:=pos) (env:=env) e2) fun i1 i2 i3=> ?_
  refine⟨?_,?_,?_⟩
  ·show(true&&_)=true
   rw[Bool.true_and];exact i1
  ·show(false||_)=false
   rw[Bool.false_or];exact i2
  ·show n.str::_=_
   exact congrArg (n.str::·) i3
noncomputable def I6(W:Wd)(env:Env)(fs:List Env)(l:L)(ρ:au)(s:Shared)(vs:List V)(ks:List Nm)(h':H)(Q:Args→Shared→Prop):Prop:=
 ∀ps qs s' ag,ah W env fs ag l h' s'→aY env fs ρ s ag s'→bo W ag (split vs ks).1 ps→bo W ag ((split vs ks).2.map (·.2)) qs→Q ⟨ps,((split vs ks).2.map (·.1.str)).zip qs⟩ s'
theorem I7{vs:List V}{ks:List Nm}{ps qs:List Value}(r:bo W ρ vs (ps++qs))(hq:qs.length=ks.length):bo W ρ (split vs ks).1 ps∧bo W ρ ((split vs ks).2.map (·.2)) qs∧(split vs ks).2.map (·.1.str)=ks.map Nm.str:=by
 have hl:vs.length=ps.length+qs.length:=r.len.trans List.length_append
 have e:vs.length-ks.length=ps.length:=by rw[hl,hq];exact Nat.add_sub_cancel _ _
 have r1:=r.take (vs.length-ks.length)
 have r2:=r.drop (vs.length-ks.length)
 rw[e,List.take_left]at r1
 rw[e,List.drop_left]at r2
 have z:ks.length=(vs.drop ps.length).length:=by rw[r2.len,hq]
 refine⟨?_,?_,?_⟩
 ·show bo W ρ (vs.take (vs.length-ks.length)) ps
  rw[e];exact r1
 ·show bo W ρ ((ks.zip (vs.drop (vs.length-ks.length))).map _) qs
  rw[e,List.map_snd_zip (Nat.le_of_eq z.symm)];exact r2
 ·show(ks.zip (vs.drop (vs.length-ks.length))).map _=_
  rw[e,show(fun(x:Nm×V)=>x.1.str)=Nm.str∘Prod.fst from rfl,←List.map_map,List.map_fst_zip (Nat.le_of_eq z)]
theorem AF{xs:XS}(hp:jU W C k xs)(io:jg W C k xs){as:List PySem.Expr}{aI:List Keyword}{ks:List Nm}{pos:Pos}{f:Value}{vs:List V}{Q:Args→Shared→Prop}(rep:hZ env.scope xs as aI ks)(S:ah W env fs ρ l h s)(a:b6 A fs k)(e1:cz C l xs h=some (vs,h'))
 (g:I6 W env fs l ρ s vs ks h' Q):wpAny (model W.prog W.w) A (evalArgs f true (backTo pos (starEach as env)) (backToKw pos (keywordEach aI env))) Q E s:=by
 refine cH (oJ rep) fun l1 l2 l3=> ?_
 refine cH (tl (pos:=pos) (env:=env) l2) fun k1 k2 k3=> ?_
 have fin:mE W env fs l ρ s vs ks.length h' fun ps qs s'=>Q ⟨ps,((backToKw pos (keywordEach aI env)).filterMap (·.1)).zip qs⟩ s':=fun ps qs s' ag S' X' r hq=>by
  refine cH (I7 r hq) fun z1 z2 z3=> ?_
  rw[k3,←z3]
  exact g ps qs s' ag S' X' z1 z2
 induction as with
 |nil=>exact evalArgs_kw2_nil k1 (io rep e1 S a fun qs s' ag S' X' r=>fin [] qs s' ag S' X' r (r.len.symm.trans ((wg e1).trans (l3.trans (Nat.zero_add _)))))
 |cons b bs=>exact evalArgs_kw2 k1 (hp rep e1 S a fin) (jc (T1 l1) _ _)
theorem gp.after {r:CR} {R:Result→Shared→Prop} (g:gp W env fs l ρ s r h' R) (X:aY env fs ρ s aD ai):gp W env fs l aD ai r h' R:=by
 induction r with
 |ret v=>exact Got.after g X
 |exc c=>exact fun e s' ag S' X' x=>g e s' ag S' (X.trans X') (x.after X.de)
noncomputable def qH(M:Model)(f:Value)(hp:Heap):Prop:= ∃k,(k=Keeper.frame∨k=Keeper.machine∨k=Keeper.boundFrame)∧Looks M hp (keeperOf f) k
theorem I8{a:Addr}{vs:List Value}{kw:List (Str×Value)}:(Code.builtin "type.__call__" ⟨.ref a::vs,kw⟩).weight=1∧(Code.builtin "type.__call__" ⟨.ref a::vs,kw⟩).envs=[]∧(Code.builtin "type.__call__" ⟨.ref a::vs,kw⟩).cUnits=1:=by
 refine⟨by kernel_rfl,by kernel_rfl,by kernel_rfl⟩
noncomputable def I9(W:Wd)(A:Around)(s:Shared)(R:Result→Shared→Prop)(f':Value)(vs:List Value)(kw:List (Str×Value)):Prop:=qH (model W.prog W.w) f' s.heap∧codeAny (model W.prog W.w) A (.call f' ⟨vs,kw⟩) R s
theorem Ja(O:aN W mg mb)(CO:bq W C k){xs:List V}{ks:List (Nm×V)}{h2:H}(e:C.call .fD (.ref h.n::xs) ks (h.push (.inst .ao []))=some (.ret .none,h2))(S:ah W env fs ρ l h s)(a:b6 A fs k){vs kvs:List Value}(rv:bo W ρ xs vs)(rk:bo W ρ (ks.map (·.2)) kvs)
 {R:Result→Shared→Prop} (g:gp W env fs l ρ s (.ret (.ref h.n)) h2 R):codeAny (model W.prog W.w) A (.call (.ref (W.bc .ao)) ⟨vs,(ks.map (·.1.str)).zip kvs⟩) R s:=by
 obtain⟨hh,gn,d,t,os⟩:=s
 refine make_core (makes_of (S.K O) O.zR) (looks_findIn (S.K O) (O.sT .hJ .fD rfl)) (fun self=>bind_fn (S.K O) self (beq_iff_eq.mp (O.sU _))) (.inl rfl) ?_
 have hd:((hh.push emptyDict).push (instObj (W.bc .ao) hh.objs.size)).get? hh.objs.size=some (dictOf [] 0):=gu (Heap.get?_push_size _ rfl)
 have hx:((hh.push emptyDict).push (instObj (W.bc .ao) hh.objs.size)).get? (hh.objs.size+1)=some (instObj (W.bc .ao) hh.objs.size):=by heap_get
 refine ck (S.push (o:= .inst .ao []) (a:=hh.objs.size+1) (dx:=hh.objs.size) (s':=⟨(hh.push emptyDict).push (instObj (W.bc .ao) hh.objs.size),gn,d,t,os⟩)
  (fun b o e=>gu (gu e)) rfl rfl (vQ _) (dZ _) ((congrArg Option.isSome hx).trans rfl) ((congrArg Option.isSome hd).trans rfl) ⟨[],0,hx,hd,Nat.succ_ne_self _,Nat.zero_le _,trivial⟩) fun aQ S1 X1 AG=> ?_
 refine cH (I8 (a:=W.bc .ao) (vs:=vs) (kw:=(ks.map (·.1.str)).zip kvs)) fun u1 u2 u3=> ?_
 have aC:vD (A.under (.builtin "type.__call__" ⟨.ref (W.bc .ao)::vs,(ks.map (·.1.str)).zip kvs⟩)) fs k:=by
  refine⟨a.hd,?_,?_,?_⟩
  ·simp only[Around.under,u2]
   exact a.fr
  ·simp only[Around.under,u1]
   have:=a.dp
   trace"caABp20ma850klApB20ma15ka850kli this"
  ·simp only[Around.under,u3]
   have:=a.un
   trace"caABp200ma9000klApB200ma150ka9000kli this"
 exact CO.call (vs:= .ref (hh.objs.size+1)::vs) e S1 aC ⟨⟨_,_,AG,rfl⟩,rv.mono X1.le⟩ (rk.mono X1.le) fun v s2 aZ S2 X2 q2=>⟨q2,g _ _ aZ S2 (X1.trans X2) ⟨_,_,X2.le _ _ AG,rfl⟩⟩
theorem gp.of {r r':CR} {b:H} {R:Result→Shared→Prop} (g:gp W env fs l ρ s r h' R) (e:some (r',b)=some (r,h')):gp W env fs l ρ s r' b R:=SP (P:=fun r h'=>gp W env fs l ρ s r h' R→gp W env fs l ρ s r' b R) e id g
theorem Jb{P:Prop}{f:V}{xs:List V}{ks:List (Nm×V)}{r:CR×H}(e:C.go f xs ks h=some r)(k1: ∀g,f= .fn g→C.call g xs ks h=some r→P)(k2: ∀i g self,f= .ref i→h.o i=some (.bg g self)→C.call g (self::xs) ks h=some r→P)
 (k3:f= .cls .ao→ ∀h2,C.call .fD (.ref h.n::xs) ks (h.push (.inst .ao []))=some (.ret .none,h2)→some (.ret (.ref h.n),h2)=some r→P):P:=by
 induction f with
 |fn g=>exact k1 g rfl e
 |ref i=>exact FG e fun g self e1 e2=>k2 i g self rfl e1 e2
 |cls c=>
  induction c with
  |ao=>exact FH e (k3 rfl)
  |_=>exact none_ne e
 |_=>exact none_ne e
theorem AH(O:aN W mg mb)(CO:bq W C k){f:V}{xs:List V}{ks:List (Nm×V)}{r:CR}(hb:C.go f xs ks h=some (r,h'))(S:ah W env fs ρ l h s)(a:b6 A fs k){f':Value}{vs kvs:List Value}(rf:VR W ρ f f')(rv:bo W ρ xs vs)(rk:bo W ρ (ks.map (·.2)) kvs)
 {R:Result→Shared→Prop} (g:gp W env fs l ρ s r h' R):I9 W A s R f' vs ((ks.map (·.1.str)).zip kvs):=
 Jb hb (fun f e hb=>(show f'= .ref (W.fL f)from(e▸rf:VR W ρ (.fn f) f'))▸⟨keeps_K (O.zP f) _ (S.K O),CO.call hb S a.call rv rk g⟩)
  (fun i f self e e2 qz=>by
   subst e
   obtain⟨p,dx,cC,v,ho,hv⟩:=S.objs _ _ e2
   refine cQ rf fun p' _ q e3=> ?_
   have q3:p=p':=congrArg Prod.fst (Option.some.inj (cC.symm.trans q))
   subst e3 q3
   exact⟨keeps_M (O.zO f) _ ⟨ho,S.K O⟩,method_call ho (CO.call (vs:=v::vs) qz S a.call ⟨hv,rv⟩ rk g)⟩)
  fun e h2 hb e2=>(show f'= .ref (W.bc .ao)from(e▸rf:VR W ρ (.cls .ao) f'))▸⟨keeps_K O.zQ _ (S.K O),Ja O CO hb S a rv rk (g.of e2)⟩
noncomputable def Jr(W:Wd)(k:Nat)(env:Env)(e:PySem.Expr)(l:L)(h:H)(r:CR)(h':H):Prop:= ∀⦃fs:List Env⦄⦃ρ:au⦄⦃s:Shared⦄⦃A:Around⦄⦃E:Value→Shared→Prop⦄⦃Q:Value→Shared→Prop⦄,
 ah W env fs ρ l h s→b6 A fs k→gp W env fs l ρ s r h' (fun r s'=>match r with| .ok (.ret v)=>Q v s'| .ok _=>False| .error e=>E e s')→wpAny (model W.prog W.w) A (eval e env) Q E s
theorem Jr.of {x:X} {e:PySem.Expr} {r:CR} (p:cN sc x e) (j:Jr W k env (aB x e) l h r h'):Jr W k env e l h r h':=p.1▸j
theorem Jc{as:List PySem.Expr}{aI:List Keyword}{pos:Pos}(l1:d4 as=true)(k1:(backToKw pos (keywordEach aI env)).all (·.1.isSome)=true)(h:Nat.ble (as.length+2*aI.length) 20=true):methodCallForm (as.length+aI.length) (backTo pos (starEach as env)) (backToKw pos (keywordEach aI env))=true:=by
 unfold methodCallForm
 rw[Bool.and_eq_true,Bool.and_eq_true]
 refine⟨⟨?_,k1⟩,decide_eq_true (Nat.lt_of_le_of_lt (Nat.add_le_add (Nat.add_le_add_left (Nat.le_mul_of_pos_left aI.length (by decide:0<2)) _) (?_:_≤1)) (Nat.lt_of_le_of_lt (Nat.add_le_add_right (Nat.le_of_ble_eq_true h) 1) (by decide)))⟩
 ·rw[List.all_eq_true]
  intro y hy
  exact(congrArg (!·) (Bool.eq_false_iff.mpr (List.any_eq_false.mp (jQ (pos:=pos) (env:=env) l1) y hy))).trans rfl
 ·split
  ·exact Nat.zero_le 1
  ·exact Nat.le_refl 1
theorem AI{g:PySem.Expr}{as:List PySem.Expr}{aI:List Keyword}{pos:Pos}(h:(!oi g)=true):eval (.Call g as aI pos) env=(do callWith pos (←eval g env) [] (backTo pos (starEach as env)) (backToKw pos (keywordEach aI env))):=by
 cases g with
 |Attribute=>exact nope h
 |_=>exact rfl
theorem AJ(O:aN W mg mb)(CO:bq W C k){f:X}{xs:XS}{ks:List Nm}{fv:V}{vs:List V}{h1 h2 h3:H}{r:CR}(hf:aG W C k f)(hp:jU W C k xs)(io:jg W C k xs){e:PySem.Expr}(rep:cN env.scope (.call f xs ks) e)
 (e1:ev C l f h=some (fv,h1)) (e2:cz C l xs h1=some (vs,h2)) (e3:C.go fv (split vs ks).1 (split vs ks).2 h2=some (r,h3)):Jr W k env e l h r h3:=Jr.of rep fun fs ρ s A E Q S a g=>by
 have rf:cN env.scope f (aB f (ad e 0)):= .mk (congrArg (ad · 0) rep.1) (T1 (T1 (T1 rep.2)))
 have r2:hZ env.scope xs (hV xs (bA e).tail) (hW xs (bA e).tail (eS e) ks) ks:=by
  have q1:hV xs (bA e).tail=(bA e).tail:=congrArg (fun e=>(bA e).tail) rep.1
  have q2:hW xs (bA e).tail (eS e) ks=eS e:=congrArg eS rep.1
  rw[q2,q1];exact⟨⟨q1,q2⟩,T2 (T1 rep.2)⟩
 have ee:eval (.Call (aB f (ad e 0)) (hV xs (bA e).tail) (hW xs (bA e).tail (eS e) ks) e.pos) env=(do callWith e.pos (←eval (aB f (ad e 0)) env) [] (backTo e.pos (starEach (hV xs (bA e).tail) env)) (backToKw e.pos (keywordEach (hW xs (bA e).tail (eS e) ks) env))):=
  AI (TR (f:=fun a=> !oi a) (congrArg (ad · 0) rep.1:aB f (ad e 0)=ad e 0) (T2 (T1 (T1 rep.2))))
 show wpAny _ _ (eval (.Call _ _ _ _) env) _ _ _
 rw[ee]
 refine wpAny_bind (hf rf e1 S a fun f' s1 aQ S1 X1 q1=> ?_)
 refine cH (oJ r2) fun l1 l2 l3=> ?_
 refine cH (tl (pos:=e.pos) (env:=env) l2) fun k1 k2 k3=> ?_
 refine callWith_of (P:=qH (model W.prog W.w) f') (by rw[jQ l1,k2];rfl) (fun _ h=>h) (AF hp io r2 S1 a e2 fun ps qs s2 aZ S2 X2 rp rq=> ?_)
 exact(AH O CO e3 S2 a (q1.mono X2.le) rp rq ((g.after X1).after X2)).imp id wpAny_call
theorem AK(O:aN W mg mb)(CO:bq W C k){x:X}{n:Nm}{xs:XS}{ks:List Nm}{av fv:V}{fst vs:List V}{h1 h2 h3:H}{r:CR}(hx:aG W C k x)(hp:jU W C k xs)(io:jg W C k xs){e:PySem.Expr}(rep:cN env.scope (.bg x n xs ks) e)
 (e1:ev C l x h=some (av,h1)) (ec:gf h1 av n=some (fv,fst)) (e2:cz C l xs h1=some (vs,h2)) (e3:C.go fv (fst++(split vs ks).1) (split vs ks).2 h2=some (r,h3)):Jr W k env e l h r h3:=Jr.of rep fun fs ρ s A E Q S a g=>by
 have q1:hV xs (bA e).tail=(bA e).tail:=congrArg (fun e=>(bA e).tail) rep.1
 have q2:hW xs (bA e).tail (eS e) ks=eS e:=congrArg eS rep.1
 have r2:hZ env.scope xs (hV xs (bA e).tail) (hW xs (bA e).tail (eS e) ks) ks:=by
  rw[q2,q1];exact⟨⟨q1,q2⟩,T2 (T1 rep.2)⟩
 refine cH (oJ r2) fun l1 l2 l3=> ?_
 refine cH (tl (pos:=e.pos) (env:=env) l2) fun k1 k2 k3=> ?_
 refine vT (oD (T2 (T1 (T1 rep.2))) (congrArg (fun e=>ad (ad e 0) 0) rep.1)) (T2 (T2 (T1 (T1 rep.2)))) (Jc l1 k1 (by rw[q2,q1];exact T2 rep.2)) (hx (.mk (congrArg (fun e=>ad (ad e 0) 0) rep.1) (T1 (T1 (T1 rep.2)))) e1 S a fun f' s1 aQ S1 X1 q1 pl=> ?_)
 refine Gz O S1 ec q1 fun Jd vA t rf Je=> ?_
 refine callWith_of (P:=qH (model W.prog W.w) Jd) (by rw[jQ l1,k2];rfl) (fun _ h=>h) (AF hp io r2 (S1.toks t) a e2 fun ps qs s2 aZ S2 X2 rp rq=> ?_)
 exact(AH O CO e3 S2 a (rf.mono X2.le) ((Je.mono X2.le).app rp) rq (((g.after X1).after (aY.toks t)).after X2)).imp id wpAny_call
theorem Jf(O:aN W mg mb)(CO:bq W C k){f:X}{xs:XS}{ks:List Nm}(hf:aG W C k f)(hp:jU W C k xs)(io:jg W C k xs):aG W C k (.call f xs ks):=fun rep e1=>mA e1 fun fv h1 e2 e3=>mL e3 fun vs h2 e4 e5=>sy e5 fun v h3 e6 e7=>
 fun _ _ _ _ _ _ S a g=>AJ O CO hf hp io rep e2 e4 e6 S a (g.of e7)
theorem Jg(O:aN W mg mb)(CO:bq W C k){x:X}{n:Nm}{xs:XS}{ks:List Nm}(hx:aG W C k x)(hp:jU W C k xs)(io:jg W C k xs):aG W C k (.bg x n xs ks):=fun rep e1=>mA e1 fun fv h1 e2 e3=>mK e3 fun f0 fst e4 e5=>mL e5 fun vs h2 e6 e7=>sy e7 fun v h3 e8 e9=>
 fun _ _ _ _ _ _ S a g=>AK O CO hx hp io rep e2 e4 e6 e8 S a (g.of e9)
end
set_option backward.match.sparseCases false
section
variable{W:Wd}{mg mb:Str→Option Value}{C:Cx}{k:Nat}(O:aN W mg mb)(CO:bq W C k)
structure Jh(W:Wd)(C:Cx)(k:Nat)(xs:XS):Prop where
 s:ox W C k xs
 a:qD W C k xs
 w:jg W C k xs
 p:jU W C k xs
theorem Ji{x:X}:im W C k (.enum x):=fun _ e1=>none_ne e1
theorem Jj{x:X}:im W C k (.gen x):=fun _ e1=>none_ne e1
structure Jk(W:Wd)(C:Cx)(k:Nat)(xs:QS):Prop where
 a:qA W C k xs
 o:qB W C k xs
include O CO
mutual
theorem aR: ∀x,aG W C k x
 | .loc _=>GB
 | .glob _=>GC O
 | .int _=>GD
 | .str _=>GE
 | .bytes _=>GG
 | .bool _=>GH
 | .none=>GI
 | .neg x=>GJ (aR x)
 | .bin _ x y=>GK O (aR x) (aR y)
 | .cmp _ x y=>GL O CO (aR x) (aR y)
 | .and xs=>Iu (eU xs).a
 | .bz t a b=>GN (iu t) (aR a) (aR b)
 | .sub x i=>GO O CO (aR x) (aR i)
 | .fE x l h=>GP O CO (aR x) (aR l) (aR h)
 | .fF x l=>GQ O CO (aR x) (aR l)
 | .eP x h=>GR O CO (aR x) (aR h)
 | .kB _ i=>HZ (aR i)
 | .attr x _=>GS O (aR x)
 | .list xs=>GT (eU xs).s
 | .dict _ _=>Ia
 | .comp e _ it=>IZ (qI it) (aR e)
 | .iT e _ it c=>I0 (qI it) (aR e) (iu c)
 | .len x=>Hn O CO (aR x)
 | .max2 x y=>Ho O (aR x) (aR y)
 | .min2 x y=>Hp O (aR x) (aR y)
 | .sorted x=>Hr O CO (aR x)
 | .bytesOf x=>Ht O CO (aR x)
 | .kC x=>Hu O (aR x)
 | .fG x _=>Hw O (aR x)
 | .toBytes x n=>HB (aR x) (aR n)
 | .join x y=>HK O CO (aR x) (aR y)
 | .append x y=>HN (aR x) (aR y)
 | .iU x _=>HU O (aR x)
 | .call f xs _=>Jf O CO (aR f) (eU xs).p (eU xs).w
 | .bg x _ xs _=>Jg O CO (aR x) (eU xs).p (eU xs).w
theorem eU: ∀xs,Jh W C k xs
 | .nil=>⟨Iw,Iq,I3,I4⟩
 | .cons x xs=>⟨Ix (aR x) (eU xs).s,Ir O CO (aR x) (eU xs).a,AE (aR x) (eU xs).w,I5 (aR x) (eU xs).p (AE (aR x) (eU xs).w)⟩
theorem iu: ∀x,gq W C k x
 | .tr x=>Ic O CO (aR x)
 | .not x=>Id (iu x)
 | .and xs=>Im (tm xs).a
 | .or xs=>Io (tm xs).o
 | .cmp _ x y=>Ie O CO (aR x) (aR y)
 | .fH _ _ x y z=>Ih O CO (aR x) (aR y) (aR z)
theorem tm: ∀xs,Jk W C k xs
 | .nil=>⟨Ij,Ii⟩
 | .cons x xs=>⟨Il (iu x) (tm xs).a,Ik (iu x) (tm xs).o⟩
theorem qI: ∀it,im W C k it
 | .val x=>II O CO (aR x)
 | .jB x=>IJ O (aR x)
 | .gb x y=>IK O (aR x) (aR y)
 | .jC x y z=>IL O (aR x) (aR y) (aR z)
 | .tup xs=>IN (eU xs).s
 | .enum _=>Ji
 | .gen _=>Jj
end
end
noncomputable def oK(env:Env)(ρ:au)(b:Addr):Prop:=gO env ρ b∨b=env.locals∨ ∃x c,env.cells.lookup x=some c∧b=c
structure bk(env:Env)(fs:List Env)(ρ:au)(s:Shared)(ag:au)(s':Shared):Prop where
 le:ρ.le ag
 fresh: ∀i a dx,ag i=some (a,dx)→ρ i=none→s.heap.get? a=none∧s.heap.get? dx=none
 kept: ∀b o,s.heap.get? b=some o→ ¬oK env ρ b→(b∉frames fs→s'.heap.get? b=some o)∧ ∃sl,s'.heap.get? b=some {o with slots:=sl}
 de: ∀b,(s.heap.get? b).isSome→(s'.heap.get? b).isSome
 gens: ∀(i:Nat)(g:GenState),s.gens[i]? =some g→s'.gens[i]? =some g
section
variable{prog:Program}{w:World}{W:Wd}{mg mb:Str→Option Value}{C:Cx}{env:Env}{fs:List Env}{ρ ag aD bZ aO:au}{l l' l₁:L}{h h' bF hf:H}{s s' ai bj ax:Shared}{A:Around}{k:Nat}{E:Value→Shared→Prop}
theorem aY.toS (X:aY env fs ρ s ag s'):bk env fs ρ s ag s':=⟨X.le,X.fresh,fun b o e n=>X.kept b o e (fun q=>n (.inl q)),X.de,X.gens⟩
theorem bk.refl:bk env fs ρ s ρ s:=aY.refl.toS
theorem bk.trans (x:bk env fs ρ s ag s') (y:bk env fs ag s' bZ bj):bk env fs ρ s bZ bj:=by
 have nw: ∀b o,s.heap.get? b=some o→ ¬oK env ρ b→ ¬oK env ag b:=by
  intro b o e n
  rintro(⟨i,a,dx,hi,hb⟩|q)
  ·cases q:ρ i with
   |some p=>
    have:=x.le i p q
    rw[hi]at this;cases this
    exact n (.inl ⟨i,a,dx,q,hb⟩)
   |none=>
    refine bn (x.fresh i a dx hi q) fun f1 f2=> ?_
    rcases hb with rfl|rfl
    ·rw[e]at f1;cases f1
    ·rw[e]at f2;cases f2
  ·exact n (.inr q)
 refine⟨x.le.trans y.le,fun i a dx e q=> ?_,fun b o e n=> ?_,fun b hb=>y.de b (x.de b hb),fun i g e=>y.gens i g (x.gens i g e)⟩
 ·cases q':ag i with
  |none=>
   refine bn (y.fresh i a dx e q') fun f1 f2=> ?_
   have no: ∀b,s'.heap.get? b=none→s.heap.get? b=none:=fun b hb=>by
    cases z:s.heap.get? b with
    |none=>rfl
    |some o=>have:=x.de b (by rw[z];rfl);rw[hb]at this;cases this
   exact⟨no _ f1,no _ f2⟩
  |some p=>
   have:=y.le i p q'
   rw[e]at this;cases this
   exact x.fresh i a dx q' q
 ·obtain⟨k1,sl,k2⟩:=x.kept b o e n
  obtain⟨j1,vj,j2⟩:=y.kept b _ k2 (nw b o e n)
  refine⟨fun hb=> ?_,vj,j2⟩
  have:=k1 hb
  rw[k2]at this
  have q:=j1 hb
  rw[q];exact this
theorem AL{hp ii base:Heap}{l:List Env}:(∀b o,b∈frames l→hp.get? b=some o→(∀vs,o.data≠ .fields vs)→ ∃o',ii.get? b=some o'∧ ∀vs,o'.data≠ .fields vs)→hp.FunFrames base l→ii.FunFrames base l:=by
 induction l with
 |nil=>exact fun _ _=>trivial
 |cons e r ih=>exact fun kk f=>⟨f.1,rV f.2.1 fun L o f2 f3 f4 f5=>aA (kk L o (List.mem_filterMap.mpr ⟨e,.head _,f2⟩) f4 f5) fun o' h1 h2=>⟨L,o',f2,f3,h1,h2⟩,ih (fun b o hb=>kk b o (aA (List.mem_filterMap.mp hb) fun x hx hf=>List.mem_filterMap.mpr ⟨x,.tail _ hx,hf⟩)) f.2.2⟩
theorem kU(S:ah W env fs ρ l h s){n:Nm}{v:V}{v':Value}(hk:env.kindOf n.str=some .local∨env.kindOf n.str=some .cell)(rv:VR W ρ v v'){Q:Unit→Shared→Prop}
 (g: ∀s',ah W env fs ρ (l.set n v) h s'→bk env fs ρ s ρ s'→Q () s'):wpAny (model W.prog W.w) A (storeName env n.str v') Q E s:=by
 have core: ∀(a:Addr)(h2:Heap)(tk:Nat),Heap.SameBut a s.heap h2→(a=env.locals∨ ∃x c,env.cells.lookup x=some c∧a=c)→(h2.get? a).isSome→(∀o,h2.get? a=some o→ ∀vs,o.data≠ .fields vs)→ig W env ρ (l.set n v) h2→
  ah W env fs ρ (l.set n v) h {s with heap:=h2,toks:=tk}∧bk env fs ρ s ρ {s with heap:=h2,toks:=tk}:=by
  intro a h2 tk hb ha AM gv wj
  have np: ∀i b dx,ρ i=some (b,dx)→b≠a∧dx≠a:=by
   intro i b dx e
   (refine kq (S.dI i b dx e) fun wk _ q2 q3 _=> ?_;refine dT wk fun _ p2 p3 _=> ?_)
   rcases ha with rfl|⟨x,c,hx,rfl⟩
   ·exact⟨p2,q2⟩
   ·exact⟨p3 x _ hx,q3 x _ hx⟩
  have h0:W.h₀.get? a=none:=by
   rcases ha with rfl|⟨x,c,hx,rfl⟩
   ·exact S.loc.oq
   ·exact(S.loc.i8 x _ hx).1
  refine⟨⟨S.eo,fun b o e=> ?_,AL (fun b o Af e nf=> ?_) S.ff,fun i o e=> ?_,S.eT,S.dI,S.inj,fun i b dx e=> ?_,wj,S.gens,S.os⟩,⟨.refl _,fun i a dx e e'=>(by rw[e]at e';cases e'),fun b o e no=> ?_,fun b e=> ?_,fun _ _ e=>e⟩⟩
  ·rw[hb.2 b (fun q=>by rw[q,h0]at e;cases e)];exact S.cL _ _ e
  ·by_cases q:b=a
   ·subst q
    refine br (Option.isSome_iff_exists.mp AM) fun o2 fO=> ?_
    exact⟨o2,fO,gv o2 fO⟩
   ·exact⟨o,by rw[hb.2 b q];exact e,nf⟩
  ·refine cQ (S.objs i o e) fun b dx r z=> ?_
   refine bn (np i b dx r) fun n1 n2=> ?_
   refine⟨b,dx,r,z.mono (.refl _) ?_⟩
   rintro x (rfl|rfl) o e
   ·rw[hb.2 _ n1];exact e
   ·rw[hb.2 _ n2];exact e
  ·refine bn (S.dq i b dx e) fun d1 d2=> ?_
   refine bn (np i b dx e) fun n1 n2=> ?_
   show(h2.get? b).isSome=true∧(h2.get? dx).isSome=true
   rw[hb.2 _ n1,hb.2 _ n2];exact⟨d1,d2⟩
  ·have q:b≠a:=fun q=>no (.inr (q▸ha))
   show(b∉frames fs→h2.get? b=_)∧ ∃sl,h2.get? b=_
   rw[hb.2 b q]
   exact⟨fun _=>e,o.slots,e⟩
  ·by_cases q:b=a
   ·subst q;exact AM
   ·show(h2.get? b).isSome=true
    rw[hb.2 b q];exact e
 have tn: ∀{x u},(L.set l n v) x=some u→x≠n→l x=some u:=by
  intro x u e ne
  unfold L.set at e
  rwa[if_neg ne]at e
 have AN: ∀{u},(L.set l n v) n=some u→u=v:=by
  intro u e
  unfold L.set at e
  rw[if_pos rfl]at e
  exact(Option.some.inj e).symm
 rcases hk with hk|hk
 ·refine aA S.loc.ns fun m hn hm=> ?_
  refine wpAny_storeName_local hk hn (fun h2 n2 b2=> ?_) (by rw[S.eo.kind];rfl)
  refine pP (id n2) fun o2 es ep fO kO Qj=> ?_
  have cn: ∀x c,env.cells.lookup x=some c→h2.get? c=s.heap.get? c:=fun x c hx=>b2.2 c (S.loc.i8 x c hx).2.1
  suffices hl:ig W env ρ (l.set n v) h2 by
   refine bn (core env.locals h2 (s.toks+1) b2 (.inl rfl) (by rw[fO];rfl) (fun o e vs q=>by rw[fO]at e;cases e;rw[kO]at q;cases q) hl) fun z1 z2=> ?_
   exact g _ z1 z2
  refine⟨⟨_,n2,fun x u e q=> ?_⟩,fun x u e q=> ?_,fun x q=> ?_,S.loc.oq,fun x c e=> ?_,S.loc.qk⟩
  ·by_cases hx:x=n
   ·subst hx
    cases AN e
    exact⟨v',by simp,rv⟩
   ·refine aA (hm x u (tn e hx) q) fun u' h1 h2=> ?_
    have:x.str≠n.str:=fun z=>hx (Nm.str_inj z)
    exact⟨u',by simp[this,h1],h2⟩
  ·have hx:x≠n:=by
    rintro rfl
    rw[hk]at q
    rcases q with q|q<;>cases q
   (refine d7 (S.loc.cell x u (tn e hx) q) fun c u' h1 Jl h3=> ?_;refine aA Jl fun o ho hd=> ?_)
   exact⟨c,u',h1,⟨o,by rw[cn x.str c h1];exact ho,hd⟩,h3⟩
  ·obtain⟨c,u',h1,o,ho,hd⟩:=S.loc.has x q
   exact⟨c,u',h1,o,by rw[cn x c h1];exact ho,hd⟩
  ·obtain⟨r1,r2,v,o,ho,hd⟩:=S.loc.i8 x c e
   exact⟨r1,r2,v,o,by rw[cn x c e];exact ho,hd⟩
 ·refine cQ (S.loc.has n.str hk) fun c v0 hc Jm=> ?_
  refine wpAny_storeName_cell S.eo.kind hk hc Jm fun h2 c2 b2=> ?_
  refine aA (id c2) fun o2 fO kO=> ?_
  refine aA S.loc.ns fun m hn hm=> ?_
  have Jn:=(S.loc.i8 _ _ hc).2.1
  have other: ∀x c',env.cells.lookup x=some c'→x≠n.str→h2.get? c'=s.heap.get? c':=fun x c' hx ne=>b2.2 c' fun z=>by
   subst z
   exact ne (S.loc.qk x n.str _ hx hc)
  suffices hl:ig W env ρ (l.set n v) h2 by
   refine bn (core c h2 s.toks b2 (.inr ⟨_,c,hc,rfl⟩) (by rw[fO];rfl) (fun o e vs q=>by rw[fO]at e;cases e;rw[kO]at q;cases q) hl) fun z1 z2=> ?_
   exact g _ z1 z2
  refine⟨⟨m,?_,fun x u e q=> ?_⟩,fun x u e q=> ?_,fun x q=> ?_,S.loc.oq,fun x c' e=> ?_,S.loc.qk⟩
  ·refine g9 hn fun o es ep ho r=> ?_
   exact⟨o,es,ep,by rw[b2.2 _ (fun z=>Jn z.symm)];exact ho,r⟩
  ·have hx:x≠n:=by
    rintro rfl
    rw[hk]at q;cases q
   exact hm x u (tn e hx) q
  ·by_cases hx:x=n
   ·subst hx
    cases AN e
    exact⟨c,v',hc,c2,rv⟩
   ·(refine d7 (S.loc.cell x u (tn e hx) q) fun c' u' h1 Jo h3=> ?_;refine aA Jo fun o ho hd=> ?_)
    exact⟨c',u',h1,⟨o,by rw[other _ _ h1 (fun z=>hx (Nm.str_inj z))];exact ho,hd⟩,h3⟩
  ·by_cases hx:x=n.str
   ·subst hx;exact⟨c,_,hc,c2⟩
   ·obtain⟨c',u',h1,o,ho,hd⟩:=S.loc.has x q
    exact⟨c',u',h1,o,by rw[other _ _ h1 hx];exact ho,hd⟩
  ·obtain⟨r1,r2,u,o,ho,hd⟩:=S.loc.i8 x c' e
   refine⟨r1,r2,?_⟩
   by_cases z:c'=c
   ·subst z;exact⟨_,c2⟩
   ·exact⟨u,o,by rw[b2.2 _ z];exact ho,hd⟩
end
noncomputable def fP(env:Env)(fs:List Env):Prop:=(∃cO,fs=env::cO)∧env.frame=some env.locals
noncomputable def cY(W:Wd)(env:Env)(fs:List Env)(ρ:au)(s:Shared)(fl:Fl)(l':L)(h':H)(Q:Flow→Shared→Prop)(E:Value→Shared→Prop):Prop:=match fl with
 | .next=> ∀s' ag,ah W env fs ag l' h' s'→bk env fs ρ s ag s'→Q .next s'
 | .brk=> ∀s' ag,ah W env fs ag l' h' s'→bk env fs ρ s ag s'→Q .brk s'
 | .cont=> ∀s' ag,ah W env fs ag l' h' s'→bk env fs ρ s ag s'→Q .cont s'
 | .ret v=> ∀v' s' ag,ah W env fs ag l' h' s'→bk env fs ρ s ag s'→VR W ag v v'→Q (.ret v') s'
 | .exc c=> ∀e s' ag,ah W env fs ag l' h' s'→bk env fs ρ s ag s'→gP W env fs ag s c e s'→E e s'
noncomputable def Js(W:Wd)(k:Nat)(env:Env)(e:Stmt)(l:L)(h:H)(fl:Fl)(l':L)(h':H):Prop:= ∀⦃fs:List Env⦄⦃ρ:au⦄⦃s:Shared⦄⦃A:Around⦄⦃E:Value→Shared→Prop⦄⦃Q:Flow→Shared→Prop⦄,
 ah W env fs ρ l h s→b6 A fs k→fP env fs→cY W env fs ρ s fl l' h' Q E→wpAny (model W.prog W.w) A (exec e env) Q E s
noncomputable def mH(W:Wd)(k:Nat)(env:Env)(e:List Stmt)(l:L)(h:H)(fl:Fl)(l':L)(h':H):Prop:= ∀⦃fs:List Env⦄⦃ρ:au⦄⦃s:Shared⦄⦃A:Around⦄⦃E:Value→Shared→Prop⦄⦃Q:Flow→Shared→Prop⦄,
 ah W env fs ρ l h s→b6 A fs k→fP env fs→cY W env fs ρ s fl l' h' Q E→wpAny (model W.prog W.w) A (execs e env) Q E s
noncomputable def dw(W:Wd)(C:Cx)(k:Nat)(st:S):Prop:= ∀{env:Env}{e:Stmt}{l l':L}{h h':H}{fl:Fl},sL env.scope st e→ex C st l h=some (fl,l',h')→Js W k env e l h fl l' h'
noncomputable def fk(W:Wd)(C:Cx)(k:Nat)(st:SS):Prop:= ∀{env:Env}{e:List Stmt}{l l':L}{h h':H}{fl:Fl},ic env.scope st e→ay C st l h=some (fl,l',h')→mH W k env e l h fl l' h'
section
variable{prog:Program}{w:World}{W:Wd}{mg mb:Str→Option Value}{C:Cx}{env:Env}{fs:List Env}{ρ ag aD bZ aO:au}{l l' l₁:L}{h h' bF hf:H}{s s' ai bj ax:Shared}{A:Around}{k:Nat}{E:Value→Shared→Prop}
theorem cY.after {fl:Fl} {Q:Flow→Shared→Prop} (g:cY W env fs ρ s fl l' h' Q E) (X:bk env fs ρ s aD ai):cY W env fs aD ai fl l' h' Q E:=by
 induction fl with
 |next=>exact fun s' ag S X'=>g s' ag S (X.trans X')
 |brk=>exact fun s' ag S X'=>g s' ag S (X.trans X')
 |cont=>exact fun s' ag S X'=>g s' ag S (X.trans X')
 |ret v=>exact fun v' s' ag S X' r=>g v' s' ag S (X.trans X') r
 |exc c=>exact fun e s' ag S X' x=>g e s' ag S (X.trans X') (x.after X.de)
theorem Js.of {sc:Scope} {x:CC.S} {e:Stmt} {fl:Fl} (r:sL sc x e) (j:Js W k env (qf x e) l h fl l' h'):Js W k env e l h fl l' h':=r.1▸j
theorem mH.of {sc:Scope} {x:SS} {e:List Stmt} {fl:Fl} (r:ic sc x e) (j:mH W k env (fK x e) l h fl l' h'):mH W k env e l h fl l' h':=r.1▸j
theorem cY.of {fl mJ:Fl} {l2:L} {h2:H} {Q:Flow→Shared→Prop} (g:cY W env fs ρ s fl l' h' Q E) (e:some (mJ,l2,h2)=some (fl,l',h')):cY W env fs ρ s mJ l2 h2 Q E:=
 SP (P:=fun fl p=>cY W env fs ρ s fl p.1 p.2 Q E→cY W env fs ρ s mJ l2 h2 Q E) e id g
theorem AO(O:aN W mg mb)(CO:bq W C k){x:X}{e:PySem.Expr}{r:CR}(rep:cN env.scope x e)(e1:dX C l x h=some (r,h')):Jr W k env e l h r h':=
 FI e1 (fun f xs ks e fv h1 e2 vs h2 e3 e4=>AJ O CO (aR O CO f) (eU O CO xs).p (eU O CO xs).w (e▸rep) e2 e3 e4)
  (fun y n xs ks e a h1 e2 f fst e3 vs h2 e4 e5=>AK O CO (aR O CO y) (eU O CO xs).p (eU O CO xs).w (e▸rep) e2 e3 e4 e5)
  fun v h1 e2 e3=>SP (P:=fun r h'=>Jr W k env e l h r h') e3 fun _ _ _ _ _ _ S a g=>aR O CO x rep e2 S a g
theorem Jr.ret (O:aN W mg mb) (CO:bq W C k) {x:X} {e:PySem.Expr} {v:V} (rep:cN env.scope x e) (e1:dX C l x h=some (.ret v,h')) (S:ah W env fs ρ l h s) (a:b6 A fs k) {Q:Value→Shared→Prop} (g:Got W env fs l ρ s v h' Q):wpAny (model W.prog W.w) A (eval e env) Q E s:=AO O CO rep e1 S a g
theorem Jr.exc (O:aN W mg mb) (CO:bq W C k) {x:X} {e:PySem.Expr} {c:Cl} (rep:cN env.scope x e) (e1:dX C l x h=some (.exc c,h')) (S:ah W env fs ρ l h s) (a:b6 A fs k) {Q:Value→Shared→Prop} {Q2:Flow→Shared→Prop} (g:cY W env fs ρ s (.exc c) l h' Q2 E):wpAny (model W.prog W.w) A (eval e env) Q E s:=
 AO O CO rep e1 S a fun e s' ag S' X' x=>g e s' ag S' X'.toS x
theorem Jp:fk W C k .nil:=fun r e1=>mH.of r fun _ _ _ _ _ _ S a fo g=>wpAny_execs_nil (g.of e1 _ _ S .refl)
theorem Jt{P:Prop}{x:Option (Fl×L×H)}{y:L→H→Option (Fl×L×H)}{r:Fl×L×H}(e:(match x with|some (.next,l,h)=>y l h|r=>r)=some r)(k1: ∀l h,x=some (.next,l,h)→y l h=some r→P)(k2:r.1≠ .next→x=some r→P):P:=by
 induction x with
 |none=>exact none_ne e
 |some p=>
  obtain⟨f,l,h⟩:=p
  induction f with
  |next=>exact k1 l h rfl e
  |_=>exact k2 (fun q=>by rw[←Option.some.inj e]at q;exact Fl.noConfusion q) e
theorem cY.stop {fl:Fl} {Q R:Flow→Shared→Prop} (g:cY W env fs ρ s fl l' h' Q E) (n:fl≠ .next) (k: ∀f s,f≠ .next→Q f s→R f s):cY W env fs ρ s fl l' h' R E:=by
 induction fl with
 |next=>exact absurd rfl n
 |brk=>exact fun s' ag S X=>k _ _ (fun q=>Flow.noConfusion q) (g s' ag S X)
 |cont=>exact fun s' ag S X=>k _ _ (fun q=>Flow.noConfusion q) (g s' ag S X)
 |ret v=>exact fun v' s' ag S X r=>k _ _ (fun q=>Flow.noConfusion q) (g v' s' ag S X r)
 |exc c=>exact g
theorem Ju{st:CC.S}{r:SS}(hs:dw W C k st)(hr:fk W C k r):fk W C k (.cons st r):=fun{env es l l' h h' fl} p e1=>mH.of p (Jt e1
 (fun l1 h1 e2 e3 _ _ _ _ _ _ S a fo g=>wpAny_execs_cons (hs (.mk (congrArg (·.headD S0) p.1) (T1 p.2)) e2 S a fo fun s' ag S' X'=>hr (.mk (congrArg List.tail p.1) (T2 p.2)) e3 S' a fo (g.after X')))
 fun n e2 _ _ _ _ _ _ S a fo g=>wpAny_execs_cons (hs (.mk (congrArg (·.headD S0) p.1) (T1 p.2)) e2 S a fo (g.stop n fun f s n q=>by
  induction f with
  |next=>exact absurd rfl n
  |_=>exact q)))
theorem Jv(O:aN W mg mb)(CO:bq W C k){x:X}:dw W C k (.ret x):=fun r e1=>Js.of r (mA e1 fun v h1 e2 e3 _ _ _ _ _ _ S a fo g=>
 wpAny_Return_some (aR O CO x (.mk (congrArg (sk · 0) r.1) r.2) e2 S a fun v' s' ag S' X' q=>g.of e3 v' s' ag S' X'.toS q))
theorem Jw:dw W C k .brk:=fun r e1=>Js.of r fun _ _ _ _ _ _ S a fo g=>wpAny_Break (g.of e1 _ _ S .refl)
theorem Jy(O:aN W mg mb)(CO:bq W C k){t:CC.Q}:dw W C k (.assert t):=fun r e1=>Js.of r (FJ e1 fun h1 e2 e3 _ _ _ _ _ _ S a fo g=>
 wpAny_Assert_holds (iu O CO t (.mk (congrArg (sk · 0) r.1) r.2) e2 S a fun s' ag S' X'=>⟨rfl,g.of e3 s' ag S' X'.toS⟩))
theorem Jz(O:aN W mg mb)(CO:bq W C k){t:CC.Q}{x y:SS}(hx:fk W C k x)(hy:fk W C k y):dw W C k (.ifs t x y):=fun r e1=>Js.of r (mT e1
 (fun h1 e2 e3 _ _ _ _ _ _ S a fo g=>wpAny_If (iu O CO t (.mk (congrArg (sk · 0) r.1) (T1 (T1 r.2))) e2 S a fun s' ag S' X'=>hx (.mk (congrArg sb r.1) (T2 (T1 r.2))) e3 S' a fo (g.after X'.toS)))
 fun h1 e2 e3 _ _ _ _ _ _ S a fo g=>wpAny_If (iu O CO t (.mk (congrArg (sk · 0) r.1) (T1 (T1 r.2))) e2 S a fun s' ag S' X'=>hy (.mk (congrArg (fun e=>(sx e).b) r.1) (T2 r.2)) e3 S' a fo (g.after X'.toS)))
theorem mO{e:PySem.Expr}(n:fc e=false)(t:Option PySem.Expr)(line:Nat)(env:Env):swapsWith e t line env=pure false:=by
 cases e with
 |ListComp=>exact nope n.symm
 |SetComp=>exact nope n.symm
 |DictComp=>exact nope n.symm
 |_=>exact Eq.refl (pure false)
theorem AP(S:ah W env fs ρ l h s):interactive env=false:=by
 unfold interactive
 rw[S.eo.kind];rfl
theorem JA(O:aN W mg mb)(CO:bq W C k){x:X}:dw W C k (.expr x):=fun r e1=>Js.of r (
 have nc:=TN (TR (f:=fun b=> !fc b) (congrArg (sk · 0) r.1) (T2 r.2))
 su e1 (fun v h1 e2 e3 _ _ _ _ _ _ S a fo g=>wpAny_Expr_any (Jr.ret O CO (.mk (congrArg (sk · 0) r.1) (T1 r.2)) e2 S a fun v' s' ag S' X' _=>g.of e3 s' ag S' X'.toS) (AP S) (mO nc _ _ _))
  fun c h1 e2 e3 _ _ _ _ _ _ S a fo g=>wpAny_Expr_any (Jr.exc O CO (.mk (congrArg (sk · 0) r.1) (T1 r.2)) e2 S a (g.of e3)) (AP S) (mO nc _ _ _))
end
section
variable{prog:Program}{w:World}{W:Wd}{mg mb:Str→Option Value}{C:Cx}{env:Env}{fs:List Env}{ρ ag aD bZ aO:au}{l l' l₁:L}{h h' bF hf:H}{s s' ai bj ax:Shared}{A:Around}{k:Nat}{E:Value→Shared→Prop}{fp:List Addr}
theorem bk.side (X:bk env fs aO ax ρ s) (hn: ∀b∈fp,ax.heap.get? b=none) (kk: ∀b o,b∉fp→s.heap.get? b=some o→s'.heap.get? b=some o) (g:s'.gens=s.gens):bk env fs aO ax ρ s':=by
 refine⟨X.le,X.fresh,fun b o e n=> ?_,fun b hb=> ?_,fun i x e=>by rw[g];exact X.gens i x e⟩
 ·have nb:b∉fp:=fun hm=>by rw[hn b hm]at e;cases e
  obtain⟨k1,sl,k2⟩:=X.kept b o e n
  exact⟨fun hf=>kk _ _ nb (k1 hf),sl,kk _ _ nb k2⟩
 ·obtain⟨o,ho⟩:=Option.isSome_iff_exists.mp (X.de b hb)
  by_cases nb:b∈fp
  ·rw[hn b nb]at hb;cases hb
  ·rw[kk _ _ nb ho];rfl
theorem AQ(hs:dr W env fs ρ b): ¬oK env ρ b:=by
 rintro(q|q|⟨x,c,hx,q⟩)
 ·exact hs.1 q
 ·exact hs.2.2.1 q
 ·exact hs.2.2.2.1 x c hx q
theorem mQ{sc:Scope}{n:Nm}(r:slot sc n=true):sc.names.lookup n.str=some .local∨sc.names.lookup n.str=some .cell:=(Bool.or_eq_true_iff.mp r).imp beq_iff_eq.mp beq_iff_eq.mp
theorem AR{x:X}{e:PySem.Expr}(hc:fc (aB x e)=true){P:X→Prop}(k1: ∀y m it,P (.comp y m it))(k2: ∀y m it c,P (.iT y m it c)):P x:=by
 cases x with
 |comp y m it=>exact k1 y m it
 |iT y m it c=>exact k2 y m it c
 |_=>exact nope hc
theorem AS{n:Nm}{p:Pos}{ys:List V}{Q:Unit→Shared→Prop}(hk:env.kindOf n.str=some .local∨env.kindOf n.str=some .cell)(g: ∀s' ag,ah W env fs ag (l.set n (.ref hf.n)) (hf.push (.list ys)) s'→bk env fs ρ s ag s'→Q () s'):
 td W env fs ρ s l ys hf A E (some (assign (.Name n.str p) env)) (fun _ s'=>Q () s'):=fun D Ca s1 aQ S1 X1 rD hC hn hm=>by
 refine wpAny_assign_Name (kU S1 hk rD fun s2 S2 X2=> ?_)
 refine yr hm fun m o es ep ho r=> ?_
 refine⟨m,⟨o,es,ep,(X2.kept Ca o ho (AQ hC)).1 hC.2.2.2.2,r⟩,fun h3 b3=> ?_⟩
 have kk: ∀b o,b∉[Ca]→s2.heap.get? b=some o→h3.get? b=some o:=fun b o nb e=>(b3.2 b (fun q=>nb (q▸ .head _))).trans e
 exact g _ aQ (S2.side (s':={s2 with heap:=h3}) (fun b hb=>List.mem_singleton.mp hb▸hC) kk rfl rfl) ((X1.toS.trans X2).side (s':={s2 with heap:=h3}) (fun b hb=>List.mem_singleton.mp hb▸hn) kk rfl)
theorem AT{n:Nm}{v1 v:V}{h1 h2:H}{ys:List V}{Q:Unit→Shared→Prop}(e5:some (V.ref h2.n,h2.push (.list ys))=some (v1,h1))(e9:some (CR.ret v1,h1)=some (.ret v,h'))(g: ∀s' ag,ah W env fs ag (l.set n v) h' s'→bk env fs ρ s ag s'→Q () s'):
 ∀s' ag,ah W env fs ag (l.set n (.ref h2.n)) (h2.push (.list ys)) s'→bk env fs ρ s ag s'→Q () s':=by
 cases e5
 cases e9
 exact g
theorem JB(O:aN W mg mb)(CO:bq W C k){n:Nm}{x:X}{v:V}{e:PySem.Expr}(hc:fc (aB x e)=true)(rep:cN env.scope x e)(S:ah W env fs ρ l h s)(a:b6 A fs k)(hk:env.kindOf n.str=some .local∨env.kindOf n.str=some .cell){p:Pos}{Q:Unit→Shared→Prop}:
 i4 (ev C l x h)=some (.ret v,h')→(∀s' ag,ah W env fs ag (l.set n v) h' s'→bk env fs ρ s ag s'→Q () s')→wpAny (model W.prog W.w) A (evalThenUse (aB x e) env (assign (.Name n.str p) env)) Q E s:=
 AR hc (P:=fun x=>cN env.scope x e→i4 (ev C l x h)=some (.ret v,h')→(∀s' ag,ah W env fs ag (l.set n v) h' s'→bk env fs ρ s ag s'→Q () s')→wpAny (model W.prog W.w) A (evalThenUse (aB x e) env (assign (.Name n.str p) env)) Q E s)
  (fun y m it r e1 g=>sv e1 fun v1 h1 e0 e9=>m3 e0 fun vs src h1 e2 e3=>th e3 fun ys h2 e4 hz e5=>
   wpAny_bind (wpAny_mono (tf (qI O CO it) a S (kQ (T2 r.2)) (Q:=fun _ s'=>Q () s') (.mk (congrArg (ad · 1) r.1) (T1 (T1 r.2))) e2 e4 hz (fun Dw ap hR I=>As (aR O CO y) a (kQ (T2 r.2)) Dw ap hz (.mk (congrArg (ad · 0) r.1) (T2 (T1 r.2))) hR I)
    (AS hk (AT e5 e9 g))) (fun _ s' q=>wpAny_pure q) fun _ _ q=>q))
  (fun y m it c r e1 g=>sv e1 fun v1 h1 e0 e9=>m3 e0 fun vs src h1 e2 e3=>th e3 fun ys h2 e4 hz e5=>
   wpAny_bind (wpAny_mono (tf (qI O CO it) a S (kQ (T2 (T1 r.2))) (Q:=fun _ s'=>Q () s') (.mk (congrArg (ad · 1) r.1) (T1 (T1 (T1 r.2)))) e2 e4 hz
    (fun Dw ap hR I=>Au (aR O CO y) (iu O CO c) a (kQ (T2 (T1 r.2))) Dw ap hz (.mk (congrArg (ad · 0) r.1) (T2 (T1 (T1 r.2)))) (.mk (congrArg (ad · 3) r.1) (T2 r.2)) hR I)
    (AS hk (AT e5 e9 g))) (fun _ s' q=>wpAny_pure q) fun _ _ q=>q)) rep
theorem JC{e:PySem.Expr}(hc:fc e=true)(x:Str)(p:Pos)(line:Nat)(env:Env): ∃b,swapsWith e (some (.Name x p)) line env=pure b:=by
 cases e with
 |ListComp=>exact⟨_,rfl⟩
 |SetComp=>exact⟨_,rfl⟩
 |DictComp=>exact⟨_,rfl⟩
 |_=>exact nope hc
theorem JD(e:PySem.Expr)(x:Str)(p:Pos)(line:Nat)(env:Env){P:Prop}(k1:swapsWith e (some (.Name x p)) line env=pure false→P)(k2:fc e=true→swapsWith e (some (.Name x p)) line env=pure true→P):P:=by
 cases hc:fc e with
 |false=>exact k1 (mO hc _ _ _)
 |true=>
  obtain⟨b,hb⟩:=JC hc x p line env
  induction b with
  |true=>exact k2 hc hb
  |false=>exact k1 hb
theorem AU{x:X}{e:PySem.Expr}(hc:fc (aB x e)=true):dX C l x h=i4 (ev C l x h):=AR hc (P:=fun x=>dX C l x h=i4 (ev C l x h)) (fun _ _ _=>rfl) fun _ _ _ _=>rfl
theorem JE{x:Option (V×H)}{c:Cl}{P:Prop}(e:i4 x=some (.exc c,h)):P:=sv e fun _ _ _ e=>CR.noConfusion (congrArg Prod.fst (Option.some.inj e))
theorem JF(O:aN W mg mb)(CO:bq W C k){n:Nm}{x:X}:dw W C k (.assign n x):=fun{env e l l' h h' fl} r e1=>Js.of r (
 have hk:=mQ (T1 r.2)
 have rx:cN env.scope x (aB x (sk e 0)):= .mk (congrArg (sk · 0) r.1) (T2 r.2)
 have JG:cN env.scope x (sk e 0):=⟨congrArg (sk · 0) r.1,T2 r.2⟩
 JD (aB x (sk e 0)) n.str (sk e 1).pos e.pos.line env
  (fun sw=>su e1 (fun v h1 e2 e3 _ _ _ _ _ _ S a fo g=>wpAny_Assign_Name (Jr.ret O CO rx e2 S a fun v' s' ag S' X' q=>kU S' hk q fun s2 S2 X2=>g.of e3 s2 ag S2 (X'.toS.trans X2)) sw)
   fun c h1 e2 e3 _ _ _ _ _ _ S a fo g=>wpAny_Assign_Name (Jr.exc O CO rx e2 S a (g.of e3)) sw)
  fun hc sw=>su e1 (fun v h1 e2 e3 fs ρ s A E Q S a fo g=>by
   show wpAny _ _ (exec (.Assign [.Name n.str (sk e 1).pos] (aB x (sk e 0)) e.pos) env) _ _ _
   rw[exec_Assign_Name_used _ _ _ _ sw]
   exact wpAny_bind (wpAny_standAt (wpAny_bind (JB O CO hc JG S a hk ((AU hc).symm.trans e2) fun s' ag S' X'=>wpAny_pure (g.of e3 s' ag S' X')))))
   fun c h1 e2 e3=>JE ((AU hc).symm.trans e2))
end
section
variable{prog:Program}{w:World}{W:Wd}{mg mb:Str→Option Value}{C:Cx}{env:Env}{fs:List Env}{ρ ag aD bZ aO:au}{l l' l₁:L}{h h' bF hf:H}{s s' ai bj ax:Shared}{A:Around}{k:Nat}{E:Value→Shared→Prop}{fp:List Addr}
theorem JH(O:aN W mg mb)(CO:bq W C k){x:X}{n:Nm}{y:X}:dw W C k (.bS x n y):=fun{env e l l' h h' fl} r e1=>Js.of r (
 have ry:cN env.scope y (aB y (sk e 0)):= .mk (congrArg (sk · 0) r.1) (T2 (T1 r.2))
 have nc:=TN (TR (f:=fun b=> !fc b) (congrArg (sk · 0) r.1) (T2 r.2))
 su e1 (fun v h1 e2 e3=>mA e3 fun u h2 e4 e5=>oH e5 fun h3 e6 e7 _ _ _ _ _ _ S a fo g=>plainObj_wpAny_Assign_Attribute (Jr.ret O CO ry e2 S a fun v1 s1 aQ S1 X1 q1=>aR O CO x (.mk (congrArg (fun e=>ad (sk e 1) 0) r.1) (T1 (T1 r.2))) e4 S1 a fun v2 s2 aZ S2 X2 q2=>
  vC O S2 e6 q2 (q1.mono X2.le) fun s3 S3 X3=>g.of e7 s3 aZ S3 ((X1.trans X2).trans X3).toS) (mO nc _ _ _))
  fun c h1 e2 e3 _ _ _ _ _ _ S a fo g=>plainObj_wpAny_Assign_Attribute (Jr.exc O CO ry e2 S a (g.of e3)) (mO nc _ _ _))
theorem AV(S:ah W env fs ρ l h s){j:Nat}{xs:List V}{p dx:Addr}{n:Nat}{vs:Array Value}{v:V}{v':Value}(cC:ρ j=some (p,dx))(ho:s.heap.get? p=some {cls:= .type "list",dict:=none,data:= .seq vs n,slots:= #[]})(hz:xs.length≤aU)(hr:bo W ρ xs vs.toList)(rv:VR W ρ v v')(m:Nat){Q:Unit→Shared→Prop}
 (e:some (h.set j (.list (xs.set m v)))=some h') (g: ∀s',ah W env fs ρ l h' s'→aY env fs ρ s ρ s'→Q () s'):Q () {s with heap:=s.heap.update p (Obj.mapSeq (·.setIfInBounds m v'))}:=by
 have hg:=get?_update_seq (c:= "list") ho (fun x=>x.setIfInBounds m v')
 have U:=S.upd (i:=j) (o:= .list (xs.set m v)) (a:=p) (dx:=dx) (s':={s with heap:=s.heap.update p (Obj.mapSeq fun x=>x.setIfInBounds m v')}) cC
  (fun b n1 _=>Heap.get?_update_other _ _ (fun q=>n1 q.symm)) rfl rfl (by rw[hg];rfl) ?_ ⟨_,vs.setIfInBounds m v',hg,by rw[List.length_set];exact hz,by rw[Array.toList_setIfInBounds];exact hr.set m rv⟩
 ·rw[Option.some.inj e]at U
  exact g _ U.1 U.2
 ·by_cases e:dx=p
  ·rw[e,hg];rfl
  ·rw[Heap.get?_update_other _ _ (fun q=>e q.symm)]
   exact(S.dq j p dx cC).2
theorem JI{P:Prop}{a i v:V}(e:kJ h a i v=some h')(k: ∀j n xs,a= .ref j→i= .int n→h.o j=some (.list xs)→sh h j xs n v=some h'→P):P:=by
 induction a with
 |ref j=>exact vI e fun n e2 e3=>sj e3 fun xs e4 e5=>k j n xs rfl e2 e4 e5
 |_=>exact none_ne e
theorem AW(S:ah W env fs ρ l h s){a i v:V}{a' i' v':Value}(hb:kJ h a i v=some h')(ra:VR W ρ a a')(ri:VR W ρ i i')(rv:VR W ρ v v'){Q:Unit→Shared→Prop}
 (g: ∀s',ah W env fs ρ l h' s'→aY env fs ρ s ρ s'→Q () s'):wpAny (model W.prog W.w) A (setItem a' i' v') Q E s:=
 JI hb fun j n xs e1 e2 e3 qz=>by
  subst e1 e2
  obtain⟨t,rfl⟩:=ri
  refine S.list e3 ra fun p dx m vs cC ho hz hr=> ?_
  have hl:xs.length=vs.size:=hr.len
  have AX:xs.length≤16777216:=hz
  refine oh qz (fun q e=>ki_setAt (n:=m) ho q.1 (by trace"dbBAeB16777216kl0zUrCpBln0zUrCcUjnU0zrC0kenoUq2^63zriiii hl AX q .t") (by trace"dbABe0zUrCpAln0zUrCcUjnU0zrC0kenoUqBcriii hl q .t") (AV S cC ho hz hr rv _ e g)) fun _ hb=>mF hb fun q e=>ki_setBack (n:=m) ho q.1 (by trace"cbABeUq0zr0zUActrnBcgUrii hl q") (by trace"cbBAeB16777216klUq0zr0zUBctrn2^63zgUriii hl AX q") ?_
  rw[hl]at e
  exact AV S cC ho hz hr rv _ e g
theorem JJ(O:aN W mg mb)(CO:bq W C k){x i y:X}:dw W C k (.gc x i y):=fun{env e l l' h h' fl} r e1=>Js.of r (mA e1 fun v h1 e2 e3=>mA e3 fun u h2 e4 e5=>mA e5 fun b h3 e6 e7=>oH e7 fun h4 e8 e9 _ _ _ _ _ _ S a fo g=>
 wpAny_Assign_Subscript (aR O CO y (.mk (congrArg (sk · 0) r.1) (T2 (T1 (T1 r.2)))) e2 S a fun v1 s1 aQ S1 X1 q1=>aR O CO x (.mk (congrArg (fun e=>ad (sk e 1) 0) r.1) (T1 (T1 (T1 (T1 r.2))))) e4 S1 a fun v2 s2 aZ S2 X2 q2=>
  aR O CO i (.mk (congrArg (fun e=>ad (sk e 1) 1) r.1) (T2 (T1 (T1 (T1 r.2))))) e6 S2 a fun v3 s3 fi S3 X3 q3=>
  AW S3 e8 (q2.mono X3.le) q3 ((q1.mono X2.le).mono X3.le) fun s4 S4 X4=>g.of e9 s4 fi S4 (((X1.trans X2).trans X3).trans X4).toS) (mO (TN (TR (f:=fun b=> !fc b) (congrArg (sk · 0) r.1) (T2 (T1 r.2)))) _ _ _))
theorem JK(S:ah W env fs ρ l h s){n:Nm}{v:V}(hk:env.kindOf n.str=some .local∨env.kindOf n.str=some .cell)(hv:l n=some v){Q:Value→Shared→Prop}(g: ∀v',VR W ρ v v'→Q v' s):wpAny (model W.prog W.w) A (loadName env n.str) Q E s:=by
 rcases hk with e|e
 ·refine aA S.loc.ns fun m hn hm=> ?_
  refine aA (hm n v hv e) fun v' e' r=> ?_
  exact wpAny_loadName_local S.eo.kind e hn e' (g v' r)
 ·refine d7 (S.loc.cell n v hv (.inl e)) fun c v' a b r=> ?_
  exact wpAny_loadName_cell S.eo.kind e a b (g v' r)
theorem JL(O:aN W mg mb)(CO:bq W C k){n:Nm}{o:cx}{x:X}:dw W C k (.aug n o x):=fun r e1=>Js.of r (
 have hk:=mQ (T1 r.2)
 oV e1 fun u e2 e3=>mA e3 fun b h1 e4 e5=>oV e5 fun v e6 e7 _ _ _ _ _ _ S a fo g=>
 wpAny_AugAssign_Name (JK S hk e2 fun v0 q0=>aR O CO x (.mk (congrArg (sk · 1) r.1) (T2 r.2)) e4 S a fun v1 s1 aQ S1 X1 q1=>vt S1 e6 (q0.mono X1.le) q1 fun v2 s2 aZ S2 X2 q2=>kU S2 hk q2 fun s3 S3 X3=>g.of e7 s3 aZ S3 ((X1.trans X2).toS.trans X3)))
theorem JM(O:aN W mg mb)(CO:bq W C k){x:X}{n:Nm}{o:cx}{y:X}:dw W C k (.hM x n o y):=fun r e1=>Js.of r (mA e1 fun u h1 e2 e3=>mA e3 fun w h2 e4 e5=>mA e5 fun b h3 e6 e7=>oV e7 fun v e8 e9=>oH e9 fun h4 ea eb _ _ _ _ _ _ S a fo g=>
 wpAny_AugAssign_AttributeAny (aR O CO x (.mk (congrArg (fun e=>ad (sk e 0) 0) r.1) (T1 r.2)) e2 S a fun v1 s1 aQ S1 X1 q1=>sW O S1 e4 q1 fun v2 s2 aZ S2 X2 q2=>aR O CO y (.mk (congrArg (sk · 1) r.1) (T2 r.2)) e6 S2 a fun v3 s3 fi S3 X3 q3=>
  vt S3 e8 (q2.mono X3.le) q3 fun v4 s4 AY S4 X4 q4=>vC O S4 ea (((q1.mono X2.le).mono X3.le).mono X4.le) q4 fun s5 S5 X5=>g.of eb s5 AY S5 ((((X1.trans X2).trans X3).trans X4).trans X5).toS))
theorem JN{e:PySem.Expr}(n:hP e=true)(ov iv new:Value):augStore e ov iv new=(do holding [new,ov,iv] (setItem ov iv new);release [new,ov,iv] [];pure .next):=by
 cases e with
 |Slice=>exact nope n
 |_=>exact rfl
theorem JO(O:aN W mg mb)(CO:bq W C k){x i:X}{o:cx}{y:X}:dw W C k (.kD x i o y):=fun r e1=>Js.of r (mA e1 fun u h1 e2 e3=>mA e3 fun w h2 e4 e5=>oV e5 fun z e6 e7=>mA e7 fun b h3 e8 e9=>oV e9 fun v ea eb=>oH eb fun h4 ec ed _ _ _ _ _ _ S a fo g=>
 wpAny_AugAssign_SubscriptAny (aR O CO x (.mk (congrArg (fun e=>ad (sk e 0) 0) r.1) (T1 (T1 (T1 r.2)))) e2 S a fun v1 s1 aQ S1 X1 q1=>aR O CO i (.mk (congrArg (fun e=>ad (sk e 0) 1) r.1) (T2 (T1 (T1 r.2)))) e4 S1 a fun v2 s2 aZ S2 X2 q2=>
  (zH O.cl CO.cl S2 e6 (q1.mono X2.le) q2 fun v3 s3 fi S3 X3 q3=>aR O CO y (.mk (congrArg (sk · 1) r.1) (T2 (T1 r.2))) e8 S3 a fun v4 s4 AY S4 X4 q4=>
  vt S4 ea (q3.mono X4.le) q4 fun v5 s5 cX S5 X5 q5=>AW S5 ec ((((q1.mono X2.le).mono X3.le).mono X4.le).mono X5.le) (((q2.mono X3.le).mono X4.le).mono X5.le) q5 fun s6 S6 X6=>g.of ed s6 cX S6 (((((X1.trans X2).trans X3).trans X4).trans X5).trans X6).toS).1)
  (JN (TR (f:=hP) (congrArg (fun e=>ad (sk e 0) 1) r.1) (T2 r.2))))
theorem cf.put {n:Nm} {x:V} {x':Value} (rx:VR W ρ x x') {at_:List (Nm×V)} {kvs:List (Str×Value)} (r:cf W ρ at_ kvs):(kvs.map (·.1)).Nodup→cf W ρ (CC.put n x at_) (stored kvs n.str x'):=
 r.ind (P:=fun at_ kvs=>(kvs.map (·.1)).Nodup→cf W ρ (CC.put n x at_) (stored kvs n.str x')) (fun _=>⟨⟨rfl,rx⟩,trivial⟩) fun mv yu at_ kvs a b ih nd=>by
  obtain⟨m,v⟩:=mv
  obtain⟨y,u⟩:=yu
  obtain⟨e,hv⟩:=a
  obtain rfl:y=m.str:=e
  rw[List.map_cons,List.nodup_cons]at nd
  have ih:=ih nd.2
  unfold CC.put stored
  by_cases q:m=n
  ·subst q
   have JP: ∀z∈kvs,z.1≠m.str:=fun z hz e=>nd.1 (by show m.str∈_;rw[←e];exact List.mem_map_of_mem hz)
   have JQ:kvs.map (fun kv=>if kv.1=m.str then(kv.1,x')else kv)=kvs:=by
    rw[List.map_congr_left (g:=id)]
    ·simp
    ·intro z hz
     rw[if_neg (JP z hz)];rfl
   rw[if_pos (by simp),List.map_cons,JQ]
   simp only[if_true]
   rw[if_pos (by simp)]
   exact⟨⟨rfl,rx⟩,b⟩
  ·have q2:m.str≠n.str:=fun e=>q (Nm.str_inj e)
   rw[if_neg q]
   unfold stored at ih
   by_cases c:kvs.any (fun kv=>kv.1=n.str)=true
   ·rw[if_pos c]at ih
    rw[if_pos (by rw[List.any_cons,c,Bool.or_true]),List.map_cons]
    simp only[q2,if_false]
    exact⟨⟨rfl,hv⟩,ih⟩
   ·rw[if_neg c]at ih
    rw[if_neg (by rw[List.any_cons];simp[q2];simpa using c)]
    exact⟨⟨rfl,hv⟩,ih⟩
theorem JR(S:ah W env fs ρ l h s){i:Nat}{es:List (Nm×V)}{n:Nm}{v:V}{u' v':Value}(hi:h.o i=some (.dict es))(to:es.length≤400)(zu:VR W ρ (.ref i) u')(zv:VR W ρ v v'){Q:Unit→Shared→Prop}
 (g: ∀s',ah W env fs ρ l (h.set i (.dict (CC.put n v es))) s'→aY env fs ρ s ρ s'→Q () s'):wpAny (model W.prog W.w) A (setItem u' (.str n.str s.toks) v') Q E {s with toks:=s.toks+1}:=by
 obtain⟨p,dx,cC,kvs,hd,hz,hr⟩:=S.objs _ _ hi
 refine cQ zu fun p' _ q e2=> ?_
 have q3:p=p':=congrArg Prod.fst (Option.some.inj (cC.symm.trans q))
 subst e2 q3
 have hl:=hr.len
 have nd:(kvs.map (·.1)).Nodup:=by refine yq hd fun _ _ _ _ _ _ _ _ nd=> ?_;exact nd
 have cV:(stored kvs n.str v').length≤kvs.length+1:=by
  unfold stored
  split
  ·rw[List.length_map];exact Nat.le_succ _
  ·rw[List.length_append];exact Nat.le_refl _
 refine wpAny_setItem_pairs (s:={s with toks:=s.toks+1}) (knd:=PySem.strKind W.prog W.w) (k:=n.str) (by simp[PySem.strKind,PySem.Value.isStrOf]) hd (fun hp hD hB=> ?_) (by rw[sizeLine_eq];trace"caB400klABeA16777216klii to hl")
 have hg:(hp.get? p).isSome=true:=by refine g9 hD fun o _ _ ho _=> ?_;rw[ho];rfl
 have U:=S.upd (i:=i) (o:= .dict (CC.put n v es)) (a:=p) (dx:=dx) (s':={s with heap:=hp,toks:=s.toks+1+1}) cC (fun b n1 _=>hB.2 b n1) rfl rfl hg ?_ ⟨stored kvs n.str v',hD,by trace"daB400klABeCAplC500kliii to hl cV",hr.put zv nd⟩
 ·exact g _ U.1 U.2
 ·by_cases e:dx=p
  ·exact e▸hg
  ·exact(congrArg Option.isSome (hB.2 dx e)).trans (S.dq i p dx cC).2
theorem JS(O:aN W mg mb)(CO:bq W C k){x:X}{n:Nm}{y:X}:dw W C k (.fI x n y):=fun r e1=>Js.of r (mA e1 fun v h1 e2 e3=>mR e3 fun i h2 e4 e5=>mD e5 fun es hi e6=>mF e6 fun to e7 _ _ _ _ _ _ S a fo g=>
 wpAny_Assign_Subscript (aR O CO y (.mk (congrArg (sk · 0) r.1) (T2 (T1 r.2))) e2 S a fun v1 s1 aQ S1 X1 q1=>aR O CO x (.mk (congrArg (fun e=>ad (sk e 1) 0) r.1) (T1 (T1 r.2))) e4 S1 a fun v2 s2 aZ S2 X2 q2=>
  wpAny_Constant_str (JR S2 hi to q2 (q1.mono X2.le) fun s3 S3 X3=>g.of e7 s3 aZ S3 ((X1.trans X2).trans X3).toS)) (mO (TN (TR (f:=fun b=> !fc b) (congrArg (sk · 0) r.1) (T2 r.2))) _ _ _))
end
section
variable{M:Model}{W:Wd}{mg mb:Str→Option Value}{C:Cx}{env:Env}{fs cO:List Env}{ρ ag aD bZ aO:au}{l l' l₁:L}{h h' bF hf:H}{s s' ai bj ax:Shared}{A:Around}{k:Nat}{E:Value→Shared→Prop}{base:Heap}{a L:Addr}{cls:Value}
theorem moved(S:ah W env fs ρ l h s)(X:bk env fs aO ax ρ s)(B:ou W env fs ρ ax base s){h2:Heap}(k1:base.StaysIn h2)(k2:s.heap.UpToSlots h2):
 ah W env fs ρ l h {s with heap:=h2}∧bk env fs aO ax ρ {s with heap:=h2}∧ou W env fs ρ ax base {s with heap:=h2}:=by
 have own: ∀i b dx,ρ i=some (b,dx)→base.get? b=s.heap.get? b∧base.get? dx=s.heap.get? dx:=by
  intro i b dx e
  (refine kq (S.dI i b dx e) fun wl _ _ _ q4=> ?_;refine dT wl fun _ _ _ p4=> ?_)
  exact⟨B.2 b (.inr ⟨i,b,dx,e,.inl rfl⟩) p4,B.2 dx (.inr ⟨i,b,dx,e,.inr rfl⟩) q4⟩
 have keep: ∀b o,((ax.heap.get? b).isSome∨gO env ρ b)→b∉frames fs→s.heap.get? b=some o→h2.get? b=some o:=fun b o hb hf e=>k1 b o ((B.2 b hb hf).trans e)
 refine⟨⟨S.eo,fun b o e=>k1 b o (B.1 b o e),AL (fun b o _ e nf=> ?_) S.ff,fun i o e=> ?_,S.eT,S.dI,S.inj,fun i b dx e=> ?_,S.loc.keeps (.refl _) fun b o hb e=>k2 b o e ?_,S.gens,S.os⟩,⟨X.le,X.fresh,fun b o e n=> ?_,fun b hb=> ?_,X.gens⟩,B.1,fun b hb hf=> ?_⟩
 ·refine br (k2 b o e nf) fun sl hs=> ?_
  exact⟨_,hs,nf⟩
 ·refine cQ (S.objs i o e) fun b dx r z=> ?_
  refine bn (own i b dx r) fun n1 n2=> ?_
  refine⟨b,dx,r,z.mono (.refl _) ?_⟩
  rintro x (rfl|rfl) o e
  ·exact k1 _ _ (n1.trans e)
  ·exact k1 _ _ (n2.trans e)
 ·refine bn (S.dq i b dx e) fun d1 d2=> ?_
  refine bn (own i b dx e) fun n1 n2=> ?_
  refine br (Option.isSome_iff_exists.mp d1) fun o1 h1=> ?_
  refine br (Option.isSome_iff_exists.mp d2) fun o2 mU=> ?_
  show(h2.get? b).isSome=true∧(h2.get? dx).isSome=true
  rw[k1 _ _ (n1.trans h1),k1 _ _ (n2.trans mU)];exact⟨rfl,rfl⟩
 ·rcases hb with rfl|⟨x,c,hx,rfl⟩
  ·(refine br S.zt fun m JT=> ?_;obtain⟨o',es,ep,ho,hd,_⟩:=JT)
   rw[ho]at e;cases e
   intro vs q;rw[hd]at q;cases q
  ·obtain⟨_,_,v,o',ho,hd⟩:=S.loc.i8 x _ hx
   rw[ho]at e;cases e
   intro vs q;rw[hd]at q;cases q
 ·obtain⟨JU,sl,AZ⟩:=X.kept b o e n
  by_cases hf:b∈frames fs
  ·obtain⟨_,o',qJ,nf⟩:=S.ff.mem hf
   rw[AZ]at qJ;cases qJ
   refine br (k2 b _ AZ nf) fun A0 wm=> ?_
   exact⟨fun q=>absurd hf q,A0,wm⟩
  ·have:=keep b o (.inl (by rw[e];rfl)) hf (JU hf)
   exact⟨fun _=>this,o.slots,this⟩
 ·refine br (Option.isSome_iff_exists.mp (X.de b hb)) fun o ho=> ?_
  show(h2.get? b).isSome=true
  by_cases hf:b∈frames fs
  ·obtain⟨_,o',qJ,nf⟩:=S.ff.mem hf
   rw[ho]at qJ;cases qJ
   refine br (k2 b _ ho nf) fun A0 wm=> ?_
   rw[wm];rfl
  ·rw[keep b o (.inl hb) hf ho];rfl
 ·have:(s.heap.get? b).isSome=true:=by
   rcases hb with hb|⟨i,x,dx,e,z⟩
   ·exact X.de b hb
   ·refine bn (S.dq i x dx e) fun d1 d2=> ?_
    rcases z with rfl|rfl
    ·exact d1
    ·exact d2
  refine br (Option.isSome_iff_exists.mp this) fun o ho=> ?_
  show base.get? b=h2.get? b
  rw[keep b o hb hf ho,B.2 b hb hf,ho]
theorem A6{Q:Unit→Shared→Prop}(fq:A.frames=some (env::cO))(hf:env.frame=some L)(x:zV base (env::cO) a cls s.heap)
 (hQ: ∀h' a0,Heap.HeldW base (env::cO) a cls a0 L h'→s.heap.UpToSlots h'→Q () {s with heap:=h'}):wpAny M A (noteFrame (.ref a) env) Q E s:=by
 obtain⟨f1,f2,f3,oe,vs,a0,he,hc,hd,h1,h0⟩:=x
 subst hc
 unfold noteFrame
 simp only[hf]
 refine wpAny_bind (wpAny_field he hd h1 ?_)
 rw[if_neg (by decide)]
 refine wpAny_entryW fq f3 hf he f1 f2 hd (Array.getElem?_eq_some_iff.mp h1).1 h0 fun h' ⟨k1,k2,k3,k4⟩=> ?_
 exact hQ h' a0 ⟨k1,f2,k2,k3⟩ k4
theorem JV{Q:Unit→Shared→Prop}{a0:Value}(x:Heap.HeldW base fs a cls a0 L s.heap)(hQ: ∀h',Heap.HeldW base fs a cls a0 L h'→s.heap.UpToSlots h'→Q () {s with heap:=h'}):
 wpAny M A (setFlight (.ref a) (some L)) Q E s:=by
 obtain⟨qK,f2,hl,oe,vs,T,oT,ts,he,qL,hd,h1,mV,jV,hT,iw,h3⟩:=x
 have qM:3<ts.size:=(Array.getElem?_eq_some_iff.mp h3).1
 have other: ∀b,b≠T→(s.heap.update T (Obj.mapFields (·.setIfInBounds 3 ((some L:Option Addr).elim Value.none fun f=>rawInt f)))).get? b=s.heap.get? b:=
  fun b hb=>Heap.get?_update_other _ _ (Ne.symm hb)
 have qN: ∀b o,s.heap.get? b=some o→(∀vs,o.data≠ .fields vs)→b≠T:=fun b o hb gv q=>by
  rw[q,hT]at hb;injection hb with hb;subst hb;exact gv ts iw
 unfold setFlight
 refine wpAny_bind (wpAny_field he hd h1 ?_)
 rw[if_pos (show(Value.ref T !=Value.none)=true from by simp)]
 refine wpAny_setField hT iw qM (hQ _ ⟨fun b o mW=>(other b fun q=>by rw[q,mV]at mW;cases mW).trans (qK b o mW),f2,
  hl.of_keeps fun b o hb gv=>⟨o,(other b (qN b o hb gv)).trans hb,rfl⟩,?_⟩ fun b o hb gv=>⟨o.slots,(other b (qN b o hb gv)).trans hb⟩)
 exact⟨oe,vs,T,_,_,(other a (Ne.symm jV)).trans he,qL,hd,h1,mV,jV,Heap.get?_update_self _ hT (Obj.isFreed_of_fields (Obj.data_mapFields iw _)),Obj.data_mapFields iw _,by simp[qM]⟩
theorem JW(S:ah W env fs ρ l h s)(X:bk env fs aO ax ρ s){c:Cl}{e:Value}(x:gP W env fs ρ ax c e s)(fq:A.frames=some fs)(fo:fP env fs)
 (g: ∀e s',ah W env fs ρ l h s'→bk env fs aO ax ρ s'→gP W env fs ρ ax c e s'→E e s'):notedBy M A env (cameBackBy M A env E) e s:=by
 (refine bn fo fun vY hL=> ?_;obtain⟨cO,rfl⟩:=vY)
 (refine nW x fun base a L JX hf B st=> ?_;obtain rfl:=JX)
 have mX: ∀h2 a0,Heap.HeldW base (env::cO) a (.ref (W.bc c)) a0 L h2→s.heap.UpToSlots h2→cameBackBy M A env E (.ref a) {s with heap:=h2}:=by
  intro h2 a0 hh k2
  refine cH (moved S X B hh.1 k2) fun S2 X2 B2=> ?_
  unfold cameBackBy
  obtain⟨qK,f2,hl,oe,vs,T,oT,ts,he,qL,hd,h1,mV,jV,hT,iw,h3⟩:=id hh
  refine wpAny_bind (wpAny_field he hd h1 ?_)
  rw[if_neg (by simp),hf]
  refine JV hh fun h3 jh k3=> ?_
  refine cH (moved S2 X2 B2 jh.1 k3) fun S3 X3 B3=> ?_
  exact g _ _ S3 X3 ⟨base,a,L,rfl,hf,B3,.inr (.inr ⟨a0,jh⟩)⟩
 rcases st with st|⟨a0,st⟩|⟨a0,st⟩
 ·exact A6 fq hf st fun h2 a0 hh k2=>mX h2 a0 hh k2
 ·exact wpAny_looks_onW fq hf st fun h2 hh k2=>mX h2 a0 hh k2
 ·exact wpAny_noteFrame_againW hf st.2.2.2 (mX s.heap a0 st (.refl _))
end
section
variable{M:Model}{W:Wd}{mg mb:Str→Option Value}{C:Cx}{env:Env}{fs cO:List Env}{ρ ag aD bZ aO:au}{l l' l₁:L}{h h' bF hf:H}{s s' ai bj ax:Shared}{A:Around}{k:Nat}{E:Value→Shared→Prop}{fp:List Addr}{At:Nat→Heap→Prop}{src:Option V}{vs:List V}
noncomputable def JY(R:Result→Shared→Prop)(Inv:Shared→Prop):Flow→Shared→Prop:=fun f s=>match f with
 | .next| .cont=>Inv s
 | .brk=>R (.ok .next) s
 | .ret v=>R (.ok (.ret v)) s
noncomputable def mY(W:Wd)(A:Around)(env:Env)(E:Value→Shared→Prop)(Q:Flow→Shared→Prop):Result→Shared→Prop:=fun r s'=>match r with| .ok f=>Q f s'| .error e=>cameBackBy (model W.prog W.w) A env E e s'
theorem cY.loop {f fl:Fl} {l5:L} {h5:H} {y:L→H→Option (Fl×L×H)} {s4:Shared} {Q:Flow→Shared→Prop} {Inv:Shared→Prop} (z:sA f l5 h5 y (fl,l',h')) (g:cY W env fs ρ s fl l' h' Q E) (X:bk env fs ρ s bZ s4) (fq:A.frames=some fs) (fo:fP env fs)
 (A7: ∀cX s5,ah W env fs cX l5 h5 s5→bk env fs bZ s4 cX s5→y l5 h5=some (fl,l',h')→Inv s5):cY W env fs bZ s4 f l5 h5 (JY (mY W A env E Q) Inv) (notedBy (model W.prog W.w) A env (cameBackBy (model W.prog W.w) A env E)):=by
 induction f with
 |next=>exact fun s5 cX S5 X5=>A7 cX s5 S5 X5 z
 |cont=>exact fun s5 cX S5 X5=>A7 cX s5 S5 X5 z
 |brk=>exact fun s5 cX S5 X5=>g.of z s5 cX S5 (X.trans X5)
 |ret v=>exact fun v' s5 cX S5 X5 r=>g.of z v' s5 cX S5 (X.trans X5) r
 |exc c=>exact fun e s5 cX S5 X5 x=>JW S5 (X.trans X5) (x.after X.de) fq fo fun e s6 S6 X6 x6=>g.of z e s6 cX S6 X6 x6
theorem JZ(O:aN W mg mb)(CO:bq W C k){t:CC.Q}{b:SS}(hb:fk W C k b):dw W C k (.gK t b):=fun{env e l l' h h' fl} r e1=>Js.of r fun fs ρ s A E Q S a fo g=>
 wpAny_While (codeAny_whileLoop (R:=mY W A env E Q) (fun n s'=> ∃ag l0 h0,ah W env fs ag l0 h0 s'∧bk env fs ρ s ag s'∧c7 (fun l h=>te C l t h) (fun l h=>ay C b l h) n l0 h0=some (fl,l',h')) (fun n s1 I=>by
  obtain⟨aQ,l1,h1,S1,X1,e2⟩:=I
  induction n with
  |zero=>exact none_ne e2
  |succ n=>
   exact FL e2 (fun h2 e3 e4=>iu O CO t (.mk (congrArg (sk · 0) r.1) (T1 r.2)) e3 S1 a fun s2 aZ S2 X2=>wpAny_execs_nil (g.of e4 s2 aZ S2 (X1.trans X2.toS)))
    fun h2 e3 f l3 h3 e4 z=>iu O CO t (.mk (congrArg (sk · 0) r.1) (T1 r.2)) e3 S1 a fun s2 aZ S2 X2=>hb (.mk (congrArg sb r.1) (T2 r.2)) e4 S2 a fo
     (g.loop z (X1.trans X2.toS) a.fr fo fun cX s5 S5 X5 e5=>⟨n,Nat.lt_succ_self _,cX,l3,h3,S5,(X1.trans X2.toS).trans X5,e5⟩)) C.fuel ⟨ρ,l,h,S,.refl,e1⟩)
theorem oM(X:bk env fs ρ s ag s'){b:Addr}(hs:dr W env fs ρ b){o:Obj}(e:s.heap.get? b=some o):s'.heap.get? b=some o:=(X.kept b o e (AQ hs)).1 hs.2.2.2.2
theorem dr.J0 {b:Addr} (hs:dr W env fs ρ b) (X:bk env fs ρ s ag s') (hb:(s.heap.get? b).isSome):dr W env fs ag b:=by
 refine⟨?_,hs.2⟩
 rintro⟨i,a,dx,e,z⟩
 cases q:ρ i with
 |some p=>
  have:=X.le i p q
  rw[e]at this;cases this
  exact hs.1 ⟨i,a,dx,q,z⟩
 |none=>
  obtain⟨f1,f2⟩:=X.fresh i a dx e q
  rcases z with rfl|rfl
  ·rw[f1]at hb;cases hb
  ·rw[f2]at hb;cases hb
structure oN(W:Wd)(env:Env)(fs:List Env)(ρ:au)(s:Shared)(fp:List Addr)(At:Nat→Shared→Prop)(aD:au)(i:Nat)(aZ:au)(l2:L)(h2:H)(s2:Shared):Prop where
 S:ah W env fs aZ l2 h2 s2
 X:bk env fs ρ s aZ s2
 le:aD.le aZ
 at_:At i s2
 side: ∀x∈fp,dr W env fs aZ x∧s.heap.get? x=none
noncomputable def tq{α:Type}(W:Wd)(env:Env)(fs:List Env)(ρ:au)(s:Shared)(fp:List Addr)(At:Nat→Shared→Prop)(aD:au)(vs:List α)(go:List α→L→H→Option (Fl×L×H))(r:Fl×L×H)(num:Nat)(s2:Shared):Prop:=
 ∃i aZ l2 h2,num=vs.length-i∧i≤vs.length∧oN W env fs ρ s fp At aD i aZ l2 h2 s2∧go (vs.drop i) l2 h2=some r
section
variable{α:Type}{tu:Nat→Shared→Prop}{i:Nat}{ws:List α}{go:List α→L→H→Option (Fl×L×H)}{r:Fl×L×H}{s4:Shared}{l5:L}{h5:H}
theorem oN.turn (I:oN W env fs ρ s fp tu aD i bZ l h bj) (X:bk env fs ρ s bZ s4) (hs: ∀x∈fp,(s4.heap.get? x).isSome) (hi:i<ws.length) {cX:au} {s5:Shared} (S5:ah W env fs cX l5 h5 s5) (X5:bk env fs bZ s4 cX s5) (a5:tu (i+1) s5) (e:go (ws.drop (i+1)) l5 h5=some r):
 ∃m,m<ws.length-i∧tq W env fs ρ s fp tu aD ws go r m s5:=
 ⟨ws.length-(i+1),Nat.sub_succ_lt_self _ _ hi,i+1,cX,l5,h5,rfl,hi,⟨S5,X.trans X5,I.le.trans X5.le,a5,fun x hx=>⟨(I.side x hx).1.J0 X5 (hs x hx),(I.side x hx).2⟩⟩,e⟩
theorem oN.moved (I:oN W env fs ρ s fp tu aD i bZ l h bj) {hp:Heap} {tk:Nat} (k: ∀b o,b∉fp→bj.heap.get? b=some o→hp.get? b=some o):ah W env fs bZ l h {bj with heap:=hp,toks:=tk}∧bk env fs ρ s bZ {bj with heap:=hp,toks:=tk}:=
 ⟨I.S.side (fun x hx=>(I.side x hx).1) k rfl rfl,I.X.side (fun x hx=>(I.side x hx).2) k rfl⟩
end
theorem tv{α:Type}{P:Prop}{ok:H→Bool}{body:α→L→H→Option (Fl×L×H)}{vs:List α}{i:Nat}{r:Fl×L×H}(hi:i≤vs.length)(e:bD ok body (vs.drop i) l h=some r)(k1:i=vs.length→ok h=true→some (Fl.next,l,h)=some r→P)
 (k2: ∀v,i<vs.length→vs[i]? =some v→ok h=true→ ∀f l2 h2,body v l h=some (f,l2,h2)→sA f l2 h2 (bD ok body (vs.drop (i+1))) r→P):P:=by
 by_cases eg:i<vs.length
 ·rw[List.drop_eq_getElem_cons eg]at e
  exact mF e fun q e=>FK e fun f l2 h2 e2 z=>k2 _ eg (List.getElem?_eq_getElem eg) q f l2 h2 e2 z
 ·have ei:i=vs.length:=Nat.le_antisymm hi (Nat.le_of_not_lt eg)
  rw[ei,List.drop_length]at e
  exact mF e fun q e=>k1 ei q e
theorem J1{n:Nm}{b:SS}(hb:fk W C k b)(a:b6 A fs k)(fo:fP env fs){p:Pos}(hk:slot env.scope n=true){body:List Stmt}(rb:ic env.scope b body){it:Value}(Dw:dJ W C A it fp At src vs aD)(jP:ah W env fs aD l h ai)(oO:bk env fs ρ s aD ai)(jf:At 0 ai.heap)
 (sf: ∀x∈fp,dr W env fs aD x∧s.heap.get? x=none) {fl:Fl} (go:bD (fun h=>bV C h src vs) (fun v l h=>ay C b (l.set n v) h) vs l h=some (fl,l',h')) {Q:Flow→Shared→Prop} (g:cY W env fs ρ s fl l' h' Q E):
 codeAny (model W.prog W.w) A (.forLoop (.Name n.str p) it body [] env) (mY W A env E Q) ai:=
 codeAny_forLoop (tq W env fs ρ s fp (fun i s=>At i s.heap) aD vs (bD (fun h=>bV C h src vs) fun v l h=>ay C b (l.set n v) h) (fl,l',h')) (fun num s2 I=>by
  obtain⟨i,aZ,l2,h2,rfl,hi,I,go⟩:=I
  refine tv hi go (fun ei hl e=> ?_) fun v eg hv hl f l5 h5 e2 z=> ?_
  ·exact Dw.fin I.S I.le hl I.at_ (List.getElem?_eq_none_iff.mpr (Nat.le_of_eq ei.symm)) fun h3 tk k3=>wpAny_execs_nil (g.of e _ aZ (I.moved k3).1 (I.moved k3).2)
  ·refine Dw.item I.S I.le hl I.at_ hv fun v' h3 tk rv k3 A8=> ?_
   obtain⟨S3,X3⟩:=I.moved (tk:=tk) k3
   refine wpAny_assign_Name (kU S3 (mQ hk) rv fun s4 S4 X4=> ?_)
   have hs: ∀x∈fp,∀o,h3.get? x=some o→s4.heap.get? x=some o:=fun x hx o e=>oM X4 (I.side x hx).1 e
   have ho: ∀x∈fp,(s4.heap.get? x).isSome:=fun x hx=>by
    obtain⟨o,ho⟩:=Option.isSome_iff_exists.mp (Dw.has _ _ A8 x hx)
    rw[hs x hx o ho];rfl
   exact hb rb e2 S4 a fo (g.loop z (X3.trans X4) a.fr fo fun cX s5 S5 X5 e5=>I.turn (X3.trans X4) ho eg S5 X5 (Dw.jS _ _ _ A8 fun x hx o e=>oM X5 (I.side x hx).1 (hs x hx o e)) e5))
  (vs.length-0) ⟨0,aD,l,h,rfl,Nat.zero_le _,⟨jP,oO,.refl _,jf,sf⟩,go⟩
theorem J2{P:Prop}{n:Nm}{it:It}{b:SS}{r:Fl×L×H}(hg: ∀x,it≠ .gen x)(e:ex C (.bK n it b) l h=some r)(k: ∀vs src h1,iter C l it h=some (vs,src,h1)→bD (fun h=>bV C h src vs) (fun v l h=>ay C b (l.set n v) h) vs l h1=some r→P):P:=by
 cases it with
 |gen x=>exact absurd rfl (hg x)
 |enum x=>exact none_ne e
 |_=>exact m3 e k
theorem oP(O:aN W mg mb)(CO:bq W C k){n:Nm}{it:It}{b:SS}(hb:fk W C k b)(hg: ∀x,it≠ .gen x):dw W C k (.bK n it b):=fun{env e l l' h h' fl} r e1=>Js.of r (J2 hg e1 fun vs src h1 e2 e3 fs ρ s A E Q S a fo g=>
 have ri:jL env.scope it (gM it (sk e 1)):= .mk (congrArg (sk · 1) r.1) (T2 (T1 (T1 r.2)))
 wpAny_For (qI O CO it ri e2 S a fun I fp At s1 aQ S1 X1 Dw jf sf=>J1 hb a fo (T1 (T1 (T1 r.2))) (.mk (congrArg sb r.1) (T2 (T1 r.2))) Dw S1 X1.toS jf sf e3 g) (s0 ri env))
end
section
variable{M:Model}{W:Wd}{mg mb:Str→Option Value}{C:Cx}{env:Env}{fs cO:List Env}{ρ ag aD bZ aO:au}{l l' l₁:L}{h h' bF hf:H}{s s' ai bj ax:Shared}{A:Around}{k:Nat}{E:Value→Shared→Prop}{fp:List Addr}{At:Nat→Heap→Prop}{src:Option V}{vs:List V}
noncomputable def kW(p ea ia:Addr)(i:Nat)(s:Shared):Prop:=(∃ij,IsEnum s.heap ea ia i ij)∧s.heap.IsListIter ia p i
theorem kW.keep {p ea ia:Addr} {i:Nat} (e:kW p ea ia i s) (k: ∀x∈[ea,ia],∀o,s.heap.get? x=some o→s'.heap.get? x=some o):kW p ea ia i s':=by
 obtain⟨⟨ij,h1⟩,o,h2,r⟩:=e
 exact⟨⟨ij,k ea (.head _) _ h1⟩,o,k ia (.tail _ (.head _)) _ h2,r⟩
theorem kW.has {p ea ia:Addr} {i:Nat} (e:kW p ea ia i s): ∀x∈[ea,ia],(s.heap.get? x).isSome:=fun x hx=>by
 obtain⟨⟨ij,h1⟩,o,h2,r⟩:=e
 rcases List.mem_cons.mp hx with rfl|hx
 ·exact(congrArg Option.isSome h1).trans rfl
 ·rw[List.mem_singleton.mp hx,h2];rfl
theorem J3{W:Wd}{env:Env}{fs:List Env}{ρ:au}{l:L}{h:H}{s:Shared}{A:Around}{E:Value→Shared→Prop}{ta:Addr}{i:Nat}{t:Nat}{v:V}{y:Value}{n m:Nm}{pn pm:Pos}{k0:Nat}{pt:Pos}{Q:Unit→Shared→Prop}(hA:A.handled=none)(S:ah W env fs ρ l h s)(hk:slot env.scope n=true)(wn:slot env.scope m=true)
 (hT:s.heap.IsTuple ta #[.int i t,y]) (ry:VR W ρ v y) (hQ: ∀s',ah W env fs ρ ((l.set n (.int (i:Int))).set m v) h s'→bk env fs ρ s ρ s'→Q () s'):wpAny (model W.prog W.w) A (assign (.Tuple [.Name n.str pn,.Name m.str pm] k0 pt) env (.ref ta)) Q E s:=by
 refine wpAny_assign_Tuple hA hT rfl rfl fun h6 k6=> ?_
 have k7: ∀b o,s.heap.get? b=some o→h6.get? b=some o:=fun b o e=>k6 b o (fun q=>by rw[q,dZ]at e;cases e) e
 refine wpAny_assignInOrder_more (wpAny_assign_Name (kU (v:= .int (i:Int)) (S.grow (s':={s with heap:=h6}) k7 rfl rfl) (mQ hk) ⟨_,rfl⟩ fun s7 S7 X7=> ?_))
 exact wpAny_assignInOrder_more (wpAny_assign_Name (kU S7 (mQ wn) ry fun s8 S8 X8=>wpAny_assignInOrder_none (hQ s8 S8 (((aY.grow (s':={s with heap:=h6}) k7 rfl).toS).trans (X7.trans X8)))))
theorem zip_get{vs:List V}{i:Nat}{q:V×Nat}(e:vs.zipIdx[i]? =some q):vs[i]? =some q.1∧q.2=i:=by
 rw[List.getElem?_zipIdx]at e
 exact mM e fun v e1 e2=>e2▸⟨e1,Nat.zero_add _⟩
theorem J4(O:aN W mg mb)(CO:bq W C k){n m:Nm}{b:SS}(hb:fk W C k b)(a:b6 A fs k)(fo:fP env fs){pn pm pt:Pos}{k0:Nat}(hk:slot env.scope n=true)(wn:slot env.scope m=true){body:List Stmt}(rb:ic env.scope b body){ea ia p:Addr}(eh:ea≠ia){v:V}(z:VR W aD v (.ref p))
 (jP:ah W env fs aD l h ai) (oO:bk env fs ρ s aD ai) (jf:kW p ea ia 0 ai) (sf: ∀x∈[ea,ia],dr W env fs aD x∧s.heap.get? x=none) {fl:Fl}
 (go:bD (fun h=>bV C h (some v) vs) (fun(p:V×Nat) l h=>ay C b ((l.set n (.int (p.2:Int))).set m p.1) h) vs.zipIdx l h=some (fl,l',h')) {Q:Flow→Shared→Prop} (g:cY W env fs ρ s fl l' h' Q E):
 codeAny (model W.prog W.w) A (.forLoop (.Tuple [.Name n.str pn,.Name m.str pm] k0 pt) (.ref ea) body [] env) (mY W A env E Q) ai:=
 codeAny_forLoop_any (tq W env fs ρ s [ea,ia] (kW p ea ia) aD vs.zipIdx (bD (fun h=>bV C h (some v) vs) fun(p:V×Nat) l h=>ay C b ((l.set n (.int (p.2:Int))).set m p.1) h) (fl,l',h')) (fun num s3 I=>by
  obtain⟨i,fi,l3,h3,rfl,hi,I,go⟩:=I
  obtain⟨⟨ij,hE⟩,hI⟩:=id I.at_
  refine tv hi go (fun ei hl e=> ?_) fun q eg hq hl f l5 h5 e2 zz=> ?_
  ·rw[List.length_zipIdx]at ei
   subst ei
   refine sP O.cl CO.cl I.S (sY hl) (z.mono I.le) fun ws hL _ rr=>wpAny_pyNext_enum_end a.hd hE hI hL (List.getElem?_toArray.trans (List.getElem?_eq_none_iff.mpr (Nat.le_of_eq rr.len.symm))) fun h4 k4=> ?_
   have kk: ∀b o,b∉[ea,ia]→s3.heap.get? b=some o→h4.get? b=some o:=fun b o nb e=>k4 b o (fun q=>nb (q▸ .tail _ (.head _))) e
   exact wpAny_execs_nil (g.of e _ fi (I.moved (tk:=s3.toks) kk).1 (I.moved (tk:=s3.toks) kk).2)
  ·refine bn (zip_get hq) fun hv J5=> ?_
   refine sP O.cl CO.cl I.S (sY hl) (z.mono I.le) fun ws hL _ rr=> ?_
   refine aA (rr.get hv) fun y hy ry=> ?_
   refine wpAny_pyNext_enum_item hE hI hL (List.getElem?_toArray.trans hy) eh fun h4 A9 J6 Ba _ k4=>wpAny_letOwnedTupleGo_enum A9 fun wo J7 b5=> ?_
   have Bb:=dZ s3.heap
   generalize s3.heap.objs.size=ta at Ba A9 Bb
   have Bc:s3.heap.get? ea=some _:=hE
   have jV:ta≠ea:=fun e=>by rw[←e,Bb]at Bc;cases Bc
   have k5: ∀b o,b∉[ea,ia]→s3.heap.get? b=some o→wo.get? b=some o:=fun b o nb e=>(b5.2 b fun q=>nb (q▸ .head _)).trans (k4 b o (fun q=>nb (q▸ .head _)) (fun q=>nb (q▸ .tail _ (.head _))) e)
   refine bn (I.moved (tk:=s3.toks+1) k5) fun S5 X5=> ?_
   have a5:kW p ea ia (i+1) {s3 with heap:=wo,toks:=s3.toks+1}:=by
    refine aA J6 fun o ho r=> ?_
    exact⟨⟨_,J7⟩,o,(b5.2 ia (fun q=>eh q.symm)).trans ho,r⟩
   refine J3 a.hd S5 hk wn (i:=i) (t:=s3.toks) ⟨_,(b5.2 ta jV).trans Ba,rfl,0,rfl⟩ ry fun s8 S8 X8=> ?_
   rw[←J5]at S8
   have kp: ∀x∈[ea,ia],∀o,wo.get? x=some o→s8.heap.get? x=some o:=fun x hx o e=>oM X8 (I.side x hx).1 e
   have a8:=a5.keep (s':=s8) kp
   exact hb rb e2 S8 a fo (g.loop zz (X5.trans X8) a.fr fo fun Qk s9 S9 X9 e9=>I.turn (X5.trans X8) a8.has eg S9 X9 (a8.keep fun x hx o e=>oM X9 (I.side x hx).1 e) e9))
  (vs.zipIdx.length-0) ⟨0,aD,l,h,rfl,Nat.zero_le _,⟨jP,oO,.refl _,jf,sf⟩,go⟩
theorem J8{P:Prop}{n m:Nm}{it:It}{b:SS}{r:Fl×L×H}(e:ex C (.kE n m it b) l h=some r)(k: ∀x v h1,it= .enum x→ev C l x h=some (v,h1)→ ∀vs,C.items h1 v=some vs→
 bD (fun h=>bV C h (some v) vs) (fun(p:V×Nat) l h=>ay C b ((l.set n (.int (p.2:Int))).set m p.1) h) vs.zipIdx l h1=some r→P):P:=by
 cases it with
 |enum x=>exact mA e fun v h1 e2 e3=>oL e3 fun vs e4 e5=>k x v h1 rfl e2 vs e4 e5
 |_=>exact none_ne e
theorem J9(O:aN W mg mb)(CO:bq W C k){n m:Nm}{it:It}{b:SS}(hb:fk W C k b):dw W C k (.kE n m it b):=fun{env e l l' h h' fl} r e1=>Js.of r (J8 e1 fun x v h1 ei e2 vs hi e3 fs ρ s A E Q S a fo g=>by
 subst ei
 have ri:jL env.scope (.enum x) (gM (.enum x) (sk e 1)):= .mk (congrArg (sk · 1) r.1) (T2 (T1 (T1 r.2)))
 have q2:aW (aB x (ad (sk e 1) 1))=true:=TR (f:=aW) (congrArg (fun e=>ad (sk e 1) 1) r.1) (T2 (T2 (T1 (T1 r.2))))
 refine wpAny_For (kP O.nm S oA (T2 (T1 (T2 (T1 (T1 r.2))))) (by decide+kernel) O.nm.enumerate (ik q2) (jd q2 (aR O CO x (.mk (congrArg (fun e=>ad (sk e 1) 1) r.1) (T1 (T1 (T2 (T1 (T1 r.2)))))) e2 S a fun v1 s1 aQ S1 X1 z1=> ?_))) (s0 ri env)
 refine FY O.cl CO.cl S1 hi z1 fun p ws z1 hl hz rr=> ?_
 refine call_enumerate_list hl fun h2 hE hI jW k2=>wpAny_pyIter_enum hE ?_
 have Bd:=dZ s1.heap
 have Be:=vQ s1.heap
 have sd: ∀x∈[s1.heap.objs.size+1,s1.heap.objs.size],dr W env fs aQ x∧s.heap.get? x=none:=fun x hx=>by
  rcases List.mem_cons.mp hx with rfl|hx
  ·exact⟨S1.fN Be,kS X1 Be⟩
  ·rw[List.mem_singleton.mp hx]
   exact⟨S1.fN Bd,kS X1 Bd⟩
 exact J4 O CO hb a fo (T1 (T1 (T1 (T1 r.2)))) (T2 (T1 (T1 (T1 r.2)))) (.mk (congrArg sb r.1) (T2 (T1 r.2))) (Nat.succ_ne_self _) z1 (S1.grow (s':={s1 with heap:=h2}) k2 rfl rfl) (X1.trans (aY.grow (s':={s1 with heap:=h2}) k2 rfl)).toS ⟨⟨_,hE⟩,hI⟩ sd e3 g)
end
section
variable{M:Model}{W:Wd}{mg mb:Str→Option Value}{C:Cx}{env:Env}{fs cO:List Env}{ρ ag aD bZ aO:au}{l l' l₁:L}{h h' bF hf:H}{s s' ai bj ax:Shared}{A:Around}{k:Nat}{E:Value→Shared→Prop}{base:Heap}{a:Addr}{cls:Value}
theorem Ka{Q:Unit→Shared→Prop}{a0:Value}{La:Addr}(x:Heap.FlyingW base fs a cls a0 s.heap)(hQ: ∀h',Heap.HeldW base fs a cls a0 La h'→s.heap.UpToSlots h'→Q () {s with heap:=h'}):
 wpAny M A (setFlight (.ref a) (some La)) Q E s:=by
 obtain⟨qK,f2,hl,oe,vs,T,oT,ts,he,qL,hd,h1,mV,jV,hT,iw,h3⟩:=x
 have qM:3<ts.size:=(Array.getElem?_eq_some_iff.mp h3).1
 have other: ∀b,b≠T→(s.heap.update T (Obj.mapFields (·.setIfInBounds 3 ((some La:Option Addr).elim Value.none fun f=>rawInt f)))).get? b=s.heap.get? b:=
  fun b hb=>Heap.get?_update_other _ _ (Ne.symm hb)
 have qN: ∀b o,s.heap.get? b=some o→(∀vs,o.data≠ .fields vs)→b≠T:=fun b o hb gv q=>by
  rw[q,hT]at hb;injection hb with hb;subst hb;exact gv ts iw
 unfold setFlight
 refine wpAny_bind (wpAny_field he hd h1 ?_)
 rw[if_pos (show(Value.ref T !=Value.none)=true from by simp)]
 refine wpAny_setField hT iw qM (hQ _ ⟨fun b o mW=>(other b fun q=>by rw[q,mV]at mW;cases mW).trans (qK b o mW),f2,
  hl.of_keeps fun b o hb gv=>⟨o,(other b (qN b o hb gv)).trans hb,rfl⟩,?_⟩ fun b o hb gv=>⟨o.slots,(other b (qN b o hb gv)).trans hb⟩)
 exact⟨oe,vs,T,_,_,(other a (Ne.symm jV)).trans he,qL,hd,h1,mV,jV,Heap.get?_update_self _ hT (Obj.isFreed_of_fields (Obj.data_mapFields iw _)),Obj.data_mapFields iw _,by simp[qM]⟩
noncomputable def HQ(W:Wd)(ag:au)(s':Shared)(Q:Flow→Shared→Prop):HF→Prop
 | .next=>Q .next s'
 | .brk=>Q .brk s'
 | .ret v=>Q (.ret (.bool v)) s'
noncomputable def mZ(W:Wd)(env:Env)(fs:List Env)(ρ:au)(s:Shared)(fl:HF)(l':L)(h':H)(Q:Flow→Shared→Prop):Prop:= ∀s' ag,ah W env fs ag l' h' s'→bk env fs ρ s ag s'→HQ W ag s' Q fl
theorem mZ.of {fl mJ:HF} {l2:L} {h2:H} {Q:Flow→Shared→Prop} (g:mZ W env fs ρ s fl l' h' Q) (e:some (mJ,l2,h2)=some (fl,l',h')):mZ W env fs ρ s mJ l2 h2 Q:=
 SP (P:=fun fl p=>mZ W env fs ρ s fl p.1 p.2 Q→mZ W env fs ρ s mJ l2 h2 Q) e id g
theorem Kb(O:aN W mg mb)(S:ah W env fs ρ l h s){b m:Nm}{e:PySem.Expr}{vb v:V}(hl:kK env.scope b=true)(hb:l b=some vb)(e2:eE h vb m=some (v,h')){Q:Value→Shared→Prop}(g:Got W env fs l ρ s v h' Q):wpAny (model W.prog W.w) A (eval (sJ b m e) env) Q E s:=
 vF rfl (vo S hl hb fun v1 s1 aQ S1 X1 z1=>sW O S1 e2 z1 (g.after X1))
theorem Kc{P:Prop}{a:HA}{r:HF×L×H}(e:oc a l h=some r)(k1: ∀x n y m,a= .dk x n y m→ ∀vy vx,l y=some vy→l x=some vx→ ∀v h1,eE h vy m=some (v,h1)→ ∀h2,dk h1 vx n v=some h2→some (HF.next,l,h2)=some r→P)(k2: ∀n v,a= .setB n v→some (HF.next,l.set n (.bool v),h)=some r→P)
 (k3:a= .brk→some (HF.brk,l,h)=some r→P) (k4: ∀v,a= .lU v→some (HF.ret v,l,h)=some r→P):P:=by
 induction a with
 |dk x n y m=>exact oV e fun vy e1 e=>oV e fun vx e2 e=>mA e fun v h1 e3 e=>oH e fun h2 e4 e=>k1 x n y m rfl vy vx e1 e2 v h1 e3 h2 e4 e
 |setB n v=>exact k2 n v rfl e
 |brk=>exact k3 rfl e
 |lU v=>exact k4 v rfl e
theorem Kd{P:Prop}{x:Option (HF×L×H)}{y:L→H→Option (HF×L×H)}{r:HF×L×H}(e:(match x with|some (.next,l,h)=>y l h|r=>r)=some r)(k1: ∀l h,x=some (.next,l,h)→y l h=some r→P)(k2:r.1≠ .next→x=some r→P):P:=by
 induction x with
 |none=>exact none_ne e
 |some p=>
  obtain⟨f,l,h⟩:=p
  induction f with
  |next=>exact k1 l h rfl e
  |_=>exact k2 (fun q=>by rw[←Option.some.inj e]at q;exact HF.noConfusion q) e
theorem Bf(O:aN W mg mb)(S:ah W env fs ρ l h s){a:HA}{e:Stmt}{fl:HF}{Q:Flow→Shared→Prop}(sd:zn env.scope a e=true)(e1:oc a l h=some (fl,l',h'))(g:mZ W env fs ρ s fl l' h' Q):wpAny (model W.prog W.w) A (exec (zk a e) env) Q E s:=by
 refine Kc e1 (fun x n y m ea vy vx h1 h2 v h3 h4 h5 h6 e=> ?_) (fun n v ea e=> ?_) (fun ea e=> ?_) fun v ea e=> ?_
 all_goals subst ea
 ·exact plainObj_wpAny_Assign_Attribute (Kb O S (T2 sd) h1 h4 fun v1 s1 aQ S1 X1 z1=>vo S1 (T1 sd) h2 fun v2 s2 aZ S2 X2 z2=>vC O S2 h6 z2 (z1.mono X2.le) fun s3 S3 X3=>g.of e s3 aZ S3 ((X1.trans X2).trans X3).toS) rfl
 ·exact wpAny_Assign_Name (wpAny_Constant_bool (kU (v:= .bool v) S (mQ sd) rfl fun s2 S2 X2=>g.of e s2 ρ S2 X2)) rfl
 ·exact wpAny_Break (g.of e s ρ S .refl)
 ·exact wpAny_Return_some (wpAny_Constant_bool (g.of e s ρ S .refl))
theorem Ke(O:aN W mg mb): ∀{st:List HA}{es:List Stmt}{s:Shared}{ρ:au}{l:L}{h:H}{fl:HF}{Q:Flow→Shared→Prop},vf env.scope st es=true→ah W env fs ρ l h s→kI st l h=some (fl,l',h')→mZ W env fs ρ s fl l' h' Q→wpAny (model W.prog W.w) A (execs (qe st es) env) Q E s:=by
 intro st
 induction st with
 |nil=>intro es s ρ l h fl Q sd S e1 g;exact wpAny_execs_nil (g.of e1 s ρ S .refl)
 |cons a r ih=>
  intro es s ρ l h fl Q sd S e1 g
  refine Kd e1 (fun l1 h1 e2 e3=>wpAny_execs_cons (Bf O S (T1 sd) e2 fun s1 aQ S1 X1=>ih (T2 sd) S1 e3 fun s2 aZ S2 X2=>g s2 aZ S2 (X1.trans X2))) fun ne e2=>wpAny_execs_cons (Bf O S (T1 sd) e2 fun s1 aQ S1 X1=> ?_)
  induction fl with
  |next=>exact absurd rfl ne
  |brk=>exact g s1 aQ S1 X1
  |ret v=>exact g s1 aQ S1 X1
end
set_option backward.match.sparseCases true
section
theorem Kf{prog:Program}{w:World}{A:Around}{E:Value→Shared→Prop}{s:Shared}{e D Cc:Addr}{b:Bool}{Q:Bool→Shared→Prop}
 (L1:Looks (model prog w) s.heap (isInstance (.ref D) (.type "tuple")) false) (L2:Looks (model prog w) s.heap (isType (.ref D)) true) (L3:Looks (model prog w) s.heap (isSubtype (.ref D) (.type "BaseException")) true)
 (L4:Looks (model prog w) s.heap (typeOf (.ref e)) (.ref Cc)) (L5:Looks (model prog w) s.heap (isSubtype (.ref Cc) (.ref D)) b) (q:Q b s):wpAny (model prog w) A (excMatches (.ref e) (.ref D)) Q E s:=by
 obtain⟨hh,g,d,t,os⟩:=s
 dsimp only at L1 L2 L3 L4 L5
 unfold excMatches isExcClass
 refine wpAny_bind (L1.at ?_)
 dsimp only
 refine wpAny_bind (wpAny_pure ?_)
 simp only[List.forIn_cons,List.forIn_nil]
 refine wpAny_bind (wpAny_bind (wpAny_bind (wpAny_bind (L2.at ?_))))
 rw[if_pos rfl]
 refine L3.at ?_
 rw[if_neg (by decide)]
 refine wpAny_pure (wpAny_pure ?_)
 refine wpAny_bind (L4.at (wpAny_bind (wpAny_bind (wpAny_bind (L5.at ?_)))))
 cases b
 ·exact wpAny_pure (wpAny_pure (wpAny_pure q))
 ·exact wpAny_pure (wpAny_pure (wpAny_pure q))
theorem Kg{prog:Program}{w:World}{A:Around}{E:Value→Shared→Prop}{s:Shared}{D:Addr}{Q:PySem.Fin→Shared→Prop}
 (L0:Looks (model prog w) s.heap (typeOf (.ref D)) (.type "type")) (L2:Looks (model prog w) s.heap (isType (.ref D)) true) (L5:Looks (model prog w) s.heap (isSubtype (.ref D) (.ref D)) true)
 (hq:Q (.done (.ret (.bool true))) s):wpAny (model prog w) A (Builtin.«issubclass.nested» ⟨[.ref D,.ref D,rawInt 0],[]⟩) Q E s:=by
 obtain⟨hh,g,d,t,os⟩:=s
 dsimp only at L0 L2 L5
 unfold Builtin.«issubclass.nested»
 repeat (first|assumption|lk)
theorem Kh{prog:Program}{w:World}{A:Around}{E:Value→Shared→Prop}{s:Shared}{D:Addr}{Q:Value→Shared→Prop}
 (L0:Looks (model prog w) s.heap (typeOf (.ref D)) (.type "type")) (L2:Looks (model prog w) s.heap (isType (.ref D)) true) (L5:Looks (model prog w) s.heap (isSubtype (.ref D) (.ref D)) true)
 (hq:Q (.bool true) s):wpAny (model prog w) A (call (.builtin "issubclass") [.ref D,.ref D]) Q E s:=by
 refine call_function_any F.kind_issubclass F.plain_issubclass F.entry_issubclass (F.args_issubclass_2 _ _) ?_
 refine issubclass_outer (R:=fun r s'=>match r with| .ok (.ret v)=>Q v s'| .ok _=>False| .error e=>E e s') ?_
 exact Kg L0 L2 L5 hq
theorem Ki{prog:Program}{w:World}{A:Around}{E:Value→Shared→Prop}{s:Shared}{env:Env}{D:Addr}{x:Sem Value}{Q:Flow→Shared→Prop}(hh:A.handled=none)
 (hx:wpAny (model prog w) A x (fun v ai=>v= .ref D∧Looks (model prog w) ai.heap (isType (.ref D)) true∧Looks (model prog w) ai.heap (isSubtype (.ref D) (.type "BaseException")) true∧Looks (model prog w) ai.heap (typeOf (.ref D)) (.type "type")∧Looks (model prog w) ai.heap (isSubtype (.ref D) (.ref D)) true∧
  wpAny (model prog w) A (call (.ref D) []) (fun r bj=> ∃e t,r= .ref e∧(∀b o,ai.heap.get? b=some o→bj.heap.get? b=some o)∧bj.heap.get? e=some {cls:= .ref D,data:= .fields #[.ref t,.none,.none,.none,.bool false,.none]}∧E (.ref e) bj) E ai) E s):
 wpAny (model prog w) A (raiseStmt env (some x) none) Q E s:=by
 unfold raiseStmt
 dsimp only
 refine wpAny_bind (wpAny_mono hx (fun v ai bF=> ?_) fun _ _ e=>e)
 obtain⟨rfl,L2,L3,L0,L5,bF⟩:=bF
 refine wpAny_bind (wpAny_pure ?_)
 dsimp only
 refine wpAny_bind (wpAny_holding ?_)
 unfold excFromValue isExcClass
 refine wpAny_bind (wpAny_bind (L2.here ?_))
 rw[if_pos rfl]
 refine L3.here ?_
 rw[if_pos rfl]
 refine wpAny_bind (wpAny_mono bF (fun r bj vU=> ?_) fun _ _ e=>e)
 (refine rV vU fun e t wp kk he hE=> ?_;obtain rfl:=wp)
 have LT:Looks (model prog w) bj.heap (typeOf (.ref e)) (.ref D):=(Looks.ld he).andThen .now
 have LI:Looks (model prog w) bj.heap (isInstance (.ref e) (.type "BaseException")) true:=LT.andThen (L3.keeps kk)
 refine wpAny_bind (LI.here ?_)
 rw[if_neg (by decide)]
 refine wpAny_pure ?_
 refine wpAny_bind ((L2.keeps kk).here ?_)
 rw[if_pos rfl]
 refine wpAny_bind (wpAny_holding ?_)
 unfold raisedFor
 rw[if_neg (by decide)]
 refine wpAny_bind (LT.here (wpAny_bind ?_))
 refine Kh (L0.keeps kk) (L2.keeps kk) (L5.keeps kk) (wpAny_bind (wpAny_truthy_bool ?_))
 dsimp only
 rw[if_pos rfl]
 refine wpAny_pure ?_
 unfold setFlight raiseNew
 refine wpAny_bind (wpAny_bind (wpAny_field (i:=1) (x:=Value.none) he rfl rfl ?_))
 rw[if_neg (by decide)]
 refine wpAny_pure (wpAny_bind (wpAny_handled ?_))
 rw[hh]
 first
  |exact wpAny_throw hE
  |exact wpAny_bind (wpAny_pure (wpAny_throw hE))
theorem Bg{prog:Program}{w:World}{A:Around}{E:Value→Shared→Prop}{s:Shared}{env:Env}{D:Addr}{x:Sem Value}{Q:Flow→Shared→Prop}(hh:A.handled=none)
 (hx:wpAny (model prog w) A x (fun v ai=> ∃e t,v= .ref e∧ai.heap.get? e=some {cls:= .ref D,data:= .fields #[.ref t,.none,.none,.none,.bool false,.none]}∧Looks (model prog w) ai.heap (isSubtype (.ref D) (.type "BaseException")) true∧Looks (model prog w) ai.heap (typeOf (.ref D)) (.type "type")∧E (.ref e) ai) E s):
 wpAny (model prog w) A (raiseStmt env (some x) none) Q E s:=by
 unfold raiseStmt
 dsimp only
 refine wpAny_bind (wpAny_mono hx (fun v ai bF=> ?_) fun _ _ e=>e)
 (refine pO bF fun e t qO he L3 L0 hE=> ?_;obtain rfl:=qO)
 have LN:Looks (model prog w) ai.heap (isType (.ref e)) false:=(Looks.ld he).andThen .now
 have LT:Looks (model prog w) ai.heap (typeOf (.ref e)) (.ref D):=(Looks.ld he).andThen .now
 have LI:Looks (model prog w) ai.heap (isInstance (.ref e) (.type "BaseException")) true:=LT.andThen L3
 refine wpAny_bind (wpAny_pure ?_)
 dsimp only
 refine wpAny_bind (wpAny_holding ?_)
 unfold excFromValue isExcClass
 refine wpAny_bind (wpAny_bind (LN.here ?_))
 rw[if_neg (by decide)]
 refine wpAny_pure ?_
 rw[if_neg (by decide)]
 refine wpAny_bind (LI.here ?_)
 rw[if_pos rfl]
 refine wpAny_pure ?_
 refine wpAny_bind (LN.here ?_)
 rw[if_neg (by decide)]
 unfold raisedInstance
 refine wpAny_bind (wpAny_bind (LT.here (wpAny_bind (L0.here ?_))))
 rw[if_pos (by decide)]
 refine wpAny_pure ?_
 unfold setFlight raiseNew
 refine wpAny_bind (wpAny_bind (wpAny_field (i:=1) (x:=Value.none) he rfl rfl ?_))
 rw[if_neg (by decide)]
 refine wpAny_pure (wpAny_bind (wpAny_handled ?_))
 rw[hh]
 first
  |exact wpAny_throw hE
  |exact wpAny_bind (wpAny_pure (wpAny_throw hE))
end
set_option backward.match.sparseCases false
section
variable{M:Model}{W:Wd}{mg mb:Str→Option Value}{C:Cx}{env:Env}{fs cO:List Env}{ρ ag aD bZ aO:au}{l l' l₁:L}{h h' bF hf:H}{s s' ai bj ax:Shared}{A:Around}{k:Nat}{E:Value→Shared→Prop}{base:Heap}{a:Addr}{cls:Value}
theorem Bh(S:ah W env fs ρ l h s)(X:bk env fs aO ax ρ s)(fo:fP env fs){c:Cl}{h2:Heap}{e:Addr}{args:List Value}(hm:Heap.MadeExcOf s.heap h2 e (.ref (W.bc c)) args):
 ah W env fs ρ l h {s with heap:=h2}∧bk env fs aO ax ρ {s with heap:=h2}∧gP W env fs ρ ax c (.ref e) {s with heap:=h2}:=by
 have S2:ah W env fs ρ l h {s with heap:=h2}:=S.grow hm.keeps rfl rfl
 have X2:bk env fs aO ax ρ {s with heap:=h2}:=X.trans (aY.grow (s:=s) (s':={s with heap:=h2}) hm.keeps rfl).toS
 have Kj: ∀env∈fs,∀a,env.frame=some a→a∈frames fs:=fun env he a hf=>List.mem_filterMap.mpr ⟨env,he,hf⟩
 refine ck hm.there fun t he Ql ht=> ?_
 refine⟨S2,X2,hideAll s.heap (frames fs),e,env.locals,rfl,fo.2,⟨fun b o q=>hideAll_get _ (S.cL _ _ q) fun hb=> ?_,fun b hb hn=> ?_⟩,.inl ⟨fun b o q=>hm.keeps _ _ (of_hideAll _ q),?_,?_,?_⟩⟩
 ·rw[(S.ff.mem hb).1]at q;cases q
 ·have:(s.heap.get? b).isSome=true:=by
   rcases hb with hb|⟨i,x,dx,e,z⟩
   ·exact X.de b hb
   ·refine bn (S.dq i x dx e) fun d1 d2=> ?_
    rcases z with rfl|rfl
    ·exact d1
    ·exact d2
  refine br (Option.isSome_iff_exists.mp this) fun o ho=> ?_
  show _=h2.get? b
  rw[hm.keeps _ _ ho]
  exact hideAll_get _ ho hn
 ·cases z:(hideAll s.heap (frames fs)).get? e with
  |none=>rfl
  |some o=>have:=of_hideAll _ z;rw[hm.new]at this;cases this
 ·exact(funFrames_hide S.ff Kj).of_keeps fun b o e _=>⟨o,hm.keeps _ _ e,rfl⟩
 ·exact⟨_,_,_,he,rfl,rfl,rfl,rfl⟩
theorem wq(O:aN W mg mb)(S:ah W env fs ρ l h s){c:Cl}(hc:cB c=true)(M:Model):Looks M s.heap (isType (.ref (W.bc c))) true∧Looks M s.heap (isSubtype (.ref (W.bc c)) (.type "BaseException")) true∧Looks M s.heap (typeOf (.ref (W.bc c))) (.type "type"):=by
 refine⟨?_,looks_mroIn (S.K O) (O.exc.base c hc),looks_typeIn (S.K O) (O.exc.typ c hc)⟩
 refine br (Option.isSome_iff_exists.mp (O.exc.kG c hc)) fun cd tx=> ?_
 unfold clsIn at tx
 split at tx
 ·rename_i ho
  exact(Looks.ld (S.K O _ _ ho)).andThen .now
 ·cases tx
theorem Kk(c:Cl):sub c c=true:=by induction c<;>rfl
theorem Kl(O:aN W mg mb)(CO:bq W C k){x:X}:dw W C k (.iV x):=fun r e1=>Js.of r (mC e1 fun c h1 e2 e3=>mF e3 fun hc e4 fs ρ s A E Q S a fo g=>by
 refine(arm_exec_Raise ..).symm▸wpAny_bind (wpAny_standAt (Ki (D:=W.bc c) a.hd (wpAny_bind (aR O CO x (.mk (congrArg (sk · 0) r.1) (T1 r.2)) e2 S a fun v1 s1 aQ S1 X1 q1=>wpAny_bind (wpAny_standAt (wpAny_pure ?_))))))
 refine cH (wq O S1 hc (model W.prog W.w)) fun L1 L2 L3=> ?_
 refine⟨q1,L1,L2,L3,looks_mroIn (S1.K O) ((O.exc.sub c c hc hc).trans (congrArg some (Kk c))),O.exc.call c hc S1.cL (Nat.zero_le _) fun h2 e hm=> ?_⟩
 refine ck hm.there fun t he _ _=> ?_
 refine cH (Bh S1 X1.toS fo hm) fun S2 X2 x2=> ?_
 exact⟨e,t,rfl,hm.keeps,he,g.of e4 _ _ aQ S2 X2 x2⟩)
theorem Bi(O:aN W mg mb){a:V}{c:Cl}{n:Nm}(hb:eE h a n=some (.cls c,h')){P:Prop}(k1: ∀i at_,inst? h a=some (i,at_)→own n at_=some (.cls c)→bJ .ao n=none→P)
 (k2: ∀i at_,inst? h a=some (i,at_)→own n at_=none→findIn W.K (.ref (W.bc .ao)) n.str=some (some (.ref (W.bc c)))→specialIn W.K (.ref (W.bc c)) "__get__" =some none→P):P:=
 mP hb fun i at_ e hb=>by
  cases q:own n at_ with
  |some u=>
   rw[q]at hb
   exact mF hb fun e3 e4=>k1 i at_ e (q.trans (congrArg (fun p=>some p.1) (Option.some.inj e4))) e3
  |none=>
   rw[q]at hb
   refine zd hb (fun f e3 e4=>V.noConfusion (congrArg Prod.fst (Option.some.inj e4))) fun u e3 ne e4=> ?_
   refine ck (O.vw n u e3 ne) fun b h1 h2 h3=> ?_
   obtain rfl:u= .cls c:=congrArg Prod.fst (Option.some.inj e4)
   obtain rfl:b= .ref (W.bc c):=h3 (fun _=>none)
   exact k2 i at_ e q h1 h2
theorem Km(O:aN W mg mb)(S:ah W env fs ρ l h s){a:V}{c:Cl}{a':Value}{n:Nm}(hc:cB c=true)(hb:eE h a n=some (.cls c,h'))(ra:VR W ρ a a'){pl:Sem Bool}{Q:Value×List Value→Shared→Prop}
 (g: ∀s' ag,ah W env fs ag l h' s'→aY env fs ρ s ag s'→Q (.ref (W.bc c),[]) s'):wpAny (model W.prog W.w) A (getMethod a' n.str pl) Q E s:=by
 have ga: ∀{A E},wpAny (model W.prog W.w) A (getAttr a' n.str false) (fun v=>Q (v,[])) E s:=sW O S hb ra fun v' s' ag S' X' r=>(show v'= .ref (W.bc c)from r)▸g s' ag S' X'
 refine Bi (W:=W) O hb (fun i at_ e _ e3=> ?_) fun i at_ e _ h1 h2=> ?_
 ·revert ga
  exact S.inst e ra fun x dx es nn _ I ga=>method_usual (S.K O) I.I (plainGet_of O.pg).1 (plainGet_of O.pg).2 (O.mq n e3) rfl ga
 ·revert ga
  refine S.inst e ra fun x dx es nn _ I ga=>method_usual (S.K O) I.I (plainGet_of O.pg).1 (plainGet_of O.pg).2 h1 ?_ ga
  show(typeIn W.K (.ref (W.bc c))).any _=true
  rw[O.exc.typ c hc]
  decide
theorem Bj{pos:Pos}{b:PySem.Expr}{f:Value}{prog:Program}{w:World}{Q:Args→Shared→Prop}(hp:aW b=true)(hh:wpAny (model prog w) A (eval b env) (fun v ai=>Q ⟨[v],[]⟩ ai) E s):
 wpAny (model prog w) A (evalArgs f true (backTo pos (starEach [b] env)) []) Q E s:=by
 have:=jd (pos:=pos) hp hh (Q:=fun vs s=>Q ⟨vs,[]⟩ s)
 rw[jc hp]at this⊢
 exact evalArgs_plain this
theorem Bk(O:aN W mg mb)(S:ah W env fs ρ l h s)(X:bk env fs aO ax ρ s)(fo:fP env fs){c:Cl}(hc:cB c=true){v:Value}{pos:Pos}
 (g: ∀e s',ah W env fs ρ l h s'→bk env fs aO ax ρ s'→gP W env fs ρ ax c e s'→E e s'):
 wpAny (model W.prog W.w) A (call (.ref (W.bc c)) [v]) (fun r ai=> ∃e t,r= .ref e∧ai.heap.get? e=some {cls:= .ref (W.bc c),data:= .fields #[.ref t,.none,.none,.none,.bool false,.none]}∧Looks (model W.prog W.w) ai.heap (isSubtype (.ref (W.bc c)) (.type "BaseException")) true∧Looks (model W.prog W.w) ai.heap (typeOf (.ref (W.bc c))) (.type "type")∧E (.ref e) ai) E s:=by
 refine O.exc.call c hc S.cL (by simp) fun h2 e hm=> ?_
 refine ck hm.there fun t he _ _=> ?_
 refine cH (Bh S X fo hm) fun S2 X2 x2=> ?_
 refine cH (wq O S2 hc (model W.prog W.w)) fun L1 L2 L3=> ?_
 exact⟨e,t,rfl,he,L2,L3,g _ _ S2 X2 x2⟩
theorem Bl{P:Prop}{x:Option (V×H)}{y:H→Option (V×H)}{l:L}{r:Fl×L×H}(e:(match x with|some (.cls c,h)=>if cB c then(match y h with|some (_,h)=>some (Fl.exc c,l,h)|none=>none)else none|_=>none)=some r)
 (k: ∀c h1 v h2,x=some (.cls c,h1)→cB c=true→y h1=some (v,h2)→some (Fl.exc c,l,h2)=some r→P):P:=mC e fun c h1 e2 e3=>mF e3 fun hc e4=>mA e4 fun v h2 e5 e6=>k c h1 v h2 e2 hc e5 e6
theorem Kn(O:aN W mg mb)(CO:bq W C k){x y:X}:dw W C k (.lV x y):=fun{env e l l' h h' fl} r e1=>Js.of r (Bl e1 fun c h1 v h2 e2 hc e3 e4 fs ρ s A E Q S a fo g=>by
 have pb:aW (aB y (ad (sk e 0) 1))=true:=TR (f:=aW) (congrArg (fun e=>ad (sk e 0) 1) r.1) (T2 (T1 r.2))
 have nm:sF (aB x (ad (sk e 0) 0))=true:=TR (f:=sF) (congrArg (fun e=>ad (sk e 0) 0) r.1) (T2 r.2)
 have na:(!oi (aB x (ad (sk e 0) 0)))=true:=by
  rw[oi,Nat.eq_of_beq_eq_true (show Nat.beq (i5 _) 6=true from nm)];rfl
 refine(arm_exec_Raise ..).symm▸wpAny_bind (wpAny_standAt (Bg (D:=W.bc c) a.hd (wpAny_bind ?_)))
 show wpAny _ _ (eval (.Call _ [_] [] _) env) _ _ _
 rw[AI na]
 refine wpAny_bind (aR O CO x (.mk (congrArg (fun e=>ad (sk e 0) 0) r.1) (T1 (T1 (T1 r.2)))) e2 S a fun v1 s1 aQ S1 X1 q1=> ?_)
 obtain rfl:v1= .ref (W.bc c):=q1
 exact callWith_of (P:=W.K.In) (by rw[jQ (ik pb)];rfl) (keeps_K (O.exc.keep c hc)) (Bj pb (aR O CO y (.mk (congrArg (fun e=>ad (sk e 0) 1) r.1) (T2 (T1 (T1 r.2)))) e3 S1 a fun v2 s2 aZ S2 X2 q2=>⟨S2.K O,
  wpAny_mono (Bk (pos:=e.pos) O S2 (X1.trans X2).toS fo hc fun e s' S' X' x'=>g.of e4 e s' aZ S' X' x') (fun r s3 h3=>wpAny_bind (wpAny_standAt (wpAny_pure h3))) fun _ _ q=>q⟩)))
theorem Ko(O:aN W mg mb)(CO:bq W C k){x:X}{n:Nm}{y:X}:dw W C k (.n5 x n y):=fun{env e l l' h h' fl} r e1=>Js.of r (Bl e1 fun c h1 v h2 e2 hc e3 e4=>mA e2 fun u h0 e0 e5 fs ρ s A E Q S a fo g=>by
 have pb:aW (aB y (ad (sk e 0) 1))=true:=TR (f:=aW) (congrArg (fun e=>ad (sk e 0) 1) r.1) (T2 r.2)
 refine(arm_exec_Raise ..).symm▸wpAny_bind (wpAny_standAt (Bg (D:=W.bc c) a.hd (wpAny_bind ?_)))
 show wpAny _ _ (eval (.Call (.Attribute _ n.str _) [_] [] _) env) _ _ _
 refine vT (oD (T2 (T1 r.2)) (congrArg (fun e=>ad (ad (sk e 0) 0) 0) r.1)) (T2 (T2 (T1 r.2))) (Ag (ik pb) (Nat.le_of_ble_eq_true rfl)) (aR O CO x (.mk (congrArg (fun e=>ad (ad (sk e 0) 0) 0) r.1) (T1 (T1 (T1 r.2)))) e0 S a fun v1 s1 aQ S1 X1 q1 pl=>Km O S1 hc e5 q1 fun s2 aZ S2 X2=> ?_)
 exact callWith_of (P:=W.K.In) (by rw[jQ (ik pb)];rfl) (keeps_K (O.exc.keep c hc)) (Bj pb (aR O CO y (.mk (congrArg (fun e=>ad (sk e 0) 1) r.1) (T2 (T1 (T1 r.2)))) e3 S2 a fun v3 s3 fi S3 X3 q3=>⟨S3.K O,
  wpAny_mono (Bk (pos:=e.pos) O S3 ((X1.trans X2).trans X3).toS fo hc fun e s' S' X' x'=>g.of e4 e s' fi S' X' x') (fun r s3 h3=>wpAny_bind (wpAny_standAt (wpAny_pure h3))) fun _ _ q=>q⟩)))
end
section
variable{M:Model}{W:Wd}{mg mb:Str→Option Value}{C:Cx}{env:Env}{fs cO:List Env}{ρ ag aD bZ aO:au}{l l' l₁:L}{h h' bF hf:H}{s s' ai bj ax:Shared}{A:Around}{k:Nat}{E:Value→Shared→Prop}{base:Heap}{a:Addr}{cls:Value}
theorem Kp(O:aN W mg mb)(S:ah W env fs ρ l h s){a:V}{c:Cl}{a':Value}{n:Nm}(hb:eE h a n=some (.cls c,h'))(ra:VR W ρ a a'){expr:Bool}{Q:Value→Shared→Prop}
 (g:Q (.ref (W.bc c)) {s with toks:=s.toks+1}):wpAny (model W.prog W.w) A (getAttr a' n.str expr) Q E s:=by
 refine Bi (W:=W) O hb (fun i at_ e q e3=>S.inst e ra fun x dx es nn _ I=>I.own q fun v' rv gl=> ?_) fun i at_ e q h1 h2=>S.inst e ra fun x dx es nn _ I=> ?_
 ·obtain rfl:v'= .ref (W.bc c):=rv
  exact get_value (S.K O) I.I (plainGet_of O.pg).1 (findObj_own O.hd (O.mq n e3) rfl gl) rfl g
 ·exact get_value (S.K O) I.I (plainGet_of O.pg).1 (findObj_cls O.hd h1 h2 rfl (vz n) (I.none q)) rfl g
theorem Kq{P:Prop}{x:Option V}{γ:Type}{f:Cl→Option γ}{r:γ}(e:(match se x with|some d=>f d|none=>none)=some r)(k: ∀d,x=some (.cls d)→f d=some r→P):P:=by
 induction x with
 |none=>exact none_ne e
 |some v=>
  induction v with
  |cls d=>exact k d rfl e
  |_=>exact none_ne e
theorem Kr(O:aN W mg mb)(S:ah W env fs ρ l h s){t:HT}{e:PySem.Expr}{c:Cl}(sd:zm env.scope t e=true)(e1:lY l h t=some (.cls c)){Q:Value→Shared→Prop}(g: ∀tk,Q (.ref (W.bc c)) {s with toks:=tk}):
 wpAny (model W.prog W.w) A (eval (zj t e) env) Q E s:=by
 induction t with
 |at_ b m=>
  refine oV e1 fun vb hb e2=>mM e2 fun p e3 e4=> ?_
  obtain⟨w,h2⟩:=p
  obtain rfl:w= .cls c:=e4
  exact vF rfl (vn S sd hb fun v' rv=>Kp O S e3 rv (g _))
 |gl n=>
  refine aA (O.nm.glob n _ e1) fun v' rv hv=> ?_
  obtain rfl:v'= .ref (W.bc c):=rv ρ
  exact qp O.nm S sd (vm n) hv (g s.toks)
noncomputable def Bm(W:Wd)(env:Env)(fs:List Env)(ρ:au)(ax:Shared)(c:Cl)(e:Addr)(s:Shared):Prop:= ∃base x0,ou W env fs ρ ax base s∧Heap.FlyingW base fs e (.ref (W.bc c)) x0 s.heap
theorem Ks(fo:fP env fs){c:Cl}{e:Addr}{Q:Flow→Shared→Prop}(S:ah W env fs ρ l h s)(X:bk env fs aO ax ρ s)(F:Bm W env fs ρ ax c e s)(g:cY W env fs aO ax (.exc c) l h Q E):wpAny (model W.prog W.w) A (handleBy (.ref e) env []) Q E s:=by
 refine cQ F fun base x0 B F=> ?_
 refine wpAny_handleBy_nil ?_
 unfold PySem.passOn
 obtain⟨qK,f2,hl,oe,vs,T,oT,ts,he,qL,hd,h1,mV,jV,hT,iw,h3⟩:=id F
 refine wpAny_bind (wpAny_field he hd h1 ?_)
 rw[if_neg (by simp),fo.2]
 refine wpAny_bind (Ka F fun h2 hh k2=>wpAny_throw ?_)
 refine cH (moved S X B hh.1 k2) fun S2 X2 B2=> ?_
 exact g _ _ ρ S2 X2 ⟨base,e,env.locals,rfl,fo.2,B2,.inr (.inr ⟨x0,hh⟩)⟩
theorem Kt{P:Prop}{c:Cl}{t:HT}{b:List HA}{r:HS}{q:Fl×L×H}(e:hN c (.cons t b r) l h=some q)(k1: ∀d,lY l h t=some (.cls d)→cB d=true→sub c d=true→ ∀f l2 h2,kI b l h=some (f,l2,h2)→some (f.fl,l2,h2)=some q→P)
 (k2: ∀d,lY l h t=some (.cls d)→cB d=true→sub c d=false→hN c r l h=some q→P):P:=
 Kq e fun d ed e=>mF e fun hd e=>oh e (fun hs e=>mM e fun p e1 e2=>k1 d ed hd hs p.1 p.2.1 p.2.2 e1 (congrArg some e2)) fun hs e=>k2 d ed hd (Bool.eq_false_iff.mpr hs) e
theorem Bn(O:aN W mg mb)(fo:fP env fs){c:Cl}(hc:cB c=true){e:Addr}: ∀{hs:HS}{hl:List ExceptHandler}{s:Shared}{ρ:au}{l:L}{h:H}{fl:Fl}{Q:Flow→Shared→Prop},sK env.scope hs hl=true→hY hs hl=hl→ah W env fs ρ l h s→bk env fs aO ax ρ s→
 Bm W env fs ρ ax c e s→hN c hs l h=some (fl,l',h')→cY W env fs aO ax fl l' h' Q E→wpAny (model W.prog W.w) A (handleBy (.ref e) env (hY hs hl)) Q E s
 | .nil,hl,s,ρ,l,h,fl,Q,sd,dn,S,X,F,e1,g=>Ks fo S X F (g.of e1)
 | .cons t b r,hl,s,ρ,l,h,fl,Q,sd,dn,S,X,F,e1,g=>by
  have nil:(!(qe b (hx hl).b).isEmpty)=true:=TR (f:=fun x:List ExceptHandler=> !(hx x).b.isEmpty) dn (T2 sd)
  refine wpAny_handleBy_cons ?_ (by intro q;cases q)
  refine Kt e1 (fun d ed hd hs f l2 h2 e2 e3=> ?_) fun d ed hd hs e2=> ?_
  all_goals
   refine codeAny_handlers_test (Kr O S (T1 (T1 (T1 sd))) ed fun tk=> ?_)
   have S1:=S.toks tk
   have X1:=X.trans (aY.toks tk).toS
   refine cH (wq O S1 hd (model W.prog W.w)) fun L1 L2 L3=> ?_
   refine cQ F fun base x0 B F=> ?_
   refine aA F.there fun ob Ku Kv=> ?_
   refine Kf (looks_instIn (S1.K O) (O.exc.tup d hd)) L1 L2 (Kv▸(Looks.ld Ku).andThen .now) (looks_mroIn (S1.K O) (O.exc.sub c d hc hd)) ?_
   rw[hs]
  ·show codeAny _ _ _ _ _
   generalize hb:qe b (hx hl).b=Kw at nil
   induction Kw with
   |nil=>exact nope nil
   |cons b0 bs=>
    refine codeAny_handlers_suite (lands_againW F fun h3 F2 k2=> ?_)
    refine cH (moved S1 X1 B F2.1 k2) fun S2 X2 B2=> ?_
    rw[←hb]
    refine Ke O (T2 (T1 (T1 sd))) S2 e2 fun s3 fi S3 X3=> ?_
    have g2:=g.of e3
    induction f with
    |next=>exact g2 s3 fi S3 (X2.trans X3)
    |brk=>exact g2 s3 fi S3 (X2.trans X3)
    |ret v=>exact g2 (.bool v) s3 fi S3 (X2.trans X3) rfl
  ·exact Bn O fo hc (T2 (T1 sd)) (congrArg List.tail dn) S1 X1 ⟨base,x0,B,F⟩ e2 g
theorem Kx{P:Prop}{hs:HS}{x:Option (Fl×L×H)}{r:Fl×L×H}(e:sg hs x=some r)(k1: ∀c l h,x=some (.exc c,l,h)→cB c=true→hN c hs l h=some r→P)(k2:(∀c,r.1≠ .exc c)→x=some r→P):P:=by
 induction x with
 |none=>exact none_ne e
 |some p=>
  obtain⟨f,l,h⟩:=p
  induction f with
  |exc c=>exact mF e fun hc e=>k1 c l h rfl hc e
  |_=>exact k2 (fun c q=>by rw[←Option.some.inj e]at q;exact Fl.noConfusion q) e
theorem Ky(O:aN W mg mb)(fq:A.frames=some fs)(fo:fP env fs){c:Cl}(hc:cB c=true){hs:HS}{hl:List ExceptHandler}{fl:Fl}{Q:Flow→Shared→Prop}(sd:sK env.scope hs hl=true)(dn:hY hs hl=hl)(S:ah W env fs ρ l h s)(X:bk env fs aO ax ρ s){ev:Value}(x:gP W env fs ρ ax c ev s)
 (e1:hN c hs l h=some (fl,l',h')) (g:cY W env fs aO ax fl l' h' Q E):wpAny (model W.prog W.w) A (noteFrame ev env) (fun _ bj=>wpAny (model W.prog W.w) A (setFlight ev none) (fun _ kN=>wpAny (model W.prog W.w) A (handleBy ev env (hY hs hl)) Q E kN) E bj) E s:=by
 (refine bn (id fo) fun wk hL=> ?_;obtain⟨cO,rfl⟩:=wk)
 (refine nW x fun base e L Kz hf B st=> ?_;obtain rfl:=Kz)
 have mX: ∀h2 a0,Heap.HeldW base (env::cO) e (.ref (W.bc c)) a0 L h2→s.heap.UpToSlots h2→wpAny (model W.prog W.w) A (setFlight (.ref e) none) (fun _ kN=>wpAny (model W.prog W.w) A (handleBy (.ref e) env (hY hs hl)) Q E kN) E {s with heap:=h2}:=by
  intro h2 a0 hh k2
  refine cH (moved S X B hh.1 k2) fun S2 X2 B2=> ?_
  refine wpAny_landsW hh fun h3 F3 k3=> ?_
  refine cH (moved S2 X2 B2 F3.1 k3) fun S3 X3 B3=> ?_
  exact Bn O fo hc sd dn S3 X3 ⟨base,a0,B3,F3⟩ e1 g
 rcases st with st|⟨a0,st⟩|⟨a0,st⟩
 ·exact A6 fq hf st fun h2 a0 hh k2=>mX h2 a0 hh k2
 ·exact wpAny_looks_onW fq hf st fun h2 hh k2=>mX h2 a0 hh k2
 ·exact wpAny_noteFrame_againW hf st.2.2.2 (mX s.heap a0 st (.refl _))
theorem KA(O:aN W mg mb)(CO:bq W C k){b:SS}{hs:HS}(hb:fk W C k b):dw W C k (.eZ b hs):=fun{env e l l' h h' fl} r e1=>Js.of r fun fs ρ s A E Q S a fo g=>by
 have rb:ic env.scope b (fK b (sb e)):= .mk (congrArg sb r.1) (T1 (T1 r.2))
 have dn:hY hs (sx e).hs=(sx e).hs:=congrArg (fun e=>(sx e).hs) r.1
 have ne:(!(hY hs (sx e).hs).isEmpty)=true:=TR (f:=fun x:List ExceptHandler=> !x.isEmpty) dn (T2 r.2)
 have sd:=T2 (T1 r.2)
 show wpAny _ _ (exec (.Try (fK b (sb e)) (hY hs (sx e).hs) [] [] e.pos) env) _ _ _
 generalize hh:hY hs (sx e).hs=hl at ne
 induction hl with
 |nil=>exact nope ne
 |cons h0 hr=>
  refine wpAny_Try_except ?_
  rw[←hh]
  refine Kx e1 (fun c l1 h1 e2 hc e3=>hb rb e2 S a fo fun ev s1 aQ S1 X1 x1=>Ky O a.fr fo hc sd dn S1 X1 x1 e3 g) fun ne e2=>hb rb e2 S a fo ?_
  induction fl with
  |next=>exact fun s' ag S' X'=>wpAny_execs_nil (g s' ag S' X')
  |exc c=>exact absurd rfl (ne c)
  |_=>exact g
end
end CC
namespace CC
open PySem PySem.W PySem.Calls PyProof.Rows PySem.W.KBw
theorem KB:entryFor table "proto.yield_from" =some Builtin.«proto.yield_from»:=entryFor_of_tree (by kernel_rfl)
noncomputable def ji(I:Addr)(s s':Shared):Prop:=(∀a o,a≠I→s.heap.get? a=some o→s'.heap.get? a=some o)∧s'.gens=s.gens∧s'.os=s.os
noncomputable def YB(I:Addr)(b:Array UInt8)(t:Tok):Protocol:=fun n ax v ai KC=>
 ∃i c u,b[i]? =some c∧n=b.size-(i+1)∧v= .int (c.toNat:Int) u∧IsBytesIter ai.heap I b t (i+1)∧ji I ax ai∧
  ∀gw,IsBytesIter gw.heap I b t (i+1)→KC (.send .none) gw
noncomputable def RB(I:Addr):GenEnd:=fun n ax r ai=>n=0∧r= .ok (.ret .none)∧ji I ax ai
theorem ji.refl {I:Addr} {s:Shared}:ji I s s:=⟨fun _ _ _ h=>h,rfl,rfl⟩
theorem ji.trans {I:Addr} {s s' gw:Shared} (x:ji I s s') (y:ji I s' gw):ji I s gw:=
 ⟨fun a o n h=>y.1 a o n (x.1 a o n h),y.2.1.trans x.2.1,y.2.2.trans x.2.2⟩
abbrev oQ(I:Addr):Args:=⟨[.ref I,.bool false,.none],[]⟩
section
variable{prog:Program}{w:World}{A:Around}{fs:List PySem.Frame}{I:Addr}{b:Array UInt8}{t:Tok}
theorem KD{id:String}{bb:Builtin}(hb:entryFor table id=some bb)(args:Args):(model prog w).den (.builtin id args)=bb args:=by
 show(match entryFor table id with|some b=>b args|none=>unsupported ((withoutEnding? id "#data").getD id))=_
 rw[hb]
theorem Bo(args:Args):(model prog w).den (.builtin "proto.yield_from" args)=Builtin.«proto.yield_from» args:=KD KB args
theorem KE:typeLookup (.type "bytes_iterator") "close" =pure none:=am_miss_of_fast (by kernel_rfl)
theorem KF:typeOf (.type "StopIteration")=pure (.type "type"):=by kernel_rfl
theorem Bp{s:Shared}{i:Nat}{m:Bool}{Q:Unit→Shared→Prop}{E:Value→Shared→Prop}{A:Around}(jX:IsBytesIter s.heap I b t i)(hQ:Q () s):wpAny (model prog w) A (Builtin.Generator.sleptOver (.ref I) m) Q E s:=by
 refine ck jX fun o ho hc hd=> ?_
 unfold Builtin.Generator.sleptOver
 refine wpAny_bind (wpAny_load ho ?_)
 rw[hc]
 exact wpAny_pure hQ
theorem KG:(Code.builtin "proto.yield_from" (oQ I)).quiet=true:=by
 exact Code.quiet_builtin _ (by decide+kernel)
theorem KH(KI:splitAtGen fs=none)(KJ:fs.any PySem.Frame.guarded=false)(hh:(A.over (.builtin "proto.yield_from" (oQ I)) fs).handled=none)
 (KK: ∀ax s',ji I ax s'→Seg (model prog w) A (RB I) (YB I b t) 0 ax (.builtin "proto.yield_from" (oQ I)) (leafOf (.ok (.ret .none))) fs s'):
 ∀n i ax s,n=b.size-i→IsBytesIter s.heap I b t i→ji I ax s→
  Seg (model prog w) A (RB I) (YB I b t) n ax (.builtin "proto.yield_from" (oQ I)) ((model prog w).den (.builtin "proto.yield_from" (oQ I))) fs s:=by
 intro n
 induction n with
 |zero=>
  intro i ax s hn jX k
  have hx:b[i]? =none:=Array.getElem?_eq_none (by trace"da0kAeCBlACaBenBClA0kenoBClii hn .s")
  rw[Bo]
  refine ck (id jX) fun o ho hc hd=> ?_
  unfold Builtin.«proto.yield_from»
  refine seg_bind (wpAny_pure ?_)
  dsimp only
  refine seg_bind (wpAny_attempt (wpAny_holding ?_))
  show wpAny _ _ (rule "yield-from.next" >>=_) _ _ s
  refine wpAny_bind (wpAny_rule ?_)
  refine wpAny_bind (wpAny_callSpecial?_slot (name:=PySem.Str.ofString "__next__") (iter_typeIs jX) slot_next
   (wpAny_call_entry slot_next (iter_typeIs jX) entry_next ?_ (args_next _)))
  show wpAny _ _ (field (.ref I) 0>>=_) _ _ s
  refine wpAny_bind (wpAny_field ho hd (x:= .bytes b t) rfl ?_)
  show wpAny _ _ (if(Value.bytes b t==Value.none)=true then _ else _) _ _ s
  rw[if_neg (show ¬((Value.bytes b t==Value.none)=true)from Bool.false_ne_true)]
  show wpAny _ _ (field (.ref I) 1>>=_) _ _ s
  refine wpAny_bind (wpAny_field ho hd (x:= .int i 0) rfl ?_)
  refine wpAny_bind (wpAny_of_eq (a:=b) rfl ?_)
  simp only[Int.toNat_natCast,hx]
  refine wpAny_bind (wpAny_rule (wpAny_bind (wpAny_setField ho hd (by simp) ?_)))
  show wpAny _ _ (newExc (.type "StopIteration") []>>=_) _ _ _
  refine wpAny_bind ?_
  simp only[newExc,newTuple]
  refine wpAny_bind (wpAny_newObj_type ?_ (by size_fits))
  refine wpAny_bind (m:=firstArgMember _ _) (wpAny_of_eq (a:=Value.none) (by first|rfl|(simp only[firstArgMember];rfl)) ?_)
  refine wpAny_newObj_type ?_ (by size_fits)
  refine wpAny_raiseNew_none hh ?_
  refine seg_bind ?_
  show wpAny _ _ (Builtin.Generator.isStopAndMetaclass _>>=_) _ _ _
  refine wpAny_bind ?_
  show wpAny _ _ (typeOf _>>=_) _ _ _
  refine wpAny_bind (wpAny_typeOf (T:= "StopIteration") ⟨_,Heap.get?_push_size _ rfl,rfl⟩ ?_)
  refine wpAny_bind (wpAny_of_eq isSubtype_stop ?_)
  refine wpAny_bind (wpAny_of_eq KF ?_)
  refine wpAny_pure (wpAny_pure ?_)
  show Seg _ _ _ _ _ _ _ (rule "yield-from.value" >>=_) _ _
  refine seg_bind (wpAny_rule ?_)
  refine seg_bind (wpAny_field (Heap.get?_push_size _ rfl) rfl (x:= .none) rfl ?_)
  exact KK _ _ (k.trans ⟨fun a o n h=>(((Heap.SameBut.update ..).extBut.push _).push _) a o n h,rfl,rfl⟩)
 |succ n ih=>
  intro i ax s hn jX k
  have hi:i<b.size:=by trace"eaApBeDClBDaCenCDlB0kenoDpClii hn .s"
  have hx:b[i]? =some b[i]:=by simp[hi]
  rw[Bo]
  refine ck (id jX) fun o ho hc hd=> ?_
  unfold Builtin.«proto.yield_from»
  refine seg_bind (wpAny_pure ?_)
  dsimp only
  refine seg_bind (wpAny_attempt (wpAny_holding ?_))
  show wpAny _ _ (rule "yield-from.next" >>=_) _ _ s
  refine wpAny_bind (wpAny_rule ?_)
  refine wpAny_bind (wpAny_callSpecial?_slot (name:=PySem.Str.ofString "__next__") (iter_typeIs jX) slot_next
   (wpAny_call_entry slot_next (iter_typeIs jX) entry_next ?_ (args_next _)))
  show wpAny _ _ (field (.ref I) 0>>=_) _ _ s
  refine wpAny_bind (wpAny_field ho hd (x:= .bytes b t) rfl ?_)
  show wpAny _ _ (if(Value.bytes b t==Value.none)=true then _ else _) _ _ s
  rw[if_neg (show ¬((Value.bytes b t==Value.none)=true)from Bool.false_ne_true)]
  show wpAny _ _ (field (.ref I) 1>>=_) _ _ s
  refine wpAny_bind (wpAny_field ho hd (x:= .int i 0) rfl ?_)
  refine wpAny_bind (wpAny_of_eq (a:=b) rfl ?_)
  simp only[Int.toNat_natCast,hx]
  refine wpAny_bind (wpAny_setField ho hd (by simp) (wpAny_bind (wpAny_mkInt (wpAny_pure ⟨_,rfl,wpAny_pure ?_⟩))))
  refine seg_bind (wpAny_typeOf (T:= "bytes_iterator") ⟨_,Heap.get?_update_self _ ho (Obj.isFreed_of_fields (Obj.data_mapFields hd _)),(Obj.cls_mapFields ..).trans hc⟩ ?_)
  refine seg_bind (wpAny_of_eq KE ?_)
  refine seg_bind (wpAny_pure ?_)
  have Bq:IsBytesIter (s.heap.update I (Obj.mapFields fun x=>x.setIfInBounds 1 (rawInt (↑i+1)))) I b t (i+1):=
   ⟨_,Heap.get?_update_self _ ho (Obj.isFreed_of_fields (Obj.data_mapFields hd _)),(Obj.cls_mapFields ..).trans hc,by
    rw[Obj.data_mapFields hd];simp[rawInt]⟩
  refine seg_bind (Bp Bq ?_)
  show Seg _ _ _ _ _ _ _ (.yield _ _ _ _) _ _
  refine seg_yield KI rfl KJ ?_
  refine⟨i,b[i],_,hx,by trace"faApCeEpDlEpDlBEpaDenDEplB0kenoEDlCEaDenDElC0kenoABeiiii hn hi .s .s",rfl,Bq,k.trans ⟨fun a o n h=>(Heap.SameBut.update ..).extBut a o n h,rfl,rfl⟩,fun gw h2=> ?_⟩
  refine seg_bind (wpAny_pure ?_)
  refine seg_bind (Bp h2 ?_)
  show Seg _ _ _ _ _ _ _ (.pure (.again (.builtin "proto.yield_from" (oQ I)))) _ _
  exact seg_again KG (ih (i+1) gw gw (by trace"faApCeEpDlEpDlBEpaDenDEplB0kenoEDlCEaDenDElC0kenoABeiiii hn hi .s .s") h2 .refl)
end
section
variable{prog:Program}{w:World}{A:Around}{I:Addr}{b:Array UInt8}{t:Tok}{env:Env}{s:Shared}{x:PySem.Str}{p1 p2 p3:Pos}
theorem KL(hA:A.handled=none)(hi:interactive env=false)(KM: ∀{A Q E},Q (.bytes b t) s→wpAny (model prog w) A (eval (.Name x p1) env) Q E s)(hI:s.heap.objs.size=I):
 Seg (model prog w) A (RB I) (YB I b t) b.size s (.func [.Expr (.YieldFrom (.Name x p1) p2) p3] env) ((model prog w).den (.func [.Expr (.YieldFrom (.Name x p1) p2) p3] env)) [] s:=by
 subst hI
 refine seg_func (seg_execs_cons ?_)
 rw[exec_Expr env _ p3 hi rfl]
 rw[arm_eval_YieldFrom]
 refine seg_at ?_
 show Seg _ _ _ _ _ _ _ (Sem.wrap _ _ _ _ (((eval (.Name x p1) env>>=fun v=>standAt p2>>=fun _=>yieldFrom env v))>>=fun v=>dropValue _ _ v)) _ _
 rw[Sem.bind_eq_wrap' (_>>=_),Sem.wrap_wrap]
 refine seg_bind_wrap (KM ?_)
 refine seg_at ?_
 show Seg _ _ _ _ _ _ _ (Sem.wrap _ _ _ _ (yieldFrom env (.bytes b t))) _ _
 unfold yieldFrom
 refine seg_bind_wrap (wpAny_typeOf (T:= "bytes") (typeIs_bytes s b t) ?_)
 show Seg _ _ _ _ _ _ _ (Sem.wrap _ _ _ _ (holding [Value.bytes b t] (pyIter (.bytes b t))>>=fun it=>runValue (.builtin "proto.yield_from" ⟨[it,.bool false,.none],[]⟩))) _ _
 refine seg_bind_wrap (wpAny_holding (pyIter_bytes ?_))
 refine seg_call fun p=> ?_
 refine KH rfl rfl ?_ ?_ _ 0 _ _ rfl ⟨_,Heap.get?_push_size _ rfl,rfl,rfl⟩ ⟨fun a o n h=>Heap.get?_push_of_some _ h,rfl,rfl⟩
 ·exact hA
 ·intro ax s' k
  refine seg_leaf _ ?_
  exact seg_end (.ok (.ret .none)) ⟨rfl,rfl,k⟩
end
structure ix(prog:Program)(w:World)(A:Around)(G g I:Nat)(b:Array UInt8)(t:Tok)(en:Env)(x:PySem.Str)(p1 p2 p3:Pos)(i:Nat)(s:Shared):Prop where
 gen:s.heap.IsGen G g
 ns: ∃m,s.heap.Ns en.locals m∧m x=some (.bytes b t)
 zero:i=0→s.gens[g]? =some (.fresh (.func [.Expr (.YieldFrom (.Name x p1) p2) p3] en))∧s.heap.objs.size=I
 pos:0<i→IsBytesIter s.heap I b t i∧ ∃gs,s.gens[g]? =some gs∧ ∀gw,IsBytesIter gw.heap I b t i→gs.Goes (model prog w) A.in1 (RB I) (YB I b t) (b.size-i) (.send .none) gw
section
variable{prog:Program}{w:World}{A:Around}{G g I:Nat}{b:Array UInt8}{t:Tok}{en:Env}{x:PySem.Str}{p1 p2 p3:Pos}{i:Nat}{s:Shared}{E:Value→Shared→Prop}
theorem ix.ek (hA:A.handled=none) (ho:interactive en=false) (hk:en.kindOf x=some .local) (hf:en.scope.kind= .function) (hd:(x==("__debug__" :PySem.Str))=false) (a:ix prog w A G g I b t en x p1 p2 p3 i s): ∃gs,s.gens[g]? =some gs∧gs.Goes (model prog w) A.in1 (RB I) (YB I b t) (b.size-i) (.send .none) (s.setGen g .running):=by
 by_cases hi:i=0
 ·subst hi
  refine aA a.ns fun m hm hx=> ?_
  refine bn (a.zero rfl) fun e1 e2=> ?_
  refine⟨_,e1,rfl,KL hA ho ?_ e2⟩
  intro A Q E hq
  exact wpAny_Name (wpAny_loadName_local hf hk hm hx hq) hd
 ·obtain⟨e1,gs,e2,e3⟩:=a.pos (by trace"baA0kex0kpAli hi")
  exact⟨gs,e2,e3 _ e1⟩
theorem Br{gs:Array GenState}{y z:GenState}(hb:z.bare=true):GenOnlyQ g gs ((gs.setIfInBounds g y).setIfInBounds g z):=by
 refine .inr ⟨⟨by simp,fun k hk=>by simp[Ne.symm hk]⟩,fun x hx=> ?_⟩
 rcases Nat.lt_or_ge g gs.size with h|h
 ·simp[h]at hx;rw[←hx];exact hb
 ·rw[Array.getElem?_eq_none (by simpa using h)]at hx;cases hx
theorem KN(hA:A.handled=none)(ho:interactive en=false)(hk:en.kindOf x=some .local)(hf:en.scope.kind= .function)(hd:(x==("__debug__" :PySem.Str))=false)(hl:s.heap.NoLimit)(KO:A.depth<recursionLimit)(a:ix prog w A G g I b t en x p1 p2 p3 i s)(hi:i≤b.size)(hG:G≠I)(hL:en.locals≠I){Q:Option Value→Shared→Prop}
 (item: ∀c u s',b[i]? =some c→ix prog w A G g I b t en x p1 p2 p3 (i+1) s'→(∀a o,a≠I→s.heap.get? a=some o→s'.heap.get? a=some o)→GenOnlyQ g s.gens s'.gens→s'.os=s.os→Q (some (.int (c.toNat:Int) u)) s')
 (fin: ∀s',i=b.size→(∀a o,a≠I→s.heap.get? a=some o→s'.heap.get? a=some o)→GenOnlyQ g s.gens s'.gens→s'.os=s.os→Q none s'):
 wpAny (model prog w) A (pyNext (.ref G)) Q E s:=by
 refine aA (a.ek hA ho hk hf hd) fun gs wr wu=> ?_
 unfold pyNext
 refine wpAny_bind (wpAny_attempt (wpAny_callSpecial?_slot (name:=PySem.Str.ofString "__next__") a.gen.typeIs slot_gen_next
  (wpAny_call_entry slot_gen_next a.gen.typeIs entry_gen_next ?_ (args_gen_next _))))
 show wpAny _ _ (Builtin.Generator.genWake (.ref G) (.send .none)) _ _ s
 unfold Builtin.Generator.genWake
 refine wpAny_bind (wpAny_holding (wpAny_genNumber a.gen (wpAny_bind (wpAny_genState wr ?_))))
 induction gs with
 |running=>exact wu.elim
 |finished=>exact wu.elim
 |_=>
  refine wpAny_bind (wpAny_roomToWake hl KO ?_)
  show wpAny _ _ (.resume g (.send .none) [] _) _ _ s
  refine wpAny_resumeQ wr wu (fun y ai hx=> ?_) (fun v ai wv hb hv=> ?_)
  ·(refine kq hx fun hn vG k1 k2 k3=> ?_;obtain rfl:=vG)
   show wpAny _ _ (newExc (.type "StopIteration") []>>=_) _ _ _
   refine wpAny_bind ?_
   simp only[newExc,newTuple]
   refine wpAny_bind (wpAny_newObj_type ?_ (by size_fits))
   refine wpAny_bind (m:=firstArgMember _ _) (wpAny_of_eq (a:=Value.none) (by first|rfl|(simp only[firstArgMember];rfl)) ?_)
   refine wpAny_newObj_type ?_ (by size_fits)
   refine wpAny_bind (wpAny_raiseNew_none hA ?_)
   refine wpAny_bind (wpAny_isInstance (T:= "StopIteration") (b:=true) ⟨_,Heap.get?_push_size _ rfl,rfl⟩ isSubtype_stop ?_)
   refine wpAny_pure (fin _ (by trace"daCBlA0keCBlACaBenBClA0kenoCBeiii hi hn .s") (fun a o n h=>Heap.get?_push_of_some _ (Heap.get?_push_of_some _ (k1 a o n h))) ?_ k3)
   show GenOnlyQ g s.gens (ai.gens.setIfInBounds g .finished)
   rw[k2]
   exact Br rfl
  ·(refine yq hv fun i' c u e1 e2 KP e3 KQ e4=> ?_;obtain rfl:=KP;refine cH KQ fun k1 k2 k3=> ?_)
   have kM:i'<b.size:=by
    rcases Nat.lt_or_ge i' b.size with h|h
    ·exact h
    ·rw[Array.getElem?_eq_none h]at e1;cases e1
   have e5:=e4 ai e3
   rcases hn:b.size-i with _|m
   ·rw[hn]at e5;exact e5.elim
   ·simp only[hn]at e4
    have:i'=i:=by trace"haDClEFeBpClGApeBpClFBpaCenCBplF0keno1kGlEpGenG1klE0kenoDClGDaCenCDlG0kenoBDeiiiiiii hi e2 kM hn .s .s .s"
    subst this
    refine wpAny_pure ⟨_,rfl,wpAny_pure (item c u _ e1 ⟨?_,?_,fun h=>(by trace"!baAp0kex h"),fun _=>⟨e3,wv,?_,fun gw h=> ?_⟩⟩ k1 ?_ k3)⟩
    ·exact a.gen.imp fun o ⟨nm,qn,h1,h2⟩=>⟨nm,qn,k1 _ _ hG h1,h2⟩
    ·refine aA a.ns fun m hm hx=> ?_
     exact⟨m,hm.at fun o h=>k1 _ _ hL h,hx⟩
    ·show(ai.gens.setIfInBounds g wv)[g]? =_
     rw[k2]
     exact setGen_self (s:=s.setGen g .running) (setGen_self wr)
    ·have:=e4 gw h
     rw[show b.size-(i'+1)=m by trace"faEpDlCBpeEpDlAEpaDenDEplA0kenoEDlCEaDenDElC0kenoABeiiii kM hn .s .s"]
     exact this
    ·show GenOnlyQ g s.gens (ai.gens.setIfInBounds g wv)
     rw[k2]
     exact Br hb
end
end CC
namespace CC
open PySem PySem.W PySem.Calls PyProof.Rows PyProof.Rows.KTD PySem.W.KBw
section
variable{W:Wd}{mg mb:Str→Option Value}{C:Cx}{env:Env}{fs cO:List Env}{ρ ag aD bZ aO:au}{l l' l₁:L}{h h' bF hf:H}{s s' ai bj ax:Shared}{A:Around}{k:Nat}{E:Value→Shared→Prop}{fp:List Addr}
theorem ah.ww (S:ah W env fs ρ l h s) {g:Array GenState} (hg:AllBare g):ah W env fs ρ l h {s with gens:=g}:=
 ⟨S.eo,S.cL,S.ff,S.objs,S.eT,S.dI,S.inj,S.dq,S.loc,hg,S.os⟩
theorem bk.ww (X:bk env fs aO ax ρ s) {g:Array GenState} (hg: ∀(i:Nat)(x:GenState),ax.gens[i]? =some x→g[i]? =some x):bk env fs aO ax ρ {s with gens:=g}:=
 ⟨X.le,X.fresh,X.kept,X.de,hg⟩
theorem ah.qP (S:ah W env fs ρ l h s) (hs: ∀b∈fp,dr W env fs ρ b) (kk: ∀b o,b∉fp→s.heap.get? b=some o→s'.heap.get? b=some o) (g:AllBare s'.gens) (os:s'.os=s.os):ah W env fs ρ l h s':=
 (S.side (s':={s' with gens:=s.gens}) hs kk rfl os).ww g
theorem bk.qP (X:bk env fs aO ax ρ s) (hn: ∀b∈fp,ax.heap.get? b=none) (kk: ∀b o,b∉fp→s.heap.get? b=some o→s'.heap.get? b=some o) (g: ∀(i:Nat)(x:GenState),ax.gens[i]? =some x→s'.gens[i]? =some x):bk env fs aO ax ρ s':=
 (X.side (s':={s' with gens:=s.gens}) hn kk rfl).ww g
variable{G g I:Nat}{b:Array UInt8}{t:Tok}{en:Env}{x:PySem.Str}{p1 p2 p3:Pos}{i:Nat}
theorem ix.keeps (a:ix W.prog W.w A G g I b t en x p1 p2 p3 (i+1) s) (kp: ∀y∈[G,en.locals,I],∀o,s.heap.get? y=some o→s'.heap.get? y=some o)
 (hg: ∀y,s.gens[g]? =some y→s'.gens[g]? =some y):ix W.prog W.w A G g I b t en x p1 p2 p3 (i+1) s':=by
 obtain⟨⟨o,q1,q2,h1,h2⟩,⟨m,hm,hx⟩,_,hp⟩:=a
 refine⟨⟨o,q1,q2,kp G (.head _) _ h1,h2⟩,⟨m,hm.at (kp _ (.tail _ (.head _))),hx⟩,fun h=>Nat.noConfusion h,fun ii=> ?_⟩
 obtain⟨⟨o,i1,i2⟩,gs,j1,j2⟩:=hp ii
 exact⟨⟨o,kp I (.tail _ (.tail _ (.head _))) _ i1,i2⟩,gs,hg _ j1,j2⟩
theorem ix.has (a:ix W.prog W.w A G g I b t en x p1 p2 p3 (i+1) s): ∀y∈[G,en.locals,I],(s.heap.get? y).isSome:=fun y hy=>by
 rcases List.mem_cons.mp hy with rfl|hy
 ·refine g9 a.gen fun o q1 q2 h1 h2=> ?_;rw[h1];rfl
 ·rcases List.mem_cons.mp hy with rfl|hy
  ·obtain⟨m,⟨o,_,_,h1,_⟩,hx⟩:=a.ns;rw[h1];rfl
  ·obtain⟨⟨o,h1,_⟩,_⟩:=a.pos (Nat.succ_pos i)
   rw[List.mem_singleton.mp hy,h1];rfl
theorem KR{bs:List UInt8}{i:Nat}{v:V}(e:(bs.map fun c:UInt8=>V.int (c.toNat:Int))[i]? =some v): ∃c,bs[i]? =some c∧v= .int (c.toNat:Int):=by
 rw[List.getElem?_map]at e
 exact mM e fun c e1 e2=>⟨c,e1,e2.symm⟩
theorem Bs{At:Nat→Shared→Prop}{fp:List Addr}(S:oN W env fs ρ s fp At aD i bZ l h bj)(hI:I∈fp)(hg:s.gens[g]? =none)(k3: ∀a o,a≠I→bj.heap.get? a=some o→s'.heap.get? a=some o)(q3:GenOnlyQ g bj.gens s'.gens)(os:s'.os=bj.os):
 ah W env fs bZ l h s'∧bk env fs ρ s bZ s':=by
 have kk: ∀y o,y∉[I]→bj.heap.get? y=some o→s'.heap.get? y=some o:=fun y o hy e=>k3 y o (fun q=>hy (q▸ .head _)) e
 refine⟨S.S.qP (fun y hy=>List.mem_singleton.mp hy▸(S.side I hI).1) kk (q3.bare S.S.gens) os,S.X.qP (fun y hy=>List.mem_singleton.mp hy▸(S.side I hI).2) kk fun j y e=> ?_⟩
 have e2:=S.X.gens j y e
 rcases q3 with q3|q3
 ·rw[q3];exact e2
 ·rw[q3.1.2 j (fun q=>by rw[q,hg]at e;cases e)];exact e2
theorem KS(KT:W.h₀.NoLimit){n:Nm}{body:SS}(hb:fk W C k body)(a:b6 A fs k)(fo:fP env fs){p:Pos}(oR:slot env.scope n=true){bd:List Stmt}(rb:ic env.scope body bd)
 (ho:interactive en=false) (hk:en.kindOf x=some .local) (hf:en.scope.kind= .function) (hd:(x==("__debug__" :PySem.Str))=false)
 (jP:ah W env fs aD l h ai) (oO:bk env fs ρ s aD ai) (G0:ix W.prog W.w A G g I b t en x p1 p2 p3 0 ai) (hs: ∀y∈[G,en.locals],dr W env fs aD y∧s.heap.get? y=none) (hg:s.gens[g]? =none)
 {fl:Fl} (go:bD (fun _=>true) (fun v l h=>ay C body (l.set n v) h) (b.toList.map fun c:UInt8=>V.int (c.toNat:Int)) l h=some (fl,l',h')) {Q:Flow→Shared→Prop} (gg:cY W env fs ρ s fl l' h' Q E):
 codeAny (model W.prog W.w) A (.forLoop (.Name n.str p) (.ref G) bd [] env) (mY W A env E Q) ai:=by
 have z:G<I∧en.locals<I∧ai.heap.get? I=none:=by
  obtain⟨⟨o,q1,q2,h1,h2⟩,⟨m,hm,hx⟩,hz,_⟩:=G0
  obtain⟨_,e⟩:=hz rfl
  exact⟨e▸Heap.lt_size h1,e▸hm.lt,Heap.get?_none_of_le (Nat.le_of_eq e)⟩
 have nI:s.heap.get? I=none:=by
  cases q:s.heap.get? I with
  |none=>rfl
  |some o=>
   have:=oO.de I (by rw[q];rfl)
   rw[z.2.2]at this;cases this
 have len:(b.toList.map fun c:UInt8=>V.int (c.toNat:Int)).length=b.size:=List.length_map ..
 refine codeAny_forLoop (tq W env fs ρ s [G,en.locals,I] (ix W.prog W.w A G g I b t en x p1 p2 p3) aD (b.toList.map fun c:UInt8=>V.int (c.toNat:Int)) (bD (fun _=>true) fun v l h=>ay C body (l.set n v) h) (fl,l',h')) (fun num s2 I2=> ?_) _ ⟨0,aD,l,h,rfl,Nat.zero_le _,⟨jP,oO,.refl _,G0,fun y hy=> ?_⟩,go⟩
 ·obtain⟨i,aZ,l2,h2,rfl,hi,I2,go⟩:=I2
  have mI:I∈[G,en.locals,I]:= .tail _ (.tail _ (.head _))
  refine KN a.hd ho hk hf hd (KT.keeps I2.S.cL) (Nat.lt_of_le_of_lt (Nat.le_trans (Nat.le_add_right _ _) a.dp) (by decide)) I2.at_ (len▸hi) (Nat.ne_of_lt z.1) (Nat.ne_of_lt z.2.1) (fun c u s3 hc g3 k3 q3 wx=> ?_) fun s3 he k3 q3 wx=> ?_
  ·refine tv hi go (fun ei _ _=> ?_) fun v eg hv _ f l5 h5 e2 zz=> ?_
   ·rw[ei,len,Array.getElem?_eq_none (Nat.le_refl _)]at hc;cases hc
   ·(refine aA (KR hv) fun c' KU KV=> ?_;obtain rfl:=KV)
    obtain rfl:c=c':=Option.some.inj (hc.symm.trans (Array.getElem?_toList.symm.trans KU))
    obtain⟨S3,X3⟩:=Bs I2 mI hg k3 q3 wx
    refine wpAny_assign_Name (kU S3 (mQ oR) (v:= .int (c.toNat:Int)) ⟨u,rfl⟩ fun s4 S4 X4=> ?_)
    have kp: ∀y∈[G,en.locals,I],∀o,s3.heap.get? y=some o→s4.heap.get? y=some o:=fun y hy o e=>oM X4 (I2.side y hy).1 e
    have g4:=g3.keeps kp (X4.gens g)
    exact hb rb e2 S4 a fo (gg.loop zz (X3.trans X4) a.fr fo fun cX s5 S5 X5 e5=>I2.turn (X3.trans X4) g4.has eg S5 X5 (g4.keeps (fun y hy o e=>oM X5 (I2.side y hy).1 e) (X5.gens g)) e5)
  ·refine tv hi go (fun ei _ e=> ?_) fun v eg _ _ _ _ _ _ _=>absurd eg (by rw[len,he];exact Nat.lt_irrefl _)
   obtain⟨S3,X3⟩:=Bs I2 mI hg k3 q3 wx
   exact wpAny_execs_nil (gg.of e _ aZ S3 X3)
 ·rcases List.mem_cons.mp hy with rfl|hy
  ·exact hs _ (.head _)
  ·rcases List.mem_cons.mp hy with rfl|hy
   ·exact hs _ (.tail _ (.head _))
   ·rw[List.mem_singleton.mp hy]
    exact⟨jP.fN z.2.2,nI⟩
end
structure kX(W:Wd)(mg:Str→Option Value):Prop where
 nl:W.h₀.NoLimit
 ex: ∃(ga:Addr)(o:Obj)(fd:FuncData)(p1 p2 p3:Pos),mg "get_bytes" =some (.ref ga)∧keepIn W.K (.ref ga)=true∧W.h₀.get? ga=some o∧o.data= .func fd∧
  fd.scope.kind= .function∧fd.scope.isCoroutine=false∧fd.scope.isGenerator=true∧fd.scope.names=[(("data" :Str),NameKind.local)]∧fd.body= .stmts [.Expr (.YieldFrom (.Name "data" p1) p2) p3]∧fd.closure=[]∧
  W.h₀.CodeRec fd.code fd.qualname∧ ∀s v,W.h₀.StaysIn s.heap→BindsTo s fd ⟨[v],[]⟩ [(("data" :Str),v)]
section
variable{W:Wd}{mg mb:Str→Option Value}{C:Cx}{env:Env}{fs cO:List Env}{ρ ag aD bZ aO:au}{l l' l₁:L}{h h' bF hf:H}{s s' ai bj ax:Shared}{A:Around}{k:Nat}{E:Value→Shared→Prop}{fp:List Addr}
theorem KW{prog:Program}{w:World}{f:Value}{first:List Value}{pos:Pos}{a:PySem.Expr}{as:List PySem.Expr}{Q:Value→Shared→Prop}(hp:d4 (a::as)=true)
 (hh:wpAny (model prog w) A (spliced (backTo pos (starEach (a::as) env))) (fun vs ai=>qH (model prog w) f ai.heap∧wpAny (model prog w) A (call f (first++vs)) Q E ai) E s):
 wpAny (model prog w) A (callWith pos f first (backTo pos (starEach (a::as) env)) []) Q E s:=by
 refine callWith_of (P:=qH (model prog w) f) (by rw[jQ hp];rfl) (fun _ h=>h) ?_
 rw[jc (T1 hp)]at hh⊢
 exact evalArgs_plain hh
theorem KY(GF:kX W mg){ga:Addr}(KZ:mg "get_bytes" =some (.ref ga)){n:Nm}{body:SS}(hb:fk W C k body)(a:b6 A fs k)(fo:fP env fs){p:Pos}(oR:slot env.scope n=true){bd:List Stmt}(rb:ic env.scope body bd){bs:List UInt8}{v':Value}
 (S1:ah W env fs aD l h ai) (X1:aY env fs ρ s aD ai) (z:VR W aD (.bytes bs) v') {fl:Fl} (go:bD (fun _=>true) (fun v l h=>ay C body (l.set n v) h) (bs.map fun c:UInt8=>V.int (c.toNat:Int)) l h=some (fl,l',h')) {Q:Flow→Shared→Prop} (g:cY W env fs ρ s fl l' h' Q E):
 wpAny (model W.prog W.w) A (call (.ref ga) [v']) (fun it ai=>wpAny (model W.prog W.w) A (pyIter it) (fun it bj=>codeAny (model W.prog W.w) A (.forLoop (.Name n.str p) it bd [] env) (mY W A env E Q) bj) E ai) E ai:=by
 refine yv GF.ex fun K0 o fd p1 p2 p3 kY Bt K1 K2 f1 f2 f3 f4 f5 f6 f7 f8=> ?_
 obtain rfl:ga=K0:=Value.ref.inj (Option.some.inj (KZ.symm.trans kY))
 obtain⟨t,rfl⟩:=z
 have K3:ai.heap.NoLimit:=GF.nl.keeps S1.cL
 refine wpAny_call (codeAny_call_generator (Nat.lt_of_le_of_lt (Nat.le_trans (Nat.le_add_right _ _) a.dp) (by decide)) (S1.cL _ _ K1) K2 f2 f3 f5 (f7.keeps S1.cL) (f8 ai _ S1.cL _ _ _ _ ?_))
 rw[f6]
 refine wpAny_newFunctionEnv (by rw[f4];intro y hy;rw[List.mem_singleton.mp hy];exact fun q=>by cases q) (by rw[f4];intro y hy;rw[List.mem_singleton.mp hy];rfl) (fun h2 n2 sb=> ?_) (hk:=f1)
 have zL:ai.heap.get? ai.heap.objs.size=none:=dZ _
 have k2: ∀y o,ai.heap.get? y=some o→h2.get? y=some o:=fun y o e=>(sb.2 y (fun q=>by rw[q,zL]at e;cases e)).trans (Heap.get?_push_of_some _ e)
 refine⟨K3.keeps k2,?_⟩
 have zG:ai.heap.get? h2.objs.size=none:=by
  cases q:ai.heap.get? h2.objs.size with
  |none=>rfl
  |some o=>have:=k2 _ o q;rw[dZ]at this;cases this
 generalize jY:newEnv fd.scope ai.heap.objs.size fd.globals [] (fd.qualname++ ".<locals>.") (some ga) fd.code none fd.builtins=en
 have loc:en.locals=ai.heap.objs.size:=by rw[←jY];rfl
 have sc:en.scope=fd.scope:=by rw[←jY];rfl
 have fin: ∀nm qn tk,wpAny (model W.prog W.w) A (pyIter (.ref h2.objs.size)) (fun it bj=>codeAny (model W.prog W.w) A (.forLoop (.Name n.str p) it bd [] env) (mY W A env E Q) bj) E
  {ai with gens:=ai.gens.push (.fresh (.func [.Expr (.YieldFrom (.Name "data" p1) p2) p3] en)),toks:=tk,heap:=h2.push {cls:= .type "generator",data:= .fields #[.int ai.gens.size 0,nm,qn]}}:=by
  intro nm qn tk
  have Bu:(h2.push {cls:= .type "generator",data:= .fields #[.int ai.gens.size 0,nm,qn]}).IsGen h2.objs.size ai.gens.size:=⟨_,_,_,Heap.get?_push_size _ rfl,rfl,rfl,rfl⟩
  refine wpAny_pyIter_gen Bu ?_
  have k3: ∀y o,ai.heap.get? y=some o→(h2.push {cls:= .type "generator",data:= .fields #[.int ai.gens.size 0,nm,qn]}).get? y=some o:=fun y o e=>Heap.get?_push_of_some _ (k2 y o e)
  generalize hG:ai.gens.push (.fresh (.func [.Expr (.YieldFrom (.Name "data" p1) p2) p3] en))=G2
  have K4:AllBare G2:=by
   intro y hy
   rw[←hG]at hy
   rcases Array.mem_push.mp hy with h|rfl
   ·exact S1.gens y h
   ·rfl
  have gk: ∀(j:Nat)(y:GenState),ai.gens[j]? =some y→G2[j]? =some y:=by
   intro j y e
   have lt:j<ai.gens.size:=(Array.getElem?_eq_some_iff.mp e).1
   rw[←hG,Array.getElem?_push_lt lt,←e,Array.getElem?_eq_getElem lt]
  have S2:=S1.qP (fp:=[]) (s':={ai with gens:=G2,toks:=tk,heap:=h2.push {cls:= .type "generator",data:= .fields #[.int ai.gens.size 0,nm,qn]}}) (fun _ h=>by cases h) (fun y o _ e=>k3 y o e) K4 rfl
  have X2:=X1.toS.qP (fp:=[]) (s':={ai with gens:=G2,toks:=tk,heap:=h2.push {cls:= .type "generator",data:= .fields #[.int ai.gens.size 0,nm,qn]}}) (fun _ h=>by cases h) (fun y o _ e=>k3 y o e) (fun j y e=>gk j y (X1.gens j y e))
  refine KS (b:=bs.toArray) (t:=t) (x:= "data") (p1:=p1) (p2:=p2) (p3:=p3) (g:=ai.gens.size) (I:=(h2.push {cls:= .type "generator",data:= .fields #[.int ai.gens.size 0,nm,qn]}).objs.size) (en:=en)
   GF.nl hb a fo oR rb ?_ ?_ (sc▸f1) (by decide+kernel) S2 X2 ⟨Bu,⟨_,loc▸(n2.keeps fun b o e=>Heap.get?_push_of_some _ e),rfl⟩,fun _=>⟨by rw[←hG];exact Array.getElem?_push_size,rfl⟩,fun h=>absurd h (Nat.lt_irrefl _)⟩ (fun y hy=> ?_) ?_ go g
  ·show(en.scope.kind== .module&&_)=false
   rw[sc,f1];rfl
  ·show en.scope.names.lookup _=_
   rw[sc,f4];rfl
  ·rcases List.mem_cons.mp hy with rfl|hy
   ·exact⟨S1.fN zG,kS X1 zG⟩
   ·rw[List.mem_singleton.mp hy,loc]
    exact⟨S1.fN zL,kS X1 zL⟩
  ·cases q:s.gens[ai.gens.size]? with
   |none=>rfl
   |some y=>
    have:=X1.gens _ _ q
    rw[Array.getElem?_eq_none (Nat.le_refl _)]at this;cases this
 exact fin _ _ _
theorem K5{P:Prop}{n:Nm}{x:X}{b:SS}{r:Fl×L×H}(e:ex C (.bK n (.gen x) b) l h=some r)(k: ∀bs h1,ev C l x h=some (.bytes bs,h1)→bD (fun _=>true) (fun v l h=>ay C b (l.set n v) h) (bs.map fun c:UInt8=>V.int (c.toNat:Int)) l h1=some r→P):P:=
 Fz (x:=ev C l x h) (f:=fun bs h=>bD (fun _=>true) (fun v l h=>ay C b (l.set n v) h) (bs.map fun c:UInt8=>V.int (c.toNat:Int)) l h) e k
theorem K6(O:aN W mg mb)(CO:bq W C k)(GF:kX W mg){n:Nm}{x:X}{b:SS}(hb:fk W C k b):dw W C k (.bK n (.gen x) b):=fun{env e l l' h h' fl} r e1=>Js.of r (K5 e1 fun bs h1 e2 e3 fs ρ s A E Q S a fo g=>by
 have ri:jL env.scope (.gen x) (gM (.gen x) (sk e 1)):= .mk (congrArg (sk · 1) r.1) (T2 (T1 (T1 r.2)))
 have q2:aW (aB x (ad (sk e 1) 1))=true:=TR (f:=aW) (congrArg (fun e=>ad (sk e 1) 1) r.1) (T2 (T2 (T1 (T1 r.2))))
 refine ES (id GF.ex) fun ga o fd p1 p2 p3 kY Bt _=> ?_
 refine wpAny_For (vL (P:=fun f=>wpAny (model W.prog W.w) A (eval (.Call f [aB x (ad (sk e 1) 1)] [] (sk e 1).pos) env) _ E s) (T2 (T1 (T2 (T1 (T1 r.2))))) fun p=>wpAny_Call_NameR (qp O.nm S (T2 (T2 (T1 (T2 (T1 (T1 r.2)))))) (by decide+kernel) (.inl kY) ?_)) (s0 ri env)
 exact KW (ik q2) (jd q2 (aR O CO x (.mk (congrArg (fun e=>ad (sk e 1) 1) r.1) (T1 (T1 (T2 (T1 (T1 r.2)))))) e2 S a fun v1 s1 aQ S1 X1 z1=>⟨keeps_K Bt _ (S1.K O),KY GF kY hb a fo (T1 (T1 (T1 r.2))) (.mk (congrArg sb r.1) (T2 (T1 r.2))) S1 X1 z1 e3 g⟩)))
end
end CC
namespace CC
open PySem PySem.W PySem.Calls PyProof.Rows PyProof.Rows.KTD
section
variable{W:Wd}{mg mb:Str→Option Value}{C:Cx}{k:Nat}
mutual
theorem K7(O:aN W mg mb)(CO:bq W C k)(GF:kX W mg): ∀st:CC.S,dw W C k st
 | .assign .. =>JF O CO
 | .bS .. =>JH O CO
 | .gc .. =>JJ O CO
 | .fI .. =>JS O CO
 | .aug .. =>JL O CO
 | .hM .. =>JM O CO
 | .kD .. =>JO O CO
 | .expr _=>JA O CO
 | .ifs _ a b=>Jz O CO (ft O CO GF a) (ft O CO GF b)
 | .gK _ b=>JZ O CO (ft O CO GF b)
 | .bK _ (.gen _) b=>K6 O CO GF (ft O CO GF b)
 | .bK _ (.val _) b=>oP O CO (ft O CO GF b) (fun _ h=>by cases h)
 | .bK _ (.jB _) b=>oP O CO (ft O CO GF b) (fun _ h=>by cases h)
 | .bK _ (.gb _ _) b=>oP O CO (ft O CO GF b) (fun _ h=>by cases h)
 | .bK _ (.jC _ _ _) b=>oP O CO (ft O CO GF b) (fun _ h=>by cases h)
 | .bK _ (.tup _) b=>oP O CO (ft O CO GF b) (fun _ h=>by cases h)
 | .bK _ (.enum _) b=>oP O CO (ft O CO GF b) (fun _ h=>by cases h)
 | .kE _ _ _ b=>J9 O CO (ft O CO GF b)
 | .ret _=>Jv O CO
 | .brk=>Jw
 | .assert _=>Jy O CO
 | .iV _=>Kl O CO
 | .n5 .. =>Ko O CO
 | .lV .. =>Kn O CO
 | .eZ b _=>KA O CO (ft O CO GF b)
theorem ft(O:aN W mg mb)(CO:bq W C k)(GF:kX W mg): ∀b:SS,fk W C k b
 | .nil=>Jp
 | .cons s r=>Ju (K7 O CO GF s) (ft O CO GF r)
end
end
section
variable{M:Model}{W:Wd}{mg mb:Str→Option Value}{C:Cx}{env:Env}{fs cO:List Env}{ρ ag aD bZ aO:au}{l l' l₁:L}{h h' bF hf:H}{s s' ai bj ax:Shared}{A:Around}{k:Nat}{E:Value→Shared→Prop}{base:Heap}{a L:Addr}{cls:Value}
theorem K8(S:ah W env (env::cO) ρ l h s)(X:bk env (env::cO) aO ax ρ s){c:Cl}{e:Value}(x:gP W env (env::cO) ρ ax c e s)(fq:A.frames=some (env::cO))(hL:env.frame=some env.locals){Q:Unit→Shared→Prop}
 (g: ∀s' base a a0,ah W env (env::cO) ρ l h s'→bk env (env::cO) aO ax ρ s'→e= .ref a→ou W env (env::cO) ρ ax base s'→Heap.FlyingW base cO a (.ref (W.bc c)) a0 s'.heap→Q () s'):
 wpAny M A (leaving env e) Q E s:=by
 (refine nW x fun base a L K9 hf B st=> ?_;obtain rfl:=K9)
 rcases st with⟨f1,f2,f3,oe,vs,a0,he,hc,hd,h1,h0⟩|⟨a0,st⟩|⟨a0,st⟩
 ·refine wpAny_leaving_firstW fq f3 hf he f1 f2 hd h1 h0 fun h2 hl=> ?_
  refine dT hl fun k1 k2 k3 k4=> ?_
  refine cH (moved S X B k1 k4) fun S2 X2 B2=> ?_
  rw[hc]at k3
  exact g _ base a a0 S2 X2 rfl B2 ⟨k1,f2,k2.2.2,k3⟩
 ·refine wpAny_leaves_onW fq hf st fun h2 fl k2=> ?_
  refine cH (moved S X B fl.1 k2) fun S2 X2 B2=> ?_
  exact g _ base a a0 S2 X2 rfl B2 fl
 ·unfold leaving
  refine wpAny_bind (wpAny_noteFrame_againW hf st.2.2.2 ?_)
  refine wpAny_landsW st fun h2 Lb k2=> ?_
  (refine dT Lb fun k1 k3 qO k5=> ?_;refine cH qO fun _ _ k4=> ?_)
  refine cH (moved S X B k1 k2) fun S2 X2 B2=> ?_
  exact g _ base a a0 S2 X2 rfl B2 ⟨k1,k3,k4,k5⟩
end
structure iy(W:Wd)(en:Env)(ρ:au)(l1:L)(s s1:Shared):Prop where
 eo:zp en
 keep: ∀b o,s.heap.get? b=some o→s1.heap.get? b=some o
 gens:s1.gens=s.gens
 os:s1.os=s.os
 fr:en.frame=some en.locals
 zL:s.heap.get? en.locals=none
 zc: ∀y c,en.cells.lookup y=some c→s.heap.get? c=none
 hL: ∃o,s1.heap.get? en.locals=some o∧ ∀vs,o.data≠ .fields vs
 loc:ig W en ρ l1 s1.heap
section
variable{M:Model}{W:Wd}{mg mb:Str→Option Value}{C:Cx}{env en:Env}{fs cO:List Env}{ρ ag aD bZ aO:au}{l l' l₁:L}{h h' bF hf:H}{s s' ai bj ax:Shared}{A:Around}{k:Nat}{E:Value→Shared→Prop}{base:Heap}{a L:Addr}{cls:Value}
theorem iy.enter (I:iy W en ρ l₁ s ai) (S:ah W env fs ρ l h s):ah W en (en::fs) ρ l₁ h ai:=by
 obtain⟨eo,k1,hg,ho,fr,zL,zc,hL,loc⟩:=I
 have zW:W.h₀.get? en.locals=none:=loc.oq
 refine aA hL fun oL wz wA=> ?_
 have Lc: ∀{fl:List Env},s.heap.FunFrames W.h₀ fl→ai.heap.FunFrames W.h₀ fl:=fun f=>f.of_keeps fun b o e _=>⟨o,k1 b o e,rfl⟩
 have np: ∀b,(s.heap.get? b).isSome→oo W env fs b→oo W en (en::fs) b:=by
  intro b hb ⟨p1,p2,p3,p4⟩
  refine⟨p1,?_,?_,?_⟩
  ·rintro rfl;rw[zL]at hb;cases hb
  ·rintro x c hc rfl;rw[zc x _ hc]at hb;cases hb
  ·intro hm
   refine aA (List.mem_filterMap.mp hm) fun e he eI=> ?_
   rcases List.mem_cons.mp he with rfl|he
   ·rw[fr]at eI;cases eI;rw[zL]at hb;cases hb
   ·exact p4 (List.mem_filterMap.mpr ⟨e,he,eI⟩)
 refine⟨eo,fun b o e=>k1 b o (S.cL b o e),⟨by rw[eo.kind];decide,⟨_,oL,fr,zW,wz,wA⟩,Lc S.ff⟩,fun i o e=> ?_,S.eT,fun i b dx e=> ?_,S.inj,fun i b dx e=> ?_,loc,by rw[hg];exact S.gens,by rw[ho];exact S.os⟩
 ·refine cQ (S.objs i o e) fun b dx r z=> ?_
  exact⟨b,dx,r,z.mono (.refl _) fun b _ o e=>k1 b o e⟩
 ·refine bn (S.dq i b dx e) fun d1 d2=> ?_
  refine bn (S.dI i b dx e) fun p1 p2=> ?_
  exact⟨np _ d1 p1,np _ d2 p2⟩
 ·refine bn (S.dq i b dx e) fun d1 d2=> ?_
  refine br (Option.isSome_iff_exists.mp d1) fun o1 e1=> ?_
  refine br (Option.isSome_iff_exists.mp d2) fun o2 e2=> ?_
  rw[k1 _ _ e1,k1 _ _ e2];exact⟨rfl,rfl⟩
theorem iy.leave (I:iy W en ρ l₁ s ai) (X:bk en (en::fs) ρ ai ag s'):aY env fs ρ s ag s':=by
 have k1:=I.keep
 have hg:=I.gens
 have fr:=I.fr
 have zL:=I.zL
 have zc:=I.zc
 have nn: ∀b,ai.heap.get? b=none→s.heap.get? b=none:=fun b e=>by
  cases q:s.heap.get? b with
  |none=>rfl
  |some o=>rw[k1 b o q]at e;cases e
 refine⟨X.le,fun i b dx e q=> ?_,fun b o e n=> ?_,fun b hb=> ?_,fun i g e=>X.gens i g (by rw[hg];exact e)⟩
 ·refine bn (X.fresh i b dx e q) fun f1 f2=> ?_
  exact⟨nn _ f1,nn _ f2⟩
 ·have no: ¬oK en ρ b:=by
   rintro(q|rfl|⟨x,c,hc,rfl⟩)
   ·exact n q
   ·rw[zL]at e;cases e
   ·rw[zc x _ hc]at e;cases e
  refine bn (X.kept b o (k1 b o e) no) fun j1 j2=> ?_
  refine⟨fun nf=>j1 fun hm=> ?_,j2⟩
  refine aA (List.mem_filterMap.mp hm) fun y hy eI=> ?_
  rcases List.mem_cons.mp hy with rfl|hy
  ·rw[fr]at eI;cases eI;rw[zL]at e;cases e
  ·exact nf (List.mem_filterMap.mpr ⟨y,hy,eI⟩)
 ·refine br (Option.isSome_iff_exists.mp hb) fun o e=> ?_
  exact X.de b (by rw[k1 b o e];rfl)
theorem ah.leave (S:ah W env fs ρ l h s) (S':ah W en (en::fs) ag l' h' s') (X:aY env fs ρ s ag s'):ah W env fs ag l h' s':=
 ah.back S ⟨S'.eo,S'.cL,S'.ff.2.2,S'.objs,S'.eT,fun i a dx e=>by
  (refine kq (S'.dI i a dx e) fun Ld q1 q2 q3 q4=> ?_;refine dT Ld fun p1 p2 p3 p4=> ?_)
  exact⟨⟨p1,p2,p3,fun hm=>p4 (by
   refine aA (List.mem_filterMap.mp hm) fun y hy eI=> ?_
   exact List.mem_filterMap.mpr ⟨y,.tail _ hy,eI⟩)⟩,q1,q2,q3,fun hm=>q4 (by
   refine aA (List.mem_filterMap.mp hm) fun y hy eI=> ?_
   exact List.mem_filterMap.mpr ⟨y,.tail _ hy,eI⟩)⟩,S'.inj,S'.dq,S'.loc,S'.gens,S'.os⟩ X
end
section
variable{W:Wd}{ρ:au}{en:Env}{s ai:Shared}
theorem Bv{kd:Str→Option NameKind}{n:Str}: ∀{bs:List (Str×Value)}{m:Str→Option Value},(∀p∈bs,p.1≠n)→bindL kd bs m n=m n
 |[],m,_=>rfl
 |(x,v)::r,m,h=>by
  unfold bindL
  rw[Bv fun p hp=>h p (.tail _ hp)]
  by_cases q:kd x=some .local
  ·rw[if_pos q];exact if_neg fun e=>h (x,v) (.head _) e.symm
  ·rw[if_neg q]
theorem Bw{kd:Str→Option NameKind}{n:Str}: ∀{bs:List (Str×Value)}{m:Str→Option Value},(∀p∈bs,p.1≠n)→bindC kd bs m n=m n
 |[],m,_=>rfl
 |(x,v)::r,m,h=>by
  unfold bindC
  rw[Bw fun p hp=>h p (.tail _ hp)]
  by_cases q:kd x=some .local
  ·rw[if_pos q]
  ·rw[if_neg q];exact if_neg fun e=>h (x,v) (.head _) e.symm
theorem cf.out {bs:List (Nm×V)}: ∀{vs:List (Str×Value)}{n:Nm},cf W ρ bs vs→n∉bs.map (·.1)→ ∀p∈vs,p.1≠n.str:=by
 induction bs with
 |nil=>intro vs n r h p hp;induction vs with
  |nil=>cases hp
  |cons c vs=>exact r.elim
 |cons a bs ih=>
  intro vs n r h p hp
  induction vs with
  |nil=>exact r.elim
  |cons c vs=>
   obtain⟨⟨e,_⟩,r⟩:=r
   rcases List.mem_cons.mp hp with rfl|hp
   ·intro q
    exact h (by rw[←Nm.str_inj (e.symm.trans q),List.map_cons];exact .head _)
   ·exact ih r (fun q=>h (by rw[List.map_cons];exact .tail _ q)) p hp
theorem Le{kd:Str→Option NameKind}{bs:List (Nm×V)}: ∀{vs:List (Str×Value)}{m:Str→Option Value}{n:Nm}{v:V},cf W ρ bs vs→(bs.map (·.1)).Nodup→own n bs=some v→kd n.str=some .local→ ∃v',bindL kd vs m n.str=some v'∧VR W ρ v v':=by
 induction bs with
 |nil=>intro vs m n v r nd ho hk;cases ho
 |cons a bs ih=>
  intro vs m n v r nd ho hk
  obtain⟨x,w⟩:=a
  induction vs with
  |nil=>exact r.elim
  |cons c vs=>
   obtain⟨y,u⟩:=c
   obtain⟨⟨e',z⟩,r⟩:=r
   have e:y=x.str:=e'
   clear e'
   rw[List.map_cons]at nd
   obtain⟨nx,nd⟩:=List.nodup_cons.mp nd
   have nx:x∉bs.map (·.1):=nx
   unfold bindL
   unfold own at ho
   by_cases q:x=n
   ·subst q
    rw[if_pos rfl]at ho;cases ho
    rw[Bv (cf.out r nx),e,if_pos hk]
    exact⟨u,if_pos rfl,z⟩
   ·rw[if_neg q]at ho
    exact ih r nd ho hk
theorem Lf{kd:Str→Option NameKind}{bs:List (Nm×V)}: ∀{vs:List (Str×Value)}{m:Str→Option Value}{n:Nm}{v:V},cf W ρ bs vs→(bs.map (·.1)).Nodup→own n bs=some v→kd n.str≠some .local→ ∃v',bindC kd vs m n.str=some v'∧VR W ρ v v':=by
 induction bs with
 |nil=>intro vs m n v r nd ho hk;cases ho
 |cons a bs ih=>
  intro vs m n v r nd ho hk
  obtain⟨x,w⟩:=a
  induction vs with
  |nil=>exact r.elim
  |cons c vs=>
   obtain⟨y,u⟩:=c
   obtain⟨⟨e',z⟩,r⟩:=r
   have e:y=x.str:=e'
   clear e'
   rw[List.map_cons]at nd
   obtain⟨nx,nd⟩:=List.nodup_cons.mp nd
   have nx:x∉bs.map (·.1):=nx
   unfold bindC
   unfold own at ho
   by_cases q:x=n
   ·subst q
    rw[if_pos rfl]at ho;cases ho
    rw[Bw (cf.out r nx),e,if_neg hk]
    exact⟨u,if_pos rfl,z⟩
   ·rw[if_neg q]at ho
    exact ih r nd ho hk
theorem wB{x:Str}: ∀{names:List (Str×NameKind)}{n:Nat}{acc:List (Str×Addr)},(acc.lookup x).isSome→((cellsFrom n names acc).lookup x).isSome
 |[],_,_,h=>h
 |(y,kd)::r,n,acc,h=>by
  unfold cellsFrom
  split
  ·refine wB ?_
   rw[List.lookup_cons]
   split
   ·rfl
   ·exact h
  ·exact wB h
theorem qQ{x:Str}: ∀{names:List (Str×NameKind)}{n:Nat}{acc:List (Str×Addr)},names.lookup x=some .cell→((cellsFrom n names acc).lookup x).isSome
 |[],_,_,h=>by cases h
 |(y,kd)::r,n,acc,h=>by
  unfold cellsFrom
  rw[List.lookup_cons]at h
  by_cases q:x==y
  ·rw[q]at h
   cases h
   refine wB ?_
   rw[List.lookup_cons,q];rfl
  ·rw[Bool.eq_false_iff.mpr q]at h
   split
   ·exact qQ h
   ·exact qQ h
end
section
variable{W:Wd}{ρ:au}{en:Env}{s ai:Shared}
theorem cf.mem {bs:List (Nm×V)}: ∀{vs:List (Str×Value)}{n:Nm}{v:V},cf W ρ bs vs→own n bs=some v→ ∃u,(n.str,u)∈vs:=by
 induction bs with
 |nil=>intro vs n v r ho;cases ho
 |cons a bs ih=>
  intro vs n v r ho
  obtain⟨x,w⟩:=a
  induction vs with
  |nil=>exact r.elim
  |cons c vs=>
   obtain⟨y,u⟩:=c
   (refine bn r fun Lg r=> ?_;obtain⟨e',z⟩:=Lg)
   have e:y=x.str:=e'
   clear e'
   unfold own at ho
   by_cases q:x=n
   ·subst q;exact⟨u,by rw[e];exact .head _⟩
   ·rw[if_neg q]at ho
    refine br (ih r ho) fun u h=> ?_
    exact⟨u,.tail _ h⟩
theorem ig.enter {bs:List (Nm×V)} {vs:List (Str×Value)} (x:InCallC s en.locals (bindL en.kindOf vs fun _=>none) en.cells (bindC en.kindOf vs fun _=>none) ai) (hc:en.cells=cellsFrom (s.heap.objs.size+1) en.scope.names [])
 (st:W.h₀.StaysIn s.heap) (r:cf W ρ bs vs) (nd:(bs.map (·.1)).Nodup) (hk: ∀p∈vs,en.kindOf p.1=some .local∨en.kindOf p.1=some .cell):ig W en ρ (fun n=>own n bs) ai.heap:=by
 have fr: ∀b,s.heap.objs.size≤b→W.h₀.get? b=none:=fun b hb=>by
  cases q:W.h₀.get? b with
  |none=>rfl
  |some o=>
   have:=st b o q
   rw[Heap.get?_none_of_le hb]at this;cases this
 refine⟨⟨_,x.toInCall.ns,fun n v e q=>Le r nd e q⟩,fun n v e q=> ?_,fun n q=> ?_,fr _ x.toInCall.fresh,fun n c e=> ?_,fun n m c e1 e2=>name_of_addr x.apart (mem_of_lookup e1) (mem_of_lookup e2)⟩
 ·refine br (r.mem e) fun u hu=> ?_
  have kc:en.kindOf n.str=some .cell:=by
   rcases q with q|q
   ·exact q
   ·rcases hk _ hu with z|z
    ·rw[show en.kindOf n.str=some .local from z]at q;cases q
    ·exact z
  refine aA (Lf (kd:=en.kindOf) (m:=fun _=>none) r nd e (by rw[kc];exact fun q=>by cases q)) fun v' h1 h2=> ?_
  refine br (Option.isSome_iff_exists.mp (qQ (n:=s.heap.objs.size+1) (acc:=[]) kc)) fun c h3=> ?_
  rw[←hc]at h3
  exact⟨c,v',h3,h1▸x.cell _ c h3,h2⟩
 ·refine br (Option.isSome_iff_exists.mp (qQ (n:=s.heap.objs.size+1) (acc:=[]) q)) fun c h3=> ?_
  rw[←hc]at h3
  exact⟨c,_,h3,x.cell _ c h3⟩
 ·have:=x.above n c (mem_of_lookup e)
  exact⟨fr c (Nat.le_trans x.toInCall.fresh (Nat.le_of_lt this)),Nat.ne_of_gt this,_,x.cell n c e⟩
end
structure FnAt(W:Wd)(f:Fn)(I:eQ):Prop where
 ps:I.ps.Nodup
 ex: ∃(o:Obj)(fd:FuncData)(body:List Stmt),W.h₀.get? (W.fL f)=some o∧o.data= .func fd∧fd.scope.isCoroutine=false∧fd.scope.isGenerator=false∧fd.body= .stmts body∧W.h₀.CodeRec fd.code fd.qualname∧fd.closure=[]∧
  fd.scope.kind= .function∧fd.globals=mainGlobals∧fd.builtins=builtinsNs∧ic fd.scope I.body body∧(∀p∈I.ps,fd.scope.names.lookup p.str=some .local∨fd.scope.names.lookup p.str=some .cell)∧
  ∀{ρ:au}{s:Shared}{xs:List V}{ks bs:List (Nm×V)}{vs kvs:List Value},lZ I xs ks=some bs→W.h₀.StaysIn s.heap→bo W ρ xs vs→bo W ρ (ks.map (·.2)) kvs→ ∃m9,BindsTo s fd ⟨vs,(ks.map (·.1.str)).zip kvs⟩ m9∧cf W ρ bs m9
section
variable{W:Wd}{mg mb:Str→Option Value}{cl:CL→List V}{fuel n:Nat}
theorem Bx{α β:Type}{ps:List α}{vs:List β}(h:ps.length≤vs.length):(ps.zip vs).map (·.1)=ps:=List.map_fst_zip h
theorem Lh{I:eQ}{xs:List V}{ks bs:List (Nm×V)}(e:lZ I xs ks=some bs):bs.map (·.1)=I.ps:=
 oh e (fun _ e=>mF e fun q e=>Option.some.inj e▸Bx (Nat.le_of_eq q.2.symm)) fun _ e=>mF e fun q e=>Option.some.inj e▸Bx (by
  rw[List.length_append,List.length_append,List.length_drop,List.length_map,List.length_map]
  have:=q.2.1
  have:=q.2.2.1
  omega)
theorem cf.names {ρ:au} {bs:List (Nm×V)} {vs:List (Str×Value)} (r:cf W ρ bs vs): ∀p∈vs,∃n∈bs.map (·.1),p.1=n.str:=
 r.ind (P:=fun bs vs=> ∀p∈vs,∃n∈bs.map (·.1),p.1=n.str) (fun p hp=>(nomatch hp)) fun x y bs vs a _ ih p hp=>by
  rcases List.mem_cons.mp hp with rfl|hp
  ·exact⟨x.1,.head _,a.1⟩
  ·refine aA (ih p hp) fun n h1 h2=> ?_
   exact⟨n,.tail _ h1,h2⟩
section
variable{env en:Env}{fs:List Env}{ρ ag:au}{l l1 l2:L}{h h':H}{s s1 s2:Shared}{A:Around}{R:Result→Shared→Prop}
theorem iy.out (I:iy W en ρ l1 s s1) (S:ah W env fs ρ l h s) (S2:ah W en (en::fs) ag l2 h' s2) (X2:bk en (en::fs) ρ s1 ag s2):ah W env fs ag l h' s2∧aY env fs ρ s ag s2:=
 have X:=I.leave (env:=env) (fs:=fs) X2
 ⟨S.leave S2 X,X⟩
theorem iy.exc (I:iy W en ρ l1 s s1) (S:ah W env fs ρ l h s) {c:Cl} {base:Heap} {a:Addr} {a0:Value} (S2:ah W en (en::fs) ag l2 h' s2) (B:ou W en (en::fs) ag s1 base s2) (F:Heap.FlyingW base fs a (.ref (W.bc c)) a0 s2.heap):gP W env fs ag s c (.ref a) s2:=by
 refine br S.eo.fr fun L hL=> ?_
 refine⟨base,a,L,rfl,hL,⟨B.1,fun b hb hf=>B.2 b ?_ ?_⟩,.inr (.inl ⟨a0,F⟩)⟩
 ·rcases hb with hb|hb
  ·refine br (Option.isSome_iff_exists.mp hb) fun o ho=> ?_
   exact .inl (by rw[I.keep b o ho];rfl)
  ·exact .inr hb
 ·intro hm
  refine aA (List.mem_filterMap.mp hm) fun y hy eI=> ?_
  rcases List.mem_cons.mp hy with rfl|hy
  ·obtain rfl:y.locals=b:=Option.some.inj (I.fr.symm.trans eI)
   rcases hb with hb|⟨i,a1,dx,e3,z⟩
   ·rw[I.zL]at hb;cases hb
   ·(refine dT (S2.dI i a1 dx e3) fun Li _ q2 _=> ?_;refine cH Li fun _ p2 _=> ?_)
    rcases z with z|z
    ·exact p2 z.symm
    ·exact q2 z.symm
  ·exact hf (List.mem_filterMap.mpr ⟨y,hy,eI⟩)
theorem iy.run (I:iy W en ρ l1 s s1) (S:ah W env fs ρ l h s) {body:SS} {bs:List Stmt} {r:CR} (j: ∀{fl l2 h2},ay (Cn cl fuel n) body l1 h=some (fl,l2,h2)→mH W n en bs l1 h fl l2 h2)
 (a:b6 (A.deeper en) (en::fs) n) (e:og (ay (Cn cl fuel n) body l1 h)=some (r,h')) (g:gp W env fs l ρ s r h' R):codeAny (model W.prog W.w) A (.func bs en) R s1:=by
 have fo:fP en (en::fs):=⟨⟨_,rfl⟩,I.fr⟩
 have S1:=I.enter S
 refine codeAny_func ?_
 refine zh e (fun l2 h2 e2 e3=>j e2 S1 a fo ?_) (fun v l2 h2 e2 e3=>j e2 S1 a fo ?_) fun c l2 h2 e2 e3=>j e2 S1 a fo ?_
 ·exact fun s2 aZ S2 X2=>(g.of e3) _ s2 aZ (I.out S S2 X2).1 (I.out S S2 X2).2 rfl
 ·exact fun v' s2 aZ S2 X2 rv=>(g.of e3) _ s2 aZ (I.out S S2 X2).1 (I.out S S2 X2).2 rv
 ·exact fun e s2 aZ S2 X2 ex=>K8 S2 X2 ex a.fr I.fr fun s3 base a a0 S3 X3 he B3 F3=>he▸(g.of e3) _ s3 aZ (I.out S S3 X3).1 (I.out S S3 X3).2 (I.exc S S3 B3 F3)
end
theorem By{A:Around}{f:Fn}{I:eQ}{ρ:au}{s:Shared}{xs:List V}{ks bs:List (Nm×V)}{vs kvs:List Value}{R:Result→Shared→Prop}(nl:W.h₀.NoLimit)(F:FnAt W f I)(hb:lZ I xs ks=some bs)(st:W.h₀.StaysIn s.heap)
 (rv:bo W ρ xs vs) (rk:bo W ρ (ks.map (·.2)) kvs) (dp:A.depth<1000) (k: ∀en body s1,ic en.scope I.body body→iy W en ρ (fun n=>own n bs) s s1→codeAny (model W.prog W.w) A (.func body en) R s1):codeAny (model W.prog W.w) A (.call (.ref (W.fL f)) ⟨vs,(ks.map (·.1.str)).zip kvs⟩) R s:=by
 obtain⟨nd,o,fd,body,f1,f2,f3,f4,f5,f6,f7,f8,f9,Lj,qR,Lk,Ll⟩:=F
 refine aA (Ll hb st rv rk) fun m9 b1 b2=> ?_
 have Bz:=Lh hb
 have oR: ∀p∈m9,fd.scope.names.lookup p.1=some .local∨fd.scope.names.lookup p.1=some .cell:=fun p hp=>
  match b2.names p hp with|⟨m,h1,h2⟩=>h2▸Lk m (Bz▸h1)
 refine codeAny_call_function dp (st _ _ f1) f2 f3 f4 f5 (f6.keeps st) (b1 _ _ _ _ ?_)
 rw[f7]
 refine wpAny_newFunctionEnv_cells f8 (fun p hp=>(oR p hp).imp id fun q=>⟨q,qQ q⟩) fun en jY s1 x=> ?_
 have Lm:en.cells=cellsFrom (s.heap.objs.size+1) en.scope.names []:=jY▸rfl
 have wj:en.locals=s.heap.objs.size:=jY▸rfl
 have fq:en.frame=some en.locals:=jY▸rfl
 have tz:en.scope=fd.scope:=jY▸rfl
 refine cQ x.done fun h1 tk BA k1=> ?_
 exact⟨(nl.keeps st).keeps x.toInCall.keep,k en body s1 (tz▸qR) ⟨⟨tz▸f8,jY▸f9,jY▸Lj,tz▸f3,⟨_,fq⟩⟩,x.toInCall.keep,BA▸rfl,BA▸rfl,fq,wj▸Heap.get?_none_of_le (Nat.le_refl _),
  fun y c hc=>Heap.get?_none_of_le (Nat.le_trans x.toInCall.fresh (Nat.le_of_lt (x.above y c (mem_of_lookup hc)))),x.toInCall.ns.imp fun o z=>d7 z fun _ _ ho hd _=>⟨ho,fun _ q=>Data.noConfusion (hd.symm.trans q)⟩,
  ig.enter x Lm st b2 (Bz▸nd) (fun p hp=>by unfold Env.kindOf;rw[tz];exact oR p hp)⟩⟩
theorem Lo(O:aN W mg mb)(GF:kX W mg)(F: ∀f I,fJ f=some I→FnAt W f I)(CO:bq W (Cn cl fuel n) n):bq W (Cn cl fuel (n+1)) (n+1):=by
 refine⟨by have:=CO.cl;induction n<;>exact this,fun{f xs ks h r h'} e1 env fs ρ l s A R vs kvs S ac rv rk g=>oF e1 fun I hI e1=>oB e1 fun bs hb e1=> ?_⟩
 exact By GF.nl (F f I hI) hb S.cL rv rk (by have:=ac.dp;trace"caBAp20ma15ka850klBp1000kli this") fun en body s1 qR J=>J.run S (fun e=>ft O CO GF I.body (env:=en) (e:=body) qR e)
  ⟨ac.hd,congrArg (Option.map (en::·)) ac.fr,by have:=ac.dp;show A.depth+1+_≤_;trace"caABp20ma15ka850klApBp20ma850kli this",by have:=ac.un;show A.units+3+_≤_;trace"caABp200ma150ka9000klA3kaBp200ma9000kli this"⟩ e1 g
end
end CC
namespace HD
open PySem PySem.W PyProof.Rows PySem.Calls
set_option tactic.hygienic true
noncomputable def qS(tb:String→Option Builtin)(p:Program)(w:World)(eJ:Nat)(ann:Option Value):Nat→SharedT→Thread→Option SharedT
 |0,_,_=>none
 |n+1,s,t=>match through t with
  |true=>some s
  |false=>match stepOk eJ ann t with
   |false=>none
   |true=>match stepT (denote tb) p w s t with
    |some (s',t')=>qS tb p w eJ ann n s' t'
    |none=>none
noncomputable def oU(p:Program)(w:World)(eJ:Nat)(ann:Option Value):Nat→SharedT→Thread→Option SharedT
 |0,_,_=>none
 |n+1,s,t=>match through t with
  |true=>some s
  |false=>match Fast.tw6613529449190102663 eJ ann t with
   |false=>none
   |true=>match Fast.tw10156331382660048174 (Fast.tw11892475500146522536 Fast.tw14364793385576792824) p w s t with
    |some (s',t')=>oU p w eJ ann n s' t'
    |none=>none
theorem BB(p:Program)(w:World)(eJ:Nat)(ann:Option Value): ∀n s t,qS treeTable p w eJ ann n s t=oU p w eJ ann n s t
 |0,_,_=>rfl
 |n+1,s,t=>by
  unfold qS oU
  rw[Fast.te6613529449190102663,Fast.te10156331382660048174,Fast.te11892475500146522536,Fast.te14364793385576792824]
  cases through t with
  |true=>rfl
  |false=>
   dsimp only
   split
   ·rfl
   ·split
    ·rename_i s' t' e
     rw[←Fast.te14364793385576792824]
     exact BB p w eJ ann n _ _
    ·rfl
theorem BC{p:Program}{w:World}{eJ:Nat}{ann:Option Value}: ∀{n:Nat}{s s':SharedT}{t:Thread},qS treeTable p w eJ ann n s t=some s'→topRun treeTable p w eJ ann n s.abs t=some s'.abs
 |0,_,_,_,h=>by cases h
 |n+1,s,s',t,h=>by
  unfold qS at h
  unfold topRun
  cases ht:through t with
  |true=>rw[ht]at h;cases h;rfl
  |false=>
   rw[ht]at h
   dsimp only at h⊢
   cases hk:stepOk eJ ann t with
   |false=>rw[hk]at h;cases h
   |true=>
    rw[hk]at h
    dsimp only at h⊢
    cases hs:stepT (denote treeTable) p w s t with
    |none=>rw[hs]at h;cases h
    |some r=>
     obtain⟨bj,Qm⟩:=r
     rw[hs]at h
     rw[stepT_spec hs]
     exact BC h
noncomputable def Lp(P:Params):BT:=((boot_heap P).objs.toList.foldl (fun(x:BT×Nat) o=>(x.1.ins x.2 o,x.2+1)) (.nil,0)).1
noncomputable def wC(w:World)(os:OsState):SharedT:=⟨Lp w.params,(boot_heap w.params).objs.size,(boot_heap w.params).life,#[],boot_drawn,boot_toks,os⟩
theorem Lq(w:World)(os:OsState):(wC w os).abs=⟨boot_heap w.params,#[],boot_drawn,boot_toks,os⟩:=by kernel_rfl
abbrev pw:=PySem.Challenge.pw_an0018_01
theorem Lr:opening pw=plainProg pw.main.scope.names:=rfl
theorem Ls: ∀s,fenceModules? pw s=some s:=fun s=>rfl
noncomputable def at_:List Stmt→Nat→Stmt
 |[],_=> .Pass default
 |s::_,0=>s
 |_::r,n+1=>at_ r n
noncomputable def cb:Stmt→List Stmt
 | .ClassDef _ _ _ body _ _ _ _ _ _ _=>body
 |_=>[]
noncomputable def k0:List Stmt:=pw.main.body
noncomputable def s(x:String)(t:Nat):Value:= .str (Str.ofString x) t
noncomputable def i(x:Int)(t:Nat):Value:= .int x t
noncomputable def r(a:Nat):Value:= .ref a
noncomputable def ls(l:List Value):Obj:={cls:= .type "list",data:= .seq l.toArray}
noncomputable def tp(l:List Value):Obj:={cls:= .type "tuple",data:= .seq l.toArray}
noncomputable def co(l:List Value):Obj:={cls:= .type "code",data:= .fields l.toArray}
noncomputable def en(P:Params)(x:String)(t:Nat)(v:Value):DictEntry:={hash:=PyData.keyHash P (Str.ofString x),key:=s x t,val:=v}
noncomputable def di(b:Bool)(l:List DictEntry)(n:Nat):Obj:={cls:=if b then .type "dict" else .none,data:= .dict l.toArray n}
noncomputable def fdOf(st:Stmt)(q:String)(d m:Value)(c:Nat):FuncData:=match st with
 | .FunctionDef name args body _ _ _ scope _ _ _=>{name:=name,qualname:=Str.ofString q,params:=args,body:= .stmts body,scope:=scope,globals:=3,closure:=[],defaults:=d,kwdefaults:= .none,pyModule:=m,code:= .ref c}
 |_=>default
noncomputable def fo(st:Stmt)(q:String)(d m:Value)(c:Nat):Obj:={cls:= .type "function",data:= .func (fdOf st q d m c)}
noncomputable def K(P:Params):Frag:=[
 (2,di false [en P "type.__subclasses__.Exception.0" 212 (i 31 0),en P "type.__subclasses__.Exception.n" 213 (i 1 0)] 2),
 (3,di true [en P "__name__" 165 (s "law_an0018_01" 867),en P "__doc__" 166 (.none),en P "__package__" 167 (.none),en P "__loader__" 168 ((.builtin "__main__.__loader__#opaque")),en P "__spec__" 169 (.none),en P "__annotations__" 170 (r 6),en P "__builtins__" 171 (r 4),en P "__file__" 173 (s "/claim/cut.py" 172),en P "__cached__" 174 (.none),en P "_wall" 193 (r 21),en P "PSException" 215 (r 31),en P "PDFException" 233 (r 44),en P "PDFValueError" 249 (r 56),en P "cast" 259 (r 65),en P "get_bytes" 268 (r 72),en P "BitParser" 338 (r 113),en P "CCITTG4Parser" 812 (r 544),en P "CCITTFaxDecoder" 853 (r 576),en P "ccittfaxdecode" 866 (r 585),en P "_law_white" 933 (r 586),en P "_law_white_far" 942 (r 587),en P "_law_black" 1007 (r 588),en P "_law_black_far" 1016 (r 589),en P "_law_vertical" 1022 (r 596),en P "_law_end" 1024 (s "000000000001000000000001" 1023),en P "_law_no_code" 1030 (r 603),en P "_law_run" 1039 (r 610),en P "_law_line" 1061 (r 617),en P "_law_octets" 1074 (r 624),en P "_law_pack" 1080 (r 629),en P "_law_picture" 1086 (r 634),en P "law" 1092 (r 639)] 32),
 (30,di true [en P "__module__" 203 (s "pdfminer.psexceptions" 194),en P "__firstlineno__" 207 (i 5 206),en P "__static_attributes__" 208 (r 29),en P "__weakref__" 210 (r 32),en P "__doc__" 211 (.none)] 3),
 (31,{cls:= .type "type",data:= .cls {name:=Str.ofString "PSException",bases:=[.type "Exception"],mro:=[r 31,.type "Exception",.type "BaseException",.type "object"],ns:=30,qualname:=Str.ofString "PSException",subclasses:=[r 44]},slots:= #[some (r 22),none,some (s "PSException" 196),some (s "PSException" 204),some (.builtin "Exception.__new__"),some (.bool true)]}),
 (43,di true [en P "__module__" 225 (s "pdfminer.pdfexceptions" 216),en P "__firstlineno__" 229 (i 8 228),en P "__static_attributes__" 230 (r 42),en P "__doc__" 231 (.none)] 2),
 (44,{cls:= .type "type",data:= .cls {name:=Str.ofString "PDFException",bases:=[r 31],mro:=[r 44,r 31,.type "Exception",.type "BaseException",.type "object"],ns:=43,qualname:=Str.ofString "PDFException",subclasses:=[r 56,r 390]},slots:= #[some (r 35),none,some (s "PDFException" 218),some (s "PDFException" 226),some (.builtin "Exception.__new__"),some (.bool true)]}),
 (55,di true [en P "__module__" 241 (s "pdfminer.pdfexceptions" 216),en P "__firstlineno__" 245 (i 10 244),en P "__static_attributes__" 246 (r 54),en P "__doc__" 247 (.none)] 2),
 (56,{cls:= .type "type",data:= .cls {name:=Str.ofString "PDFValueError",bases:=[r 44,.type "ValueError"],mro:=[r 56,r 44,r 31,.type "ValueError",.type "Exception",.type "BaseException",.type "object"],ns:=55,qualname:=Str.ofString "PDFValueError"},slots:= #[some (r 47),none,some (s "PDFValueError" 234),some (s "PDFValueError" 242),some (.builtin "Exception.__new__"),some (.bool true)]}),
 (64,co [s "cast" 252,s "cast" 253,s "/claim/cut.py" 254,i 13 0,i 2 0,i 0 0,i 0 0,i 3 0,r 59,(.bool true),i 181 0,r 60,.none,r 61,r 62,r 63,i 257 0,i 13 0,s "/claim/cut.py" 258]),
 (65,fo (at_ k0 7) "cast" (.none) (s "pdfminer.stand_ins" 250) 64),
 (71,co [s "get_bytes" 262,s "get_bytes" 263,s "/claim/cut.py" 264,i 16 0,i 1 0,i 0 0,i 0 0,i 35 0,r 66,(.bool true),i 181 0,r 67,.none,r 68,r 69,r 70,i 266 0,i 16 0,s "/claim/cut.py" 267]),
 (72,fo (at_ k0 9) "get_bytes" (.none) (s "pdfminer.ccitt" 260) 71),
 (85,co [s "__init__" 281,s "BitParser.__init__" 282,s "/claim/cut.py" 283,i 20 0,i 1 0,i 0 0,i 0 0,i 3 0,r 80,(.bool true),i 181 0,r 81,.none,r 82,r 83,r 84,i 285 0,i 20 0,s "/claim/cut.py" 286]),
 (86,fo (at_ (cb (at_ k0 10)) 0) "BitParser.__init__" (.none) (s "pdfminer.ccitt" 260) 85),
 (109,co [s "_parse_bit" 320,s "BitParser._parse_bit" 321,s "/claim/cut.py" 322,i 32 0,i 2 0,i 0 0,i 0 0,i 3 0,r 104,(.bool true),i 181 0,r 105,.none,r 106,r 107,r 108,i 326 0,i 32 0,s "/claim/cut.py" 327]),
 (110,fo (at_ (cb (at_ k0 10)) 3) "BitParser._parse_bit" (.none) (s "pdfminer.ccitt" 260) 109),
 (112,di true [en P "__module__" 276 (s "pdfminer.ccitt" 260),en P "__firstlineno__" 280 (i 18 279),en P "__init__" 287 (r 86),en P "add" 309 (r 95),en P "feedbytes" 319 (r 103),en P "_parse_bit" 328 (r 110),en P "__static_attributes__" 331 (r 111),en P "__dict__" 333 (r 114),en P "__weakref__" 335 (r 115),en P "__doc__" 336 (.none)] 4),
 (113,{cls:= .type "type",data:= .cls {name:=Str.ofString "BitParser",bases:=[.type "object"],mro:=[r 113,.type "object"],ns:=112,qualname:=Str.ofString "BitParser",subclasses:=[r 544]},slots:= #[none,none,some (s "BitParser" 269),some (s "BitParser" 277),some (.builtin "object.__new__"),some (.bool true)]}),
 (125,ls [.none,s "e" 351]),
 (126,ls [r 125,.none]),
 (127,ls [r 126,.none]),
 (128,ls [r 127,.none]),
 (129,ls [r 128,.none]),
 (130,ls [r 129,.none]),
 (131,ls [r 130,.none]),
 (132,ls [r 131,.none]),
 (133,ls [r 132,.none]),
 (134,ls [r 133,.none]),
 (135,ls [r 134,.none]),
 (136,ls [r 135,.none]),
 (137,ls [.none,r 136]),
 (138,ls [r 137,.none]),
 (139,ls [r 138,.none]),
 (140,ls [r 139,.none]),
 (141,ls [r 140,.none]),
 (142,ls [s "x1" 352,s "x2" 353]),
 (143,ls [s "x3" 354,s "x4" 355]),
 (144,ls [r 142,r 143]),
 (145,ls [s "x5" 356,s "x6" 357]),
 (146,ls [s "x7" 358,s "u" 359]),
 (147,ls [r 145,r 146]),
 (148,ls [r 144,r 147]),
 (149,ls [r 141,r 148]),
 (150,ls [i (-3) 361,i 3 362]),
 (151,ls [r 149,r 150]),
 (152,ls [i (-2) 364,i 2 365]),
 (153,ls [r 151,r 152]),
 (154,ls [r 153,s "p" 366]),
 (155,ls [r 154,s "h" 367]),
 (156,ls [i (-1) 369,i 1 370]),
 (157,ls [r 155,r 156]),
 (158,ls [r 157,i 0 371]),
 (159,ls [i 1984 374,i 2048 375]),
 (160,ls [i 1792 373,r 159]),
 (161,ls [i 2112 376,i 2176 377]),
 (162,ls [i 2240 378,i 2304 379]),
 (163,ls [r 161,r 162]),
 (164,ls [r 160,r 163]),
 (165,ls [i 1856 380,i 1920 381]),
 (166,ls [i 2368 382,i 2432 383]),
 (167,ls [i 2496 384,i 2560 385]),
 (168,ls [r 166,r 167]),
 (169,ls [r 165,r 168]),
 (170,ls [r 164,r 169]),
 (171,ls [.none,r 170]),
 (172,ls [i 29 386,i 30 387]),
 (173,ls [r 171,r 172]),
 (174,ls [i 45 388,i 46 389]),
 (175,ls [r 174,i 22 390]),
 (176,ls [r 173,r 175]),
 (177,ls [i 47 392,i 48 393]),
 (178,ls [i 23 391,r 177]),
 (179,ls [r 178,i 13 394]),
 (180,ls [r 176,r 179]),
 (181,ls [i 33 396,i 34 397]),
 (182,ls [i 20 395,r 181]),
 (183,ls [i 35 398,i 36 399]),
 (184,ls [i 37 400,i 38 401]),
 (185,ls [r 183,r 184]),
 (186,ls [r 182,r 185]),
 (187,ls [i 31 403,i 32 404]),
 (188,ls [i 19 402,r 187]),
 (189,ls [r 188,i 1 405]),
 (190,ls [r 186,r 189]),
 (191,ls [r 180,r 190]),
 (192,ls [i 53 407,i 54 408]),
 (193,ls [r 192,i 26 409]),
 (194,ls [i 12 406,r 193]),
 (195,ls [i 39 410,i 40 411]),
 (196,ls [i 41 412,i 42 413]),
 (197,ls [r 195,r 196]),
 (198,ls [i 43 414,i 44 415]),
 (199,ls [r 198,i 21 416]),
 (200,ls [r 197,r 199]),
 (201,ls [r 194,r 200]),
 (202,ls [i 61 418,i 62 419]),
 (203,ls [i 28 417,r 202]),
 (204,ls [i 63 420,i 0 421]),
 (205,ls [i 320 422,i 384 423]),
 (206,ls [r 204,r 205]),
 (207,ls [r 203,r 206]),
 (208,ls [r 207,i 10 424]),
 (209,ls [r 201,r 208]),
 (210,ls [r 191,r 209]),
 (211,ls [i 59 427,i 60 428]),
 (212,ls [i 27 426,r 211]),
 (213,ls [i 1472 429,i 1536 430]),
 (214,ls [i 1600 431,i 1728 432]),
 (215,ls [r 213,r 214]),
 (216,ls [r 215,i 18 433]),
 (217,ls [r 212,r 216]),
 (218,ls [i 11 425,r 217]),
 (219,ls [i 49 435,i 50 436]),
 (220,ls [i 24 434,r 219]),
 (221,ls [i 51 437,i 52 438]),
 (222,ls [r 221,i 25 439]),
 (223,ls [r 220,r 222]),
 (224,ls [i 55 440,i 56 441]),
 (225,ls [i 57 442,i 58 443]),
 (226,ls [r 224,r 225]),
 (227,ls [r 226,i 192 444]),
 (228,ls [r 223,r 227]),
 (229,ls [r 218,r 228]),
 (230,ls [i 448 446,i 512 447]),
 (231,ls [i 704 448,i 768 449]),
 (232,ls [r 231,i 640 450]),
 (233,ls [r 230,r 232]),
 (234,ls [i 1664 445,r 233]),
 (235,ls [i 832 452,i 896 453]),
 (236,ls [i 576 451,r 235]),
 (237,ls [i 960 454,i 1024 455]),
 (238,ls [i 1088 456,i 1152 457]),
 (239,ls [r 237,r 238]),
 (240,ls [r 236,r 239]),
 (241,ls [i 1216 458,i 1280 459]),
 (242,ls [i 1344 460,i 1408 461]),
 (243,ls [r 241,r 242]),
 (244,ls [r 243,i 256 462]),
 (245,ls [r 240,r 244]),
 (246,ls [r 234,r 245]),
 (247,ls [r 246,i 2 463]),
 (248,ls [r 229,r 247]),
 (249,ls [r 210,r 248]),
 (250,ls [i 128 465,i 8 466]),
 (251,ls [i 3 464,r 250]),
 (252,ls [i 16 468,i 17 469]),
 (253,ls [i 9 467,r 252]),
 (254,ls [r 253,i 4 470]),
 (255,ls [r 251,r 254]),
 (256,ls [i 14 472,i 15 473]),
 (257,ls [r 256,i 64 474]),
 (258,ls [i 5 471,r 257]),
 (259,ls [i 6 475,i 7 476]),
 (260,ls [r 258,r 259]),
 (261,ls [r 255,r 260]),
 (262,ls [r 249,r 261]),
 (263,ls [i 1984 479,i 2048 480]),
 (264,ls [i 1792 478,r 263]),
 (265,ls [i 2112 481,i 2176 482]),
 (266,ls [i 2240 483,i 2304 484]),
 (267,ls [r 265,r 266]),
 (268,ls [r 264,r 267]),
 (269,ls [i 1856 485,i 1920 486]),
 (270,ls [i 2368 487,i 2432 488]),
 (271,ls [i 2496 489,i 2560 490]),
 (272,ls [r 270,r 271]),
 (273,ls [r 269,r 272]),
 (274,ls [r 268,r 273]),
 (275,ls [.none,r 274]),
 (276,ls [i 640 493,i 704 494]),
 (277,ls [i 52 492,r 276]),
 (278,ls [i 768 495,i 832 496]),
 (279,ls [r 278,i 55 497]),
 (280,ls [r 277,r 279]),
 (281,ls [i 18 491,r 280]),
 (282,ls [i 1280 499,i 1344 500]),
 (283,ls [i 56 498,r 282]),
 (284,ls [i 1408 501,i 1472 502]),
 (285,ls [r 284,i 59 503]),
 (286,ls [r 283,r 285]),
 (287,ls [i 1536 505,i 1600 506]),
 (288,ls [i 60 504,r 287]),
 (289,ls [r 288,i 24 507]),
 (290,ls [r 286,r 289]),
 (291,ls [r 281,r 290]),
 (292,ls [i 1664 509,i 1728 510]),
 (293,ls [r 292,i 320 511]),
 (294,ls [i 25 508,r 293]),
 (295,ls [i 384 512,i 448 513]),
 (296,ls [i 512 514,i 576 515]),
 (297,ls [r 296,i 53 516]),
 (298,ls [r 295,r 297]),
 (299,ls [r 294,r 298]),
 (300,ls [i 896 518,i 960 519]),
 (301,ls [i 54 517,r 300]),
 (302,ls [i 1024 520,i 1088 521]),
 (303,ls [i 1152 522,i 1216 523]),
 (304,ls [r 302,r 303]),
 (305,ls [r 301,r 304]),
 (306,ls [r 305,i 64 524]),
 (307,ls [r 299,r 306]),
 (308,ls [r 291,r 307]),
 (309,ls [r 275,r 308]),
 (310,ls [i 50 527,i 51 528]),
 (311,ls [i 23 526,r 310]),
 (312,ls [i 44 529,i 45 530]),
 (313,ls [i 46 531,i 47 532]),
 (314,ls [r 312,r 313]),
 (315,ls [r 311,r 314]),
 (316,ls [i 57 533,i 58 534]),
 (317,ls [i 61 535,i 256 536]),
 (318,ls [r 316,r 317]),
 (319,ls [r 318,i 16 537]),
 (320,ls [r 315,r 319]),
 (321,ls [i 13 525,r 320]),
 (322,ls [i 48 539,i 49 540]),
 (323,ls [i 62 541,i 63 542]),
 (324,ls [r 322,r 323]),
 (325,ls [i 17 538,r 324]),
 (326,ls [i 30 543,i 31 544]),
 (327,ls [i 32 545,i 33 546]),
 (328,ls [r 326,r 327]),
 (329,ls [i 40 547,i 41 548]),
 (330,ls [r 329,i 22 549]),
 (331,ls [r 328,r 330]),
 (332,ls [r 325,r 331]),
 (333,ls [r 332,i 14 550]),
 (334,ls [r 321,r 333]),
 (335,ls [r 309,r 334]),
 (336,ls [i 10 551,i 11 552]),
 (337,ls [i 128 554,i 192 555]),
 (338,ls [i 26 556,i 27 557]),
 (339,ls [r 337,r 338]),
 (340,ls [i 28 558,i 29 559]),
 (341,ls [r 340,i 19 560]),
 (342,ls [r 339,r 341]),
 (343,ls [i 15 553,r 342]),
 (344,ls [i 34 562,i 35 563]),
 (345,ls [i 20 561,r 344]),
 (346,ls [i 36 564,i 37 565]),
 (347,ls [i 38 566,i 39 567]),
 (348,ls [r 346,r 347]),
 (349,ls [r 345,r 348]),
 (350,ls [i 42 569,i 43 570]),
 (351,ls [i 21 568,r 350]),
 (352,ls [r 351,i 0 571]),
 (353,ls [r 349,r 352]),
 (354,ls [r 343,r 353]),
 (355,ls [r 354,i 12 572]),
 (356,ls [r 336,r 355]),
 (357,ls [r 335,r 356]),
 (358,ls [i 9 573,i 8 574]),
 (359,ls [r 358,i 7 575]),
 (360,ls [r 357,r 359]),
 (361,ls [i 6 576,i 5 577]),
 (362,ls [r 360,r 361]),
 (363,ls [i 1 578,i 4 579]),
 (364,ls [r 362,r 363]),
 (365,ls [i 3 580,i 2 581]),
 (366,ls [r 364,r 365]),
 (367,ls [s "T10000" 583,s "T00000" 584]),
 (368,ls [.none,r 367]),
 (369,ls [s "T1000" 585,s "T0000" 586]),
 (370,ls [r 368,r 369]),
 (371,ls [s "T100" 587,s "T000" 588]),
 (372,ls [r 370,r 371]),
 (373,ls [s "T10" 589,s "T00" 590]),
 (374,ls [r 372,r 373]),
 (375,ls [r 374,s "00000" 591]),
 (376,ls [r 375,s "00001" 592]),
 (377,ls [r 376,s "0001" 593]),
 (378,ls [r 377,s "001" 594]),
 (379,ls [r 378,s "01" 595]),
 (380,ls [r 379,s "1" 596]),
 (389,di true [en P "__module__" 605 (s "pdfminer.ccitt" 260),en P "__firstlineno__" 609 (i 46 608),en P "__static_attributes__" 610 (r 388),en P "__doc__" 611 (.none)] 2),
 (390,{cls:= .type "type",data:= .cls {name:=Str.ofString "CCITTException",bases:=[r 44],mro:=[r 390,r 44,r 31,.type "Exception",.type "BaseException",.type "object"],ns:=389,qualname:=Str.ofString "CCITTG4Parser.CCITTException",subclasses:=[r 402,r 414,r 426]},slots:= #[some (r 381),none,some (s "CCITTException" 598),some (s "CCITTG4Parser.CCITTException" 606),some (.builtin "Exception.__new__"),some (.bool true)]}),
 (401,di true [en P "__module__" 621 (s "pdfminer.ccitt" 260),en P "__firstlineno__" 625 (i 49 624),en P "__static_attributes__" 626 (r 400),en P "__doc__" 627 (.none)] 2),
 (402,{cls:= .type "type",data:= .cls {name:=Str.ofString "EOFB",bases:=[r 390],mro:=[r 402,r 390,r 44,r 31,.type "Exception",.type "BaseException",.type "object"],ns:=401,qualname:=Str.ofString "CCITTG4Parser.EOFB"},slots:= #[some (r 393),none,some (s "EOFB" 614),some (s "CCITTG4Parser.EOFB" 622),some (.builtin "Exception.__new__"),some (.bool true)]}),
 (413,di true [en P "__module__" 637 (s "pdfminer.ccitt" 260),en P "__firstlineno__" 641 (i 52 640),en P "__static_attributes__" 642 (r 412),en P "__doc__" 643 (.none)] 2),
 (414,{cls:= .type "type",data:= .cls {name:=Str.ofString "InvalidData",bases:=[r 390],mro:=[r 414,r 390,r 44,r 31,.type "Exception",.type "BaseException",.type "object"],ns:=413,qualname:=Str.ofString "CCITTG4Parser.InvalidData"},slots:= #[some (r 405),none,some (s "InvalidData" 630),some (s "CCITTG4Parser.InvalidData" 638),some (.builtin "Exception.__new__"),some (.bool true)]}),
 (425,di true [en P "__module__" 653 (s "pdfminer.ccitt" 260),en P "__firstlineno__" 657 (i 55 656),en P "__static_attributes__" 658 (r 424),en P "__doc__" 659 (.none)] 2),
 (426,{cls:= .type "type",data:= .cls {name:=Str.ofString "ByteSkip",bases:=[r 390],mro:=[r 426,r 390,r 44,r 31,.type "Exception",.type "BaseException",.type "object"],ns:=425,qualname:=Str.ofString "CCITTG4Parser.ByteSkip"},slots:= #[some (r 417),none,some (s "ByteSkip" 646),some (s "CCITTG4Parser.ByteSkip" 654),some (.builtin "Exception.__new__"),some (.bool true)]}),
 (429,tp [(.bool false)]),
 (435,co [s "__init__" 662,s "CCITTG4Parser.__init__" 663,s "/claim/cut.py" 664,i 58 0,i 3 0,i 0 0,i 0 0,i 3 0,r 430,(.bool true),i 181 0,r 431,.none,r 432,r 433,r 434,i 668 0,i 58 0,s "/claim/cut.py" 669]),
 (436,fo (at_ (cb (at_ k0 11)) 8) "CCITTG4Parser.__init__" (r 429) (s "pdfminer.ccitt" 260) 435),
 (442,co [s "feedbytes" 671,s "CCITTG4Parser.feedbytes" 672,s "/claim/cut.py" 673,i 64 0,i 2 0,i 0 0,i 0 0,i 3 0,r 437,(.bool true),i 181 0,r 438,.none,r 439,r 440,r 441,i 678 0,i 64 0,s "/claim/cut.py" 679]),
 (443,fo (at_ (cb (at_ k0 11)) 9) "CCITTG4Parser.feedbytes" (.none) (s "pdfminer.ccitt" 260) 442),
 (449,co [s "_parse_mode" 681,s "CCITTG4Parser._parse_mode" 682,s "/claim/cut.py" 683,i 75 0,i 2 0,i 0 0,i 0 0,i 3 0,r 444,(.bool true),i 181 0,r 445,.none,r 446,r 447,r 448,i 686 0,i 75 0,s "/claim/cut.py" 687]),
 (450,fo (at_ (cb (at_ k0 11)) 10) "CCITTG4Parser._parse_mode" (.none) (s "pdfminer.ccitt" 260) 449),
 (456,co [s "_parse_horiz1" 689,s "CCITTG4Parser._parse_horiz1" 690,s "/claim/cut.py" 691,i 99 0,i 2 0,i 0 0,i 0 0,i 3 0,r 451,(.bool true),i 181 0,r 452,.none,r 453,r 454,r 455,i 694 0,i 99 0,s "/claim/cut.py" 695]),
 (457,fo (at_ (cb (at_ k0 11)) 11) "CCITTG4Parser._parse_horiz1" (.none) (s "pdfminer.ccitt" 260) 456),
 (463,co [s "_parse_horiz2" 697,s "CCITTG4Parser._parse_horiz2" 698,s "/claim/cut.py" 699,i 112 0,i 2 0,i 0 0,i 0 0,i 3 0,r 458,(.bool true),i 181 0,r 459,.none,r 460,r 461,r 462,i 702 0,i 112 0,s "/claim/cut.py" 703]),
 (464,fo (at_ (cb (at_ k0 11)) 12) "CCITTG4Parser._parse_horiz2" (.none) (s "pdfminer.ccitt" 260) 463),
 (470,co [s "_parse_uncompressed" 705,s "CCITTG4Parser._parse_uncompressed" 706,s "/claim/cut.py" 707,i 127 0,i 2 0,i 0 0,i 0 0,i 3 0,r 465,(.bool true),i 181 0,r 466,.none,r 467,r 468,r 469,i 710 0,i 127 0,s "/claim/cut.py" 711]),
 (471,fo (at_ (cb (at_ k0 11)) 13) "CCITTG4Parser._parse_uncompressed" (.none) (s "pdfminer.ccitt" 260) 470),
 (491,co [s "reset" 728,s "CCITTG4Parser.reset" 729,s "/claim/cut.py" 730,i 145 0,i 1 0,i 0 0,i 0 0,i 3 0,r 486,(.bool true),i 181 0,r 487,.none,r 488,r 489,r 490,i 732 0,i 145 0,s "/claim/cut.py" 733]),
 (492,fo (at_ (cb (at_ k0 11)) 16) "CCITTG4Parser.reset" (.none) (s "pdfminer.ccitt" 260) 491),
 (505,co [s "_reset_line" 744,s "CCITTG4Parser._reset_line" 745,s "/claim/cut.py" 746,i 155 0,i 1 0,i 0 0,i 0 0,i 3 0,r 500,(.bool true),i 181 0,r 501,.none,r 502,r 503,r 504,i 748 0,i 155 0,s "/claim/cut.py" 749]),
 (506,fo (at_ (cb (at_ k0 11)) 18) "CCITTG4Parser._reset_line" (.none) (s "pdfminer.ccitt" 260) 505),
 (512,co [s "_flush_line" 751,s "CCITTG4Parser._flush_line" 752,s "/claim/cut.py" 753,i 161 0,i 1 0,i 0 0,i 0 0,i 3 0,r 507,(.bool true),i 181 0,r 508,.none,r 509,r 510,r 511,i 755 0,i 161 0,s "/claim/cut.py" 756]),
 (513,fo (at_ (cb (at_ k0 11)) 19) "CCITTG4Parser._flush_line" (.none) (s "pdfminer.ccitt" 260) 512),
 (519,co [s "_do_vertical" 758,s "CCITTG4Parser._do_vertical" 759,s "/claim/cut.py" 760,i 169 0,i 2 0,i 0 0,i 0 0,i 3 0,r 514,(.bool true),i 181 0,r 515,.none,r 516,r 517,r 518,i 766 0,i 169 0,s "/claim/cut.py" 767]),
 (520,fo (at_ (cb (at_ k0 11)) 20) "CCITTG4Parser._do_vertical" (.none) (s "pdfminer.ccitt" 260) 519),
 (526,co [s "_do_pass" 769,s "CCITTG4Parser._do_pass" 770,s "/claim/cut.py" 771,i 190 0,i 1 0,i 0 0,i 0 0,i 3 0,r 521,(.bool true),i 181 0,r 522,.none,r 523,r 524,r 525,i 775 0,i 190 0,s "/claim/cut.py" 776]),
 (527,fo (at_ (cb (at_ k0 11)) 21) "CCITTG4Parser._do_pass" (.none) (s "pdfminer.ccitt" 260) 526),
 (533,co [s "_do_horizontal" 778,s "CCITTG4Parser._do_horizontal" 779,s "/claim/cut.py" 780,i 210 0,i 3 0,i 0 0,i 0 0,i 3 0,r 528,(.bool true),i 181 0,r 529,.none,r 530,r 531,r 532,i 786 0,i 210 0,s "/claim/cut.py" 787]),
 (534,fo (at_ (cb (at_ k0 11)) 22) "CCITTG4Parser._do_horizontal" (.none) (s "pdfminer.ccitt" 260) 533),
 (543,di true [en P "__module__" 346 (s "pdfminer.ccitt" 260),en P "__firstlineno__" 350 (i 40 349),en P "MODE" 372 (r 158),en P "WHITE" 477 (r 262),en P "BLACK" 582 (r 366),en P "UNCOMPRESSED" 597 (r 380),en P "CCITTException" 613 (r 390),en P "EOFB" 629 (r 402),en P "InvalidData" 645 (r 414),en P "ByteSkip" 661 (r 426),en P "__init__" 670 (r 436),en P "feedbytes" 680 (r 443),en P "_parse_mode" 688 (r 450),en P "_parse_horiz1" 696 (r 457),en P "_parse_horiz2" 704 (r 464),en P "_parse_uncompressed" 712 (r 471),en P "_get_bits" 719 (r 478),en P "_get_refline" 727 (r 485),en P "reset" 734 (r 492),en P "output_line" 743 (r 499),en P "_reset_line" 750 (r 506),en P "_flush_line" 757 (r 513),en P "_do_vertical" 768 (r 520),en P "_do_pass" 777 (r 527),en P "_do_horizontal" 788 (r 534),en P "_do_uncompressed" 797 (r 541),en P "__static_attributes__" 809 (r 542),en P "__doc__" 810 (.none)] 2),
 (544,{cls:= .type "type",data:= .cls {name:=Str.ofString "CCITTG4Parser",bases:=[r 113],mro:=[r 544,r 113,.type "object"],ns:=543,qualname:=Str.ofString "CCITTG4Parser",subclasses:=[r 576]},slots:= #[some (r 118),none,some (s "CCITTG4Parser" 339),some (s "CCITTG4Parser" 347),some (.builtin "object.__new__"),some (.bool true)]}),
 (554,tp [(.bool false),(.bool false)]),
 (560,co [s "__init__" 825,s "CCITTFaxDecoder.__init__" 826,s "/claim/cut.py" 827,i 233 0,i 4 0,i 0 0,i 0 0,i 3 0,r 555,(.bool true),i 181 0,r 556,.none,r 557,r 558,r 559,i 832 0,i 233 0,s "/claim/cut.py" 833]),
 (561,fo (at_ (cb (at_ k0 12)) 0) "CCITTFaxDecoder.__init__" (r 554) (s "pdfminer.ccitt" 260) 560),
 (567,co [s "close" 835,s "CCITTFaxDecoder.close" 836,s "/claim/cut.py" 837,i 238 0,i 1 0,i 0 0,i 0 0,i 3 0,r 562,(.bool true),i 181 0,r 563,.none,r 564,r 565,r 566,i 839 0,i 238 0,s "/claim/cut.py" 840]),
 (568,fo (at_ (cb (at_ k0 12)) 1) "CCITTFaxDecoder.close" (.none) (s "pdfminer.ccitt" 260) 567),
 (572,co [s "output_line" 842,s "CCITTFaxDecoder.output_line" 843,s "/claim/cut.py" 844,i 241 0,i 3 0,i 0 0,i 0 0,i 3 0,r 569,(.bool true),i 181 0,r 570,.none,.none,.none,r 571,i 845 0,i 241 0,s "/claim/cut.py" 846]),
 (573,fo (at_ (cb (at_ k0 12)) 2) "CCITTFaxDecoder.output_line" (.none) (s "pdfminer.ccitt" 260) 572),
 (575,di true [en P "__module__" 820 (s "pdfminer.ccitt" 260),en P "__firstlineno__" 824 (i 231 823),en P "__init__" 834 (r 561),en P "close" 841 (r 568),en P "output_line" 847 (r 573),en P "__static_attributes__" 850 (r 574),en P "__doc__" 851 (.none)] 2),
 (576,{cls:= .type "type",data:= .cls {name:=Str.ofString "CCITTFaxDecoder",bases:=[r 544],mro:=[r 576,r 544,r 113,.type "object"],ns:=575,qualname:=Str.ofString "CCITTFaxDecoder"},slots:= #[some (r 547),none,some (s "CCITTFaxDecoder" 813),some (s "CCITTFaxDecoder" 821),some (.builtin "object.__new__"),some (.bool true)]}),
 (584,co [s "ccittfaxdecode" 854,s "ccittfaxdecode" 855,s "/claim/cut.py" 856,i 249 0,i 2 0,i 0 0,i 0 0,i 3 0,r 579,(.bool true),i 181 0,r 580,.none,r 581,r 582,r 583,i 864 0,i 249 0,s "/claim/cut.py" 865]),
 (585,fo (at_ k0 13) "ccittfaxdecode" (.none) (s "pdfminer.ccitt" 260) 584),
 (586,ls [s "00110101" 869,s "000111" 870,s "0111" 871,s "1000" 872,s "1011" 873,s "1100" 874,s "1110" 875,s "1111" 876,s "10011" 877,s "10100" 878,s "00111" 879,s "01000" 880,s "001000" 881,s "000011" 882,s "110100" 883,s "110101" 884,s "101010" 885,s "101011" 886,s "0100111" 887,s "0001100" 888,s "0001000" 889,s "0010111" 890,s "0000011" 891,s "0000100" 892,s "0101000" 893,s "0101011" 894,s "0010011" 895,s "0100100" 896,s "0011000" 897,s "00000010" 898,s "00000011" 899,s "00011010" 900,s "00011011" 901,s "00010010" 902,s "00010011" 903,s "00010100" 904,s "00010101" 905,s "00010110" 906,s "00010111" 907,s "00101000" 908,s "00101001" 909,s "00101010" 910,s "00101011" 911,s "00101100" 912,s "00101101" 913,s "00000100" 914,s "00000101" 915,s "00001010" 916,s "00001011" 917,s "01010010" 918,s "01010011" 919,s "01010100" 920,s "01010101" 921,s "00100100" 922,s "00100101" 923,s "01011000" 924,s "01011001" 925,s "01011010" 926,s "01011011" 927,s "01001010" 928,s "01001011" 929,s "00110010" 930,s "00110011" 931,s "00110100" 932]),
 (587,ls [s "11011" 934,s "10010" 935,s "010111" 936,s "0110111" 937,s "00110110" 938,s "00110111" 939,s "01100100" 940,s "01100101" 941]),
 (588,ls [s "0000110111" 943,s "010" 944,s "11" 945,s "10" 946,s "011" 947,s "0011" 948,s "0010" 949,s "00011" 950,s "000101" 951,s "000100" 952,s "0000100" 953,s "0000101" 954,s "0000111" 955,s "00000100" 956,s "00000111" 957,s "000011000" 958,s "0000010111" 959,s "0000011000" 960,s "0000001000" 961,s "00001100111" 962,s "00001101000" 963,s "00001101100" 964,s "00000110111" 965,s "00000101000" 966,s "00000010111" 967,s "00000011000" 968,s "000011001010" 969,s "000011001011" 970,s "000011001100" 971,s "000011001101" 972,s "000001101000" 973,s "000001101001" 974,s "000001101010" 975,s "000001101011" 976,s "000011010010" 977,s "000011010011" 978,s "000011010100" 979,s "000011010101" 980,s "000011010110" 981,s "000011010111" 982,s "000001101100" 983,s "000001101101" 984,s "000011011010" 985,s "000011011011" 986,s "000001010100" 987,s "000001010101" 988,s "000001010110" 989,s "000001010111" 990,s "000001100100" 991,s "000001100101" 992,s "000001010010" 993,s "000001010011" 994,s "000000100100" 995,s "000000110111" 996,s "000000111000" 997,s "000000100111" 998,s "000000101000" 999,s "000001011000" 1000,s "000001011001" 1001,s "000000101011" 1002,s "000000101100" 1003,s "000001011010" 1004,s "000001100110" 1005,s "000001100111" 1006]),
 (589,ls [s "0000001111" 1008,s "000011001000" 1009,s "000011001001" 1010,s "000001011011" 1011,s "000000110011" 1012,s "000000110100" 1013,s "000000110101" 1014,s "0000001101100" 1015]),
 (595,co [s "_law_vertical" 1017,s "_law_vertical" 1018,s "/claim/cut.py" 1019,i 265 0,i 0 0,i 0 0,i 0 0,i 3 0,r 590,(.bool true),i 181 0,r 591,.none,r 592,r 593,r 594,i 1020 0,i 265 0,s "/claim/cut.py" 1021]),
 (596,fo (at_ k0 19) "_law_vertical" (.none) (s "law_an0018_01" 867) 595),
 (602,co [s "_law_no_code" 1025,s "_law_no_code" 1026,s "/claim/cut.py" 1027,i 268 0,i 0 0,i 0 0,i 0 0,i 3 0,r 597,(.bool true),i 181 0,r 598,.none,r 599,r 600,r 601,i 1028 0,i 268 0,s "/claim/cut.py" 1029]),
 (603,fo (at_ k0 21) "_law_no_code" (.none) (s "law_an0018_01" 867) 602),
 (609,co [s "_law_run" 1031,s "_law_run" 1032,s "/claim/cut.py" 1033,i 270 0,i 2 0,i 0 0,i 0 0,i 3 0,r 604,(.bool true),i 181 0,r 605,.none,r 606,r 607,r 608,i 1037 0,i 270 0,s "/claim/cut.py" 1038]),
 (610,fo (at_ k0 22) "_law_run" (.none) (s "law_an0018_01" 867) 609),
 (616,co [s "_law_line" 1040,s "_law_line" 1041,s "/claim/cut.py" 1042,i 275 0,i 6 0,i 0 0,i 0 0,i 3 0,r 611,(.bool true),i 181 0,r 612,.none,r 613,r 614,r 615,i 1059 0,i 275 0,s "/claim/cut.py" 1060]),
 (617,fo (at_ k0 23) "_law_line" (.none) (s "law_an0018_01" 867) 616),
 (623,co [s "_law_octets" 1062,s "_law_octets" 1063,s "/claim/cut.py" 1064,i 307 0,i 3 0,i 0 0,i 0 0,i 3 0,r 618,(.bool true),i 181 0,r 619,.none,r 620,r 621,r 622,i 1072 0,i 307 0,s "/claim/cut.py" 1073]),
 (624,fo (at_ k0 24) "_law_octets" (.none) (s "law_an0018_01" 867) 623),
 (628,co [s "_law_pack" 1075,s "_law_pack" 1076,s "/claim/cut.py" 1077,i 316 0,i 1 0,i 0 0,i 0 0,i 3 0,r 625,(.bool true),i 181 0,r 626,.none,.none,.none,r 627,i 1078 0,i 316 0,s "/claim/cut.py" 1079]),
 (629,fo (at_ k0 25) "_law_pack" (.none) (s "law_an0018_01" 867) 628),
 (633,co [s "_law_picture" 1081,s "_law_picture" 1082,s "/claim/cut.py" 1083,i 319 0,i 2 0,i 0 0,i 0 0,i 3 0,r 630,(.bool true),i 181 0,r 631,.none,.none,.none,r 632,i 1084 0,i 319 0,s "/claim/cut.py" 1085]),
 (634,fo (at_ k0 26) "_law_picture" (.none) (s "law_an0018_01" 867) 633),
 (638,co [s "law" 1087,s "law" 1088,s "/claim/cut.py" 1089,i 339 0,i 1 0,i 0 0,i 0 0,i 3 0,r 635,(.bool true),i 181 0,r 636,.none,.none,.none,r 637,i 1090 0,i 339 0,s "/claim/cut.py" 1091]),
 (639,fo (at_ k0 27) "law" (.none) (s "law_an0018_01" 867) 638)
]
noncomputable def qT:List Addr:=[2,3,30,31,43,44,55,56,64,65,71,72,85,86,109,110,112,113,125,126,127,128,129,130,131,132,133,134,135,136,137,138,139,140,141,142,143,144,145,146,147,148,149,150,151,152,153,154,155,156,157,158,159,160,161,162,163,164,165,166,167,168,169,170,171,172,173,174,175,176,177,178,179,180,181,182,183,184,185,186,187,188,189,190,191,192,193,194,195,196,197,198,199,200,201,202,203,204,205,206,207,208,209,210,211,212,213,214,215,216,217,218,219,220,221,222,223,224,225,226,227,228,229,230,231,232,233,234,235,236,237,238,239,240,241,242,243,244,245,246,247,248,249,250,251,252,253,254,255,256,257,258,259,260,261,262,263,264,265,266,267,268,269,270,271,272,273,274,275,276,277,278,279,280,281,282,283,284,285,286,287,288,289,290,291,292,293,294,295,296,297,298,299,300,301,302,303,304,305,306,307,308,309,310,311,312,313,314,315,316,317,318,319,320,321,322,323,324,325,326,327,328,329,330,331,332,333,334,335,336,337,338,339,340,341,342,343,344,345,346,347,348,349,350,351,352,353,354,355,356,357,358,359,360,361,362,363,364,365,366,367,368,369,370,371,372,373,374,375,376,377,378,379,380,389,390,401,402,413,414,425,426,429,435,436,442,443,449,450,456,457,463,464,470,471,491,492,505,506,512,513,519,520,526,527,533,534,543,544,554,560,561,567,568,572,573,575,576,584,585,586,587,588,589,595,596,602,603,609,610,616,617,623,624,628,629,633,634,638,639]
noncomputable def lo:List PySem.Str:=["_wall","PSException","PDFException","PDFValueError","cast","get_bytes","BitParser","CCITTG4Parser","CCITTFaxDecoder","ccittfaxdecode","_law_white","_law_white_far","_law_black","_law_black_far","_law_vertical","_law_end","_law_no_code","_law_run","_law_line","_law_octets","_law_pack","_law_picture"]
noncomputable def q:Program:=view pw [27]
theorem bP(w:World)(os:OsState):(oU pw w 11 (some (.ref 6)) 5000 (wC w os) (topStub pw)).map (fun s=>
 (staticsOk (Fast.tw5923862056798008813 pw.main.body) (boot_heap w.params) s.abs.heap&&namesBound pw s.abs.heap&&gensDone s.abs&&laidKept (boot_heap w.params) s.abs.heap,
  Fast.tw4187177175401517315 q lo (Fast.tw5923862056798008813 pw.main.body) (fun s=>xlAt q [] s&&recOk [] s) true s.abs,qT.map s.abs.heap.get?))=
 some (true,openGood q lo,(K w.params).map fun p=>some p.2):=by kernel_rfl
theorem Lu(w:World):(boot_heap w.params).isNs mainGlobals=true:=by kernel_rfl
theorem Lv(w:World):(boot_heap w.params).objs.size=11:=by kernel_rfl
theorem Lw(w:World):(boot_heap w.params).nsMap mainGlobals "__annotations__" =some (.ref 6):=by kernel_rfl
theorem Lx{p:Program}{w:World}{eJ n:Nat}{ann:Option Value}{S:SharedT}{BD:Shared}{t:Thread}{β:Type}{F:Shared→β}{y:β}(h:(oU p w eJ ann n S t).map (fun s=>F s.abs)=some y)(e:S.abs=BD):
 (topRun treeTable p w eJ ann n BD t).map F=some y:=by
 obtain⟨s',hs,hv⟩:=Option.map_eq_some_iff.mp h
 have r:=BC ((BB p w eJ ann n S t).trans hs)
 rw[e]at r
 rw[r]
 exact congrArg some hv
theorem Ly{p q:Program}{loose:List Str}{Xt:Shared→Bool}{α:Type}{Yf:Shared→α}{Ya:World→α}{N m₀ k₀:Nat}{ann:Option Value}{H₀:Params→Heap}{d₀:Drawn}
 (Lz: ∀w:World,(fencedOpening treeTable p w N).map (fun s=>(s.heap,s.gens,s.drawn,s.toks))=some (H₀ w.params,#[],d₀,k₀))
 (z1: ∀w:World,(H₀ w.params).isNs mainGlobals=true) (z2: ∀w:World,(H₀ w.params).objs.size=m₀) (z3: ∀w:World,(H₀ w.params).nsMap mainGlobals "__annotations__" =ann)
 (run: ∀(w:World)(os:OsState),(topRun treeTable p w m₀ ann N ⟨H₀ w.params,#[],d₀,k₀,os⟩ (topStub p)).map (fun s=>
  (staticsOk (importedModules p.main.body) (H₀ w.params) s.heap&&namesBound p s.heap&&gensDone s&&laidKept (H₀ w.params) s.heap,openSeen q loose (importedModules p.main.body) Xt true s,Yf s))=some (true,openGood q loose,Ya w)):
 LeftO p q loose Xt Yf Ya N:=fun w=>by
 obtain⟨⟨h,gs,d,k,os⟩,e,e'⟩:=Option.map_eq_some_iff.mp (Lz w)
 obtain⟨rfl,rfl,rfl,rfl⟩:h=H₀ w.params∧gs= #[]∧d=d₀∧k=k₀:=by simpa using e'
 obtain⟨s',hs,hv⟩:=Option.map_eq_some_iff.mp (run w os)
 obtain⟨l1,hv⟩:=Prod.mk.inj hv
 obtain⟨l2,l3⟩:=Prod.mk.inj hv
 have t:topFrom treeTable p w N ⟨H₀ w.params,#[],d,k,os⟩=some s':=by
  unfold topFrom
  dsimp only
  rw[z1,z2,z3,hs]
  show(match staticsOk (importedModules p.main.body) (H₀ w.params) s'.heap&&namesBound p s'.heap&&gensDone s'&&laidKept (H₀ w.params) s'.heap with|true=>_|false=>_)=_
  rw[l1]
 unfold openEnds
 rw[e]
 show(topFrom treeTable p w N _).map _=_
 rw[t]
 exact congrArg some (Prod.ext l2 l3)
theorem LB(w:World)(os:OsState):(oU pw w 11 (some (.ref 6)) 5000 (wC w os) (topStub pw)).map (fun s=>
 (staticsOk (importedModules pw.main.body) (boot_heap w.params) s.abs.heap&&namesBound pw s.abs.heap&&gensDone s.abs&&laidKept (boot_heap w.params) s.abs.heap,
  openSeen q lo (importedModules pw.main.body) (fun s=>xlAt q [] s&&recOk [] s) true s.abs,qT.map s.abs.heap.get?))=
 some (true,openGood q lo,(K w.params).map fun p=>some p.2):=by
 rw[Fast.te5923862056798008813,Fast.te4187177175401517315];exact bP w os
theorem left:LeftO pw q lo (fun s=>xlAt q [] s&&recOk [] s) (fun s=>qT.map s.heap.get?) (fun w=>(K w.params).map fun p=>some p.2) 5000:=
 Ly (m₀:=11) (ann:=some (.ref 6)) (H₀:=boot_heap) (d₀:=boot_drawn) (k₀:=boot_toks) (boot_open (p:=pw) (N:=5000) Lr rfl Ls) Lu Lv Lw
  fun w os=>Lx (F:=fun s=>(staticsOk (importedModules pw.main.body) (boot_heap w.params) s.heap&&namesBound pw s.heap&&gensDone s&&laidKept (boot_heap w.params) s.heap,openSeen q lo (importedModules pw.main.body) (fun s=>xlAt q [] s&&recOk [] s) true s,qT.map s.heap.get?)) (LB w os) (Lq w os)
abbrev pp:=PySem.Challenge.rw_an0018_01.row.prog
theorem u1:(sreFenced pp.main&&((moduleNames pp.main.body).isEmpty||lookedIntoSs (moduleNames pp.main.body) pp.main.body)&&namesResolve pp&&pp.boundNames.all (fun n=> !worldNames.contains n))=true:=by kernel_rfl
theorem u2:noRoadLSs {strict:= !(importedModules pp.main.body).all cThrough.contains,foot:=none,bare:=(["vars","dir","locals"]:List Str).filter (readsOut pp pp.main.body)} pp.main.body=true:=by kernel_rfl
theorem u3:(namesMeet pp pp.main.body fun _ n=>attrL n)=true:=by kernel_rfl
theorem u4:looksOpen pp=true:=look_both (look_both u1 u2) u3
theorem u5:PySem.Challenge.rw_an0018_01.row.wellSaid=true:=by
 delta OpenRow.wellSaid OpenRow.partSaid
 rw[u4]
 kernel_rfl
theorem u6:PySem.Challenge.rw_an0018_01.namesIt=true:=by kernel_rfl
theorem u7:noRoadLSs {strict:=true,foot:=some PySem.Challenge.rw_an0018_01.bound',writes:=PySem.Challenge.rw_an0018_01.writes,may:=PySem.Challenge.rw_an0018_01.may} PySem.Challenge.rw_an0018_01.footing=true:=by kernel_rfl
theorem LC:PySem.Challenge.rw_an0018_01.wellSaid=true:=by
 delta OpenLaw.wellSaid
 rw[u5,u6,u7]
 kernel_rfl
theorem LD:(chainsOk q&&opensWell PySem.Challenge.rw_an0018_01.row.prog&&(frees PySem.Challenge.rw_an0018_01.row.toRowW&&PySem.Challenge.rw_an0018_01.row.within.isEmpty))=true:=by kernel_rfl
theorem bare:PySem.Challenge.rw_an0018_01.row.prog.bare:=⟨rfl,rfl,rfl,rfl,rfl,by decide+kernel⟩
theorem BE:(defOf q PySem.Challenge.rw_an0018_01.row.name).isSome=true:=by kernel_rfl
noncomputable def gx:DefRec×List (Str×Expr):=(defOf q PySem.Challenge.rw_an0018_01.row.name).get BE
theorem LF:defOf q PySem.Challenge.rw_an0018_01.row.name=some (gx.1,gx.2):=(Option.some_get BE).symm
theorem LG:PySem.Challenge.rw_an0018_01.row.prog.theDef PySem.Challenge.rw_an0018_01.row.name=some (gx.1.params,gx.1.body,gx.1.scope):=by kernel_rfl
theorem io:kwWritten? gx.1.params.kwonlyargs gx.1.params.kw_defaults=some gx.2:=by kernel_rfl
theorem LH:PySem.Challenge.rw_an0018_01.row.toRowW.promised:=by w_witness2
theorem holds(call:WalkO q lo (XL q []) (InK K) PySem.Challenge.rw_an0018_01.row.toRowW gx.1 gx.2 fun f vs=>PySem.call f vs):PySem.Challenge.rw_an0018_01.Holds:=
 holds_law LC fun LJ=>PySem.W.holds_open (q:=q) (loose:=lo) (Xt:=fun s=>xlAt q [] s&&recOk (RowW.records PySem.Challenge.rw_an0018_01.row.toRowW) s) (XP:=XL q []) (Yf:=fun s=>qT.map s.heap.get?) (Ya:=fun w=>(K w.params).map fun(p:Nat×Obj)=>some p.2) (YP:=InK K) (N:=5000)
  left (InK.of (fun _=>rfl)) InK.keeps (fun s e=>xl_of s (Bool.and_eq_true_iff.mp e).1) XL.keeps LF LG io (fun s e=>recFacts_of (Bool.and_eq_true_iff.mp e).2) rfl LJ LD bare LH call
end HD
namespace CC
open PySem PySem.W PySem.Calls PyProof.Rows PyProof.Rows.KTD
set_option tactic.hygienic true
noncomputable def cP:Fn→Addr
 | .cast=>65| .pT=>86| .kx=>110| .ky=>436| .fC=>443| .b9=>450| .dH=>457| .dW=>464| .reset=>492| .iP=>506| .gF=>513
 | .lM=>520| .lK=>527| .lN=>534| .fD=>561| .close=>568| .lQ=>573| .gI=>585| .jx=>596| .hK=>603| .gH=>610| .iR=>617
 | .iS=>624| .eC=>629| .jy=>634| .nZ=>639| .lL=>471
noncomputable def ng:Cl→Addr
 | .gJ=>44| .gG=>56| .nX=>113| .nY=>544| .ao=>576| .cv=>414| .ey=>402| .dB=>426
noncomputable def BF(l:Addr):CL→Addr
 | .ak=>l| .eO=>586| .kz=>587| .black=>588| .kA=>589
noncomputable def eK(w:World)(h:Heap)(os:OsState)(l:Addr)(ns:List Int):Wd:=⟨HD.pw,w,h,HD.K w.params,cP,ng,BF l,ns,os⟩
noncomputable def fu(P:Params)(a:Addr):Obj:=((HD.K P).lookup a).getD default
noncomputable def df(P:Params)(a:Addr):FuncData:=match(fu P a).data with
 | .func fd=>fd
 |_=>default
noncomputable def iz(P:Params)(a:Addr):Array DictEntry:=match(fu P a).data with
 | .dict es _=>es
 |_=> #[]
noncomputable def BG(P:Params)(a:Addr):Nat:=match(fu P a).data with
 | .dict _ n=>n
 |_=>0
noncomputable def nh(P:Params)(a:Addr):Array Value:=match(fu P a).data with
 | .seq vs _=>vs
 |_=> #[]
section
variable{w:World}{h:Heap}{os:OsState}{l:Addr}{ns:List Int}{mg mb:Str→Option Value}
theorem LK(P:Params):(HD.K P).lookup 3=some (fu P 3):=by kernel_rfl
theorem LL(P:Params):(fu P 3).data= .dict (iz P 3) (BG P 3):=by kernel_rfl
theorem tA(KX:(HD.K w.params).In h)(hg:h.Ns mainGlobals mg)(x:Str):mg x=nsFind (iz w.params 3) x:=by
 refine nW hg fun o es ep ho hd _ hx=> ?_
 have:=KX 3 _ (LK _)
 have e:mainGlobals=3:=rfl
 rw[e,this]at ho
 cases ho
 rw[LL]at hd
 cases hd
 exact(hx x).symm
noncomputable def tk:Value→Tok
 | .int _ t=>t
 | .str _ t=>t
 |_=>0
noncomputable def two(o:Option Obj)(f:Value→Value→Bool):Bool:=match o with
 |some o=>decide (o.cls= .type "list")&&(match o.data with
  | .seq vs _=>(match vs.toList with
   |[x,y]=>f x y
   |_=>false)
  |_=>false)
 |none=>false
theorem LM{d:Data}{f:Array Value→Bool}{P:Prop}(e:(match d with| .seq vs _=>f vs|_=>false)=true)(k: ∀vs n,d= .seq vs n→f vs=true→P):P:=by
 induction d with
 |seq vs n=>exact k vs n rfl e
 |_=>cases e
theorem LO{vs:List Value}{f:Value→Value→Bool}{P:Prop}(e:(match vs with|[x,y]=>f x y|_=>false)=true)(k: ∀x y,vs=[x,y]→f x y=true→P):P:=by
 induction vs with
 |nil=>cases e
 |cons x vs=>induction vs with
  |nil=>cases e
  |cons y vs=>induction vs with
   |nil=>exact k x y rfl e
   |cons z vs=>cases e
theorem LP{o:Option Obj}{f:Value→Value→Bool}{P:Prop}(e:two o f=true)(k: ∀o' x y,o=some o'→(o'.cls= .type "list" ∧ ∃n,o'.data= .seq #[x,y] n)→f x y=true→P):P:=by
 induction o with
 |none=>cases e
 |some o=>exact LM (Bool.and_eq_true_iff.mp e).2 fun vs n hd e2=>LO e2 fun x y hv e3=>k o x y rfl ⟨of_decide_eq_true (Bool.and_eq_true_iff.mp e).1,n,hd.trans (congrArg (Data.seq · n) (Array.toList_inj.mp hv))⟩ e3
noncomputable def BH(v:Value)(f:Addr→Bool):Bool:=match v with
 | .ref a=>f a
 |_=>false
theorem LQ{v:Value}{f:Addr→Bool}:BH v f=true→ ∃a,v= .ref a∧f a=true:=by
 induction v with
 |ref a=>exact fun e=>⟨a,rfl,e⟩
 |_=>exact fun e=>CC.nope e
noncomputable def tB(K:Frag):T→Value→Bool
 | .none,v=>decide (v= .none)
 | .int i,v=>decide (v= .int i (tk v))
 | .str s,v=>decide (v= .str ⟨s.toArray⟩ (tk v))
 | .node l r,v=>BH v fun a=>two (K.lookup a) fun x y=>tB K l x&&tB K r y
theorem LR{K:Frag}{h:Heap}(X:K.In h)(t:T): ∀v:Value,tB K t v=true→kL h t v:=by
 induction t with
 |none=>exact fun v e=>(of_decide_eq_true e:v=_)
 |int i=>exact fun v e=>⟨_,of_decide_eq_true e⟩
 |str s=>exact fun v e=>⟨_,of_decide_eq_true e⟩
 |node l r il ir=>exact fun v e=>let⟨a,ha,e⟩:=LQ e;LP e fun o x y ho q e=>⟨a,x,y,ha,⟨o,X _ _ ho,q⟩,il x (Bool.and_eq_true_iff.mp e).1,ir y (Bool.and_eq_true_iff.mp e).2⟩
noncomputable def BJ:V→Bool
 | .fn _=>true
 |_=>false
noncomputable def oW(K:Frag)(a:Value):V→Bool
 | .fn f=>decide (a= .ref (cP f))
 | .cls c=>decide (a= .ref (ng c))
 | .b7 c=>decide (a= .ref (BF 0 c))&&decide (c≠ .ak)
 | .tree t=>tB K t a
 | .str s=>decide (a= .str ⟨s.toArray⟩ (tk a))
 | .ty b=>decide (a= .type (if b then "int" else "bool"))
 |_=>false
theorem tC{K:Frag}{a:Value}{v:V}{w:World}{h:Heap}{os:OsState}{l:Addr}{ns:List Int}{ρ:au}(X:K.In h)(e:oW K a v=true):VR (eK w h os l ns) ρ v a:=by
 induction v with
 |fn f=>exact(of_decide_eq_true e:a=_)
 |cls c=>exact(of_decide_eq_true e:a=_)
 |b7 c=>
  have e:=Bool.and_eq_true_iff.mp e
  have q:=of_decide_eq_true e.2
  rw[of_decide_eq_true e.1]
  induction c with
  |ak=>exact(q rfl).elim
  |_=>rfl
 |tree t=>exact LR X t a e
 |str s=>exact⟨_,of_decide_eq_true e⟩
 |ty b=>exact(of_decide_eq_true e:a=_)
 |_=>cases e
theorem LU(n:Nm):n.ctorIdx<120:=Nat.le_of_ble_eq_true (by induction n<;>exact Eq.refl true)
theorem BK{p:Nm→Bool}(e:(List.range 120).all (fun i=>p (Nm.ofNat i))=true)(n:Nm):p n=true:=by
 have:=List.all_eq_true.mp e n.ctorIdx (List.mem_range.mpr (LU n))
 rwa[Nm.ofNat_ctorIdx]at this
noncomputable def so{α:Type}(o:Option α)(f:α→Bool)(g:Bool):Bool:=match o with
 |some a=>f a
 |none=>g
theorem kZ{α:Type}{o:Option α}{f:α→Bool}{g:Bool}{P:Prop}(e:so o f g=true)(k: ∀a,o=some a→f a=true→P)(k2:o=none→g=true→P):P:=by
 induction o with
 |none=>exact k2 rfl e
 |some a=>exact k a rfl e
noncomputable def LV(P:Params)(n:Nm):Bool:=so (glob n) (fun v=>so (nsFind (iz P 3) n.str) (fun a=>oW (HD.K P) a v) (so (bootBuiltins n.str) (fun a=>oW (HD.K P) a v) false)) true
theorem LW(P:Params)(n:Nm):LV P n=true:=BK (by kernel_rfl) n
theorem LX{w:World}{h:Heap}(X:(HD.K w.params).In h)(n:Nm)(v:V)(hv:glob n=some v): ∃v',(∀(os:OsState)(l:Addr)(ns:List Int)(ρ:au),VR (eK w h os l ns) ρ v v')∧(nsFind (iz w.params 3) n.str=some v'∨nsFind (iz w.params 3) n.str=none∧bootBuiltins n.str=some v'):=
 kZ (LW w.params n) (fun u hu e=>by
  have:u=v:=Option.some.inj (hu.symm.trans hv)
  subst this
  exact kZ e (fun a ha e=>⟨a,fun _ _ _ _=>tC X e,.inl ha⟩) fun h1 e=>kZ e (fun a ha e=>⟨a,fun _ _ _ _=>tC X e,.inr ⟨h1,ha⟩⟩) fun _ e=>CC.nope e) fun h1 _=>CC.none_ne (h1.symm.trans hv)
theorem LY{q:Program}{lo:List PySem.Str}{qU:ExcName→Option Value}(KX:(HD.K w.params).In h)(T:Top q lo qU mg mb h):qo (eK w h os l ns) mg mb:=by
 have hb: ∀x:PySem.Str,x≠ "__name__" → ∀v,nsFind (iz w.params 3) x=none→bootBuiltins x=some v→BI mg mb x v:=fun x hx v e1 e2=>⟨by rw[tA KX T.g];exact e1,by rw[T.builtins x hx];exact e2⟩
 refine⟨T.g,T.b,fun n v hv=> ?_,?_,?_,?_,?_,?_,?_,?_,?_,?_,?_⟩
 ·refine aA (LX KX n v hv) fun v' h1 h2=> ?_
  refine⟨v',fun ρ=>h1 _ _ _ _,?_⟩
  rw[tA KX T.g]
  rcases h2 with h2|⟨h2,h3⟩
  ·exact .inl h2
  ·refine .inr ⟨h2,?_⟩
   rw[T.builtins _ ?_]
   ·exact h3
   ·intro e
    rw[e]at h3
    have:nsFind (iz w.params 3) ("__name__" :PySem.Str)=some (.str "law_an0018_01" 867):=by kernel_rfl
    rw[e,this]at h2
    cases h2
 all_goals exact hb _ (by decide+kernel) _ (by kernel_rfl) (by kernel_rfl)
noncomputable def LZ(P:Params)(n:Nm):Bool:=so (findIn (HD.K P) (.ref 576) n.str) (fun o=>so (bJ .ao n) (fun v=>so o (fun a=>oW (HD.K P) a v&&(BJ v||decide (specialIn (HD.K P) a "__get__" =some none))) false) (decide (o=none))) false
theorem BL(P:Params)(n:Nm):LZ P n=true:=BK (by kernel_rfl) n
theorem BM{P:Params}{n:Nm}{v:V}(hv:bJ .ao n=some v): ∃a,findIn (HD.K P) (.ref 576) n.str=some (some a)∧oW (HD.K P) a v=true∧(BJ v||decide (specialIn (HD.K P) a "__get__" =some none))=true:=
 kZ (BL P n) (fun o ho e=>kZ e (fun u hu e=>by
  have:u=v:=Option.some.inj (hu.symm.trans hv)
  subst this
  exact kZ e (fun a ha e=>⟨a,ho.trans (congrArg some ha),Bool.and_eq_true_iff.mp e⟩) fun _ e=>CC.nope e) fun h1 _=>CC.none_ne (h1.symm.trans hv)) fun _ e=>CC.nope e
theorem L6{w:World}{h:Heap}(X:(HD.K w.params).In h)(n:Nm)(v:V)(hv:bJ .ao n=some v)(hf: ∀f,v≠ .fn f): ∃a,findIn (HD.K w.params) (.ref 576) n.str=some (some a)∧specialIn (HD.K w.params) a "__get__" =some none∧
 ∀(os:OsState)(l:Addr)(ns:List Int)(ρ:au),VR (eK w h os l ns) ρ v a:=by
 refine ck (BM (P:=w.params) hv) fun a h1 h2 h3=> ?_
 refine⟨a,h1,?_,fun _ _ _ _=>tC X h2⟩
 induction v with
 |fn f=>exact(hf f rfl).elim
 |_=>exact of_decide_eq_true h3
theorem L7(P:Params)(n:Nm)(f:Fn)(hf:bJ .ao n=some (.fn f)):findIn (HD.K P) (.ref 576) n.str=some (some (.ref (cP f))):=by
 refine ck (BM (P:=P) hf) fun a h1 h2 _=> ?_
 rw[←(of_decide_eq_true h2:a=_)];exact h1
theorem L8(P:Params)(n:Nm)(hn:bJ .ao n=none):findIn (HD.K P) (.ref 576) n.str=some none:=
 kZ (BL P n) (fun o ho e=>kZ e (fun u hu _=>CC.none_ne (hn.symm.trans hu)) fun _ e=>ho.trans (congrArg some (of_decide_eq_true e))) fun _ e=>CC.nope e
end
section
variable{w:World}{h:Heap}{os:OsState}{l:Addr}{ns:List Int}{mg mb:Str→Option Value}
theorem qV{w:World}{A:Around}{E Q:Value→Shared→Prop}{s:Shared}{rest:List Value}{B:String}{gQ:List Value}{L9 Ma:String}{c n:Addr}{nm q:Str}{bs bm:List Value}{Mb:Bool}{sn:List Str}{sub:List Value}{ab:Bool}{col:Option Bool}{dd:Option Addr}{k0 k1 k2 k3 k5:Option Value}
 (F:ExcBaseFacts B L9 Ma gQ) (Mc:gQ.contains (.type "Exception")=true) (T:OwnTail s.heap gQ bm) (hC:s.heap.get? c=some (excClassObj nm q c n bs bm Mb sn sub ab col dd k0 k1 k2 k3 k5 "Exception.__new__"))
 {mN:Str→Option Value} (hn:s.heap.Ns n mN) (Md:mN "__init__" =none) (hr:rest.length≤5)
 (g: ∀h' e,Heap.MadeExcOf s.heap h' e (.ref c) rest→Q (.ref e) {s with heap:=h'}):wpAny (model HD.pw w) A (call (.ref c) rest) Q E s:=
 wpAny_call_exc_subU PySem.F.excBase_Exception Mc F T hC hn Md g (Nat.le_trans hr (by decide))
noncomputable def Me(es:List DictEntry):Bool:=es.all fun e=>decide (e.key= .str (match e.key with| .str s _=>s|_=>default) (tk e.key))
theorem k9{P:Params}{h:Heap}(X:(HD.K P).In h)(a:Addr)(e:(HD.K P).lookup a=some (fu P a))(hd:(fu P a).data= .dict (iz P a) (BG P a))(hk:Me (iz P a).toList=true):h.Ns a (nsFind (iz P a)):=
 ⟨_,_,_,X a _ e,hd,fun x hx=>⟨_,_,of_decide_eq_true (List.all_eq_true.mp hk x (Array.mem_toList_iff.mpr hx))⟩,fun _=>rfl⟩
theorem BN{P:Params}{h:Heap}{gQ:List Value}(X:(HD.K P).In h):OwnTail h gQ (.ref 31::gQ):=
 .own (X 31 _ (by rfl)) (k9 X 30 (by kernel_rfl) (by kernel_rfl) (by kernel_rfl)) (by kernel_rfl) .base
theorem BO{P:Params}{h:Heap}{gQ:List Value}(X:(HD.K P).In h):OwnTail h gQ (.ref 44:: .ref 31::gQ):=
 .own (X 44 _ (by rfl)) (k9 X 43 (by kernel_rfl) (by kernel_rfl) (by kernel_rfl)) (by kernel_rfl) (BN X)
theorem wD{P:Params}{h:Heap}{gQ:List Value}(X:(HD.K P).In h):OwnTail h gQ (.ref 390:: .ref 44:: .ref 31::gQ):=
 .own (X 390 _ (by rfl)) (k9 X 389 (by kernel_rfl) (by kernel_rfl) (by kernel_rfl)) (by kernel_rfl) (BO X)
theorem Mf(w:World)(h:Heap)(KX:(HD.K w.params).In h)(c:Cl)(hc:cB c=true){s:Shared}{A:Around}{E Q:Value→Shared→Prop}{rest:List Value}(st:h.StaysIn s.heap)(hr:rest.length≤5)
 (g: ∀h' e,Heap.MadeExcOf s.heap h' e (.ref (ng c)) rest→Q (.ref e) {s with heap:=h'}):wpAny (model HD.pw w) A (call (.ref (ng c)) rest) Q E s:=by
 have X:(HD.K w.params).In s.heap:=fun a o e=>st _ _ (KX a o e)
 cases c
 case gJ=>exact qV PySem.F.excBase_Exception (by decide) (BN X) (X 44 (excClassObj _ _ _ _ _ _ _ _ _ _ _ _ _ _ _ _ _ _) (by rfl)) (k9 X 43 (by kernel_rfl) (by kernel_rfl) (by kernel_rfl)) (by kernel_rfl) hr g
 case gG=>exact qV PySem.F.excBase_ValueError (by decide) (BO X) (X 56 (excClassObj _ _ _ _ _ _ _ _ _ _ _ _ _ _ _ _ _ _) (by rfl)) (k9 X 55 (by kernel_rfl) (by kernel_rfl) (by kernel_rfl)) (by kernel_rfl) hr g
 case cv=>exact qV PySem.F.excBase_Exception (by decide) (wD X) (X 414 (excClassObj _ _ _ _ _ _ _ _ _ _ _ _ _ _ _ _ _ _) (by rfl)) (k9 X 413 (by kernel_rfl) (by kernel_rfl) (by kernel_rfl)) (by kernel_rfl) hr g
 case ey=>exact qV PySem.F.excBase_Exception (by decide) (wD X) (X 402 (excClassObj _ _ _ _ _ _ _ _ _ _ _ _ _ _ _ _ _ _) (by rfl)) (k9 X 401 (by kernel_rfl) (by kernel_rfl) (by kernel_rfl)) (by kernel_rfl) hr g
 case dB=>exact qV PySem.F.excBase_Exception (by decide) (wD X) (X 426 (excClassObj _ _ _ _ _ _ _ _ _ _ _ _ _ _ _ _ _ _) (by rfl)) (k9 X 425 (by kernel_rfl) (by kernel_rfl) (by kernel_rfl)) (by kernel_rfl) hr g
 all_goals cases hc
theorem Mg(KX:(HD.K w.params).In h):zK (eK w h os l ns) where
 tup:=fun d hd=>by induction d<;>first|(cases hd;done)|(show instIn (HD.K w.params) _ _=_;kernel_rfl)
 kG:=fun d hd=>by induction d<;>first|(cases hd;done)|(show(clsIn (HD.K w.params) _).isSome=_;kernel_rfl)
 typ:=fun d hd=>by induction d<;>first|(cases hd;done)|(show typeIn (HD.K w.params) _=_;kernel_rfl)
 base:=fun d hd=>by induction d<;>first|(cases hd;done)|(show mroIn (HD.K w.params) _ _=_;kernel_rfl)
 sub:=fun c d hc hd=>by
  induction c<;>first
   |(cases hc;done)
   |(induction d<;>first|(cases hd;done)|(show mroIn (HD.K w.params) _ _=_;kernel_rfl))
 keep:=fun d hd=>by induction d<;>first|(cases hd;done)|(show keepIn (HD.K w.params) _=_;kernel_rfl)
 call:=fun c hc=>Mf w h KX c hc
theorem tD(P:Params)(a:Nat){h:Heap}(X:(HD.K P).In h)(e:(HD.K P).lookup a=some (HD.ls (nh P a).toList)):h.IsList a (nh P a):=by
 refine⟨_,X _ _ e,rfl,0,?_⟩
 show Data.seq (nh P a).toList.toArray 0=_
 rw[Array.toArray_toList]
noncomputable def strOk(K:Frag):List V→List Value→Bool
 |[],us=>us.isEmpty
 |v::vs,us=>match us with
  |u::us=>oW K u v&&strOk K vs us
  |[]=>false
theorem tE{w:World}{h:Heap}{os:OsState}{l:Addr}{ns:List Int}{ρ:au}{K:Frag}(X:K.In h)(vs:List V): ∀us:List Value,strOk K vs us=true→bo (eK w h os l ns) ρ vs us:=by
 induction vs with
 |nil=>
  intro us e
  rw[List.isEmpty_iff.mp e];trivial
 |cons v vs ih=>
  intro us
  induction us with
  |nil=>exact fun e=>CC.nope e
  |cons u us _=>exact fun e=>⟨tC X (Bool.and_eq_true_iff.mp e).1,ih us (Bool.and_eq_true_iff.mp e).2⟩
theorem Mh{W:Wd}{ρ:au}{ns:List Int}{us:List Value}(h:IntsAre us ns):bo W ρ (ns.map .int) us:=by
 induction h with
 |nil=>trivial
 |cons _ _ _ ih=>exact⟨⟨_,rfl⟩,ih⟩
theorem Mi(KX:(HD.K w.params).In h){vs:List Value}(hL:h.IsList l vs.toArray)(hI:IntsAre vs ns)(hn:ns.length≤63):gj (eK w h os l ns):=by
 intro c
 cases c
 case ak=>exact⟨vs,hL,by show(ns.map V.int).length≤1000;rw[List.length_map];trace"baA63klA1000kli hn",fun ρ=>Mh hI⟩
 case eO=>exact⟨(nh w.params 586).toList,by rw[Array.toArray_toList];exact tD _ _ KX (by kernel_rfl),Nat.le_of_ble_eq_true (by kernel_rfl),fun ρ=>tE KX _ _ (by kernel_rfl)⟩
 case kz=>exact⟨(nh w.params 587).toList,by rw[Array.toArray_toList];exact tD _ _ KX (by kernel_rfl),Nat.le_of_ble_eq_true (by kernel_rfl),fun ρ=>tE KX _ _ (by kernel_rfl)⟩
 case black=>exact⟨(nh w.params 588).toList,by rw[Array.toArray_toList];exact tD _ _ KX (by kernel_rfl),Nat.le_of_ble_eq_true (by kernel_rfl),fun ρ=>tE KX _ _ (by kernel_rfl)⟩
 case kA=>exact⟨(nh w.params 589).toList,by rw[Array.toArray_toList];exact tD _ _ KX (by kernel_rfl),Nat.le_of_ble_eq_true (by kernel_rfl),fun ρ=>tE KX _ _ (by kernel_rfl)⟩
end
noncomputable def tF(P:Params)(a:Addr):List Stmt:=match(df P a).body with
 | .stmts b=>b
 |_=>[]
noncomputable def ka:Value→Addr
 | .ref a=>a
 |_=>0
noncomputable def jZ(P:Params)(a:Addr):Addr:=ka (df P a).code
noncomputable def qW(P:Params)(a:Addr):Array Value:=match(fu P a).data with
 | .fields vs=>vs
 |_=> #[]
noncomputable def tG(P:Params)(a:Addr)(I:eQ):=
 ((HD.K P).lookup a,(fu P a).data,(df P a).body,(df P a).code,(HD.K P).lookup (jZ P a),(fu P (jZ P a)).data,(qW P (jZ P a))[1]?,fK I.body (tF P a),i7 (df P a).scope I.body (tF P a),
  (df P a).scope.isCoroutine,(df P a).scope.isGenerator,(df P a).scope.kind,(df P a).globals,(df P a).builtins,(df P a).closure,decide (∀p∈I.ps,(df P a).scope.names.lookup p.str=some .local∨(df P a).scope.names.lookup p.str=some .cell),decide I.ps.Nodup)
noncomputable def tH(P:Params)(a:Addr):=
 (some (fu P a),Data.func (df P a),FuncBody.stmts (tF P a),Value.ref (jZ P a),some (fu P (jZ P a)),Data.fields (qW P (jZ P a)),some (Value.str (df P a).qualname (tk ((qW P (jZ P a))[1]?.getD default))),tF P a,true,
  false,false,ScopeKind.function,mainGlobals,builtinsNs,([]:List (Str×Addr)),true,true)
section
variable{w:World}{h:Heap}{os:OsState}{l:Addr}{ns:List Int}{mg mb:Str→Option Value}
theorem cf.zip {W:Wd} {ρ:au} {ps:List Nm} {xs:List V} {vs:List Value} (r:bo W ρ xs vs):cf W ρ (ps.zip xs) ((ps.map Nm.str).zip vs):=
 r.ind (P:=fun xs vs=> ∀ps:List Nm,cf W ρ (ps.zip xs) ((ps.map Nm.str).zip vs)) (fun ps=>by rw[List.zip_nil_right,List.zip_nil_right];trivial) (fun x v xs vs a _ b ps=>by
  cases ps with
  |nil=>trivial
  |cons p ps=>exact⟨⟨rfl,a⟩,b ps⟩) ps
noncomputable def Mj(w:World)(h:Heap)(os:OsState)(l:Addr)(ns:List Int)(f:Fn)(I:eQ):Prop:= ∀{ρ:au}{s:Shared}{xs:List V}{ks bs:List (Nm×V)}{vs kvs:List Value},lZ I xs ks=some bs→h.StaysIn s.heap→bo (eK w h os l ns) ρ xs vs→bo (eK w h os l ns) ρ (ks.map (·.2)) kvs→ ∃m9,BindsTo s (df w.params (cP f)) ⟨vs,(ks.map (·.1.str)).zip kvs⟩ m9∧cf (eK w h os l ns) ρ bs m9
theorem BP{f:Fn}{I:eQ}(X:(HD.K w.params).In h)(e:tG w.params (cP f) I=tH w.params (cP f))(b:Mj w h os l ns f I):FnAt (eK w h os l ns) f I:=
 ⟨of_decide_eq_true (congrArg (·.2.2.2.2.2.2.2.2.2.2.2.2.2.2.2.2) e),_,_,_,X _ _ (congrArg (·.1) e),congrArg (·.2.1) e,congrArg (·.2.2.2.2.2.2.2.2.2.1) e,congrArg (·.2.2.2.2.2.2.2.2.2.2.1) e,congrArg (·.2.2.1) e,
  ⟨jZ w.params (cP f),_,qW w.params (jZ w.params (cP f)),_,congrArg (·.2.2.2.1) e,X _ _ (congrArg (·.2.2.2.2.1) e),congrArg (·.2.2.2.2.2.1) e,congrArg (·.2.2.2.2.2.2.1) e⟩,congrArg (·.2.2.2.2.2.2.2.2.2.2.2.2.2.2.1) e,
  congrArg (·.2.2.2.2.2.2.2.2.2.2.2.1) e,congrArg (·.2.2.2.2.2.2.2.2.2.2.2.2.1) e,congrArg (·.2.2.2.2.2.2.2.2.2.2.2.2.2.1) e,⟨congrArg (·.2.2.2.2.2.2.2.1) e,congrArg (·.2.2.2.2.2.2.2.2.1) e⟩,of_decide_eq_true (congrArg (·.2.2.2.2.2.2.2.2.2.2.2.2.2.2.2.1) e),b⟩
theorem Mk{f:Fn}{I:eQ}(KX:(HD.K w.params).In h)(e:tG w.params (cP f) I=tH w.params (cP f))(hd:I.ds.isEmpty=true)
 (hb: ∀vs:List Value,vs.length=I.ps.length→bindArgs (df w.params (cP f)) ⟨vs,[]⟩=pure ((I.ps.map Nm.str).zip vs)):FnAt (eK w h os l ns) f I:=by
 refine BP KX e ?_
 intro ρ s xs ks bs vs kvs e1 st rv rk
 refine oh e1 (fun _ e1=>mF e1 fun q e1=> ?_) fun z _=>(z hd).elim
 obtain rfl:=Option.some.inj e1
 obtain rfl:=List.isEmpty_iff.mp q.1
 exact⟨_,BindsTo.of_eq (hb vs (rv.len.symm.trans q.2)),cf.zip rv⟩
noncomputable def tI{α:Type}(t:Sem α):Obj→Sem α:=match t with
 | .load _ _ k=>k
 |_=>fun _=> .unsupported ""
noncomputable def wE{α:Type}(t:Sem α)(o:Obj):Sem α×Sem α:=(t,tI t o)
noncomputable def wF{α:Type}(t:Sem α)(T:Addr)(r:α):Sem α×Sem α:=(.load T none (tI t),.pure r)
theorem Ml{α:Type}{M:Model}{A:Around}{t:Sem α}{T:Addr}{o:Obj}{x:α}{Q:α→Shared→Prop}{E:Value→Shared→Prop}{s:Shared}(e:wE t o=wF t T x)(ho:s.heap.get? T=some o)(q:Q x s):wpAny M A t Q E s:=by
 have e1:t= .load T none (tI t):=congrArg Prod.fst e
 have e2:tI t o= .pure x:=congrArg Prod.snd e
 rw[e1]
 exact nd_load ho (by rw[e2];exact wpAny_pure q)
theorem BQ{f:Fn}{I:eQ}{T:Addr}(KX:(HD.K w.params).In h)(e:tG w.params (cP f) I=tH w.params (cP f))(hd:I.ds.isEmpty=false)(hS:(HD.K w.params).lookup T=some (HD.tp (List.replicate I.ds.length (.bool false))))
 (hv:I.ds.map (·.2)=List.replicate I.ds.length (.bool false))
 (hb: ∀vs kvs:List Value,2≤vs.length→vs.length+kvs.length≤I.ps.length→I.ps.length≤vs.length+kvs.length+I.ds.length→
  wE (bindArgs (df w.params (cP f)) ⟨vs,(((I.ps.drop vs.length).take kvs.length).map Nm.str).zip kvs⟩) (HD.tp (List.replicate I.ds.length (.bool false)))=
  wF (bindArgs (df w.params (cP f)) ⟨vs,(((I.ps.drop vs.length).take kvs.length).map Nm.str).zip kvs⟩) T ((I.ps.map Nm.str).zip (vs++(kvs++(List.replicate I.ds.length (Value.bool false)).drop (vs.length+kvs.length+I.ds.length-I.ps.length))))):FnAt (eK w h os l ns) f I:=by
 refine BP KX e ?_
 intro ρ s xs ks bs vs kvs e1 st rv rk
 refine oh e1 (fun z _=>CC.nope (hd.symm.trans z)) fun _ e1=>mF e1 fun q e1=> ?_
 ·refine dT q fun q1 q2 q3 q4=> ?_
  obtain rfl:=Option.some.inj e1
  have l1:=rv.len
  have l2:=rk.len
  rw[List.length_map]at l2
  have k1:=hb vs kvs (by omega) (by omega) (by omega)
  have Mm:ks.map (·.1.str)=((I.ps.drop vs.length).take kvs.length).map Nm.str:=by rw[←l1,←l2,←q4,List.map_map];rfl
  refine⟨_,fun M A E Q hq=>Ml (by rw[Mm];exact k1) (st _ _ (KX _ _ hS)) hq,?_⟩
  rw[←l1,←l2]
  refine cf.zip (rv.app (rk.app ?_))
  rw[hv]
  exact(bo.rep (a:= .bool false) (b:= .bool false) rfl _).drop _
theorem ni{α:Type}{P:List α→Prop}(k:P []): ∀vs:List α,vs.length=0→P vs:=by
 intro vs h
 cases vs with
 |nil=>exact k
 |cons _ _=>cases h
theorem oX{α:Type}{P:List α→Prop}{n:Nat}(k: ∀a vs,vs.length=n→P (a::vs)): ∀vs:List α,vs.length=n+1→P vs:=by
 intro vs h
 cases vs with
 |nil=>cases h
 |cons a vs=>exact k a vs (Nat.succ.inj h)
theorem qX{α:Type}{P:List α→Prop}(k: ∀a,P [a]): ∀vs:List α,vs.length=1→P vs:=oX fun a=>ni (k a)
theorem lg{α:Type}{P:List α→Prop}(k: ∀a b,P [a,b]): ∀vs:List α,vs.length=2→P vs:=oX fun a=>qX (k a)
theorem qY{α:Type}{P:List α→Prop}(k: ∀a b c,P [a,b,c]): ∀vs:List α,vs.length=3→P vs:=oX fun a=>lg (k a)
theorem BR{α:Type}{P:List α→Prop}(k: ∀a b c d,P [a,b,c,d]): ∀vs:List α,vs.length=4→P vs:=oX fun a=>qY (k a)
theorem Mn{α:Type}{P:List α→Prop}(k: ∀a b c d e f,P [a,b,c,d,e,f]): ∀vs:List α,vs.length=6→P vs:=oX fun a=>oX fun b=>BR (k a b)
theorem j0{α:Type}{P:List α→List α→Prop}{m n:Nat}(k: ∀vs,vs.length=m→ ∀kvs,kvs.length=n→P vs kvs): ∀vs kvs:List α,vs.length=m→kvs.length=n→P vs kvs:=fun vs kvs h g=>k vs h kvs g
noncomputable def gy(f:Fn):eQ:=(fJ f).getD ⟨[],[],.nil⟩
theorem Mo(P:Params)(f:Fn):(fJ f).isSome=true→tG P (cP f) (gy f)=tH P (cP f):=by
 induction f<;>first
  |exact fun h=>CC.nope h
  |exact fun _=>by kernel_rfl
noncomputable def bL(P:Params)(f:Fn)(vs:List Value):=bindArgs (df P (cP f)) ⟨vs,[]⟩
noncomputable def bR(f:Fn)(vs:List Value):Sem (List (Str×Value)):=pure (((gy f).ps.map Nm.str).zip vs)
theorem Mp(P:Params)(f:Fn):((fJ f).isSome&&(gy f).ds.isEmpty)=true→ ∀vs,vs.length=(gy f).ps.length→bL P f vs=bR f vs:=by
 induction f<;>first
  |exact fun h=>CC.nope h
  |exact fun _=>ni (by kernel_rfl)
  |exact fun _=>qX fun _=>by kernel_rfl
  |exact fun _=>lg fun _ _=>by kernel_rfl
  |exact fun _=>qY fun _ _ _=>by kernel_rfl
  |exact fun _=>Mn fun _ _ _ _ _ _=>by kernel_rfl
noncomputable def dL(P:Params)(f:Fn)(vs kvs:List Value):=wE (bindArgs (df P (cP f)) ⟨vs,((((gy f).ps.drop vs.length).take kvs.length).map Nm.str).zip kvs⟩) (HD.tp (List.replicate (gy f).ds.length (.bool false)))
noncomputable def dR(P:Params)(f:Fn)(T:Addr)(vs kvs:List Value):=wF (bindArgs (df P (cP f)) ⟨vs,((((gy f).ps.drop vs.length).take kvs.length).map Nm.str).zip kvs⟩) T (((gy f).ps.map Nm.str).zip (vs++(kvs++(List.replicate (gy f).ds.length (Value.bool false)).drop (vs.length+kvs.length+(gy f).ds.length-(gy f).ps.length))))
theorem Mq(P:Params)(vs kvs:List Value)(h1:2≤vs.length)(h2:vs.length+kvs.length≤3):dL P .ky vs kvs=dR P .ky 429 vs kvs:=by
 have q:(vs.length=2∧kvs.length=0)∨(vs.length=2∧kvs.length=1)∨(vs.length=3∧kvs.length=0):=by trace"ca2kBlBAa3klB2keA0kenB2keA1kenB3keA0kenooii h1 h2"
 clear h1 h2
 rcases q with⟨a,b⟩|⟨a,b⟩|⟨a,b⟩<;>revert a b<;>revert kvs<;>revert vs
 ·exact j0 (lg fun _ _=>ni (by kernel_rfl))
 ·exact j0 (lg fun _ _=>qX fun _=>by kernel_rfl)
 ·exact j0 (qY fun _ _ _=>ni (by kernel_rfl))
theorem Mr(P:Params)(vs kvs:List Value)(h1:2≤vs.length)(h2:vs.length+kvs.length≤4):dL P .fD vs kvs=dR P .fD 554 vs kvs:=by
 have q:(vs.length=2∧kvs.length=0)∨(vs.length=2∧kvs.length=1)∨(vs.length=2∧kvs.length=2)∨(vs.length=3∧kvs.length=0)∨(vs.length=3∧kvs.length=1)∨(vs.length=4∧kvs.length=0):=by omega
 clear h1 h2
 rcases q with⟨a,b⟩|⟨a,b⟩|⟨a,b⟩|⟨a,b⟩|⟨a,b⟩|⟨a,b⟩<;>revert a b<;>revert kvs<;>revert vs
 ·exact j0 (lg fun _ _=>ni (by kernel_rfl))
 ·exact j0 (lg fun _ _=>qX fun _=>by kernel_rfl)
 ·exact j0 (lg fun _ _=>lg fun _ _=>by kernel_rfl)
 ·exact j0 (qY fun _ _ _=>ni (by kernel_rfl))
 ·exact j0 (qY fun _ _ _=>qX fun _=>by kernel_rfl)
 ·exact j0 (BR fun _ _ _ _=>ni (by kernel_rfl))
theorem Ms(KX:(HD.K w.params).In h)(f:Fn)(I:eQ)(hI:fJ f=some I):FnAt (eK w h os l ns) f I:=by
 have q:gy f=I:=congrArg (Option.getD · _) hI
 have e:=Mo w.params f (congrArg Option.isSome hI)
 by_cases p:((fJ f).isSome&&(gy f).ds.isEmpty)=true
 ·subst q
  exact Mk KX e (Bool.and_eq_true_iff.mp p).2 (Mp w.params f p)
 ·have z:(fJ f).isSome=true:=congrArg Option.isSome hI
  subst q
  clear hI
  induction f with
  |ky=>exact BQ (T:=429) KX e rfl (by kernel_rfl) rfl fun vs kvs h1 h2 _=>Mq _ vs kvs h1 h2
  |fD=>exact BQ (T:=554) KX e rfl (by kernel_rfl) rfl fun vs kvs h1 h2 _=>Mr _ vs kvs h1 h2
  |lL=>cases z
  |_=>exact(p rfl).elim
end
section
variable{w:World}{h:Heap}{os:OsState}{l:Addr}{ns:List Int}{mg mb:Str→Option Value}
noncomputable def Mt(P:Params)(f:Fn):Bool:=decide (specialIn (HD.K P) (.ref (cP f)) "__get__" =some (some (.builtin "function.__get__")))&&(decide (takesIn (HD.K P) (.ref (cP f))=some false)&&(isFn (HD.K P) (.ref (cP f))&&(fnIn (HD.K P) (cP f)&&keepIn (HD.K P) (.ref (cP f)))))
theorem qZ(P:Params)(f:Fn):Mt P f=true:=by induction f<;>kernel_rfl
theorem tJ{a b:Bool}(h:(a&&b)=true):a=true:=(Bool.and_eq_true_iff.mp h).1
theorem jj{a b:Bool}(h:(a&&b)=true):b=true:=(Bool.and_eq_true_iff.mp h).2
theorem Mu(P:Params): ∀c f,bJ c .hJ=some (.fn f)→readsIn (HD.K P) (ng c) (.type "type")=true∧specialIn (HD.K P) (.ref (ng c)) "__getattribute__" =some (some (.builtin "type.__getattribute__"))∧findCls (HD.K P) (.ref (ng c)) (.type "type") Nm.hJ.str=some (.val (.ref (cP f))):=by
 intro c f hf
 induction c<;>first
  |(cases hf;done)
  |(cases hf;exact⟨by kernel_rfl,by kernel_rfl,by kernel_rfl⟩)
theorem Mv{q:Program}{lo:List PySem.Str}{qU:ExcName→Option Value}(KX:(HD.K w.params).In h)(T:Top q lo qU mg mb h)(hi:importsNone q=true){vs:List Value}(hL:h.IsList l vs.toArray)(hI:IntsAre vs ns)(hn:ns.length≤63):aN (eK w h os l ns) mg mb where
 X:=KX
 exc:=Mg KX
 cl:=Mi KX hL hI hn
 nm:=LY KX T
 sm:=by(refine aA ((T.seer hi).mods) fun mm wG _=> ?_;refine g9 wG fun o _ _ ho _=> ?_);show(h.get? sysModules).isSome=true;rw[ho];rfl
 pg:=by show plainGet (HD.K w.params) 576 "" =true;kernel_rfl
 hd:=by show hasDictIn (HD.K w.params) 576=true;kernel_rfl
 po:=by show plainOver (HD.K w.params) 576=true;kernel_rfl
 sa:=by show findIn (HD.K w.params) (.ref 576) "__setattr__" =some (some (.builtin "object.__setattr__"));kernel_rfl
 sT:=L7 _
 vw:=fun n v h1 h2=>(L6 KX n v h1 h2).imp fun a z=>⟨z.1,z.2.1,fun ρ=>z.2.2 _ _ _ _⟩
 mq:=L8 _
 sU:=fun f=>tJ (jj (jj (qZ _ f)))
 zM:=fun f=>of_decide_eq_true (tJ (qZ _ f))
 zN:=fun f=>of_decide_eq_true (tJ (jj (qZ _ f)))
 zO:=fun f=>tJ (jj (jj (jj (qZ _ f))))
 zP:=fun f=>jj (jj (jj (jj (qZ _ f))))
 zQ:=by show keepIn (HD.K w.params) (.ref 576)=true;kernel_rfl
 zR:=by show makesIn (HD.K w.params) 576=true;kernel_rfl
 zS:=Mu _
theorem Mw{q:Program}{lo:List PySem.Str}{qU:ExcName→Option Value}(KX:(HD.K w.params).In h)(T:Top q lo qU mg mb h):kX (eK w h os l ns) mg where
 nl:=T.nolimit
 ex:=by
  refine⟨72,fu w.params 72,df w.params 72,⟨17,15,17,19⟩,⟨17,4,17,19⟩,⟨17,4,17,19⟩,?_,by show keepIn (HD.K w.params) _=_;kernel_rfl,KX _ _ (by kernel_rfl),by kernel_rfl,by kernel_rfl,by kernel_rfl,by kernel_rfl,by kernel_rfl,by kernel_rfl,by kernel_rfl,?_,?_⟩
  ·rw[tA KX T.g];kernel_rfl
  ·exact⟨71,fu w.params 71,qW w.params 71,263,by kernel_rfl,KX _ _ (by kernel_rfl),by kernel_rfl,by kernel_rfl⟩
  ·exact fun s v _=>BindsTo.of_eq (by kernel_rfl)
end
section
variable{W:Wd}{mg mb:Str→Option Value}{cl:CL→List V}{fuel n:Nat}
theorem Mx(O:aN W mg mb):bq W (Cn (aj W.ak) fuel 0) 0:=⟨rfl,fun e=>by cases e⟩
theorem BS(O:aN W mg mb)(GF:kX W mg)(F: ∀f I,fJ f=some I→FnAt W f I): ∀n,bq W (Cn (aj W.ak) fuel n) n
 |0=>Mx O
 |n+1=>Lo O GF F (BS O GF F n)
theorem My(O:aN W mg mb)(GF:kX W mg)(F: ∀f I,fJ f=some I→FnAt W f I){f:Fn}{xs:List V}{vs:List Value}{v:V}{h':H}
 (e1:(Cn (aj W.ak) fuel (n+1)).call f xs [] ⟨fun _=>none,0⟩=some (.ret v,h')) {s:Shared} {A:Around} {R:Result→Shared→Prop} (st:W.h₀.StaysIn s.heap) (hg:AllBare s.gens) (ho:s.os=W.os)
 (hA:A.handled=none) (Mz:A.frames=some []) (hd:A.depth+20*(n+2)≤850) (hu:A.units+200*(n+2)≤9000) (rv:bo W (fun _=>none) xs vs)
 (g: ∀v' s' ag,VR W ag v v'→(∀b o,s.heap.get? b=some o→s'.heap.get? b=some o)→AllBare s'.gens→s'.os=s.os→R (.ok (.ret v')) s'):
 codeAny (model W.prog W.w) A (.call (.ref (W.fL f)) ⟨vs,[]⟩) R s:=by
 have CO:=BS (fuel:=fuel) O GF F n
 refine oF e1 fun I hI e1=>oB e1 fun bs hb e1=> ?_
 refine By (ks:=[]) (kvs:=[]) GF.nl (F f I hI) hb st rv trivial (by trace"caBA2ka20ma850klBp1000kli hd") fun en body s1 qR J=>codeAny_func ?_
 have S1:ah W en [en] (fun _=>none) (fun n=>own n bs) ⟨fun _=>none,0⟩ s1:=
  ⟨J.eo,fun b o e=>J.keep b o (st b o e),⟨(by rw[J.eo.kind];decide),(aA J.hL fun oL wz wA=>⟨_,oL,J.fr,J.loc.oq,wz,wA⟩),trivial⟩,fun i o e=>(by cases e),fun i _=>⟨rfl,rfl⟩,fun i a dx e=>(by cases e),fun i j a dx b dy e=>(by cases e),fun i a dx e=>(by cases e),J.loc,J.gens.symm▸hg,J.os.trans ho⟩
 have BU:b6 (A.deeper en) [en] n:=⟨hA,congrArg (Option.map (en::·)) Mz,by show A.depth+1+_≤_;trace"caAB2ka20ma850klApBp20ma850kli hd",by show A.units+3+_≤_;trace"caAB2ka200ma9000klA3kaBp200ma9000kli hu"⟩
 have kept: ∀{ag s2},bk en [en] (fun _=>none) s1 ag s2→ ∀b o,s.heap.get? b=some o→s2.heap.get? b=some o:=by
  intro ag s2 X b o e
  have no: ¬oK en (fun _=>none) b:=by
   rintro(⟨i,a,dx,e3,_⟩|rfl|⟨y,c,hc,rfl⟩)
   ·cases e3
   ·exact CC.none_ne (J.zL.symm.trans e)
   ·exact CC.none_ne ((J.zc y _ hc).symm.trans e)
  refine(X.kept b o (J.keep b o e) no).1 fun hm=> ?_
  refine aA (List.mem_filterMap.mp hm) fun y hy eI=> ?_
  rcases List.mem_singleton.mp hy with rfl
  rw[J.fr]at eI;cases eI;exact CC.none_ne (J.zL.symm.trans e)
 have j:=fun{fl l2 h2}=>ft O CO GF I.body (env:=en) (e:=body) (l:=fun n=>own n bs) (l':=l2) (h:=⟨fun _=>none,0⟩) (h':=h2) (fl:=fl) qR
 refine zh e1 (fun l2 h2 e2 e3=>j e2 S1 BU ⟨⟨_,rfl⟩,J.fr⟩ ?_) (fun v l2 h2 e2 e3=>j e2 S1 BU ⟨⟨_,rfl⟩,J.fr⟩ ?_) fun c l2 h2 e2 e3=>(by cases e3)
 ·cases e3
  exact fun s2 aZ S2 X2=>g _ s2 aZ rfl (kept X2) S2.gens (S2.os.trans ho.symm)
 ·cases e3
  exact fun v' s2 aZ S2 X2 MA=>g _ s2 aZ MA (kept X2) S2.gens (S2.os.trans ho.symm)
end
noncomputable def wH:Prop:= ∀ns:List Int,ns.length≤63→ ∃fuel h',(Cn (aj ns) fuel 12).call .nZ [.b7 .ak] [] ⟨fun _=>none,0⟩=some (.ret (.bool true),h')
theorem walk(pl:wH):WalkO HD.q HD.lo (XL HD.q []) (InK HD.K) PySem.Challenge.rw_an0018_01.row.toRowW HD.gx.1 HD.gx.2 fun f vs=>PySem.call f vs:=by
 w_on
 intro w ax ai mg mb G Y fa o pm cd doc dV kV ho hd tx hD kY hg args Qn as MB MC MD ME MF
 have KX:(HD.K w.params).In ai.heap:=Y
 wrow_args MB MC MD ME MF
 rename_i ns _ _ _ _ _ _ _ la vs _ hL _ _ _ hI _ hc _
 refine enter_call ?_
 have T:=G.T
 have MG:fa=639:=by
  rw[tA KX T.g]at kY
  have:nsFind (iz w.params 3) HD.gx.1.name=some (.ref 639):=by kernel_rfl
  rw[this]at kY
  cases kY;rfl
 subst MG
 have hn:ns.length≤63:=by trace"ba63kcqAcrxA63kli hc"
 refine kr (pl ns hn) fun fuel h' e=> ?_
 have imp:importsNone HD.q=true:=by kernel_rfl
 refine My (W:=eK w ai.heap ai.os la ns) (mg:=mg) (mb:=mb) (fuel:=fuel) (n:=11) (f:= .nZ) (Mv KX T imp hL hI hn) (Mw KX T) (Ms KX) e (fun _ _ e=>e) (by rw[hg];exact .of_eq rfl) rfl rfl rfl (by decide) (by decide) ⟨rfl,trivial⟩ ?_
 intro v' s' ag rv keep bare os
 have rv:v'= .bool true:=rv
 subst rv
 refine⟨.inl ⟨.bool true,.bool true,[],rfl,fun cls=> ?_,?_,?_,fun _=>⟨List.nodup_nil,fun a h=>nomatch h⟩⟩,.of_keep keep,os,bare⟩
 ·exact raisesW_false (r:=PySem.Challenge.rw_an0018_01.row.toRowW) (fun ct h=>nomatch h) cls
 ·exact .bool true
 ·exact postW_of (r:=PySem.Challenge.rw_an0018_01.row.toRowW) (by wrow_shape) (by wtm_val) rfl
theorem MH(pl:wH):PySem.Challenge.rw_an0018_01.Holds:=HD.holds (walk pl)
end CC
namespace CC
section
variable{α:Type}{C:Cx}{l l1:L}{h h1 h2 h3 h4:H}{x y z:X}{xs:XS}{v a b c u:V}{vs ws:List V}{n m:Nm}{i j k:Int}{q:Q}{qs:QS}{o:cx}{p p2:fZ}{t:Bool}
theorem nA{x:Option (V×H)}{f:V→H→Option α}{r:Option α}:(x=some (a,h))→(f a h=r)→(match x with|some (a,h)=>f a h|none=>none)=r:=fun e g=>by rw[e];exact g
theorem nL{x:Option (List V×H)}{f:List V→H→Option α}{r:Option α}:(x=some (vs,h))→(f vs h=r)→(match x with|some (a,h)=>f a h|none=>none)=r:=fun e g=>by rw[e];exact g
theorem nN{x:Option (Bool×H)}{f:Bool→H→Option α}{r:Option α}:(x=some (t,h))→(f t h=r)→(match x with|some (a,h)=>f a h|none=>none)=r:=fun e g=>by rw[e];exact g
theorem nK{x:Option (V×List V)}{f:V→List V→Option α}{r:Option α}:(x=some (a,vs))→(f a vs=r)→(match x with|some (a,h)=>f a h|none=>none)=r:=fun e g=>by rw[e];exact g
theorem nI{x:Option (V×H)}{f:Int→H→Option α}{r:Option α}:(x=some (.int i,h))→(f i h=r)→(match x with|some (.int a,h)=>f a h|_=>none)=r:=fun e g=>by rw[e];exact g
theorem nV{x:Option V}{f:V→Option α}{r:Option α}:(x=some a)→(f a=r)→(match x with|some a=>f a|none=>none)=r:=fun e g=>by rw[e];exact g
theorem nS{f:V→Option α}{r:Option α}{w:Option V}:(w=some v)→(f v=r)→(match w with|some v=>f v|none=>none)=r:=fun e g=>by rw[e];exact g
theorem nH{f:H→Option α}{r:Option α}{w:Option H}:(w=some h)→(f h=r)→(match w with|some h=>f h|none=>none)=r:=fun e g=>by rw[e];exact g
theorem nM{β:Type}{x:Option β}{w:β}{f:β→α}(e:x=some w):x.map f=some (f w):=by rw[e];rfl
theorem nF{q:Prop}[Decidable q]{r:Option α}{s:Option α}(e:q)(g:r=s):(if q then r else none)=s:=(if_pos e).trans g
theorem aa(e:l n=some v):ev C l (.loc n) h=some (v,h):=nM e
theorem cD(e:glob n=some v):ev C l (.glob n) h=some (v,h):=nM e
theorem am:ev C l (.int i) h=some (.int i,h):=rfl
theorem gR(e:ev C l x h=some (.int i,h1)):ev C l (.neg x) h=some (.int (-i),h1):=nI (f:=fun i h=>some (V.int (-i),h)) e rfl
theorem aS{r:Option (V×H)}(e:ev C l x h=some (a,h1))(f:ev C l y h1=some (b,h2))(g:dm C h2 o a b=r):ev C l (.bin o x y) h=r:=nA e (nA f g)
theorem lh(e:ev C l x h=some (a,h1))(f:ev C l y h1=some (b,h2))(g:cK C h2 p a b=some t):ev C l (.cmp p x y) h=some (.bool t,h2):=nA e (nA f (nM g))
theorem gS{r:Option (V×H)}(e:te C l q h=some (true,h1))(f:ev C l x h1=r):ev C l (.bz q x y) h=r:=by
 show(match te C l q h with|some (true,h)=>ev C l x h|some (false,h)=>ev C l y h|none=>none)=r
 rw[e];exact f
theorem gT{r:Option (V×H)}(e:te C l q h=some (false,h1))(f:ev C l y h1=r):ev C l (.bz q x y) h=r:=by
 show(match te C l q h with|some (true,h)=>ev C l x h|some (false,h)=>ev C l y h|none=>none)=r
 rw[e];exact f
theorem dz(e:ev C l x h=some (a,h1))(f:ev C l y h1=some (b,h2))(g:idx C h2 a b=some v):ev C l (.sub x y) h=some (v,h2):=nA e (nA f (nM g))
theorem wI{r:Option (V×H)}(e:ev C l x h=some (a,h1))(f:ev C l y h1=some (.int i,h2))(g:ev C l z h2=some (.int j,h3))(k:eD C h3 a (some i) (some j)=r):ev C l (.fE x y z) h=r:=nA e (nI f (nI g k))
theorem BV{r:Option (V×H)}(e:ev C l x h=some (a,h1))(f:ev C l y h1=some (.int i,h2))(k:eD C h2 a (some i) none=r):ev C l (.fF x y) h=r:=nA e (nI f k)
theorem tK{r:Option (V×H)}(e:ev C l x h=some (a,h1))(f:ev C l y h1=some (.int i,h2))(k:eD C h2 a none (some i)=r):ev C l (.eP x y) h=r:=nA e (nI f k)
theorem tL{r:Option (V×H)}(e:ev C l x h=some (a,h1))(f:eE h1 a n=r):ev C l (.attr x n) h=r:=nA e f
theorem tM{r:Option (V×H)}(e:ev C l x h=some (a,h1))(f:rY C (some (a,h1))=r):ev C l (.len x) h=r:=(congrArg (rY C) e).trans f
theorem wJ{s:List Nat}(e:ev C l x h=some (.str s,h1))(k:s.length≤1000000000):ev C l (.len x) h=some (.int s.length,h1):=tM e (if_pos k)
theorem BW{s:List UInt8}(e:ev C l x h=some (.bytes s,h1))(k:s.length≤1000000000):ev C l (.len x) h=some (.int s.length,h1):=tM e (if_pos k)
theorem iA{k:Nat}(e:ev C l x h=some (.ref k,h1))(f:C.items h1 (.ref k)=some vs):ev C l (.len x) h=some (.int vs.length,h1):=tM e (nM f)
theorem BX{k:CL}(e:ev C l x h=some (.b7 k,h1)):ev C l (.len x) h=some (.int (C.cl k).length,h1):=tM e (nM rfl)
theorem wK(e:ev C l x h=some (.int i,h1))(f:ev C l y h1=some (.int j,h2))(g:(if i<j then j else i)=k):ev C l (.max2 x y) h=some (.int k,h2):=g▸nI e (nI (f:=fun b h=>some (V.int (if i<b then b else i),h)) f rfl)
theorem MI(e:ev C l x h=some (.int i,h1))(f:ev C l y h1=some (.int j,h2))(g:(if j<i then j else i)=k):ev C l (.min2 x y) h=some (.int k,h2):=g▸nI e (nI (f:=fun b h=>some (V.int (if b<i then b else i),h)) f rfl)
theorem MJ{t:List Int}(e:ev C l x h=some (.int i,h1))(q:0≤i∧t.length≤1000)(g:t[i.toNat]? =some j):ev C l (.kB t x) h=some (.int j,h1):=nI (f:=fun b h=>if 0≤b∧t.length≤1000 then(t[b.toNat]?).map (fun z=>(V.int z,h))else none) e ((if_pos q).trans (nM (f:=fun z=>(V.int z,h1)) g))
theorem tO{j k:Nat}(e:ev C l x h=some (.int (j:Int),h1))(q:0<k∧k<1073741824):ev C l (.bin .div x (.int (k:Int))) h=some (.int ((j/k:Nat):Int),h1):=
 aS e am ((if_pos ⟨fun z=>Nat.ne_of_gt q.1 (Int.ofNat.inj z),q.2⟩).trans (by rw[Int.fdiv_eq_ediv_of_nonneg _ (Int.natCast_nonneg k)];rfl))
theorem tP{j k:Nat}(e:ev C l x h=some (.int (j:Int),h1))(q:0<k):ev C l (.bin .mod x (.int (k:Int))) h=some (.int ((j%k:Nat):Int),h1):=
 aS e am ((if_pos fun z=>Nat.ne_of_gt q (Int.ofNat.inj z)).trans (by rw[Int.fmod_eq_emod_of_nonneg _ (Int.natCast_nonneg k)];rfl))
theorem wL{bs:List UInt8}(e:ev C l x h=some (v,h1))(f:(C.items h1 v).bind eF=some bs)(g:bs.length≤aU):ev C l (.bytesOf x) h=some (.bytes bs,h1):=by
 refine nA e ?_
 show(match(C.items h1 v).bind eF with|some b=>if b.length≤aU then some (V.bytes b,h1)else none|none=>none)=_
 rw[f];exact if_pos g
theorem BY{s:Option V}{ys:List V}{r:Option (V×H)}{it:It}(e:iter C l it h=some (vs,s,h1))(g:cq C (fun v=>ev C (L.set l n v) x) (fun _ h=>some (true,h)) s vs vs [] h1=some (ys,h2))(k:cy h2 ys=r):ev C l (.comp x n it) h=r:=by
 show(match iter C l it h with|some (vs,src,h)=>(cq C (fun v=>ev C (L.set l n v) x) (fun _ h=>some (true,h)) src vs vs [] h).bind fun p=>cy p.2 p.1|none=>none)=r
 rw[e]
 show(cq C (fun v=>ev C (L.set l n v) x) (fun _ h=>some (true,h)) s vs vs [] h1).bind (fun p=>cy p.2 p.1)=r
 rw[g];exact k
theorem wM{s:Option V}{ys:List V}{it:It}(e:iter C l it h=some (vs,s,h1))(f:cq C (fun v=>ev C (L.set l n v) x) (fun _ h=>some (true,h)) s vs vs [] h1=some (ys,h2))(k:ys.length≤aU):ev C l (.comp x n it) h=some (.ref h2.n,h2.push (.list ys)):=BY e f (if_pos k)
theorem BZ{bs:List UInt8}(e:ev C l x h=some (.bytes bs,h1)):ev C l (.fG x .bytes) h=some (.bool true,h1):=nA (f:=fun v h=>(kG h v .bytes).map (V.bool ·,h)) e rfl
theorem MK{ks:List Nm}(e:gh l xs=some vs)(k:ks.Nodup∧ks.length=vs.length∧0<ks.length∧ks.length≤15):ev C l (.dict ks xs) h=some (.ref h.n,h.push (.dict (ks.zip vs))):=by
 show(match gh l xs with|some vs=>if ks.Nodup∧ks.length=vs.length∧0<ks.length∧ks.length≤15 then some (V.ref h.n,h.push (.dict (ks.zip vs)))else none|none=>none)=_
 rw[e];exact if_pos k
theorem ML(e:ev C l x h=some (.int i,h1))(f:ev C l y h1=some (.int j,h2))(q:0≤i∧0≤j∧j≤100∧i.toNat<256^j.toNat):ev C l (.toBytes x y) h=some (.bytes (bigEndian i.toNat j.toNat),h2):=
 nI e (nI (f:=fun b h=>if 0≤i∧0≤b∧b≤100∧i.toNat<256^b.toNat then some (V.bytes (bigEndian i.toNat b.toNat),h)else none) f (if_pos q))
theorem MM{s:List Nat}{k:Nat}(e:ev C l x h=some (.str s,h1))(f:jF s=some k):ev C l (.kC x) h=some (.int (k:Int),h1):=by
 show(match ev C l x h with|some (.str s,h)=>(jF s).map fun n=>(V.int (n:Int),h)|_=>none)=_
 rw[e]
 show Option.map (fun n:Int=>(V.int n,h1)) (do let a←jF s;pure (a:Int))=_
 rw[f];rfl
theorem q8{i:Nat}{es:List (Nm×V)}(e:ev C l x h=some (.ref i,h1))(f:h1.o i=some (.dict es))(g:(own n es).getD .none=v):ev C l (.iU x n) h=some (v,h1):=by
 show(match ev C l x h with|some (.ref i,h)=>(match h.o i with|some (.dict es)=>some ((own n es).getD .none,h)|_=>none)|_=>none)=_
 rw[e]
 show(match h1.o i with|some (.dict es)=>some ((own n es).getD .none,h1)|_=>none)=_
 rw[f,←g]
theorem oZ{ty:Ty}(e:ev C l x h=some (a,h1))(f:kG h1 a ty=some t):ev C l (.fG x ty) h=some (.bool t,h1):=nA e (nM f)
theorem dF(e:cz C l xs h=some (vs,h1))(k:vs.length≤aU):ev C l (.list xs) h=some (.ref h1.n,h1.push (.list vs)):=nL e (if_pos k)
theorem bh:cz C l .nil h=some ([],h):=rfl
theorem aT(e:ev C l x h=some (v,h1))(f:cz C l xs h1=some (vs,h2)):cz C l (.cons x xs) h=some (v::vs,h2):=nA e (nL (f:=fun vs h=>some (v::vs,h)) f rfl)
theorem B0(vs:List V):split vs []=(vs,[]):=by
 show(vs.take (vs.length-0),_)=_
 rw[Nat.sub_zero,List.take_length];rfl
theorem B1{r:Option (CR×H)}(g:C.go a (ws++vs) [] h=r):C.go a (ws++(split vs []).1) (split vs []).2 h=r:=by rw[B0];exact g
theorem B4{r:Option (CR×H)}(g:C.go a vs [] h=r):C.go a (split vs []).1 (split vs []).2 h=r:=by rw[B0];exact g
theorem eV(e:ev C l x h=some (a,h1))(f:cz C l xs h1=some (vs,h2))(g:C.go a vs [] h2=some (.ret v,h3)):ev C l (.call x xs []) h=some (v,h3):=
 nA e (nL f ((congrArg n9 (B4 g)).trans rfl))
theorem MN{ks:List Nm}{us:List V}{kv:List (Nm×V)}(e:ev C l x h=some (a,h1))(f:cz C l xs h1=some (vs,h2))(s:split vs ks=(us,kv))(g:C.go a us kv h2=some (.ret v,h3)):ev C l (.call x xs ks) h=some (v,h3):=
 nA e (nL f (by rw[s];exact(congrArg n9 g).trans rfl))
theorem nj(e:ev C l x h=some (a,h1))(k:gf h1 a n=some (b,ws))(g:cz C l xs h1=some (vs,h2))(j:C.go b (ws++vs) [] h2=some (.ret v,h3)):ev C l (.bg x n xs []) h=some (v,h3):=
 nA e (nK k (nL g ((congrArg n9 (B1 j)).trans rfl)))
theorem MO{r:Option (CR×H)}(e:ev C l x h=some (a,h1))(f:cz C l xs h1=some (vs,h2))(g:C.go a vs [] h2=r):dX C l (.call x xs []) h=r:=nA e (nL f (B4 g))
theorem o0{r:Option (CR×H)}(e:ev C l x h=some (a,h1))(k:gf h1 a n=some (b,ws))(g:cz C l xs h1=some (vs,h2))(j:C.go b (ws++vs) [] h2=r):dX C l (.bg x n xs []) h=r:=nA e (nK k (nL g (B1 j)))
theorem MP{r:Option (CR×H)}{ks:List Nm}{us:List V}{kv:List (Nm×V)}(e:ev C l x h=some (a,h1))(k:gf h1 a n=some (b,ws))(g:cz C l xs h1=some (vs,h2))(s:split vs ks=(us,kv))(j:C.go b (ws++us) kv h2=r):dX C l (.bg x n xs ks) h=r:=nA e (nK k (nL g (by rw[s];exact j)))
theorem wN(e:ev C l x h=some (v,h1)):dX C l x h=some (.ret v,h1):=by
 have k:i4 (ev C l x h)=some (.ret v,h1):=congrArg i4 e
 cases x with
 |call f xs ks=>exact mA e fun fv h2 e2 e3=>mL e3 fun vs h3 e4 e5=>sy e5 fun v h4 e6 e7=>nA e2 (nL e4 (e6.trans (congrArg (Option.map fun p:V×H=>(CR.ret p.1,p.2)) e7)))
 |bg y n xs ks=>exact mA e fun a h2 e2 e3=>mK e3 fun f fst e8 e9=>mL e9 fun vs h3 e4 e5=>sy e5 fun v h4 e6 e7=>nA e2 (nK e8 (nL e4 (e6.trans (congrArg (Option.map fun p:V×H=>(CR.ret p.1,p.2)) e7))))
 |_=>exact k
theorem wO{ys:XS}{r:Option (V×H)}(e:ev C l x h=some (.bool true,h1))(g:oa C l (.cons y ys) h1=r):oa C l (.cons x (.cons y ys)) h=r:=nA e g
theorem MQ(e:ev C l x h=some (v,h1)):oa C l (.cons x .nil) h=some (v,h1):=nA (f:=fun v h=>some (v,h)) e rfl
theorem bG(e:ev C l x h=some (v,h1))(f:jE C h1 v=some t):te C l (.tr x) h=some (t,h1):=nA e (nM f)
theorem aJ(e:ev C l x h=some (a,h1))(f:ev C l y h1=some (b,h2))(g:cK C h2 p a b=some t):te C l (.cmp p x y) h=some (t,h2):=nA e (nA f (nM g))
theorem tQ(e:ev C l x h=some (a,h1))(f:ev C l y h1=some (b,h2))(g:cK C h2 p a b=some true)(d:ev C l z h2=some (c,h3))(k:cK C h3 p2 b c=some t):te C l (.fH p p2 x y z) h=some (t,h3):=by
 refine nA e (nA f ?_)
 show(match cK C h2 p a b with|some true=>(match ev C l z h2 with|some (c,h)=>(cK C h p2 b c).map (·,h)|none=>none)|some false=>some (false,h2)|none=>none)=_
 rw[g]
 exact nA d (nM k)
theorem B5(e:ev C l x h=some (a,h1))(f:ev C l y h1=some (b,h2))(g:cK C h2 p a b=some false):te C l (.fH p p2 x y z) h=some (false,h2):=by
 refine nA e (nA f ?_)
 show(match cK C h2 p a b with|some true=>(match ev C l z h2 with|some (c,h)=>(cK C h p2 b c).map (·,h)|none=>none)|some false=>some (false,h2)|none=>none)=_
 rw[g]
theorem j6(e:te C l q h=some (t,h1)):te C l (.not q) h=some (!t,h1):=nN (f:=fun t h=>some (!t,h)) e rfl
theorem o6{r:Option (Bool×H)}(e:te C l q h=some (true,h1))(f:iZ C l qs h1=r):iZ C l (.cons q qs) h=r:=by
 show(match te C l q h with|some (true,h)=>iZ C l qs h|some (false,h)=>some (false,h)|none=>none)=r
 rw[e];exact f
theorem tR(e:te C l q h=some (false,h1)):iZ C l (.cons q qs) h=some (false,h1):=by
 show(match te C l q h with|some (true,h)=>iZ C l qs h|some (false,h)=>some (false,h)|none=>none)=_
 rw[e]
theorem B6(e:te C l q h=some (true,h1)):i0 C l (.cons q qs) h=some (true,h1):=by
 show(match te C l q h with|some (true,h)=>some (true,h)|some (false,h)=>i0 C l qs h|none=>none)=_
 rw[e]
theorem tS{r:Option (Bool×H)}(e:te C l q h=some (false,h1))(f:i0 C l qs h1=r):i0 C l (.cons q qs) h=r:=by
 show(match te C l q h with|some (true,h)=>some (true,h)|some (false,h)=>i0 C l qs h|none=>none)=_
 rw[e];exact f
theorem q9(e:te C l q h=some (t,h1)):iZ C l (.cons q .nil) h=some (t,h1):=by cases t;exact tR e;exact o6 e rfl
theorem MR(e:te C l q h=some (t,h1)):i0 C l (.cons q .nil) h=some (t,h1):=by cases t;exact tS e rfl;exact B6 e
theorem o7{q2:Q}{t2:Bool}(e:te C l q h=some (t,h))(f:te C l q2 h=some (t2,h)):te C l (.and (.cons q (.cons q2 .nil))) h=some (t&&t2,h):=by cases t;exact tR e;exact o6 e (q9 f)
theorem wP{B:SS}{f1 f2:Fl}{A:SS}(e:te C l q h=some (t,h1))(f:ay C A l h1=some (f1,l,h1))(g:ay C B l h1=some (f2,l,h1)):ex C (.ifs q A B) l h=some (bif t then f1 else f2,l,h1):=by
 cases t
 ·exact(show(match te C l q h with|some (true,h)=>ay C A l h|some (false,h)=>ay C B l h|none=>none)=_ by rw[e];exact g)
 ·exact(show(match te C l q h with|some (true,h)=>ay C A l h|some (false,h)=>ay C B l h|none=>none)=_ by rw[e];exact f)
theorem o8{r:Option (Bool×H)}(e:iZ C l qs h=r):te C l (.and qs) h=r:=e
theorem B7{r:Option (Bool×H)}(e:i0 C l qs h=r):te C l (.or qs) h=r:=e
theorem MS{q2:Q}(e:te C l q h=some (false,h1))(f:te C l q2 h1=some (false,h2)):te C l (.or (.cons q (.cons q2 .nil))) h=some (false,h2):=tS e (tS f rfl)
theorem MT{r:Option (Fl×L×H)}{s:Option (CR×H)}:dX C l x h=s→(match s with|some (.ret v,h)=>some (.next,l.set n v,h)|some (.exc c,h)=>some (.exc c,l,h)|none=>none)=r→ex C (.assign n x) l h=r:=fun e f=>by
 subst e;exact f
theorem nk{r:Option (Fl×L×H)}{s:Option (CR×H)}:dX C l x h=s→(match s with|some (.ret v,h)=>some (.next,l,h)|some (.exc c,h)=>some (.exc c,l,h)|none=>none)=r→ex C (.expr x) l h=r:=fun e f=>by
 subst e;exact f
theorem aV(e:ev C l x h=some (v,h1)):ex C (.assign n x) l h=some (.next,l.set n v,h1):=MT (wN e) rfl
theorem tT(e:ev C l x h=some (v,h1)):ex C (.expr x) l h=some (.next,l,h1):=nk (wN e) rfl
theorem bE{A B:SS}{r:Option (Fl×L×H)}(e:te C l q h=some (true,h1))(f:ay C A l h1=r):ex C (.ifs q A B) l h=r:=by
 show(match te C l q h with|some (true,h)=>ay C A l h|some (false,h)=>ay C B l h|none=>none)=r
 rw[e];exact f
theorem bi{A B:SS}{r:Option (Fl×L×H)}(e:te C l q h=some (false,h1))(f:ay C B l h1=r):ex C (.ifs q A B) l h=r:=by
 show(match te C l q h with|some (true,h)=>ay C A l h|some (false,h)=>ay C B l h|none=>none)=r
 rw[e];exact f
theorem ll(e:l n=some a)(f:ev C l x h=some (b,h1))(g:lW o a b=some v):ex C (.aug n o x) l h=some (.next,l.set n v,h1):=nS e (nA f (nS (f:=fun v=>some (Fl.next,l.set n v,h1)) g rfl))
theorem jk(e:ev C l x h=some (a,h1))(d:eE h1 a n=some (u,h2))(f:ev C l y h2=some (b,h3))(g:lW o u b=some v)(s:dk h3 a n v=some h4):ex C (.hM x n o y) l h=some (.next,l,h4):=
 nA e (nA d (nA f (nS g (nH (f:=fun h=>some (Fl.next,l,h)) s rfl))))
theorem B8(e:ev C l y h=some (v,h1))(f:ev C l x h1=some (a,h2))(s:dk h2 a n v=some h3):ex C (.bS x n y) l h=some (.next,l,h3):=by
 show(match dX C l y h with|some (.ret v,h)=>(match ev C l x h with|some (a,h)=>(match dk h a n v with|some h=>some (Fl.next,l,h)|none=>none)|none=>none)|some (.exc c,h)=>some (.exc c,l,h)|none=>none)=_
 rw[wN e]
 exact nA f (nH (f:=fun h=>some (Fl.next,l,h)) s rfl)
theorem wQ(e:ev C l z h=some (v,h1))(f:ev C l x h1=some (a,h2))(g:ev C l y h2=some (b,h3))(s:kJ h3 a b v=some h4):ex C (.gc x y z) l h=some (.next,l,h4):=
 nA e (nA f (nA g (nH (f:=fun h=>some (Fl.next,l,h)) s rfl)))
theorem MU(e:ev C l x h=some (a,h1))(f:ev C l y h1=some (b,h2))(g:idx C h2 a b=some u)(d:ev C l z h2=some (c,h3))(k:lW o u c=some v)(s:kJ h3 a b v=some h4):ex C (.kD x y o z) l h=some (.next,l,h4):=
 nA e (nA f (nS g (nA d (nS k (nH (f:=fun h=>some (Fl.next,l,h)) s rfl)))))
theorem nq{i:Nat}{us:List V}(e:ev C l x h=some (.ref i,h1))(o:h1.o i=some (.list us))(f:ev C l y h1=some (v,h2))(g:h2.o i=some (.list vs))(q:vs.length<aU):ex C (.expr (.append x y)) l h=some (.next,l,h2.set i (.list (vs++[v]))):=by
 refine tT (v:= .none) ?_
 show(match ev C l x h with|some (.ref i,h)=>(match h.o i with|some (.list _)=>(match ev C l y h with|some (v,h)=>(match h.o i with|some (.list xs)=>(if xs.length<aU then some (V.none,h.set i (.list (xs++[v])))else none)|_=>none)|none=>none)|_=>none)|_=>none)=_
 rw[e]
 show(match h1.o i with|some (.list _)=>(match ev C l y h1 with|some (v,h)=>(match h.o i with|some (.list xs)=>(if xs.length<aU then some (V.none,h.set i (.list (xs++[v])))else none)|_=>none)|none=>none)|_=>none)=_
 rw[o]
 show(match ev C l y h1 with|some (v,h)=>(match h.o i with|some (.list xs)=>(if xs.length<aU then some (V.none,h.set i (.list (xs++[v])))else none)|_=>none)|none=>none)=_
 rw[f]
 show(match h2.o i with|some (.list xs)=>(if xs.length<aU then some (V.none,h2.set i (.list (xs++[v])))else none)|_=>none)=_
 rw[g]
 exact if_pos q
theorem B9{k:Nat}{es:List (Nm×V)}(e:ev C l y h=some (v,h1))(f:ev C l x h1=some (.ref k,h2))(g:h2.o k=some (.dict es))(z:es.length≤400):ex C (.fI x n y) l h=some (.next,l,h2.set k (.dict (put n v es))):=by
 refine nA e ?_
 show(match ev C l x h1 with|some (.ref i,h)=>(match h.o i with|some (.dict es)=>(if es.length≤400 then some (Fl.next,l,h.set i (.dict (put n v es)))else none)|_=>none)|_=>none)=_
 rw[f]
 show(match h2.o k with|some (.dict es)=>(if es.length≤400 then some (Fl.next,l,h2.set k (.dict (put n v es)))else none)|_=>none)=_
 rw[g]
 exact if_pos z
theorem fy(e:ev C l x h=some (v,h1)):ex C (.ret x) l h=some (.ret v,l,h1):=nA (f:=fun v h=>some (Fl.ret v,l,h)) e rfl
theorem Cb(e:te C l q h=some (true,h1)):ex C (.assert q) l h=some (.next,l,h1):=by
 show(match te C l q h with|some (true,h)=>some (Fl.next,l,h)|_=>none)=_
 rw[e]
theorem nC{c:Cl}{x:Option (V×H)}{f:Cl→H→Option α}{r:Option α}:(x=some (.cls c,h))→(f c h=r)→(match x with|some (.cls a,h)=>f a h|_=>none)=r:=fun e g=>by rw[e];exact g
theorem o9{c:Cl}(e:ev C l x h=some (.cls c,h1))(d:cB c=true):ex C (.iV x) l h=some (.exc c,l,h1):=nC (f:=fun c h=>if cB c then some (Fl.exc c,l,h)else none) e (if_pos d)
theorem MV{c:Cl}(e:ev C l x h=some (.cls c,h1))(d:cB c=true)(f:ev C l y h1=some (v,h2)):ex C (.lV x y) l h=some (.exc c,l,h2):=nC e (nF d (nA (f:=fun _ h=>some (Fl.exc c,l,h)) f rfl))
theorem Cd{s:CC.S}{r:SS}{c:Cl}(e:ex C s l h=some (.exc c,l1,h1)):ay C (.cons s r) l h=some (.exc c,l1,h1):=by
 show(match ex C s l h with|some (.next,l,h)=>ay C r l h|r=>r)=_
 rw[e]
theorem MW{s:CC.S}{r:SS}(e:ex C s l h=some (.brk,l1,h1)):ay C (.cons s r) l h=some (.brk,l1,h1):=by
 show(match ex C s l h with|some (.next,l,h)=>ay C r l h|r=>r)=_
 rw[e]
theorem Ce{c:Cl}(e:dX C l x h=some (.exc c,h1)):ex C (.expr x) l h=some (.exc c,l,h1):=nk e rfl
section
variable{ok:H→Bool}{body:α→L→H→Option (Fl×L×H)}{s:α}{as:List α}{w:Option (Fl×L×H)}{tt:L→H→Option (Bool×H)}{bb:L→H→Option (Fl×L×H)}{l2:L}{c:Cl}{kk:Nat}
theorem tU(o:ok h=true):bD ok body [] l h=some (.next,l,h):=if_pos o
theorem j7(o:ok h=true)(e:body s l h=some (.next,l1,h1))(g:bD ok body as l1 h1=w):bD ok body (s::as) l h=w:=by
 refine(if_pos o).trans ?_
 rw[e];exact g
theorem Cg(o:ok h=true)(e:body s l h=some (.exc c,l1,h1)):bD ok body (s::as) l h=some (.exc c,l1,h1):=by
 refine(if_pos o).trans ?_
 rw[e]
theorem MX(o:ok h=true)(e:body s l h=some (.brk,l1,h1)):bD ok body (s::as) l h=some (.next,l1,h1):=by
 refine(if_pos o).trans ?_
 rw[e]
theorem wR(e:tt l h=some (false,h1)):c7 tt bb (kk+1) l h=some (.next,l,h1):=by
 show(match tt l h with|some (false,h)=>some (Fl.next,l,h)|some (true,h)=>(match bb l h with|some (.next,l,h)|some (.cont,l,h)=>c7 tt bb kk l h|some (.brk,l,h)=>some (.next,l,h)|some (.ret v,l,h)=>some (.ret v,l,h)|_=>none)|none=>none)=_
 rw[e]
theorem wS(e:tt l h=some (true,h1))(f:bb l h1=some (.next,l1,h2))(g:c7 tt bb kk l1 h2=w):c7 tt bb (kk+1) l h=w:=by
 show(match tt l h with|some (false,h)=>some (Fl.next,l,h)|some (true,h)=>(match bb l h with|some (.next,l,h)|some (.cont,l,h)=>c7 tt bb kk l h|some (.brk,l,h)=>some (.next,l,h)|some (.ret v,l,h)=>some (.ret v,l,h)|_=>none)|none=>none)=_
 rw[e]
 show(match bb l h1 with|some (.next,l,h)|some (.cont,l,h)=>c7 tt bb kk l h|some (.brk,l,h)=>some (.next,l,h)|some (.ret v,l,h)=>some (.ret v,l,h)|_=>none)=w
 rw[f];exact g
theorem MY(e:tt l h=some (true,h1))(f:bb l h1=some (.brk,l1,h2)):c7 tt bb (kk+1) l h=some (.next,l1,h2):=by
 show(match tt l h with|some (false,h)=>some (Fl.next,l,h)|some (true,h)=>(match bb l h with|some (.next,l,h)|some (.cont,l,h)=>c7 tt bb kk l h|some (.brk,l,h)=>some (.next,l,h)|some (.ret v,l,h)=>some (.ret v,l,h)|_=>none)|none=>none)=_
 rw[e]
 show(match bb l h1 with|some (.next,l,h)|some (.cont,l,h)=>c7 tt bb kk l h|some (.brk,l,h)=>some (.next,l,h)|some (.ret v,l,h)=>some (.ret v,l,h)|_=>none)=_
 rw[f]
theorem MZ{B:SS}{bs:List UInt8}(e:ev C l x h=some (.bytes bs,h1))(f:bD (fun _=>true) (fun v l h=>ay C B (l.set n v) h) (bs.map fun c=>V.int (c.toNat:Int)) l h1=w):ex C (.bK n (.gen x) B) l h=w:=by
 show(match ev C l x h with|some (.bytes bs,h)=>bD (fun _=>true) (fun v l h=>ay C B (l.set n v) h) (bs.map fun c=>V.int (c.toNat:Int)) l h|_=>none)=w
 rw[e];exact f
theorem n3{β:Type}{x:Option (List V×Option V×H)}{f:List V→Option V→H→Option β}{r:Option β}{o:Option V}:x=some (vs,o,h)→f vs o h=r→(match x with|some (a,b,c)=>f a b c|none=>none)=r:=fun e g=>by rw[e];exact g
theorem jl{B:SS}{o:Option V}{it:It}(e:iter C l it h=some (vs,o,h1))(f:bD (fun h=>bV C h o vs) (fun v l h=>ay C B (l.set n v) h) vs l h1=w):ex C (.bK n it B) l h=w:=by
 cases it with
 |gen x=>cases e
 |_=>exact n3 (f:=fun vs src h=>bD (fun h=>bV C h src vs) (fun v l h=>ay C B (l.set n v) h) vs l h) e f
theorem M0{B:SS}(e:ev C l x h=some (v,h1))(g:C.items h1 v=some vs)(f:bD (fun h=>bV C h (some v) vs) (fun(p:V×Nat) l h=>ay C B ((l.set n (.int (p.2:Int))).set m p.1) h) vs.zipIdx l h1=w):ex C (.kE n m (.enum x) B) l h=w:=by
 refine nA e ?_
 show(match C.items h1 v with|some vs=>bD (fun h=>bV C h (some v) vs) (fun(p:V×Nat) l h=>ay C B ((l.set n (.int (p.2:Int))).set m p.1) h) vs.zipIdx l h1|none=>none)=w
 rw[g];exact f
theorem pd(e:ev C l x h=some (v,h1))(f:C.items h1 v=some vs):iter C l (.val x) h=some (vs,some v,h1):=nA e (nM f)
theorem M4{B:SS}(e:ev C l x h=some (v,h1))(f:C.items h1 v=some vs):ex C (.bK n (.val x) B) l h=bD (fun h=>bV C h (some v) vs) (fun v l h=>ay C B (l.set n v) h) vs l h1:=jl (pd e f) rfl
theorem Ch(e:cz C l xs h=some (vs,h1))(k:vs.length≤1000):iter C l (.tup xs) h=some (vs,none,h1):=nL e (if_pos k)
theorem M5{B:SS}(e:cz C l xs h=some (vs,h1))(k:vs.length≤1000):ex C (.bK n (.tup xs) B) l h=bD (fun h=>bV C h none vs) (fun v l h=>ay C B (l.set n v) h) vs l h1:=jl (Ch e k) rfl
theorem Ci{ok:H→Bool}{body:V→L→H→Option (Fl×L×H)}{s:V}{as:List V}(o:ok h=true)(e:body s l h=some (.next,l1,h1)):bD ok body (s::as) l h=bD ok body as l1 h1:=j7 o e rfl
theorem wT(o:ok h=true):bD ok body [] l h=some (.next,l,h):=if_pos o
theorem Cj(e:ev C l x h=some (.int i,h1))(k:i.natAbs<2^31):iter C l (.jB x) h=some (cS 0 i 1,none,h1):=nI (f:=fun a h=>if a.natAbs<2^31 then some (cS 0 a 1,none,h)else none) e (if_pos k)
theorem Ck(e:ev C l x h=some (.int i,h1))(f:ev C l y h1=some (.int j,h2))(k:i.natAbs<2^31∧j.natAbs<2^31):iter C l (.gb x y) h=some (cS i j 1,none,h2):=nI e (nI (f:=fun b h=>if i.natAbs<2^31∧b.natAbs<2^31 then some (cS i b 1,none,h)else none) f (if_pos k))
theorem Cm(e:ev C l x h=some (.int i,h1))(f:ev C l y h1=some (.int j,h2))(g:ev C l z h2=some (.int k,h3))(t:i.natAbs<2^31∧j.natAbs<2^31∧0<k∧k<2^30):iter C l (.jC x y z) h=some (cS i j k,none,h3):=
 nI e (nI f (nI (f:=fun c h=>if i.natAbs<2^31∧j.natAbs<2^31∧0<c∧c<2^30 then some (cS i j c,none,h)else none) g (if_pos t)))
end
section
variable{el:V→H→Option (V×H)}{cd:V→H→Option (Bool×H)}{s:Option V}{all acc:List V}{w:Option (List V×H)}
theorem Co(o:bV C h s all=true)(e:cd v h=some (true,h1))(f:el v h1=some (u,h2))(g:cq C el cd s all vs (u::acc) h2=w):cq C el cd s all (v::vs) acc h=w:=by
 refine(if_pos o).trans ?_
 rw[e]
 exact nA f g
theorem M6(o:bV C h s all=true)(e:cd v h=some (false,h1))(g:cq C el cd s all vs acc h1=w):cq C el cd s all (v::vs) acc h=w:=by
 refine(if_pos o).trans ?_
 rw[e]
 exact g
theorem M7{ys:List V}{r:Option (V×H)}{it:It}(e:iter C l it h=some (vs,s,h1))(g:cq C (fun v=>ev C (L.set l n v) x) (fun v=>te C (L.set l n v) q) s vs vs [] h1=some (ys,h2))(k:cy h2 ys=r):ev C l (.iT x n it q) h=r:=by
 show(match iter C l it h with|some (vs,src,h)=>(cq C (fun v=>ev C (L.set l n v) x) (fun v=>te C (L.set l n v) q) src vs vs [] h).bind fun p=>cy p.2 p.1|none=>none)=r
 rw[e]
 show(cq C (fun v=>ev C (L.set l n v) x) (fun v=>te C (L.set l n v) q) s vs vs [] h1).bind (fun p=>cy p.2 p.1)=r
 rw[g];exact k
theorem Cp{r:Option (V×H)}{is:List Int}(e:ev C l x h=some (v,h1))(f:(C.items h1 v).bind dE=some is)(g:is.length<64)(k:cy h1 ((sortI is).map .int)=r):ev C l (.sorted x) h=r:=by
 refine nA e ?_
 show(match(C.items h1 v).bind dE with|some xs=>if xs.length<64 then cy h1 ((sortI xs).map .int)else none|none=>none)=r
 rw[f];exact(if_pos g).trans k
end
section
variable{d c:Cl}{ht:HT}{hb:List HA}{hs:HS}{w:Option (Fl×L×H)}{f:HF}{ha:HA}{wh:Option (HF×L×H)}
theorem Cq{B:SS}(e:ay C B l h=w){r:Option (Fl×L×H)}(g:sg hs w=r):ex C (.eZ B hs) l h=r:=(congrArg (sg hs) e).trans g
theorem rc{B:SS}{r:Option (Fl×L×H)}(e:ay C B l h=some (.exc c,l1,h1))(k:cB c=true)(g:hN c hs l1 h1=r):ex C (.eZ B hs) l h=r:=Cq e ((if_pos k).trans g)
theorem wU{B:SS}(e:ay C B l h=some (.next,l1,h1)):ex C (.eZ B hs) l h=some (.next,l1,h1):=Cq e rfl
theorem nD{x:Option Cl}{f:Cl→Option α}{r:Option α}:x=some d→f d=r→(match x with|some d=>f d|none=>none)=r:=fun e g=>by rw[e];exact g
theorem Cr(e:lY l h ht=some (.cls d))(y:cB d=true)(z:sub c d=true)(g:kI hb l h=some (f,l1,h1)):hN c (.cons ht hb hs) l h=some (f.fl,l1,h1):=
 nD (congrArg se e) ((if_pos y).trans ((if_pos z).trans (congrArg (Option.map fun p:HF×L×H=>(p.1.fl,p.2)) g)))
theorem wV(e:lY l h ht=some (.cls d))(y:cB d=true)(z: ¬sub c d=true)(g:hN c hs l h=w):hN c (.cons ht hb hs) l h=w:=nD (congrArg se e) ((if_pos y).trans ((if_neg z).trans g))
theorem rd(s:l m=some v)(g:eE h v n=some (u,h1)):lY l h (.at_ m n)=some u:=nV (f:=fun v=>(eE h v n).map Prod.fst) s (congrArg (Option.map Prod.fst) g)
theorem Cs(e:oc ha l h=some (.next,l1,h1))(g:kI hb l1 h1=wh):kI (ha::hb) l h=wh:=by
 show(match oc ha l h with|some (.next,l,h)=>kI hb l h|r=>r)=wh
 rw[e];exact g
theorem Ct{a0 b0:Nm}(e:l b0=some b)(f:l a0=some a)(g:eE h b m=some (v,h1))(s:dk h1 a n v=some h2):oc (.dk a0 n b0 m) l h=some (.next,l,h2):=nV e (nV f (nA g (nH (f:=fun h=>some (HF.next,l,h)) s rfl)))
end
theorem dM:ay C .nil l h=some (.next,l,h):=rfl
theorem aw{s:CC.S}{r:SS}{w:Option (Fl×L×H)}(e:ex C s l h=some (.next,l1,h1))(f:ay C r l1 h1=w):ay C (.cons s r) l h=w:=by
 show(match ex C s l h with|some (.next,l,h)=>ay C r l h|r=>r)=w
 rw[e];exact f
theorem em{s:CC.S}{r:SS}(e:ex C s l h=some (.ret v,l1,h1)):ay C (.cons s r) l h=some (.ret v,l1,h1):=by
 show(match ex C s l h with|some (.next,l,h)=>ay C r l h|r=>r)=_
 rw[e]
theorem nu{s:CC.S}{r:SS}{c:Cl}(e:ex C s l h=some (.exc c,l1,h1)):ay C (.cons s r) l h=some (.exc c,l1,h1):=by
 show(match ex C s l h with|some (.next,l,h)=>ay C r l h|r=>r)=_
 rw[e]
theorem aF{s:CC.S}{w:Option (Fl×L×H)}(e:ex C s l h=w):ay C (.cons s .nil) l h=w:=by
 show(match ex C s l h with|some (.next,l,h)=>ay C .nil l h|r=>r)=w
 rw[e]
 induction w with
 |none=>rfl
 |some p=>obtain⟨f,l,h⟩:=p;induction f<;>rfl
theorem bI{s:CC.S}{r:SS}(e:ex C s l h=some (.next,l1,h1)):ay C (.cons s r) l h=ay C r l1 h1:=aw e rfl
theorem eL{s:CC.S}(e:ex C s l h=some (.next,l1,h1)):ay C (.cons s .nil) l h=some (.next,l1,h1):=aw e rfl
theorem wW{s:CC.S}{r:SS}(e:ex C s l h=some (.ret v,l1,h1)):ay C (.cons s r) l h=some (.ret v,l1,h1):=em e
end
theorem Cu(h:H)(i j:Nat)(x:O):(h.set i x).o j=if j=i then some x else h.o j:=rfl
theorem Cv(h:H)(j:Nat)(x:O):(h.push x).o j=if j=h.n then some x else h.o j:=rfl
theorem bU(h:H)(i:Nat)(x:O):(h.set i x).o i=some x:=by simp[Cu]
theorem dN{h:H}{i j:Nat}{x:O}(e:j≠i):(h.set i x).o j=h.o j:=by simp[Cu,e]
theorem bB{h:H}{j:Nat}{x:O}(e:j=h.n):(h.push x).o j=some x:=by simp[Cv,e]
theorem bM{h:H}{j:Nat}{x:O}(e:j≠h.n):(h.push x).o j=h.o j:=by simp[Cv,e]
theorem j8(h:H)(i:Nat)(x:O):(h.set i x).n=h.n:=rfl
theorem bN(h:H)(x:O):(h.push x).n=h.n+1:=rfl
theorem pe(h:H)(i:Nat)(x y:O):(h.set i x).set i y=h.set i y:=by
 refine congrArg (fun o=>H.mk o h.n) (funext fun j=> ?_)
 by_cases e:j=i<;>simp only[e,if_pos,if_neg,H.set,ite_true,ite_false]
theorem tV{a b:Int}:(V.int a=V.int b)=(a=b):=propext ⟨fun h=>V.noConfusion h id,fun h=>h▸rfl⟩
theorem M8(cl:CL→List V)(fuel n:Nat)(f:Fn)(xs:List V)(ks:List (Nm×V))(h:H):(Cn cl fuel (n+1)).call f xs ks h=match fJ f with
 |some I=>u8 (Cn cl fuel n) I xs ks h
 |none=>none:=rfl
theorem wX(cl:CL→List V)(fuel:Nat): ∀n,(Cn cl fuel n).cl=cl
 |0=>rfl
 |_+1=>rfl
noncomputable def bv:Option Bool→V
 |none=> .none
 |some b=> .bool b
theorem Cw(C:Cx)(h:H)(b:Option Bool):jE C h (bv b)=some (b.getD false):=by induction b<;>rfl
section
variable(C:Cx)(h:H)
theorem pf(a b:Int):dm C h .add (.int a) (.int b)=some (.int (a+b),h):=rfl
theorem rg(a b:Int):dm C h .sub (.int a) (.int b)=some (.int (a-b),h):=rfl
theorem M9(a b:Int):dm C h .mul (.int a) (.int b)=if a.natAbs<2^31∧b.natAbs<2^31 then some (.int (a*b),h)else none:=rfl
theorem tW(a b:Int):dm C h .div (.int a) (.int b)=if b≠0∧b.natAbs<1073741824 then some (.int (a.fdiv b),h)else none:=rfl
theorem gU(a b:Int):dm C h .mod (.int a) (.int b)=if b≠0 then some (.int (a.fmod b),h)else none:=rfl
theorem Na(a b:Int):dm C h .band (.int a) (.int b)=if 0≤a∧0≤b then some (.int ((a.toNat&&&b.toNat:Nat):Int),h)else none:=rfl
theorem lm(a b:List Nat):dm C h .add (.str a) (.str b)=if a.length+b.length≤aU then some (.str (a++b),h)else none:=rfl
theorem Cy(c:Nat)(b:Int):dm C h .mul (.str [c]) (.int b)=if 0≤b∧b≤1000 then some (.str (List.replicate b.toNat c),h)else none:=rfl
theorem Nb(a b:List UInt8):dm C h .add (.bytes a) (.bytes b)=if a.length+b.length≤aU then some (.bytes (a++b),h)else none:=rfl
theorem Nc(i j:Nat):dm C h .add (.ref i) (.ref j)=match h.o i,h.o j with
 |some (.list xs),some (.list ys)=>cy h (xs++ys)
 |_,_=>none:=rfl
theorem wY(a b:Int):n7 C h (.int a) (.int b)=some (a==b):=rfl
theorem Cz(a b:List UInt8):n7 C h (.bytes a) (.bytes b)=some (a==b):=rfl
theorem Nd(a b:Bool):n7 C h (.bool a) (.bool b)=some (a==b):=rfl
theorem CA(a b:Int):n8 C h (.int a) (.int b)=some (a !=b):=rfl
theorem Nf(a b:List UInt8):n8 C h (.bytes a) (.bytes b)=some (a !=b):=rfl
theorem ph(a b:V):cK C h .eq a b=n7 C h a b:=rfl
theorem tX(a b:V):cK C h .ne a b=n8 C h a b:=rfl
theorem Ng(a b:V):cK C h .isin a b=mem C h a b:=rfl
theorem Nh(a b:V):cK C h .jA a b=(mem C h a b).map (!·):=rfl
theorem tY{k:Nat}{xs:List V}(e:h.o k=some (.list xs))(i:Int):idx C h (.ref k) (.int i)=if 0≤i then xs[i.toNat]? else none:=by
 show(match(match h.o k with|some (.list xs)=>some xs|_=>none)with|some xs=>if 0≤i then xs[i.toNat]? else none|none=>none)=_
 rw[e]
theorem rh(c:CL)(i:Int):idx C h (.b7 c) (.int i)=if 0≤i then(C.cl c)[i.toNat]? else none:=rfl
theorem j9(i:Nat):C.items h (.ref i)=match h.o i with|some (.list xs)=>some xs|_=>none:=rfl
end
theorem bu(l:L)(n m:Nm)(v:V):l.set n v m=if m=n then some v else l m:=rfl
structure PC where
 w:Nat
 al:Option Bool
 rev:Option Bool
 y:Int
 pos:Int
 cp:Int
 col:Int
 st:T
 buf:List UInt8
 ext:List (Nm×V)
 cl:List Int
 rl:List Int
 af:Fn
noncomputable def PC.at (d:PC) (aq ref acc:Nat):List (Nm×V):=(.hH,.int d.pos)::(.width,.int d.w)::(.cM,bv d.al)::(.lO,.int d.y)::(.dC,.ref aq)::(.cJ,.ref ref)::(.d9,.int d.cp)::(.bx,.int d.col)::
 (.eX,.ref acc)::(.fY,.tree d.st)::(.reversed,bv d.rev)::(.rW,.bytes d.buf)::d.ext
noncomputable def ob(d:PC)(aq ref acc:Nat):O:= .inst .ao (d.at aq ref acc)
section
variable(d:PC)(aq ref acc:Nat)
theorem Ni:(d.at aq ref acc).length=d.ext.length+12:=rfl
noncomputable def cE(e:List (Nm×V)):Prop:=e=[]∨(∃a,e=[(.bX,.int a)])∨ ∃a b,e=[(.bX,.int a),(.cI,.int b)]
end
structure At(h:H)(p:Nat)(d:PC)(S:Nat→Prop)(aq ref acc:Nat):Prop where
 ob:h.o p=some (ob d aq ref acc)
 cu:h.o aq=some (.list (d.cl.map .int))
 re:h.o ref=some (.list (d.rl.map .int))
 ac:h.o acc=some (.bg d.af (.ref p))
 sp:S p
 sc:S aq
 sr:S ref
 sa:S acc
 ne:aq≠ref
 lt: ∀i,S i→i<h.n
 ex:cE d.ext
 wd:1≤d.w∧d.w≤1000
noncomputable def Fr(h h':H)(S:Nat→Prop):Prop:=h.n≤h'.n∧ ∀i,i<h.n→ ¬S i→h'.o i=h.o i
noncomputable def grow(S:Nat→Prop)(h h':H):Nat→Prop:=fun i=>S i∨(h.n≤i∧i<h'.n)
theorem Fr.refl (h:H) (S:Nat→Prop):Fr h h S:=⟨Nat.le_refl _,fun _ _ _=>rfl⟩
theorem pi(S:Nat→Prop)(h:H):grow S h h=S:=by
 funext i
 simp only[grow,eq_iff_iff]
 exact⟨fun x=>x.elim id fun x=>by trace"!caABlBpAlnx x",.inl⟩
theorem CB(S:Nat→Prop){h h1 h2:H}(a:h.n≤h1.n)(b:h1.n≤h2.n):grow (grow S h h1) h1 h2=grow S h h2:=by
 funext i
 simp only[grow,eq_iff_iff]
 constructor
 ·rintro((x|x)|x)
  ·exact .inl x
  ·exact .inr (by trace"eaBAlDClCpBlnDClCpAlnii b x")
  ·exact .inr (by trace"eaDClCBlBpAlnDBlBpAlnii a x")
 ·rintro(x|x)
  ·exact .inl (.inl x)
  ·by_cases q:i<h1.n
   ·exact .inl (.inr (by trace"eaDClCpAlnCpBlDClCpBlnii x q"))
   ·exact .inr (by trace"eaDBlBpAlnBpClxCBlBpAlnii x q")
theorem Fr.trans {h h1 h2:H} {S:Nat→Prop} (a:Fr h h1 S) (b:Fr h1 h2 (grow S h h1)):Fr h h2 S:=
 ⟨Nat.le_trans a.1 b.1,fun i hi hs=>(b.2 i (Nat.lt_of_lt_of_le hi a.1) (fun q=>q.elim hs fun q=>by trace"daCpBlBClCpAlnxi hi q")).trans (a.2 i hi hs)⟩
noncomputable def cZ(h:H)(p:Nat)(d:PC)(S:Nat→Prop):Prop:= ∃aq ref acc,At h p d S aq ref acc
noncomputable def bO(h:H)(p:Nat)(S:Nat→Prop)(d':PC)(h':H):Prop:=cZ h' p d' (grow S h h')∧Fr h h' S
theorem bO.then {h h1 h2:H} {p:Nat} {S:Nat→Prop} {d1 d2:PC} (a:bO h p S d1 h1) (b:bO h1 p (grow S h h1) d2 h2):bO h p S d2 h2:=
 ⟨by have:=b.1;rwa[CB S a.2.1 b.2.1]at this,a.2.trans b.2⟩
theorem bO.here {h:H} {p:Nat} {S:Nat→Prop} {d:PC} (a:cZ h p d S):bO h p S d h:=⟨by rw[pi];exact a,.refl _ _⟩
theorem At.upd {h:H} {p:Nat} {d d':PC} {S:Nat→Prop} {aq ref acc:Nat} (a:At h p d S aq ref acc) (c:d'.cl=d.cl) (r:d'.rl=d.rl) (f:d'.af=d.af) (e:cE d'.ext) (w:1≤d'.w∧d'.w≤1000):
 At (h.set p (CC.ob d' aq ref acc)) p d' S aq ref acc:=by
 have n1:aq≠p:=fun q=>by have:=a.cu;rw[q,a.ob]at this;cases this
 have n2:ref≠p:=fun q=>by have:=a.re;rw[q,a.ob]at this;cases this
 have n3:acc≠p:=fun q=>by have:=a.ac;rw[q,a.ob]at this;cases this
 exact⟨bU _ _ _,by rw[dN n1,c];exact a.cu,by rw[dN n2,r];exact a.re,by rw[dN n3,f];exact a.ac,a.sp,a.sc,a.sr,a.sa,a.ne,a.lt,e,w⟩
theorem Fr.upd {h:H} {p:Nat} {S:Nat→Prop} {x:O} (sp:S p):Fr h (h.set p x) S:=⟨Nat.le_refl _,fun i _ hs=>dN (fun q=>hs (q▸sp))⟩
theorem At.done {h:H} {p:Nat} {d d':PC} {S:Nat→Prop} {aq ref acc:Nat} (a:At h p d S aq ref acc) (c:d'.cl=d.cl) (r:d'.rl=d.rl) (f:d'.af=d.af) (e:cE d'.ext) (w:1≤d'.w∧d'.w≤1000):
 bO h p S d' (h.set p (CC.ob d' aq ref acc)):=⟨⟨aq,ref,acc,by have:=a.upd c r f e w;rwa[show grow S h (h.set p (CC.ob d' aq ref acc))=S from pi S h]⟩,.upd a.sp⟩
theorem At.after {h h2:H} {p:Nat} {d:PC} {S:Nat→Prop} {aq ref acc:Nat} (a:At h p d S aq ref acc) (k: ∀i,i<h.n→h2.o i=h.o i) (n:h.n≤h2.n):At h2 p d (grow S h h2) aq ref acc:=
 ⟨by rw[k _ (a.lt _ a.sp)];exact a.ob,by rw[k _ (a.lt _ a.sc)];exact a.cu,by rw[k _ (a.lt _ a.sr)];exact a.re,by rw[k _ (a.lt _ a.sa)];exact a.ac,.inl a.sp,.inl a.sc,.inl a.sr,.inl a.sa,a.ne,
  fun i hi=>hi.elim (fun q=>Nat.lt_of_lt_of_le (a.lt i q) n) (·.2),a.ex,a.wd⟩
theorem bO.after {h h2:H} {p:Nat} {d d':PC} {S:Nat→Prop} {aq ref acc:Nat} (a:At h p d S aq ref acc) (k: ∀i,i<h.n→h2.o i=h.o i) (n:h.n≤h2.n) (c:d'.cl=d.cl) (r:d'.rl=d.rl) (f:d'.af=d.af) (e:cE d'.ext) (w:1≤d'.w∧d'.w≤1000):
 bO h p S d' (h2.set p (CC.ob d' aq ref acc)):=by
 refine⟨⟨aq,ref,acc,?_⟩,n,fun i hi hs=> ?_⟩
 ·have:=(a.after k n).upd (d':=d') c r f e w
  exact this
 ·have:i≠p:=fun q=>hs (q▸a.sp)
  rw[dN this];exact k i hi
noncomputable def PC.pj (d:PC) (xs:List Int):PC:={d with cl:=xs}
theorem At.line {h:H} {p:Nat} {d:PC} {S:Nat→Prop} {aq ref acc:Nat} (a:At h p d S aq ref acc) (xs:List Int):At (h.set aq (.list (xs.map .int))) p (d.pj xs) S aq ref acc:=by
 have n1:p≠aq:=fun q=>by have:=a.cu;rw[←q,a.ob]at this;cases this
 have n3:acc≠aq:=fun q=>by have:=a.ac;rw[q,a.cu]at this;cases this
 exact⟨by rw[dN n1];exact a.ob,bU _ _ _,by rw[dN a.ne.symm];exact a.re,by rw[dN n3];exact a.ac,a.sp,a.sc,a.sr,a.sa,a.ne,a.lt,a.ex,a.wd⟩
theorem Nj{e:List (Nm×V)}(x:cE e):e.length≤2:=by
 rcases x with rfl|⟨a,rfl⟩|⟨a,b,rfl⟩<;>simp
section
variable{α:Type}{cl:CL→List V}{fuel k:Nat}{C:Cx}{l l1:L}{h h1 h2:H}{p i aq ref acc:Nat}{d:PC}{S:Nat→Prop}{n m:Nm}{v w:V}{f:Fn}{I:eQ}{xs vs:List V}{ks bs:List (Nm×V)}{r:Option (CR×H)}{at_:List (Nm×V)}{t:Bool}{a b:Int}
theorem bH{w:Option (Fl×L×H)}(e1:fJ f=some I)(e2:lZ I xs ks=some bs)(e3:ay (Cn cl fuel k) I.body (fun n=>own n bs) h=w)(e4:og w=r):(Cn cl fuel (k+1)).call f xs ks h=r:=by
 show(match fJ f with|some I=>u8 (Cn cl fuel k) I xs ks h|none=>none)=r
 rw[e1]
 show(match lZ I xs ks with|some bs=>og (ay (Cn cl fuel k) I.body (fun n=>own n bs) h)|none=>none)=r
 rw[e2,←e4,←e3]
theorem inst_of(e:h.o p=some (.inst .ao at_)):inst? h (.ref p)=some (p,at_):=by
 show(match h.o p with|some (.inst .ao at_)=>some (p,at_)|_=>none)=_
 rw[e]
theorem nP{q:Nat}{x:Option (Nat×List (Nm×V))}{f:Nat→List (Nm×V)→Option α}{r:Option α}:x=some (q,at_)→f q at_=r→(match x with|some (a,h)=>f a h|none=>none)=r:=fun e g=>by rw[e];exact g
theorem Nk{e:List (Nm×V)}(x: ∀y∈e,bJ .ao y.1=none)(k:bJ .ao n=some w):own n e=none:=by
 induction e with
 |nil=>rfl
 |cons y e ih=>
  have q:y.1≠n:=fun q=>by have:=x y (.head _);rw[q,k]at this;cases this
  exact(if_neg q).trans (ih fun z hz=>x z (.tail _ hz))
theorem Nl{e:List (Nm×V)}(x:cE e): ∀y∈e,bJ .ao y.1=none:=by
 rcases x with rfl|⟨a,rfl⟩|⟨a,b,rfl⟩
 ·exact fun y h=>nomatch h
 ·exact fun y h=>(List.mem_singleton.mp h)▸rfl
 ·intro y h
  rcases List.mem_cons.mp h with rfl|h
  ·rfl
  ·exact(List.mem_singleton.mp h)▸rfl
theorem Nn(x:cE d.ext): ∀y∈d.at aq ref acc,bJ .ao y.1=none:=
 List.forall_mem_cons.mpr ⟨rfl,List.forall_mem_cons.mpr ⟨rfl,List.forall_mem_cons.mpr ⟨rfl,List.forall_mem_cons.mpr ⟨rfl,List.forall_mem_cons.mpr ⟨rfl,List.forall_mem_cons.mpr ⟨rfl,List.forall_mem_cons.mpr ⟨rfl,List.forall_mem_cons.mpr ⟨rfl,
  List.forall_mem_cons.mpr ⟨rfl,List.forall_mem_cons.mpr ⟨rfl,List.forall_mem_cons.mpr ⟨rfl,List.forall_mem_cons.mpr ⟨rfl,Nl x⟩⟩⟩⟩⟩⟩⟩⟩⟩⟩⟩⟩
theorem At.no (A:At h p d S aq ref acc) (k:bJ .ao n=some w):own n (d.at aq ref acc)=none:=Nk (Nn A.ex) k
theorem At.one {x:O} {q:Nat} (A:At (h.set q x) p d S aq ref acc) (s:S q):bO h p S d (h.set q x):=⟨⟨_,_,_,(pi S h).symm▸A⟩,⟨Nat.le_refl _,fun _ _ hs=>dN (fun e=>hs (e▸s))⟩⟩
theorem At.two {d1:PC} {x:O} {q:Nat} (D:bO h p S d1 (h.set q x)) {h2:H} (E:bO (h.set q x) p S d h2):bO h p S d h2:=D.then ((show grow S h (h.set q x)=S from pi S h).symm▸E)
theorem At.len (A:At h p d S aq ref acc):(d.at aq ref acc).length≤400:=by have:=Nj A.ex;rw[Ni];trace"baA2klA12ka400kli this"
noncomputable def PC.pu (d:PC) (f:Fn):PC:={d with af:=f}
noncomputable def PC.pv (d:PC) (e:List (Nm×V)):PC:={d with ext:=e}
noncomputable def PC.wZ (d:PC) (c:Int):PC:={d with col:=c}
noncomputable def PC.w8 (d:PC) (c:Int):PC:={d with pos:=c}
noncomputable def PC.CE (d:PC) (c:T):PC:={d with st:=c}
noncomputable def PC.iB (d:PC) (c:Int):PC:={d with cp:=c}
noncomputable def PC.xY (d:PC) (c:Int):PC:={d with y:=c}
noncomputable def PC.rj (d:PC) (c:List UInt8):PC:={d with buf:=c}
theorem At.get (A:At h p d S aq ref acc) (o:own n (d.at aq ref acc)=some v) (c:bJ .ao n=none):eE h (.ref p) n=some (v,h):=nP (inst_of A.ob) (by rw[o];exact if_pos c)
theorem aE(A:At h p d S aq ref acc)(e:l m=some (.ref p))(o:own n (d.at aq ref acc)=some v)(c:bJ .ao n=none):ev C l (.attr (.loc m) n) h=some (v,h):=tL (aa e) (A.get o c)
theorem At.cls {r:Option (V×H)} (A:At h p d S aq ref acc) (c:bJ .ao n=some w) (g:lX h p (some w)=r):eE h (.ref p) n=r:=nP (inst_of A.ob) (by rw[A.no c];show lX h p (bJ _ n)=r;rw[c];exact g)
theorem aK(A:At h p d S aq ref acc)(e:l m=some (.ref p))(c:bJ .ao n=some w){r:Option (V×H)}(g:lX h p (some w)=r):ev C l (.attr (.loc m) n) h=r:=tL (aa e) (A.cls c g)
theorem At.fn (A:At h p d S aq ref acc) (c:bJ .ao n=some (.fn f)):gf h (.ref p) n=some (.fn f,[.ref p]):=nP (inst_of A.ob) (by rw[A.no c];show pW [.ref p] (bJ _ n)=_;rw[c];rfl)
theorem At.put (A:At h p d S aq ref acc) (c:bJ .ao n=none):dk h (.ref p) n v=some (h.set p (.inst .ao (put n v (d.at aq ref acc)))):=nP (inst_of A.ob) (if_pos ⟨c,A.len⟩)
theorem aX{x:X}(A:At h1 p d S aq ref acc)(e:ev C l x h=some (v,h1))(s:l m=some (.ref p))(c:bJ .ao n=none):ex C (.bS (.loc m) n x) l h=some (.next,l,h1.set p (.inst .ao (put n v (d.at aq ref acc)))):=B8 e (aa s) (A.put c)
theorem aM{ys:XS}(A:At h p d S aq ref acc)(s:l m=some (.ref p))(c:bJ .ao n=some (.fn f))(g:cz C l ys h=some (vs,h1))(j:C.call f (.ref p::vs) [] h1=some (.ret v,h2)):ex C (.expr (.bg (.loc m) n ys [])) l h=some (.next,l,h2):=
 nk (o0 (aa s) (A.fn c) g j) rfl
theorem CF{ys:XS}{c:Cl}(A:At h p d S aq ref acc)(s:l m=some (.ref p))(c':bJ .ao n=some (.fn f))(g:cz C l ys h=some (vs,h1))(j:C.call f (.ref p::vs) [] h1=some (.exc c,h2)):ex C (.expr (.bg (.loc m) n ys [])) l h=some (.exc c,l,h2):=
 nk (o0 (aa s) (A.fn c') g j) rfl
theorem At.push (A:At h p d S aq ref acc) (x:O):At (h.push x) p d (grow S h (h.push x)) aq ref acc:=A.after (fun _ q=>bM (Nat.ne_of_lt q)) (Nat.le_succ _)
theorem iE(o:h.o p=some (.inst .ao at_))(s:l m=some (.ref p))(g:own n at_=some v)(c:bJ .ao n=none):ev C l (.attr (.loc m) n) h=some (v,h):=
 tL (aa s) (nP (inst_of o) (by rw[g];exact if_pos c))
theorem iK{r:Option (V×H)}(o:h.o p=some (.inst .ao at_))(s:l m=some (.ref p))(g:own n at_=none)(c:bJ .ao n=some w)(j:lX h p (some w)=r):ev C l (.attr (.loc m) n) h=r:=
 tL (aa s) (nP (inst_of o) (by rw[g];show lX h p (bJ _ n)=r;rw[c];exact j))
theorem iX{x:X}(e:ev C l x h=some (v,h1))(s:l m=some (.ref p))(o:h1.o p=some (.inst .ao at_))(c:bJ .ao n=none)(k:at_.length≤400):ex C (.bS (.loc m) n x) l h=some (.next,l,h1.set p (.inst .ao (put n v at_))):=
 B8 e (aa s) (nP (inst_of o) (if_pos ⟨c,k⟩))
theorem iM{ys:XS}(o:h.o p=some (.inst .ao at_))(s:l m=some (.ref p))(g:own n at_=none)(c:bJ .ao n=some (.fn f))(e:cz C l ys h=some (vs,h1))(j:C.call f (.ref p::vs) [] h1=some (.ret v,h2)):
 ex C (.expr (.bg (.loc m) n ys [])) l h=some (.next,l,h2):=
 have q:gf h (.ref p) n=some (.fn f,[.ref p]):=nP (inst_of o) (by rw[g];show pW [.ref p] (bJ _ n)=_;rw[c];rfl)
 nk (o0 (aa s) q e j) rfl
theorem No{c:V}{j:Nat}(o:h.o j=some (.list [c]))(q:0≤a∧a≤100000):dm C h .mul (.ref j) (.int a)=cy h (List.replicate a.toNat c):=by
 show(match h.o j with|some (.list [x])=>if 0≤a∧a≤100000 then cy h (List.replicate a.toNat x)else none|_=>none)=_
 rw[o]
 exact if_pos q
theorem tZ{c:Int}{w:Nat}{y:X}(e:ev C l y (h.push (.list [.int c]))=some (.int w,h.push (.list [.int c])))(k:w≤100000):ev C l (.bin .mul (.list (.cons (.int c) .nil)) y) h=some (.ref (h.n+1),(h.push (.list [.int c])).push (.list (List.replicate w (.int c)))):=
 aS (dF (aT am bh) (Nat.le_of_ble_eq_true rfl)) e ((No (bB rfl) ⟨Int.natCast_nonneg _,Int.ofNat_le.mpr k⟩).trans (if_pos (by rw[List.length_replicate];exact Nat.le_trans k (Nat.le_of_ble_eq_true rfl))))
theorem uP{x:Option O}{y:O}(o:h.o i=x)(q:i<h.n):(h.push y).o i=x:=(bM (Nat.ne_of_lt q)).trans o
theorem uS{x:Option O}{y:O}(o:h.o i=x)(q:i≠p):(h.set p y).o i=x:=(dN q).trans o
theorem At.own (A:At h p d S aq ref acc) (o:own n (d.at aq ref acc)=some v) (c:bJ .ao n=none):gf h (.ref p) n=some (v,[]):=nP (inst_of A.ob) (by rw[o];exact if_pos c)
theorem CG{z:V}{j:Nat}(o:h.o j=some (.bg f z))(g:C.call f (z::xs) ks h=r):C.go (.ref j) xs ks h=r:=by
 show uX C (h.o j) xs ks h=r
 rw[o];exact g
theorem w9{xs:List V}{ks:List (Nm×V)}(e:C.call .fD (.ref h.n::xs) ks (h.push (.inst .ao []))=some (.ret .none,h1)):C.go (.cls .ao) xs ks h=some (.ret (.ref h.n),h1):=(congrArg (uY h.n) e).trans rfl
theorem Np{x y:X}{c:Cl}(e:dX C l y h=some (.exc c,h1)):ex C (.bS x n y) l h=some (.exc c,l,h1):=by
 show(match dX C l y h with|some (.ret v,h)=>(match ev C l x h with|some (a,h)=>(match dk h a n v with|some h=>some (Fl.next,l,h)|none=>none)|none=>none)|some (.exc c,h)=>some (.exc c,l,h)|none=>none)=_
 rw[e]
theorem d6{C:Cx}{h:H}{i:Nat}{xs:List V}(o:h.o i=some (.list xs)):C.items h (.ref i)=some xs:=by
 show(match h.o i with|some (.list xs)=>some xs|_=>none)=_
 rw[o]
theorem xa{h:H}{aq a:Nat}{xs:List Int}{c:Int}(hc:h.o aq=some (.list (xs.map .int)))(la:a<xs.length):kJ h (.ref aq) (.int (a:Int)) (.int c)=some (h.set aq (.list ((xs.set a c).map .int))):=by
 show(match h.o aq with|some (.list xs)=>sh h aq xs (a:Int) (.int c)|_=>none)=_
 rw[hc]
 exact(if_pos ⟨Int.natCast_nonneg _,by rw[List.length_map];exact la⟩).trans (by rw[List.map_set];rfl)
theorem rm{ys:List V}{j:Int}(o:h.o i=some (.list ys))(q:0≤j)(g:ys[j.toNat]? =some v):idx C h (.ref i) (.int j)=some v:=by
 have e:idx C h (.ref i) (.int j)=(match(match h.o i with|some (.list xs)=>some xs|_=>none)with|some xs=>if 0≤j then xs[j.toNat]? else none|none=>none):=rfl
 rw[e,o]
 exact(if_pos q).trans g
theorem rn{q:Q}{B:SS}{w:Option (Fl×L×H)}(e:c7 (fun l h=>te (Cn cl fuel k) l q h) (fun l h=>ay (Cn cl fuel k) B l h) fuel l h=w):ex (Cn cl fuel k) (.gK q B) l h=w:=by induction k<;>exact e
theorem rt{ys:List Int}{j:Nat}(o:h.o i=some (.list (ys.map .int)))(q:j<ys.length):idx C h (.ref i) (.int (j:Int))=some (.int (ys.getD j 0)):=by
 have e:idx C h (.ref i) (.int (j:Int))=(match(match h.o i with|some (.list xs)=>some xs|_=>none)with|some xs=>if(0:Int)≤j then xs[j]? else none|none=>none):=rfl
 rw[e,o]
 exact(if_pos (Int.natCast_nonneg _)).trans (by rw[List.getElem?_map,List.getD,List.getElem?_eq_getElem q];rfl)
theorem kb(g:a<b):cK C h .lt (.int a) (.int b)=some true:=congrArg some (decide_eq_true g)
theorem iC(g: ¬a<b):cK C h .lt (.int a) (.int b)=some false:=congrArg some (decide_eq_false g)
theorem lq(g:a≤b):cK C h .le (.int a) (.int b)=some true:=congrArg some (decide_eq_true g)
theorem py(g: ¬a≤b):cK C h .le (.int a) (.int b)=some false:=congrArg some (decide_eq_false g)
theorem nv(g:a=b):cK C h .eq (.int a) (.int b)=some true:=congrArg some (beq_iff_eq.mpr g)
theorem lu(g:a≠b):cK C h .eq (.int a) (.int b)=some false:=congrArg some (beq_eq_false_iff_ne.mpr g)
theorem CH(g:a≠0):jE C h (.int a)=some true:=congrArg some (bne_iff_ne.mpr g)
theorem CI(g:a=0):jE C h (.int a)=some false:=congrArg (some∘not) (beq_iff_eq.mpr g)
end
section
variable{cl:CL→List V}{fuel n:Nat}{h:H}{p:Nat}{d:PC}{S:Nat→Prop}{aq ref acc:Nat}
noncomputable def PC.CJ (d:PC):PC:={d with rl:=d.cl,cl:=List.replicate d.w 1,cp:= -1,col:=1}
theorem Nq(a:At h p d S aq ref acc): ∃h',(Cn cl fuel (n+1)).call .iP [.ref p] [] h=some (.ret .none,h')∧bO h p S d.CJ h':=by
 have lp:=a.lt _ a.sp
 have lc:=a.lt _ a.sc
 have la:=a.lt _ a.sa
 have w1:d.w≤100000:=Nat.le_trans a.wd.2 (Nat.le_of_ble_eq_true rfl)
 have n1:aq≠p:=fun q=>by have:=a.cu;rw[q,a.ob]at this;cases this
 have n3:acc≠p:=fun q=>by have:=a.ac;rw[q,a.ob]at this;cases this
 have Nr:p<h.n+1:=Nat.lt_succ_of_lt lp
 have t:=bH (cl:=cl) (fuel:=fuel) (k:=n) (f:= .iP) (xs:=[.ref p]) (ks:=[]) (h:=h) rfl rfl
  (aw (iX (iE a.ob rfl rfl rfl) rfl a.ob rfl a.len) (aw (iX (tZ (iE (uP (bU _ _ _) lp) rfl rfl rfl) w1) rfl (uP (uP (bU _ _ _) lp) Nr) rfl a.len) (aw (iX (gR am) rfl (bU _ _ _) rfl a.len) (aF (iX am rfl (bU _ _ _) rfl a.len))))) rfl
 refine⟨_,t,⟨h.n+1,aq,acc,bU _ _ _,uS (uS (uS ((bB rfl).trans (by show _=some (O.list ((List.replicate d.w (1:Int)).map .int));rw[List.map_replicate])) (by trace"caBpAlApBexi lp")) (by trace"caBpAlApBexi lp")) (by trace"caBpAlApBexi lp"),uS (uS (uS (uP (uP (uS a.cu n1) lc) (Nat.lt_succ_of_lt lc)) n1) n1) n1,uS (uS (uS (uP (uP (uS a.ac n3) la) (Nat.lt_succ_of_lt la)) n3) n3) n3,.inl a.sp,.inr ⟨Nat.le_succ _,Nat.lt_succ_self _⟩,.inl a.sc,.inl a.sa,by trace"caBpAlApBexi lc",fun i hi=>hi.elim (fun q=>Nat.lt_of_lt_of_le (a.lt i q) (Nat.le_add_right _ 2)) (·.2),a.ex,a.wd⟩,
  Nat.le_add_right h.n 2,fun i hi hs=> ?_⟩
 have ne:i≠p:=fun q=>hs (q▸a.sp)
 exact uS (uS (uS (uP (uP (uS rfl ne) hi) (Nat.lt_succ_of_lt hi)) ne) ne) ne
end
theorem Nt(a b:Nat):Int.fdiv (a:Int) (b:Int)=((a/b:Nat):Int):=by
 rw[Int.fdiv_eq_ediv_of_nonneg _ (Int.natCast_nonneg b)];rfl
theorem CK(a b:Nat):Int.fmod (a:Int) (b:Int)=((a%b:Nat):Int):=by
 rw[Int.fmod_eq_emod_of_nonneg _ (Int.natCast_nonneg b)];rfl
noncomputable def wt(r:Nat):Int:=([128,64,32,16,8,4,2,1]:List Int).getD r 0
theorem Nu: ∀r,r<8→([128,64,32,16,8,4,2,1]:List Int)[r]? =some (wt r):=by decide
noncomputable def gz(arr:List Int)(i:Nat)(b:Int):List Int:=if b=0 then arr else arr.set (i/8) (arr.getD (i/8) 0+wt (i%8))
noncomputable def eM:List Int→Nat→List Int→List Int
 |[],_,arr=>arr
 |b::bs,k,arr=>eM bs (k+1) (gz arr k b)
theorem CM(arr:List Int)(i:Nat)(b:Int):(gz arr i b).length=arr.length:=by
 unfold gz;split<;>simp
noncomputable def ke(rev:Option Bool)(bits:List Int):List Int:=if rev.getD false then bits.map (1-·)else bits
noncomputable def ny(rev:Option Bool)(bits:List Int):List Int:=eM (ke rev bits) 0 (List.replicate ((bits.length+7)/8) 0)
noncomputable def CN:SS:=(.cons (.ifs (.tr (.loc .b))
 (.cons (.kD (.loc .arr) (.bin .div (.loc .i) (.int 8)) .add (.kB [128,64,32,16,8,4,2,1] (.bin .mod (.loc .i) (.int 8))))
 .nil)
 .nil)
 .nil)
theorem lz{h:H}{i:Nat}{x:O}(e:h.o i=some x):h.set i x=h:=by
 refine congrArg (fun o=>H.mk o h.n) (funext fun j=> ?_)
 by_cases k:j=i
 ·exact(if_pos k).trans (k▸e.symm)
 ·exact if_neg k
theorem fQ{C:Cx}{h:H}{i:Nat}{xs:List V}(e:h.o i=some (.list xs)):bV C h (some (.ref i)) xs=true:=by
 simp[bV,Cx.items,e]
theorem CP(C:Cx)(ar bl:Nat)(all:List Int)(ne:bl≠ar): ∀(bits:List Int)(k:Nat)(arr:List Int)(l:L)(h:H),l .arr=some (.ref ar)→h.o ar=some (.list (arr.map .int))→h.o bl=some (.list (all.map .int))→k+bits.length≤8*arr.length→
 ∃l',bD (fun h=>bV C h (some (.ref bl)) (all.map .int)) (fun(p:V×Nat) l h=>ay C CN ((l.set .i (.int (p.2:Int))).set .b p.1) h) ((bits.map V.int).zipIdx k) l h=some (.next,l',h.set ar (.list ((eM bits k arr).map .int)))∧l' .arr=l .arr∧l' .self=l .self
 |[],k,arr,l,h,h1,h2,h3,h4=>⟨l,(tU (fQ h3)).trans (by show _=some (Fl.next,l,h.set ar (.list (arr.map .int)));rw[lz h2]),rfl,rfl⟩
 |b::bits,k,arr,l,h,h1,h2,h3,h4=>by
  rw[List.length_cons]at h4
  have lk:k/8<arr.length:=by trace"faCEpaB8mlDA8maCeDp8klnApBlii h4 .d8"
  have hb:ay C CN ((l.set .i (.int (k:Int))).set .b (.int b)) h=some (.next,(l.set .i (.int (k:Int))).set .b (.int b),h.set ar (.list ((gz arr k b).map .int))):=by
   unfold gz
   by_cases q:b=0
   ·rw[if_pos q,lz h2]
    exact aF (bi (bG (aa (n:= .b) rfl) (CI q)) dM)
   ·rw[if_neg q]
    have t1:k%8<8:=Nat.mod_lt _ (by decide)
    exact aF (bE (bG (aa (n:= .b) rfl) (CH q)) (aF (MU (aa (n:= .arr) h1) (tO (k:=8) (aa (n:= .i) rfl) (by decide)) (rt h2 lk) (MJ (tP (k:=8) (aa (n:= .i) rfl) (by decide)) ⟨Int.natCast_nonneg _,by decide⟩ (Nu _ t1)) rfl (xa h2 lk))))
  refine ck (CP C ar bl all ne bits (k+1) (gz arr k b) ((l.set .i (.int (k:Int))).set .b (.int b)) (h.set ar (.list ((gz arr k b).map .int))) h1 (bU _ _ _) ((dN ne).trans h3) (by rw[CM];trace"daCBpaA8mlCpBaA8mli h4")) fun l' f1 f2 f3=> ?_
  rw[pe]at f1
  exact⟨l',j7 (fQ h3) hb f1,f2,f3⟩
section
variable{cl:CL→List V}{fuel n:Nat}{h:H}{p:Nat}{d:PC}{S:Nat→Prop}{aq ref acc:Nat}
theorem CQ(C:Cx)(src:Nat)(all:List Int): ∀(bits:List Int)(acc:List V)(h:H),h.o src=some (.list (all.map .int))→
 cq C (fun v x=>dm C x .sub (.int 1) v) (fun _ h=>some (true,h)) (some (.ref src)) (all.map .int) (bits.map .int) acc h=some (acc.reverse++(bits.map (1-·)).map .int,h)
 |[],acc,h,e=>(if_pos (fQ e)).trans (by rw[List.map_nil,List.map_nil,List.append_nil])
 |b::bits,acc,h,e=>by
  refine(if_pos (fQ e)).trans ((CQ C src all bits (.int (1-b)::acc) h e).trans ?_)
  rw[List.reverse_cons,List.append_assoc];rfl
theorem Nv{bs:List UInt8}(a:At h p d S aq ref acc)(hl:d.cl.length=d.w)(ho:eF ((ny d.rev d.cl).map .int)=some bs)(hb:bs.length≤100)(hB:d.buf.length≤1000): ∃h',(Cn cl fuel (n+1)).call .lQ [.ref p,.int d.y,.ref aq] [] h=some (.ret .none,h')∧bO h p S (d.rj (d.buf++bs)) h':=by
 have e3:=a.wd
 have lp:=a.lt _ a.sp
 have lc:=a.lt _ a.sc
 have A1:=(a.push (.list [.int 0])).push (.list (List.replicate ((d.cl.length+7)/8) (.int 0)))
 have jO:(ke d.rev d.cl).length=d.cl.length:=by unfold ke;split;exact List.length_map _;rfl
 have ln:=iA (C:=Cn cl fuel n) (l:=fun m=>own m [(.self,.ref p),(.y,.int d.y),(.bits,.ref aq)]) (x:= .loc .bits) (aa rfl) (d6 (a.push (.list [.int 0])).cu)
 rw[List.length_map]at ln
 have p7:ev (Cn cl fuel n) (fun m=>own m [(.self,.ref p),(.y,.int d.y),(.bits,.ref aq)]) (.bin .add (.len (.loc .bits)) (.int 7)) (h.push (.list [.int 0]))=some (.int ((d.cl.length+7:Nat):Int),h.push (.list [.int 0])):=aS ln am rfl
 have s1:=aV (n:= .arr) (tZ (w:=(d.cl.length+7)/8) (tO (k:=8) p7 (by decide)) (by trace"faDCe1kClC1000klnADeEB8maD7kaeEp8klnB100000kliiii hl e3 jO .d8"))
 have s2: ∀l1:L,l1 .self=some (.ref p)→l1 .bits=some (.ref aq)→l1 .arr=some (.ref (h.n+1))→ ∃l2 h2 b2,ex (Cn cl fuel n) (.ifs (.tr (.attr (.loc .self) .reversed)) (.cons (.assign .bits (.comp (.bin .sub (.int 1) (.loc .b)) .b (.val (.loc .bits)))) .nil) .nil) l1 ((h.push (.list [.int 0])).push (.list (List.replicate ((d.cl.length+7)/8) (.int 0))))=some (.next,l2,h2)∧
  l2 .self=some (.ref p)∧l2 .bits=some (.ref b2)∧l2 .arr=some (.ref (h.n+1))∧b2≠h.n+1∧h2.o b2=some (.list ((ke d.rev d.cl).map .int))∧h.n+2≤h2.n∧ ∀i,i<h.n+2→h2.o i=((h.push (.list [.int 0])).push (.list (List.replicate ((d.cl.length+7)/8) (.int 0)))).o i:=by
  intro l1 la lb CS
  have tr:=fun b(e:d.rev.getD false=b)=>bG (C:=Cn cl fuel n) (aE A1 la (n:= .reversed) rfl rfl) ((Cw _ _ _).trans (congrArg some e))
  unfold ke
  cases hr:d.rev.getD false with
  |false=>exact⟨l1,_,aq,bi (tr _ hr) dM,la,lb,CS,by trace"caBpAlBApexi lc",A1.cu,Nat.le_refl _,fun _ _=>rfl⟩
  |true=>
   exact⟨_,_,h.n+2,bE (tr _ hr) (aF (aV (BY (pd (aa lb) (d6 A1.cu)) ((CQ _ aq d.cl d.cl [] _ A1.cu)) (if_pos (by rw[List.reverse_nil,List.nil_append,List.length_map,List.length_map];exact Nat.le_trans (show d.cl.length≤1000 by trace"daBCe1kClC1000klnABeB1000kliii hl e3 jO") (Nat.le_of_ble_eq_true rfl)))))),la,rfl,CS,by trace"baA2kaApex",bB rfl,Nat.le_succ _,fun i hi=>bM (Nat.ne_of_lt hi)⟩
 refine pQ (s2 (L.set (fun m=>own m [(.self,.ref p),(.y,.int d.y),(.bits,.ref aq)]) .arr (.ref (h.n+1))) rfl rfl rfl) fun l2 h2 b2 f2 ma mb mc Nw mh mn mk=> ?_
 have Nx:h2.o (h.n+1)=some (.list (((List.replicate ((d.cl.length+7)/8) 0:List Int)).map .int)):=by rw[mk _ (Nat.lt_succ_self _),List.map_replicate];exact bB rfl
 refine ck (CP (Cn cl fuel n) (h.n+1) b2 (ke d.rev d.cl) Nw (ke d.rev d.cl) 0 (List.replicate ((d.cl.length+7)/8) 0) l2 h2 mc Nx mh (by rw[jO,List.length_replicate];trace"faCBeACeED8maC7kaeEp8kln0kCaD8mliii hl jO .d8")) fun l3 g1 g2 g3=> ?_
 have k2: ∀i,i<h.n→(h2.set (h.n+1) (.list ((ny d.rev d.cl).map .int))).o i=h.o i:=fun i hi=>uS ((mk i (by trace"caApBlApB2kali hi")).trans (uP (uP rfl hi) (Nat.lt_succ_of_lt hi))) (by trace"caBpAlBApexi hi")
 have A3:=a.after k2 (show h.n≤h2.n by trace"caA2kaBlABli mn")
 exact⟨_,bH rfl rfl (aw s1 (aw f2 (aw (M0 (aa mb) (d6 mh) g1) (aF (jk (aa (g3.trans ma)) (A3.get rfl rfl) (wL (aa (g2.trans mc)) (by rw[d6 (bU _ _ _)];exact ho) (Nat.le_trans hb (Nat.le_of_ble_eq_true rfl))) (if_pos (Nat.le_trans (Nat.add_le_add hB hb) (Nat.le_of_ble_eq_true rfl))) (A3.put rfl)))))) rfl,
  bO.after a k2 (show h.n≤h2.n by trace"caA2kaBlABli mn") (d':=(d.rj (d.buf++bs))) rfl rfl rfl a.ex a.wd⟩
noncomputable def PC.flushed (d:PC) (bs:List UInt8):PC:={({d with buf:=d.buf++bs,y:=d.y+1}:PC).CJ with pos:=d.pos}
theorem Ny(a:At h p d S aq ref acc)(hw: ¬(d.w:Int)≤d.cp):(Cn cl fuel (n+1)).call .gF [.ref p] [] h=some (.ret .none,h):=
 bH rfl rfl (aF (bi (aJ (aE a rfl rfl rfl) (aE a rfl rfl rfl) (py hw)) dM)) rfl
theorem Nz{bs:List UInt8}(a:At h p d S aq ref acc)(hw:(d.w:Int)≤d.cp)(hl:d.cl.length=d.w)(ho:eF ((ny d.rev d.cl).map .int)=some bs)(hb:bs.length≤100)(hB:d.buf.length≤1000):
 ∃h',(Cn cl fuel (n+2)).call .gF [.ref p] [] h=some (if d.al.getD false then .exc .dB else .ret .none,h')∧bO h p S (d.flushed bs) h':=by
 (refine ck (Nv (cl:=cl) (fuel:=fuel) (n:=n) a hl ho hb hB) fun h1 f1 wp F1=> ?_;refine cR wp fun c1 r1 a1 A1=> ?_)
 have A2:=A1.upd (d':=((d.rj (d.buf++bs)).xY (d.y+1))) rfl rfl rfl a.ex a.wd
 refine aA (Nq (cl:=cl) (fuel:=fuel) (n:=n) A2) fun h2 f2 D2=> ?_
 have D1:bO h p S ((d.rj (d.buf++bs)).xY (d.y+1)) (h1.set p (ob ((d.rj (d.buf++bs)).xY (d.y+1)) c1 r1 a1)):=⟨⟨c1,r1,a1,A2⟩,F1.trans (.upd A1.sp)⟩
 have D3:=D1.then D2
 refine cR D3.1 fun c4 r4 a4 A4=> ?_
 refine⟨h2,?_,D3⟩
 have tr:=fun b(e:d.al.getD false=b)=>bG (C:=Cn cl fuel (n+1)) (l:=fun m=>own m [(.self,.ref p)]) (aE A4 (m:= .self) rfl (n:= .cM) rfl rfl) ((Cw _ _ _).trans (congrArg some e))
 cases xb:d.al.getD false with
 |false=>exact bH rfl rfl (aF (bE (aJ (aE a rfl rfl rfl) (aE a rfl rfl rfl) (lq hw)) (aw (aM a rfl rfl (aT (aE a rfl rfl rfl) (aT (aE a rfl rfl rfl) bh)) f1) (aw (jk (aa rfl) (A1.get rfl rfl) am rfl (A1.put rfl)) (aw (aM A2 rfl rfl bh f2) (aF (bi (tr _ xb) dM))))))) rfl
 |true=>exact bH rfl rfl (aF (bE (aJ (aE a rfl rfl rfl) (aE a rfl rfl rfl) (lq hw)) (aw (aM a rfl rfl (aT (aE a rfl rfl rfl) (aT (aE a rfl rfl rfl) bh)) f1) (aw (jk (aa rfl) (A1.get rfl rfl) am rfl (A1.put rfl)) (aw (aM A2 rfl rfl bh f2) (aF (bE (tr _ xb) (aF (o9 (aK A4 rfl rfl rfl) rfl))))))))) rfl
end
noncomputable def gi(l:List Int)(i:Nat):Int:=l.getD i 0
noncomputable def dO(rl:List Int)(col:Int)(x:Nat):Bool:=if x=0 then(col==1)&&(gi rl 0 !=col)else(x==rl.length||(gi rl (x-1)==col&&gi rl x !=col))
noncomputable def fR(rl:List Int)(col:Int)(x:Nat):Bool:=if x=0 then(col==0)&&(gi rl 0==col)else(x==rl.length||(gi rl (x-1) !=col&&gi rl x==col))
noncomputable def NA:SS:=(.cons (.ifs (.cmp .eq (.loc .x1) (.int 0))
 (.cons (.ifs (.and (.cons (.cmp .eq (.attr (.loc .self) .bx) (.int 1)) (.cons (.cmp .ne (.sub (.attr (.loc .self) .cJ) (.loc .x1)) (.attr (.loc .self) .bx)) .nil)))
 (.cons .brk
 .nil)
 .nil)
 .nil)
 (.cons (.ifs (.or (.cons (.cmp .eq (.loc .x1) (.len (.attr (.loc .self) .cJ))) (.cons (.and (.cons (.cmp .eq (.sub (.attr (.loc .self) .cJ) (.bin .sub (.loc .x1) (.int 1))) (.attr (.loc .self) .bx)) (.cons (.cmp .ne (.sub (.attr (.loc .self) .cJ) (.loc .x1)) (.attr (.loc .self) .bx)) .nil))) .nil)))
 (.cons .brk
 .nil)
 .nil)
 .nil))
 (.cons (.aug .x1 .add (.int 1))
 .nil))
noncomputable def NB:SS:=(.cons (.ifs (.cmp .eq (.loc .x1) (.int 0))
 (.cons (.ifs (.and (.cons (.cmp .eq (.attr (.loc .self) .bx) (.int 0)) (.cons (.cmp .eq (.sub (.attr (.loc .self) .cJ) (.loc .x1)) (.attr (.loc .self) .bx)) .nil)))
 (.cons .brk
 .nil)
 .nil)
 .nil)
 (.cons (.ifs (.or (.cons (.cmp .eq (.loc .x1) (.len (.attr (.loc .self) .cJ))) (.cons (.and (.cons (.cmp .ne (.sub (.attr (.loc .self) .cJ) (.bin .sub (.loc .x1) (.int 1))) (.attr (.loc .self) .bx)) (.cons (.cmp .eq (.sub (.attr (.loc .self) .cJ) (.loc .x1)) (.attr (.loc .self) .bx)) .nil))) .nil)))
 (.cons .brk
 .nil)
 .nil)
 .nil))
 (.cons (.aug .x1 .add (.int 1))
 .nil))
theorem xc{l:L}{n:Nm}{v:V}(e:l n=some v):l.set n v=l:=by
 funext m
 by_cases q:m=n
 ·exact(if_pos q).trans (q▸e.symm)
 ·exact if_neg q
theorem xd(l:L)(n:Nm)(u v:V):(l.set n u).set n v=l.set n v:=by
 funext m
 by_cases q:m=n
 ·exact(if_pos q).trans (if_pos q).symm
 ·exact(if_neg q).trans ((if_neg q).trans (if_neg q).symm)
section
variable{C:Cx}{h:H}{p:Nat}{d:PC}{aq ref acc:Nat}{l:L}
noncomputable def xf(o1 o2:fZ)(k:Int):SS:=(.cons (.ifs (.cmp .eq (.loc .x1) (.int 0))
 (.cons (.ifs (.and (.cons (.cmp .eq (.attr (.loc .self) .bx) (.int k)) (.cons (.cmp o2 (.sub (.attr (.loc .self) .cJ) (.loc .x1)) (.attr (.loc .self) .bx)) .nil)))
 (.cons .brk .nil) .nil) .nil)
 (.cons (.ifs (.or (.cons (.cmp .eq (.loc .x1) (.len (.attr (.loc .self) .cJ))) (.cons (.and (.cons (.cmp o1 (.sub (.attr (.loc .self) .cJ) (.bin .sub (.loc .x1) (.int 1))) (.attr (.loc .self) .bx)) (.cons (.cmp o2 (.sub (.attr (.loc .self) .cJ) (.loc .x1)) (.attr (.loc .self) .bx)) .nil))) .nil)))
 (.cons .brk .nil) .nil) .nil))
 (.cons (.aug .x1 .add (.int 1)) .nil))
noncomputable def pz(f1 f2:Int→Int→Bool)(k:Int)(rl:List Int)(col:Int)(x:Nat):Bool:=if x=0 then(col==k)&&f2 (gi rl 0) col else(x==rl.length||(f1 (gi rl (x-1)) col&&f2 (gi rl x) col))
section
variable{o1 o2:fZ}{f1 f2:Int→Int→Bool}{k:Int}(H1: ∀a b,cK C h o1 (.int a) (.int b)=some (f1 a b))(H2: ∀a b,cK C h o2 (.int a) (.int b)=some (f2 a b))
 (hp:h.o p=some (.inst .ao (d.at aq ref acc))) (hr:h.o ref=some (.list (d.rl.map .int))) (hw:1≤d.rl.length∧d.rl.length≤1000)
include H1 H2 hp hr hw
theorem NC(x:Nat)(hs:l .self=some (.ref p))(hx:l .x1=some (.int (x:Int)))(hb:x≤d.rl.length):
 ay C (xf o1 o2 k) l h=some (bif pz f1 f2 k d.rl d.col x then(.brk,l,h)else(.next,l.set .x1 (.int ((x+1:Nat):Int)),h)):=by
 have col:=iE (C:=C) (n:= .bx) hp hs rfl rfl
 have t0:=iE (C:=C) (n:= .cJ) hp hs rfl rfl
 have part: ∃q A B,xf o1 o2 k= .cons (.ifs q A B) (.cons (.aug .x1 .add (.int 1)) .nil)∧ex C (.ifs q A B) l h=some (bif pz f1 f2 k d.rl d.col x then .brk else .next,l,h):=by
  refine⟨_,_,_,rfl,?_⟩
  by_cases q0:x=0
  ·subst q0
   exact bE (aJ (aa hx) am (nv rfl)) (aF (wP (o7 (aJ col am rfl) (aJ (dz t0 (aa hx) (rt hr (by trace"ba1kAlA1000kln0kpAli hw"))) col (H2 _ _))) rfl rfl))
  ·unfold pz
   rw[if_neg q0]
   refine bi (aJ (aa hx) am (lu (by trace"baA0kexAc0zjxi q0"))) (aF ?_)
   have ln:=iA t0 (show C.items h (.ref ref)=_ from d6 hr)
   rw[List.length_map]at ln
   by_cases ql:x=d.rl.length
   ·rw[beq_iff_eq.mpr ql]
    exact wP (B7 (B6 (aJ (aa hx) ln (nv (by trace"caABeAcBcji ql"))))) rfl rfl
   ·rw[beq_eq_false_iff_ne.mpr ql]
    have m1:ev C l (.bin .sub (.loc .x1) (.int 1)) h=some (.int ((x-1:Nat):Int),h):=aS (aa hx) am (congrArg (fun i=>some (V.int i,h)) (show(x:Int)-1=((x-1:Nat):Int) by trace"daCBlC0kexCBex1kClApCenC1klA0kenoCc1zsAcjiiii hb q0 ql .s"))
    exact wP (B7 (tS (aJ (aa hx) ln (lu (by trace"caABexAcBcjxi ql"))) (MR (o7 (aJ (dz t0 m1 (rt hr (by trace"da1kClC1000klnBCl1kBlApBenB1klA0kenoApCliii hw hb .s"))) col (H1 _ _)) (aJ (dz t0 (aa hx) (rt hr (by trace"caABlABexApBlii hb ql"))) col (H2 _ _)))))) rfl rfl
 refine g9 part fun q A B e s=> ?_
 rw[e]
 cases z:pz f1 f2 k d.rl d.col x<;>rw[z]at s
 ·exact aw s (aF (ll hx am rfl))
 ·exact MW s
theorem CT: ∀(m x b:Nat)(l:L),l .self=some (.ref p)→l .x1=some (.int (x:Int))→x≤b→b≤d.rl.length→pz f1 f2 k d.rl d.col b=true→
 (∀y,x≤y→y<b→pz f1 f2 k d.rl d.col y=false)→b<m+x→c7 (fun l h=>te C l (.tr (.int 1)) h) (fun l h=>ay C (xf o1 o2 k) l h) m l h=some (.next,l.set .x1 (.int (b:Int)),h):=by
 intro m
 induction m with
 |zero=>intro x b l _ _ h1 _ _ _ h2;trace"!caABlBp0kAalxi h1 h2"
 |succ m ih=>
  intro x b l hs hx h1 h3 h4 h5 h2
  have t:=NC (k:=k) H1 H2 hp hr hw x hs hx (by trace"daCBlBAlCAlii h1 h3")
  have u:=bG (C:=C) (l:=l) (h:=h) (am (i:=1)) rfl
  by_cases q:x=b
  ·subst q
   rw[h4]at t
   exact(MY u t).trans (by rw[xc hx])
  ·rw[h5 x (Nat.le_refl _) (by trace"caABlABexApBlii h1 q")]at t
   exact wS u t ((ih (x+1) b (l.set .x1 (.int ((x+1:Nat):Int))) hs rfl (by trace"caABlABexApBlii h1 q") h3 h4 (fun y a b=>h5 y (by trace"caApBlABli a") b) (by trace"daApBpCalApBCpali h2")).trans (by rw[xd]))
end
theorem CU(hp:h.o p=some (.inst .ao (d.at aq ref acc)))(hr:h.o ref=some (.list (d.rl.map .int)))(hw:1≤d.rl.length∧d.rl.length≤1000)(k x b:Nat)(l:L):l .self=some (.ref p)→l .x1=some (.int (x:Int))→x≤b→b≤d.rl.length→dO d.rl d.col b=true→
 (∀y,x≤y→y<b→dO d.rl d.col y=false)→b<k+x→c7 (fun l h=>te C l (.tr (.int 1)) h) (fun l h=>ay C NA l h) k l h=some (.next,l.set .x1 (.int (b:Int)),h):=
 CT (o1:= .eq) (o2:= .ne) (f1:=fun a b=>a==b) (f2:=fun a b=>a !=b) (k:=1) (fun _ _=>rfl) (fun _ _=>rfl) hp hr hw k x b l
theorem ND(hp:h.o p=some (.inst .ao (d.at aq ref acc)))(hr:h.o ref=some (.list (d.rl.map .int)))(hw:1≤d.rl.length∧d.rl.length≤1000)(k x b:Nat)(l:L):l .self=some (.ref p)→l .x1=some (.int (x:Int))→x≤b→b≤d.rl.length→fR d.rl d.col b=true→
 (∀y,x≤y→y<b→fR d.rl d.col y=false)→b<k+x→c7 (fun l h=>te C l (.tr (.int 1)) h) (fun l h=>ay C NB l h) k l h=some (.next,l.set .x1 (.int (b:Int)),h):=
 CT (o1:= .ne) (o2:= .eq) (f1:=fun a b=>a !=b) (f2:=fun a b=>a==b) (k:=0) (fun _ _=>rfl) (fun _ _=>rfl) hp hr hw k x b l
end
noncomputable def fill(l:List Int)(a:Nat):Nat→Int→List Int
 |0,_=>l
 |n+1,c=>fill (l.set a c) (a+1) n c
theorem xg: ∀(n:Nat)(l:List Int)(a:Nat)(c:Int),(fill l a n c).length=l.length
 |0,_,_,_=>rfl
 |n+1,l,a,c=>(xg n _ _ _).trans (by simp)
noncomputable def jm(a:Nat):Nat→List V
 |0=>[]
 |n+1=> .int (a:Int)::jm (a+1) n
theorem xh: ∀(n a:Nat),(List.range n).map (fun(k:Nat)=>V.int ((a:Int)+1*(k:Int)))=jm a n
 |0,_=>rfl
 |n+1,a=>by
  show _=V.int (a:Int)::jm (a+1) n
  rw[List.range_succ_eq_map,List.map_cons,List.map_map,←xh n (a+1)]
  refine List.cons_eq_cons.mpr ⟨by simp,List.map_congr_left fun k _=> ?_⟩
  simp only[Function.comp,tV]
  trace"caAcBpc1utApcBc1utj"
theorem xi(a b:Nat):cS (a:Int) (b:Int) 1=jm a (b-a):=by
 rw[←xh]
 unfold cS
 congr 2
 trace"ecDClBDaCenCDlB0keno0zUrAcUjnU0zrA0kenoVU1utCcDcsq1zsj0zVrVq1zrnnABeiii .s .t .z1"
theorem NE(b:Nat):cS (-1) (b:Int) 1= .int (-1)::jm 0 b:=by
 rw[←xh]
 unfold cS
 rw[show(((b:Int)- -1+1-1)/1).toNat=b+1 by trace"cc0zUrAcUjnU0zrA0kenoVU1utBc1zgsq1zsj0zVrVq1zrnnABpeii .t .z1",List.range_succ_eq_map,List.map_cons,List.map_map]
 refine List.cons_eq_cons.mpr ⟨by simp,List.map_congr_left fun k _=> ?_⟩
 simp only[Function.comp,tV]
 trace"ba1zgApc1ut0kcAc1utj"
noncomputable def ru:SS:=(.cons (.gc (.attr (.loc .self) .dC) (.loc .x) (.attr (.loc .self) .bx))
 .nil)
section
variable{C:Cx}{p:Nat}{d:PC}{aq ref acc:Nat}
theorem xj(ne:p≠aq): ∀(n a:Nat)(xs:List Int)(l:L)(h:H),h.o p=some (.inst .ao (d.at aq ref acc))→h.o aq=some (.list (xs.map .int))→l .self=some (.ref p)→a+n≤xs.length→
 ∃l',bD (fun h=>bV C h none (jm a n)) (fun v l h=>ay C ru (l.set .x v) h) (jm a n) l h=some (.next,l',h.set aq (.list ((fill xs a n d.col).map .int)))∧ ∀m,m≠ .x→l' m=l m:=by
 intro n a xs l h hp hc hs hn
 have gen: ∀(all:List V)(n a:Nat)(xs:List Int)(l:L)(h:H),h.o p=some (.inst .ao (d.at aq ref acc))→h.o aq=some (.list (xs.map .int))→l .self=some (.ref p)→a+n≤xs.length→
  ∃l',bD (fun h=>bV C h none all) (fun v l h=>ay C ru (l.set .x v) h) (jm a n) l h=some (.next,l',h.set aq (.list ((fill xs a n d.col).map .int)))∧ ∀m,m≠ .x→l' m=l m:=by
  intro all n
  induction n with
  |zero=>
   intro a xs l h hp hc hs hn
   exact⟨l,(tU rfl).trans (by show _=some (Fl.next,l,h.set aq (.list (xs.map .int)));rw[lz hc]),fun _ _=>rfl⟩
  |succ n ih=>
   intro a xs l h hp hc hs hn
   have la:a<xs.length:=by trace"daBCpaAlBpAli hn"
   refine aA (ih (a+1) (xs.set a d.col) (l.set .x (.int (a:Int))) (h.set aq (.list ((xs.set a d.col).map .int))) ((dN ne).trans hp) (bU _ _ _) hs (by rw[List.length_set];trace"daCBpaAlCpBaAli hn")) fun l' f1 f2=> ?_
   rw[pe]at f1
   exact⟨l',j7 rfl (aF (wQ (iE (m:= .self) (n:= .bx) hp hs rfl rfl) (iE (m:= .self) (n:= .dC) hp hs rfl rfl) (aa (n:= .x) rfl) (xa hc la))) f1,fun m hm=>(f2 m hm).trans (if_neg hm)⟩
 exact gen _ n a xs l h hp hc hs hn
end
section
variable{cl:CL→List V}{fuel n:Nat}{h:H}{p:Nat}{d:PC}{S:Nat→Prop}{aq ref acc:Nat}
theorem At.rz (a:At h p d S aq ref acc):p≠aq:=fun q=>by have:=a.cu;rw[←q,a.ob]at this;cases this
theorem NF(a:At h p d S aq ref acc)(hl:d.cl.length=d.w)(hr:d.rl.length=d.w){b one:Nat}{dx:Int}(hc: -1≤d.cp)(h1:(d.cp+1).toNat≤b)(h2:b≤d.w)(h3:dO d.rl d.col b=true)(h4: ∀y,(d.cp+1).toNat≤y→y<b→dO d.rl d.col y=false)
 (h5:(b:Int)+dx=one) (h6:one≤d.w) (h7:d.cp≤one) (hf:1002≤fuel):
 ∃h',(Cn cl fuel (n+1)).call .lM [.ref p,.int dx] [] h=some (.ret .none,h')∧bO h p S {d with cl:=fill d.cl d.cp.toNat (one-d.cp.toNat) d.col,cp:=one,col:=1-d.col} h':=by
 have e3:=a.wd
 obtain⟨x,hx⟩: ∃x:Nat,d.cp+1=x:=⟨(d.cp+1).toNat,by trace"bb1zgUr0zUqrAcUqjnUq0zrA0kenoUqAcjii hc .t"⟩
 have kf:(d.cp+1).toNat=x:=by trace"cb1zgUrUqBcj0zUqrAcUqjnUq0zrA0kenoABeiii hc hx .t"
 rw[kf]at h1 h4
 obtain⟨x0,pA⟩: ∃x0:Nat,x0=d.cp.toNat:=⟨_,rfl⟩
 rw[←pA]
 have mx:(if(0:Int)<d.cp then d.cp else 0)=(x0:Int):=by split<;>omega
 have mi:(if(one:Int)<(d.w:Int)then(one:Int)else(d.w:Int))=(one:Int):=by split<;>omega
 have mo:(if(0:Int)<(one:Int)then(one:Int)else 0)=(one:Int):=by split<;>omega
 have s6: ∀l1:L,l1 .self=some (.ref p)→l1 .x0=some (.int (x0:Int))→l1 .x1=some (.int (one:Int))→ ∃l2,ex (Cn cl fuel n) (.ifs (.cmp .lt (.loc .x1) (.loc .x0)) (.cons (.bK .x (.gb (.loc .x1) (.loc .x0)) ru) .nil) (.cons (.ifs (.cmp .lt (.loc .x0) (.loc .x1)) (.cons (.bK .x (.gb (.loc .x0) (.loc .x1)) ru) .nil) .nil) .nil)) l1 h=
  some (.next,l2,h.set aq (.list ((fill d.cl x0 (one-x0) d.col).map .int)))∧l2 .self=some (.ref p)∧l2 .x1=some (.int (one:Int)):=by
  intro l1 n0 n1 n2
  have lx:=aJ (C:=Cn cl fuel n) (h:=h) (aa n2) (aa n1) (iC (show ¬((one:Int)<(x0:Int)) by trace"heCFeEFlXEcr1kFlF1000klnXqBcjDBeGAeWGcjVEcjUEcj0zXrAcXjnX0zrA0keno0zXqrDcXqjnXq0zrD0kenoEcqGcrxiiiiiiiiiiii hr h6 h7 e3 hx kf pA mx mi mo .t .t"))
  by_cases q:x0<one
  ·refine aA (xj (C:=Cn cl fuel n) a.rz (one-x0) x0 d.cl l1 h a.ob a.cu n0 (by trace"heDFeCFeEFlGAeUGcjVEcjXEcjGpElGElBGaEenEGlB0keno0zWrAcWjnW0zrA0kenoGBaDliiiiiiiiii hl hr h6 pA mx mi mo q .s .t")) fun l2 f1 f2=> ?_
   exact⟨l2,bi lx (aF (bE (aJ (aa n1) (aa n2) (kb (by trace"deBAeWBcjVCcjUCcjBpCl0zXrAcXjnX0zrA0kenoBcqCcriiiiii pA mx mi mo q .t"))) (aF (jl ((Ck (aa n1) (aa n2) (by trace"heAFeGFl1kFlF1000klnDBeVDcjUGcjWGcjDpGl0zGcrEcGcjnGc0zrEcGcgjno0zDcrCcDcjnDc0zrCcDcgjno0zXrBcXjnX0zrB0kenoCp2^31klEp2^31klniiiiiiiiiii hr h6 e3 pA mx mi mo q .a .a .t")).trans (by rw[xi])) f1)))),(f2 _ (by decide)).trans n0,(f2 _ (by decide)).trans n2⟩
  ·have q2:one-x0=0:=by omega
   rw[q2]
   exact⟨l1,(bi lx (aF (bi (aJ (aa n1) (aa n2) (iC (by trace"deBAeXBcjUCcjWCcjBpClx0zVrAcVjnV0zrA0kenoBcqCcrxiiiiii pA mx mi mo q .t"))) dM))).trans (by show _=some (Fl.next,l1,h.set aq (.list (d.cl.map .int)));rw[lz a.cu]),n0,n2⟩
 refine ck (s6 (L.set (L.set (L.set (L.set (L.set (fun m=>own m [(.self,.ref p),(.dx,.int dx)]) .x1 (.int (x:Int))) .x1 (.int (b:Int))) .x1 (.int (one:Int))) .x0 (.int (x0:Int))) .x1 (.int (one:Int))) rfl rfl rfl) fun l2 s6 k0 k1=> ?_
 have A1:=a.line (fill d.cl x0 (one-x0) d.col)
 have A2:=A1.upd (d':=(d.pj (fill d.cl x0 (one-x0) d.col)).iB one) rfl rfl rfl a.ex a.wd
 have A3:=A2.upd (d':=((d.pj (fill d.cl x0 (one-x0) d.col)).iB one).wZ (1-d.col)) rfl rfl rfl a.ex a.wd
 exact⟨_,bH rfl rfl (aw (aV (aS (aE a rfl rfl rfl) am (congrArg (fun i=>some (V.int i,h)) hx)))
  (aw (rn (CU a.ob a.re (by trace"caABe1kBlB1000kln1kAlA1000klnii hr e3") fuel x b _ rfl rfl h1 (by trace"edBAeCAlCcVtDcjUDcjWDcjCBliiiii hr h2 h5 mi mo") h3 h4 (by trace"heADe1zgWrBDlBcXtGcj1002kEl1kDlD1000klnWqFcjCFeVGcjUGcj0zWqrCcWqjnWq0zrC0kenoBpEFaliiiiiiiiiii hr hc h2 h5 hf e3 hx kf mi mo .t"))) (aw (ll rfl (aa rfl) (congrArg (fun i=>some (V.int i)) h5)) (aw (aV (wK am (aE a rfl rfl rfl) mx)) (aw (aV (wK am (MI (aE a rfl rfl rfl) (aa rfl) mi) mo))
  (aw s6 (aw (aX A1 (aa k1) k0 rfl) (aF (aX A2 (aS am (aE A2 k0 rfl rfl) rfl) k0 rfl))))))))) rfl,At.two (A1.one a.sc) (At.two (A2.one a.sp) (A3.one a.sp))⟩
end
section
variable{cl:CL→List V}{fuel n:Nat}{h:H}{p:Nat}{d:PC}{S:Nat→Prop}{aq ref acc:Nat}
theorem NG{l:List Int}{i:Nat}{c:Int}(e:l[i]? =some c):l.set i c=l:=by
 apply List.ext_getElem?
 intro j
 rw[List.getElem?_set]
 split
 ·subst j
  split
  ·exact e.symm
  ·rename_i q;rw[List.getElem?_eq_none (by trace"caApBlxBAli q")]at e;cases e
 ·rfl
theorem NH(a:At h p d S aq ref acc)(hl:d.cl.length=d.w)(hr:d.rl.length=d.w){b c:Nat}(hc: -1≤d.cp)(h1:(d.cp+1).toNat≤b)(h2:b≤d.w)(h3:dO d.rl d.col b=true)(h4: ∀y,(d.cp+1).toNat≤y→y<b→dO d.rl d.col y=false)
 (g1:b≤c) (g2:c≤d.w) (g3:fR d.rl d.col c=true) (g4: ∀y,b≤y→y<c→fR d.rl d.col y=false) (hm:d.cp= -1→d.cl[d.w-1]? =some d.col) (hf:1002≤fuel):
 ∃h',(Cn cl fuel (n+1)).call .lK [.ref p] [] h=some (.ret .none,h')∧bO h p S {d with cl:=fill d.cl d.cp.toNat (c-d.cp.toNat) d.col,cp:=c} h':=by
 have e3:=a.wd
 obtain⟨x,hx⟩: ∃x:Nat,d.cp+1=x:=⟨(d.cp+1).toNat,by omega⟩
 have kf:(d.cp+1).toNat=x:=by omega
 rw[kf]at h1 h4
 have q2:d.cp.natAbs<2^31∧(c:Int).natAbs<2^31:=by trace"ibEFeAGlGFl1kFlF1000klnHAlUqHcjBHe0zGcrDcGcjnGc0zrDcGcgjno0zUrCcUjnU0zrCcUgjno0zUqrBcUqjnUq0zrB0kenoCp2^31klDp2^31klniiiiiiiiii hr g1 g2 e3 h1 hx kf .a .a .t"
 have s4: ∀l1:L,l1 .self=some (.ref p)→l1 .x1=some (.int (c:Int))→ ∃l2,ex (Cn cl fuel n) (.bK .x (.gb (.attr (.loc .self) .d9) (.loc .x1)) ru) l1 h=
  some (.next,l2,h.set aq (.list ((fill d.cl d.cp.toNat (c-d.cp.toNat) d.col).map .int)))∧l2 .self=some (.ref p)∧l2 .x1=some (.int (c:Int)):=by
  intro l1 n0 n1
  have it:=Ck (C:=Cn cl fuel n) (h:=h) (aE a n0 (n:= .d9) rfl rfl) (aa n1) q2
  by_cases q:d.cp= -1
  ·have g:=hm q
   have s:kJ h (.ref aq) (.int (-1)) (.int d.col)=some h:=by
    show(match h.o aq with|some (.list xs)=>sh h aq xs (-1) (.int d.col)|_=>none)=_
    rw[a.cu]
    refine(if_neg fun q=>absurd q.1 (by decide)).trans ((if_pos ⟨by decide,by rw[List.length_map,hl];trace"caABe1kBlB1000kln0z1zgBctrii hr e3"⟩).trans ?_)
    rw[List.length_map,hl,show((-1:Int)+(d.w:Int)).toNat=d.w-1 by trace"eaCDe1kDlD1000kln1kDlBpDenD1klB0keno0z1zgDctrAc1zgDctjn1zgDct0zrA0kenoABeiiii hr e3 .s .t",←List.map_set,NG g,lz a.cu]
   refine aA (xj (C:=Cn cl fuel n) a.rz c 0 d.cl (l1.set .x (.int (-1))) h a.ob a.cu n0 (by trace"eaDCeACeBCl0kBaDliii hl hr g2")) fun l2 f1 f2=> ?_
   rw[q]at it⊢
   rw[NE]at it
   exact⟨l2,jl it (j7 rfl (aF (wQ (aE a (m:= .self) (n:= .bx) n0 rfl rfl) (aE a (m:= .self) (n:= .dC) n0 rfl rfl) (aa (n:= .x) rfl) s)) f1),(f2 _ (by decide)).trans n0,(f2 _ (by decide)).trans n1⟩
  ·obtain⟨x0,z⟩: ∃x0:Nat,d.cp=x0:=⟨d.cp.toNat,by trace"dbUqCcjBCeU1zgjx0zUrAcUjnU0zrA0keno0zUqrBcUqjnUq0zrB0kenoUAcjiiiii hx kf q .t .t"⟩
   refine aA (xj (C:=Cn cl fuel n) a.rz (c-x0) x0 d.cl l1 h a.ob a.cu n0 (by trace"jbAFeCFeDGlGFlIDlUqIcjHIeUEcjEGlBEaGenGElB0keno0zUqrHcUqjnUq0zrH0kenoEBaAliiiiiiiiii hl hr g1 g2 h1 hx kf z .s .t")) fun l2 f1 f2=> ?_
   rw[z]at it⊢
   rw[xi]at it
   exact⟨l2,jl it f1,(f2 _ (by decide)).trans n0,(f2 _ (by decide)).trans n1⟩
 refine ck (s4 (L.set (L.set (L.set (fun m=>own m [(.self,.ref p)]) .x1 (.int (x:Int))) .x1 (.int (b:Int))) .x1 (.int (c:Int))) rfl rfl) fun l2 s4 k0 k1=> ?_
 have A1:=a.line (fill d.cl d.cp.toNat (c-d.cp.toNat) d.col)
 exact⟨_,bH rfl rfl (aw (aV (aS (aE a rfl rfl rfl) am (congrArg (fun i=>some (V.int i,h)) hx)))
  (aw (rn (CU a.ob a.re (by trace"caABe1kBlB1000kln1kAlA1000klnii hr e3") fuel x b _ rfl rfl h1 (by trace"daCAeBAlBClii hr h2") h3 h4 (by trace"hbABeCDlDBl1002kEl1kBlB1000klnFGe0zUqrFcUqjnUq0zrF0kenoCpEGaliiiiiii hr g1 g2 hf e3 kf .t"))) (aw (rn (ND a.ob a.re (by trace"caABe1kBlB1000kln1kAlA1000klnii hr e3") fuel b c _ rfl rfl g1 (by trace"daCAeBAlBClii hr g2") g3 g4 (by trace"faABeCBlDBl1002kEl1kBlB1000klnDpECaliiiii hr h2 g2 hf e3")))
  (aw s4 (aF (aX A1 (aa k1) k0 rfl)))))) rfl,At.two (A1.one a.sc) ((A1.upd (d':=(d.pj (fill d.cl d.cp.toNat (c-d.cp.toNat) d.col)).iB c) rfl rfl rfl a.ex a.wd).one a.sp)⟩
noncomputable def NI(ce:X):SS:=(.cons (.ifs (.cmp .le (.len (.attr (.loc .self) .dC)) (.loc .x))
 (.cons .brk
 .nil)
 .nil)
 (.cons (.gc (.attr (.loc .self) .dC) (.loc .x) ce)
 (.cons (.aug .x .add (.int 1))
 .nil)))
theorem xk{C:Cx}{ce:X}{c:Int}(ne:p≠aq)(he: ∀(l:L)(h:H),l .self=some (.ref p)→h.o p=some (.inst .ao (d.at aq ref acc))→ev C l ce h=some (.int c,h)): ∀(vs:List V)(a:Nat)(xs:List Int)(l:L)(h:H),
 h.o p=some (.inst .ao (d.at aq ref acc))→h.o aq=some (.list (xs.map .int))→l .self=some (.ref p)→l .x=some (.int (a:Int))→a+vs.length≤xs.length→xs.length≤1000→
 ∃l',bD (fun _=>true) (fun v l h=>ay C (NI ce) (l.set .u_ v) h) vs l h=some (.next,l',h.set aq (.list ((fill xs a vs.length c).map .int)))∧l' .self=l .self∧l' .x=some (.int ((a+vs.length:Nat):Int))∧ ∀m,m≠ .x→m≠ .u_→l' m=l m
 |[],a,xs,l,h,hp,hc,hs,hx,hn,hz=>⟨l,(tU rfl).trans (by show _=some (Fl.next,l,h.set aq (.list (xs.map .int)));rw[lz hc]),rfl,hx,fun _ _ _=>rfl⟩
 |v::vs,a,xs,l,h,hp,hc,hs,hx,hn,hz=>by
  rw[List.length_cons]at hn
  have la:a<xs.length:=by trace"daBCpaAlBpAli hn"
  have ln:=iA (iE (C:=C) (l:=l.set .u_ v) (m:= .self) (n:= .dC) hp hs rfl rfl) (d6 hc)
  rw[List.length_map]at ln
  refine jw (xk (xs:=xs.set a c) ne he vs (a+1) ((l.set .u_ v).set .x (.int ((a+1:Nat):Int))) (h.set aq (.list ((xs.set a c).map .int))) ((dN ne).trans hp) (bU _ _ _) hs rfl (by rw[List.length_set];trace"daCBpaAlCpBaAli hn") (by rw[List.length_set];exact hz)) fun l' f1 f2 f3 f4=> ?_
  rw[pe]at f1
  refine⟨l',j7 rfl (aw (bi (aJ ln (aa hx) (py (by trace"caApBlBcAcrxi la"))) dM) (aw (wQ (he _ h hs hp) (iE (m:= .self) (n:= .dC) hp hs rfl rfl) (aa (n:= .x) hx) (xa hc la)) (aF (ll (n:= .x) hx am rfl)))) f1,f2,?_,fun m h1 h2=>(f4 m h1 h2).trans ((if_neg h1).trans (if_neg h2))⟩
  rw[f3,List.length_cons,Nat.add_assoc,Nat.add_comm 1]
theorem CV(b:Nat):(cS 0 (b:Int) 1).length=b:=by
 have:=xi 0 b
 simp only[Nat.sub_zero]at this
 rw[show(0:Int)=((0:Nat):Int)from rfl,this]
 have: ∀(n a:Nat),(jm a n).length=n:=by
  intro n
  induction n with
  |zero=>intro a;rfl
  |succ n ih=>intro a;simp[jm,ih]
 exact this _ _
theorem NJ(a:At h p d S aq ref acc)(hl:d.cl.length=d.w)(hc: -1≤d.cp){n1 n2:Nat}(hn:d.cp.toNat+n1+n2≤d.w):
 ∃h',(Cn cl fuel (n+1)).call .lN [.ref p,.int (n1:Int),.int (n2:Int)] [] h=some (.ret .none,h')∧
  bO h p S {d with cl:=fill (fill d.cl d.cp.toNat n1 d.col) (d.cp.toNat+n1) n2 (1-d.col),cp:=((d.cp.toNat+n1+n2:Nat):Int)} h':=by
 have e3:=a.wd
 obtain⟨c0,nz⟩: ∃c0:Nat,c0=d.cp.toNat:=⟨_,rfl⟩
 rw[←nz]at hn⊢
 have sH: ∃h1,ex (Cn cl fuel n) (.ifs (.cmp .lt (.attr (.loc .self) .d9) (.int 0)) (.cons (.bS (.loc .self) .d9 (.int 0)) .nil) .nil) (fun m=>own m [(.self,.ref p),(.n1,.int (n1:Int)),(.n2,.int (n2:Int))]) h=
  some (.next,(fun m=>own m [(.self,.ref p),(.n1,.int (n1:Int)),(.n2,.int (n2:Int))]),h1)∧At h1 p (d.iB c0) S aq ref acc∧bO h p S (d.iB c0) h1∧grow S h h1=S:=by
  by_cases q:d.cp<0
  ·have A:=a.upd (d':=d.iB (c0:Int)) rfl rfl rfl a.ex a.wd
   have:c0=0:=by trace"cb1zgUrABeUq0zr0zUrBcUjnU0zrB0kenoA0keiiii hc nz q .t"
   subst this
   exact⟨_,bE (aJ (aE a rfl rfl rfl) am (kb q)) (aF (aX a am rfl rfl)),A,A.one a.sp,pi S h⟩
  ·have e:d.iB (c0:Int)=d:=by
    rw[show(c0:Int)=d.cp by trace"cbABeUq0zrx0zUrBcUjnU0zrB0kenoAcUjiii nz q .t"];rfl
   rw[e]
   exact⟨h,bi (aJ (aE a rfl rfl rfl) am (iC q)) dM,a,.here ⟨_,_,_,a⟩,pi S h⟩
 refine jw sH fun h1 sH A1 D1 G=> ?_
 have t1:=CV n1
 have t2:=CV n2
 refine jw (xk (C:=Cn cl fuel n) (d:=d.iB c0) (ref:=ref) (acc:=acc) (ce:= .attr (.loc .self) .bx) (c:=d.col) A1.rz (fun l h s o=>iE o s rfl rfl) (cS 0 (n1:Int) 1) c0 d.cl (L.set (fun m=>own m [(.self,.ref p),(.n1,.int (n1:Int)),(.n2,.int (n2:Int))]) .x (.int (c0:Int))) h1 A1.ob A1.cu rfl rfl (by rw[t1];trace"ibACeDEaFaClDGeBEeHFe0zUrGcUjnU0zrG0kenoDEaAliiiiii hl hn nz t1 t2 .t") (by trace"caABe1kBlB1000klnA1000klii hl e3")) fun l1 f1 f2 f3 f4=> ?_
 rw[t1]at f1 f3
 have A2:=A1.line (fill d.cl c0 n1 d.col)
 refine jw (xk (C:=Cn cl fuel n) (d:=(d.iB c0).pj (fill d.cl c0 n1 d.col)) (ref:=ref) (acc:=acc) (ce:= .bin .sub (.int 1) (.attr (.loc .self) .bx)) (c:=1-d.col) A2.rz (fun l h s o=>aS am (iE o s rfl rfl) rfl) (cS 0 (n2:Int) 1) (c0+n1) (fill d.cl c0 n1 d.col) l1 (h1.set aq (.list ((fill d.cl c0 n1 d.col).map .int))) A2.ob A2.cu f2 f3 (by rw[t2,xg];trace"ibACeEDaGaClEHeBDeFGe0zUrHcUjnU0zrH0kenoEDaGaAliiiiii hl hn nz t1 t2 .t") (by rw[xg];trace"caABe1kBlB1000klnA1000klii hl e3")) fun l2 g1 g2 g3 g4=> ?_
 rw[t2,pe]at g1
 rw[t2]at g3
 have A3:=A1.line (fill (fill d.cl c0 n1 d.col) (c0+n1) n2 (1-d.col))
 have k0:l2 .self=some (.ref p):=g2.trans f2
 have i1:l1 .n2=some (.int (n2:Int)):=f4 .n2 (by decide) (by decide)
 refine⟨_,bH rfl rfl (aw sH (aw (aV (aE A1 rfl rfl rfl)) (aw (jl (Cj (aa rfl) (by trace"ib1kBlB1000klnGHaFaBlGEeAHeCFe0zHcrDcHcjnHc0zrDcHcgjno0zUrEcUjnU0zrE0kenoDp2^31kliiiiiii e3 hn nz t1 t2 .a .t")) f1) (aw (jl (Cj (aa i1) (by trace"ib1kBlB1000klnHCaFaBlHGeACeDFe0zFcrEcFcjnFc0zrEcFcgjno0zUrGcUjnU0zrG0kenoEp2^31kliiiiiii e3 hn nz t1 t2 .a .t")) g1) (aF (aX A3 (aa g3) k0 rfl)))))) rfl,D1.then (G.symm▸At.two (A3.one a.sc) ((A3.upd (d':=((d.iB c0).pj (fill (fill d.cl c0 n1 d.col) (c0+n1) n2 (1-d.col))).iB ((c0+n1+n2:Nat):Int)) rfl rfl rfl a.ex a.wd).one a.sp))⟩
end
noncomputable def cr:Except Cl T→CR
 | .ok t=> .ret (.tree t)
 | .error c=> .exc c
noncomputable def fr:Except Cl T→CR
 | .ok _=> .ret .none
 | .error c=> .exc c
noncomputable def Acc(cl:CL→List V)(fuel:Nat)(d:PC)(v:T)(d':PC)(r:Except Cl T):Prop:= ∀{n:Nat}{h:H}{p:Nat}{S:Nat→Prop},cZ h p d S→
 ∃h',(Cn cl fuel (n+3)).call d.af [.ref p,v.v] [] h=some (cr r,h')∧bO h p S d' h'
inductive gA(d:PC):PC→Except Cl T→Prop
 |no: ¬(d.w:Int)≤d.cp→gA d d (.ok ca)
 |yes (bs:List UInt8):(d.w:Int)≤d.cp→d.cl.length=d.w→eF ((ny d.rev d.cl).map .int)=some bs→bs.length≤100→d.buf.length≤1000→gA d (d.flushed bs) (if d.al.getD false then .error .dB else .ok ca)
section
variable{cl:CL→List V}{fuel:Nat}{d d':PC}
theorem NK{r:Except Cl T}(f:gA d d' r){n:Nat}{h:H}{p:Nat}{S:Nat→Prop}(a:cZ h p d S): ∃h',(Cn cl fuel (n+2)).call .gF [.ref p] [] h=some (fr r,h')∧bO h p S d' h':=by
 refine cR a fun c rr k A=> ?_
 induction f with
 |no q=>exact⟨h,Ny A q,.here ⟨c,rr,k,A⟩⟩
 |yes bs q1 q2 q3 q4 q5=>
  obtain⟨h',f1,f2⟩:=Nz (cl:=cl) (fuel:=fuel) (n:=n) A q1 q2 q3 q4 q5
  refine⟨h',?_,f2⟩
  rw[f1]
  cases xb:d.al.getD false<;>rfl
theorem NL{r:Except Cl T}(f:gA d d' r):r= .ok ca∨r= .error .dB:=by
 induction f with
 |no q=>exact .inl rfl
 |yes bs q1 q2 q3 q4 q5=>cases d.al.getD false<;>simp
noncomputable def b8(c:Int):T:=if c=0 then iY else iW
noncomputable def ff:Except Cl T→Fl
 | .ok _=> .ret (.tree ca)
 | .error c=> .exc c
theorem xm{r:Except Cl T}(f:gA d d' r){n:Nat}{h:H}{p:Nat}{S:Nat→Prop}{l:L}(a:cZ h p d S)(e:l .self=some (.ref p)): ∃h',ay (Cn cl fuel (n+2)) (.cons (.expr (.bg (.loc .self) .gF .nil [])) (.cons (.ret (.attr (.loc .self) .ku)) .nil)) l h=
 some (ff r,l,h')∧bO h p S d' h':=by
 obtain⟨h',f1,D⟩:=NK (cl:=cl) (fuel:=fuel) (n:=n) f a
 obtain⟨c0,r0,k0,A⟩:=a
 obtain⟨c1,r1,k1,A1⟩:=D.1
 refine⟨h',?_,D⟩
 induction r with
 |ok t=>exact aw (aM A e rfl bh f1) (em (fy (aK A1 e rfl rfl)))
 |error c=>exact nu (CF A e rfl bh f1)
theorem xn{r:Except Cl T}(f:gA d d' r){l:L}{h:H}:og (some (ff r,l,h))=some (cr r,h):=by
 rcases NL f with rfl|rfl<;>rfl
theorem ua{h:H}{p aq ref acc:Nat}{S:Nat→Prop}{C:Cx}{l:L}(A:At h p d S aq ref acc)(e:l .self=some (.ref p)):ay C (.cons (.ifs (.tr (.attr (.loc .self) .bx)) (.cons (.ret (.attr (.loc .self) .pR)) .nil) (.cons (.ret (.attr (.loc .self) .pS)) .nil)) .nil) l h=
 some (.ret (.tree (b8 d.col)),l,h):=by
 unfold b8
 by_cases q:d.col=0
 ·rw[if_pos q];exact em (bi (bG (aE A e rfl rfl) (CI q)) (em (fy (aK A e rfl rfl))))
 ·rw[if_neg q];exact em (bE (bG (aE A e rfl rfl) (CH q)) (em (fy (aK A e rfl rfl))))
theorem NM{b c:Nat}{r:Except Cl T}(ha:d.af= .b9)(hl:d.cl.length=d.w)(hr:d.rl.length=d.w)(hc: -1≤d.cp)(h1:(d.cp+1).toNat≤b)(h2:b≤d.w)(h3:dO d.rl d.col b=true)(h4: ∀y,(d.cp+1).toNat≤y→y<b→dO d.rl d.col y=false)
 (g1:b≤c) (g2:c≤d.w) (g3:fR d.rl d.col c=true) (g4: ∀y,b≤y→y<c→fR d.rl d.col y=false) (hm:d.cp= -1→d.cl[d.w-1]? =some d.col) (hf:1002≤fuel)
 (f:gA {d with cl:=fill d.cl d.cp.toNat (c-d.cp.toNat) d.col,cp:=c} d' r):Acc cl fuel d (.str [112]) d' r:=by
 intro n h p S a
 obtain⟨c0,r0,k0,A⟩:=a
 obtain⟨xo,f1,D1⟩:=NH (cl:=cl) (fuel:=fuel) (n:=n+1) A hl hr hc h1 h2 h3 h4 g1 g2 g3 g4 hm hf
 obtain⟨mU,f2,k⟩:=xm (l:=fun m=>own m [(.self,.ref p),(.mode,.str [112])]) (n:=n) f D1.1 rfl
 refine⟨mU,?_,D1.then k⟩
 rw[ha]
 exact bH rfl rfl (aF (bE (aJ (aa rfl) rfl rfl) (aw (aM A rfl rfl bh f1) f2))) (xn f)
theorem NN{b one:Nat}{dx:Int}{r:Except Cl T}(ha:d.af= .b9)(hl:d.cl.length=d.w)(hr:d.rl.length=d.w)(hc: -1≤d.cp)(h1:(d.cp+1).toNat≤b)(h2:b≤d.w)(h3:dO d.rl d.col b=true)(h4: ∀y,(d.cp+1).toNat≤y→y<b→dO d.rl d.col y=false)
 (h5:(b:Int)+dx=one) (h6:one≤d.w) (h7:d.cp≤one) (hf:1002≤fuel)
 (f:gA {d with cl:=fill d.cl d.cp.toNat (one-d.cp.toNat) d.col,cp:=one,col:=1-d.col} d' r):Acc cl fuel d (.int dx) d' r:=by
 intro n h p S a
 obtain⟨c0,r0,k0,A⟩:=a
 obtain⟨xo,f1,D1⟩:=NF (cl:=cl) (fuel:=fuel) (n:=n+1) A hl hr hc h1 h2 h3 h4 h5 h6 h7 hf
 obtain⟨mU,f2,k⟩:=xm (l:=fun m=>own m [(.self,.ref p),(.mode,.int dx)]) (n:=n) f D1.1 rfl
 refine⟨mU,?_,D1.then k⟩
 rw[ha]
 exact bH rfl rfl (aF (bi (aJ (aa rfl) rfl rfl) (aF (bi (aJ (aa rfl) rfl rfl) (aF (bi (aJ (aa rfl) rfl rfl) (aF (bi (aJ (aa rfl) rfl rfl)
  (aF (bE (bG (oZ (aa rfl) rfl) rfl) (aw (aM A rfl rfl (aT (aa rfl) bh) f1) f2))))))))))) (xn f)
theorem NO(ha:d.af= .b9):Acc cl fuel d (.str [101]) d (.error .ey):=by
 intro n h p S a
 refine cR a fun c0 r0 k0 A=> ?_
 refine⟨h,?_,.here ⟨c0,r0,k0,A⟩⟩
 rw[ha]
 exact bH rfl rfl (aF (bi (aJ (aa rfl) rfl rfl) (aF (bi (aJ (aa rfl) rfl rfl) (aF (bi (aJ (aa rfl) rfl rfl) (aF (bE (aJ (aa rfl) rfl rfl) (nu (o9 (aK A rfl rfl rfl) rfl)))))))))) rfl
theorem NP(ha:d.af= .b9):Acc cl fuel d .none d (.error .cv):=by
 intro n h p S a
 refine cR a fun c0 r0 k0 A=> ?_
 refine⟨h,?_,.here ⟨c0,r0,k0,A⟩⟩
 rw[ha]
 exact bH rfl rfl (aF (bi (aJ (aa rfl) rfl rfl) (aF (bi (aJ (aa rfl) rfl rfl) (aF (bi (aJ (aa rfl) rfl rfl) (aF (bi (aJ (aa rfl) rfl rfl) (aF (bi (bG (oZ (aa rfl) rfl) rfl) (nu (o9 (aK A rfl rfl rfl) rfl)))))))))))) rfl
theorem NQ(ha:d.af= .b9)(s:List Nat)(s1:s≠[112])(s2:s≠[104])(s3:s≠[117])(s4:s≠[101]):Acc cl fuel d (.str s) d (.error .cv):=by
 intro n h p S a
 refine cR a fun c0 r0 k0 A=> ?_
 refine⟨h,?_,.here ⟨c0,r0,k0,A⟩⟩
 rw[ha]
 have t: ∀{t:List Nat}{C:Cx},s≠t→cK C h .eq (.str s) (.str t)=some false:=fun q=>congrArg some (beq_eq_false_iff_ne.mpr q)
 exact bH rfl rfl (aF (bi (aJ (aa rfl) rfl (t s1)) (aF (bi (aJ (aa rfl) rfl (t s2)) (aF (bi (aJ (aa rfl) rfl (t s3)) (aF (bi (aJ (aa rfl) rfl (t s4))
  (aF (bi (bG (oZ (aa rfl) rfl) rfl) (nu (o9 (aK A rfl rfl rfl) rfl)))))))))))) rfl
theorem NR(ha:d.af= .dH):Acc cl fuel d .none d (.error .cv):=by
 intro n h p S a
 refine cR a fun c0 r0 k0 A=> ?_
 refine⟨h,?_,.here ⟨c0,r0,k0,A⟩⟩
 rw[ha]
 exact bH rfl rfl (nu (bE (aJ (aa rfl) rfl rfl) (aF (o9 (aK A rfl rfl rfl) rfl)))) rfl
theorem NS(ha:d.af= .dW):Acc cl fuel d .none d (.error .cv):=by
 intro n h p S a
 refine cR a fun c0 r0 k0 A=> ?_
 refine⟨h,?_,.here ⟨c0,r0,k0,A⟩⟩
 rw[ha]
 exact bH rfl rfl (nu (bE (aJ (aa rfl) rfl rfl) (aF (o9 (aK A rfl rfl rfl) rfl)))) rfl
theorem nB{e:List (Nm×V)}{a:Int}(x:cE e):cE (put .bX (.int a) e):=by
 rcases x with rfl|⟨b,rfl⟩|⟨b,c,rfl⟩
 ·exact .inr (.inl ⟨a,rfl⟩)
 ·exact .inr (.inl ⟨a,rfl⟩)
 ·exact .inr (.inr ⟨a,c,rfl⟩)
theorem pB{e:List (Nm×V)}{a b:Int}(x:cE e)(y:own .bX e=some (.int b)):cE (put .cI (.int a) e):=by
 rcases x with rfl|⟨b,rfl⟩|⟨b,c,rfl⟩
 ·cases y
 ·exact .inr (.inr ⟨b,a,rfl⟩)
 ·exact .inr (.inr ⟨b,a,rfl⟩)
theorem rA{e:List (Nm×V)}{v:V}(x:cE e):own .bX (put .bX v e)=some v∧own .cI (put .bX v e)=own .cI e:=by
 rcases x with rfl|⟨b,rfl⟩|⟨b,c,rfl⟩<;>exact⟨rfl,rfl⟩
theorem xp{e:List (Nm×V)}{v:V}(x:cE e):own .cI (put .cI v e)=some v∧own .bX (put .cI v e)=own .bX e:=by
 rcases x with rfl|⟨b,rfl⟩|⟨b,c,rfl⟩<;>exact⟨rfl,rfl⟩
theorem At.accept {h:H} {p:Nat} {S:Nat→Prop} {aq ref acc:Nat} (a:At h p d S aq ref acc) (f:Fn):At ((h.push (.bg f (.ref p))).set p (CC.ob (d.pu f) aq ref h.n)) p (d.pu f) (grow S h (h.push (.bg f (.ref p)))) aq ref h.n:=by
 have n1:aq≠p:=fun q=>by have:=a.cu;rw[q,a.ob]at this;cases this
 have n2:ref≠p:=fun q=>by have:=a.re;rw[q,a.ob]at this;cases this
 have l1:=a.lt _ a.sc
 have l2:=a.lt _ a.sr
 have l3:=a.lt _ a.sp
 refine⟨bU _ _ _,by rw[dN n1,bM (by trace"caBpAlBAexi l1")];exact a.cu,by rw[dN n2,bM (by trace"caBpAlBAexi l2")];exact a.re,by rw[dN (by trace"caBpAlABexi l3")];exact bB rfl,.inl a.sp,.inl a.sc,.inl a.sr,.inr ⟨Nat.le_refl _,by rw[bN];trace"baApApl"⟩,a.ne,?_,a.ex,a.wd⟩
 rintro i (q|⟨_,q⟩)
 ·have:=a.lt i q;rw[j8,bN];trace"caApBlApBpli this"
 ·rw[j8];exact q
theorem bO.accept {h:H} {p:Nat} {S:Nat→Prop} {aq ref acc:Nat} (a:At h p d S aq ref acc) (f:Fn):bO h p S (d.pu f) ((h.push (.bg f (.ref p))).set p (CC.ob (d.pu f) aq ref h.n)):=by
 refine⟨⟨aq,ref,h.n,a.accept f⟩,by rw[j8,bN];trace"baAApl",fun i hi hs=> ?_⟩
 have:i≠p:=fun q=>hs (q▸a.sp)
 rw[dN this,bM (by trace"caBpAlBAexi hi")]
theorem xq{C:Cx}{l:L}{n:Nm}{f:Fn}{h:H}{p aq ref acc:Nat}{S:Nat→Prop}(A:At h p d S aq ref acc)(s:l .self=some (.ref p))(c:bJ .ao n=some (.fn f)):
 ex C (.bS (.loc .self) .eX (.attr (.loc .self) n)) l h=some (.next,l,(h.push (.bg f (.ref p))).set p (CC.ob (d.pu f) aq ref h.n)):=by
 have q:=aX (C:=C) (l:=l) (A.push (.bg f (.ref p))) (aK A s c rfl) s (n:= .eX) rfl
 exact q
theorem CW(ha:d.af= .b9):Acc cl fuel d (.str [104]) {d with ext:=put .bX (.int 0) d.ext,af:= .dH} (.ok (b8 d.col)):=by
 intro n h p S a
 refine cR a fun c0 r0 k0 A=> ?_
 have A1:=A.upd (d':=d.pv (put .bX (.int 0) d.ext)) rfl rfl rfl (nB A.ex) A.wd
 refine⟨_,?_,At.two (A1.one A.sp) (bO.accept A1 .dH)⟩
 rw[ha]
 exact bH rfl rfl (aF (bi (aJ (aa rfl) rfl rfl) (aF (bE (aJ (aa rfl) rfl rfl) (aw (aX A am rfl rfl) (aw (xq A1 rfl rfl) (ua (A1.accept .dH) rfl))))))) rfl
theorem NT{a k:Int}(ha:d.af= .dH)(hn:own .bX d.ext=some (.int a))(hk: ¬k<64):Acc cl fuel d (.int k) {d with ext:=put .bX (.int (a+k)) d.ext} (.ok (b8 d.col)):=by
 intro n h p S at_
 refine cR at_ fun c0 r0 k0 A=> ?_
 have x1:=nB (a:=a+k) A.ex
 have A1:=A.upd (d':={d with ext:=put .bX (.int (a+k)) d.ext}) rfl rfl rfl x1 A.wd
 refine⟨_,?_,A.done (d':={d with ext:=put .bX (.int (a+k)) d.ext}) rfl rfl rfl x1 A.wd⟩
 rw[ha]
 exact bH rfl rfl (aw (bi (aJ (aa rfl) rfl rfl) dM) (aw (jk (aa rfl) (A.get hn rfl) (aa rfl) rfl (A.put rfl)) (aw (bi (aJ (aa rfl) am (iC hk)) dM) (ua A1 rfl)))) rfl
theorem NU{a k:Int}(ha:d.af= .dH)(hn:own .bX d.ext=some (.int a))(hk:k<64):
 Acc cl fuel d (.int k) {d with ext:=put .cI (.int 0) (put .bX (.int (a+k)) d.ext),col:=1-d.col,af:= .dW} (.ok (b8 (1-d.col))):=by
 intro n h p S at_
 refine cR at_ fun c0 r0 k0 A=> ?_
 have x1:=nB (a:=a+k) A.ex
 have x3:=pB (a:=0) x1 (rA A.ex).1
 have A1:=A.upd (d':=d.pv (put .bX (.int (a+k)) d.ext)) rfl rfl rfl x1 A.wd
 have A2:=A1.upd (d':=d.pv (put .cI (.int 0) (put .bX (.int (a+k)) d.ext))) rfl rfl rfl x3 A.wd
 have A3:=A2.upd (d':=(d.pv (put .cI (.int 0) (put .bX (.int (a+k)) d.ext))).wZ (1-d.col)) rfl rfl rfl x3 A.wd
 refine⟨_,?_,At.two (A1.one A.sp) (At.two (A2.one A.sp) (At.two (A3.one A.sp) (bO.accept A3 .dW)))⟩
 rw[ha]
 exact bH rfl rfl (aw (bi (aJ (aa rfl) rfl rfl) dM) (aw (jk (aa rfl) (A.get hn rfl) (aa rfl) rfl (A.put rfl)) (aw (bE (aJ (aa rfl) am (kb hk)) (aw (aX A1 am rfl rfl) (aw (aX A2 (aS am (aE A2 rfl rfl rfl) rfl) rfl rfl)
  (aF (xq A3 rfl rfl))))) (ua (A3.accept .dW) rfl)))) rfl
theorem NV{a k:Int}(ha:d.af= .dW)(hn:own .cI d.ext=some (.int a))(pC: ∃b,own .bX d.ext=some (.int b))(hk: ¬k<64):Acc cl fuel d (.int k) {d with ext:=put .cI (.int (a+k)) d.ext} (.ok (b8 d.col)):=by
 intro n h p S at_
 obtain⟨c0,r0,k0,A⟩:=at_
 obtain⟨b,pC⟩:=pC
 have x1:=pB (a:=a+k) A.ex pC
 have A1:=A.upd (d':={d with ext:=put .cI (.int (a+k)) d.ext}) rfl rfl rfl x1 A.wd
 refine⟨_,?_,A.done (d':={d with ext:=put .cI (.int (a+k)) d.ext}) rfl rfl rfl x1 A.wd⟩
 rw[ha]
 exact bH rfl rfl (aw (bi (aJ (aa rfl) rfl rfl) dM) (aw (jk (aa rfl) (A.get hn rfl) (aa rfl) rfl (A.put rfl)) (aF (bi (aJ (aa rfl) am (iC hk)) (ua A1 rfl))))) rfl
theorem NW{a b k:Int}{n1 n2:Nat}{r:Except Cl T}(ha:d.af= .dW)(hn:own .cI d.ext=some (.int a))(pC:own .bX d.ext=some (.int b))(hk:k<64)(hb:b=n1)(NX:a+k=n2)
 (hl:d.cl.length=d.w) (hc: -1≤d.cp) (hw:d.cp.toNat+n1+n2≤d.w)
 (f:gA {d with ext:=put .cI (.int n2) d.ext,col:=1-d.col,af:= .b9,cl:=fill (fill d.cl d.cp.toNat n1 (1-d.col)) (d.cp.toNat+n1) n2 (1-(1-d.col)),cp:=((d.cp.toNat+n1+n2:Nat):Int)} d' r):Acc cl fuel d (.int k) d' r:=by
 intro n h p S at_
 obtain⟨c0,r0,k0,A⟩:=at_
 subst hb
 have x1:=pB (a:=(n2:Int)) A.ex pC
 have x3:=xp (v:= .int (n2:Int)) A.ex
 have A1:=A.upd (d':=d.pv (put .cI (.int (n2:Int)) d.ext)) rfl rfl rfl x1 A.wd
 have A2:=A1.upd (d':=(d.pv (put .cI (.int (n2:Int)) d.ext)).wZ (1-d.col)) rfl rfl rfl x1 A.wd
 have A3:=A2.accept .b9
 obtain⟨h3,f3,D4⟩:=NJ (cl:=cl) (fuel:=fuel) (n:=n+1) (n1:=n1) (n2:=n2) A3 hl hc hw
 have D5:=(bO.accept A2 .b9).then D4
 obtain⟨h6,f6,D6⟩:=xm (n:=n) (l:=fun m=>own m [(.self,.ref p),(.n,.int k)]) f D5.1 rfl
 refine⟨h6,?_,At.two (A1.one A.sp) (At.two (A2.one A.sp) (D5.then D6))⟩
 rw[ha]
 exact bH rfl rfl (aw (bi (aJ (aa rfl) rfl rfl) dM) (aw (jk (aa rfl) (A.get hn rfl) (aa rfl) (congrArg (fun x=>some (V.int x)) NX) (A.put rfl)) (aF (bE (aJ (aa rfl) am (kb hk)) (aw (aX A1 (aS am (aE A1 rfl rfl rfl) rfl) rfl rfl)
  (aw (xq A2 rfl rfl) (aw (aM A3 rfl rfl (aT (aE A3 rfl (x3.2.trans pC) rfl) (aT (aE A3 rfl x3.1 rfl) bh)) f3) f6))))))) (xn f)
end
noncomputable def sr:Option Cl→CR
 |none=> .ret .none
 |some c=> .exc c
noncomputable def kg(cl:CL→List V)(fuel:Nat)(d:PC)(b:Bool)(d':PC)(r:Option Cl):Prop:= ∀{n:Nat}{h:H}{p:Nat}{S:Nat→Prop}{x:Int},cZ h p d S→(x !=0)=b→
 ∃h',(Cn cl fuel (n+4)).call .kx [.ref p,.int x] [] h=some (sr r,h')∧bO h p S d' h'
noncomputable def gV:T→Bool
 | .node .. =>true
 |_=>false
theorem CX(h:H)(t:T)(e:gV t=false):kG h t.v .list=some false:=by induction t<;>first|rfl|cases e
section
variable{cl:CL→List V}{fuel:Nat}{d d':PC}{b:Bool}
theorem CY{C:Cx}{lo:L}{h:H}{p c0 r0 k0:Nat}{S:Nat→Prop}{x:Int}{l r:T}(A:At h p d S c0 r0 k0)(e:d.st= .node l r)(s:lo .self=some (.ref p))(m:lo .x=some (.int x))(hx:(x !=0)=b):
 ev C lo (.bz (.tr (.loc .x)) (.sub (.attr (.loc .self) .fY) (.int 1)) (.sub (.attr (.loc .self) .fY) (.int 0))) h=some ((if b then r else l).v,h):=by
 have u:=bG (C:=C) (h:=h) (aa m) (congrArg some hx)
 have g:=aE (C:=C) A s (show own .fY (d.at c0 r0 k0)=some (.tree (.node l r))from e▸rfl) rfl
 induction b with
 |true=>exact gS u (dz g am rfl)
 |false=>exact gT u (dz g am rfl)
theorem CZ{l r l' r':T}(e:d.st= .node l r)(c:(if b then r else l)= .node l' r'):kg cl fuel d b {d with st:= .node l' r',pos:=d.pos+1} none:=by
 intro n h p S x at_ hx
 refine cR at_ fun c0 r0 k0 A=> ?_
 have A1:=A.upd (d':=d.w8 (d.pos+1)) rfl rfl rfl A.ex A.wd
 have A2:=A1.upd (d':=(d.w8 (d.pos+1)).CE (.node l' r')) rfl rfl rfl A.ex A.wd
 have g:=CY (C:=Cn cl fuel (n+3)) (lo:=fun m=>own m [(.self,.ref p),(.x,.int x)]) A e rfl rfl hx
 rw[c]at g
 exact⟨_,bH rfl rfl (aw (aV g) (aw (jk (aa rfl) (A.get rfl rfl) am rfl (A.put rfl)) (aF (bE (bG (oZ (aa rfl) rfl) rfl) (aF (aX A1 (aa rfl) rfl rfl)))))) rfl,At.two (A1.one A.sp) (A2.one A.sp)⟩
theorem C0{l r t:T}{q:Except Cl T}(e:d.st= .node l r)(c:(if b then r else l)=t)(ht:gV t=false)(ac:Acc cl fuel {d with pos:=d.pos+1} t d' q):
 kg cl fuel d b (match q with| .ok t'=>{d' with st:=t'}| .error _=>d') (match q with| .ok _=>none| .error c=>some c):=by
 intro n h p S x at_ hx
 refine cR at_ fun c0 r0 k0 A=> ?_
 have A1:=A.upd (d':=d.w8 (d.pos+1)) rfl rfl rfl A.ex A.wd
 refine aA (ac (n:=n) ⟨_,_,_,A1⟩) fun h2 f2 D2=> ?_
 have D3:=At.two (A1.one A.sp) D2
 refine cR D3.1 fun c5 r5 k5 A5=> ?_
 have g:=CY (C:=Cn cl fuel (n+3)) (lo:=fun m=>own m [(.self,.ref p),(.x,.int x)]) A e rfl rfl hx
 rw[c]at g
 have u:=aJ (C:=Cn cl fuel (n+3)) (p:= .pU) (aE A1 (l:=L.set (fun m=>own m [(.self,.ref p),(.x,.int x)]) .v t.v) (m:= .self) rfl (n:= .eX) rfl rfl) (rfl:ev _ _ .none _=some (.none,_)) (show cK _ _ _ _ _=some true from rfl)
 induction q with
 |ok t'=>
  exact⟨_,bH rfl rfl (aw (aV g) (aw (jk (aa rfl) (A.get rfl rfl) am rfl (A.put rfl)) (aF (bi (bG (oZ (aa rfl) (CX _ _ ht)) rfl) (aw (Cb u)
   (aF (aX A5 (nj (aa rfl) (A1.own rfl rfl) (aT (aa rfl) bh) (CG A1.ac f2)) rfl rfl))))))) rfl,D3.then (A5.done (d':=d'.CE t') rfl rfl rfl A5.ex A5.wd)⟩
 |error k=>
  exact⟨_,bH rfl rfl (aw (aV g) (aw (jk (aa rfl) (A.get rfl rfl) am rfl (A.put rfl)) (aF (bi (bG (oZ (aa rfl) (CX _ _ ht)) rfl) (aw (Cb u)
   (aF (Np (o0 (aa rfl) (A1.own rfl rfl) (aT (aa rfl) bh) (CG A1.ac f2))))))))) rfl,D3⟩
end
inductive bp(cl:CL→List V)(fuel:Nat):PC→List Bool→PC→Option Cl→Prop
 |nil (d:PC):bp cl fuel d [] d none
 |cons {d d1 d2:PC} {b:Bool} {bs:List Bool} {r:Option Cl}:kg cl fuel d b d1 none→bp cl fuel d1 bs d2 r→bp cl fuel d (b::bs) d2 r
 |stop {d d1:PC} {b:Bool} {c:Cl}:kg cl fuel d b d1 (some c)→bp cl fuel d [b] d1 (some c)
theorem bp.append {cl:CL→List V} {fuel:Nat} {d d1 d2:PC} {as bs:List Bool} {r:Option Cl} (x:bp cl fuel d as d1 none) (y:bp cl fuel d1 bs d2 r):bp cl fuel d (as++bs) d2 r:=by
 induction as generalizing d with
 |nil=>cases x;exact y
 |cons a as ih=>
  cases x with
  |cons b f=>exact .cons b (ih f)
inductive cF|go|stop|bad (c:Cl)
noncomputable def xr:Option Cl→Fl
 |none=> .next
 |some c=> .exc c
noncomputable def NY:cF→Fl
 | .go=> .next
 | .stop=> .brk
 | .bad c=> .exc c
noncomputable def NZ:cF→Fl
 | .go=> .next
 | .stop=> .next
 | .bad c=> .exc c
noncomputable def C1:cF→CR
 | .go=> .ret .none
 | .stop=> .ret .none
 | .bad c=> .exc c
noncomputable def C2:List Nat:=[128,64,32,16,8,4,2,1]
noncomputable def jn(v:Nat):List Bool:=C2.map fun m=>v&&&m !=0
noncomputable def handled(d:PC):PC:={d with af:= .b9,st:=ca}
inductive fS(cl:CL→List V)(fuel:Nat)(d:PC)(c:List Bool):PC→cF→Prop
 |go {d1:PC}:bp cl fuel d c d1 none→fS cl fuel d c d1 .go
 |skip {d1:PC} (X Y:List Bool):c=X++Y→bp cl fuel d X d1 (some .dB)→fS cl fuel d c (handled d1) .go
 |stop {d1:PC} (X Y:List Bool):c=X++Y→bp cl fuel d X d1 (some .ey)→fS cl fuel d c d1 .stop
 |bad {d1:PC} (X Y:List Bool):c=X++Y→bp cl fuel d X d1 (some .cv)→fS cl fuel d c d1 (.bad .cv)
inductive Bytes(cl:CL→List V)(fuel:Nat):PC→List UInt8→PC→cF→Prop
 |nil (d:PC):Bytes cl fuel d [] d .go
 |cons {d d1 d2:PC} {b:UInt8} {bs:List UInt8} {s:cF}:fS cl fuel d (jn b.toNat) d1 .go→Bytes cl fuel d1 bs d2 s→Bytes cl fuel d (b::bs) d2 s
 |stop {d d1:PC} {b:UInt8} {bs:List UInt8}:fS cl fuel d (jn b.toNat) d1 .stop→Bytes cl fuel d (b::bs) d1 .stop
 |bad {d d1:PC} {b:UInt8} {bs:List UInt8} {c:Cl}:fS cl fuel d (jn b.toNat) d1 (.bad c)→Bytes cl fuel d (b::bs) d1 (.bad c)
noncomputable def ub:SS:=(.cons (.expr (.bg (.loc .self) .kx (.cons (.bin .band (.loc .byte) (.loc .m)) .nil) []))
 .nil)
section
variable{cl:CL→List V}{fuel n:Nat}{d d':PC}{p:Nat}
theorem C3{b:Bool}{d d1:PC}{r:Option Cl}{m v:Nat}{l:L}{h:H}{S:Nat→Prop}(x:kg cl fuel d b d1 r)(e:(v&&&m !=0)=b)(a:cZ h p d S)(hs:l .self=some (.ref p))(hb:l .byte=some (.int (v:Int))):
 ∃h1,ay (Cn cl fuel (n+4)) ub (l.set .m (.int (m:Int))) h=some (xr r,l.set .m (.int (m:Int)),h1)∧bO h p S d1 h1:=by
 refine aA (x (n:=n) (x:=((v&&&m:Nat):Int)) a (by rw[←e];cases v&&&m<;>rfl)) fun h1 f1 D1=> ?_
 refine cR a fun c0 r0 k0 A=> ?_
 have g:=aT (C:=Cn cl fuel (n+4)) (h:=h) (l:=l.set .m (.int (m:Int))) (aS (aa (n:= .byte) hb) (aa (n:= .m) rfl) ((Na _ _ _ _).trans (if_pos ⟨Int.natCast_nonneg _,Int.natCast_nonneg _⟩))) bh
 refine⟨h1,?_,D1⟩
 induction r with
 |none=>exact aF (aM A hs rfl g f1)
 |some c=>exact aF (CF A hs rfl g f1)
theorem N0{v:Nat}: ∀(ms:List Nat){d d':PC}{X Y:List Bool}{r:Option Cl}{l:L}{h:H}{S:Nat→Prop},bp cl fuel d X d' r→ms.map (fun m=>v&&&m !=0)=X++Y→(r=none→Y=[])→cZ h p d S→l .self=some (.ref p)→l .byte=some (.int (v:Int))→
 ∃l' h',bD (fun _=>true) (fun x l h=>ay (Cn cl fuel (n+4)) ub (l.set .m x) h) (ms.map fun(m:Nat)=>V.int (m:Int)) l h=some (xr r,l',h')∧bO h p S d' h'∧(∀m,m≠ .m→l' m=l m):=by
 intro ms
 induction ms with
 |nil=>
  intro d d' X Y r l h S f e y a hs hb
  induction f with
  |nil=>exact⟨l,h,rfl,.here a,fun _ _=>rfl⟩
  |cons b f=>exact(List.cons_ne_nil _ _ e.symm).elim
  |stop b=>exact(List.cons_ne_nil _ _ e.symm).elim
 |cons m ms ih=>
  intro d d' X Y r l h S f e y a hs hb
  induction f with
  |nil=>exact(List.cons_ne_nil _ _ (e.trans (y rfl))).elim
  |cons b f=>
   refine bn (List.cons.inj e) fun e1 e2=> ?_
   refine aA (C3 (n:=n) (m:=m) b e1 a hs hb) fun h1 f1 D1=> ?_
   refine d7 (ih (l:=l.set .m (.int (m:Int))) f e2 y D1.1 hs hb) fun l' h' g1 g2 g3=> ?_
   exact⟨l',h',j7 rfl f1 g1,D1.then g2,fun k hk=>(g3 k hk).trans (if_neg hk)⟩
  |stop b=>
   refine aA (C3 (n:=n) (m:=m) b (List.cons.inj e).1 a hs hb) fun h1 f1 D1=> ?_
   exact⟨_,h1,Cg rfl f1,D1,fun k hk=>if_neg hk⟩
noncomputable def C4:SS:=(.cons (.eZ (.cons (.bK .m (.tup (.cons (.int 128) (.cons (.int 64) (.cons (.int 32) (.cons (.int 16) (.cons (.int 8) (.cons (.int 4) (.cons (.int 2) (.cons (.int 1) .nil)))))))))
 ub)
 .nil)
 (.cons (.at_ .self .dB) [.dk .self .eX .self .b9,.dk .self .fY .self .ku] (.cons (.at_ .self .ey) [.brk] .nil)))
 .nil)
theorem uc{v:Nat}{X Y:List Bool}{r:Option Cl}{l:L}{h:H}{S:Nat→Prop}(f:bp cl fuel d X d' r)(e:jn v=X++Y)(y:r=none→Y=[])(a:cZ h p d S)(hs:l .self=some (.ref p))(hb:l .byte=some (.int (v:Int))):
 ∃l' h',ay (Cn cl fuel (n+4)) (.cons (.bK .m (.tup (.cons (.int 128) (.cons (.int 64) (.cons (.int 32) (.cons (.int 16) (.cons (.int 8) (.cons (.int 4) (.cons (.int 2) (.cons (.int 1) .nil))))))))) ub) .nil) l h=some (xr r,l',h')∧bO h p S d' h'∧(∀m,m≠ .m→l' m=l m):=by
 refine d7 (N0 (n:=n) C2 f e y a hs hb) fun l' h' g1 g2 g3=> ?_
 exact⟨l',h',aF (jl (Ch (aT am (aT am (aT am (aT am (aT am (aT am (aT am (aT am bh)))))))) (Nat.le_of_ble_eq_true rfl)) g1),g2,g3⟩
theorem xt{v:Nat}{s:cF}{l:L}{h:H}{S:Nat→Prop}(b:fS cl fuel d (jn v) d' s)(a:cZ h p d S)(hs:l .self=some (.ref p))(hb:l .byte=some (.int (v:Int))):
 ∃l' h',ay (Cn cl fuel (n+4)) C4 l h=some (NY s,l',h')∧bO h p S d' h'∧l' .self=l .self:=by
 induction b with
 |go f=>
  refine d7 (uc (n:=n) (Y:=[]) f (List.append_nil _).symm (fun _=>rfl) a hs hb) fun l' h' g1 g2 g3=> ?_
  exact⟨l',h',aF (wU g1),g2,g3 _ (by decide)⟩
 | @skip d1 X Y e f=>
  refine d7 (uc (n:=n) f e (fun h=>nomatch h) a hs hb) fun l' h' g1 g2 g3=> ?_
  refine cR g2.1 fun c0 r0 k0 A=> ?_
  have D2:=g2.then (bO.accept A .b9)
  have A2:=A.accept .b9
  have g4:=g3 .self (by decide)
  have iD:=g4.trans hs
  have A3:=A2.done (d':=handled _) rfl rfl rfl A.ex A.wd
  refine⟨l',_,aF (rc g1 rfl (Cr (f:= .next) (rd iD (A.cls rfl rfl)) rfl rfl (Cs (Ct (n:= .eX) iD iD (A.cls rfl rfl) ((A.push (.bg .b9 (.ref p))).put rfl)) (Cs (Ct (n:= .fY) iD iD (A2.cls rfl rfl) (A2.put rfl)) rfl)))),D2.then ?_,g4⟩
  have G:=CB S (h2:=(h'.push (.bg .b9 (.ref p))).set p (CC.ob (d1.pu .b9) c0 r0 h'.n)) g2.2.1 (Nat.le_succ h'.n)
  exact G▸A3
 |stop X Y e f=>
  refine d7 (uc (n:=n) f e (fun h=>nomatch h) a hs hb) fun l' h' g1 g2 g3=> ?_
  refine cR g2.1 fun c0 r0 k0 A=> ?_
  have g4:=g3 .self (by decide)
  have iD:=g4.trans hs
  exact⟨l',h',aF (rc g1 rfl (wV (rd iD (A.cls rfl rfl)) rfl (by decide) (Cr (f:= .brk) (rd iD (A.cls rfl rfl)) rfl rfl rfl))),g2,g4⟩
 |bad X Y e f=>
  refine d7 (uc (n:=n) f e (fun h=>nomatch h) a hs hb) fun l' h' g1 g2 g3=> ?_
  refine cR g2.1 fun c0 r0 k0 A=> ?_
  have g4:=g3 .self (by decide)
  have iD:=g4.trans hs
  exact⟨l',h',aF (rc g1 rfl (wV (rd iD (A.cls rfl rfl)) rfl (by decide) (wV (rd iD (A.cls rfl rfl)) rfl (by decide) rfl))),g2,g4⟩
theorem N5: ∀(bs:List UInt8){d d':PC}{s:cF}{l:L}{h:H}{S:Nat→Prop},Bytes cl fuel d bs d' s→cZ h p d S→l .self=some (.ref p)→
 ∃l' h',bD (fun _=>true) (fun x l h=>ay (Cn cl fuel (n+4)) C4 (l.set .byte x) h) (bs.map fun c=>V.int (c.toNat:Int)) l h=some (NZ s,l',h')∧bO h p S d' h':=by
 intro bs
 induction bs with
 |nil=>
  intro d d' s l h S b a hs
  cases b
  exact⟨l,h,rfl,.here a⟩
 |cons b bs ih=>
  intro d d' s l h S x a hs
  cases x with
  |cons x y=>
   refine d7 (xt (n:=n) (l:=l.set .byte (.int (b.toNat:Int))) x a hs rfl) fun l1 h1 f1 D1 g1=> ?_
   refine cQ (ih (l:=l1) y D1.1 (g1.trans hs)) fun l2 h2 f2 D2=> ?_
   exact⟨l2,h2,j7 rfl f1 f2,D1.then D2⟩
  |stop x=>
   refine d7 (xt (n:=n) (l:=l.set .byte (.int (b.toNat:Int))) x a hs rfl) fun l1 h1 f1 D1 g1=> ?_
   exact⟨l1,h1,MX rfl f1,D1⟩
  |bad x=>
   refine d7 (xt (n:=n) (l:=l.set .byte (.int (b.toNat:Int))) x a hs rfl) fun l1 h1 f1 D1 g1=> ?_
   exact⟨l1,h1,Cg rfl f1,D1⟩
theorem xu{bs:List UInt8}{s:cF}{h:H}{S:Nat→Prop}(b:Bytes cl fuel d bs d' s)(a:cZ h p d S):
 ∃h',(Cn cl fuel (n+5)).call .fC [.ref p,.bytes bs] [] h=some (C1 s,h')∧bO h p S d' h':=by
 refine cQ (N5 (n:=n) bs (l:=fun m=>own m [(.self,.ref p),(.data,.bytes bs)]) b a rfl) fun l' h' f1 D1=> ?_
 exact⟨h',bH rfl rfl (aF (MZ (aa rfl) f1)) (by induction s<;>rfl),D1⟩
end
noncomputable def fresh(w:Nat)(al rev:Option Bool):PC:=⟨w,al,rev,0,0,-1,1,ca,[],[],List.replicate w 1,List.replicate w 1,.b9⟩
section
variable{cl:CL→List V}{fuel n:Nat}{h:H}{p w:Nat}{al rev:Option Bool}
theorem N6(e:h.o p=some (.inst .ao [])):(Cn cl fuel (n+1)).call .pT [.ref p] [] h=some (.ret .none,h.set p (.inst .ao [(.hH,.int 0)])):=
 bH rfl rfl (aF (iX am rfl e rfl (Nat.le_of_ble_eq_true rfl))) rfl
theorem N7(e:h.o p=some (.inst .ao [(.hH,.int 0),(.width,.int (w:Int)),(.cM,bv al)]))(lp:p<h.n)(hw:1≤w∧w≤1000):
 ∃h' c r k,(Cn cl fuel (n+2)).call .reset [.ref p] [] h=some (.ret .none,h')∧
  h'.o p=some (.inst .ao [(.hH,.int 0),(.width,.int (w:Int)),(.cM,bv al),(.lO,.int 0),(.dC,.ref c),(.cJ,.ref r),(.d9,.int (-1)),(.bx,.int 1),(.eX,.ref k),(.fY,.tree ca)])∧
  h'.o c=some (.list ((List.replicate w (1:Int)).map .int))∧h'.o r=some (.list ((List.replicate w (1:Int)).map .int))∧h'.o k=some (.bg .b9 (.ref p))∧c≠r∧h.n≤c∧h.n≤r∧h.n≤k∧c<h'.n∧r<h'.n∧k<h'.n∧h.n≤h'.n∧ ∀i,i<h.n→i≠p→h'.o i=h.o i:=by
 have z: ∀{a:List (Nm×V)},Nat.ble a.length 400=true→a.length≤400:=Nat.le_of_ble_eq_true
 have w1:w≤100000:=by trace"ba1kAlA1000klnA100000kli hw"
 have k1:p<h.n+1:=by trace"caApBlApBpli lp"
 have k2:p<h.n+2:=by trace"caApBlApB2kali lp"
 have k3:p<h.n+3:=by trace"caApBlApB3kali lp"
 have k4:p<h.n+4:=by trace"caApBlApB4kali lp"
 have u:=bH (cl:=cl) (fuel:=fuel) (k:=n) (f:= .iP) (xs:=[.ref p]) (ks:=[]) (h:=((((h.set p (.inst .ao [(.hH,.int 0),(.width,.int (w:Int)),(.cM,bv al),(.lO,.int 0)])).push (.list [.int 1])).push (.list (List.replicate w (.int 1)))).set p (.inst .ao [(.hH,.int 0),(.width,.int (w:Int)),(.cM,bv al),(.lO,.int 0),(.dC,.ref (h.n+1))]))) rfl rfl
  (aw (iX (iE (bU _ _ _) rfl rfl rfl) rfl (bU _ _ _) rfl (z rfl)) (aw (iX (tZ (iE (uP (bU _ _ _) k2) rfl rfl rfl) w1) rfl (uP (uP (bU _ _ _) k2) k3) rfl (z rfl)) (aw (iX (gR am) rfl (bU _ _ _) rfl (z rfl)) (aF (iX am rfl (bU _ _ _) rfl (z rfl)))))) rfl
 have t:=bH (cl:=cl) (fuel:=fuel) (k:=n+1) (f:= .reset) (xs:=[.ref p]) (ks:=[]) (h:=h) rfl rfl
  (aw (iX am rfl e rfl (z rfl)) (aw (iX (tZ (iE (uP (bU _ _ _) lp) rfl rfl rfl) w1) rfl (uP (uP (bU _ _ _) lp) k1) rfl (z rfl)) (aw (iM (bU _ _ _) rfl rfl rfl bh u)
   (aw (iX (iK (bU _ _ _) rfl rfl rfl rfl) rfl (uP (bU _ _ _) k4) rfl (z rfl)) (aF (iX (iK (bU _ _ _) rfl rfl rfl rfl) rfl (bU _ _ _) rfl (z rfl))))))) rfl
 have q1:h.n+1≠p:=by trace"caBpAlApBexi lp"
 have q3:h.n+3≠p:=by trace"caBpAlA3kaBexi lp"
 have q4:h.n+4≠p:=by trace"caBpAlA4kaBexi lp"
 have rp:(List.replicate w (V.int 1))=(List.replicate w (1:Int)).map .int:=List.map_replicate.symm
 exact⟨_,h.n+3,h.n+1,h.n+4,t,(bU _ _ _),uS (uS (uP (uS (uS (uS (rp▸bB rfl) q3) q3) q3) (Nat.lt_succ_self _)) q3) q3,uS (uS (uP (uS (uS (uS (uP (uP (uS (uS (rp▸bB rfl) q1) q1) (Nat.lt_succ_self _)) (by show h.n+1<h.n+3;trace"baAppA3kal")) q1) q1) q1) (by show h.n+1<h.n+4;trace"baAppA4kal")) q1) q1,
  uS (uS (bB rfl) q4) q4,by trace"baA3kaApex",by trace"baAA3kal",by trace"baAApl",by trace"baAA4kal",by show h.n+3<h.n+5;trace"baA3kapA5kal",by show h.n+1<h.n+5;trace"baAppA5kal",by show h.n+4<h.n+5;trace"baA4kapA5kal",by show h.n≤h.n+5;trace"baAA5kal",
  fun i hi hp=>uS (uS (uP (uS (uS (uS (uP (uP (uS (uS (uP (uP (uS rfl hp) hi) (Nat.lt_succ_of_lt hi)) hp) hp) (by show i<h.n+2;trace"caApBlApB2kali hi")) (by show i<h.n+3;trace"caApBlApB3kali hi")) hp) hp) hp) (by show i<h.n+4;trace"caApBlApB4kali hi")) hp) hp⟩
theorem N8{l:L}(e:h.o p=some (.inst .ao []))(lp:p<h.n)(hw:1≤w∧w≤1000)(m0:l .self=some (.ref p))(m1:l .width=some (.int (w:Int)))(m2:l .cM=some (bv al))(m3:l .reversed=some (bv rev)):
 ∃h',ay (Cn cl fuel (n+3)) vc l h=some (.next,l,h')∧cZ h' p (fresh w al rev) (fun i=>i=p∨(h.n≤i∧i<h'.n))∧h.n≤h'.n∧ ∀i,i<h.n→i≠p→h'.o i=h.o i:=by
 have z: ∀{a:List (Nm×V)},Nat.ble a.length 400=true→a.length≤400:=Nat.le_of_ble_eq_true
 have SS: ∀{h:H}{x:O},(h.set p x).o p=some x:=bU _ _ _
 obtain⟨h',c,r,k,t1,t2,t3,t4,t5,t6,t7,t8,t9,N9,Oa,Ob,Oc,Od⟩:=N7 (cl:=cl) (fuel:=fuel) (n:=n) (p:=p) (w:=w) (al:=al) (h:=((h.set p (.inst .ao [(.hH,.int 0)])).set p (.inst .ao [(.hH,.int 0),(.width,.int (w:Int))])).set p (.inst .ao [(.hH,.int 0),(.width,.int (w:Int)),(.cM,bv al)])) SS lp hw
 have g:=bH (cl:=cl) (fuel:=fuel) (k:=n+2) (f:= .ky) (xs:=[.ref p,.int (w:Int)]) (ks:=[(.cM,bv al)]) (h:=h) rfl rfl
  (aw (nk (o0 (cD rfl) (ws:=[]) (b:= .fn .pT) rfl (aT (aa rfl) bh) (N6 (cl:=cl) (fuel:=fuel) (n:=n+1) e)) rfl) (aw (iX (aa rfl) rfl SS rfl (z rfl)) (aw (iX (aa rfl) rfl SS rfl (z rfl)) (aF (iM SS rfl rfl rfl bh t1))))) rfl
 have n0:h.n≤h'.n:=Oc
 refine⟨_,aw (nk (MP (cD rfl) (ws:=[]) (b:= .fn .ky) rfl (aT (aa m0) (aT (aa m1) (aT (aa m2) bh))) rfl g) rfl) (aw (iX (aa m3) m0 t2 rfl (z rfl)) (aF (iX rfl m0 SS rfl (z rfl)))),⟨c,r,k,?_⟩,n0,fun i hi hp=>uS (uS ((Od i hi hp).trans (uS (uS (uS rfl hp) hp) hp)) hp) hp⟩
 have t7:h.n≤c:=t7
 have t8:h.n≤r:=t8
 have t9:h.n≤k:=t9
 have c1:c≠p:=by trace"daCpBlBAlACexii lp t7"
 have c2:r≠p:=by trace"daCpBlBAlACexii lp t8"
 have c3:k≠p:=by trace"daCpBlBAlACexii lp t9"
 exact⟨SS,uS (uS t3 c1) c1,uS (uS t4 c2) c2,uS (uS t5 c3) c3,.inl rfl,.inr ⟨t7,N9⟩,.inr ⟨t8,Oa⟩,.inr ⟨t9,Ob⟩,t6,fun i q=>q.elim (fun q=>q.symm▸Nat.lt_of_lt_of_le lp n0) (·.2),.inl rfl,hw⟩
end
section
variable{cl:CL→List V}{fuel n:Nat}{h:H}{p w:Nat}{al rev:Option Bool}
noncomputable def ud(h h':H)(p:Nat)(d:PC):Prop:=cZ h' p d (fun i=>h.n≤i∧i<h'.n)∧h.n≤p∧h.n≤h'.n∧ ∀i,i<h.n→h'.o i=h.o i
theorem xv{l:L}(hw:1≤w∧w≤1000)(m0:l .self=some (.ref h.n))(m1:l .width=some (.int (w:Int)))(m2:l .cM=some (bv al))(m3:l .reversed=some (bv rev)):
 ∃h',ay (Cn cl fuel (n+3)) vc l (h.push (.inst .ao []))=some (.next,l,h')∧ud h h' h.n (fresh w al rev):=by
 refine jw (N8 (cl:=cl) (fuel:=fuel) (n:=n) (h:=h.push (.inst .ao [])) (p:=h.n) (al:=al) (rev:=rev) (bB rfl) (by rw[bN];trace"baApApl") hw m0 m1 m2 m3) fun h' f1 f2 f3 f4=> ?_
 rw[bN]at f2 f3 f4
 refine⟨h',f1,?_,Nat.le_refl _,by trace"caApBlABli f3",fun i hi=> ?_⟩
 ·have:(fun i=>i=h.n∨(h.n+1≤i∧i<h'.n))=fun i=>h.n≤i∧i<h'.n:=by
   funext i
   simp only[eq_iff_iff]
   trace"daCpAlBCeCpBlBpAlnoCBlBpAlnbi f3"
  rw[this]at f2
  exact f2
 ·rw[f4 i (by trace"caApBlApBpli hi") (by trace"caBpAlBAexi hi"),bM (by trace"caBpAlBAexi hi")]
theorem Oe(a r:Bool)(hw:1≤w∧w≤1000): ∃h',(Cn cl fuel (n+4)).call .fD [.ref h.n,.int (w:Int),.bool a,.bool r] [] (h.push (.inst .ao []))=some (.ret .none,h')∧ud h h' h.n (fresh w (some a) (some r)):=by
 refine aA (xv (cl:=cl) (fuel:=fuel) (n:=n) (h:=h) (al:=some a) (rev:=some r) (l:=fun m=>own m [(.self,.ref h.n),(.width,.int (w:Int)),(.cM,.bool a),(.reversed,.bool r)]) hw rfl rfl rfl rfl) fun h' f1 f2=> ?_
 exact⟨h',bH rfl rfl f1 rfl,f2⟩
theorem Of(a:Bool)(hw:1≤w∧w≤1000): ∃h',(Cn cl fuel (n+4)).call .fD [.ref h.n,.int (w:Int),.bool a] [] (h.push (.inst .ao []))=some (.ret .none,h')∧ud h h' h.n (fresh w (some a) (some false)):=by
 refine aA (xv (cl:=cl) (fuel:=fuel) (n:=n) (h:=h) (al:=some a) (rev:=some false) (l:=fun m=>own m [(.self,.ref h.n),(.width,.int (w:Int)),(.cM,.bool a),(.reversed,.bool false)]) hw rfl rfl rfl rfl) fun h' f1 f2=> ?_
 exact⟨h',bH rfl rfl f1 rfl,f2⟩
theorem Og(al rev:Option Bool)(hw:1≤w∧w≤1000): ∃h',(Cn cl fuel (n+4)).call .fD [.ref h.n,.int (w:Int)] [(.cM,bv al),(.reversed,bv rev)] (h.push (.inst .ao []))=some (.ret .none,h')∧ud h h' h.n (fresh w al rev):=by
 refine aA (xv (cl:=cl) (fuel:=fuel) (n:=n) (h:=h) (al:=al) (rev:=rev) (l:=fun m=>own m [(.self,.ref h.n),(.width,.int (w:Int)),(.cM,bv al),(.reversed,bv rev)]) hw rfl rfl rfl rfl) fun h' f1 f2=> ?_
 exact⟨h',bH rfl rfl f1 rfl,f2⟩
theorem xw{d:PC}{S:Nat→Prop}(a:cZ h p d S):(Cn cl fuel (n+1)).call .close [.ref p] [] h=some (.ret (.bytes d.buf),h):=by
 refine cR a fun c0 r0 k0 A=> ?_
 exact bH rfl rfl (em (fy (aE A rfl rfl rfl))) rfl
theorem xx(a v:V):(Cn cl fuel (n+1)).call .cast [a,v] [] h=some (.ret v,h):=bH rfl rfl (em (fy (aa rfl))) rfl
theorem Oh{q:Nat}{es:List (Nm×V)}{data:List UInt8}{d':PC}{s:cF}(e:h.o q=some (.dict es))(k:own .K es=some (.int (-1)))(c:own .lR es=some (.int (w:Int)))(a:(own .lS es).getD .none=bv al)(b:(own .lT es).getD .none=bv rev)(hw:1≤w∧w≤1000)
 (f:Bytes cl fuel (fresh w al rev) data d' s) (hs: ∀c,s≠ .bad c): ∃h',(Cn cl fuel (n+6)).call .gI [.bytes data,.ref q] [] h=some (.ret (.bytes d'.buf),h')∧h.n≤h'.n∧ ∀i,i<h.n→h'.o i=h.o i:=by
 refine lJ (Og (cl:=cl) (fuel:=fuel) (n:=n+1) (h:=h) al rev hw) fun h1 f1 A1 N1 N2 N3=> ?_
 refine aA (xu (n:=n) f A1) fun h2 f2 D2=> ?_
 have f3:=xw (cl:=cl) (fuel:=fuel) (n:=n+4) D2.1
 refine cR A1 fun c0 r0 k0 A=> ?_
 refine cR D2.1 fun c1 r1 k1 B=> ?_
 refine⟨h2,?_,Nat.le_trans N2 D2.2.1,fun i hi=>(D2.2.2 i (Nat.lt_of_lt_of_le hi N2) (fun q=>absurd q.1 (Nat.not_le_of_lt hi))).trans (N3 i hi)⟩
 have hc:C1 s= .ret .none:=by
  induction s with
  |bad c=>exact absurd rfl (hs c)
  |_=>rfl
 rw[hc]at f2
 exact bH rfl rfl (aw (aV (q8 (aa rfl) e (by rw[k];rfl))) (aw (bE (aJ (aa rfl) (gR am) (nv rfl)) (aw (aV (eV (cD rfl) (aT (cD rfl) (aT (q8 (aa rfl) e (by rw[c];rfl)) bh)) (xx _ _)))
  (aw (aV (eV (cD rfl) (aT (cD rfl) (aT (q8 (aa rfl) e a) bh)) (xx _ _))) (aw (aV (eV (cD rfl) (aT (cD rfl) (aT (q8 (aa rfl) e b) bh)) (xx _ _)))
  (aF (aV (MN (cD rfl) (aT (aa rfl) (aT (aa rfl) (aT (aa rfl) bh))) rfl (w9 f1))))))))
  (aw (aM A (m:= .parser) rfl rfl (aT (aa rfl) bh) f2) (em (fy (nj (aa rfl) (B.fn rfl) bh f3)))))) rfl
theorem Oi{q:Nat}{es:List (Nm×V)}{data:List UInt8}{k:Int}(e:h.o q=some (.dict es))(hk:own .K es=some (.int k))(k1:k≠ -1):(Cn cl fuel (n+6)).call .gI [.bytes data,.ref q] [] h=some (.exc .gG,h):=by
 exact bH rfl rfl (aw (aV (q8 (aa rfl) e (by rw[hk];rfl))) (nu (bi (aJ (aa rfl) (gR am) (lu k1)) (aF (MV (cD rfl) rfl (aa rfl)))))) rfl
end
noncomputable def aL(b:List Bool):List Nat:=b.map fun x=>if x then 49 else 48
noncomputable def xy:V→List Bool
 | .str s=>s.map (·==49)
 |_=>[]
noncomputable def iF(w:Bool)(n:Nat):List Bool:=(((if w then jH .eO else jH .black)[n]?).map xy).getD []
noncomputable def lA(w:Bool)(n:Nat):List Bool:=(((if w then jH .kz else jH .kA)[n]?).map xy).getD []
noncomputable def dP(w:Bool)(n:Nat):List Bool:=if n<64 then iF w n else lA w (n/64-1)++iF w (n%64)
theorem Oj: ∀w:Bool,∀n,n<64→(if w then jH .eO else jH .black)[n]? =some (.str (aL (iF w n))):=by decide+kernel
theorem Ok: ∀w:Bool,∀n,n<8→(if w then jH .kz else jH .kA)[n]? =some (.str (aL (lA w n))):=by decide+kernel
noncomputable def iG(n:Nat):List Bool:=([[false,false,false,false,false,true,false],[false,false,false,false,true,false],[false,true,false],[true],[false,true,true],[false,false,false,false,true,true],[false,false,false,false,false,true,true]]:List (List Bool)).getD n []
noncomputable def nE:List V:=[.str [48,48,48,48,48,49,48],.str [48,48,48,48,49,48],.str [48,49,48],.str [49],.str [48,49,49],.str [48,48,48,48,49,49],.str [48,48,48,48,48,49,49]]
theorem Ol: ∀n,n<7→nE[n]? =some (.str (aL (iG n))):=by decide
noncomputable def dG:List V:=[.str [48,48,48,48,48,48,49,48,48,48],.str [48,48,48,48,48,48,49,48,48,49],.str [48,48,48,48,48,48,49,48,49,48],.str [48,48,48,48,48,48,49,48,49,49],.str [48,48,48,48,48,48,49,49,48,48],
 .str [48,48,48,48,48,48,49,49,48,49],.str [48,48,48,48,48,48,49,49,49,48],.str [48,48,48,48,48,48,48,49],.str [48,48,48,48,48,48,48,48,48,48,48,48],.str [48,48,48,48,48,48,48,48,48,48,48,49,49],
 .str [48,48,48,48,48,48,48,48,48,48,48,49,48,48,48,48,48,48,48,48,48,48,48,48,48,48],.str [48,48,49,48,48,48,48,48,48,48,48],.str [48,48,49,48,48,49,49,48,49,48,49,48,48,48,48,48,48,48,48]]
noncomputable def fz(n:Nat):List Bool:=((dG[n]?).map xy).getD []
theorem Om: ∀n,n<13→dG[n]? =some (.str (aL (fz n))):=by decide+kernel
section
variable{ak:List Int}{fuel n:Nat}{h:H}
theorem On(cl:CL→List V):(Cn cl fuel (n+1)).call .jx [] [] h=some (.ret (.ref h.n),h.push (.list nE)):=
 bH rfl rfl (em (fy (dF (vs:=nE) rfl (Nat.le_of_ble_eq_true rfl)))) rfl
theorem C5(cl:CL→List V):(Cn cl fuel (n+1)).call .hK [] [] h=some (.ret (.ref h.n),h.push (.list dG)):=
 bH rfl rfl (em (fy (dF (vs:=dG) rfl (Nat.le_of_ble_eq_true rfl)))) rfl
theorem ue: ∀w:Bool,(∀n,n<64→(iF w n).length≤14)∧ ∀n,n<8→(lA w n).length≤14:=by decide+kernel
theorem cT(b:List Bool):(aL b).length=b.length:=by simp[aL]
theorem kh(a b:List Bool):aL (a++b)=aL a++aL b:=by simp[aL]
theorem C6(w:Bool)(size:Nat)(hs:size≤575):(Cn (aj ak) fuel (n+1)).call .gH [.int (size:Int),.bool w] [] h=some (.ret (.str (aL (dP w size))),h):=by
 have near: ∀{l:L},l .eO=some (.bool w)→ev (Cn (aj ak) fuel n) l (.bz (.tr (.loc .eO)) (.glob .uQ) (.glob .uR)) h=some (.b7 (if w then .eO else .black),h):=fun e=>by
  induction w with
  |true=>exact gS (bG (aa e) rfl) (cD rfl)
  |false=>exact gT (bG (aa e) rfl) (cD rfl)
 have Oo: ∀{l:L},l .eO=some (.bool w)→ev (Cn (aj ak) fuel n) l (.bz (.tr (.loc .eO)) (.glob .uT) (.glob .uU)) h=some (.b7 (if w then .kz else .kA),h):=fun e=>by
  induction w with
  |true=>exact gS (bG (aa e) rfl) (cD rfl)
  |false=>exact gT (bG (aa e) rfl) (cD rfl)
 have at_: ∀{c:CL}{k:Nat}{v:V},(aj ak c)[k]? =some v→idx (Cn (aj ak) fuel n) h (.b7 c) (.int (k:Int))=some v:=fun{c k v} g=>(rh _ h c (k:Int)).trans ((if_pos (Int.natCast_nonneg k)).trans (by rw[wX];exact g))
 have g1: ∀k,k<64→(aj ak (if w then .eO else .black))[k]? =some (.str (aL (iF w k))):=fun k q=>by
  have:=Oj w k q
  induction w<;>exact this
 have g2: ∀k,k<8→(aj ak (if w then .kz else .kA))[k]? =some (.str (aL (lA w k))):=fun k q=>by
  have:=Ok w k q
  induction w<;>exact this
 unfold dP
 by_cases q:size<64
 ·rw[if_pos q]
  exact bH rfl rfl (aw (aV (near rfl)) (em (bE (aJ (aa rfl) am (kb (by trace"baA575klAp64klAcq64zrii hs q"))) (em (fy (dz (aa rfl) (aa rfl) (at_ (g1 _ q)))))))) rfl
 ·rw[if_neg q]
  have k1:=(ue w).1 (size%64) (Nat.mod_lt _ (by decide))
  have k2:=(ue w).2 (size/64-1) (by trace"eaD575klDp64klx1kClApCenC1klA0kenoBC64maDeBp64klnAp8kliiii hs q .s .d64")
  have k3:(aL (lA w (size/64-1))).length+(aL (iF w (size%64))).length≤aU:=by rw[cT,cT];simp only[aU];trace"caA14klB14klBAa16777216klii k1 k2"
  have b: ∀{l:L},l .size=some (.int (size:Int))→ev (Cn (aj ak) fuel n) l (.bin .sub (.bin .div (.loc .size) (.int 64)) (.int 1)) h=some (.int ((size/64-1:Nat):Int),h):=fun e=>aS (tO (k:=64) (aa e) (by decide)) am (congrArg (fun i=>some (V.int i,h)) (show((size/64:Nat):Int)-1=((size/64-1:Nat):Int) by trace"eaD575klDp64klx1kClApCenC1klA0kenoBC64maDeBp64klnCc1zsAcjiiii hs q .s .d64"))
  rw[kh]
  exact bH rfl rfl (aw (aV (near rfl)) (aw (bi (aJ (aa rfl) am (iC (by trace"baA575klAp64klxAcq64zrxii hs q"))) dM) (em (fy (aS (dz (Oo rfl) (b rfl) (at_ (g2 _ (by trace"eaD575klDp64klx1kClApCenC1klA0kenoBC64maDeBp64klnAp8kliiii hs q .s .d64")))) (dz (aa rfl) (tP (k:=64) (aa rfl) (by decide)) (at_ (g1 _ (Nat.mod_lt _ (by decide))))) ((lm _ _ _ _).trans (if_pos k3))))))) rfl
end
noncomputable def nl(l:List Nat):List V:=l.map fun(x:Nat)=>V.int (x:Int)
theorem xz(l:List Nat):(nl l).length=l.length:=by simp[nl]
theorem xA(l:List Nat)(i:Nat):(nl l)[i]? =(l[i]?).map fun(x:Nat)=>V.int (x:Int):=by simp[nl]
structure lC(above:List Nat)(place:Int)(k j:Nat):Prop where
 par:j%2=k%2
 low: ∀i,i%2=k%2→i<j→ ∃x:Nat,above[i]? =some x∧(x:Int)≤place
 hi: ∀x:Nat,above[j]? =some x→place<(x:Int)
noncomputable def Pk(row:List Nat)(p:Int)(k:Nat):Prop:= ∀(i x:Nat),row[i]? =some x→(k≤i↔p<(x:Int))
structure bw(row:List Nat)(w:Nat):Prop where
 sorted: ∀(i j x y:Nat),row[i]? =some x→row[j]? =some y→i<j→x<y
 lt: ∀(i x:Nat),row[i]? =some x→x<w
 len:row.length≤500
inductive er(above row:List Nat)(w:Nat):Int→Nat→List (List Bool)→Prop
 |done {p:Int} {k:Nat}:(w:Int)≤p→er above row w p k []
 |rB {p:Int} {k j one first:Nat} {cs:List (List Bool)}:p<(w:Int)→lC above p k j→one=row.getD k w→first=above.getD j w→first≤one+3→one≤first+3→er above row w (one:Int) (k+1) cs→er above row w p k (iG (one+3-first)::cs)
 |pass {p:Int} {k j one second:Nat} {cs:List (List Bool)}:p<(w:Int)→lC above p k j→one=row.getD k w→second=above.getD (j+1) w→second<one→er above row w (second:Int) k cs→er above row w p k ([false,false,false,true]::cs)
 |uf {p:Int} {k one two:Nat} {cs:List (List Bool)}:p<(w:Int)→one=row.getD k w→two=row.getD (k+1) w→er above row w (two:Int) (k+2) cs→er above row w p k (((([false,false,true]++dP (k%2==0) (one-p.toNat))++dP (k%2==1) (two-one)):List Bool)::cs)
section
variable{row:List Nat}{w k:Nat}{p:Int}
theorem iH(l:List Nat)(k w:Nat):(∃x,l[k]? =some x∧l.getD k w=x)∨(l[k]? =none∧l.getD k w=w):=by
 cases e:l[k]? with
 |some x=>exact .inl ⟨x,rfl,by simp[List.getD,e]⟩
 |none=>exact .inr ⟨rfl,by simp[List.getD,e]⟩
theorem rC(P:Pk row p k)(hp:p<(w:Int)):p<(row.getD k w:Int):=by
 rcases iH row k w with⟨x,e1,e2⟩|⟨e1,e2⟩
 ·rw[e2];exact(P k x e1).mp (Nat.le_refl _)
 ·rw[e2];exact hp
theorem et(R:bw row w):row.getD k w≤w:=by
 rcases iH row k w with⟨x,e1,e2⟩|⟨e1,e2⟩
 ·rw[e2];exact Nat.le_of_lt (R.lt _ _ e1)
 ·trace"caABeABli e2"
theorem pD(R:bw row w):row.getD k w≤row.getD (k+1) w:=by
 rcases iH row (k+1) w with⟨x,e1,e2⟩|⟨e1,e2⟩
 ·have hk:k<row.length:=by
   have:k+1<row.length:=by
    apply Nat.lt_of_not_le
    intro q
    rw[List.getElem?_eq_none q]at e1;cases e1
   trace"caAppBlApBli this"
  rcases iH row k w with⟨y,f1,f2⟩|⟨f1,f2⟩
  ·rw[e2,f2];exact Nat.le_of_lt (R.sorted _ _ _ _ f1 e1 (Nat.lt_succ_self _))
  ·rw[List.getElem?_eq_getElem hk]at f1;cases f1
 ·rw[e2];exact et R
theorem Pk.next (R:bw row w) (P:Pk row p k):Pk row (row.getD k w:Int) (k+1):=by
 intro i x e
 rcases iH row k w with⟨y,f1,f2⟩|⟨f1,f2⟩
 ·rw[f2]
  constructor
  ·intro h
   have:=R.sorted _ _ _ _ f1 e (by trace"caApBlApBli h")
   trace"caApBlAcqBcri this"
  ·intro h
   apply Nat.lt_of_not_le
   intro q
   by_cases z:i=k
   ·subst z;rw[f1]at e;cases e;trace"baAcqAcrx h"
   ·have:=R.sorted _ _ _ _ e f1 (by trace"caABlABexApBlii q z");trace"caAcqBcrBpAlxi h this"
 ·rw[f2]
  have h1:=R.lt _ _ e
  constructor
  ·intro h
   have:k<row.length:=by
    have:i<row.length:=by
     apply Nat.lt_of_not_le
     intro q
     rw[List.getElem?_eq_none q]at e;cases e
    trace"daCpBlBpAlCpAlii h this"
   rw[List.getElem?_eq_getElem this]at f1;cases f1
  ·trace"eaBpClCcqBcrApDlii h1"
theorem Pk.two (R:bw row w) (P:Pk row p k):Pk row (row.getD (k+1) w:Int) (k+2):=(P.next R).next R
theorem Pk.pass {second:Nat} (R:bw row w) (P:Pk row p k) (h1:p<(second:Int)) (h2:second<row.getD k w):Pk row (second:Int) k:=by
 intro i x e
 constructor
 ·intro h
  rcases iH row k w with⟨y,f1,f2⟩|⟨f1,f2⟩
  ·rw[f2]at h2
   by_cases z:i=k
   ·subst z;rw[f1]at e;cases e;trace"daBpClACeBcqCcrii h2 f2"
   ·have:=R.sorted _ _ _ _ f1 e (by trace"caABlBAexApBlii h z");trace"eaBpDlADeDpClBcqCcriii h2 f2 this"
  ·have:k<row.length:=by
    have:i<row.length:=by
     apply Nat.lt_of_not_le
     intro q
     rw[List.getElem?_eq_none q]at e;cases e
    trace"daCBlBpAlCpAlii h this"
   rw[List.getElem?_eq_getElem this]at f1;cases f1
 ·intro h
  exact(P i x e).mpr (by trace"cbUqBcrBcqAcrUqAcrii h1 h")
theorem xB{above:List Nat}{j:Nat}(R:bw above w)(J:lC above p k j)(hp:p<(w:Int)):p<(above.getD (j+1) w:Int):=by
 rcases iH above (j+1) w with⟨x,e1,e2⟩|⟨e1,e2⟩
 ·rw[e2]
  have hk:j<above.length:=by
   have:j+1<above.length:=by
    apply Nat.lt_of_not_le
    intro q
    rw[List.getElem?_eq_none q]at e1;cases e1
   trace"caAppBlApBli this"
  have a:=J.hi _ (List.getElem?_eq_getElem hk)
  have b:=R.sorted _ _ _ _ (List.getElem?_eq_getElem hk) e1 (Nat.lt_succ_self _)
  trace"ebCpAlUqDcrDpBlUqBcriii hk a b"
 ·rw[e2];exact hp
end
noncomputable def xC:SS:= .cons (.aug .j .add (.int 2)) .nil
noncomputable def ug:Q:= .and (.cons (.cmp .lt (.loc .j) (.len (.loc .above))) (.cons (.cmp .le (.sub (.loc .above) (.loc .j)) (.loc .place)) .nil))
section
variable{C:Cx}{h:H}{a:Nat}{above:List Nat}{p:Int}
theorem Op(ha:h.o a=some (.list (nl above)))(hl:above.length≤500): ∀(f j:Nat)(l:L),l .above=some (.ref a)→l .place=some (.int p)→l .j=some (.int (j:Int))→j≤above.length+1→above.length+2≤f+j→
 ∃j':Nat,c7 (fun l h=>te C l ug h) (fun l h=>ay C xC l h) f l h=some (.next,l.set .j (.int (j':Int)),h)∧j'%2=j%2∧j≤j'∧(∀i:Nat,i%2=j%2→j≤i→i<j'→ ∃x:Nat,above[i]? =some x∧(x:Int)≤p)∧ ∀x:Nat,above[j']? =some x→p<(x:Int):=by
 intro f
 induction f with
 |zero=>
  intro j l h1 h2 h3 h0 h4
  trace"!caABplB2ka0kAalxi h0 h4"
 |succ f ih=>
  intro j l h1 h2 h3 h0 h4
  have ln:=iA (C:=C) (h:=h) (aa h1) (d6 ha)
  rw[xz]at ln
  have stop:(te C l ug h=some (false,h))→c7 (fun l h=>te C l ug h) (fun l h=>ay C xC l h) (f+1) l h=some (.next,l.set .j (.int (j:Int)),h):=fun t=>(wR t).trans (by rw[xc h3])
  by_cases q:j<above.length
  ·have e:above[j]? =some above[j]:=List.getElem?_eq_getElem q
   have u1:=aJ (C:=C) (aa h3) ln (kb (show(j:Int)<(above.length:Int) by trace"caApBlAcqBcri q"))
   have u2:=dz (C:=C) (aa h1) (aa h3) (rm ha (Int.natCast_nonneg j) (show(nl above)[j]? =some (.int (above[j]:Int)) by rw[xA,e];rfl))
   by_cases g:(above[j]:Int)≤p
   ·refine lJ (ih (j+2) (l.set .j (.int ((j+2:Nat):Int))) h1 h2 rfl (by trace"caApBlA2kaBpli q") (by trace"daB2kaApCalCpBlB2kaAC2kaalii h4 q")) fun j' r1 r2 r3 r4 r5=> ?_
    rw[xd]at r1
    refine⟨j',wS (o8 (o6 u1 (q9 (aJ u2 (aa h2) (lq g))))) (aF (ll h3 am rfl)) r1,by trace"jaGpDlFCeBH2maGeBp2klnCI2maG2kaeCp2klnFA2maEeFp2klnFBeiiiii q r2 .d2 .d2 .d2",by trace"haGpBlFDeG2kaElDC2maG2kaeDp2klnFA2maEeFp2klnGEliiiii q r2 r3 .d2 .d2",fun i a b c=> ?_,r5⟩
    by_cases y:i=j
    ·subst y;exact⟨_,e,g⟩
    ·exact r4 i (by trace"maDpClBFeGKeKL2maDeKp2klnGA2maJeGp2klnFI2maD2kaeFp2klnBE2maHeBp2klnGFeiiiiiii q r2 a .d2 .d2 .d2 .d2") (by trace"maFpBlAKeCJeFGlGFexJL2maFeJp2klnCH2maGeCp2klnKD2maF2kaeKp2klnAE2maIeAp2klnF2kaGliiiiiiiii q r2 a b y .d2 .d2 .d2 .d2") c
   ·exact⟨j,stop (o8 (o6 u1 (q9 (aJ u2 (aa h2) (py g))))),rfl,Nat.le_refl _,fun i _ a b=>by trace"!haDpBlGCeDFlFpDlCA2maDeCp2klnGE2maFeGp2klnxiiiii q _ a b .d2 .d2",fun x e3=>by rw[e]at e3;cases e3;trace"dbBpAlCcUrxUqCcrii q g"⟩
  ·exact⟨j,stop (o8 (tR (aJ (aa h3) ln (iC (by trace"caBAplBpAlxBcqAcrxii h0 q"))))),rfl,Nat.le_refl _,fun i _ a b=>by trace"!gaDFeEClCpElFB2maEeFp2klnDA2maCeDp2klnxiiii _ a b .d2 .d2",fun x e3=>by rw[List.getElem?_eq_none (by trace"caBAplBpAlxABlii h0 q")]at e3;cases e3⟩
end
noncomputable def rE:CC.S:=(.ifs (.cmp .eq (.loc .way) (.int 1))
 (.cons (.expr (.append (.loc .codes) (.sub (.call (.glob .jx) .nil []) (.bin .add (.bin .sub (.loc .one) (.loc .first)) (.int 3)))))
 (.cons (.assign .place (.loc .one))
 (.cons (.aug .k .add (.int 1))
 .nil)))
 (.cons (.ifs (.cmp .eq (.loc .way) (.int 2))
 (.cons (.expr (.append (.loc .codes) (.str [48,48,48,49])))
 (.cons (.assign .place (.loc .second))
 .nil))
 (.cons (.expr (.append (.loc .codes) (.bin .add (.bin .add (.str [48,48,49]) (.call (.glob .gH) (.cons (.bin .sub (.loc .one) (.max2 (.loc .place) (.int 0))) (.cons (.cmp .eq (.bin .mod (.loc .k) (.int 2)) (.int 0)) .nil)) [])) (.call (.glob .gH) (.cons (.bin .sub (.loc .two) (.loc .one)) (.cons (.cmp .eq (.bin .mod (.loc .k) (.int 2)) (.int 1)) .nil)) []))))
 (.cons (.assign .place (.loc .two))
 (.cons (.aug .k .add (.int 2))
 .nil))))
 .nil))
noncomputable def C7:CC.S:=(.ifs (.not (.tr (.loc .wide)))
 (.cons (.ifs (.fH .le .le (.neg (.int 3)) (.bin .sub (.loc .one) (.loc .first)) (.int 3))
 (.cons (.expr (.append (.loc .ef) (.int 1)))
 .nil)
 .nil)
 (.cons (.ifs (.cmp .lt (.loc .second) (.loc .one))
 (.cons (.expr (.append (.loc .ef) (.int 2)))
 .nil)
 .nil)
 .nil))
 .nil)
noncomputable def C8:CC.S:= .assign .way (.sub (.loc .ef) (.bin .mod (.bin .div (.sub (.loc .picks) (.bin .mod (.bin .add (.loc .told) (.len (.loc .codes))) (.len (.loc .picks)))) (.int 8)) (.len (.loc .ef))))
noncomputable def xD:SS:=(.cons (.assign .one (.bz (.cmp .lt (.loc .k) (.len (.loc .row))) (.sub (.loc .row) (.loc .k)) (.loc .width)))
 (.cons (.assign .two (.bz (.cmp .lt (.bin .add (.loc .k) (.int 1)) (.len (.loc .row))) (.sub (.loc .row) (.bin .add (.loc .k) (.int 1))) (.loc .width)))
 (.cons (.assign .j (.bin .mod (.loc .k) (.int 2)))
 (.cons (.gK ug xC)
 (.cons (.assign .first (.bz (.cmp .lt (.loc .j) (.len (.loc .above))) (.sub (.loc .above) (.loc .j)) (.loc .width)))
 (.cons (.assign .second (.bz (.cmp .lt (.bin .add (.loc .j) (.int 1)) (.len (.loc .above))) (.sub (.loc .above) (.bin .add (.loc .j) (.int 1))) (.loc .width)))
 (.cons (.assign .ef (.list .nil))
 (.cons C7
 (.cons (.expr (.append (.loc .ef) (.int 0)))
 (.cons C8
 (.cons rE .nil)))))))))))
noncomputable def dA(cs:List (List Bool)):List V:=cs.map fun c=>V.str (aL c)
structure LS(l:L)(r a cd w:Nat)(wide:Bool)(told p:Int)(k:Nat):Prop where
 row:l .row=some (.ref r)
 above:l .above=some (.ref a)
 width:l .width=some (.int (w:Int))
 wide:l .wide=some (.bool wide)
 picks:l .picks=some (.b7 .ak)
 told:l .told=some (.int told)
 codes:l .codes=some (.ref cd)
 place:l .place=some (.int p)
 k:l .k=some (.int (k:Int))
section
variable{C:Cx}{h:H}{r:Nat}{row:List Nat}{l:L}
theorem rF{n:Nm}{j w:Nat}{x:X}(hr:h.o r=some (.list (nl row)))(hz:row.length≤500)(e1:l n=some (.ref r))(e2:ev C l x h=some (.int (j:Int),h))(e3:l .width=some (.int (w:Int))):
 ev C l (.bz (.cmp .lt x (.len (.loc n))) (.sub (.loc n) x) (.loc .width)) h=some (.int (row.getD j w:Int),h):=by
 have ln:=iA (C:=C) (h:=h) (aa e1) (d6 hr)
 rw[xz]at ln
 by_cases q:j<row.length
 ·have e5:(nl row)[((j:Nat):Int).toNat]? =some (.int (row.getD j w:Int)):=by rw[Int.toNat_natCast,xA,List.getD,List.getElem?_eq_getElem q];rfl
  exact gS (aJ e2 ln (kb (by trace"caApBlAcqBcri q"))) (dz (aa e1) e2 (rm hr (Int.natCast_nonneg j) e5))
 ·have e5:row.getD j w=w:=by rw[List.getD,List.getElem?_eq_none (by trace"caApBlxBAli q")];rfl
  rw[e5]
  exact gT (aJ e2 ln (iC (by trace"caApBlxAcqBcrxi q"))) (aa e3)
theorem iI(a:Int){b:Int}(hb:0<b):0≤a.fmod b∧a.fmod b<b:=by
 rw[Int.fmod_eq_emod_of_nonneg _ (Int.le_of_lt hb)]
 exact⟨Int.emod_nonneg _ (by trace"ab0zqUrU0zjxi hb"),Int.emod_lt_of_pos _ hb⟩
theorem Oq{ak:List Int}{codes:List V}{cd wy:Nat}{W:List Int}{told:Int}(hC:C.cl=aj ak)(hs:ak≠[])(h1:l .ef=some (.ref wy))(h2:h.o wy=some (.list (W.map .int)))(hw:W≠[])(hz:W.length≤3)
 (h3:l .picks=some (.b7 .ak)) (h4:l .told=some (.int told)) (h5:l .codes=some (.ref cd)) (h6:h.o cd=some (.list codes)): ∃m,m∈W∧ex C C8 l h=some (.next,l.set .way (.int m),h):=by
 have p1:0<ak.length:=List.length_pos_iff.mpr hs
 have p2:0<W.length:=List.length_pos_iff.mpr hw
 refine bn (iI (told+codes.length) (b:=(ak.length:Int)) (by trace"ba0kpAl0zqAcri p1")) fun b1 b2=> ?_
 have g1:(aj ak .ak)[((told+(codes.length:Int)).fmod (ak.length:Int)).toNat]? =some (.int (ak[((told+(codes.length:Int)).fmod (ak.length:Int)).toNat]'(by trace"cb0kpBlUqBcr0zUrAcUjnU0zrA0kenoApBliii p1 b2 .t"))):=by
  show(ak.map V.int)[_]? =_
  rw[List.getElem?_map,List.getElem?_eq_getElem (by trace"cb0kpBlUqBcr0zUrAcUjnU0zrA0kenoApBliii p1 b2 .t")]
  rfl
 obtain⟨v,hv⟩: ∃v,v=ak[((told+(codes.length:Int)).fmod (ak.length:Int)).toNat]'(by trace"cb0kpBlUqBcr0zUrAcUjnU0zrA0kenoApBliii p1 b2 .t"):=⟨_,rfl⟩
 rw[←hv]at g1
 refine bn (iI (v.fdiv 8) (b:=(W.length:Int)) (by trace"cbA3kl0kpBl0kpAlUqBcr0zqAcriiii hz p1 p2 b2")) fun c1 c2=> ?_
 have g2:(W.map V.int)[((v.fdiv 8).fmod (W.length:Int)).toNat]? =some (.int (W[((v.fdiv 8).fmod (W.length:Int)).toNat]'(by trace"dcC3kl0kpAl0kpClVqAcrUqCcr0zUrBcUjnU0zrB0kenoBpCliiiiii hz p1 p2 b2 c2 .t"))):=by
  rw[List.getElem?_map,List.getElem?_eq_getElem (by trace"dcC3kl0kpAl0kpClVqAcrUqCcr0zUrBcUjnU0zrB0kenoBpCliiiiii hz p1 p2 b2 c2 .t")]
  rfl
 have n1:((ak.length:Nat):Int)≠0:=by trace"bb0kpAlUqAcrAc0zjxii p1 b2"
 have n2:((W.length:Nat):Int)≠0:=by trace"cbA3kl0kpBl0kpAlUqBcrAc0zjxiiii hz p1 p2 b2"
 have n3:(aj ak .ak).length=ak.length:=by simp[aj]
 have n4:(8:Int)≠0∧(8:Int).natAbs<1073741824:=by decide
 have lc:=iA (C:=C) (h:=h) (aa h5) (d6 h6)
 have lp:ev C l (.len (.loc .picks)) h=some (.int (ak.length:Int),h):=(BX (aa h3)).trans (by rw[hC,n3])
 have lw:=iA (C:=C) (h:=h) (aa h1) (d6 h2)
 rw[List.length_map]at lw
 have m1:=aS (aS (o:= .add) (aa h4) lc rfl) lp ((gU _ _ _ _).trans (if_pos n1))
 have p0:=dz (aa h3) m1 ((rh _ _ _ _).trans ((if_pos b1).trans (by rw[hC];exact g1)))
 exact⟨_,List.getElem_mem (l:=W) (n:=((v.fdiv 8).fmod (W.length:Int)).toNat) (by trace"dcC3kl0kpAl0kpClVqAcrUqCcr0zUrBcUjnU0zrB0kenoBpCliiiiii hz p1 p2 b2 c2 .t"),aV (dz (aa h1) (aS (aS p0 (am (i:=8)) ((tW _ _ _ _).trans (if_pos n4))) lw ((gU _ _ _ _).trans (if_pos n2))) (rm h2 c1 g2))⟩
theorem Os{wy one first second:Nat}{wide:Bool}(h1:l .ef=some (.ref wy))(h2:h.o wy=some (.list []))(h3:l .one=some (.int (one:Int)))(h4:l .first=some (.int (first:Int)))(h5:l .second=some (.int (second:Int)))(h6:l .wide=some (.bool wide)):
 ∃W:List Int,ex C C7 l h=some (.next,l,h.set wy (.list (W.map .int)))∧W.length≤2∧(1∈W→first≤one+3∧one≤first+3)∧(2∈W→second<one)∧ ∀x∈W,x=1∨x=2:=by
 induction wide with
 |true=>exact⟨[],(bi (j6 (t:=true) (bG (aa h6) rfl)) dM).trans (by show _=some (Fl.next,l,h.set wy (.list []));rw[lz h2]),Nat.zero_le _,fun q=>(nomatch q),fun q=>(nomatch q),fun x q=>(nomatch q)⟩
 |false=>
  have tw:=j6 (t:=false) (bG (C:=C) (h:=h) (aa h6) rfl)
  have d: ∀h:H,ev C l (.bin .sub (.loc .one) (.loc .first)) h=some (.int ((one:Int)-(first:Int)),h):=fun h=>aS (aa h3) (aa h4) rfl
  have t1: ∃b:Bool,te C l (.fH .le .le (.neg (.int 3)) (.bin .sub (.loc .one) (.loc .first)) (.int 3)) h=some (b,h)∧(b=true→first≤one+3∧one≤first+3):=by
   by_cases c1:(-3:Int)≤(one:Int)-(first:Int)
   ·by_cases c3:(one:Int)-(first:Int)≤3
    ·exact⟨true,tQ (gR am) (d h) (lq c1) am (lq c3),fun _=>by trace"ca3zgAcBcsrAcBcs3zrBA3kalAB3kalnii c1 c3"⟩
    ·exact⟨false,tQ (gR am) (d h) (lq c1) am (py c3),fun q=>(nomatch q)⟩
   ·exact⟨false,B5 (gR am) (d h) (py c1),fun q=>(nomatch q)⟩
  refine aA t1 fun b t1 k1=> ?_
  have t2: ∀h:H,te C l (.cmp .lt (.loc .second) (.loc .one)) h=some (decide ((second:Int)<(one:Int)),h):=fun h=>aJ (aa h5) (aa h3) rfl
  have ap: ∀{h:H}{us:List V}(i:Int),h.o wy=some (.list us)→us.length<3→ex C (.expr (.append (.loc .ef) (.int i))) l h=some (.next,l,h.set wy (.list (us++[.int i]))):=fun i o q=>nq (aa h1) o am o (Nat.lt_of_lt_of_le q (Nat.le_of_ble_eq_true rfl))
  have k2:decide ((second:Int)<(one:Int))=true→second<one:=fun q=>Int.ofNat_lt.mp (of_decide_eq_true q)
  induction b with
  |false=>
   cases c2:decide ((second:Int)<(one:Int))with
   |false=>exact⟨[],(bE tw (aw (bi t1 dM) (aF (bi ((t2 h).trans (by rw[c2])) dM)))).trans (by show _=some (Fl.next,l,h.set wy (.list []));rw[lz h2]),Nat.zero_le _,fun q=>(nomatch q),fun q=>(nomatch q),fun x q=>(nomatch q)⟩
   |true=>exact⟨[2],bE tw (aw (bi t1 dM) (aF (bE ((t2 h).trans (by rw[c2])) (aF (ap 2 h2 (by decide)))))),by decide,fun q=>absurd q (by decide),fun _=>k2 c2,by decide⟩
  |true=>
   cases c2:decide ((second:Int)<(one:Int))with
   |false=>exact⟨[1],bE tw (aw (bE t1 (aF (ap 1 h2 (by decide)))) (aF (bi ((t2 _).trans (by rw[c2];rfl)) dM))),by decide,fun _=>k1 rfl,fun q=>absurd q (by decide),by decide⟩
   |true=>exact⟨[1,2],(bE tw (aw (bE t1 (aF (ap 1 h2 (by decide)))) (aF (bE ((t2 _).trans (by rw[c2])) (aF (ap 2 (bU _ _ _) (by decide))))))).trans (by rw[pe];rfl),by decide,fun _=>k1 rfl,fun _=>k2 c2,by decide⟩
end
section
variable{ak:List Int}{fuel n:Nat}{h:H}{row above:List Nat}{w r a cd:Nat}{wide:Bool}{told p:Int}{k:Nat}{l:L}{codes:List (List Bool)}
theorem uh(w:Bool)(s:Nat)(hs:s≤575):(dP w s).length≤28:=by
 have k1:=(ue w).1
 have k2:=(ue w).2
 unfold dP
 split
 ·have:=k1 s (by trace"baA575klAp64klAp64klii hs _");trace"baA14klA28kli this"
 ·have a1:=k1 (s%64) (Nat.mod_lt _ (by decide))
  have a2:=k2 (s/64-1) (by trace"eaD575klDp64klx1kClApCenC1klA0kenoBC64maDeBp64klnAp8kliiii hs _ .s .d64")
  rw[List.length_append];trace"caA14klB14klBAa28klii a1 a2"
theorem Ot(i:Nat):(iG i).length≤60:=by
 by_cases hi:i<7
 ·exact(by decide: ∀i,i<7→(iG i).length≤60) i hi
 ·simp[iG,List.getD,List.getElem?_eq_none (show([[false,false,false,false,false,true,false],[false,false,false,false,true,false],[false,true,false],[true],[false,true,true],[false,false,false,false,true,true],[false,false,false,false,false,true,true]]:List (List Bool)).length≤i by simpa using hi)]
theorem xE(cs:List (List Bool))(c:List Bool):dA cs++[.str (aL c)]=dA (cs++[c]):=(List.map_append (l₁:=cs) (l₂:=[c])).symm
theorem xF(cs:List (List Bool)):(dA cs).length=cs.length:=List.length_map _
section
variable{one two first second:Nat}
theorem Ou(t8:l .codes=some (.ref cd))(t2:l .one=some (.int (one:Int)))(t3:l .first=some (.int (first:Int)))(tb:l .k=some (.int (k:Int)))(tw:l .way=some (.int 1))(z4:h.o cd=some (.list (dA codes)))(lc:cd<h.n)(gB:codes.length≤1000)(y1:first≤one+3)(y2:one≤first+3):
 ex (Cn (aj ak) fuel (n+1)) rE l h=some (.next,(l.set .place (.int (one:Int))).set .k (.int ((k+1:Nat):Int)),(h.push (.list nE)).set cd (.list (dA (codes++[iG (one+3-first)])))):=by
 have e9:(h.push (.list nE)).o cd=some (.list (dA codes)):=uP z4 lc
 have iv:((one:Int)-(first:Int)+3).toNat=one+3-first:=by trace"eaDC3kalCD3kalDC3kalADaC3kaenC3kaDlA0keno0zCcDcs3ztrBcCcDcs3ztjnCcDcs3zt0zrB0kenoBAeiiii y1 y2 .s .t"
 have m1:ev (Cn (aj ak) fuel (n+1)) l (.bin .add (.bin .sub (.loc .one) (.loc .first)) (.int 3)) (h.push (.list nE))=some (.int ((one:Int)-(first:Int)+3),h.push (.list nE)):=aS (aS (aa t2) (aa t3) rfl) am rfl
 have g:=dz (eV (C:=Cn (aj ak) fuel (n+1)) (l:=l) (h:=h) (cD (n:= .jx) rfl) bh (On (aj ak))) m1 (rm (bB rfl) (by trace"caAB3kalBA3kal0zBcAcs3ztrii y1 y2") (by rw[iv];exact Ol (one+3-first) (by trace"daCB3kalBC3kalCB3kalACaB3kaenB3kaClA0kenoAp7kliii y1 y2 .s")))
 have s:=nq (aa t8) z4 g e9 (by rw[xF];exact Nat.lt_of_le_of_lt gB (Nat.le_of_ble_eq_true rfl))
 rw[xE]at s
 exact bE (aJ (aa tw) am (nv rfl)) (aw s (aw (aV (aa t2)) (aF (ll (n:= .k) tb am rfl))))
theorem Ov(t8:l .codes=some (.ref cd))(t4:l .second=some (.int (second:Int)))(tw:l .way=some (.int 2))(z4:h.o cd=some (.list (dA codes)))(gB:codes.length≤1000):
 ex (Cn (aj ak) fuel (n+1)) rE l h=some (.next,l.set .place (.int (second:Int)),h.set cd (.list (dA (codes++[[false,false,false,true]])))):=by
 have s:=nq (C:=Cn (aj ak) fuel (n+1)) (y:= .str [48,48,48,49]) (aa t8) z4 rfl z4 (by rw[xF];exact Nat.lt_of_le_of_lt gB (Nat.le_of_ble_eq_true rfl))
 exact bi (aJ (aa tw) am (lu (by decide))) (aF (bE (aJ (aa tw) am (nv rfl)) (aw (s.trans (by rw[show(V.str [48,48,48,49])= .str (aL [false,false,false,true])from rfl,xE])) (aF (aV (aa t4))))))
theorem Ow(t8:l .codes=some (.ref cd))(t2:l .one=some (.int (one:Int)))(t9:l .two=some (.int (two:Int)))(ta:l .place=some (.int p))(tb:l .k=some (.int (k:Int)))(tw:l .way=some (.int 0))(z4:h.o cd=some (.list (dA codes)))(gB:codes.length≤1000)
 (o1:p<(one:Int)) (o3:one≤two) (o4:two≤575):
 ex (Cn (aj ak) fuel (n+1)) rE l h=some (.next,(l.set .place (.int (two:Int))).set .k (.int ((k+2:Nat):Int)),h.set cd (.list (dA (codes++[([false,false,true]++dP (k%2==0) (one-p.toNat))++dP (k%2==1) (two-one)])))):=by
 have c1:=C6 (ak:=ak) (fuel:=fuel) (n:=n) (h:=h) (k%2==0) (one-p.toNat) (by trace"ebUqCcrCBlB575klDClADaCenCDlA0keno0zUrDcUjnU0zrD0kenoA575kliiiii o1 o3 o4 .s .t")
 have c2:=C6 (ak:=ak) (fuel:=fuel) (n:=n) (h:=h) (k%2==1) (two-one) (by trace"daBClC575klBClABaCenCBlA0kenoA575kliii o3 o4 .s")
 have f1:=uh (k%2==0) (one-p.toNat) (by trace"ebUqCcrCBlB575klDClADaCenCDlA0keno0zUrDcUjnU0zrD0kenoA575kliiiii o1 o3 o4 .s .t")
 have f2:=uh (k%2==1) (two-one) (by trace"daBClC575klBClABaCenCBlA0kenoA575kliii o3 o4 .s")
 have mx:=wK (C:=Cn (aj ak) fuel (n+1)) (h:=h) (aa ta) (am (i:=0)) (show(if p<(0:Int)then(0:Int)else p)=(p.toNat:Int) by split<;>omega)
 have a1:=aS (o:= .sub) (aa t2) mx (congrArg (fun i=>some (V.int i,h)) (show(one:Int)-(p.toNat:Int)=((one-p.toNat:Nat):Int) by trace"dbUqBcrCBlACaBenBClA0keno0zUrCcUjnU0zrC0kenoBcCcsAcjiii o1 .s .t"))
 have a2:=aS (C:=Cn (aj ak) fuel (n+1)) (h:=h) (o:= .sub) (aa t9) (aa t2) (congrArg (fun i=>some (V.int i,h)) (show(two:Int)-(one:Int)=((two-one:Nat):Int) by trace"daCBlCBlACaBenBClA0kenoBcCcsAcjii o3 .s"))
 have b: ∀i:Nat,ev (Cn (aj ak) fuel (n+1)) l (.cmp .eq (.bin .mod (.loc .k) (.int 2)) (.int (i:Int))) h=some (.bool (k%2==i),h):=fun i=>lh (tP (k:=2) (aa tb) (by decide)) am (congrArg some (by rw[Bool.eq_iff_iff,beq_iff_eq,beq_iff_eq];exact Int.ofNat_inj))
 have d1:=eV (cD (n:= .gH) rfl) (aT a1 (aT (b 0) bh)) c1
 have d2:=eV (cD (n:= .gH) rfl) (aT a2 (aT (b 1) bh)) c2
 have g1:3+(aL (dP (k%2==0) (one-p.toNat))).length≤aU:=by rw[cT];simp only[aU];trace"baA28kl3kAa16777216kli f1"
 have g2:([48,48,49]++aL (dP (k%2==0) (one-p.toNat))).length+(aL (dP (k%2==1) (two-one))).length≤aU:=by rw[List.length_append,cT,cT];simp only[aU,List.length_cons,List.length_nil];trace"caA28klB28kl0kpppAaBa16777216klii f1 f2"
 have y:=aS (o:= .add) (aS (o:= .add) (show ev _ l (.str [48,48,49]) h=some (.str [48,48,49],h)from rfl) d1 (if_pos g1)) d2 (if_pos g2)
 have s:=nq (aa t8) z4 y z4 (by rw[xF];exact Nat.lt_of_le_of_lt gB (Nat.le_of_ble_eq_true rfl))
 rw[show([48,48,49]:List Nat)=aL [false,false,true]from rfl,←kh,←kh,xE]at s
 exact bi (aJ (aa tw) am (lu (by decide))) (aF (bi (aJ (aa tw) am (lu (by decide))) (aw s (aw (aV (aa t9)) (aF (ll (n:= .k) tb am rfl))))))
end
noncomputable def Ox(ak:List Int)(fuel n:Nat)(h:H)(row above:List Nat)(w r a cd:Nat)(wide:Bool)(told p:Int)(k:Nat)(l:L)(codes:List (List Bool)):Prop:=
 ∃l' h' c p' k',ay (Cn (aj ak) fuel (n+1)) xD l h=some (.next,l',h')∧LS l' r a cd w wide told p' k'∧h'.o cd=some (.list (dA (codes++[c])))∧h.n≤h'.n∧(∀i,i<h.n→i≠cd→h'.o i=h.o i)∧
  (∀cs,er above row w p' k' cs→er above row w p k (c::cs))∧p<p'∧p'≤(w:Int)∧Pk row p' k'∧c.length≤60
theorem Oy(hs:ak≠[])(hw:w≤575)(R:bw row w)(Q:bw above w)(P:Pk row p k)(Qo: -1≤p)(hp:p<(w:Int))(hf:503≤fuel)(S:LS l r a cd w wide told p k)(hr:h.o r=some (.list (nl row)))(ha:h.o a=some (.list (nl above)))(hc:h.o cd=some (.list (dA codes)))
 (n1:cd≠r) (n2:cd≠a) (lr:r<h.n) (la:a<h.n) (lc:cd<h.n) (gB:codes.length≤1000):
 Ox ak fuel n h row above w r a cd wide told p k l codes:=by
 obtain⟨S1,S2,S3,S4,S5,S6,S7,S8,S9⟩:=S
 obtain⟨one,fT⟩: ∃one,one=row.getD k w:=⟨_,rfl⟩
 obtain⟨two,ki⟩: ∃two,two=row.getD (k+1) w:=⟨_,rfl⟩
 have o1:p<(one:Int):=by rw[fT];exact rC P hp
 have o2:one≤w:=by rw[fT];exact et R
 have o3:one≤two:=by rw[fT,ki];exact pD R
 have o4:two≤w:=by rw[ki];exact et R
 have p1:=rF (C:=Cn (aj ak) fuel (n+1)) (n:= .row) (x:= .loc .k) (j:=k) (w:=w) hr R.len S1 (aa S9) S3
 have p2:=rF (C:=Cn (aj ak) fuel (n+1)) (n:= .row) (x:= .bin .add (.loc .k) (.int 1)) (l:=l.set .one (.int (one:Int))) (j:=k+1) (w:=w) hr R.len S1 (aS (aa (n:= .k) S9) am rfl) S3
 rw[←fT]at p1
 rw[←ki]at p2
 have rG:k%2<2:=Nat.mod_lt _ (by decide)
 refine lJ (Op (C:=Cn (aj ak) fuel (n+1)) (p:=p) ha Q.len fuel (k%2) (((l.set .one (.int (one:Int))).set .two (.int (two:Int))).set .j (.int ((k%2:Nat):Int))) S2 S8 rfl (by trace"eaCp2klCB2maAeCp2klnCDplii rG .d2") (by have:=Q.len;trace"fa503kDlBp2klC500klBA2maEeBp2klnC2kaDBaliiii hf rG this .d2")) fun j j1 j2 j3 j4 j5=> ?_
 have J:lC above p k j:=⟨by trace"iaCp2klFHeHG2maCeHp2klnFE2maDeFp2klnCB2maAeCp2klnFCeiiiii rG j2 .d2 .d2 .d2",fun i b c=>j4 i (by trace"laEp2klJHeFEeFK2maDeFp2klnHG2maEeHp2klnJB2maCeJp2klnEA2maIeEp2klnFHeiiiiiii rG j2 b .d2 .d2 .d2 .d2") (by trace"laHp2klFGeKHeKB2maJeKp2klnGD2maHeGp2klnFE2maIeFp2klnHC2maAeHp2klnHJliiiiiii rG j2 b .d2 .d2 .d2 .d2") c,j5⟩
 obtain⟨first,C9⟩: ∃first,first=above.getD j w:=⟨_,rfl⟩
 obtain⟨second,ui⟩: ∃second,second=above.getD (j+1) w:=⟨_,rfl⟩
 have q1:p<(second:Int):=by rw[ui];exact xB Q J hp
 rw[xd]at j1
 have p5:=rF (C:=Cn (aj ak) fuel (n+1)) (n:= .above) (x:= .loc .j) (l:=((l.set .one (.int (one:Int))).set .two (.int (two:Int))).set .j (.int (j:Int))) (j:=j) (w:=w) ha Q.len S2 (aa rfl) S3
 rw[←C9]at p5
 have p6:=rF (C:=Cn (aj ak) fuel (n+1)) (n:= .above) (x:= .bin .add (.loc .j) (.int 1)) (l:=(((l.set .one (.int (one:Int))).set .two (.int (two:Int))).set .j (.int (j:Int))).set .first (.int (first:Int))) (j:=j+1) (w:=w) ha Q.len S2 (aS (aa (n:= .j) rfl) am rfl) S3
 rw[←ui]at p6
 obtain⟨l4,Da⟩: ∃l4:L,l4=(((((l.set .one (.int (one:Int))).set .two (.int (two:Int))).set .j (.int (j:Int))).set .first (.int (first:Int))).set .second (.int (second:Int))).set .ef (.ref h.n):=⟨_,rfl⟩
 have T: ∀n v,((((((l.set .one (.int (one:Int))).set .two (.int (two:Int))).set .j (.int (j:Int))).set .first (.int (first:Int))).set .second (.int (second:Int))).set .ef (.ref h.n)) n=some v→l4 n=some v:=fun n v e=>Da▸e
 have t1:=T .ef _ rfl
 have t2:=T .one _ rfl
 have t3:=T .first _ rfl
 have t4:=T .second _ rfl
 have t5:=T .wide _ S4
 have t8:=T .codes _ S7
 have t9:=T .two _ rfl
 have ta:=T .place _ S8
 have tb:=T .k _ S9
 refine lJ (Os (C:=Cn (aj ak) fuel (n+1)) (h:=h.push (.list [])) t1 (bB rfl) t2 t3 t4 t5) fun W s8 w1 w2 w3 w4=> ?_
 have s9:=nq (C:=Cn (aj ak) fuel (n+1)) (aa t1) (bU (h.push (.list [])) h.n (.list (W.map .int))) (am (i:=0)) (bU _ _ _) (by rw[List.length_map];exact Nat.lt_of_le_of_lt w1 (Nat.le_of_ble_eq_true rfl))
 rw[pe,show W.map V.int++[.int 0]=(W++[0]).map .int by rw[List.map_append];rfl]at s9
 obtain⟨h2,uj⟩: ∃h2:H,h2=(h.push (.list [])).set h.n (.list ((W++[0]).map .int)):=⟨_,rfl⟩
 have z1:h2.o h.n=some (.list ((W++[0]).map .int)):=uj▸bU _ _ _
 have z2: ∀i,i<h.n→h2.o i=h.o i:=fun i hi=>uj▸uS (uP rfl hi) (Nat.ne_of_lt hi)
 have z3:h2.n=h.n+1:=uj▸rfl
 have z4:h2.o cd=some (.list (dA codes)):=(z2 cd lc).trans hc
 refine aA (Oq (C:=Cn (aj ak) fuel (n+1)) (h:=h2) (l:=l4) (W:=W++[0]) (told:=told) (wX _ _ _) hs t1 z1 (by simp) (by rw[List.length_append];exact Nat.succ_le_succ w1) (T .picks _ S5) (T .told _ S6) t8 z4) fun m m1 Oz=> ?_
 have run: ∀{l' h'},ex (Cn (aj ak) fuel (n+1)) rE (l4.set .way (.int m)) h2=some (.next,l',h')→ay (Cn (aj ak) fuel (n+1)) xD l h=some (.next,l',h'):=fun e=>
  aw (aV p1) (aw (aV p2) (aw (aV (tP (k:=2) (aa (n:= .k) S9) (by decide))) (aw (rn j1) (aw (aV p5) (aw (aV p6) (aw (aV (dF bh (Nat.zero_le _))) (Da▸aw s8 (aw (uj▸s9) (aw Oz (aF e))))))))))
 have xG: ∀{p':Int}{k':Nat}{l':L},(∀n v,n≠ .way→n≠ .place→n≠ .k→l4 n=some v→l' n=some v)→l' .place=some (.int p')→l' .k=some (.int (k':Int))→LS l' r a cd w wide told p' k':=fun g u v=>
  ⟨g _ _ (by decide) (by decide) (by decide) (T .row _ S1),g _ _ (by decide) (by decide) (by decide) (T .above _ S2),g _ _ (by decide) (by decide) (by decide) (T .width _ S3),g _ _ (by decide) (by decide) (by decide) t5,g _ _ (by decide) (by decide) (by decide) (T .picks _ S5),g _ _ (by decide) (by decide) (by decide) (T .told _ S6),g _ _ (by decide) (by decide) (by decide) t8,u,v⟩
 rcases List.mem_append.mp m1 with mw|m0
 ·rcases w4 m mw with rfl|rfl
  ·obtain⟨y1,y2⟩:=w2 mw
   exact⟨_,_,iG (one+3-first),one,k+1,run (Ou (l:=l4.set .way (.int 1)) t8 t2 t3 tb rfl z4 (by trace"daBpAlCApeBpClii lc z3") gB y1 y2),xG (fun n v a b c e=>(if_neg c).trans ((if_neg b).trans ((if_neg a).trans e))) rfl rfl,bU _ _ _,by rw[j8,bN];trace"caBApeABpli z3",
    fun i hi eh=>uS (uP (z2 i hi) (by trace"daCApeBpAlBpClii z3 hi")) eh,fun cs X=> .rB hp J fT C9 y1 y2 X,o1,by trace"daCAeCBlCcBcrii fT o2",by rw[fT];exact P.next R,Ot _⟩
  ·have y1:=w3 mw
   exact⟨_,_,[false,false,false,true],second,k,run (Ov (l:=l4.set .way (.int 2)) t8 t4 rfl z4 gB),xG (fun n v a b c e=>(if_neg b).trans ((if_neg a).trans e)) rfl tb,bU _ _ _,by rw[j8];trace"caBApeABli z3",
    fun i hi eh=>uS (z2 i hi) eh,fun cs X=> .pass hp J fT ui y1 X,q1,by trace"faDBeDClEAeEpDlEcCcriiii fT o2 ui y1",by exact Pk.pass R P q1 (by rw[←fT];exact y1),by decide⟩
 ·rw[List.mem_singleton]at m0
  subst m0
  have f1:=uh (k%2==0) (one-p.toNat) (by trace"fbB575klDCeDBlEDlAEaDenDElA0keno0zUrEcUjnU0zrE0kenoA575kliiiii hw fT o2 .s .t")
  have f2:=uh (k%2==1) (two-one) (by trace"gaA575klFBeEDeFElEAlFElCFaEenEFlC0kenoC575kliiiiii hw fT ki o3 o4 .s")
  exact⟨_,_,([false,false,true]++dP (k%2==0) (one-p.toNat))++dP (k%2==1) (two-one),two,k+2,run (Ow (l:=l4.set .way (.int 0)) t8 t2 t9 ta tb rfl z4 gB o1 o3 (by trace"daB575klCAeCBlC575kliii hw ki o4")),xG (fun n v a b c e=>(if_neg c).trans ((if_neg b).trans ((if_neg a).trans e))) rfl rfl,bU _ _ _,by rw[j8];trace"caBApeABli z3",
   fun i hi eh=>uS (z2 i hi) eh,fun cs X=> .uf hp fT ki X,by trace"ebDAeCBeUqDcrDClUqCcriiii fT ki o1 o3",by trace"daCAeCBlCcBcrii ki o4",by rw[ki];exact P.two R,by rw[List.length_append,List.length_append];show 3+_+_≤60;trace"caA28klB28kl3kAaBa60klii f1 f2"⟩
end
section
variable{ak:List Int}{fuel n:Nat}{row above:List Nat}{w r a cd:Nat}{wide:Bool}{told:Int}
theorem OA(hs:ak≠[])(hw:w≤575)(R:bw row w)(Q:bw above w)(hf:503≤fuel)(n1:cd≠r)(n2:cd≠a): ∀(m:Nat){h:H}{p:Int}{k:Nat}{l:L}{codes:List (List Bool)}(f:Nat),((w:Int)-p).toNat≤m→m<f→codes.length+m≤900→Pk row p k→ -1≤p→LS l r a cd w wide told p k→
 h.o r=some (.list (nl row))→h.o a=some (.list (nl above))→h.o cd=some (.list (dA codes))→r<h.n→a<h.n→cd<h.n→
 ∃l' h' cs,c7 (fun l h=>te (Cn (aj ak) fuel (n+1)) l (.cmp .lt (.loc .place) (.loc .width)) h) (fun l h=>ay (Cn (aj ak) fuel (n+1)) xD l h) f l h=some (.next,l',h')∧l' .codes=some (.ref cd)∧h'.o cd=some (.list (dA (codes++cs)))∧h.n≤h'.n∧(∀i,i<h.n→i≠cd→h'.o i=h.o i)∧
  er above row w p k cs∧cs.length≤m∧ ∀c∈cs,c.length≤60:=by
 intro m
 induction m with
 |zero=>
  intro h p k l codes f h1 h2 h3 P h4 S hr ha hc lr la lc
  obtain⟨f,rfl⟩: ∃g,f=g+1:=⟨f-1,by trace"ca0kpBl1kBlApBenB1klA0kenoBApeii h2 .s"⟩
  exact⟨l,h,[],wR (aJ (aa S.place) (aa S.width) (iC (by trace"cbB575klA0kl1zgUr0zBcUsrAcBcUsjnBcUs0zrA0kenoUqBcrxiiii hw h1 h4 .t"))),S.codes,by rw[List.append_nil];exact hc,Nat.le_refl _,fun _ _ _=>rfl,.done (by trace"cbB575klA0kl1zgUr0zBcUsrAcBcUsjnBcUs0zrA0kenoBcUriiii hw h1 h4 .t"),Nat.le_refl _,fun c h=>(nomatch h)⟩
 |succ m ih=>
  intro h p k l codes f h1 h2 h3 P h4 S hr ha hc lr la lc
  obtain⟨f,rfl⟩: ∃g,f=g+1:=⟨f-1,by trace"daCppBl1kBlApBenB1klA0kenoBApeii h2 .s"⟩
  by_cases q:p<(w:Int)
  ·have t:=aJ (C:=Cn (aj ak) fuel (n+1)) (h:=h) (aa S.place) (aa S.width) (kb q)
   refine ER (Oy (n:=n) hs hw R Q P h4 q hf S hr ha hc n1 n2 lr la lc (by trace"caBApa900klB1000kli h3")) fun l1 xo c p' k' e1 S1 e2 e3 e4 e5 e6 e7 e8 e9=> ?_
   refine pQ (ih (h:=xo) (p:=p') (k:=k') (l:=l1) (codes:=codes++[c]) f (by trace"ecCBplVqDcrVqUr0zDcUsrAcDcUsjnDcUs0zrA0keno0zDcVsrCcDcVsjnDcVs0zrC0kenoABliiiii h1 q e6 .t .t") (by trace"caAppBplApBli h2") (by rw[List.length_append];simp only[List.length_cons,List.length_nil];trace"caABpa900klA0kpaBa900kli h3") e8 (by trace"ac1zgUrUqVr1zgVrii h4 e6") S1 (by rw[e4 r lr n1.symm];exact hr) (by rw[e4 a la n2.symm];exact ha) e2 (by trace"daCpBlBAlCpAlii lr e3") (by trace"daCpBlBAlCpAlii la e3") (by trace"daCpBlBAlCpAlii lc e3")) fun l2 mU cs g1 g2 g3 g4 g5 g6 g7 g8=> ?_
   refine⟨l2,mU,c::cs,wS t e1 g1,g2,by rw[g3,List.append_assoc];rfl,by trace"daCBlBAlCAlii e3 g4",fun i hi eh=>by rw[g5 i (by trace"daCBlApClApBlii e3 hi") eh,e4 i hi eh],e5 cs g6,by simp only[List.length_cons];trace"caABlApBpli g7",?_⟩
   intro x hx
   rcases List.mem_cons.mp hx with rfl|hx
   ·exact e9
   ·exact g8 x hx
  ·exact⟨l,h,[],wR (aJ (aa S.place) (aa S.width) (iC q)),S.codes,by rw[List.append_nil];exact hc,Nat.le_refl _,fun _ _ _=>rfl,.done (by trace"bbUqAcrxAcUri q"),Nat.zero_le _,fun c h=>(nomatch h)⟩
theorem OB{h:H}(hs:ak≠[])(hw:w≤575)(R:bw row w)(Q:bw above w)(hf:600≤fuel)(hr:h.o r=some (.list (nl row)))(ha:h.o a=some (.list (nl above)))(lr:r<h.n)(la:a<h.n):
 ∃h' cs,(Cn (aj ak) fuel (n+2)).call .iR [.ref r,.ref a,.int (w:Int),.bool wide,.b7 .ak,.int told] [] h=some (.ret (.ref h.n),h')∧h'.o h.n=some (.list (dA cs))∧h.n<h'.n∧(∀i,i<h.n→h'.o i=h.o i)∧er above row w (-1) 0 cs∧cs.length≤600∧ ∀c∈cs,c.length≤60:=by
 have S:LS (L.set (L.set (L.set (fun m=>own m [(.row,.ref r),(.above,.ref a),(.width,.int (w:Int)),(.wide,.bool wide),(.picks,.b7 .ak),(.told,.int told)]) .codes (.ref h.n)) .place (.int (-1))) .k (.int ((0:Nat):Int))) r a h.n w wide told (-1) 0:=⟨rfl,rfl,rfl,rfl,rfl,rfl,rfl,rfl,rfl⟩
 refine pQ (OA (n:=n) (cd:=h.n) (fuel:=fuel) (r:=r) (a:=a) (wide:=wide) (told:=told) hs hw R Q (by trace"ba600kAl503kAli hf") (by trace"caBpAlABexi lr") (by trace"caBpAlABexi la") (w+1) (h:=h.push (.list (dA []))) (p:= -1) (k:=0) (codes:=[]) fuel (by trace"caB575kl0zBc1zgsrAcBc1zgsjnBc1zgs0zrA0kenoABplii hw .t") (by trace"caA575kl600kBlAppBlii hw hf") (by simp only[List.length_nil];trace"baA575kl0kApa900kli hw") (fun i x e=>by constructor<;>intro _<;>omega) (by trace"aa1zg1zgr") S (uP hr lr) (uP ha la) (bB rfl) (Nat.lt_succ_of_lt lr) (Nat.lt_succ_of_lt la) (Nat.lt_succ_self _)) fun l2 h2 cs g1 g2 g3 g4 g5 g6 g7 g8=> ?_
 exact⟨h2,cs,bH rfl rfl (aw (aV (dF bh (Nat.zero_le _))) (aw (aV (gR am)) (aw (aV am) (aw (rn g1) (em (fy (aa g2))))))) rfl,g3,g4,fun i hi=>(g5 i (Nat.lt_succ_of_lt hi) (Nat.ne_of_lt hi)).trans (uP rfl hi),g6,by trace"caA575klBAplB600klii hw g7",g8⟩
end
noncomputable def kj(a s:Nat):Nat→List V
 |0=>[]
 |n+1=> .int (a:Int)::kj (a+s) s n
theorem Db: ∀(n a s:Nat),(List.range n).map (fun(k:Nat)=>V.int ((a:Int)+(s:Int)*(k:Int)))=kj a s n
 |0,_,_=>rfl
 |n+1,a,s=>by
  rw[List.range_succ_eq_map,List.map_cons,List.map_map,kj,←Db n (a+s) s]
  refine List.cons_eq_cons.mpr ⟨by simp,List.map_congr_left fun k _=> ?_⟩
  simp only[Function.comp,tV]
  rw[Int.natCast_add,Int.add_assoc]
  congr 1
  rw[show((Nat.succ k:Nat):Int)=(k:Int)+1 from rfl,Int.mul_add,Int.mul_one,Int.add_comm]
theorem Dc(b s:Nat)(hs:0<s):cS 0 (b:Int) (s:Int)=kj 0 s ((b+s-1)/s):=by
 rw[←Db]
 unfold cS
 congr 2
 ·rw[show(b:Int)-0+(s:Int)-1=((b+s-1:Nat):Int) by trace"da0kpCl1kBCalApBCaenBCa1klA0kenoBc0zsCct1zsAcjii hs .s",←Int.natCast_ediv,Int.toNat_natCast]
noncomputable def num(b:List Bool):Nat:=b.foldl (fun a x=>2*a+x.toNat) 0
noncomputable def cg(b:List Bool):List Bool:=b++List.replicate ((8-b.length%8)%8) false
noncomputable def cU:Nat→List Bool→List (List Bool)
 |0,_=>[]
 |n+1,b=>b.take 8::cU n (b.drop 8)
noncomputable def nG(c:List Bool):UInt8:=UInt8.ofNat (num c)
noncomputable def eu(b:List Bool):List UInt8:=(cU ((cg b).length/8) (cg b)).map nG
theorem pE(b:List Bool):(cg b).length%8=0:=by
 simp only[cg,List.length_append,List.length_replicate]
 trace"iaAH8maCFaeAp8klnFE8maDeFp8klnB8klDBa8ken8kBlD0kenoBG8maCeBp8klnA0keiiii .d8 .d8 .s .d8"
theorem lD{P:List Bool→Prop}{n:Nat}(k: ∀a vs,vs.length=n→P (a::vs))(vs:List Bool)(h:vs.length=n+1):P vs:=by
 induction vs with
 |nil=>exact Nat.noConfusion h
 |cons a vs=>exact k a vs (Nat.succ.inj h)
theorem uk{P:List Bool→Prop}(k: ∀a b c d e f g i,P [a,b,c,d,e,f,g,i]): ∀(c:List Bool)(_:c.length=8),P c:=
 lD fun a=>lD fun b=>lD fun c=>lD fun d=>lD fun e=>lD fun f=>lD fun g=>lD fun i vs h=>List.eq_nil_of_length_eq_zero h▸k a b c d e f g i
theorem Dd(c:List Bool)(h:c.length=8):num c<256:=uk (P:=fun c=>num c<256) (by decide+kernel) c h
theorem OC(c:List Bool)(h:c.length=8):jF (aL c)=some (num c):=uk (P:=fun c=>jF (aL c)=some (num c)) (by decide+kernel) c h
theorem OD(b:List Bool)(n:Nat):(aL b).take n=aL (b.take n):=by simp[aL,List.map_take]
theorem OE(b:List Bool)(n:Nat):(aL b).drop n=aL (b.drop n):=by simp[aL,List.map_drop]
section
variable{C:Cx}{h:H}{l:L}{ak:List Int}{fuel n:Nat}
theorem De{B:List Bool}(hl:l .bits=some (.str (aL B)))(hB:B.length≤100000): ∀(m k:Nat)(acc:List V),k+8*m=B.length→
 cq C (fun v h=>ev C (l.set .k v) (.kC (.fE (.loc .bits) (.loc .k) (.bin .add (.loc .k) (.int 8)))) h) (fun _ h=>some (true,h)) none (kj 0 8 (B.length/8)) (kj k 8 m) acc h=some (acc.reverse++((cU m (B.drop k)).map fun c=>V.int (num c:Int)),h)
 |0,k,acc,e=>congrArg (fun z=>some (z,h)) (List.append_nil _).symm
 |m+1,k,acc,e=>by
  have c1:((B.take (k+8)).drop k)=(B.drop k).take 8:=by rw[List.take_drop]
  have jO:((B.drop k).take 8).length=8:=by rw[List.length_take,List.length_drop];trace"faEBp8maDe8kClA8kenC8klACenoEDlCEaDenDElC0kenoA8keiii e .m .s"
  have b1:(0:Int)≤(k:Int)∧(0:Int)≤((k+8:Nat):Int)∧(k:Int)<2^31∧((k+8:Nat):Int)<2^31:=by trace"daB100000klCAp8maBe0zCcr0zC8kacrCcq2^31zrC8kacq2^31zrnnnii hB e"
  have b2:(k:Int)≤((k+8:Nat):Int)∧((k+8:Nat):Int)≤((aL B).length:Int)∧(aL B).length≤aU:=by rw[cT];simp only[aU];trace"daB100000klACp8maBeAcA8kacrA8kacBcrB16777216klnnii hB e"
  have k8:ev C (l.set .k (.int (k:Int))) (.bin .add (.loc .k) (.int 8)) h=some (.int ((k+8:Nat):Int),h):=aS (aa (n:= .k) rfl) am rfl
  have sl:eD C h (.str (aL B)) (some (k:Int)) (some ((k+8:Nat):Int))=some (.str (aL ((B.drop k).take 8)),h):=(if_pos b1).trans ((if_pos b2).trans (by show some (V.str (((aL B).take (k+8)).drop k),h)=_;rw[OD,OE,c1]))
  exact Co rfl rfl (MM (wI (aa (n:= .bits) hl) (aa (n:= .k) rfl) k8 sl) (OC _ jO)) ((De hl hB m (k+8) _ (by trace"daCBp8maAeC8kaB8maAei e")).trans (by rw[List.reverse_cons,List.append_assoc];show some (_++(V.int (num ((B.drop k).take 8):Int)::(cU m (B.drop (k+8))).map _),h)=some (_++(cU (m+1) (B.drop k)).map _,h);rw[show cU (m+1) (B.drop k)=(B.drop k).take 8::cU m ((B.drop k).drop 8)from rfl,List.drop_drop,List.map_cons]))
theorem OF{i:Int}{xs:List V}{bs:List UInt8}(a:0≤i∧i<256)(b:eF xs=some bs):eF (.int i::xs)=some (UInt8.ofNat i.toNat::bs):=(if_pos a).trans (nM b)
theorem xH: ∀(cs:List (List Bool)),(∀c∈cs,c.length=8)→eF (cs.map fun c=>V.int (num c:Int))=some (cs.map nG)
 |[],_=>rfl
 |c::cs,h=>by
  have h1:=Dd c (h c (.head _))
  have h2:(0:Int)≤(num c:Int)∧(num c:Int)<256:=by trace"baAp256kl0zAcrAcq256zrni h1"
  refine(OF h2 (xH cs fun c hc=>h c (.tail _ hc))).trans ?_
  rw[Int.toNat_natCast];rfl
theorem ul: ∀(n:Nat)(b:List Bool),8*n≤b.length→(∀c∈cU n b,c.length=8)∧(cU n b).length=n
 |0,b,_=>⟨by simp[cU],rfl⟩
 |n+1,b,h=>by
  obtain⟨a,c⟩:=ul n (b.drop 8) (by rw[List.length_drop];trace"daBp8mAl8kAlC8kaAenA8klC0kenoB8mClii h .s")
  refine⟨fun x hx=> ?_,by simp[cU,c]⟩
  rcases List.mem_cons.mp hx with rfl|hx
  ·rw[List.length_take];trace"eaDp8mBlCDe8kBlA8kenB8klABenoA8keiii h c .m"
  ·exact a x hx
theorem Dg(cl:CL→List V)(B:List Bool)(hB:B.length≤90000):(Cn cl fuel (n+1)).call .eC [.str (aL B)] [] h=some (.ret (.bytes (eu B)),h.push (.list ((cU ((cg B).length/8) (cg B)).map fun c=>V.int (num c:Int)))):=by
 have f1:Int.fmod (-((aL B).length:Int)) 8=(((8-B.length%8)%8:Nat):Int):=by
  rw[Int.fmod_eq_emod_of_nonneg _ (by decide),cT]
  trace"gcAF8maCeAp8klnD8klCDa8ken8kDlC0kenoDE8maBeDp8klnVU8utBcgj0zVrVq8zrnnVAcjiiii .d8 .s .d8 .z8"
 have f2:(((8-B.length%8)%8:Nat):Int)≤1000:=by trace"gaCB8maDeCp8klnF8klDFa8ken8kFlD0kenoFE8maAeFp8klnCc1000zriii .d8 .s .d8"
 have f3:(0:Int)≤(((8-B.length%8)%8:Nat):Int):=by trace"gaBA8maDeBp8klnE8klDEa8ken8kElD0kenoEC8maFeEp8kln0zBcriii .d8 .s .d8"
 have hp:(cg B).length=B.length+(8-B.length%8)%8:=by simp[cg]
 have jo:=pE B
 have f4:aL B++List.replicate ((8-B.length%8)%8) 48=aL (cg B):=by simp[cg,aL]
 have f5:(aL B).length+(List.replicate ((8-B.length%8)%8) 48).length≤aU:=by rw[cT,List.length_replicate];simp only[aU];trace"jaC90000klHCIaeF0keFA8maHeFp8klnIE8maDeIp8klnG8klDGa8ken8kGlD0kenoGB8maCeGp8klnCIa16777216kliiiiiii hB hp jo .d8 .d8 .s .d8"
 have f6:(aL B).length≤1000000000:=by rw[cT];trace"jaH90000klBHIaeC0keCA8maBeCp8klnID8maGeIp8klnF8klGFa8ken8kFlG0kenoFE8maHeFp8klnH1000000000kliiiiiii hB hp jo .d8 .d8 .s .d8"
 have b0:=wJ (C:=Cn cl fuel n) (l:=fun m=>own m [(.bits,.str (aL B))]) (h:=h) (x:= .loc .bits) (aa rfl) f6
 have b1:=aS (o:= .mul) (show ev _ _ (.str [48]) h=some (.str [48],h)from rfl) (aS (gR b0) (am (i:=8)) ((gU _ _ _ _).trans ((if_pos (by decide)).trans (by rw[f1])))) ((Cy _ h 48 _).trans (if_pos ⟨f3,f2⟩))
 have s1:=aV (n:= .bits) (aS (o:= .add) (aa (C:=Cn cl fuel n) (l:=fun m=>own m [(.bits,.str (aL B))]) (h:=h) (n:= .bits) rfl) b1 ((lm _ h _ _).trans (if_pos f5)))
 rw[Int.toNat_natCast,f4]at s1
 have g6:(aL (cg B)).length≤1000000000:=by rw[cT];trace"jaH90000klEHIaeF0keFB8maEeFp8klnID8maCeIp8klnG8klCGa8ken8kGlC0kenoGA8maHeGp8klnE1000000000kliiiiiii hB hp jo .d8 .d8 .s .d8"
 have r1:cS 0 ((aL (cg B)).length:Int) 8=kj 0 8 ((cg B).length/8):=by
  rw[cT]
  have:=Dc (cg B).length 8 (by decide)
  rw[show((cg B).length+8-1)/8=(cg B).length/8 by trace"gaF0keAC8maDeAp8kln1kE8kalDpE8kaenE8ka1klD0kenoFB8maEeFp8klnCBeiiii jo .d8 .s .d8"]at this
  exact this
 obtain⟨c1,c2⟩:=ul ((cg B).length/8) (cg B) (by trace"daC0keCA8maBeCp8klnA8mBlii jo .d8")
 have o1:=xH _ c1
 have it:=Cm (am (i:=0)) (wJ (C:=Cn cl fuel n) (l:=L.set (fun m=>own m [(.bits,.str (aL B))]) .bits (.str (aL (cg B)))) (h:=h) (x:= .loc .bits) (aa rfl) g6) (am (i:=8)) (show(0:Int).natAbs<2^31∧((aL (cg B)).length:Int).natAbs<2^31∧(0:Int)<8∧(8:Int)<2^30 by rw[cT];trace"maF90000klLFIaeK0keAGe0zLcrCcLcjnLc0zrCcLcgjno0z0zrEc0zjn0z0zrEc0zgjnoKG8maLeKp8klnIH8maBeIp8klnJ8klBJa8ken8kJlB0kenoJD8maFeJp8klnEp2^31klCp2^31kl0zq8zr8zq2^30zrnnniiiiiiiiii hB hp jo c2 .a .a .d8 .d8 .s .d8")
 rw[r1]at it
 have pc:=De (C:=Cn cl fuel n) (h:=h) (l:=L.set (fun m=>own m [(.bits,.str (aL B))]) .bits (.str (aL (cg B)))) (B:=cg B) rfl (by trace"kaF90000klIFGaeA0keBCeAC8maIeAp8klnGE8maJeGp8klnH8klJHa8ken8kHlJ0kenoHD8maFeHp8klnI100000kliiiiiiii hB hp jo c2 .d8 .d8 .s .d8") ((cg B).length/8) 0 [] (by trace"daC0keCB8maAeCp8kln0kB8maAeii jo .d8")
 have z1:((cU ((cg B).length/8) (cg B)).map fun c=>V.int (num c:Int)).length≤aU:=by rw[List.length_map,c2];simp only[aU];trace"kaG90000klJGIaeA0keBHeAH8maJeAp8klnID8maEeIp8klnF8klEFa8ken8kFlE0kenoFC8maGeFp8klnH16777216kliiiiiiii hB hp jo c2 .d8 .d8 .s .d8"
 have z2:((cU ((cg B).length/8) (cg B)).map nG).length≤aU:=by rw[List.length_map,c2];simp only[aU];trace"kaG90000klJGIaeA0keBHeAH8maJeAp8klnID8maEeIp8klnF8klEFa8ken8kFlE0kenoFC8maGeFp8klnH16777216kliiiiiiii hB hp jo c2 .d8 .d8 .s .d8"
 exact bH rfl rfl (aw s1 (em (fy (wL (wM it pc z1) (by rw[d6 (bB rfl)];exact o1) z2)))) rfl
end
noncomputable def pF(row:List Nat)(w:Nat):Nat→Nat→Int→Int
 |_,0,v=>v
 |k,m+1,v=>pF row w (k+2) m (v+(((2^(w-row.getD k w):Nat):Int)-((2^(w-row.getD (k+1) w):Nat):Int)))
theorem OG(C:Cx)(h:H)(a b:Int):dm C h .shl (.int a) (.int b)=if 0≤b∧b≤10000∧a.natAbs<2^10000 then some (.int (a*2^b.toNat),h)else none:=rfl
theorem OH{a:Nat}(h:a<2^1000):a<2^10000:=Nat.lt_of_lt_of_le h (Nat.pow_le_pow_right (by decide) (by decide))
theorem um(C:Cx)(h:H){a b:Nat}(ha:a<2^1000)(hb:b≤1000):dm C h .shl (.int (a:Int)) (.int (b:Int))=some (.int ((a*2^b:Nat):Int),h):=by
 rw[OG,if_pos ⟨by trace"baA1000kl0zAcri hb",by trace"baA1000klAc10000zri hb",by rw[Int.natAbs_natCast];exact OH ha⟩,Int.toNat_natCast,Int.natCast_mul,Int.natCast_pow]
 rfl
noncomputable def Dh:SS:=(.cons (.assign .iQ (.bz (.cmp .lt (.bin .add (.loc .k) (.int 1)) (.len (.loc .row))) (.sub (.loc .row) (.bin .add (.loc .k) (.int 1))) (.loc .width)))
 (.cons (.aug .value .add (.bin .sub (.bin .shl (.int 1) (.bin .sub (.loc .width) (.sub (.loc .row) (.loc .k)))) (.bin .shl (.int 1) (.bin .sub (.loc .width) (.loc .iQ)))))
 .nil))
section
variable{C:Cx}{h:H}{r w:Nat}{row:List Nat}
theorem OI{l:L}{k:Nat}{v:Int}(R:bw row w)(hw:w≤1000)(hr:h.o r=some (.list (nl row)))(h1:l .row=some (.ref r))(h2:l .width=some (.int (w:Int)))(h3:l .value=some (.int v))(h4:l .k=some (.int (k:Int)))(hk:k<row.length):
 ay C Dh l h=some (.next,(l.set .iQ (.int (row.getD (k+1) w:Int))).set .value (.int (v+(((2^(w-row.getD k w):Nat):Int)-((2^(w-row.getD (k+1) w):Nat):Int)))),h):=by
 have a1:row.getD k w≤w:=et R
 have a2:row.getD (k+1) w≤w:=et R
 have e2:(nl row)[k]? =some (.int (row.getD k w:Int)):=by
  rw[xA,List.getElem?_eq_getElem hk]
  simp[List.getD,List.getElem?_eq_getElem hk]
 have s1:=rF (C:=C) (n:= .row) (x:= .bin .add (.loc .k) (.int 1)) (l:=l) (j:=k+1) (w:=w) hr R.len h1 (aS (aa h4) am rfl) h2
 have d1:(w:Int)-(row.getD k w:Int)=((w-row.getD k w:Nat):Int):=by trace"daCBlCBlACaBenBClA0kenoBcCcsAcjii a1 .s"
 have d2:(w:Int)-(row.getD (k+1) w:Int)=((w-row.getD (k+1) w:Nat):Int):=by trace"faCDlDcBcsEcjCDlACaDenDClA0kenoBDlEBaDenDBlE0kenoDcCcsAcjiiii a2 d1 .s .s"
 have p1:(1:Nat)<2^1000:=Nat.one_lt_two_pow (by decide)
 have g1:dm C h .shl (.int 1) (.int ((w-row.getD k w:Nat):Int))=some (.int ((2^(w-row.getD k w):Nat):Int),h):=by
  have:=um C h (a:=1) (b:=w-row.getD k w) p1 (by trace"faD1000klDcCcsEcjDcBcsAcjBDlABaDenDBlA0kenoCDlECaDenDClE0kenoE1000kliiiii hw d1 d2 .s .s")
  rw[Nat.one_mul]at this
  exact this
 have g2:dm C h .shl (.int 1) (.int ((w-row.getD (k+1) w:Nat):Int))=some (.int ((2^(w-row.getD (k+1) w):Nat):Int),h):=by
  have:=um C h (a:=1) (b:=w-row.getD (k+1) w) p1 (by trace"faD1000klDcCcsBcjDcAcsEcjADlEAaDenDAlE0kenoCDlBCaDenDClB0kenoE1000kliiiii hw d1 d2 .s .s")
  rw[Nat.one_mul]at this
  exact this
 have q1:=aS (C:=C) (l:=l.set .iQ (.int (row.getD (k+1) w:Int))) (h:=h) (o:= .sub) (aa (n:= .width) h2) (dz (aa (n:= .row) h1) (aa (n:= .k) h4) (rm hr (Int.natCast_nonneg k) e2)) (congrArg (fun i=>some (V.int i,h)) d1)
 have q2:=aS (C:=C) (l:=l.set .iQ (.int (row.getD (k+1) w:Int))) (h:=h) (o:= .sub) (aa (n:= .width) h2) (aa (n:= .iQ) rfl) (congrArg (fun i=>some (V.int i,h)) d2)
 exact aw (aV s1) (aF (ll (n:= .value) h3 (aS (o:= .sub) (aS am q1 g1) (aS am q2 g2) rfl) rfl))
theorem Di(R:bw row w)(hw:w≤1000): ∀(m k:Nat)(v:Int)(l:L),h.o r=some (.list (nl row))→l .row=some (.ref r)→l .width=some (.int (w:Int))→l .value=some (.int v)→(m≠0→k+2*(m-1)<row.length)→
 ∃l',bD (fun _=>true) (fun x l h=>ay C Dh (l.set .k x) h) (kj k 2 m) l h=some (.next,l',h)∧l' .value=some (.int (pF row w k m v))∧ ∀n,n≠ .k→n≠ .value→n≠ .iQ→l' n=l n
 |0,k,v,l,hr,h1,h2,h3,h4=>⟨l,rfl,h3,fun _ _ _ _=>rfl⟩
 |m+1,k,v,l,hr,h1,h2,h3,h4=>by
  have t:=OI (C:=C) (h:=h) (l:=l.set .k (.int (k:Int))) (k:=k) (v:=v) R hw hr h1 h2 h3 rfl (by have:=h4 (by trace"baAp0kex");trace"eaCD2mapBl1kAplDpApenAp1klD0kenoCpBlii this .s")
  refine ck (Di R hw m (k+2) (v+(((2^(w-row.getD k w):Nat):Int)-((2^(w-row.getD (k+1) w):Nat):Int))) (((l.set .k (.int (k:Int))).set .iQ (.int (row.getD (k+1) w:Int))).set .value (.int (v+(((2^(w-row.getD k w):Nat):Int)-((2^(w-row.getD (k+1) w):Nat):Int))))) hr h1 h2 rfl (by intro q;have:=h4 (by trace"baAp0kex");trace"faE0kexDC2mapBl1kElApEenE1klA0keno1kEplCpEpenEp1klC0kenoD2kaA2mapBliiii q this .s .s")) fun l' f1 f2 f3=> ?_
  exact⟨l',j7 rfl t f1,f2,fun n a b c=>(f3 n a b c).trans ((if_neg b).trans ((if_neg c).trans (if_neg a)))⟩
end
section
variable{fuel n:Nat}{h:H}{r w:Nat}{row:List Nat}
noncomputable def rH(v:Nat)(w:Nat)(black:Bool):List UInt8:=bigEndian ((if black then v else 2^w-1-v)*2^(8*((w+7)/8)-w)) ((w+7)/8)
theorem OJ(cl:CL→List V){v:Nat}{black:Bool}(R:bw row w)(hw:1≤w∧w≤600)(hr:h.o r=some (.list (nl row)))(hv:pF row w 0 ((row.length+1)/2) 0=(v:Int))(Dj:v<2^w):
 (Cn cl fuel (n+1)).call .iS [.ref r,.int (w:Int),.bool black] [] h=some (.ret (.bytes (rH v w black)),h):=by
 have rl:=R.len
 have r1:cS 0 (row.length:Int) 2=kj 0 2 ((row.length+1)/2):=Dc row.length 2 (by decide)
 refine ck (Di (C:=Cn cl fuel n) (h:=h) R (by trace"ba1kAlA600klnA1000kli hw") ((row.length+1)/2) 0 0 (L.set (fun m=>own m [(.row,.ref r),(.width,.int (w:Int)),(.black,.bool black)]) .value (.int 0)) hr rfl rfl rfl (by intro q;trace"eaC500klD0kex1kDlApDenD1klA0kenoBD2maCpeBp2kln0kA2mapCliiii rl q .s .d2")) fun l1 f1 f2 f3=> ?_
 rw[hv]at f2
 have n1:l1 .width=some (.int (w:Int)):=f3 .width (by decide) (by decide) (by decide)
 have n2:l1 .black=some (.bool black):=f3 .black (by decide) (by decide) (by decide)
 have ln:=iA (C:=Cn cl fuel n) (l:=L.set (fun m=>own m [(.row,.ref r),(.width,.int (w:Int)),(.black,.bool black)]) .value (.int 0)) (aa (n:= .row) rfl) (d6 hr)
 rw[xz]at ln
 have it:=Cm (am (i:=0)) ln (am (i:=2)) (show(0:Int).natAbs<2^31∧(row.length:Int).natAbs<2^31∧(0:Int)<2∧(2:Int)<2^30 by trace"daC500kl0zCcrBcCcjnCc0zrBcCcgjno0z0zrAc0zjn0z0zrAc0zgjnoAp2^31klBp2^31kl0zq2zr2zq2^30zrnnniii rl .a .a")
 rw[r1]at it
 obtain⟨u,hu⟩: ∃u:Nat,u=(if black then v else 2^w-1-v):=⟨_,rfl⟩
 have u2:u<2^w:=by rw[hu];split<;>omega
 have p1:(1:Nat)<2^1000:=Nat.one_lt_two_pow (by decide)
 have pw:(2:Nat)^w≤2^600:=Nat.pow_le_pow_right (by decide) hw.2
 have pq:(2:Nat)^600<2^1000:=Nat.pow_lt_pow_right (by decide) (by decide)
 have g3:dm (Cn cl fuel n) h .shl (.int 1) (.int (w:Int))=some (.int ((2^w:Nat):Int),h):=by
  have:=um (Cn cl fuel n) h (a:=1) (b:=w) p1 (by trace"ba1kAlA600klnA1000kli hw")
  rw[Nat.one_mul]at this
  exact this
 have s3: ∃l2,ex (Cn cl fuel n) (.ifs (.not (.tr (.loc .black))) (.cons (.assign .value (.bin .sub (.bin .sub (.bin .shl (.int 1) (.loc .width)) (.int 1)) (.loc .value))) .nil) .nil) l1 h=some (.next,l2,h)∧l2 .value=some (.int (u:Int))∧l2 .width=some (.int (w:Int)):=by
  induction black with
  |true=>exact⟨l1,bi (j6 (t:=true) (bG (aa n2) rfl)) dM,by rw[f2,hu];rfl,n1⟩
  |false=>
   have e:((2^w:Nat):Int)-1-(v:Int)=(u:Int):=by rw[hu];simp only[Bool.false_eq_true,if_false];trace"eaDpClDBlADaBenBDlA0keno1kClBpCenC1klB0kenoCc1zsDcsAcjiii Dj .s .s"
   exact⟨_,bE (j6 (t:=false) (bG (aa n2) rfl)) (aF (aV (aS (o:= .sub) (aS (o:= .sub) (aS am (aa n1) g3) am rfl) (aa f2) (congrArg (fun i=>some (V.int i,h)) e)))),rfl,n1⟩
 refine ck s3 fun l2 s3 k1 k2=> ?_
 obtain⟨sz,jW⟩: ∃sz,sz=(w+7)/8:=⟨_,rfl⟩
 have w7:ev (Cn cl fuel n) l2 (.bin .add (.loc .width) (.int 7)) h=some (.int ((w+7:Nat):Int),h):=aS (aa k2) am rfl
 have s4:=aV (n:= .size) (tO (k:=8) w7 (by decide))
 rw[←jW]at s4
 have e8:(8:Int)*(sz:Int)-(w:Int)=((8*sz-w:Nat):Int):=by trace"faCDeEC8mlBEaC8menC8mElB0kenoAD8maE7kaeAp8klnCc8uEcsBcjiii jW .s .d8"
 have c8:(8:Int).natAbs<2^31∧(sz:Int).natAbs<2^31:=by trace"ha1kGlG600klnFEeFc8uGcsCcj0zFcrAcFcjnFc0zrAcFcgjno0z8zrBc8zjn8z0zrBc8zgjnoGF8mlCGaF8menF8mGlC0kenoDE8maG7kaeDp8klnBp2^31klAp2^31klniiiiiii hw jW e8 .a .a .s .d8"
 have g4:dm (Cn cl fuel n) h .shl (.int (u:Int)) (.int ((8*sz-w:Nat):Int))=some (.int ((u*2^(8*sz-w):Nat):Int),h):=um _ _ (by trace"eaDpBlCAeCpBlB2^600klCp2^1000kliiii Dj hu u2 pw") (by trace"faDCeDc8uEcsAcjED8mlAEaD8menD8mElA0kenoBC8maE7kaeBp8klnA1000kliiii jW e8 .s .d8")
 have lt:u*2^(8*sz-w)<256^sz:=by
  have:(256:Nat)^sz=2^w*2^(8*sz-w):=by
   rw[←Nat.pow_add,show w+(8*sz-w)=8*sz by trace"faDBeDc8uEcsCcjED8mlCEaD8menD8mElC0kenoAB8maE7kaeAp8klnECaD8meiiii jW e8 .s .d8",Nat.pow_mul]
  rw[this]
  exact Nat.mul_lt_mul_of_pos_right u2 (Nat.two_pow_pos _)
 have c9:(0:Int)≤((u*2^(8*sz-w):Nat):Int)∧(0:Int)≤(sz:Int)∧(sz:Int)≤100∧(((u*2^(8*sz-w):Nat):Int)).toNat<256^((sz:Int)).toNat:=by
  refine⟨Int.natCast_nonneg _,Int.natCast_nonneg _,by trace"fa1kElE600klnDCeDc8uEcsAcjED8mlAEaD8menD8mElA0kenoBC8maE7kaeBp8klnDc100zriiiii hw jW e8 .s .d8",?_⟩
  rw[Int.toNat_natCast,Int.toNat_natCast];exact lt
 have s5:=fy (ML (l:=l2.set .size (.int (sz:Int))) (aS (aa (n:= .value) k1) (aS (o:= .sub) (aS am (aa (n:= .size) rfl) ((M9 _ _ _ _).trans (if_pos c8))) (aa (n:= .width) k2) (congrArg (fun i=>some (V.int i,h)) e8)) g4) (aa (n:= .size) rfl) c9)
 rw[Int.toNat_natCast,Int.toNat_natCast,hu,jW]at s5
 rw[jW]at s4
 exact bH rfl rfl (aw (aV am) (aw (jl it f1) (aw s3 (aw s4 (em s5))))) rfl
end
structure RI(l:List Int)(w:Nat):Prop where
 sorted:l.Pairwise (·<·)
 lt: ∀x∈l,0≤x∧x<(w:Int)
theorem Dk: ∀(l:List Int),dE (l.map .int)=some l
 |[]=>rfl
 |a::l=>(congrArg (Option.map (a::·)) (Dk l)).trans rfl
theorem xI{a x:Int}: ∀{l:List Int},x∈jG a l↔x=a∨x∈l
 |[]=>List.mem_cons
 |b::l=>by
  rw[pY]
  split
  ·simp
  ·rw[List.mem_cons,xI,List.mem_cons]
   constructor<;>(rintro(h|h|h)<;>simp[h])
theorem Dl{a:Int}: ∀{l:List Int},l.Pairwise (·<·)→a∉l→(jG a l).Pairwise (·<·)
 |[],_,_=>List.pairwise_singleton _ _
 |b::l,h,n=>by
  rw[pY]
  refine bn (List.pairwise_cons.mp h) fun h1 h2=> ?_
  have nb:a≠b:=fun e=>n (e▸ .head _)
  split
  ·refine List.pairwise_cons.mpr ⟨fun x hx=> ?_,h⟩
   rcases List.mem_cons.mp hx with rfl|hx
   ·trace"acUVjxUVrUqVrii nb _"
   ·have:=h1 x hx;trace"adUVrVqWrUqWrii _ this"
  ·refine List.pairwise_cons.mpr ⟨fun x hx=> ?_,Dl h2 fun q=>n (.tail _ q)⟩
   rcases xI.mp hx with rfl|hx
   ·trace"acUVrxVqUri _"
   ·exact h1 x hx
theorem Dm(a:Int): ∀(l:List Int),(jG a l).length=l.length+1
 |[]=>rfl
 |b::l=>by
  rw[pY]
  split
  ·rfl
  ·simp[Dm a l]
theorem xJ{x:Int}: ∀{l:List Int},x∈sortI l↔x∈l
 |[]=>Iff.rfl
 |a::l=>xI.trans (by rw[xJ,List.mem_cons])
theorem Dn: ∀{l:List Int},l.Nodup→(sortI l).Pairwise (·<·)
 |[],_=> .nil
 |a::l,h=>by
  refine bn (List.nodup_cons.mp h) fun h1 h2=> ?_
  exact Dl (Dn h2) fun q=>h1 (xJ.mp q)
theorem xK: ∀(l:List Int),(sortI l).length=l.length
 |[]=>rfl
 |a::l=>(Dm _ _).trans (congrArg (·+1) (xK l))
theorem RI.nodup {l:List Int} {w:Nat} (r:RI l w):l.Nodup:=r.sorted.imp fun h e=>by trace"acUqVrUVjxi h e"
theorem RI.insert {l:List Int} {w:Nat} {p:Int} (r:RI l w) (h0:0≤p) (h1:p<(w:Int)) (n:p∉l):RI (sortI (l++[p])) w:=by
 refine⟨Dn ?_,fun x hx=> ?_⟩
 ·rw[List.nodup_append]
  exact⟨r.nodup,by simp,fun a ha b hb e=>by simp at hb;subst hb;subst e;exact n ha⟩
 ·rcases List.mem_append.mp (xJ.mp hx)with q|q
  ·exact r.lt x q
  ·simp at q;subst q;exact⟨h0,h1⟩
theorem RI.sub {l m:List Int} {w:Nat} (r:RI l w) (s:m.Sublist l):RI m w:=⟨r.sorted.sublist s,fun x hx=>r.lt x (s.subset hx)⟩
theorem OK(C:Cx)(h:H)(i j:Nat):n8 C h (.ref i) (.ref j)=match(C.items h (.ref i)).bind dE with
 |some xs=>(match(C.items h (.ref j)).bind dE with
  |some ys=>some (!(xs==ys))
  |none=>none)
 |none=>none:=rfl
theorem Do(C:Cx)(h:H)(a:Int)(j:Nat):mem C h (.int a) (.ref j)=match(C.items h (.ref j)).bind dE with
 |some xs=>some (xs.contains a)
 |none=>none:=rfl
theorem xL(C:Cx)(h:H)(j:Nat)(a b:Option Int):eD C h (.ref j) a b=if 0≤a.getD 0∧0≤b.getD 0∧a.getD 0<2^31∧b.getD 0<2^31 then
 (match C.items h (.ref j)with|some xs=>cy h (be xs (a.getD 0).toNat ((b.map Int.toNat).getD xs.length))|none=>none)else none:=rfl
noncomputable def dg(h:H)(w c i:Nat):Prop:=i<h.n∧ ∃xs:List Int,h.o i=some (.list (xs.map .int))∧RI xs w∧xs.length≤c
noncomputable def uo:SS:=(.cons (.assign .k (.bin .mod (.loc .rest) (.len (.loc .row))))
 (.cons (.assign .place (.bin .sub (.bin .add (.sub (.loc .row) (.loc .k)) (.bin .mod (.bin .div (.loc .rest) (.len (.loc .row))) (.int 7))) (.int 3)))
 (.cons (.assign .others (.bin .add (.eP (.loc .row) (.loc .k)) (.fF (.loc .row) (.bin .add (.loc .k) (.int 1)))))
 (.cons (.ifs (.and (.cons (.fH .le .lt (.int 0) (.loc .place) (.loc .width)) (.cons (.cmp .jA (.loc .place) (.loc .others)) .nil)))
 (.cons (.assign .row (.sorted (.bin .add (.loc .others) (.list (.cons (.loc .place) .nil)))))
 .nil)
 .nil)
 .nil))))
noncomputable def Dp:CC.S:=(.ifs (.cmp .isin (.bin .mod (.loc .rest) (.loc .width)) (.loc .row))
 (.cons (.assign .row (.iT (.loc .place) .place (.val (.loc .row)) (.cmp .ne (.loc .place) (.bin .mod (.loc .rest) (.loc .width)))))
 .nil)
 (.cons (.assign .row (.sorted (.bin .add (.loc .row) (.list (.cons (.bin .mod (.loc .rest) (.loc .width)) .nil)))))
 .nil))
section
variable{C:Cx}{h:H}{l:L}{w c rr:Nat}{xs:List Int}{rest:Int}
theorem xM{i j:Nat}{as bs:List V}(e1:h.o i=some (.list as))(e2:h.o j=some (.list bs))(z:as.length+bs.length≤aU):dm C h .add (.ref i) (.ref j)=some (.ref h.n,h.push (.list (as++bs))):=by
 rw[Nc,e1,e2]
 simp only[cy,List.length_append,z,if_true]
theorem xN(C:Cx)(l:L)(src:Nat)(all:List Int)(m:Int)(e0:l .rest=some (.int rest))(e1:l .width=some (.int (w:Int)))(e2:(w:Int)≠0)(e3:rest.fmod (w:Int)=m): ∀(bits:List Int)(acc:List V)(h:H),h.o src=some (.list (all.map .int))→
 cq C (fun v h=>ev C (l.set .place v) (.loc .place) h) (fun v h=>te C (l.set .place v) (.cmp .ne (.loc .place) (.bin .mod (.loc .rest) (.loc .width))) h) (some (.ref src)) (all.map .int) (bits.map .int) acc h=some (acc.reverse++(bits.filter (· !=m)).map .int,h)
 |[],acc,h,e=>(if_pos (fQ e)).trans (by rw[List.filter_nil,List.map_nil,List.append_nil])
 |b::bits,acc,h,e=>by
  have t:te C (l.set .place (.int b)) (.cmp .ne (.loc .place) (.bin .mod (.loc .rest) (.loc .width))) h=some (b !=m,h):=e3▸aJ (aa rfl) (aS (aa (n:= .rest) e0) (aa (n:= .width) e1) ((gU _ _ _ _).trans (if_pos e2))) rfl
  cases q:(b !=m)with
  |true=>exact Co (fQ e) (t.trans (by rw[q])) (aa rfl) ((xN C l src all m e0 e1 e2 e3 bits _ h e).trans (by rw[List.filter_cons,q,List.reverse_cons,List.append_assoc];rfl))
  |false=>exact M6 (fQ e) (t.trans (by rw[q])) ((xN C l src all m e0 e1 e2 e3 bits _ h e).trans (by rw[List.filter_cons,q];rfl))
theorem pG{C:Cx}{h:H}{i:Nat}{xs:List Int}(e:h.o i=some (.list (xs.map .int))):(C.items h (.ref i)).bind dE=some xs:=by rw[d6 e];exact Dk xs
theorem pH{α:Type}{xs:List α}(f:α→V)(q:xs.length≤1000):(xs.map f).length≤aU:=by rw[List.length_map];exact Nat.le_trans q (Nat.le_of_ble_eq_true rfl)
theorem Dq(hw:1≤w∧w≤1000)(h1:l .rest=some (.int rest))(h2:l .width=some (.int (w:Int)))(h3:l .row=some (.ref rr))(h4:h.o rr=some (.list (xs.map .int)))(R:RI xs w)(hc:xs.length≤c)(c9:c≤50)(lt:rr<h.n):
 ∃h' r2,ex C Dp l h=some (.next,l.set .row (.ref r2),h')∧dg h' w (c+1) r2∧h.n≤r2∧h.n≤h'.n∧ ∀i,i<h.n→h'.o i=h.o i:=by
 have w0:(w:Int)≠0:=by trace"ba1kAlA1000klnAc0zjxi hw"
 obtain⟨m,hm⟩: ∃m,m=rest.fmod (w:Int):=⟨_,rfl⟩
 refine bn (iI rest (b:=(w:Int)) (by trace"ba1kAlA1000kln0zqAcri hw")) fun b1 b2=> ?_
 rw[←hm]at b1 b2
 have m1:ev C l (.bin .mod (.loc .rest) (.loc .width)) h=some (.int m,h):=hm▸aS (aa h1) (aa h2) ((gU _ _ _ _).trans (if_pos w0))
 have t:te C l (.cmp .isin (.bin .mod (.loc .rest) (.loc .width)) (.loc .row)) h=some (xs.contains m,h):=aJ m1 (aa h3) (by rw[Ng,Do,pG h4])
 cases q:xs.contains m with
 |true=>
  have z:(xs.filter (· !=m)).length≤c:=Nat.le_trans (List.length_filter_le _ _) hc
  exact⟨_,h.n,bE (t.trans (by rw[q])) (aF (aV (M7 (pd (aa h3) (d6 h4)) (xN C l rr xs m h1 h2 w0 hm.symm xs [] h h4) (if_pos (pH _ (by trace"caA50klBAlB1000klii c9 z")))))),⟨Nat.lt_succ_self _,_,bB rfl,R.sub List.filter_sublist,by trace"caABlABpli z"⟩,Nat.le_refl _,Nat.le_succ _,fun i hi=>bM (Nat.ne_of_lt hi)⟩
 |false=>
  have nm:m∉xs:=fun q2=>by
   have:=List.contains_iff_mem.mpr q2
   rw[q]at this;cases this
  have z:(sortI (xs++[m])).length≤c+1:=by rw[xK,List.length_append];exact Nat.succ_le_succ hc
  have z3:(xs.map V.int).length+[V.int m].length≤aU:=by rw[List.length_map];simp only[List.length_cons,List.length_nil,aU];trace"caBAlA50klB0kpa16777216klii hc c9"
  have b:=xM (C:=C) (as:=xs.map .int) (bs:=[.int m]) (uP h4 lt) (bB rfl) z3
  rw[show xs.map V.int++[.int m]=(xs++[m]).map .int by rw[List.map_append];rfl]at b
  refine⟨_,h.n+2,bi (t.trans (by rw[q])) (aF (aV (Cp (aS (aa h3) (dF (aT m1 bh) (Nat.le_of_ble_eq_true rfl)) b) (pG (bB rfl)) (by rw[List.length_append];show xs.length+1<64;trace"caBAlA50klBpp64klii hc c9") (if_pos (pH _ (by trace"caA50klBAplB1000klii c9 z")))))),⟨Nat.lt_succ_self _,_,bB rfl,R.insert b1 b2 nm,z⟩,Nat.le_add_right _ _,by show h.n≤h.n+3;trace"baAA3kal",
   fun i hi=>uP (uP (uP rfl hi) (Nat.lt_succ_of_lt hi)) (Nat.lt_succ_of_lt (Nat.lt_succ_of_lt hi))⟩
theorem Dr(xs:List Int)(a b:Nat):be (xs.map V.int) a b=(be xs a b).map V.int:=by simp[be,List.map_take,List.map_drop]
theorem OL(hw:1≤w∧w≤1000)(h1:l .rest=some (.int rest))(h2:l .width=some (.int (w:Int)))(h3:l .row=some (.ref rr))(h4:h.o rr=some (.list (xs.map .int)))(R:RI xs w)(hc:xs.length≤c)(c9:c≤50)(lt:rr<h.n)(hx:xs≠[]):
 ∃l' h' r2,ay C uo l h=some (.next,l',h')∧l' .row=some (.ref r2)∧dg h' w (c+1) r2∧(r2=rr∨h.n≤r2)∧h.n≤h'.n∧(∀i,i<h.n→h'.o i=h.o i)∧l' .rows=l .rows∧l' .width=l .width:=by
 have p1:0<xs.length:=List.length_pos_iff.mpr hx
 refine bn (iI rest (b:=(xs.length:Int)) (by trace"ba0kpAl0zqAcri p1")) fun b1 b2=> ?_
 obtain⟨k,hk⟩: ∃k:Nat,rest.fmod (xs.length:Int)=k:=⟨_,(Int.toNat_of_nonneg b1).symm⟩
 have kl:k<xs.length:=by trace"cbUqBcrUAcjApBlii b2 hk"
 have x0:((xs.length:Nat):Int)≠0:=by trace"ba0kpAlAc0zjxi p1"
 have x1:((xs.length:Nat):Int)≠0∧((xs.length:Nat):Int).natAbs<1073741824:=by trace"daCBlB50kl0kpCl0zCcrAcCcjnCc0zrAcCcgjnoCc0zjxAp1073741824klniiii hc c9 p1 .a"
 have ln: ∀l:L,l .row=some (.ref rr)→ev C l (.len (.loc .row)) h=some (.int (xs.length:Int),h):=fun l e=>(iA (aa e) (d6 h4)).trans (by rw[List.length_map])
 obtain⟨pl,OM⟩: ∃pl:Int,pl=xs.getD k 0+(rest.fdiv (xs.length:Int)).fmod 7-3:=⟨_,rfl⟩
 have s1:=aV (n:= .k) (aS (aa h1) (ln l h3) ((gU _ _ _ _).trans ((if_pos x0).trans (by rw[hk]))))
 have s2:=aV (n:= .place) (aS (o:= .sub) (aS (o:= .add) (dz (aa (l:=l.set .k (.int (k:Int))) (n:= .row) h3) (aa (n:= .k) rfl) (rt h4 kl)) (aS (aS (aa (n:= .rest) h1) (ln _ h3) ((tW _ _ _ _).trans (if_pos x1))) (am (i:=7)) ((gU _ _ _ _).trans (if_pos (by decide)))) rfl) (am (i:=3)) (show _=some (V.int pl,h)from OM▸rfl))
 obtain⟨l1,ci⟩: ∃l1:L,l1=(l.set .k (.int (k:Int))).set .place (.int pl):=⟨_,rfl⟩
 rw[←ci]at s2
 have m1:l1 .row=some (.ref rr):=ci▸h3
 have m2:l1 .k=some (.int (k:Int)):=ci▸rfl
 obtain⟨A,hA⟩: ∃A,A=be xs 0 k:=⟨_,rfl⟩
 obtain⟨B,hB⟩: ∃B,B=be xs (k+1) xs.length:=⟨_,rfl⟩
 obtain⟨O,hO⟩: ∃O,O=A++B:=⟨_,rfl⟩
 have AB:O.Sublist xs:=by
  have:A++B=xs.take k++xs.drop (k+1):=by rw[hA,hB];simp[be]
  rw[hO,this]
  conv=>rhs;rw[←List.take_append_drop k xs]
  exact List.Sublist.append (List.Sublist.refl _) (List.drop_sublist_drop_left xs (Nat.le_succ k))
 have RO:=R.sub AB
 have zo:O.length≤c:=Nat.le_trans AB.length_le hc
 have zz:A.length+B.length≤c:=by rw[←List.length_append,←hO];exact zo
 have eA:=tK (l:=l1) (h:=h) (aa m1) (aa m2) ((xL C h rr none (some (k:Int))).trans ((if_pos (show(0:Int)≤0∧(0:Int)≤(k:Int)∧(0:Int)<2^31∧(k:Int)<2^31 by trace"dbBAlA50kl0zUrUqBcrUCcj0z0zr0zCcr0zq2^31zrCcq2^31zrnnniiiii hc c9 b1 b2 hk")).trans (show _=some (V.ref h.n,h.push (.list (A.map .int))) by
  rw[d6 h4];show cy h (be (xs.map V.int) 0 k)=_;rw[Dr,←hA];exact if_pos (pH _ (by trace"daA50klCBaAlC1000klii c9 zz")))))
 have h5:=uP (y:= .list (A.map .int)) h4 lt
 have k1:ev C l1 (.bin .add (.loc .k) (.int 1)) (h.push (.list (A.map .int)))=some (.int ((k+1:Nat):Int),h.push (.list (A.map .int))):=aS (aa m2) am rfl
 have eB:=BV (l:=l1) (h:=h.push (.list (A.map .int))) (aa m1) k1 ((xL C _ rr (some ((k+1:Nat):Int)) none).trans ((if_pos (show(0:Int)≤((k+1:Nat):Int)∧(0:Int)≤0∧((k+1:Nat):Int)<2^31∧(0:Int)<2^31 by trace"dbBAlA50kl0zUrUqBcrUCcj0zCpcr0z0zrCpcq2^31zr0zq2^31zrnnniiiii hc c9 b1 b2 hk")).trans (show _=some (V.ref (h.n+1),(h.push (.list (A.map .int))).push (.list (B.map .int))) by
  rw[d6 h5];show cy _ (be (xs.map V.int) (k+1) (xs.map V.int).length)=_;rw[Dr,List.length_map,←hB];exact if_pos (pH _ (by trace"daA50klBCaAlC1000klii c9 zz")))))
 have bC:=xM (C:=C) (h:=(h.push (.list (A.map .int))).push (.list (B.map .int))) (uP (bB rfl) (Nat.lt_succ_self h.n)) (bB rfl) (by rw[List.length_map,List.length_map];exact Nat.le_trans zz (Nat.le_trans c9 (Nat.le_of_ble_eq_true rfl)))
 rw[←List.map_append,←hO]at bC
 have s3:=aV (n:= .others) (aS eA eB bC)
 obtain⟨d5,up⟩: ∃h':H,h'=((h.push (.list (A.map .int))).push (.list (B.map .int))).push (.list (O.map .int)):=⟨_,rfl⟩
 rw[←up]at s3
 have nC:d5.n=h.n+3:=up▸rfl
 have keep: ∀i,i<h.n→d5.o i=h.o i:=fun i hi=>up▸uP (uP (uP rfl hi) (Nat.lt_succ_of_lt hi)) (Nat.lt_succ_of_lt (Nat.lt_succ_of_lt hi))
 have oC:d5.o (h.n+2)=some (.list (O.map .int)):=up▸bB rfl
 obtain⟨l2,cV⟩: ∃l2:L,l2=l1.set .others (.ref (h.n+2)):=⟨_,rfl⟩
 rw[show((h.push (.list (A.map .int))).push (.list (B.map .int))).n=h.n+2 from rfl,←cV]at s3
 have q1:l2 .row=some (.ref rr):=cV▸m1
 have q3:l2 .place=some (.int pl):=cV▸ci▸rfl
 have q4:l2 .width=l .width:=cV▸ci▸rfl
 have q5:l2 .others=some (.ref (h.n+2)):=cV▸rfl
 have q6:l2 .rows=l .rows:=cV▸ci▸rfl
 have q7:=q4.trans h2
 have run: ∀{w},ay C (.cons (.ifs (.and (.cons (.fH .le .lt (.int 0) (.loc .place) (.loc .width)) (.cons (.cmp .jA (.loc .place) (.loc .others)) .nil))) (.cons (.assign .row (.sorted (.bin .add (.loc .others) (.list (.cons (.loc .place) .nil))))) .nil) .nil) .nil) l2 d5=w→ay C uo l h=w:=fun e=>aw s1 (aw s2 (aw s3 e))
 have t3:te C l2 (.cmp .jA (.loc .place) (.loc .others)) d5=some (!O.contains pl,d5):=aJ (aa q3) (aa q5) (by rw[Nh,Do,pG oC];rfl)
 have no:(te C l2 (.and (.cons (.fH .le .lt (.int 0) (.loc .place) (.loc .width)) (.cons (.cmp .jA (.loc .place) (.loc .others)) .nil))) d5=some (false,d5))→ ∃l' h' r2,ay C uo l h=some (.next,l',h')∧l' .row=some (.ref r2)∧dg h' w (c+1) r2∧(r2=rr∨h.n≤r2)∧h.n≤h'.n∧(∀i,i<h.n→h'.o i=h.o i)∧l' .rows=l .rows∧l' .width=l .width:=fun t=>
  ⟨l2,d5,rr,run (aF (bi t dM)),q1,⟨by trace"daBpAlCA3kaeBpClii lt nC",xs,(keep rr lt).trans h4,R,by trace"caABlABpli hc"⟩,.inl rfl,by trace"caBA3kaeABli nC",keep,q6,q4⟩
 by_cases u1:0≤pl
 ·by_cases u2:pl<(w:Int)
  ·have u:=tQ (am (i:=0)) (aa q3) (lq (C:=C) (h:=d5) u1) (aa q7) (kb (C:=C) u2)
   cases u3:O.contains pl with
   |true=>exact no (o7 u (t3.trans (by rw[u3];rfl)))
   |false=>
    have nm:pl∉O:=fun m=>by have:=List.contains_iff_mem.mpr m;rw[u3]at this;cases this
    have z:(sortI (O++[pl])).length≤c+1:=by rw[xK,List.length_append];exact Nat.succ_le_succ zo
    have b:=xM (C:=C) (h:=d5.push (.list [.int pl])) (as:=O.map .int) (bs:=[.int pl]) (uP oC (by trace"caBA3kaeA2kapBli nC")) (bB rfl) (by rw[List.length_map];exact Nat.le_trans (Nat.add_le_add_right zo 1) (Nat.le_trans (Nat.add_le_add_right c9 1) (Nat.le_of_ble_eq_true rfl)))
    rw[show O.map V.int++[.int pl]=(O++[pl]).map .int by rw[List.map_append];rfl]at b
    refine⟨_,_,d5.n+2,run (aF (bE (o7 u (t3.trans (by rw[u3];rfl))) (aF (aV (Cp (aS (aa q5) (dF (aT (aa q3) bh) (Nat.le_of_ble_eq_true rfl)) b) (pG (bB rfl)) (by rw[List.length_append];show O.length+1<64;trace"caA50klBAlBpp64klii c9 zo") (if_pos (pH _ (by trace"caA50klBAplB1000klii c9 z")))))))),rfl,
     ⟨Nat.lt_succ_self _,_,bB rfl,RO.insert u1 u2 nm,z⟩,.inr (by trace"caBA3kaeAB2kali nC"),by show h.n≤d5.n+3;trace"caBA3kaeAB3kali nC",fun i hi=>(uP (uP (uP rfl (by trace"daCA3kaeBpAlBpClii nC hi")) (by show i<d5.n+1;trace"daCA3kaeBpAlBpCplii nC hi")) (by show i<d5.n+2;trace"daCA3kaeBpAlBpC2kalii nC hi")).trans (keep i hi),q6,q4⟩
  ·exact no (o7 (tQ (am (i:=0)) (aa q3) (lq u1) (aa q7) (iC u2)) t3)
 ·exact no (o7 (B5 (am (i:=0)) (aa q3) (py u1)) t3)
end
structure lE(l:L)(h:H)(w c R0:Nat)(refs:List Nat):Prop where
 rows:l .rows=some (.ref R0)
 width:l .width=some (.int (w:Int))
 row: ∃rr,l .row=some (.ref rr)∧dg h w c rr∧rr≠R0
 Qp:h.o R0=some (.list (refs.map .ref))
 all: ∀i∈refs,dg h w c i∧i≠R0
 lt:R0<h.n
theorem dg.mono {h h':H} {w c c' i R0:Nat} (r:dg h w c i) (n:h.n≤h'.n) (k: ∀i,i<h.n→i≠R0→h'.o i=h.o i) (ne:i≠R0) (cc:c≤c'):dg h' w c' i:=by
 obtain⟨a,xs,b,d,e⟩:=r
 exact⟨by trace"daCBlApClApBlii n a",xs,by rw[k i a ne];exact b,d,by trace"daCBlAClABlii cc e"⟩
noncomputable def xO:CC.S:= .ifs (.and (.cons (.cmp .eq (.loc .kind) (.int 3)) (.cons (.cmp .ne (.loc .row) (.list .nil)) .nil))) uo (.cons Dp .nil)
noncomputable def xP:SS:=(.cons (.assign .kind (.bin .mod (.loc .number) (.int 4)))
 (.cons (.assign .rest (.bin .div (.loc .number) (.int 4)))
 (.cons (.ifs (.cmp .eq (.loc .kind) (.int 0))
 (.cons (.expr (.append (.loc .rows) (.loc .row)))
 .nil)
 (.cons xO .nil))
 .nil)))
section
variable{C:Cx}{h:H}{l:L}{w c R0:Nat}{refs:List Nat}
theorem ON{kind rest:Int}(P:lE l h w c R0 refs)(hw:1≤w∧w≤1000)(c9:c≤50)(h0:l .kind=some (.int kind))(h1:l .rest=some (.int rest)):
 ∃l' h',ex C xO l h=some (.next,l',h')∧lE l' h' w (c+1) R0 refs∧h.n≤h'.n∧ ∀i,i<h.n→i≠R0→h'.o i=h.o i:=by
 obtain⟨p1,p2,⟨rr,p3,⟨a1,xs,a2,a3,a4⟩,p4⟩,p5,p6,p7⟩:=P
 have fin: ∀{l':L}{h':H}{r2:Nat},l' .rows=some (.ref R0)→l' .width=some (.int (w:Int))→l' .row=some (.ref r2)→dg h' w (c+1) r2→(r2=rr∨h.n≤r2)→h.n≤h'.n→(∀i,i<h.n→h'.o i=h.o i)→lE l' h' w (c+1) R0 refs:=by
  intro l' h' r2 e1 e2 e3 e4 e5 e6 e7
  exact⟨e1,e2,⟨r2,e3,e4,by trace"eaDpClADexBAeCBloBDexiii p7 p4 e5"⟩,by rw[e7 R0 p7];exact p5,fun i hi=>⟨(p6 i hi).1.mono e6 (R0:=R0) (fun i a _=>e7 i a) (p6 i hi).2 (by trace"baAApl"),(p6 i hi).2⟩,by trace"daCpBlBAlCpAlii p7 e6"⟩
 by_cases q:kind=3
 ·subst q
  have k1:(h.push (.list [])).o rr=some (.list (xs.map .int)):=uP a2 a1
  have lt':rr<(h.push (.list [])).n:=Nat.lt_succ_of_lt a1
  have u:=aJ (C:=C) (l:=l) (h:=h) (aa h0) (am (i:=3)) (nv rfl)
  have nt: ∀b,(!(xs==[]))=b→te C l (.cmp .ne (.loc .row) (.list .nil)) h=some (b,h.push (.list [])):=fun b e=>aJ (aa p3) (dF bh (Nat.zero_le _)) (by
   have e1:(h.push (.list [])).o h.n=some (.list (([]:List Int).map .int)):=bB rfl
   rw[tX,OK,pG k1,pG e1,←e])
  cases z:(xs==[])with
  |true=>
   refine pO (Dq (C:=C) (h:=h.push (.list [])) (l:=l) hw h1 p2 p3 k1 a3 a4 c9 lt') fun h' r2 f1 f2 f3 f4 f5=> ?_
   have g3:h.n≤r2:=Nat.le_of_succ_le f3
   have g4:h.n≤h'.n:=Nat.le_of_succ_le f4
   have g5: ∀i,i<h.n→h'.o i=h.o i:=fun i hi=>(f5 i (Nat.lt_succ_of_lt hi)).trans (uP rfl hi)
   exact⟨_,h',bi (o8 (o6 u (q9 (nt false (by rw[z];rfl))))) (aF f1),fin p1 p2 rfl f2 (.inr g3) g4 g5,g4,fun i hi _=>g5 i hi⟩
  |false=>
   have hx:xs≠[]:=by rintro rfl;cases z
   refine pQ (OL (C:=C) (h:=h.push (.list [])) (l:=l) hw h1 p2 p3 k1 a3 a4 c9 lt' hx) fun l' h' r2 f1 f2 f3 f4 f5 f6 f7 f8=> ?_
   have g4:h.n≤h'.n:=Nat.le_of_succ_le f5
   have g5: ∀i,i<h.n→h'.o i=h.o i:=fun i hi=>(f6 i (Nat.lt_succ_of_lt hi)).trans (uP rfl hi)
   exact⟨l',h',bE (o8 (o6 u (q9 (nt true (by rw[z];rfl))))) f1,fin (f7.trans p1) (f8.trans p2) f2 f3 (f4.imp id Nat.le_of_succ_le) g4 g5,g4,fun i hi _=>g5 i hi⟩
 ·refine pO (Dq (C:=C) (h:=h) (l:=l) hw h1 p2 p3 a2 a3 a4 c9 a1) fun h' r2 f1 f2 f3 f4 f5=> ?_
  exact⟨_,h',bi (o8 (tR (aJ (aa h0) am (lu q)))) (aF f1),fin p1 p2 rfl f2 (.inr f3) f4 f5,f4,fun i hi _=>f5 i hi⟩
theorem OO{v:Int}(P:lE l h w c R0 refs)(hw:1≤w∧w≤1000)(c9:c≤50)(hr:refs.length≤c):
 ∃l' h' rI,ay C xP (l.set .number (.int v)) h=some (.next,l',h')∧lE l' h' w (c+1) R0 rI∧rI.length≤c+1∧h.n≤h'.n∧ ∀i,i<h.n→i≠R0→h'.o i=h.o i:=by
 obtain⟨l1,ci⟩: ∃l1:L,l1=((l.set .number (.int v)).set .kind (.int (v.fmod 4))).set .rest (.int (v.fdiv 4)):=⟨_,rfl⟩
 have run: ∀{w},ex C (.ifs (.cmp .eq (.loc .kind) (.int 0)) (.cons (.expr (.append (.loc .rows) (.loc .row))) .nil) (.cons xO .nil)) l1 h=w→ay C xP (l.set .number (.int v)) h=w:=fun e=>
  aw (aV (aS (aa (n:= .number) rfl) (am (i:=4)) ((gU _ _ _ _).trans (if_pos (by decide))))) (aw (aV (aS (aa (n:= .number) rfl) (am (i:=4)) ((tW _ _ _ _).trans (if_pos (by decide))))) (ci▸aF e))
 have k0:l1 .kind=some (.int (v.fmod 4)):=ci▸rfl
 have k1:l1 .rest=some (.int (v.fdiv 4)):=ci▸rfl
 obtain⟨p1,p2,⟨rr,p3,p4,p5⟩,p6,p7,p8⟩:=P
 have p1:l1 .rows=some (.ref R0):=ci▸p1
 have p2:l1 .width=some (.int (w:Int)):=ci▸p2
 have p3:l1 .row=some (.ref rr):=ci▸p3
 by_cases q:v.fmod 4=0
 ·have z:(refs.map V.ref).length<aU:=by rw[List.length_map];exact Nat.lt_of_le_of_lt (Nat.le_trans hr c9) (Nat.le_of_ble_eq_true rfl)
  have fr: ∀i,i<h.n→i≠R0→(h.set R0 (.list ((refs++[rr]).map .ref))).o i=h.o i:=fun i _ ne=>dN ne
  have s:=nq (C:=C) (aa p1) p6 (aa p3) p6 z
  rw[show refs.map V.ref++[.ref rr]=(refs++[rr]).map .ref by rw[List.map_append];rfl]at s
  refine⟨l1,_,refs++[rr],run (bE (aJ (aa k0) am (nv q)) (aF s)),⟨p1,p2,⟨rr,p3,p4.mono (Nat.le_refl _) fr p5 (by trace"baAApl"),p5⟩,bU _ _ _,fun i hi=> ?_,p8⟩,by rw[List.length_append];exact Nat.succ_le_succ hr,Nat.le_refl _,fr⟩
  rcases List.mem_append.mp hi with hi|hi
  ·exact⟨(p7 i hi).1.mono (Nat.le_refl _) fr (p7 i hi).2 (by trace"baAApl"),(p7 i hi).2⟩
  ·rw[List.mem_singleton]at hi
   subst hi
   exact⟨p4.mono (Nat.le_refl _) fr p5 (by trace"baAApl"),p5⟩
 ·refine rV (ON (C:=C) ⟨p1,p2,⟨rr,p3,p4,p5⟩,p6,p7,p8⟩ hw c9 k0 k1) fun l' h' f1 f2 f3 f4=> ?_
  exact⟨l',h',refs,run (bi (aJ (aa k0) am (lu q)) (aF f1)),f2,by trace"caABlABpli hr",f3,f4⟩
theorem Ds{an:Nat}{all:List V}(hw:1≤w∧w≤1000)(ne:an≠R0): ∀(vs:List Int)(c:Nat)(refs:List Nat)(l:L)(h:H),lE l h w c R0 refs→refs.length≤c→c+vs.length≤50→h.o an=some (.list all)→an<h.n→
 ∃l' h' rI,bD (fun h=>bV C h (some (.ref an)) all) (fun v l h=>ay C xP (l.set .number v) h) (vs.map .int) l h=some (.next,l',h')∧lE l' h' w (c+vs.length) R0 rI∧rI.length≤c+vs.length∧h.n≤h'.n∧ ∀i,i<h.n→i≠R0→h'.o i=h.o i
 |[],c,refs,l,h,P,hr,hc,ha,la=>⟨l,h,refs,tU (fQ ha),P,hr,Nat.le_refl _,fun _ _ _=>rfl⟩
 |v::vs,c,refs,l,h,P,hr,hc,ha,la=>by
  rw[List.length_cons]at hc
  refine uL (OO (C:=C) (v:=v) P hw (by trace"caBApa50klB50kli hc") hr) fun l1 h1 OP e1 P1 e2 e3 e4=> ?_
  refine uL (Ds hw ne vs (c+1) OP l1 h1 P1 e2 (by trace"caABpa50klApBa50kli hc") (by rw[e4 an la ne];exact ha) (by trace"daCpBlBAlCpAlii la e3")) fun l2 h2 OQ f1 P2 f2 f3 f4=> ?_
  refine⟨l2,h2,OQ,j7 (fQ ha) e1 f1,by rw[List.length_cons,←Nat.add_assoc,Nat.add_right_comm];exact P2,by rw[List.length_cons];trace"daABpCalABCpali f2",by trace"daCBlBAlCAlii e3 f3",fun i hi eh=>by rw[f4 i (by trace"daCBlApClApBlii e3 hi") eh,e4 i hi eh]⟩
end
section
variable{fuel n:Nat}{h:H}{w an:Nat}{vs:List Int}
theorem OR(cl:CL→List V)(hw:1≤w∧w≤1000)(hv:vs.length≤40)(ha:h.o an=some (.list (vs.map .int)))(la:an<h.n):
 ∃h' ro refs,(Cn cl fuel (n+1)).call .jy [.ref an,.int (w:Int)] [] h=some (.ret (.ref ro),h')∧h'.o ro=some (.list (refs.map .ref))∧refs.length≤3∧refs≠[]∧(∀i∈refs,dg h' w 50 i)∧ro<h'.n∧h.n≤h'.n∧ ∀i,i<h.n→h'.o i=h.o i:=by
 obtain⟨h1,nJ⟩: ∃h1:H,h1=(h.push (.list [])).push (.list []):=⟨_,rfl⟩
 have n1:h1.n=h.n+2:=nJ▸rfl
 have P:lE (L.set (L.set (fun m=>own m [(.eY,.ref an),(.width,.int (w:Int))]) .rows (.ref h.n)) .row (.ref (h.n+1))) h1 w 0 h.n []:=
  ⟨rfl,rfl,⟨h.n+1,rfl,⟨by trace"caBA2kaeAppBli n1",[],nJ▸bB rfl,⟨.nil,fun x hx=>(nomatch hx)⟩,Nat.zero_le _⟩,by trace"baApAex"⟩,nJ▸uP (bB rfl) (Nat.lt_succ_self _),fun i hi=>(nomatch hi),by trace"caBA2kaeApBli n1"⟩
 have Dt:h1.o an=some (.list (vs.map .int)):=nJ▸uP (uP ha la) (Nat.lt_succ_of_lt la)
 refine uL (Ds (C:=Cn cl fuel n) (an:=an) (all:=vs.map .int) hw (by trace"daCpBlAB2kaeCBexii la n1") vs 0 [] _ h1 P (Nat.le_refl _) (by trace"baA40kl0kAa50kli hv") Dt (by trace"daBpAlCA2kaeBpClii la n1")) fun l2 h2 refs f1 P2 f2 f3 f4=> ?_
 obtain⟨p1,p2,⟨rr,p3,p4,p5⟩,p6,p7,p8⟩:=P2
 have z:(refs.map V.ref).length<aU:=by rw[List.length_map];exact Nat.lt_of_le_of_lt (show refs.length≤40 by trace"caA40klB0kAalB40klii hv f2") (Nat.le_of_ble_eq_true rfl)
 obtain⟨h3,jh⟩: ∃h3:H,h3=h2.set h.n (.list ((refs++[rr]).map .ref)):=⟨_,rfl⟩
 have s4:=nq (C:=Cn cl fuel n) (aa p1) p6 (aa p3) p6 z
 rw[show refs.map V.ref++[.ref rr]=(refs++[rr]).map .ref by rw[List.map_append];rfl,←jh]at s4
 have o3:h3.o h.n=some (.list ((refs++[rr]).map .ref)):=jh▸bU _ _ _
 have z2:(be (refs++[rr]) 0 3).length≤3:=by simp[be];trace"ca3kBplA3kenBp3klABpenoA3kli .m"
 have s5:=tK (C:=Cn cl fuel n) (l:=l2) (aa p1) (am (i:=3)) ((xL _ h3 h.n none (some 3)).trans ((if_pos (show(0:Int)≤0∧(0:Int)≤3∧(0:Int)<2^31∧(3:Int)<2^31 by decide)).trans (show _=some (V.ref h3.n,h3.push (.list ((be (refs++[rr]) 0 3).map .ref))) by
  rw[d6 o3];show cy h3 (be ((refs++[rr]).map V.ref) 0 3)=_;rw[show be ((refs++[rr]).map V.ref) 0 3=(be (refs++[rr]) 0 3).map V.ref by simp[be,List.map_take]];exact if_pos (pH _ (by trace"baA3klA1000kli z2")))))
 have fr: ∀i,i<h.n+2→i≠h.n→h3.o i=h1.o i:=fun i hi ne=>jh▸uS (f4 i (by trace"daCA2kaeBpA2kalBpClii n1 hi") ne) ne
 refine⟨_,h3.n,be (refs++[rr]) 0 3,bH rfl rfl (aw (aV (dF bh (Nat.zero_le _))) (aw (aV (dF bh (Nat.zero_le _))) (aw (jl (pd (aa rfl) (nJ▸d6 Dt)) (nJ▸f1)) (aw s4 (em (fy s5)))))) rfl,bB rfl,z2,?_,fun i hi=> ?_,Nat.lt_succ_self _,by rw[bN,jh,j8];trace"daCA2kaeCBlABplii n1 f3",fun i hi=> ?_⟩
 ·intro e
  have:(be (refs++[rr]) 0 3).length=0:=by rw[e];rfl
  simp[be]at this
 ·have hm:i∈refs++[rr]:=by
   simp only[be,List.drop_zero]at hi
   exact List.mem_of_mem_take hi
  have base: ∀i,dg h2 w (0+vs.length) i→i≠h.n→dg (h3.push (.list ((be (refs++[rr]) 0 3).map .ref))) w 50 i:=by
   intro i r ne
   have r1:dg h3 w 50 i:=r.mono (R0:=h.n) (by rw[jh,j8];exact Nat.le_refl _) (fun i _ ne=>by rw[jh,dN ne]) ne (by trace"baA40kl0kAa50kli hv")
   obtain⟨a,xs,b,d,e⟩:=r1
   exact⟨by rw[bN];trace"caApBlApBpli a",xs,by rw[bM (by trace"caBpAlBAexi a")];exact b,d,e⟩
  rcases List.mem_append.mp hm with hm|hm
  ·exact base i (p7 i hm).1 (p7 i hm).2
  ·rw[List.mem_singleton]at hm
   subst hm
   exact base _ p4 p5
 ·have n3:h.n≤h3.n:=by rw[jh,j8];trace"daCA2kaeCBlABlii n1 f3"
  exact uP ((fr i (by trace"daAC2kaeBpClBpC2kalii n1 hi") (by trace"daAB2kaeCpBlCBexii n1 hi")).trans (nJ▸uP (uP rfl hi) (Nat.lt_succ_of_lt hi))) (by trace"eaAD2kaeBpDlDClBpCliii n1 hi n3")
end
noncomputable def ek:T→List Bool→Option T
 | .node l r,[b]=>if gV (if b then r else l)then none else some (if b then r else l)
 | .node l r,b::c::bs=>if gV (if b then r else l)then ek (if b then r else l) (c::bs)else none
 |_,_=>none
noncomputable def qs(d:PC):Except Cl T→PC
 | .ok t=>{d with st:=t}
 | .error _=>d
noncomputable def qr:Except Cl T→Option Cl
 | .ok _=>none
 | .error c=>some c
theorem Du{t:T}(h:gV t=true): ∃l r,t= .node l r:=by
 induction t with
 |node l r=>exact⟨l,r,rfl⟩
 |none=>cases h
 |int _=>cases h
 |str _=>cases h
section
variable{cl:CL→List V}{fuel:Nat}
theorem gW{v:T}{q:Except Cl T}{G:PC→Prop}: ∀(bs:List Bool){d:PC},ek d.st bs=some v→(∀st pos,∃d',Acc cl fuel {d with st:=st,pos:=pos} v d' q∧G d')→ ∃d',bp cl fuel d bs (qs d' q) (qr q)∧G d':=by
 intro bs
 induction bs with
 |nil=>intro d e h;cases hs:d.st<;>rw[hs]at e<;>cases e
 |cons b bs ih=>
  intro d e h
  cases hs:d.st with
  |node l r=>
   rw[hs]at e
   induction bs with
   |nil=>
    have e:(if gV (if b then r else l)then none else some (if b then r else l))=some v:=e
    by_cases n:gV (if b then r else l)=true
    ·rw[if_pos n]at e;cases e
    ·rw[if_neg n]at e
     cases e
     refine aA (h d.st (d.pos+1)) fun d' a g=> ?_
     refine⟨d',?_,g⟩
     induction q with
     |ok t=>
      have B:kg cl fuel d b {d' with st:=t} none:=C0 hs rfl (by simpa using n) a
      exact .cons B (.nil _)
     |error c=>
      have B:kg cl fuel d b d' (some c):=C0 hs rfl (by simpa using n) a
      exact .stop B
   |cons c bs=>
    have e:(if gV (if b then r else l)then ek (if b then r else l) (c::bs)else none)=some v:=e
    by_cases n:gV (if b then r else l)=true
    ·rw[if_pos n]at e
     refine kr (Du n) fun l' r' hn=> ?_
     have B:kg cl fuel d b {d with st:= .node l' r',pos:=d.pos+1} none:=CZ hs hn
     refine aA (ih (d:={d with st:= .node l' r',pos:=d.pos+1}) (by rw[←hn];exact e) h) fun d' f g=> ?_
     exact⟨d',.cons B f,g⟩
    ·rw[if_neg n]at e;cases e
  |none=>rw[hs]at e;cases e
  |int _=>rw[hs]at e;cases e
  |str _=>rw[hs]at e;cases e
end
theorem OS: ∀n,n<7→ek ca (iG n)=some (.int ((n:Int)-3)):=by decide
theorem OT:ek ca [false,false,false,true]=some (.str [112]):=by decide
theorem Dv:ek ca [false,false,true]=some (.str [104]):=by decide
theorem Dx: ∀w:Bool,∀n,n<64→ek (if w then iW else iY) (iF w n)=some (.int (n:Int)):=by decide+kernel
theorem Dy: ∀w:Bool,∀n,n<8→ek (if w then iW else iY) (lA w n)=some (.int (64*((n:Int)+1))):=by decide+kernel
noncomputable def eN:List Bool:=[false,false,false,false,false,false,false,false,false,false,false,true,false,false,false,false,false,false,false,false,false,false,false,true]
theorem OU:ek ca eN=some (.str [101]):=by decide
noncomputable def ew(row:List Nat)(x:Nat):Nat:=row.countP fun y=>decide (y<x)
noncomputable def cG(k:Nat):Int:=if k%2=0 then 1 else 0
noncomputable def eW(row:List Nat)(x:Nat):Int:=cG (ew row (x+1))
noncomputable def part(row:List Nat)(w q:Nat):List Int:=(List.range w).map fun x=>if x<q then eW row x else 1
noncomputable def px(row:List Nat)(w:Nat):List Int:=(List.range w).map (eW row)
theorem rJ(k:Nat):cG (k+1)=1-cG k:=by
 unfold cG
 by_cases h:k%2=0
 ·rw[if_pos h,if_neg (by trace"faA0keBE2maCpeBp2klnAD2maCeAp2klnB0kexiii h .d2 .d2")];rfl
 ·rw[if_neg h,if_pos (by trace"faA0kexBE2maCpeBp2klnAD2maCeAp2klnB0keiii h .d2 .d2")];rfl
theorem Dz(a b:Nat):cG a=cG b↔a%2=b%2:=by
 unfold cG
 by_cases h:a%2=0<;>by_cases g:b%2=0<;>simp[h,g]<;>omega
theorem xQ(row:List Nat)(w q:Nat):(part row w q).length=w:=by simp[part]
theorem lF(row:List Nat)(w:Nat):(px row w).length=w:=by simp[px]
theorem DA(row:List Nat)(w:Nat):part row w 0=List.replicate w 1:=by
 refine List.ext_getElem? fun i=> ?_
 simp[part,List.getElem?_replicate]
 split<;>simp_all
theorem OV(row:List Nat)(w:Nat):part row w w=px row w:=by
 refine List.map_congr_left fun x hx=> ?_
 rw[if_pos (List.mem_range.mp hx)]
theorem map_set(f:Nat→Int)(w a:Nat)(c:Int):((List.range w).map f).set a c=(List.range w).map fun x=>if x=a then c else f x:=by
 refine List.ext_getElem? fun i=> ?_
 by_cases hi:i<w
 ·by_cases h:i=a
  ·subst h;simp[List.getElem?_set,hi]
  ·have h': ¬a=i:=fun q=>h q.symm
   simp[List.getElem?_set,h,h',hi]
 ·rw[List.getElem?_eq_none (by simp;trace"caApBlxBAli hi"),List.getElem?_eq_none (by simp;trace"caApBlxBAli hi")]
theorem DB(w:Nat)(c:Int): ∀(n a:Nat)(f:Nat→Int),fill ((List.range w).map f) a n c=(List.range w).map fun x=>if a≤x∧x<a+n then c else f x
 |0,a,f=>by
  refine List.map_congr_left fun x _=> ?_
  rw[if_neg (by trace"caABlBpA0kalnx")]
 |n+1,a,f=>by
  show fill (((List.range w).map f).set a c) (a+1) n c=_
  rw[map_set,DB w c n (a+1)]
  refine List.map_congr_left fun x _=> ?_
  by_cases h:x=a
  ·rw[if_neg (by trace"daBCeCpBlBpCpAalnxi h"),if_pos h,if_pos (by trace"daABeBAlApBCpalni h")]
  ·by_cases g:a+1≤x∧x<a+1+n
   ·rw[if_pos g,if_pos (by trace"daCpBlBpCpAalnCBlBpCApalni g")]
   ·rw[if_neg g,if_neg h,if_neg (by trace"daBCexCpBlBpCpAalnxCBlBpCApalnxii h g")]
section
variable{row above:List Nat}{w k:Nat}{p:Int}
theorem xR{x:Nat}(P: ∀(i y:Nat),row[i]? =some y→(k≤i↔x≤y))(hk:k≤row.length):ew row x=k:=by
 have e:row=row.take k++row.drop k:=(List.take_append_drop k row).symm
 unfold ew
 rw[e,List.countP_append]
 have h1:(row.take k).countP (fun y=>decide (y<x))=(row.take k).length:=by
  rw[List.countP_eq_length]
  intro y hy
  refine br (List.getElem?_of_mem hy) fun i hi=> ?_
  have li:i<k:=by
   have:=(List.getElem?_eq_some_iff.mp hi).1
   simp at this;trace"eaDBlCpAlDBlADenBDlABenoCpDliii hk this .m"
  rw[List.getElem?_take,if_pos li]at hi
  have:=P i y hi
  simp;trace"eaDpBlBDlCAlbApClii li this"
 have h2:(row.drop k).countP (fun y=>decide (y<x))=0:=by
  rw[List.countP_eq_zero]
  intro y hy
  refine br (List.getElem?_of_mem hy) fun i hi=> ?_
  rw[List.getElem?_drop]at hi
  have:=P (k+i) y hi
  simp;trace"eaDDCalABlbABli this"
 rw[h1,h2]
 simp;trace"daCBlCBlACenBClABenoACeii hk .m"
theorem DC(P:Pk row p k)(hk:k≤row.length){x:Nat}(h1:p≤x)(h2:x<row.getD k w)(R:bw row w):eW row x=cG k:=by
 unfold eW
 rw[xR (k:=k) (fun i y e=> ?_) hk]
 constructor
 ·intro h
  rcases iH row k w with⟨z,f1,f2⟩|⟨f1,f2⟩
  ·rw[f2]at h2
   by_cases q:i=k
   ·subst q;rw[f1]at e;cases e;trace"daBpClACeBpClii h2 f2"
   ·have:=R.sorted _ _ _ _ f1 e (by trace"caABlBAexApBlii h q");trace"eaCpBlABeBpDlCpDliii h2 f2 this"
  ·have:i<row.length:=(List.getElem?_eq_some_iff.mp e).1
   rw[List.getElem?_eq_none_iff]at f1;trace"faDBlDAlBDlApBlCpEliiii hk h f1 this"
 ·intro h
  exact(P i y e).mpr (by trace"cbUBcrBpAlUqAcrii h1 h")
theorem uq(R:bw row w)(P:Pk row p k)(hk:p<(w:Int)→k≤row.length)(hp: -1≤p){a q:Nat}(ha:a=p.toNat)(hq:q≤row.getD k w)(hw:row.getD k w≤w):fill (part row w a) a (q-a) (cG k)=part row w (max a q):=by
 unfold part
 rw[DB]
 refine List.map_congr_left fun x hx=> ?_
 have hx:=List.mem_range.mp hx
 by_cases g:a≤x∧x<a+(q-a)
 ·rw[if_pos g,if_pos (by trace"gbFEeFDlDpFBalnFClACenCFlAFenoFClBFaCenCFlB0keno0zUrEcUjnU0zrE0kenoDpAliiiii ha g .M .s .t"),DC (w:=w) P (hk (by trace"gb1zgUrFEeDpClFDlDpFAalnFBlAFaBenBFlA0keno0zUrEcUjnU0zrE0kenoUqCcriiiiii hp ha hx g .s .t")) (by trace"fb1zgUrEDeEClCpEAalnEBlAEaBenBElA0keno0zUrDcUjnU0zrD0kenoUCcriiiii hp ha g .s .t") (by trace"gbFEeDClFBlBpFAalnFDlAFaDenDFlA0keno0zUrEcUjnU0zrE0kenoBpCliiiii ha hq g .s .t") R]
 ·rw[if_neg g]
  by_cases h:x<a
  ·rw[if_pos h,if_pos (by trace"fbEBeCpElEAlDAenAElDEeno0zUrBcUjnU0zrB0kenoCpDliiii ha h .M .t")]
  ·rw[if_neg h,if_neg (by trace"gbFEeFDlDpFBalnxDpFlxFClACenCFlAFenoFClBFaCenCFlB0keno0zUrEcUjnU0zrE0kenoDpAlxiiiiii ha g h .M .s .t")]
theorem DD(R:bw above w)(k x:Nat):(ew above x%2=k%2∧ew above (x+1)%2≠k%2)↔ ∃j,above[j]? =some x∧j%2=k%2:=by
 have key: ∀j,above[j]? =some x→ew above x=j∧ew above (x+1)=j+1:=by
  intro j e
  have lj:=(List.getElem?_eq_some_iff.mp e).1
  refine⟨xR (fun i y f=> ?_) (by trace"caApBlABli lj"),xR (fun i y f=> ?_) (by trace"caApBlApBli lj")⟩
  ·constructor
   ·intro h
    by_cases q:i=j
    ·subst q;rw[e]at f;cases f;trace"baAAl"
    ·have:=R.sorted _ _ _ _ e f (by trace"caABlBAexApBlii h q");trace"caApBlABli this"
   ·intro h
    apply Nat.le_of_not_lt
    intro q
    have:=R.sorted _ _ _ _ f e q;trace"caABlBpAlxi h this"
  ·constructor
   ·intro h
    have:=R.sorted _ _ _ _ e f (by trace"caApBlApBli h");trace"caApBlApBli this"
   ·intro h
    apply Nat.lt_of_not_le
    intro q
    by_cases z:i=j
    ·subst z;rw[e]at f;cases f;trace"baApAlx h"
    ·have:=R.sorted _ _ _ _ f e (by trace"caABlABexApBlii q z");trace"caApBlBpAlxi h this"
 constructor
 ·rintro⟨h1,h2⟩
  by_cases m:x∈above
  ·refine br (List.getElem?_of_mem m) fun j e=> ?_
   refine bn (key j e) fun q _=> ?_
   exact⟨j,e,by trace"kaJCeADeGDpeBF2maDeBp2klnCE2maHeCp2klnJI2maAeJp2klnBCeiiiiii h1 q _ .d2 .d2 .d2"⟩
  ·have:ew above (x+1)=ew above x:=by
    unfold ew
    refine List.countP_congr fun y hy=> ?_
    have:y≠x:=fun q=>m (q▸hy)
    simp;trace"caABexApBplApBlbi this"
   trace"!jaCFeBFexAIeBG2maAeBp2klnFE2maDeFp2klnCH2maIeCp2klnxiiiii h1 h2 this .d2 .d2 .d2"
 ·rintro⟨j,e,h⟩
  refine bn (key j e) fun a b=> ?_
  omega
theorem pI{x:Nat}(h:x<w):gi (px above w) x=eW above x:=by
 unfold gi
 simp[px,List.getD,h]
theorem DE:ew above 0=0:=by simp[ew]
theorem OW(k:Nat):(cG k==1)=decide (k%2=0):=by
 unfold cG
 by_cases h:k%2=0
 ·rw[if_pos h];simp[h]
 ·rw[if_neg h];simp[h]
theorem OX(k:Nat):(cG k==0)= !decide (k%2=0):=by
 unfold cG
 by_cases h:k%2=0
 ·rw[if_pos h];simp[h]
 ·rw[if_neg h];simp[h]
theorem ur(a b:Nat):(cG a==cG b)=decide (a%2=b%2):=by
 rw[Bool.eq_iff_iff];simp[Dz]
theorem DF(R:bw above w){x:Nat}(h:x<w):dO (px above w) (cG k) x=true↔ ∃j,above[j]? =some x∧j%2=k%2:=by
 rw[←DD R]
 unfold dO
 by_cases q:x=0
 ·subst q
  rw[if_pos rfl,pI h,OW,eW,DE]
  simp[bne,ur]
  trace"gaFE2maDeFp2klnCB2maAeCp2klnCFexF0ke0kFebiii .d2 .d2"
 ·rw[if_neg q,pI h,pI (by trace"daCpBl1kClApCenC1klA0kenoApBlii h .s"),lF,eW,eW,show x-1+1=x by trace"caB0kex1kBlApBenB1klA0kenoApBeii q .s"]
  have: ¬x=w:=by trace"caBpAlBAexi h"
  simp[bne,ur,this]
theorem DG(R:bw above w){x:Nat}(h:x<w):fR (px above w) (cG k) x=true↔ ∃j,above[j]? =some x∧j%2=(k+1)%2:=by
 rw[←DD R]
 unfold fR
 by_cases q:x=0
 ·subst q
  rw[if_pos rfl,pI h,OX,eW,DE]
  simp[bne,ur]
  trace"iaEG2maBpeEp2klnCD2maAeCp2klnFH2maBeFp2klnF1keCFen0kEeCEexnbiii .d2 .d2 .d2"
 ·rw[if_neg q,pI h,pI (by trace"daCpBl1kClApCenC1klA0kenoApBlii h .s"),lF,eW,eW,show x-1+1=x by trace"caB0kex1kBlApBenB1klA0kenoApBeii q .s"]
  have: ¬x=w:=by trace"caBpAlBAexi h"
  simp[bne,ur,this]
  trace"laGK2maBpeGp2klnFJ2maCeFp2klnEI2maBeEp2klnDH2maAeDp2klnDEexFEenDGeFGexnbiiii .d2 .d2 .d2 .d2"
theorem OY(h:1≤w)(c:Int):dO (px above w) c w=true:=by
 unfold dO
 rw[if_neg (by trace"ba1kAlA0kexi h"),lF]
 simp
theorem OZ(h:1≤w)(c:Int):fR (px above w) c w=true:=by
 unfold fR
 rw[if_neg (by trace"ba1kAlA0kexi h"),lF]
 simp
theorem DH(R:bw above w){j:Nat}(J:lC above p k j)(hp:p<(w:Int))(hw:1≤w)(hc: -1≤p):(p+1).toNat≤above.getD j w∧above.getD j w≤w∧dO (px above w) (cG k) (above.getD j w)=true∧
 ∀y,(p+1).toNat≤y→y<above.getD j w→dO (px above w) (cG k) y=false:=by
 have le:=et (k:=j) R
 refine⟨?_,le,?_,fun y h1 h2=> ?_⟩
 ·rcases iH above j w with⟨z,f1,f2⟩|⟨f1,f2⟩
  ·rw[f2];have:=J.hi z f1;trace"dbBCeUqCcr0zUqrAcUqjnUq0zrA0kenoACliii f2 this .t"
  ·rw[f2];trace"dbUqCcr1kClBCe0zUqrAcUqjnUq0zrA0kenoACliiii hp hw f2 .t"
 ·rcases iH above j w with⟨z,f1,f2⟩|⟨f1,f2⟩
  ·rw[f2,DF R (R.lt _ _ f1)];exact⟨j,f1,J.par⟩
  ·rw[f2];exact OY hw _
 ·rw[Bool.eq_false_iff]
  intro q
  refine aA ((DF R (by trace"daCBlApClApBlii le h2")).mp q) fun i e h=> ?_
  by_cases q:i<j
  ·refine aA (J.low i h q) fun x e2 h3=> ?_
   rw[e]at e2;cases e2;trace"cb1zgUrBAlAcUr0zUqrBcUqjnUq0zrB0kenoxiii hc h1 h3 .t"
  ·have li:=(List.getElem?_eq_some_iff.mp e).1
   have lj:j<above.length:=by trace"iaGHeFpClxFpDlHA2maEeHp2klnGB2maFeGp2klnCpDliiiii h q li .d2 .d2"
   have ej:=List.getElem?_eq_getElem lj
   have:above.getD j w=above[j]:=by simp[List.getD,ej]
   by_cases z:i=j
   ·subst z;rw[e]at ej;cases ej;trace"eaDpBlACeCpAlxii lj this h2"
   ·have:=R.sorted _ _ _ _ ej e (by trace"iaFHeDpAlxApBlDAexHC2maGeHp2klnFE2maDeFp2klnApDliiiiii h q lj z .d2 .d2");trace"faCpAlEpBlADeDpClxiii h2 lj _ this"
theorem O0(R:bw above w){j:Nat}(J:lC above p k j)(hw:1≤w):above.getD j w≤above.getD (j+1) w∧above.getD (j+1) w≤w∧fR (px above w) (cG k) (above.getD (j+1) w)=true∧
 ∀y,above.getD j w≤y→y<above.getD (j+1) w→fR (px above w) (cG k) y=false:=by
 have le:=et (k:=j+1) R
 have jp:=J.par
 refine⟨pD R,le,?_,fun y h1 h2=> ?_⟩
 ·rcases iH above (j+1) w with⟨z,f1,f2⟩|⟨f1,f2⟩
  ·rw[f2,DG R (R.lt _ _ f1)];exact⟨j+1,f1,by trace"kaJCeEG2maApeEp2klnBF2maDpeBp2klnCI2maAeCp2klnJH2maDeJp2klnBEeiiiii jp .d2 .d2 .d2 .d2"⟩
  ·rw[f2];exact OZ hw _
 ·rw[Bool.eq_false_iff]
  intro q
  refine aA ((DG R (by trace"daCBlApClApBlii le h2")).mp q) fun i e h=> ?_
  have li:=(List.getElem?_eq_some_iff.mp e).1
  by_cases q:i<j
  ·by_cases lj:j<above.length
   ·have ej:=List.getElem?_eq_getElem lj
    have:above.getD j w=above[j]:=by simp[List.getD,ej]
    have:=R.sorted _ _ _ _ e ej q;trace"faDClEpBlDAeCpAlxiii h1 lj _ this"
   ·have:above.getD j w=w:=by simp[List.getD,List.getElem?_eq_none (Nat.le_of_not_lt lj)]
    trace"eaBAlDClCpBlDAexiii le h1 h2 this"
  ·by_cases z:i=j
   ·omega
   ·have lj:j+1<above.length:=by omega
    have ej:=List.getElem?_eq_getElem lj
    have:above.getD (j+1) w=above[j+1]:=by simp[List.getD,ej]
    by_cases z:i=j+1
    ·subst z;rw[e]at ej;cases ej;trace"eaDppBlACeCpAlxii lj this h2"
    ·have:=R.sorted _ _ _ _ ej e (by omega);trace"faApBlEppDlBCeCpAlxiii h2 lj _ this"
end
structure lG(above row:List Nat)(d0:PC)(p:Int)(k:Nat)(d:PC):Prop where
 af:d.af= .b9
 cl:d.cl=part row d0.w p.toNat
 rl:d.rl=px above d0.w
 cp:d.cp=p
 col:d.col=cG k
 ext:cE d.ext
 w:d.w=d0.w
 al:d.al=d0.al
 rev:d.rev=d0.rev
 buf:d.buf=d0.buf
structure End(row:List Nat)(d0:PC)(B:List UInt8)(d:PC):Prop where
 af:d.af= .b9
 cl:d.cl=List.replicate d0.w 1
 rl:d.rl=px row d0.w
 cp:d.cp= -1
 col:d.col=1
 ext:cE d.ext
 w:d.w=d0.w
 al:d.al=d0.al
 rev:d.rev=d0.rev
 buf:d.buf=d0.buf++B
noncomputable def fU(d0:PC)(q:Nat):Except Cl T:=if q<d0.w then .ok ca else if d0.al.getD false then .error .dB else .ok ca
noncomputable def jq(above row:List Nat)(d0:PC)(B:List UInt8)(q k:Nat)(d:PC):Prop:=(q<d0.w→lG above row d0 (q:Int) k d)∧(q=d0.w→End row d0 B d)
structure rK(above row:List Nat)(d0:PC)(B:List UInt8):Prop where
 w1:1≤d0.w
 w2:d0.w≤575
 ra:bw above d0.w
 rr:bw row d0.w
 oct:eF ((ny d0.rev (px row d0.w)).map .int)=some B
 len:B.length≤100
 buf:d0.buf.length≤1000
section
variable{cl:CL→List V}{fuel:Nat}{above row:List Nat}{d0 d:PC}{B:List UInt8}{p:Int}{k:Nat}
theorem xS(Y:rK above row d0 B){q:Nat}{e:PC}(M:lG above row d0 (q:Int) k e)(hq:q≤d0.w): ∃d',gA e d' (fU d0 q)∧jq above row d0 B q k d':=by
 unfold fU
 by_cases h:q<d0.w
 ·rw[if_pos h]
  exact⟨e,.no (by rw[M.w,M.cp];trace"caApBlBcAcrxi h"),fun _=>M,fun g=>by trace"!caBpAlBAexi h g"⟩
 ·rw[if_neg h]
  have hq:q=d0.w:=by trace"caABlApBlxABeii hq h"
  subst hq
  have gB:e.cl=px row d0.w:=by rw[M.cl,Int.toNat_natCast,OV]
  refine⟨e.flushed B,?_,fun g=>by trace"!baApAlx g",fun _=>⟨M.af,?_,gB,rfl,rfl,M.ext,M.w,M.al,M.rev,?_⟩⟩
  ·have:=gA.yes (d:=e) B (by rw[M.w,M.cp];trace"baAcAcr") (by rw[gB,lF,M.w]) (by rw[gB,M.rev];exact Y.oct) Y.len (by rw[M.buf];exact Y.buf)
   rwa[M.al]at this
  ·show List.replicate e.w 1=_
   rw[M.w]
  ·show e.buf++B=_
   rw[M.buf]
theorem jq.qs {q k:Nat} {d:PC} (o:jq above row d0 B q k d) (r:Except Cl T):jq above row d0 B q k (qs d r):=by
 induction r with
 |error c=>exact o
 |ok t=>exact⟨fun h=>let m:=o.1 h;⟨m.af,m.cl,m.rl,m.cp,m.col,m.ext,m.w,m.al,m.rev,m.buf⟩,fun h=>let m:=o.2 h;⟨m.af,m.cl,m.rl,m.cp,m.col,m.ext,m.w,m.al,m.rev,m.buf⟩⟩
noncomputable def pJ(cl:CL→List V)(fuel:Nat)(above row:List Nat)(d0:PC)(B:List UInt8)(d:PC)(bits:List Bool)(q k:Nat):Prop:= ∃d',bp cl fuel d bits d' (qr (fU d0 q))∧jq above row d0 B q k d'∧(fU d0 q= .ok ca→d'.st=ca)
theorem pJ.of {bits:List Bool} {q k:Nat} {d':PC} (f:bp cl fuel d bits (qs d' (fU d0 q)) (qr (fU d0 q))) (o:jq above row d0 B q k d'):pJ cl fuel above row d0 B d bits q k:=by
 refine⟨_,f,o.qs _,fun h=> ?_⟩
 rw[h];rfl
theorem O1(hf:1002≤fuel)(Y:rK above row d0 B)(M:lG above row d0 p k d)(st:d.st=ca)(P:Pk row p k)(hk:k≤row.length)(hp:p<(d0.w:Int))(hc: -1≤p){j one first:Nat}(J:lC above p k j)(e1:one=row.getD k d0.w)(e2:first=above.getD j d0.w)
 (h1:first≤one+3) (h2:one≤first+3):pJ cl fuel above row d0 B d (iG (one+3-first)) one (k+1):=by
 have g1:=rC P hp
 have g2:=et (k:=k) Y.rr
 rw[←e1]at g1 g2
 refine dT (DH Y.ra J hp Y.w1 hc) fun f1 f2 f3 f4=> ?_
 rw[←e2]at f1 f2 f3 f4
 have key: ∀st pos,∃d',Acc cl fuel {d with st:=st,pos:=pos} (.int (((one+3-first:Nat):Int)-3)) d' (fU d0 one)∧jq above row d0 B one (k+1) d':=by
  intro st pos
  refine aA (xS (B:=B) Y (q:=one) (k:=k+1) (e:={d with st:=st,pos:=pos,cl:=fill d.cl d.cp.toNat (one-d.cp.toNat) d.col,cp:=one,col:=1-d.col})
   ⟨M.af,by
    show fill d.cl d.cp.toNat (one-d.cp.toNat) d.col=_
    rw[M.cl,M.cp,M.col,uq Y.rr P (fun _=>hk) hc rfl (by trace"caABeABli e1") (by trace"daCAeCBlABlii e1 g2"),Int.toNat_natCast,Nat.max_eq_right (by trace"dbCBeUqCcr0zUrAcUjnU0zrA0kenoACliii e1 g1 .t")],M.rl,rfl,by
    show 1-d.col=_
    rw[M.col,rJ],M.ext,M.w,M.al,M.rev,M.buf⟩ g2) fun d' F O=> ?_
  refine⟨d',NN (d:={d with st:=st,pos:=pos}) (b:=first) (one:=one) M.af ?_ ?_ ?_ ?_ ?_ ?_ ?_ ?_ ?_ ?_ hf F,O⟩
  ·show d.cl.length=d.w;rw[M.cl,xQ,M.w]
  ·show d.rl.length=d.w;rw[M.rl,lF,M.w]
  ·show-1≤d.cp;rw[M.cp];exact hc
  ·show(d.cp+1).toNat≤first;rw[M.cp];exact f1
  ·show first≤d.w;rw[M.w];exact f2
  ·show dO d.rl d.col first=true;rw[M.rl,M.col];exact f3
  ·show∀y,(d.cp+1).toNat≤y→y<first→dO d.rl d.col y=false;rw[M.cp,M.rl,M.col];exact f4
  ·trace"faDBeEAeED3kalDE3kalED3kalCEaD3kaenD3kaElC0kenoEcCc3zstDcjiiiii e1 e2 h1 h2 .s"
  ·show one≤d.w;rw[M.w];exact g2
  ·show d.cp≤one;rw[M.cp];trace"cbBAeUqBcrUBcrii e1 g1"
 refine aA (gW (iG (one+3-first)) (by rw[st];exact OS _ (by trace"faDCeEBeED3kalDE3kalED3kalAEaD3kaenD3kaElA0kenoAp7kliiiii e1 e2 h1 h2 .s")) key) fun d' f o=> ?_
 exact .of f o
theorem O2(hf:1002≤fuel)(Y:rK above row d0 B)(M:lG above row d0 p k d)(st:d.st=ca)(P:Pk row p k)(hk:k≤row.length)(hp:p<(d0.w:Int))(hc: -1≤p)(rL:p= -1→k=0){j one second:Nat}(J:lC above p k j)(e1:one=row.getD k d0.w)(e2:second=above.getD (j+1) d0.w)
 (h1:second<one):pJ cl fuel above row d0 B d [false,false,false,true] second k:=by
 have g2:=et (k:=k) Y.rr
 rw[←e1]at g2
 refine dT (DH Y.ra J hp Y.w1 hc) fun f1 f2 f3 f4=> ?_
 refine dT (O0 Y.ra J Y.w1) fun s1 s2 s3 s4=> ?_
 rw[←e2]at s1 s2 s3 s4
 have key: ∀st pos,∃d',Acc cl fuel {d with st:=st,pos:=pos} (.str [112]) d' (fU d0 second)∧jq above row d0 B second k d':=by
  intro st pos
  refine aA (xS (B:=B) Y (q:=second) (k:=k) (e:={d with st:=st,pos:=pos,cl:=fill d.cl d.cp.toNat (second-d.cp.toNat) d.col,cp:=second})
   ⟨M.af,by
    show fill d.cl d.cp.toNat (second-d.cp.toNat) d.col=_
    rw[M.cl,M.cp,M.col,uq Y.rr P (fun _=>hk) hc rfl (by trace"eaBDeCAeCpBlCDliii e1 e2 h1") (by trace"daCAeCBlABlii e1 g2"),Int.toNat_natCast,Nat.max_eq_right (by trace"fbCAeEDlDCl0zUrBcUjnU0zrB0keno0zUqrEcUqjnUq0zrE0kenoBCliiiii e2 f1 s1 .t .t")],M.rl,rfl,M.col,M.ext,M.w,M.al,M.rev,M.buf⟩ s2) fun d' F O=> ?_
  refine⟨d',NM (d:={d with st:=st,pos:=pos}) (b:=above.getD j d0.w) (c:=second) M.af ?_ ?_ ?_ ?_ ?_ ?_ ?_ s1 ?_ ?_ ?_ ?_ hf F,O⟩
  ·show d.cl.length=d.w;rw[M.cl,xQ,M.w]
  ·show d.rl.length=d.w;rw[M.rl,lF,M.w]
  ·show-1≤d.cp;rw[M.cp];exact hc
  ·show(d.cp+1).toNat≤_;rw[M.cp];exact f1
  ·show _≤d.w;rw[M.w];exact f2
  ·show dO d.rl d.col _=true;rw[M.rl,M.col];exact f3
  ·show∀y,(d.cp+1).toNat≤y→y<_→dO d.rl d.col y=false;rw[M.cp,M.rl,M.col];exact f4
  ·show second≤d.w;rw[M.w];exact s2
  ·show fR d.rl d.col _=true;rw[M.rl,M.col];exact s3
  ·show∀y,_→y<_→fR d.rl d.col y=false;rw[M.rl,M.col];exact s4
  ·show d.cp= -1→d.cl[d.w-1]? =some d.col
   rw[M.cp,M.cl,M.w,M.col]
   intro h
   have w1:=Y.w1
   rw[rL h,h,show Int.toNat (-1)=0 from rfl,DA,List.getElem?_replicate,if_pos (by trace"ca1kBl1kBlApBenB1klA0kenoApBlii w1 .s")]
   rfl
 refine aA (gW [false,false,false,true] (by rw[st];exact OT) key) fun d' f o=> ?_
 exact .of f o
theorem DI(k:Nat):b8 (cG k)=if(k%2==0)=true then iW else iY:=by
 unfold b8 cG
 by_cases h:k%2=0
 ·simp[h]
 ·simp[h]
theorem DJ(W:Bool)(n:Nat)(hn:n≤575)(ha:d.af= .dH)(h0:own .bX d.ext=some (.int 0))(he:cE d.ext)(hs:d.st=b8 d.col)(hw:b8 d.col=if W=true then iW else iY):
 ∃d',bp cl fuel d (dP W n) d' none∧d'.st=b8 (1-d.col)∧ ∃e pos st,d'={d with ext:=e,col:=1-d.col,af:= .dW,st:=st,pos:=pos}∧cE e∧own .bX e=some (.int (n:Int))∧own .cI e=some (.int 0):=by
 have near: ∀(d1:PC)(m:Nat)(a:Int),m<64→d1.af= .dH→own .bX d1.ext=some (.int a)→cE d1.ext→d1.st=b8 d1.col→b8 d1.col=(if W=true then iW else iY)→
  ∃d',bp cl fuel d1 (iF W m) d' none∧d'.st=b8 (1-d1.col)∧ ∃e pos st,d'={d1 with ext:=e,col:=1-d1.col,af:= .dW,st:=st,pos:=pos}∧cE e∧own .bX e=some (.int (a+m))∧own .cI e=some (.int 0):=by
  intro d1 m a hm ha h0 he hs hw
  obtain⟨d',f,e,pos,st,rfl,x1,x2,x3⟩:=gW (cl:=cl) (fuel:=fuel) (q:= .ok (b8 (1-d1.col))) (G:=fun d'=> ∃e pos st,d'={d1 with ext:=e,col:=1-d1.col,af:= .dW,st:=st,pos:=pos}∧cE e∧own .bX e=some (.int (a+m))∧own .cI e=some (.int 0)) (iF W m) (d:=d1) (v:= .int (m:Int))
   (by rw[hs,hw];exact Dx W m hm) (fun st pos=>⟨_,NU (d:={d1 with st:=st,pos:=pos}) ha h0 (by trace"baAp64klAcq64zri hm"),_,pos,st,rfl,by
    have y1:=nB (a:=a+m) he
    have y2:=rA (v:= .int (a+m)) he
    have y3:=pB (a:=0) y1 y2.1
    have y4:=xp (v:= .int 0) y1
    exact⟨y3,by rw[y4.2];exact y2.1,y4.1⟩⟩)
  exact⟨_,f,rfl,e,pos,_,rfl,x1,x2,x3⟩
 unfold dP
 by_cases q:n<64
 ·rw[if_pos q]
  have:=near d n 0 q ha h0 he hs hw
  rwa[show(0:Int)+(n:Int)=(n:Int) by trace"ba0zActAcj"]at this
 ·rw[if_neg q]
  obtain⟨d1,f1,e,pos,st,rfl,x1,x2⟩:=gW (cl:=cl) (fuel:=fuel) (q:= .ok (b8 d.col)) (G:=fun d'=> ∃e pos st,d'={d with ext:=e,st:=st,pos:=pos}∧cE e∧own .bX e=some (.int (64*(((n/64-1:Nat):Int)+1)))) (lA W (n/64-1)) (d:=d) (v:= .int (64*(((n/64-1:Nat):Int)+1)))
   (by rw[hs,hw];exact Dy W _ (by trace"eaD575klDp64klx1kClApCenC1klA0kenoBC64maDeBp64klnAp8kliiii hn q .s .d64")) (fun st pos=>⟨_,NT (d:={d with st:=st,pos:=pos}) ha h0 (by trace"ea1kBlDpBenB1klD0kenoCB64maAeCp64klnDcq64uq64zrxii .s .d64"),_,pos,st,rfl,by
    have y2:=rA (v:= .int (0+64*(((n/64-1:Nat):Int)+1))) he
    refine⟨nB he,y2.1.trans ?_⟩
    rw[Int.zero_add]⟩)
  obtain⟨d2,f2,z,e2,O3,O4,rfl,z1,z2,z3⟩:=near {d with ext:=e,st:=b8 d.col,pos:=pos} (n%64) _ (Nat.mod_lt _ (by decide)) ha x2 x1 rfl hw
  refine⟨_,bp.append f1 f2,z,e2,O3,O4,rfl,z1,z2.trans ?_,z3⟩
  congr 2
  trace"eaD575klDp64klx1kClApCenC1klA0kenoBC64maDeBp64klnAcq64uBctDcjiiii hn q .s .d64"
theorem O5{r:Except Cl T}{G:PC→Prop}(W:Bool)(n n1:Nat)(hn:n≤575)(ha:d.af= .dW)(h1:own .bX d.ext=some (.int (n1:Int)))(h0:own .cI d.ext=some (.int 0))(he:cE d.ext)(hs:d.st=b8 d.col)(hw:b8 d.col=if W=true then iW else iY)
 (hl:d.cl.length=d.w) (hc: -1≤d.cp) (hq:d.cp.toNat+n1+n≤d.w)
 (F: ∀e pos st,cE e→ ∃d',gA {d with st:=st,pos:=pos,ext:=e,col:=1-d.col,af:= .b9,cl:=fill (fill d.cl d.cp.toNat n1 (1-d.col)) (d.cp.toNat+n1) n (1-(1-d.col)),cp:=((d.cp.toNat+n1+n:Nat):Int)} d' r∧G d'):
 ∃d',bp cl fuel d (dP W n) (qs d' r) (qr r)∧G d':=by
 have near: ∀(d1:PC)(m:Nat)(a:Int),m<64→(∃e pos st,d1={d with ext:=e,st:=st,pos:=pos}∧cE e∧own .bX e=some (.int (n1:Int))∧own .cI e=some (.int a))→d1.st=b8 d.col→a+m=n→
  ∃d',bp cl fuel d1 (iF W m) (qs d' r) (qr r)∧G d':=by
  rintro d1 m a hm ⟨e,p,s,rfl,x1,x2,x3⟩ hs g
  refine gW (cl:=cl) (fuel:=fuel) (iF W m) (v:= .int (m:Int)) ?_ fun st pos=> ?_
  ·rw[hs,hw];exact Dx W m hm
  ·refine aA (F (put .cI (.int (n:Int)) e) pos st (pB x1 x2)) fun d' f o=> ?_
   exact⟨d',NW (d:={d with ext:=e,st:=st,pos:=pos}) (n1:=n1) (n2:=n) ha x3 x2 (by trace"baAp64klAcq64zri hm") rfl g hl hc hq f,o⟩
 unfold dP
 by_cases q:n<64
 ·rw[if_pos q]
  exact near d n 0 q ⟨d.ext,d.pos,d.st,rfl,he,h1,h0⟩ hs (by trace"ba0zActAcj")
 ·rw[if_neg q]
  obtain⟨d1,f1,e,pos,st,rfl,x1,x2,x3⟩:=gW (cl:=cl) (fuel:=fuel) (q:= .ok (b8 d.col)) (G:=fun d'=> ∃e pos st,d'={d with ext:=e,st:=st,pos:=pos}∧cE e∧own .bX e=some (.int (n1:Int))∧own .cI e=some (.int (64*(((n/64-1:Nat):Int)+1)))) (lA W (n/64-1)) (d:=d) (v:= .int (64*(((n/64-1:Nat):Int)+1)))
   (by rw[hs,hw];exact Dy W _ (by trace"eaD575klDp64klx1kClApCenC1klA0kenoBC64maDeBp64klnAp8kliiii hn q .s .d64")) (fun st pos=>⟨_,NV (d:={d with st:=st,pos:=pos}) ha h0 ⟨_,h1⟩ (by trace"ea1kBlDpBenB1klD0kenoCB64maAeCp64klnDcq64uq64zrxii .s .d64"),_,pos,st,rfl,by
    have y2:=xp (v:= .int (0+64*(((n/64-1:Nat):Int)+1))) he
    refine⟨pB he h1,y2.2.trans h1,y2.1.trans ?_⟩
    rw[Int.zero_add]⟩)
  refine aA (near _ (n%64) _ (Nat.mod_lt _ (by decide)) ⟨e,pos,b8 d.col,rfl,x1,x2,x3⟩ rfl (by trace"eaD575klDp64klx1kClApCenC1klA0kenoBC64maDeBp64klnAcq64uBctDcjiiii hn q .s .d64")) fun d2 f2 g=> ?_
  exact⟨_,bp.append f1 f2,g⟩
theorem O6(Y:rK above row d0 B)(M:lG above row d0 p k d)(st:d.st=ca)(P:Pk row p k)(hk:k≤row.length)(hp:p<(d0.w:Int))(hc: -1≤p){one two:Nat}(e1:one=row.getD k d0.w)(e2:two=row.getD (k+1) d0.w):
 pJ cl fuel above row d0 B d (([false,false,true]++dP (k%2==0) (one-p.toNat))++dP (k%2==1) (two-one)) two (k+2):=by
 have g0:=rC P hp
 have g1:=et (k:=k) Y.rr
 have g2:=et (k:=k+1) Y.rr
 have g3:=pD (k:=k) Y.rr
 rw[←e1]at g0 g1 g3
 rw[←e2]at g2 g3
 have w2:=Y.w2
 obtain⟨d1,f1,e,pos,s1,rfl,x1,x2⟩:=gW (cl:=cl) (fuel:=fuel) (q:= .ok (b8 d.col)) (G:=fun d'=> ∃e pos st,d'={d with ext:=e,st:=st,pos:=pos,af:= .dH}∧cE e∧own .bX e=some (.int 0)) [false,false,true] (d:=d) (v:= .str [104])
  (by rw[st];exact Dv) (fun st pos=>⟨_,CW (d:={d with st:=st,pos:=pos}) M.af,_,pos,st,rfl,nB M.ext,(rA M.ext).1⟩)
 obtain⟨d2,f2,z,e',rM,s2,rfl,x3,x4,x5⟩:=DJ (cl:=cl) (fuel:=fuel) (d:={d with ext:=e,st:=b8 d.col,pos:=pos,af:= .dH}) (k%2==0) (one-p.toNat) (by trace"fbDCeDAlA575klEDlBEaDenDElB0keno0zUrEcUjnU0zrE0kenoB575kliiiii e1 g1 w2 .s .t") rfl x2 x1 rfl (by show b8 d.col=_;rw[M.col];exact DI k)
 have F: ∀xT ut DK,cE xT→ ∃d',gA {d with st:=DK,pos:=ut,ext:=xT,col:=1-(1-d.col),af:= .b9,cl:=fill (fill d.cl d.cp.toNat (one-p.toNat) (1-(1-d.col))) (d.cp.toNat+(one-p.toNat)) (two-one) (1-(1-(1-d.col))),cp:=((d.cp.toNat+(one-p.toNat)+(two-one):Nat):Int)} d' (fU d0 two)∧jq above row d0 B two (k+2) d':=by
  intro xT ut DK xe
  refine xS Y ⟨rfl,?_,M.rl,?_,?_,xe,M.w,M.al,M.rev,M.buf⟩ g2
  ·show fill (fill d.cl d.cp.toNat (one-p.toNat) (1-(1-d.col))) (d.cp.toNat+(one-p.toNat)) (two-one) (1-(1-(1-d.col)))=_
   rw[M.cl,M.cp,M.col,show 1-(1-cG k)=cG k by trace"ab1z1zUssUj",uq Y.rr P (fun _=>hk) hc rfl (by trace"caABeABli e1") (by trace"daCAeCBlABlii e1 g1"),Nat.max_eq_right (by trace"dbCBeUqCcr0zUrAcUjnU0zrA0kenoACliii e1 g0 .t"),show p.toNat+(one-p.toNat)=one by trace"ebCBeUqCcrDClADaCenCDlA0keno0zUrDcUjnU0zrD0kenoDAaCeiiii e1 g0 .s .t",←rJ,Int.toNat_natCast]
   have P2:=P.next Y.rr
   rw[←e1]at P2
   by_cases q:one<two
   ·have:=uq (k:=k+1) (p:=(one:Int)) (a:=one) (q:=two) Y.rr P2 (fun _=> ?_) (by trace"caBAe1zgBcri e1") (by trace"daCBe0zCcrAcCcjnCc0zrA0kenoCAeii e1 .t") (by trace"caABeABli e2") (by trace"daCAeCBlABlii e2 g2")
    ·rw[this,Nat.max_eq_right g3]
    ·apply Nat.lt_of_not_le
     intro h
     have:row.getD k d0.w=d0.w:=by simp[List.getD,List.getElem?_eq_none h]
     trace"daCBeCcqAcrBAexii e1 _ this"
   ·rw[show two-one=0 by trace"faECeDAeEDlEpDlxEDlBEaDenDElB0kenoB0keiiiii e1 e2 g3 q .s",show two=one by trace"eaCAeDBeCDlCpDlxDCeiiii e1 e2 g3 q"];rfl
  ·show((d.cp.toNat+(one-p.toNat)+(two-one):Nat):Int)=two
   rw[M.cp];trace"hbFEeBAeUqFcrFBlFBlDFaBenBFlD0kenoGFlCGaFenFGlC0keno0zUrGcUjnU0zrG0kenoGCaDacBcjiiiiiii e1 e2 g0 g3 .s .s .t"
  ·show 1-(1-d.col)=_
   rw[M.col,←rJ,←rJ]
 refine aA (O5 (cl:=cl) (fuel:=fuel) (d:={d with ext:=e',col:=1-d.col,st:=b8 (1-d.col),pos:=rM,af:= .dW}) (r:=fU d0 two) (G:=jq above row d0 B two (k+2)) (k%2==1) (two-one) (one-p.toNat) (by trace"gaFEeDCeDBlFDlB575klFDlAFaDenDFlA0kenoA575kliiiiii e1 e2 g2 g3 w2 .s") rfl x4 x5 x3 rfl
  (by
   show b8 (1-d.col)=_
   rw[M.col,←rJ,DI]
   congr 1
   simp only[beq_iff_eq,eq_iff_iff];trace"faBE2maCeBp2klnAD2maCpeAp2klnA0keB1kebii .d2 .d2")
  (by show d.cl.length=d.w;rw[M.cl,xQ,M.w]) (by show-1≤d.cp;rw[M.cp];exact hc) (by show d.cp.toNat+_+_≤d.w;rw[M.cp,M.w];trace"ibHGeFEeUqHcrFDlHFlHFlAHaFenFHlA0kenoCHlBCaHenHClB0keno0zUrCcUjnU0zrC0kenoCBaAaDliiiiiiii e1 e2 g0 g2 g3 .s .s .t") F) fun d3 f3 o=> ?_
 have z:s2=b8 (1-d.col):=z
 subst z
 exact .of (bp.append (bp.append f1 f2) f3) o
theorem O7(hf:1002≤fuel)(Y:rK above row d0 B){w:Nat}(hw:w=d0.w){cs:List (List Bool)}(L:er above row w p k cs): ∀{d:PC},lG above row d0 p k d→d.st=ca→Pk row p k→p<(d0.w:Int)→k≤row.length→ -1≤p→(p= -1→k=0)→
 ∃d',bp cl fuel d cs.flatten d' (if d0.al.getD false then some .dB else none)∧End row d0 B d'∧(d0.al.getD false=false→d'.st=ca):=by
 subst hw
 have fin: ∀{d:PC}{x:List Bool}{cs:List (List Bool)}{q k':Nat},pJ cl fuel above row d0 B d x q k'→er above row d0.w (q:Int) k' cs→q≤d0.w→
  (q<d0.w→ ∀{d:PC},lG above row d0 (q:Int) k' d→d.st=ca→ ∃d',bp cl fuel d cs.flatten d' (if d0.al.getD false then some .dB else none)∧End row d0 B d'∧(d0.al.getD false=false→d'.st=ca))→
  ∃d',bp cl fuel d (x::cs).flatten d' (if d0.al.getD false then some .dB else none)∧End row d0 B d'∧(d0.al.getD false=false→d'.st=ca):=by
  intro d x cs q k' S L hq ih
  refine ck S fun d1 f o s=> ?_
  by_cases h:q<d0.w
  ·have e:fU d0 q= .ok ca:=by unfold fU;rw[if_pos h]
   rw[e]at f
   refine aA (ih h (o.1 h) (s e)) fun d2 f2 r=> ?_
   exact⟨d2,by rw[List.flatten_cons];exact bp.append f f2,r⟩
  ·have hq:q=d0.w:=by trace"caABlApBlxABeii hq h"
   have cn:cs=[]:=by
    cases L with
    |done _=>rfl
    |rB h=>trace"!caBAlBpAlxBcqAcrxii _ _ h"
    |pass h=>trace"!caBAlBpAlxBcqAcrxii _ _ h"
    |uf h=>trace"!caBAlBpAlxBcqAcrxii _ _ h"
   subst cn
   have e:fU d0 q=if d0.al.getD false then .error .dB else .ok ca:=by unfold fU;rw[if_neg h]
   refine⟨d1,?_,o.2 hq,fun al=>s (by rw[e,al];rfl)⟩
   rw[e]at f
   rw[List.flatten_cons,List.flatten_nil,List.append_nil]
   cases al:d0.al.getD false<;>rw[al]at f<;>exact f
 induction L with
 |done h=>intro d _ _ _ h2;trace"!bbAcUrUqAcrxi h h2"
 | @rB p k j one first cs h J e1 e2 h1 h2 L ih=>
  intro d M st P hp hk hc rL
  refine fin (O1 hf Y M st P hk hp hc J e1 e2 h1 h2) L (e1▸et Y.rr) fun h _ M st=>ih M st (e1▸P.next Y.rr) (by trace"daCAeCpBlCcqBcrii e1 h") ?_ (by trace"caBAe1zgBcri e1") (by trace"daBAeBc1zgjCp0keii e1")
  apply Nat.lt_of_not_le
  intro g
  have:row.getD k d0.w=d0.w:=by simp[List.getD,List.getElem?_eq_none g]
  trace"daCBeCpAlBAexii e1 h this"
 | @pass p k j one second cs h J e1 e2 h1 L ih=>
  intro d M st P hp hk hc rL
  have:=et (k:=k) Y.rr
  refine fin (O2 hf Y M st P hk hp hc rL J e1 e2 h1) L (by trace"faAEeCBeCpAlEDlCDliiii e1 e2 h1 this") fun h _ M st=>ih M st (P.pass Y.rr (e2▸xB Y.ra J hp) (by trace"eaADeCBeCpAlCpDliii e1 e2 h1")) (by trace"daCAeCpBlCcqBcrii e2 h") hk (by trace"caBAe1zgBcri e2") (by trace"daBAeBc1zgjC0keii e2")
 | @uf p k one two cs h e1 e2 L ih=>
  intro d M st P hp hk hc rL
  refine fin (O6 Y M st P hk hp hc e1 e2) L (e2▸et Y.rr) fun h _ M st=>ih M st (e2▸P.two Y.rr) (by trace"daCAeCpBlCcqBcrii e2 h") ?_ (by trace"caBAe1zgBcri e2") (by trace"daBAeBc1zgjC2ka0keii e2")
  apply Nat.lt_of_not_le
  intro g
  have:row.getD (k+1) d0.w=d0.w:=by simp[List.getD,List.getElem?_eq_none (show row.length≤k+1 by trace"caBAlABplABplii hk g")]
  trace"daCBeCpAlBAexii e2 h this"
end
theorem xU(c:List Bool)(h:c.length=8):jn (nG c).toNat=c:=uk (P:=fun c=>jn (nG c).toNat=c) (by decide+kernel) c h
theorem O8: ∀(n:Nat)(c B:List Bool),c.length=8→cU (n+1) (c++B)=c::cU n B:=by
 intro n c B h
 have e:cU (n+1) (c++B)=(c++B).take 8::cU n ((c++B).drop 8):=rfl
 rw[e,List.take_left' h,List.drop_left' h]
theorem xV{B:List Bool}(h:B.length%8=0):cg B=B:=by
 unfold cg
 rw[h]
 simp
theorem xW{c B:List Bool}(h:c.length=8)(hB:B.length%8=0):eu (c++B)=nG c::eu B:=by
 unfold eu
 rw[xV hB,xV (by rw[List.length_append];trace"gaB8keA0keCF8maBDaeCp8klnAE8maDeAp8klnC0keiiii h hB .d8 .d8"),List.length_append,h,show(8+B.length)/8=B.length/8+1 by trace"faD0keEA8ma8kCaeEp8klnDB8maCeDp8klnABpeiii hB .d8 .d8",O8 _ _ _ h]
 rfl
inductive dh(cl:CL→List V)(fuel:Nat):PC→List UInt8→PC→cF→Prop
 |nil (d:PC):dh cl fuel d [] d .go
 |cons {d d1 d2:PC} {b:UInt8} {bs:List UInt8} {s:cF}:fS cl fuel d (jn b.toNat) d1 .go→dh cl fuel d1 bs d2 s→dh cl fuel d (b::bs) d2 s
 |stop {d d1:PC} {b:UInt8}:fS cl fuel d (jn b.toNat) d1 .stop→dh cl fuel d [b] d1 .stop
 |bad {d d1:PC} {b:UInt8} {bs:List UInt8} {c:Cl}:fS cl fuel d (jn b.toNat) d1 (.bad c)→dh cl fuel d (b::bs) d1 (.bad c)
inductive Str(cl:CL→List V)(fuel:Nat):PC→List Bool→PC→cF→Prop
 |nil (d:PC):Str cl fuel d [] d .go
 |cons {d d1 d2:PC} {b:List Bool} {bs:List Bool} {s:cF}:b.length=8→fS cl fuel d b d1 .go→Str cl fuel d1 bs d2 s→Str cl fuel d (b++bs) d2 s
 |stop {d d1:PC} {b:List Bool}:b.length=8→fS cl fuel d b d1 .stop→Str cl fuel d b d1 .stop
 |bad {d d1:PC} {b:List Bool} {bs:List Bool} {c:Cl}:b.length=8→bs.length%8=0→fS cl fuel d b d1 (.bad c)→Str cl fuel d (b++bs) d1 (.bad c)
noncomputable def DL:Option Cl→cF
 |none=> .go
 |some .ey=> .stop
 |some c=> .bad c
section
variable{cl:CL→List V}{fuel:Nat}{d d':PC}
theorem dh.bytes {bs:List UInt8} {s:cF} (e:dh cl fuel d bs d' s):Bytes cl fuel d bs d' s:=by
 induction e with
 |nil d=>exact .nil d
 |cons b _ ih=>exact .cons b ih
 |stop b=>exact .stop b
 |bad b=>exact .bad b
theorem Bytes.more {xs:List UInt8} {s:cF} (e:Bytes cl fuel d xs d' s) (hs:s= .stop) (ys:List UInt8):Bytes cl fuel d (xs++ys) d' .stop:=by
 induction e with
 |nil d=>cases hs
 |cons b _ ih=>exact .cons b (ih hs)
 |stop b=>exact .stop b
 |bad b=>cases hs
theorem dh.split {s:cF}: ∀(xs:List UInt8){ys:List UInt8}{d d':PC},dh cl fuel d (xs++ys) d' s→(∃d1 s1,(s1= .go∨s1= .stop)∧Bytes cl fuel d xs d1 s1∧ ∃s2,dh cl fuel d1 ys d' s2∧(∀c,s2= .bad c↔s= .bad c))∨ ∃c,s= .bad c∧Bytes cl fuel d xs d' (.bad c)
 |[],ys,d,d',e=> .inl ⟨d,.go,.inl rfl,.nil d,s,e,fun _=>Iff.rfl⟩
 |x::xs,ys,d,d',e=>by
  cases hz:xs++ys with
  |nil=>
   (refine bn (List.append_eq_nil_iff.mp hz) fun wl wG=> ?_;obtain rfl:=wl;obtain rfl:=wG)
   rw[List.cons_append,hz]at e
   cases e with
   |cons b e=>
    cases e with
    |nil=>exact .inl ⟨_,.go,.inl rfl,.cons b (.nil _),.go,.nil _,fun _=>Iff.rfl⟩
   |stop b=>exact .inl ⟨_,.stop,.inr rfl,.stop b,.go,.nil _,fun c=>⟨fun q=>(by cases q),fun q=>(by cases q)⟩⟩
   |bad b=>exact .inr ⟨_,rfl,.bad b⟩
  |cons z zs=>
   rw[List.cons_append]at e
   generalize hw:xs++ys=zz at e
   cases e with
   |cons b e=>
    subst hw
    rcases dh.split xs e with⟨d1,s1,h1,h2,h3⟩|⟨c,rfl,h⟩
    ·exact .inl ⟨d1,s1,h1,.cons b h2,h3⟩
    ·exact .inr ⟨c,rfl,.cons b h⟩
   |stop b=>rw[hw]at hz;cases hz
   |bad b=>exact .inr ⟨_,rfl,.bad b⟩
theorem Str.exact {B:List Bool} {s:cF} (e:Str cl fuel d B d' s):B.length%8=0∧dh cl fuel d (eu B) d' s:=by
 induction e with
 |nil d=>exact⟨rfl,.nil d⟩
 |cons h b _ ih=>
  refine⟨by rw[List.length_append];omega,?_⟩
  rw[xW h ih.1]
  exact .cons (by rw[xU _ h];exact b) ih.2
 | @stop d d1 c h b=>
  refine⟨by trace"daA8keBC8maAeBp8klnB0keii h .d8",?_⟩
  have:=xW (B:=[]) h rfl
  rw[List.append_nil]at this
  rw[this]
  exact .stop (by rw[xU _ h];exact b)
 |bad h g b=>
  refine⟨by rw[List.length_append];trace"gaB8keA0keCF8maBDaeCp8klnAE8maDeAp8klnC0keiiii h g .d8 .d8",?_⟩
  rw[xW h g]
  exact .bad (by rw[xU _ h];exact b)
theorem bp.split {r:Option Cl}: ∀(X:List Bool){Y:List Bool}{d d':PC},bp cl fuel d (X++Y) d' r→(Y≠[]∨r=none)→ ∃d1,bp cl fuel d X d1 none∧bp cl fuel d1 Y d' r
 |[],Y,d,d',f,_=>⟨d,.nil d,f⟩
 |x::X,Y,d,d',f,h=>by
  rw[List.cons_append]at f
  generalize hw:X++Y=Z at f
  cases f with
  |cons b f=>
   subst hw
   refine aA (bp.split X f h) fun d1 f1 f2=> ?_
   exact⟨d1,.cons b f1,f2⟩
  |stop b=>
   rcases h with h|h
   ·exact absurd (List.append_eq_nil_iff.mp hw).2 h
   ·cases h
theorem Str.go {s:cF} {d'':PC} {Z:List Bool}: ∀(n:Nat){X:List Bool}{d d':PC},X.length=8*n→bp cl fuel d X d' none→Str cl fuel d' Z d'' s→Str cl fuel d (X++Z) d'' s
 |0,X,d,d',h,f,z=>by
  have:X=[]:=List.eq_nil_of_length_eq_zero (by trace"baA0k8meA0kei h")
  subst this
  cases f;exact z
 |n+1,X,d,d',h,f,z=>by
  rw[←List.take_append_drop 8 X]at f
  refine aA (bp.split _ f (.inr rfl)) fun d1 f1 f2=> ?_
  rw[←List.take_append_drop 8 X,List.append_assoc]
  exact .cons (by rw[List.length_take];trace"daCBp8me8kClA8kenC8klACenoA8keii h .m") (.go f1) (Str.go n (by rw[List.length_drop];trace"daCBp8me8kClA8kaCenC8klA0kenoAB8meii h .s") f2 z)
theorem Str.end {s:cF} {Y Z:List Bool} {d'':PC} {c:Cl} (hc:c= .dB∧Y.length<8∧Str cl fuel (handled d') Z d'' s∨c= .ey∧Y.length<8∧Z=[]∧d''=d'∧s= .stop∨c= .cv∧Z=[]∧d''=d'∧s= .bad .cv):
 ∀(n:Nat){X:List Bool}{d:PC},X.length≤8*n→(X.length+Y.length)%8=0→bp cl fuel d X d' (some c)→Str cl fuel d (X++(Y++Z)) d'' s
 |0,X,d,h,g,f=>by
  have:X=[]:=List.eq_nil_of_length_eq_zero (by trace"baA0k8mlA0kei h")
  subst this
  cases f
 |n+1,X,d,h,g,f=>by
  have hx:X≠[]:=fun q=>by subst q;cases f
  by_cases q:X.length≤8
  ·have O9:X.length≠0:=fun e=>hx (List.eq_nil_of_length_eq_zero e)
   have l8:(X++Y.take (8-X.length)).length=8:=by
    rw[List.length_append,List.length_take];trace"gaC0keF8klF0kexDBlADenBDlABenoF8klDFa8ken8kFlD0kenoCE8maFBaeCp8klnFAa8keiiiiii g q O9 .m .s .d8"
   have e:X++(Y++Z)=(X++Y.take (8-X.length))++(Y.drop (8-X.length)++Z):=by
    rw[List.append_assoc,←List.append_assoc (Y.take _),List.take_append_drop]
   rw[e]
   rcases hc with⟨rfl,hy,z⟩|⟨rfl,hy,rfl,rfl,rfl⟩|⟨rfl,rfl,rfl,rfl⟩
   ·rw[List.drop_eq_nil_of_le (by trace"faA0keD8klBp8klD8klCDa8ken8kDlC0kenoAE8maDBaeAp8klnBCliiiii g q hy .s .d8"),List.nil_append]
    exact .cons l8 (.skip X _ rfl f) z
   ·rw[List.drop_eq_nil_of_le (by trace"faA0keD8klBp8klD8klCDa8ken8kDlC0kenoAE8maDBaeAp8klnBCliiiii g q hy .s .d8"),List.nil_append,List.append_nil]
    exact .stop l8 (.stop X _ rfl f)
   ·rw[List.append_nil]
    exact .bad l8 (by rw[List.length_drop];trace"iaB0keE8klAG8maFeAp8klnDClFDaCenCDlF0kenoE8klDEa8ken8kElD0kenoBH8maECaeBp8klnA0keiiiiii g q .d8 .s .s .d8") (.bad X _ rfl f)
  ·have nd:X.drop 8≠[]:=fun e=>by
    have:(X.drop 8).length=0:=by rw[e];rfl
    rw[List.length_drop]at this;trace"faD0keE8klxA0ke8kElA8kaEenE8klA0kenoDB8maECaeDp8klnxiiii g q this .s .d8"
   rw[←List.take_append_drop 8 X]at f
   refine aA (bp.split _ f (.inl nd)) fun d1 f1 f2=> ?_
   rw[←List.take_append_drop 8 X,List.append_assoc]
   exact .cons (by rw[List.length_take];trace"faC0keE8klx8kElD8kenE8klDEenoCB8maEAaeCp8klnD8keiiii g q .m .d8") (.go f1) (Str.end hc n (by rw[List.length_drop];trace"gaEFp8mlC0keE8klx8kElA8kaEenE8klA0kenoCB8maEDaeCp8klnAF8mliiiii h g q .s .d8") (by rw[List.length_drop];trace"haB0keF8klxAG8maCDaeAp8kln8kFlC8kaFenF8klC0kenoBE8maFDaeBp8klnA0keiiiii g q .d8 .s .d8") f2)
noncomputable def uu:T→List Bool→Option T
 |t,[]=>some t
 | .node l r,b::bs=>if gV (if b then r else l)then uu (if b then r else l) bs else none
 |_,_::_=>none
theorem DM: ∀(bs:List Bool){d:PC}{t:T},uu d.st bs=some t→ ∃st pos,bp cl fuel d bs {d with st:=st,pos:=pos} none
 |[],d,t,_=>⟨d.st,d.pos,.nil d⟩
 |b::bs,d,t,h=>by
  cases hs:d.st with
  |node l r=>
   rw[hs]at h
   have h:(if gV (if b then r else l)then uu (if b then r else l) bs else none)=some t:=h
   by_cases n:gV (if b then r else l)=true
   ·rw[if_pos n]at h
    refine kr (Du n) fun l' r' hn=> ?_
    have B:kg cl fuel d b {d with st:= .node l' r',pos:=d.pos+1} none:=CZ hs hn
    refine kr (DM bs (d:={d with st:= .node l' r',pos:=d.pos+1}) (t:=t) (by rw[←hn];exact h)) fun st pos f=> ?_
    exact⟨st,pos,.cons B f⟩
   ·rw[if_neg n]at h;cases h
  |none=>rw[hs]at h;cases h
  |int _=>rw[hs]at h;cases h
  |str _=>rw[hs]at h;cases h
theorem Pa: ∀n,n<8→(uu ca (List.replicate n false)).isSome=true:=by decide
theorem Pb{n:Nat}(h:n<8)(st:d.st=ca): ∃d',bp cl fuel d (List.replicate n false) d' none∧d'.buf=d.buf:=by
 refine br (Option.isSome_iff_exists.mp (Pa n h)) fun t ht=> ?_
 refine kr (DM (cl:=cl) (fuel:=fuel) (List.replicate n false) (d:=d) (by rw[st];exact ht)) fun s p f=> ?_
 exact⟨_,f,rfl⟩
theorem Pc(st:d.st=ca)(af:d.af= .b9): ∃d',bp cl fuel d eN d' (some .ey)∧d'.buf=d.buf:=by
 refine aA (gW (cl:=cl) (fuel:=fuel) (q:= .error .ey) (G:=fun d'=>d'.buf=d.buf) eN (d:=d) (v:= .str [101]) (by rw[st];exact OU) (fun st pos=>⟨_,NO (d:={d with st:=st,pos:=pos}) af,rfl⟩)) fun d' f g=> ?_
 exact⟨d',f,g⟩
noncomputable def xX:T→Bool
 | .none=>true
 | .str s=>s !=[112]&&s !=[104]&&s !=[117]&&s !=[101]
 |_=>false
theorem Pd{v:T}(h:xX v=true)(af:d.af= .b9):Acc cl fuel d v d (.error .cv):=by
 induction v with
 |none=>exact NP af
 |str s=>
  have z:=fun{a b:Bool}(h:(a&&b)=true)=>Bool.and_eq_true_iff.mp h
  intro n h2 p S
  exact NQ af s (bne_iff_ne.mp (z (z (z h).1).1).1) (bne_iff_ne.mp (z (z (z h).1).1).2) (bne_iff_ne.mp (z (z h).1).2) (bne_iff_ne.mp (z h).2)
 |int _=>cases h
 |node _ _=>cases h
theorem Pe: ∀i,i<11→ ∃v,ek ca ((fz i).take 24)=some v∧xX v=true:=by
 have: ∀i,i<11→((ek ca ((fz i).take 24)).any xX)=true:=by decide+kernel
 intro i hi
 have h:=this i hi
 cases e:ek ca ((fz i).take 24)with
 |none=>rw[e]at h;cases h
 |some v=>rw[e]at h;exact⟨v,rfl,h⟩
theorem Pf:fz 11=[false,false,true]++List.replicate 8 false:=by decide+kernel
theorem Pg:fz 12=([false,false,true]++dP true 0)++List.replicate 8 false:=by decide+kernel
theorem Ph:ek iW (List.replicate 8 false)=some .none:=by decide+kernel
theorem Pi:ek iY (List.replicate 8 false)=some .none:=by decide+kernel
theorem Pj{i:Nat}(hi:i<13)(st:d.st=ca)(af:d.af= .b9)(hc:d.col=1)(he:cE d.ext): ∃X Y d',fz i=X++Y∧bp cl fuel d X d' (some .cv)∧d'.buf=d.buf:=by
 by_cases h:i<11
 ·refine aA (Pe i h) fun v g b=> ?_
  refine aA (gW (cl:=cl) (fuel:=fuel) (q:= .error .cv) (G:=fun d'=>d'.buf=d.buf) ((fz i).take 24) (d:=d) (v:=v) (by rw[st];exact g) (fun st pos=>⟨_,Pd (d:={d with st:=st,pos:=pos}) b af,rfl⟩)) fun d' f e=> ?_
  exact⟨_,_,d',(List.take_append_drop 24 _).symm,f,e⟩
 ·obtain⟨d1,f1,e,pos,s1,rfl,x1,x2⟩:=gW (cl:=cl) (fuel:=fuel) (q:= .ok (b8 d.col)) (G:=fun d'=> ∃e pos st,d'={d with ext:=e,st:=st,pos:=pos,af:= .dH}∧cE e∧own .bX e=some (.int 0)) [false,false,true] (d:=d) (v:= .str [104])
   (by rw[st];exact Dv) (fun st pos=>⟨_,CW (d:={d with st:=st,pos:=pos}) af,_,pos,st,rfl,nB he,(rA he).1⟩)
  have c1:b8 d.col=iW:=by rw[hc];rfl
  by_cases g:i=11
  ·subst g
   refine aA (gW (cl:=cl) (fuel:=fuel) (q:= .error .cv) (G:=fun d'=>d'.buf=d.buf) (List.replicate 8 false) (d:={d with ext:=e,st:=b8 d.col,pos:=pos,af:= .dH}) (v:= .none) (by show ek (b8 d.col) _=_;rw[c1];exact Ph)
    (fun st rM=>⟨_,NR (d:={d with ext:=e,st:=st,pos:=rM,af:= .dH}) rfl,rfl⟩)) fun d' f e=> ?_
   exact⟨_,[],d',by rw[List.append_nil];exact Pf,bp.append f1 f,e⟩
  ·have:i=12:=by trace"baAp13klAp11klxA11kexA12keiii hi h g"
   subst this
   obtain⟨d2,f2,z,e',rM,s2,rfl,x3,x4,x5⟩:=DJ (cl:=cl) (fuel:=fuel) (d:={d with ext:=e,st:=b8 d.col,pos:=pos,af:= .dH}) true 0 (by trace"aa0k575kl") rfl x2 x1 rfl (by show b8 d.col=_;rw[c1];rfl)
   have c2:s2=iY:=by
    have z:s2=b8 (1-d.col):=z
    rw[z,hc];rfl
   refine aA (gW (cl:=cl) (fuel:=fuel) (q:= .error .cv) (G:=fun d'=>d'.buf=d.buf) (List.replicate 8 false) (d:={d with ext:=e',col:=1-d.col,st:=s2,pos:=rM,af:= .dW}) (v:= .none) (by show ek s2 _=_;rw[c2];exact Pi)
    (fun st ut=>⟨_,NS (d:={d with ext:=e',col:=1-d.col,st:=st,pos:=ut,af:= .dW}) rfl,rfl⟩)) fun d' f e=> ?_
   exact⟨_,[],d',by rw[List.append_nil];exact Pg,bp.append (bp.append f1 f2) f,e⟩
end
noncomputable def cj(al:Bool)(b:List Bool):List Bool:=if al then cg b else b
inductive Rows(w:Nat)(al:Bool):List (List Nat)→List Bool→List Nat→Prop
 |nil:Rows w al [] [] []
 |snoc {rs:List (List Nat)} {bits:List Bool} {above row:List Nat} {cs:List (List Bool)}:Rows w al rs bits above→bw row w→er above row w (-1) 0 cs→Rows w al (rs++[row]) (cj al bits++cs.flatten) row
structure iJ(w:Nat)(al rev:Option Bool)(above:List Nat)(buf:List UInt8)(d:PC):Prop where
 af:d.af= .b9
 st:d.st=ca
 cl:d.cl=List.replicate w 1
 rl:d.rl=px above w
 cp:d.cp= -1
 col:d.col=1
 ext:cE d.ext
 w:d.w=w
 al:d.al=al
 rev:d.rev=rev
 buf:d.buf=buf
section
variable{cl:CL→List V}{fuel w:Nat}{al rev:Option Bool}{above row:List Nat}{buf:List UInt8}{d d0:PC}
theorem uv(row:List Nat):Pk row (-1) 0:=fun i x _=>⟨fun _=>by trace"ba1zgqAcr",fun _=>Nat.zero_le _⟩
theorem iJ.mid (b:iJ w al rev above buf d) (row:List Nat):lG above row d (-1) 0 d:=
 ⟨b.af,by rw[b.cl,b.w,show Int.toNat (-1)=0 from rfl,DA],by rw[b.rl,b.w],b.cp,b.col,b.ext,rfl,rfl,rfl,rfl⟩
theorem Pl(w:Nat):px [] w=List.replicate w 1:=by
 refine List.ext_getElem? fun i=> ?_
 simp only[px,List.getElem?_map,List.getElem?_replicate]
 by_cases h:i<w
 ·simp[h,eW,ew,cG]
 ·simp[h]
theorem DN(w:Nat)(al rev:Option Bool):iJ w al rev [] [] (fresh w al rev):=
 ⟨rfl,rfl,rfl,(Pl w).symm,rfl,rfl,.inl rfl,rfl,rfl,rfl,rfl⟩
noncomputable def uw(w:Nat)(rev:Option Bool)(row:List Nat)(B:List UInt8):Prop:=eF ((ny rev (px row w)).map .int)=some B∧B.length≤100
theorem DO(hf:1002≤fuel)(hw:1≤w∧w≤575)(ra:bw above w)(rr:bw row w){B:List UInt8}(hB:uw w rev row B)(hb:buf.length≤1000)(b:iJ w al rev above buf d){cs:List (List Bool)}(L:er above row w (-1) 0 cs):
 ∃d',bp cl fuel d cs.flatten d' (if al.getD false then some .dB else none)∧iJ w al rev row (buf++B) (if al.getD false then handled d' else d'):=by
 refine ck (O7 (cl:=cl) hf (B:=B) (d0:=d) ⟨by rw[b.w];exact hw.1,by rw[b.w];exact hw.2,by rw[b.w];exact ra,by rw[b.w];exact rr,by rw[b.w,b.rev];exact hB.1,hB.2,by rw[b.buf];exact hb⟩ b.w.symm L (b.mid row) b.st (uv row) (by trace"ba1zgqAcr") (Nat.zero_le _) (by trace"aa1zg1zgr") (fun _=>rfl)) fun d' f e s=> ?_
 rw[b.al]at f s
 refine⟨d',f,?_⟩
 cases h:al.getD false with
 |true=>exact⟨rfl,rfl,by rw[←b.w];exact e.cl,by rw[←b.w];exact e.rl,e.cp,e.col,e.ext,e.w.trans b.w,e.al.trans b.al,e.rev.trans b.rev,by rw[←b.buf];exact e.buf⟩
 |false=>exact⟨e.af,s h,by rw[←b.w];exact e.cl,by rw[←b.w];exact e.rl,e.cp,e.col,e.ext,e.w.trans b.w,e.al.trans b.al,e.rev.trans b.rev,by rw[←b.buf];exact e.buf⟩
theorem ux(b:List Bool):cj true b=b++List.replicate ((8-b.length%8)%8) false:=rfl
theorem DP(b:List Bool):(cj true b).length%8=0:=pE b
theorem Pm(hf:1002≤fuel)(hw:1≤w∧w≤575)(bf:List Nat→List UInt8)(hB: ∀row,bw row w→uw w rev row (bf row)){rs:List (List Nat)}{bits:List Bool}(R:Rows w (al.getD false) rs bits above):bw above w→rs.length≤3→
 ∃d,iJ w al rev above (rs.flatMap bf) d∧(∀row∈rs,bw row w)∧(al.getD false=false→bp cl fuel (fresh w al rev) bits d none)∧(al.getD false=true→ ∀{Z:List Bool}{d':PC}{s:cF},Str cl fuel d Z d' s→Str cl fuel (fresh w al rev) (cj true bits++Z) d' s):=by
 have step: ∀{rs:List (List Nat)}{bits:List Bool}{above:List Nat},Rows w (al.getD false) rs bits above→bw above w→rs.length≤3→(rs.flatMap bf).length≤100*rs.length∧
  ∃d,iJ w al rev above (rs.flatMap bf) d∧(∀row∈rs,bw row w)∧(al.getD false=false→bp cl fuel (fresh w al rev) bits d none)∧(al.getD false=true→ ∀{Z:List Bool}{d':PC}{s:cF},Str cl fuel d Z d' s→Str cl fuel (fresh w al rev) (cj true bits++Z) d' s):=by
  intro rs bits above R
  induction R with
  |nil=>intro _ _;exact⟨by simp,_,DN w al rev,by simp,fun _=> .nil _,fun _{Z d' s} z=>z⟩
  | @snoc rs bits above row cs R rr L ih=>
   intro _ hl
   rw[List.length_append,List.length_singleton]at hl
   have ra:bw above w:=by
    induction R with
    |nil=>exact⟨fun i j x y h=>by simp at h,fun i x h=>by simp at h,by simp⟩
    |snoc _ r _=>exact r
   obtain⟨hn,d,b,ok,g1,g2⟩:=ih ra (by trace"baAp3klA3kli hl")
   have lb:=(hB row rr).2
   refine aA (DO (cl:=cl) hf hw ra rr (hB row rr) (by trace"caAp3klBA100mlB1000klii hl hn") b L) fun d' f b'=> ?_
   have fm:(rs++[row]).flatMap bf=rs.flatMap bf++bf row:=by simp
   refine⟨by rw[fm,List.length_append,List.length_append,List.length_singleton];trace"daCB100mlA100klCAaBp100mlii hn lb",?_⟩
   rw[fm]
   have DQ: ∀r∈rs++[row],bw r w:=fun r hr=>by
    rcases List.mem_append.mp hr with h|h
    ·exact ok r h
    ·rw[List.mem_singleton.mp h];exact rr
   cases h:al.getD false with
   |false=>
    rw[h]at f b'
    refine⟨d',b',DQ,fun _=> ?_,fun q=>by cases q⟩
    exact bp.append (g1 h) f
   |true=>
    rw[h]at f b'
    refine⟨handled d',b',DQ,fun q=>(by cases q),fun _{Z d'' s} z=> ?_⟩
    have l1:=DP bits
    rw[ux (cj true bits++cs.flatten),List.append_assoc,List.append_assoc]
    refine g2 h ?_
    refine Str.end (.inl ⟨rfl,?_,z⟩) cs.flatten.length (by trace"baAA8ml") ?_ f
    ·rw[List.length_replicate];trace"gaFC8maDeFp8klnE8klDEa8ken8kElD0kenoEA8maBeEp8klnFp8kliii .d8 .s .d8"
    ·rw[List.length_replicate,List.length_append];omega
 exact fun a b=>(step R a b).2
theorem xZ{rs:List (List Nat)}{bits:List Bool}{X Y:List Bool}{d':PC}{r:Option Cl}(g1:al.getD false=false→bp cl fuel (fresh w al rev) bits d none)(g2:al.getD false=true→ ∀{Z:List Bool}{d':PC}{s:cF},Str cl fuel d Z d' s→Str cl fuel (fresh w al rev) (cj true bits++Z) d' s)
 (f:bp cl fuel d X d' r) (h8:(cj (al.getD false) bits++(X++Y)).length%8=0) (hr:r=none∧Y=[]∨r=some .ey∧Y.length<8∨r=some .cv):Str cl fuel (fresh w al rev) (cj (al.getD false) bits++(X++Y)) d' (DL r):=by
 cases h:al.getD false with
 |true=>
  rw[h]at h8
  have l1:=DP bits
  rw[List.length_append,List.length_append]at h8
  refine g2 h ?_
  rcases hr with⟨rfl,rfl⟩|⟨rfl,hy⟩|rfl
  ·rw[List.append_nil]at*
   have:=Str.go (Z:=[]) (X.length/8) (by rw[List.length_nil]at h8;trace"iaA0keB0keCH8maEeCp8klnBG8maDE0kaaeBp8klnAF8maDeAp8klnEH8meiiiii l1 h8 .d8 .d8 .d8") f (.nil _)
   rwa[List.append_nil]at this
  ·have:=Str.end (Z:=[]) (Y:=Y) (d':=d') (d'':=d') (s:= .stop) (.inr (.inl ⟨rfl,hy,rfl,rfl,rfl⟩)) X.length (by trace"haC0keE0keED8maFeEp8klnCB8maFGAaaeCp8klnGG8mliiii h8 l1 .d8 .d8") (by trace"jaA0keB0keCI8maEFaeCp8klnBH8maDeBp8klnAG8maDEFaaeAp8klnC0keiiiii h8 l1 .d8 .d8 .d8") f
   rwa[List.append_nil]at this
  ·have:=Str.end (Z:=[]) (Y:=Y) (d':=d') (d'':=d') (s:= .bad .cv) (.inr (.inr ⟨rfl,rfl,rfl,rfl⟩)) X.length (by trace"haC0keE0keED8maFeEp8klnCB8maFGAaaeCp8klnGG8mliiii h8 l1 .d8 .d8") (by trace"jaA0keB0keCI8maEFaeCp8klnBH8maDeBp8klnAG8maDEFaaeAp8klnC0keiiiii h8 l1 .d8 .d8 .d8") f
   rwa[List.append_nil]at this
 |false=>
  rw[h]at h8
  have f:=bp.append (g1 h) f
  have h8:(bits++(X++Y)).length%8=0:=h8
  show Str cl fuel _ (bits++(X++Y)) d' (DL r)
  rw[←List.append_assoc]at h8⊢
  rw[List.length_append]at h8
  rcases hr with⟨rfl,rfl⟩|⟨rfl,hy⟩|rfl
  ·have:=Str.go (Z:=[]) ((bits++X).length/8) (by rw[List.length_nil]at h8;trace"faB0keAD8maCeAp8klnBE8maC0kaeBp8klnCD8meiii h8 .d8 .d8") f (.nil _)
   exact this
  ·have:=Str.end (Z:=[]) (Y:=Y) (d':=d') (d'':=d') (s:= .stop) (.inr (.inl ⟨rfl,hy,rfl,rfl,rfl⟩)) (bits++X).length (by trace"eaC0keCB8maDAaeCp8klnDD8mlii h8 .d8") (by trace"eaC0keCB8maDAaeCp8klnC0keii h8 .d8") f
   rwa[List.append_nil]at this
  ·have:=Str.end (Z:=[]) (Y:=Y) (d':=d') (d'':=d') (s:= .bad .cv) (.inr (.inr ⟨rfl,rfl,rfl,rfl⟩)) (bits++X).length (by trace"eaC0keCB8maDAaeCp8klnDD8mlii h8 .d8") (by trace"eaC0keCB8maDAaeCp8klnC0keii h8 .d8") f
   rwa[List.append_nil]at this
theorem x7(b:List Bool):eu b=eu (cg b):=by
 unfold eu
 rw[xV (pE b)]
theorem Pn(hf:1002≤fuel)(hw:1≤w∧w≤575)(bf:List Nat→List UInt8)(hB: ∀row,bw row w→uw w rev row (bf row)){rs:List (List Nat)}{bits:List Bool}(R:Rows w (al.getD false) rs bits above)(ra:bw above w)(hl:rs.length≤3):
 (∃d',dh cl fuel (fresh w al rev) (eu (cj (al.getD false) bits)) d' .go∧d'.buf=rs.flatMap bf)∧
 (∃d',dh cl fuel (fresh w al rev) (eu (cj (al.getD false) bits++eN)) d' .stop∧d'.buf=rs.flatMap bf)∧
 ∀i,i<13→ ∃d',dh cl fuel (fresh w al rev) (eu (cj (al.getD false) bits++fz i)) d' (.bad .cv)∧d'.buf=rs.flatMap bf:=by
 refine jw (Pm (cl:=cl) hf hw bf hB R ra hl) fun d b ok g1 g2=> ?_
 refine⟨?_,?_,fun i hi=> ?_⟩
 ·refine aA (Pb (cl:=cl) (fuel:=fuel) (d:=d) (n:=(8-(cj (al.getD false) bits).length%8)%8) (by trace"gaFC8maDeFp8klnE8klDEa8ken8kElD0kenoEA8maBeEp8klnFp8kliii .d8 .s .d8") b.st) fun d' f e=> ?_
  refine⟨d',?_,e.trans b.buf⟩
  have h8:(cj (al.getD false) bits++(List.replicate ((8-(cj (al.getD false) bits).length%8)%8) false++[])).length%8=0:=by
   rw[List.append_nil];exact pE _
  have:=(xZ (rs:=rs) (Y:=[]) g1 g2 f h8 (.inl ⟨rfl,rfl⟩)).exact.2
  rw[List.append_nil]at this
  rw[x7]
  exact this
 ·refine aA (Pc (cl:=cl) (fuel:=fuel) (d:=d) b.st b.af) fun d' f e=> ?_
  refine⟨d',?_,e.trans b.buf⟩
  have h8:(cj (al.getD false) bits++(eN++List.replicate ((8-(cj (al.getD false) bits++eN).length%8)%8) false)).length%8=0:=by
   rw[←List.append_assoc];exact pE _
  have:=(xZ (rs:=rs) g1 g2 f h8 (.inr (.inl ⟨rfl,by rw[List.length_replicate];trace"gaFC8maDeFp8klnE8klDEa8ken8kElD0kenoEA8maBeEp8klnFp8kliii .d8 .s .d8"⟩))).exact.2
  rw[←List.append_assoc]at this
  rw[x7]
  exact this
 ·refine pP (Pj (cl:=cl) (fuel:=fuel) (d:=d) hi b.st b.af b.col b.ext) fun X Y d' e1 f e=> ?_
  refine⟨d',?_,e.trans b.buf⟩
  have h8:(cj (al.getD false) bits++(X++(Y++List.replicate ((8-(cj (al.getD false) bits++fz i).length%8)%8) false))).length%8=0:=by
   rw[←List.append_assoc X,←e1,←List.append_assoc];exact pE _
  have:=(xZ (rs:=rs) g1 g2 f h8 (.inr (.inr rfl))).exact.2
  rw[←List.append_assoc X,←e1,←List.append_assoc]at this
  rw[x7]
  exact this
end
noncomputable def fV(b:Bool):Int:=if b then 1 else 0
theorem nO(b:List Bool)(x:Bool):num (b++[x])=2*num b+x.toNat:=by simp[num,List.foldl_append]
theorem x8(a:List Bool): ∀(n:Nat)(b:List Bool),b.length=n→num (a++b)=num a*2^n+num b
 |0,b,h=>by
  have:b=[]:=List.eq_nil_of_length_eq_zero h
  subst this
  simp[num]
 |n+1,b,h=>by
  have hb:b≠[]:=fun q=>by subst q;cases h
  have hl:b.dropLast.length=n:=by rw[List.length_dropLast];trace"daCBpe1kClApCenC1klA0kenoABeii h .s"
  have e:=List.dropLast_concat_getLast hb
  have i:=x8 a n b.dropLast hl
  rw[←e,←List.append_assoc,nO,nO,i,Nat.pow_succ,Nat.mul_add]
  have:2*(num a*2^n)=num a*(2^n*2):=by rw[Nat.mul_comm,Nat.mul_assoc]
  omega
theorem x9: ∀(n:Nat)(b:List Bool),b.length=n→num b<2^n
 |0,b,h=>by
  have:b=[]:=List.eq_nil_of_length_eq_zero h
  subst this
  simp[num]
 |n+1,b,h=>by
  have hb:b≠[]:=fun q=>by subst q;cases h
  have i:=x9 n b.dropLast (by rw[List.length_dropLast];trace"daCBpe1kClApCenC1klA0kenoABeii h .s")
  rw[←List.dropLast_concat_getLast hb,nO,Nat.pow_succ]
  have:=Bool.toNat_le (b.getLast hb)
  omega
theorem DR: ∀(n:Nat),num (List.replicate n false)=0
 |0=>rfl
 |n+1=>by rw[List.replicate_succ',nO,DR n];rfl
theorem DS: ∀(n:Nat)(f:Nat→Bool),num ((List.range n).map fun x=> !f x)+num ((List.range n).map f)+1=2^n
 |0,f=>rfl
 |n+1,f=>by
  have i:=DS n f
  rw[List.range_succ,List.map_append,List.map_append,List.map_singleton,List.map_singleton,nO,nO,Nat.pow_succ]
  cases f n<;>simp[Bool.toNat]<;>omega
theorem DT: ∀(n:Nat)(bs:List Bool),bs.length=8*n→bigEndian (num bs) n=(cU n bs).map nG
 |0,bs,h=>rfl
 |n+1,bs,h=>by
  have h1:(bs.take 8).length=8:=by rw[List.length_take];trace"daCBp8me8kClA8kenC8klACenoA8keii h .m"
  have h2:(bs.drop 8).length=8*n:=by rw[List.length_drop];trace"daCBp8me8kClA8kaCenC8klA0kenoAB8meii h .s"
  have i:=DT n (bs.drop 8) h2
  have e:num bs=num (bs.take 8)*256^n+num (bs.drop 8):=by
   have:=x8 (bs.take 8) (8*n) (bs.drop 8) h2
   rw[List.take_append_drop,Nat.pow_mul]at this
   exact this
  have l1:=Dd _ h1
  have l2:num (bs.drop 8)<256^n:=by
   have:=x9 _ _ h2
   rwa[Nat.pow_mul]at this
  have hd:cU (n+1) bs=bs.take 8::cU n (bs.drop 8):=rfl
  rw[hd,List.map_cons,←i]
  unfold bigEndian
  rw[List.range_succ_eq_map,List.map_cons,List.map_map]
  refine List.cons_eq_cons.mpr ⟨?_,List.map_congr_left fun k hk=> ?_⟩
  ·rw[show n+1-1-0=n by trace"da0kBlA0kaBenB0klA0keno1kCplBpCpenCp1klB0kenoACeii .s .s",e,Nat.mul_comm,Nat.mul_add_div (Nat.pow_pos (by decide)),Nat.div_eq_of_lt l2,Nat.add_zero,Nat.mod_eq_of_lt l1]
   rfl
  ·have hk:=List.mem_range.mp hk
   simp only[Function.comp]
   congr 1
   rw[show n+1-1-Nat.succ k=n-1-k by trace"gaFpElFBlAFaBenBFlA0keno1kElBpEenE1klB0kenoFpDlCFpaDenDFplC0keno1kEplDpEpenEp1klD0kenoCAeiiiii hk .s .s .s .s",e]
   have:num (bs.take 8)*256^n=256^(n-1-k)*(256*(num (bs.take 8)*256^k)):=by
    have:256^n=256^(n-1-k)*256*256^k:=by
     rw[←Nat.pow_succ,←Nat.pow_add];congr 1;trace"eaDpClDBlADaBenBDlA0keno1kClBpCenC1klB0kenoCApDaeiii hk .s .s"
    rw[this]
    simp only[Nat.mul_comm,Nat.mul_left_comm,Nat.mul_assoc]
   rw[this,Nat.mul_add_div (Nat.pow_pos (by decide)),Nat.mul_add_mod]
noncomputable def lH:Nat→List Bool→Int
 |_,[]=>0
 |r,b::bs=>(if b then wt r else 0)+lH (r+1) bs
theorem Po{r:Nat}:lH r []=0:=rfl
theorem DU{r:Nat}{b:Bool}{bs:List Bool}:lH r (b::bs)=(if b then wt r else 0)+lH (r+1) bs:=rfl
theorem Pp(c:List Bool)(h:c.length=8):lH 0 c=(num c:Int):=uk (P:=fun c=>lH 0 c=(num c:Int)) (by decide+kernel) c h
theorem DV(j:Nat): ∀(c:List Bool)(rest:List Int)(r:Nat)(arr:List Int),r+c.length≤8→j<arr.length→eM (c.map fV++rest) (8*j+r) arr=eM rest (8*j+r+c.length) (arr.set j (arr.getD j 0+lH r c))
 |[],rest,r,arr,_,hj=>by
  have:arr.set j (arr.getD j 0+lH r [])=arr:=by
   refine List.ext_getElem? fun i=> ?_
   rw[List.getElem?_set]
   by_cases q:j=i
   ·subst q;simp[Po,hj,List.getD]
   ·simp[q]
  rw[this];rfl
 |b::c,rest,r,arr,h,hj=>by
  rw[List.length_cons]at h
  have d1:(8*j+r)/8=j:=by trace"faEDpa8klCA8maB8mEaeCp8klnABeii h .d8"
  have d2:(8*j+r)%8=r:=by trace"eaCDeBC8maD8mAaeBp8klnBAeii d1 .d8"
  have e:eM ((b::c).map fV++rest) (8*j+r) arr=eM (c.map fV++rest) (8*j+r+1) (gz arr (8*j+r) (fV b)):=rfl
  rw[e]
  have ih:=DV j c rest (r+1) (gz arr (8*j+r) (fV b)) (by trace"caABpa8klApBa8kli h") (by rw[CM];exact hj)
  rw[←Nat.add_assoc]at ih
  rw[ih,List.length_cons,show 8*j+r+1+c.length=8*j+r+(c.length+1) by trace"daA8mBapCaA8mBaCpae"]
  congr 1
  unfold gz
  rw[d1,d2]
  induction b with
  |false=>simp[fV,DU]
  |true=>simp[fV,DU,hj,List.getD,Int.add_assoc]
theorem DW: ∀(n:Nat)(bs:List Bool)(fA:List Int),bs.length=8*n→eM (bs.map fV) (8*fA.length) (fA++List.replicate n 0)=fA++(cU n bs).map fun c=>(num c:Int)
 |0,bs,fA,h=>by
  have:bs=[]:=List.eq_nil_of_length_eq_zero h
  subst this
  exact rfl
 |n+1,bs,fA,h=>by
  have h1:(bs.take 8).length=8:=by rw[List.length_take];trace"daCBp8me8kClA8kenC8klACenoA8keii h .m"
  have h2:(bs.drop 8).length=8*n:=by rw[List.length_drop];trace"daCBp8me8kClA8kaCenC8klA0kenoAB8meii h .s"
  have a:=DV fA.length (bs.take 8) ((bs.drop 8).map fV) 0 (fA++List.replicate (n+1) 0) (by trace"baA8ke0kAa8kli h1") (by simp)
  rw[←List.map_append,List.take_append_drop,Nat.add_zero,h1,Pp _ h1]at a
  rw[a]
  have i:=DW n (bs.drop 8) (fA++[(num (bs.take 8):Int)]) h2
  rw[List.length_append,List.length_singleton,Nat.mul_add,List.append_assoc]at i
  have s:(fA++List.replicate (n+1) (0:Int)).set fA.length ((fA++List.replicate (n+1) (0:Int)).getD fA.length 0+(num (bs.take 8):Int))=fA++([(num (bs.take 8):Int)]++List.replicate n 0):=by
   rw[List.replicate_succ]
   simp[List.getD]
  rw[s]
  refine i.trans ?_
  have hd:cU (n+1) bs=bs.take 8::cU n (bs.drop 8):=rfl
  rw[hd,List.append_assoc]
  rfl
theorem DX: ∀(n k:Nat)(arr:List Int),eM (List.replicate n 0) k arr=arr
 |0,_,_=>rfl
 |n+1,k,arr=>by
  show eM (List.replicate n 0) (k+1) (gz arr k 0)=arr
  rw[DX n];rfl
theorem DY: ∀(a b:List Int)(k:Nat)(arr:List Int),eM (a++b) k arr=eM b (k+a.length) (eM a k arr)
 |[],b,k,arr=>rfl
 |x::a,b,k,arr=>by
  show eM (a++b) (k+1) (gz arr k x)=_
  rw[DY a b]
  show _=eM b (k+(a.length+1)) (eM a (k+1) (gz arr k x))
  rw[show k+(a.length+1)=k+1+a.length by trace"caABpaApBae"]
theorem Pq(bs:List Bool):eF ((eM (bs.map fV) 0 (List.replicate ((bs.length+7)/8) 0)).map V.int)=some (bigEndian (num bs*2^(8*((bs.length+7)/8)-bs.length)) ((bs.length+7)/8)):=by
 have hl:(bs++List.replicate (8*((bs.length+7)/8)-bs.length) false).length=8*((bs.length+7)/8):=by
  rw[List.length_append,List.length_replicate];trace"eaDC8mlADaC8menC8mDlA0kenoBC8maD7kaeBp8klnDAaC8meii .s .d8"
 have a:=DW ((bs.length+7)/8) _ [] hl
 rw[List.map_append,List.map_replicate,DY,show fV false=0 from rfl,DX,List.length_nil,Nat.mul_zero,List.nil_append,List.nil_append]at a
 rw[a,List.map_map]
 have o:=xH (cU ((bs.length+7)/8) (bs++List.replicate (8*((bs.length+7)/8)-bs.length) false)) (ul _ _ (by trace"eaCB8meDB8maA7kaeDp8klnB8mClii hl .d8")).1
 refine o.trans ?_
 rw[←DT _ _ hl,x8 _ _ _ (List.length_replicate ..),DR,Nat.add_zero]
noncomputable def gC(row:List Nat)(x:Nat):Bool:=ew row (x+1)%2==1
noncomputable def rN(rev:Bool)(row:List Nat)(x:Nat):Bool:=if rev then gC row x else !gC row x
theorem Pr(rev:Option Bool)(row:List Nat)(w:Nat):ke rev (px row w)=((List.range w).map (rN (rev.getD false) row)).map fV:=by
 unfold ke px
 cases rev.getD false with
 |true=>
  rw[if_pos rfl,List.map_map,List.map_map]
  refine List.map_congr_left fun x _=> ?_
  simp only[Function.comp,eW,cG,rN,gC,fV,if_true]
  by_cases h:ew row (x+1)%2=0
  ·simp[h]
  ·have:ew row (x+1)%2=1:=by trace"daC0kexCB2maAeCp2klnC1keii h .d2"
   simp[this]
 |false=>
  rw[if_neg (by decide),List.map_map]
  refine List.map_congr_left fun x _=> ?_
  simp only[Function.comp,eW,cG,rN,gC,fV]
  by_cases h:ew row (x+1)%2=0
  ·simp[h]
  ·have:ew row (x+1)%2=1:=by trace"daC0kexCB2maAeCp2klnC1keii h .d2"
   simp[this]
noncomputable def fB(row:List Nat)(q:Nat):Nat:=num ((List.range q).map (gC row))
theorem Ps(row:List Nat)(q:Nat):fB row (q+1)=2*fB row q+(gC row q).toNat:=by
 unfold fB
 rw[List.range_succ,List.map_append,List.map_singleton,nO]
noncomputable def fW(row:List Nat)(w q:Nat):Int:=((fB row q*2^(w-q):Nat):Int)
theorem Pt(row:List Nat){w q:Nat}(h:q<w):fW row w (q+1)=fW row w q+(if gC row q then((2^(w-q):Nat):Int)-((2^(w-(q+1)):Nat):Int)else 0):=by
 unfold fW
 have e:2^(w-q)=2*2^(w-(q+1)):=by rw[show w-q=(w-(q+1))+1 by trace"eaDpClDpClADpaCenCDplA0kenoDClBDaCenCDlB0kenoBApeiii h .s .s",Nat.pow_succ,Nat.mul_comm]
 rw[Ps,e]
 generalize 2^(w-(q+1))=z
 have:fB row q*(2*z)=2*fB row q*z:=by rw[←Nat.mul_assoc,Nat.mul_comm (fB row q)]
 rw[this,Nat.add_mul]
 cases gC row q<;>simp<;>trace"baAcAc2uAcsj"
theorem DZ(row:List Nat){w:Nat}(b:Bool): ∀(n a:Nat),a+n≤w→(∀x,a≤x→x<a+n→gC row x=b)→fW row w (a+n)=fW row w a+(if b then((2^(w-a):Nat):Int)-((2^(w-(a+n)):Nat):Int)else 0)
 |0,a,_,_=>by induction b<;>simp
 |n+1,a,h,f=>by
  have i:=DZ row (w:=w) b n a (by trace"daCBpaAlCBaAli h") (fun x h1 h2=>f x h1 (by trace"daApBCalApBCpali h2"))
  rw[←Nat.add_assoc,Pt row (by trace"daCBpaAlCBapAli h"),i,f (a+n) (by trace"caAABal") (by trace"caABapABpal")]
  induction b with
  |false=>simp
  |true=>simp only[if_true];trace"dbUAcBcstBcCcstUAcCcstj"
theorem Pu{row:List Nat}{x k:Nat}(h:eW row x=cG k):gC row x=(k%2==1):=by
 unfold eW at h
 have:=(Dz _ _).mp h
 unfold gC
 rw[this]
theorem ya{row:List Nat}{w k a b:Nat}{p:Int}(R:bw row w)(P:Pk row p k)(ha:a=p.toNat)(hk:p<(w:Int)→k≤row.length)(hb:b=row.getD k w)(ja:a≤b):fW row w b=fW row w a+(if k%2==1 then((2^(w-a):Nat):Int)-((2^(w-b):Nat):Int)else 0):=by
 have l:=et (k:=k) R
 have:=DZ row (w:=w) (k%2==1) (b-a) a (by trace"gbFEeDCeFDlCBlFDlAFaDenDFlA0keno0zUrEcUjnU0zrE0kenoFAaBliiiiii ha hb ja l .s .t") (fun x h1 h2=>Pu (DC P (hk (by trace"jbGCeUqEcrHAliFIeGFlIElGDlDpGBalGFlBGaFenFGlB0keno0zUrCcUjnU0zrC0kenoUqEcriiiiiiiii ha hk hb ja l h1 h2 .s .t")) (by trace"ibGHeUqEcrCFliABeGAlGDl0zUrHcUjnU0zrH0kenoUDcriiiiii ha hk hb ja h1 .t") (by trace"gbFEeDCeFDlBpFAalFDlAFaDenDFlA0keno0zUrEcUjnU0zrE0kenoBpCliiiiii ha hb ja h2 .s .t") R))
 rwa[show a+(b-a)=b by trace"fbEDeCBeEClEClAEaCenCElA0keno0zUrDcUjnU0zrD0kenoEAaCeiiiii ha hb ja .s .t"]at this
theorem D0{row:List Nat}{w:Nat}(R:bw row w): ∀(m k:Nat)(p:Int),Pk row p k→k%2=0→(m≠0→k+2*(m-1)<row.length)→row.length≤k+2*m→pF row w k m (fW row w (row.getD k w))=fW row w w
 |0,k,p,P,h0,h1,h2=>by
  have:row.getD k w=w:=by simp[List.getD,List.getElem?_eq_none (show row.length≤k by trace"eaB0keCD0k2malBA2maDeBp2klnCDliii h0 h2 .d2")]
  rw[this];rfl
 |m+1,k,p,P,h0,h1,h2=>by
  have hk:=h1 (by trace"baAp0kex")
  have P1:=P.next R
  have P2:=P1.next R
  have r1:=ya (k:=k+1) R P1 (Int.toNat_natCast _).symm (fun _=>by trace"gaE0keDF2mapCl1kAplFpApenAp1klF0kenoEB2maDeEp2klnDpCliiii h0 hk .s .d2") rfl (pD R)
  have r2:=ya (k:=k+2) R P2 (Int.toNat_natCast _).symm (fun q=>by
   apply Nat.lt_of_not_le
   intro g
   have:row.getD (k+1) w=w:=by simp[List.getD,List.getElem?_eq_none g]
   trace"caBcqAcrBAexi q this") rfl (pD (k:=k+1) R)
  have b1:((k+1)%2==1)=true:=by simp;trace"faB0keAD2maCpeAp2klnBE2maCeBp2klnA1keiii h0 .d2 .d2"
  have b2:((k+2)%2==1)=false:=by simp;trace"daC0keCB2maAeCp2klnC0keii h0 .d2"
  rw[b1,if_pos rfl]at r1
  rw[b2,if_neg (by decide),Int.add_zero]at r2
  show pF row w (k+2) m (fW row w (row.getD k w)+(((2^(w-row.getD k w):Nat):Int)-((2^(w-row.getD (k+1) w):Nat):Int)))=_
  rw[←r1,←r2]
  exact D0 R m (k+2) _ P2 (by trace"faA0keBE2maC2kaeBp2klnAD2maCeAp2klnB0keiii h0 .d2 .d2") (fun q=>by trace"haF0keGC2mapBlD0kex1kDlApDenD1klA0keno1kDplCpDpenDp1klC0kenoFE2maGeFp2klnG2kaA2mapBliiiiii h0 hk q .s .s .d2") (by trace"faD0keACEp2malDB2maCeDp2klnAC2kaE2maliii h0 h2 .d2")
theorem Pv{row:List Nat}{w:Nat}(R:bw row w):pF row w 0 ((row.length+1)/2) 0=(fB row w:Int):=by
 have h:=D0 R ((row.length+1)/2) 0 (-1) (uv row) rfl (fun q=>by trace"eaD0kex1kDlApDenD1klA0kenoBD2maCpeBp2kln0kA2mapCliii q .s .d2") (by trace"daCB2maApeCp2klnA0kB2mali .d2")
 have z:=ya (k:=0) (a:=0) R (uv row) rfl (fun _=>Nat.zero_le _) rfl (Nat.zero_le _)
 have z0:fW row w 0=0:=by simp[fW,fB,num]
 rw[z0]at z
 rw[z]at h
 rw[show fW row w w=(fB row w:Int) by simp[fW]]at h
 exact h
theorem Pw(row:List Nat)(w:Nat):fB row w<2^w:=x9 _ _ (by simp)
noncomputable def dj(w:Nat)(black:Bool)(row:List Nat):List UInt8:=rH (fB row w) w black
theorem D7{w:Nat}(hw:w≤575)(rev:Option Bool)(row:List Nat):uw w rev row (dj w (rev.getD false) row):=by
 refine⟨?_,by simp[dj,rH,bigEndian];trace"daB575klCA8maB7kaeCp8klnA100klii hw .d8"⟩
 unfold ny
 have l:((List.range w).map (rN (rev.getD false) row)).length=w:=by simp
 have o:=Pq ((List.range w).map (rN (rev.getD false) row))
 rw[l]at o
 rw[Pr,lF,o]
 unfold dj rH
 congr 3
 cases rev.getD false with
 |true=>rfl
 |false=>
  have:=DS w (gC row)
  show num ((List.range w).map fun x=> !gC row x)=2^w-1-fB row w
  unfold fB
  trace"faAEapDeEClBEaCenCElB0keno1kDlCpDenD1klC0kenoABeiii this .s .s"
section
variable{C:Cx}{l:L}{h:H}{i j:Int}
theorem Px{k:CL}(h0:0≤i∧0≤j∧i<2^31∧j<2^31):eD C h (.b7 k) (some i) (some j)=cy h (be (C.cl k) i.toNat j.toNat):=by
 exact if_pos h0
end
section
variable{S:List Int}{fuel k:Nat}{h:H}
noncomputable def L0:L:=fun m=>own m [(.ak,V.b7 .ak)]
noncomputable def L1(hd sz:Int)(nr:Nat)(bl al:Bool)(en:Int)(wi:Bool):L:=((((((L0.set .head (.int hd)).set .size (.int sz)).set .eY (.ref nr)).set .black (.bool bl)).set .align (.bool al)).set .dD (.int en)).set .wide (.bool wi)
theorem pK(C:Cx)(h:H)(c:CL):jE C h (.b7 c)=some (!(C.cl c).isEmpty):=rfl
noncomputable def yb(r:SS):SS:=(.cons (.assign .head (.bz (.tr (.loc .ak)) (.sub (.loc .ak) (.int 0)) (.int 0)))
 (.cons (.assign .size (.bz (.cmp .gt (.len (.loc .ak)) (.int 1)) (.sub (.loc .ak) (.int 1)) (.int 9)))
 (.cons (.assign .eY (.fE (.loc .ak) (.int 2) (.int 14)))
 (.cons (.assign .black (.cmp .eq (.bin .mod (.loc .head) (.int 2)) (.int 1)))
 (.cons (.assign .align (.cmp .eq (.bin .mod (.bin .div (.loc .head) (.int 2)) (.int 2)) (.int 1)))
 (.cons (.assign .dD (.bin .mod (.bin .div (.loc .head) (.int 4)) (.int 5)))
 (.cons (.assign .wide (.cmp .eq (.bin .mod (.bin .div (.loc .head) (.int 20)) (.int 6)) (.int 5))) r)))))))
theorem iL{C:Cx}{l:L}{h h1:H}{x:X}{a b:Int}(e:ev C l x h=some (.int a,h1))(n0:b≠0):ev C l (.bin .mod x (.int b)) h=some (.int (a.fmod b),h1):=aS e am ((gU C h1 a b).trans (if_pos n0))
theorem rO{C:Cx}{l:L}{h h1:H}{x:X}{a b:Int}(e:ev C l x h=some (.int a,h1))(n0:b≠0∧b.natAbs<1073741824):ev C l (.bin .div x (.int b)) h=some (.int (a.fdiv b),h1):=aS e am ((tW C h1 a b).trans (if_pos n0))
theorem gX:(Cn (aj S) fuel k).cl .ak=S.map .int:=by rw[wX];rfl
theorem Py(r:SS)(h:H): ∃(hd sz:Int)(ns:List Int)(bl al:Bool)(en:Int)(wi:Bool),ay (Cn (aj S) fuel k) (yb r) L0 h=ay (Cn (aj S) fuel k) r (L1 hd sz h.n bl al en wi) (h.push (.list (ns.map .int)))∧
 0≤en∧en<5∧ns.length≤12∧(S=[]→hd=0∧bl=false∧al=false∧en=0∧wi=false∧sz=9)∧(∀a T,S=a::T→hd=a):=by
 obtain⟨hd,e1,p1,p2⟩: ∃hd,ev (Cn (aj S) fuel k) L0 (.bz (.tr (.loc .ak)) (.sub (.loc .ak) (.int 0)) (.int 0)) h=some (.int hd,h)∧(S=[]→hd=0)∧ ∀a T,S=a::T→hd=a:=by
  cases hS:S with
  |nil=>
   subst hS
   exact⟨0,gT (bG (aa rfl) (by rw[pK,gX];rfl)) am,fun _=>rfl,fun a T e=>by cases e⟩
  |cons a T=>
   subst hS
   refine⟨a,gS (bG (aa rfl) (by rw[pK,gX];rfl)) (dz (aa rfl) am ?_),fun e=>(by cases e),fun b U e=>(by cases e;rfl)⟩
   rw[rh,gX];rfl
 obtain⟨sz,e2,q1⟩: ∃sz,ev (Cn (aj S) fuel k) (L0.set .head (.int hd)) (.bz (.cmp .gt (.len (.loc .ak)) (.int 1)) (.sub (.loc .ak) (.int 1)) (.int 9)) h=some (.int sz,h)∧(S=[]→sz=9):=by
  have t:te (Cn (aj S) fuel k) (L0.set .head (.int hd)) (.cmp .gt (.len (.loc .ak)) (.int 1)) h=some (decide ((1:Int)<((Cn (aj S) fuel k).cl .ak).length),h):=aJ (BX (aa rfl)) am rfl
  rw[gX,List.length_map]at t
  by_cases g:(1:Int)<S.length
  ·rw[decide_eq_true g]at t
   have g2:1<S.length:=by trace"ba1zqAcr1kpAli g"
   refine⟨S[1],gS t (dz (aa rfl) am ?_),fun e=>by subst e;simp at g2⟩
   rw[rh,gX]
   simp[g2]
  ·rw[decide_eq_false g]at t
   exact⟨9,gT t am,fun _=>rfl⟩
 obtain⟨ns,e3,r1⟩: ∃ns:List Int,ev (Cn (aj S) fuel k) (L.set (L.set L0 .head (.int hd)) .size (.int sz)) (.fE (.loc .ak) (.int 2) (.int 14)) h=some (.ref h.n,h.push (.list (ns.map .int)))∧ns.length≤12:=by
  refine⟨be S 2 14,wI (aa rfl) am am ?_,by simp[be];trace"ca14kBlA14kenB14klABenoA14kli .m"⟩
  rw[Px (by decide),gX,cy]
  have:be (S.map V.int) (Int.toNat 2) (Int.toNat 14)=(be S 2 14).map .int:=by simp[be,List.map_take,List.map_drop]
  rw[this,if_pos]
  simp[be,aU];trace"ca14kBlA14kenB14klABenoA16777218kli .m"
 refine⟨hd,sz,ns,hd.fmod 2==1,(hd.fdiv 2).fmod 2==1,(hd.fdiv 4).fmod 5,(hd.fdiv 20).fmod 6==5,?_,?_,?_,r1,fun e=> ?_,p2⟩
 ·unfold yb
  rw[bI (aV e1),bI (aV e2),bI (aV e3),
   bI (aV (lh (iL (a:=hd) (aa rfl) (by decide)) am rfl)),
   bI (aV (lh (iL (rO (a:=hd) (aa rfl) (by decide)) (by decide)) am rfl)),
   bI (aV (iL (rO (a:=hd) (aa rfl) (by decide)) (by decide))),
   bI (aV (lh (iL (rO (a:=hd) (aa rfl) (by decide)) (by decide)) am rfl))]
  rfl
 ·exact Int.fmod_nonneg_of_pos _ (by decide)
 ·exact Int.fmod_lt_of_pos _ (by decide)
 ·have:=p1 e
  subst this
  exact⟨rfl,rfl,rfl,rfl,rfl,q1 e⟩
end
structure Rw(f:Nat→List Nat)(h:H)(w i:Nat):Prop where
 lt:i<h.n
 ob:h.o i=some (.list (nl (f i)))
 ok:bw (f i) w
theorem Rw.mono {f:Nat→List Nat} {h h':H} {w i:Nat} (r:Rw f h w i) (n:h.n≤h'.n) (k: ∀i,i<h.n→h'.o i=h.o i):Rw f h' w i:=⟨Nat.lt_of_lt_of_le r.lt n,by rw[k i r.lt];exact r.ob,r.ok⟩
noncomputable def Pz:V→Nat
 | .int i=>i.toNat
 |_=>0
noncomputable def rP(h:H)(i:Nat):List Nat:=match h.o i with
 |some (.list xs)=>xs.map Pz
 |_=>[]
theorem RI.PA {xs:List Int} {w:Nat} (r:RI xs w) (hl:xs.length≤500):bw (xs.map Int.toNat) w:=by
 refine⟨fun i j x y e1 e2 lt=> ?_,fun i x e=> ?_,by simpa using hl⟩
 ·rw[List.getElem?_map]at e1 e2
  (refine aA (Option.map_eq_some_iff.mp e1) fun a a1 PB=> ?_;obtain rfl:=PB)
  (refine aA (Option.map_eq_some_iff.mp e2) fun b b1 qj=> ?_;obtain rfl:=qj)
  obtain⟨l1,a2⟩:=List.getElem?_eq_some_iff.mp a1
  obtain⟨l2,b2⟩:=List.getElem?_eq_some_iff.mp b1
  have:=List.pairwise_iff_getElem.mp r.sorted i j l1 l2 lt
  have h1:=(r.lt a (List.mem_of_getElem? a1)).1
  have h2:=(r.lt b (List.mem_of_getElem? b1)).1
  trace"feCpBlWXjEpBlUVjWqUr0zXr0zVr0zVrDcVjnV0zrD0keno0zXrAcXjnX0zrA0kenoApDliiiiiiiii l1 a2 l2 b2 this h1 h2 .t .t"
 ·rw[List.getElem?_map]at e
  (refine aA (Option.map_eq_some_iff.mp e) fun a a1 qO=> ?_;obtain rfl:=qO)
  have:=r.lt a (List.mem_of_getElem? a1)
  trace"cb0zUrUqBcrn0zUrAcUjnU0zrA0kenoApBlii this .t"
theorem dg.rw {h:H} {w i:Nat} (r:dg h w 50 i):Rw (rP h) h w i:=by
 obtain⟨a,xs,b,d,e⟩:=r
 have f:rP h i=xs.map Int.toNat:=by
  unfold rP
  rw[b]
  dsimp only
  rw[List.map_map]
  rfl
 refine⟨a,?_,by rw[f];exact d.PA (by trace"baA50klA500kli e")⟩
 rw[f,b,nl,List.map_map]
 congr 2
 refine List.map_congr_left fun x hx=> ?_
 have:=(d.lt x hx).1
 simp only[Function.comp,tV]
 trace"bb0zUr0zUrAcUjnU0zrA0kenoUAcjii this .t"
theorem RI.one {a:Int} {w:Nat} (h:0≤a∧a<(w:Int)):RI [a] w:=⟨by simp,by simpa using h⟩
theorem RI.two {a b:Int} {w:Nat} (h:0≤a∧a<b∧b<(w:Int)):RI [a,b] w:=⟨by simp;trace"bc0zVrVqUrUqAcrnnVqUri h",by simp;trace"bc0zVrVqUrUqAcrnn0zVrVqAcrn0zUrUqAcrnni h"⟩
theorem RI.zero (w:Nat):RI [] w:=⟨by simp,by simp⟩
noncomputable def yc:X:=(.list (.cons (.sub (.list (.cons (.list .nil) (.cons (.list (.cons (.bin .sub (.bin .sub (.loc .width) (.int 1)) (.loc .bY)) .nil)) (.cons (.list (.cons (.int 0) (.cons (.bin .add (.int 1) (.loc .bY)) .nil))) .nil)))) (.bin .mod (.loc .bY) (.int 3))) .nil))
noncomputable def yd:X:=(.list (.cons (.sub (.list (.cons (.list (.cons (.loc .bY) .nil)) (.cons (.list (.cons (.bin .div (.loc .bY) (.int 2)) (.cons (.bin .sub (.bin .sub (.loc .width) (.int 1)) (.bin .div (.loc .bY) (.int 2))) .nil))) .nil))) (.bin .mod (.loc .bY) (.int 2))) .nil))
noncomputable def uy:CC.S:=(.ifs (.tr (.loc .wide))
 (.cons (.assign .bY (.bz (.tr (.loc .eY)) (.bin .mod (.sub (.loc .eY) (.int 0)) (.int 60)) (.int 0)))
 (.cons (.assign .width (.bin .add (.int 64) (.bin .mod (.loc .size) (.int 512))))
 (.cons (.ifs (.tr (.loc .black))
 (.cons (.assign .rows yc)
 .nil)
 (.cons (.assign .rows yd)
 .nil))
 .nil)))
 (.cons (.assign .width (.bin .add (.int 1) (.bin .mod (.loc .size) (.int 16))))
 (.cons (.assign .rows (.bz (.tr (.loc .ak)) (.call (.glob .jy) (.cons (.loc .eY) (.cons (.loc .width) .nil)) []) (.list .nil)))
 .nil)))
section
variable{C:Cx}{l:L}{h:H}{w fw:Nat}
theorem D8(C:Cx)(h:H)(i:Nat):jE C h (.ref i)=(C.items h (.ref i)).map (!·.isEmpty):=rfl
theorem lI(xs:List V)(h:xs.length≤3):xs.length≤aU:=Nat.le_trans h (by decide)
theorem PD(h1:l .width=some (.int (w:Int)))(h2:l .bY=some (.int (fw:Int)))(hw:64≤w)(hf:fw<60):
 ∃h' r,ev C l yc h=some (.ref (h.n+4),h')∧h'.n=h.n+5∧h'.o (h.n+4)=some (.list [.ref r])∧dg h' w 50 r∧ ∀i,i<h.n→h'.o i=h.o i:=by
 obtain⟨g,hg⟩: ∃g:H,g=(((h.push (.list [])).push (.list [.int ((w:Int)-1-fw)])).push (.list [.int 0,.int (1+(fw:Int))])).push (.list [.ref h.n,.ref (h.n+1),.ref (h.n+2)]):=⟨_,rfl⟩
 have gn:g.n=h.n+4:=by rw[hg];rfl
 have e:ev C l (.list (.cons (.list .nil) (.cons (.list (.cons (.bin .sub (.bin .sub (.loc .width) (.int 1)) (.loc .bY)) .nil)) (.cons (.list (.cons (.int 0) (.cons (.bin .add (.int 1) (.loc .bY)) .nil))) .nil)))) h=some (.ref (h.n+3),g):=by
  rw[hg]
  exact dF (aT (dF bh (by decide)) (aT (dF (aT (aS (aS (aa h1) am (rg _ _ _ _)) (aa h2) (rg _ _ _ _)) bh) (lI _ (Nat.le_of_ble_eq_true rfl))) (aT (dF (aT am (aT (aS am (aa h2) (pf _ _ _ _)) bh)) (lI _ (Nat.le_of_ble_eq_true rfl))) bh))) (lI _ (Nat.le_of_ble_eq_true rfl))
 have m:ev C l (.bin .mod (.loc .bY) (.int 3)) g=some (.int ((fw%3:Nat):Int),g):=by
  have:=iL (C:=C) (h:=g) (b:=3) (aa h2) (by decide)
  rw[this]
  rw[show(fw:Int).fmod 3=((fw%3:Nat):Int)from CK fw 3]
 have o3:g.o (h.n+3)=some (.list [.ref h.n,.ref (h.n+1),.ref (h.n+2)]):=by rw[hg];exact bB rfl
 obtain⟨r,ir,R⟩: ∃r:Nat,idx C g (.ref (h.n+3)) (.int ((fw%3:Nat):Int))=some (.ref r)∧ ∀x,dg (g.push x) w 50 r:=by
  rw[tY _ _ o3]
  have pr: ∀{r:Nat}{xs:List Int},g.o r=some (.list (xs.map .int))→RI xs w→xs.length≤2→r<g.n→ ∀x,dg (g.push x) w 50 r:=fun a b c d x=>⟨by rw[bN];trace"daCA4kaeBpClBpCplii gn d",_,by rw[bM (by trace"daBA4kaeCpBlCBexii gn d")];exact a,b,by trace"baA2klA50kli c"⟩
  have hm:fw%3=0∨fw%3=1∨fw%3=2:=by trace"daCB3maAeCp3klnC0keC1keC2keooi .d3"
  rcases hm with q|q|q<;>rw[q]
  ·exact⟨h.n,rfl,pr (xs:=[]) (by rw[hg,bM (by simp only[bN];trace"baAApppex"),bM (by simp only[bN];trace"baAAppex"),bM (by simp only[bN];trace"baAApex")];exact bB rfl) (.zero w) (by decide) (by trace"caBA4kaeApBli gn")⟩
  ·exact⟨h.n+1,rfl,pr (xs:=[(w:Int)-1-fw]) (by rw[hg,bM (by simp only[bN];trace"baApApppex"),bM (by simp only[bN];trace"baApAppex")];exact bB rfl) (.one (by trace"ea64kDlCp60klB1keBA3maCeBp3kln0zDc1zsCcsrDc1zsCcsqDcrniiii hw hf q .d3")) (by decide:1≤2) (by trace"caBA4kaeAppBli gn")⟩
  ·exact⟨h.n+2,rfl,pr (xs:=[0,1+(fw:Int)]) (by rw[hg,bM (by simp only[bN];trace"baA2kaApppex")];exact bB rfl) (.two (by trace"ea64kDlBp60klC2keCA3maBeCp3kln0z0zr0zq1zBctr1zBctqDcrnniiii hw hf q .d3")) (by decide:2≤2) (by trace"caBA4kaeA2kapBli gn")⟩
 have z:=dF (C:=C) (l:=l) (aT (dz e m ir) bh) (lI _ (Nat.le_of_ble_eq_true rfl))
 rw[gn]at z
 refine⟨_,r,z,by rw[bN,gn],bB gn.symm,R _,fun i hi=> ?_⟩
 rw[bM (by trace"daBA4kaeCpAlCBexii gn hi"),hg,bM (by simp only[bN];trace"caBpAlBApppexi hi"),bM (by simp only[bN];trace"caBpAlBAppexi hi"),bM (by simp only[bN];trace"caBpAlBApexi hi"),bM (by trace"caBpAlBAexi hi")]
theorem PE(h1:l .width=some (.int (w:Int)))(h2:l .bY=some (.int (fw:Int)))(hw:64≤w)(hf:fw<60):
 ∃h' r,ev C l yd h=some (.ref (h.n+3),h')∧h'.n=h.n+4∧h'.o (h.n+3)=some (.list [.ref r])∧dg h' w 50 r∧ ∀i,i<h.n→h'.o i=h.o i:=by
 obtain⟨g,hg⟩: ∃g:H,g=((h.push (.list [.int (fw:Int)])).push (.list [.int ((fw:Int).fdiv 2),.int ((w:Int)-1-(fw:Int).fdiv 2)])).push (.list [.ref h.n,.ref (h.n+1)]):=⟨_,rfl⟩
 have gn:g.n=h.n+3:=by rw[hg];rfl
 have e:ev C l (.list (.cons (.list (.cons (.loc .bY) .nil)) (.cons (.list (.cons (.bin .div (.loc .bY) (.int 2)) (.cons (.bin .sub (.bin .sub (.loc .width) (.int 1)) (.bin .div (.loc .bY) (.int 2))) .nil))) .nil))) h=some (.ref (h.n+2),g):=by
  rw[hg]
  exact dF (aT (dF (aT (aa h2) bh) (lI _ (Nat.le_of_ble_eq_true rfl))) (aT (dF (aT (rO (aa h2) (by decide)) (aT (aS (aS (aa h1) am (rg _ _ _ _)) (rO (aa h2) (by decide)) (rg _ _ _ _)) bh)) (lI _ (Nat.le_of_ble_eq_true rfl))) bh)) (lI _ (Nat.le_of_ble_eq_true rfl))
 have m:ev C l (.bin .mod (.loc .bY) (.int 2)) g=some (.int ((fw%2:Nat):Int),g):=by
  have:=iL (C:=C) (h:=g) (b:=2) (aa h2) (by decide)
  rw[this]
  rw[show(fw:Int).fmod 2=((fw%2:Nat):Int)from CK fw 2]
 have fd:(fw:Int).fdiv 2=((fw/2:Nat):Int):=Nt fw 2
 have o3:g.o (h.n+2)=some (.list [.ref h.n,.ref (h.n+1)]):=by rw[hg];exact bB rfl
 obtain⟨r,ir,R⟩: ∃r:Nat,idx C g (.ref (h.n+2)) (.int ((fw%2:Nat):Int))=some (.ref r)∧ ∀x,dg (g.push x) w 50 r:=by
  rw[tY _ _ o3]
  have pr: ∀{r:Nat}{xs:List Int},g.o r=some (.list (xs.map .int))→RI xs w→xs.length≤2→r<g.n→ ∀x,dg (g.push x) w 50 r:=fun a b c d x=>⟨by rw[bN];trace"daCA3kaeBpClBpCplii gn d",_,by rw[bM (by trace"daBA3kaeCpBlCBexii gn d")];exact a,b,by trace"baA2klA50kli c"⟩
  have hm:fw%2=0∨fw%2=1:=by trace"daCB2maAeCp2klnC0keC1keoi .d2"
  rcases hm with q|q<;>rw[q]
  ·exact⟨h.n,rfl,pr (xs:=[(fw:Int)]) (by rw[hg,bM (by simp only[bN];trace"baAAppex"),bM (by simp only[bN];trace"baAApex")];exact bB rfl) (.one (by trace"ea64kDlCp60klB0keBA2maCeBp2kln0zCcrCcqDcrniiii hw hf q .d2")) (by decide:1≤2) (by trace"caBA3kaeApBli gn")⟩
  ·exact⟨h.n+1,rfl,pr (xs:=[(fw:Int).fdiv 2,(w:Int)-1-(fw:Int).fdiv 2]) (by rw[hg,bM (by simp only[bN];trace"baApAppex")];exact bB rfl) (.two (by rw[fd];trace"ea64kDlBp60klC1keCA2maBeCp2kln0zAcrAcqDc1zsAcsrDc1zsAcsqDcrnniiii hw hf q .d2")) (by decide:2≤2) (by trace"caBA3kaeAppBli gn")⟩
 have z:=dF (C:=C) (l:=l) (aT (dz e m ir) bh) (lI _ (Nat.le_of_ble_eq_true rfl))
 rw[gn]at z
 refine⟨_,r,z,by rw[bN,gn],bB gn.symm,R _,fun i hi=> ?_⟩
 rw[bM (by trace"daBA3kaeCpAlCBexii gn hi"),hg,bM (by simp only[bN];trace"caBpAlBAppexi hi"),bM (by simp only[bN];trace"caBpAlBApexi hi"),bM (by trace"caBpAlBAexi hi")]
end
section
variable{S:List Int}{fuel k:Nat}{h:H}
theorem PF{hd sz:Int}{ns:List Int}{bl al:Bool}{en:Int}{wi:Bool}(PG:ns.length≤12)(hS:S=[]→wi=false):
 ∃(l2:L)(h2:H)(ro:Nat)(refs:List Nat)(f:Nat→List Nat)(w:Nat),ex (Cn (aj S) fuel (k+1)) uy (L1 hd sz h.n bl al en wi) (h.push (.list (ns.map .int)))=some (.next,l2,h2)∧l2 .rows=some (.ref ro)∧l2 .width=some (.int (w:Int))∧(∀n,n≠ .bY→n≠ .width→n≠ .rows→l2 n=L1 hd sz h.n bl al en wi n)∧
  h2.o ro=some (.list (refs.map .ref))∧refs.length≤3∧(∀i∈refs,Rw f h2 w i)∧ro<h2.n∧1≤w∧w≤575∧(refs.length≤1∨w≤16)∧(S=[]→refs=[]):=by
 have on:(h.push (.list (ns.map .int))).o h.n=some (.list (ns.map .int)):=bB rfl
 induction wi with
 |true=>
  obtain⟨fw,e1,lf⟩: ∃fw:Nat,ev (Cn (aj S) fuel (k+1)) (L1 hd sz h.n bl al en true) (.bz (.tr (.loc .eY)) (.bin .mod (.sub (.loc .eY) (.int 0)) (.int 60)) (.int 0)) (h.push (.list (ns.map .int)))=some (.int (fw:Int),h.push (.list (ns.map .int)))∧fw<60:=by
   induction ns with
   |nil=>exact⟨0,gT (bG (v:= .ref h.n) (aa rfl) (by rw[D8,j9,on];rfl)) am,by decide⟩
   |cons a ns=>
    have b:=iI a (b:=60) (by decide)
    refine⟨(a.fmod 60).toNat,?_,by trace"bb0zUrUq60zrn0zUrAcUjnU0zrA0kenoAp60klii b .t"⟩
    rw[Int.toNat_of_nonneg b.1]
    exact gS (bG (v:= .ref h.n) (aa rfl) (by rw[D8,j9,on];rfl)) (iL (dz (a:= .ref h.n) (aa rfl) am ((tY _ _ on _).trans rfl)) (by decide))
  have b:=iI sz (b:=512) (by decide)
  obtain⟨w,hw⟩: ∃w:Nat,(w:Int)=64+sz.fmod 512:=⟨(64+sz.fmod 512).toNat,by trace"bb0zUrUq512zrn0z64zUtrAc64zUtjn64zUt0zrA0kenoAc64zUtjii b .t"⟩
  have e2: ∀l:L,l .size=some (.int sz)→ ∀h,ev (Cn (aj S) fuel (k+1)) l (.bin .add (.int 64) (.bin .mod (.loc .size) (.int 512))) h=some (.int (w:Int),h):=fun l e h=>by rw[hw];exact aS am (iL (aa e) (by decide)) (pf _ _ _ _)
  obtain⟨l1,ci⟩: ∃l1:L,l1=((L1 hd sz h.n bl al en true).set .bY (.int (fw:Int))).set .width (.int (w:Int)):=⟨_,rfl⟩
  have m1:l1 .width=some (.int (w:Int)):=by rw[ci];rfl
  have m2:l1 .bY=some (.int (fw:Int)):=by rw[ci];rfl
  have m3:l1 .black=some (.bool bl):=by rw[ci];rfl
  have m4: ∀ro n,n≠ .bY→n≠ .width→n≠ .rows→(l1.set .rows (.ref ro)) n=L1 hd sz h.n bl al en true n:=fun ro n a b c=>by rw[ci];simp[bu,a,b,c]
  have fin: ∀{x:X}{h':H}{ro r:Nat},ev (Cn (aj S) fuel (k+1)) l1 x (h.push (.list (ns.map .int)))=some (.ref ro,h')→ex (Cn (aj S) fuel (k+1)) (.ifs (.tr (.loc .black)) (.cons (.assign .rows yc) .nil) (.cons (.assign .rows yd) .nil)) l1 (h.push (.list (ns.map .int)))=ay (Cn (aj S) fuel (k+1)) (.cons (.assign .rows x) .nil) l1 (h.push (.list (ns.map .int)))→
   h'.o ro=some (.list [.ref r])→dg h' w 50 r→ro<h'.n→ ∃(l2:L)(h2:H)(ro:Nat)(refs:List Nat)(f:Nat→List Nat)(w:Nat),ex (Cn (aj S) fuel (k+1)) uy (L1 hd sz h.n bl al en true) (h.push (.list (ns.map .int)))=some (.next,l2,h2)∧l2 .rows=some (.ref ro)∧l2 .width=some (.int ((w:Nat):Int))∧(∀n,n≠ .bY→n≠ .width→n≠ .rows→l2 n=L1 hd sz h.n bl al en true n)∧
    h2.o ro=some (.list (refs.map .ref))∧refs.length≤3∧(∀i∈refs,Rw f h2 w i)∧ro<h2.n∧1≤w∧w≤575∧(refs.length≤1∨w≤16)∧(S=[]→refs=[]):=by
   intro x h' ro r e f o R lt
   refine⟨l1.set .rows (.ref ro),h',ro,[r],rP h',w,?_,rfl,m1,m4 ro,o,Nat.le_of_ble_eq_true rfl,fun i hi=>by rw[List.mem_singleton.mp hi];exact R.rw,lt,by trace"bb0zUrUq512zrnAc64zUtj1kAlii b hw",by trace"bb0zUrUq512zrnAc64zUtjA575klii b hw",.inl (Nat.le_refl _),fun e=>by cases hS e⟩
   refine bE (bG (v:= .bool true) (aa rfl) rfl) ?_
   rw[bI (aV e1),bI (aV (e2 _ rfl _)),←ci]
   refine eL ?_
   rw[f]
   exact eL (aV e)
  induction bl with
  |true=>
   refine pO (PD (C:=Cn (aj S) fuel (k+1)) (h:=h.push (.list (ns.map .int))) m1 m2 (by trace"bb0zUrUq512zrnAc64zUtj64kAlii b hw") lf) fun h' r f1 f2 f3 f4 f5=> ?_
   exact fin f1 (bE (bG (v:= .bool true) (aa m3) rfl) rfl) f3 f4 (by trace"caBA5kaeA4kapBli f2")
  |false=>
   refine pO (PE (C:=Cn (aj S) fuel (k+1)) (h:=h.push (.list (ns.map .int))) m1 m2 (by trace"bb0zUrUq512zrnAc64zUtj64kAlii b hw") lf) fun h' r f1 f2 f3 f4 f5=> ?_
   exact fin f1 (bi (bG (v:= .bool false) (aa m3) rfl) rfl) f3 f4 (by trace"caBA4kaeA3kapBli f2")
 |false=>
  have b:=iI sz (b:=16) (by decide)
  obtain⟨w,hw⟩: ∃w:Nat,(w:Int)=1+sz.fmod 16:=⟨(1+sz.fmod 16).toNat,by trace"bb0zUrUq16zrn0z1zUtrAc1zUtjn1zUt0zrA0kenoAc1zUtjii b .t"⟩
  have e2:ev (Cn (aj S) fuel (k+1)) (L1 hd sz h.n bl al en false) (.bin .add (.int 1) (.bin .mod (.loc .size) (.int 16))) (h.push (.list (ns.map .int)))=some (.int (w:Int),h.push (.list (ns.map .int))):=by rw[hw];exact aS am (iL (aa rfl) (by decide)) (pf _ _ _ _)
  have m4: ∀ro n,n≠ .bY→n≠ .width→n≠ .rows→(((L1 hd sz h.n bl al en false).set .width (.int (w:Int))).set .rows (.ref ro)) n=L1 hd sz h.n bl al en false n:=fun ro n a b c=>by simp[bu,a,b,c]
  obtain⟨h',ro,refs,f1,f2,f3,f4,f5,f6⟩: ∃h' ro refs,ev (Cn (aj S) fuel (k+1)) ((L1 hd sz h.n bl al en false).set .width (.int (w:Int))) (.bz (.tr (.loc .ak)) (.call (.glob .jy) (.cons (.loc .eY) (.cons (.loc .width) .nil)) []) (.list .nil)) (h.push (.list (ns.map .int)))=some (.ref ro,h')∧
   h'.o ro=some (.list (refs.map .ref))∧refs.length≤3∧(∀i∈refs,dg h' w 50 i)∧ro<h'.n∧(S=[]→refs=[]):=by
   cases D9:S with
   |nil=>
    subst D9
    exact⟨_,_,[],gT (bG (v:= .b7 .ak) (aa rfl) (by rw[pK,gX];rfl)) (dF bh (by decide)),bB rfl,by decide,by simp,Nat.lt_succ_self _,fun _=>rfl⟩
   |cons a T=>
    subst D9
    refine pQ (OR (fuel:=fuel) (n:=k) (w:=w) (vs:=ns) (h:=h.push (.list (ns.map .int))) (an:=h.n) (aj (a::T)) (by trace"bb0zUrUq16zrnAc1zUtj1kAlA1000klnii b hw") (by trace"baA12klA40kli PG") on (by rw[bN];trace"baApApl")) fun h' ro refs g1 g2 g3 g4 g5 g6 g7 g8=> ?_
    exact⟨h',ro,refs,gS (bG (v:= .b7 .ak) (aa rfl) (by rw[pK,gX];rfl)) (eV (cD rfl) (aT (aa rfl) (aT (aa rfl) bh)) g1),g2,g3,g5,g6,fun e=>by cases e⟩
  refine⟨((L1 hd sz h.n bl al en false).set .width (.int (w:Int))).set .rows (.ref ro),h',ro,refs,rP h',w,?_,rfl,rfl,m4 ro,f2,f3,fun i hi=>(f4 i hi).rw,f5,by trace"bb0zUrUq16zrnAc1zUtj1kAlii b hw",by trace"bb0zUrUq16zrnAc1zUtjA575klii b hw",.inr (by trace"bb0zUrUq16zrnAc1zUtjA16klii b hw"),f6⟩
  refine bi (bG (v:= .bool false) (aa rfl) rfl) ?_
  rw[bI (aV e2)]
  exact eL (aV f1)
end
section
variable{C:Cx}{l l1:L}{h h1 h2 h3:H}{x y z:X}{xs:XS}{v a b c:V}{vs:List V}{n m:Nm}
theorem PH{ss:List (List Nat)}(e:ev C l x h=some (.str [],h1))(f:ev C l y h1=some (v,h2))(g:(C.items h2 v).bind kF=some ss)(k:ss.flatten.length≤16000000):ev C l (.join x y) h=some (.str ss.flatten,h2):=by
 show rZ C (ev C l x h) (fun h=>ev C l y h)=_
 rw[e]
 show uZ C (ev C l y h1)=_
 rw[f]
 show(match(C.items h2 v).bind kF with|some xs=>if xs.flatten.length≤16000000 then some (V.str xs.flatten,h2)else none|none=>none)=_
 rw[g];exact if_pos k
theorem PI{ss:List (List UInt8)}(e:ev C l x h=some (.bytes [],h1))(f:ev C l y h1=some (v,h2))(g:(C.items h2 v).bind jD=some ss)(k:ss.flatten.length≤16000000):ev C l (.join x y) h=some (.bytes ss.flatten,h2):=by
 show rZ C (ev C l x h) (fun h=>ev C l y h)=_
 rw[e]
 show u0 C (ev C l y h1)=_
 rw[f]
 show(match(C.items h2 v).bind jD with|some xs=>if xs.flatten.length≤16000000 then some (V.bytes xs.flatten,h2)else none|none=>none)=_
 rw[g];exact if_pos k
end
noncomputable def ye:CC.S:=(.ifs (.tr (.loc .align))
 (.cons (.assign .bits (.bin .add (.loc .bits) (.bin .mul (.str [48]) (.bin .mod (.neg (.len (.loc .bits))) (.int 8)))))
 .nil)
 .nil)
theorem Ea{C:Cx}{l:L}{h:H}{al:Bool}{B:List Bool}(h1:l .align=some (.bool al))(h2:l .bits=some (.str (aL B)))(hl:B.length≤1000000):ex C ye l h=some (.next,l.set .bits (.str (aL (cj al B))),h):=by
 induction al with
 |false=>
  have:l.set .bits (.str (aL (cj false B)))=l:=xc h2
  rw[this]
  exact bi (bG (aa h1) rfl) rfl
 |true=>
  have m:(-((aL B).length:Int)).fmod 8=(((8-B.length%8)%8:Nat):Int):=by
   rw[cT,Int.fmod_eq_emod_of_nonneg _ (by decide)]
   trace"gcAF8maCeAp8klnD8klCDa8ken8kDlC0kenoDE8maBeDp8klnVU8utBcgj0zVrVq8zrnnVAcjiiii .d8 .s .d8 .z8"
  have k:(8-B.length%8)%8<8:=Nat.mod_lt _ (by decide)
  refine bE (bG (aa h1) rfl) (eL (aV (aS (aa h2) (aS (a:= .str [48]) rfl (iL (gR (wJ (aa h2) (by rw[cT];trace"baA1000000klA1000000000kli hl"))) (by decide)) ((Cy C h 48 _).trans (if_pos (by rw[m];trace"gaFA8maBeFp8klnE8klBEa8ken8kElB0kenoEC8maDeEp8kln0zFcrFc1000zrniii .d8 .s .d8")))) ?_)))
  rw[lm,m,Int.toNat_natCast,if_pos (by rw[cT,List.length_replicate];simp only[aU];trace"gaC1000000klFB8maDeFp8klnE8klDEa8ken8kElD0kenoEA8maCeEp8klnCFa16777216kliiii hl .d8 .s .d8")]
  rw[ux,kh]
  simp[aL]
noncomputable def nQ:SS:=(.cons ye
 (.cons (.assign .codes (.call (.glob .iR) (.cons (.loc .row) (.cons (.loc .above) (.cons (.loc .width) (.cons (.loc .wide) (.cons (.loc .ak) (.cons (.loc .told) .nil)))))) []))
 (.cons (.aug .told .add (.len (.loc .codes)))
 (.cons (.assign .bits (.bin .add (.loc .bits) (.join (.str []) (.loc .codes))))
 (.cons (.assign .above (.loc .row))
 .nil)))))
theorem PJ{above row:List Nat}{w:Nat}{p:Int}{k:Nat}{cs:List (List Bool)}(R:bw row w)(Q:bw above w)(L:er above row w p k cs):Pk row p k→p≤(w:Int)→(cs.length:Int)≤w-p:=by
 induction L with
 |done h=>intro _ g;simp;trace"bbAcUrUAcrUAcrii h g"
 | @rB p k j one first cs h J e1 e2 h1 h2 L ih=>
  intro P _
  have a:=rC P h
  have b:=et (k:=k) R
  rw[←e1]at a
  have:=ih (e1▸P.next R) (by rw[e1];exact Int.ofNat_le.mpr b)
  rw[List.length_cons];trace"ebDAeUqDcrBcCcDcsrBpcCcUsriii e1 a this"
 | @pass p k j one second cs h J e1 e2 h1 L ih=>
  intro P _
  have a:=xB Q J h
  have b:=et (k:=j+1) Q
  rw[←e2]at a
  have:=ih (P.pass R a (by trace"eaADeCBeCpAlCpDliii e1 e2 h1")) (by rw[e2];exact Int.ofNat_le.mpr b)
  rw[List.length_cons];trace"ebDAeUqDcrBcCcDcsrBpcCcUsriii e2 a this"
 | @uf p k one two cs h e1 e2 L ih=>
  intro P _
  have a:=rC P h
  have a2:=pD (k:=k) R
  have b:=et (k:=k+1) R
  rw[←e1]at a
  have:=ih (e2▸P.two R) (by rw[e2];exact Int.ofNat_le.mpr b)
  rw[←e1,←e2]at a2
  rw[List.length_cons];trace"gbFCeEDeUqFcrFElAcBcEcsrApcBcUsriiiii e1 e2 a a2 this"
theorem Eb: ∀(cs:List (List Bool)),(∀c∈cs,c.length≤60)→cs.flatten.length≤60*cs.length
 |[],_=>Nat.le_refl _
 |c::cs,h=>by
  have a:=h c (.head _)
  have b:=Eb cs fun x hx=>h x (.tail _ hx)
  rw[List.flatten_cons,List.length_append,List.length_cons];trace"daA60klBC60mlABaCp60mlii a b"
theorem Ec: ∀(cs:List (List Bool)),kF (dA cs)=some (cs.map aL)
 |[]=>rfl
 |c::cs=>by
  show Option.map _ (kF (dA cs))=_
  rw[Ec cs];rfl
theorem yf: ∀(cs:List (List Bool)),(cs.map aL).flatten=aL cs.flatten
 |[]=>rfl
 |c::cs=>by rw[List.map_cons,List.flatten_cons,yf cs,List.flatten_cons,kh]
section
variable{S:List Int}{fuel k w:Nat}{h:H}
theorem PK{l:L}{r a:Nat}{B:List Bool}{above row:List Nat}{wi al:Bool}{t:Int}(hS:S≠[])(hf:600≤fuel)(hw:w≤575)(R:bw row w)(Q:bw above w)(m1:l .row=some (.ref r))(m2:l .above=some (.ref a))(m3:l .width=some (.int (w:Int)))(m4:l .wide=some (.bool wi))(m5:l .ak=some (.b7 .ak))(m6:l .told=some (.int t))(m7:l .align=some (.bool al))(m8:l .bits=some (.str (aL B)))(hB:B.length≤300000)
 (hr:h.o r=some (.list (nl row))) (ha:h.o a=some (.list (nl above))) (lr:r<h.n) (la:a<h.n):
 ∃h' cs,∃(t':Int)(cr:Nat),ay (Cn (aj S) fuel (k+2)) nQ l h=some (.next,((((l.set .bits (.str (aL (cj al B)))).set .codes (.ref cr)).set .told (.int t')).set .bits (.str (aL (cj al B++cs.flatten)))).set .above (.ref r),h')∧er above row w (-1) 0 cs∧(cj al B++cs.flatten).length≤B.length+60*w+68∧h.n≤h'.n∧ ∀i,i<h.n→h'.o i=h.o i:=by
 refine EO (OB (n:=k) (fuel:=fuel) (ak:=S) (w:=w) (row:=row) (above:=above) (r:=r) (a:=a) (wide:=wi) (told:=t) (h:=h) hS hw R Q hf hr ha lr la) fun h' cs f1 f2 f3 f4 f5 f6 f7=> ?_
 have len:=PJ R Q f5 (uv row) (by trace"baA575kl1zgAcri hw")
 have fl:=Eb cs f7
 have pl:(cj al B).length≤B.length+8:=by
  induction al with
  |false=>exact Nat.le_add_right _ _
  |true=>rw[ux,List.length_append,List.length_replicate];trace"gaFA8maCeFp8klnD8klCDa8ken8kDlC0kenoDE8maBeDp8klnBFaB8kaliii .d8 .s .d8"
 have it:(Cn (aj S) fuel (k+2)).items h' (.ref h.n)=some (dA cs):=by rw[j9,f2]
 refine⟨h',cs,t+(dA cs).length,h.n,?_,f5,by rw[List.length_append];trace"faBcAc1zgsrCB60mlED8kalECaDA60ma68kaliii len fl pl",Nat.le_of_lt f3,f4⟩
 have e1:ev (Cn (aj S) fuel (k+2)) (l.set .bits (.str (aL (cj al B)))) (.call (.glob .iR) (.cons (.loc .row) (.cons (.loc .above) (.cons (.loc .width) (.cons (.loc .wide) (.cons (.loc .ak) (.cons (.loc .told) .nil)))))) []) h=some (.ref h.n,h'):=by
  refine eV (a:= .fn .iR) (cD rfl) (aT (aa ?_) (aT (aa ?_) (aT (aa ?_) (aT (aa ?_) (aT (aa ?_) (aT (aa ?_) bh)))))) f1<;>(rw[bu,if_neg (by decide)];assumption)
 unfold nQ
 rw[bI (Ea m7 m8 (by trace"baA300000klA1000000kli hB")),
  bI (aV e1),
  bI (ll (v:= .int (t+(dA cs).length)) (show _=some (.int t) by rw[bu,if_neg (by decide),bu,if_neg (by decide)];exact m6) (iA (aa rfl) it) rfl),
  bI (aV (aS (aa (v:= .str (aL (cj al B))) rfl) (PH (v:= .ref h.n) (ss:=cs.map aL) rfl (aa rfl) (by rw[it];exact Ec cs) (by rw[yf,cT];trace"daA575klB600klBcAc1zgsrCB60mlC16000000kliiii hw f6 len fl")) (by rw[lm,yf,if_pos (by rw[cT,cT];simp only[aU];trace"faB575klA300000klD600klDcBc1zgsrED60mlCA8kalCEa16777216kliiiiii hw hB f6 len fl pl"),←kh]))),
  bI (aV (aa (v:= .ref r) (by simp only[bu,reduceCtorEq,if_false];exact m1)))]
 rfl
theorem Ed{wi al:Bool}{ro:Nat}{f:Nat→List Nat}(hf:600≤fuel)(hw:w≤575)(all:List V): ∀(refs done:List Nat)(l:L)(h:H)(a:Nat)(B:List Bool)(above:List Nat)(t:Int),(refs≠[]→S≠[])→done.length+refs.length≤3→h.o ro=some (.list all)→ro<h.n→Rows w al (done.map f) B above→bw above w→(∀i∈refs,Rw f h w i)→
 h.o a=some (.list (nl above))→a<h.n→B.length≤done.length*(60*w+68)→l .above=some (.ref a)→l .width=some (.int (w:Int))→l .wide=some (.bool wi)→l .ak=some (.b7 .ak)→l .told=some (.int t)→l .align=some (.bool al)→l .bits=some (.str (aL B))→
 ∃l' h' B' uz,bD (fun h=>bV (Cn (aj S) fuel (k+2)) h (some (.ref ro)) all) (fun v l h=>ay (Cn (aj S) fuel (k+2)) nQ (l.set .row v) h) (refs.map .ref) l h=some (.next,l',h')∧Rows w al ((done++refs).map f) B' uz∧bw uz w∧l' .bits=some (.str (aL B'))∧B'.length≤(done++refs).length*(60*w+68)∧
  (∀n,n≠ .row→n≠ .codes→n≠ .told→n≠ .bits→n≠ .above→l' n=l n)∧h.n≤h'.n∧ ∀i,i<h.n→h'.o i=h.o i
 |[],done,l,h,a,B,above,t,hS,hd,ho,lo,RR,Q,hR,ha,la,hB,m2,m3,m4,m5,m6,m7,m8=>by
  refine⟨l,h,B,above,wT ?_,by rwa[List.append_nil],Q,m8,by rwa[List.append_nil],fun _ _ _ _ _ _=>rfl,Nat.le_refl _,fun _ _=>rfl⟩
  exact fQ ho
 |r::refs,done,l,h,a,B,above,t,hS,hd,ho,lo,RR,Q,hR,ha,la,hB,m2,m3,m4,m5,m6,m7,m8=>by
  rw[List.length_cons]at hd
  have r1:=hR r (.head _)
  have PL:done.length*(60*w+68)≤300000:=by
   have:=Nat.mul_le_mul (show done.length≤2 by trace"caBApa3klB2kli hd") (show 60*w+68≤34568 by trace"baA575klA60m68ka34568kli hw")
   trace"baA34568k2mlA300000kli this"
  refine EP (PK (k:=k) (l:=l.set .row (.ref r)) (wi:=wi) (al:=al) (t:=t) (B:=B) (hS (by simp)) hf hw r1.ok Q rfl (by rw[bu,if_neg (by decide)];exact m2) (by rw[bu,if_neg (by decide)];exact m3) (by rw[bu,if_neg (by decide)];exact m4) (by rw[bu,if_neg (by decide)];exact m5) (by rw[bu,if_neg (by decide)];exact m6) (by rw[bu,if_neg (by decide)];exact m7) (by rw[bu,if_neg (by decide)];exact m8) (by trace"caBAlA300000klB300000klii hB PL") r1.ob ha r1.lt la) fun h1 cs t' cr e Ln ln n1 k1=> ?_
  have hm:(done++[r]).length=done.length+1:=by rw[List.length_append];rfl
  have ml:(done.length+1)*(60*w+68)=done.length*(60*w+68)+(60*w+68):=Nat.succ_mul _ _
  obtain⟨l1,ci⟩: ∃l1:L,l1=(((((l.set .row (.ref r)).set .bits (.str (aL (cj al B)))).set .codes (.ref cr)).set .told (.int t')).set .bits (.str (aL (cj al B++cs.flatten)))).set .above (.ref r):=⟨_,rfl⟩
  have lk: ∀n,n≠ .row→n≠ .codes→n≠ .told→n≠ .bits→n≠ .above→l1 n=l n:=fun n a b c d e=>by
   rw[ci]
   simp only[bu,a,b,c,d,e,if_false]
  rw[←ci]at e
  refine uN (Ed hf hw all refs (done++[r]) l1 h1 r (cj al B++cs.flatten) (f r) t' (fun _=>hS (by simp)) (by rw[hm];trace"daCBpa3klACpeCpBa3klii hd hm") (by rw[k1 _ lo];exact ho) (by trace"daCpBlBAlCpAlii lo n1") (by rw[List.map_append];exact RR.snoc r1.ok Ln) r1.ok (fun i hi=>(hR i (.tail _ hi)).mono n1 k1) (by rw[k1 _ r1.lt];exact r1.ob) (Nat.lt_of_lt_of_le r1.lt n1) (by rw[hm,ml];trace"faEDlCEB60ma68kalADB60m68kaaeCDB60m68kaaliii hB ln ml") (by rw[ci];rfl)
   ((lk _ (by decide) (by decide) (by decide) (by decide) (by decide)).trans m3) ((lk _ (by decide) (by decide) (by decide) (by decide) (by decide)).trans m4) ((lk _ (by decide) (by decide) (by decide) (by decide) (by decide)).trans m5) (by rw[ci];rfl) ((lk _ (by decide) (by decide) (by decide) (by decide) (by decide)).trans m7) (by rw[ci];rfl)) fun l' h' B' uz g1 g2 g3 g4 g5 g6 g7 g8=> ?_
  rw[List.append_assoc,List.singleton_append]at g2 g5
  refine⟨l',h',B',uz,(Ci (fQ ho) e).trans g1,g2,g3,g4,g5,fun n a b c d e=> ?_,by trace"daCBlBAlCAlii n1 g7",fun i hi=>by rw[g8 i (by trace"daCBlApClApBlii n1 hi"),k1 i hi]⟩
  rw[g6 n a b c d e,lk n a b c d e]
theorem Ee{l:L}{f:Nat→List Nat}{bl:Bool}{ro:Nat}{all:List V}(hw:1≤w∧w≤575)(ho:h.o ro=some (.list all))(m1:l .width=some (.int (w:Int)))(m2:l .black=some (.bool bl)): ∀(refs:List Nat)(acc:List V),(∀i∈refs,Rw f h w i)→
 cq (Cn (aj S) fuel (k+1)) (fun v=>ev (Cn (aj S) fuel (k+1)) (L.set l .row v) (.call (.glob .iS) (.cons (.loc .row) (.cons (.loc .width) (.cons (.loc .black) .nil))) [])) (fun _ h=>some (true,h)) (some (.ref ro)) all (refs.map .ref) acc h=some (acc.reverse++refs.map (fun i=> .bytes (dj w bl (f i))),h)
 |[],acc,_=>by
  have:bV (Cn (aj S) fuel (k+1)) h (some (.ref ro)) all=true:=fQ ho
  simp only[List.map_nil,cq,this,if_true,List.append_nil]
 |r::refs,acc,hR=>by
  have lv:bV (Cn (aj S) fuel (k+1)) h (some (.ref ro)) all=true:=fQ ho
  have r1:=hR r (.head _)
  have o:=OJ (fuel:=fuel) (n:=k) (h:=h) (r:=r) (w:=w) (row:=f r) (v:=fB (f r) w) (black:=bl) (aj S) r1.ok (by trace"ba1kAlA575kln1kAlA600klni hw") r1.ob (Pv r1.ok) (Pw _ _)
  have e:ev (Cn (aj S) fuel (k+1)) (l.set .row (.ref r)) (.call (.glob .iS) (.cons (.loc .row) (.cons (.loc .width) (.cons (.loc .black) .nil))) []) h=some (.bytes (dj w bl (f r)),h):=
   eV (cD rfl) (aT (aa rfl) (aT (aa (by rw[bu,if_neg (by decide)];exact m1)) (aT (aa (by rw[bu,if_neg (by decide)];exact m2)) bh))) o
  simp only[List.map_cons,cq,lv,if_true,e]
  rw[Ee hw ho m1 m2 refs _ fun i hi=>hR i (.tail _ hi)]
  simp
theorem Ef: ∀(bs:List (List UInt8)),jD (bs.map .bytes)=some bs
 |[]=>rfl
 |b::bs=>by
  show Option.map _ (jD (bs.map .bytes))=_
  rw[Ef bs];rfl
theorem PM(w:Nat)(bl:Bool)(row:List Nat):(dj w bl row).length=(w+7)/8:=by simp[dj,rH,bigEndian]
noncomputable def Eg:X:=(.join (.bytes []) (.comp (.call (.glob .iS) (.cons (.loc .row) (.cons (.loc .width) (.cons (.loc .black) .nil))) []) .row (.val (.loc .rows))))
theorem PN{l:L}{f:Nat→List Nat}{bl:Bool}{ro:Nat}{refs:List Nat}(hw:1≤w∧w≤575)(ho:h.o ro=some (.list (refs.map .ref)))(m0:l .rows=some (.ref ro))(m1:l .width=some (.int (w:Int)))(m2:l .black=some (.bool bl))(hl:refs.length≤3)(hR: ∀i∈refs,Rw f h w i):
 ev (Cn (aj S) fuel (k+1)) l Eg h=some (.bytes ((refs.map f).flatMap (dj w bl)),h.push (.list (refs.map fun i=> .bytes (dj w bl (f i))))):=by
 have g:=Ee (S:=S) (fuel:=fuel) (k:=k) hw ho m1 m2 refs [] hR
 have e:=wM (pd (aa m0) (by rw[j9,ho])) g (by rw[List.reverse_nil,List.nil_append,List.length_map];simp only[aU];trace"baA3klA16777216kli hl")
 rw[List.reverse_nil,List.nil_append]at e
 have fe:(refs.map fun i=>V.bytes (dj w bl (f i)))=(refs.map fun i=>dj w bl (f i)).map .bytes:=by rw[List.map_map];rfl
 have fl:(refs.map fun i=>dj w bl (f i)).flatten=(refs.map f).flatMap (dj w bl):=by rw[List.flatMap_map];rfl
 have ln: ∀refs:List Nat,(refs.map fun i=>dj w bl (f i)).flatten.length=refs.length*((w+7)/8):=fun refs=>by
  induction refs with
  |nil=>simp
  |cons r rs ih=>rw[List.map_cons,List.flatten_cons,List.length_append,ih,PM,List.length_cons,Nat.succ_mul];trace"eaCB8maA7kaeCp8klnBDaDBaei .d8"
 have bd:=Nat.mul_le_mul hl (show(w+7)/8≤72 by trace"da1kBlB575klnCA8maB7kaeCp8klnA72klii hw .d8")
 have j:=PI (C:=Cn (aj S) fuel (k+1)) (l:=l) (x:= .bytes []) (ss:=refs.map fun i=>dj w bl (f i)) rfl e (by rw[j9,bB rfl];show jD _=_;rw[fe];exact Ef _) (by rw[ln];trace"baA72k3mlA16000000kli bd")
 rw[fl]at j
 exact j
end
section
variable{C:Cx}{l l1:L}{h h1 h2 h3:H}{x y z:X}{xs:XS}{v a b c:V}{vs:List V}{n m:Nm}
theorem PO(t:Int):0≤t.fmod 256∧t.fmod 256<256:=iI t (by decide)
theorem Eh: ∀ts:List Int,eF (ts.map fun t=>V.int (t.fmod 256))=some (ts.map fun t=>UInt8.ofNat (t.fmod 256).toNat)
 |[]=>rfl
 |t::ts=>by simp only[List.map_cons,eF,PO t,and_self,if_true,Eh ts,Option.map_some]
theorem Ei{src:Option V}{all:List V}(lv:bV C h src all=true): ∀(ts:List Int)(acc:List V),cq C (fun v=>ev C (L.set l .number v) (.bin .mod (.loc .number) (.int 256))) (fun _ h=>some (true,h)) src all (ts.map .int) acc h=some (acc.reverse++ts.map (fun t=> .int (t.fmod 256)),h)
 |[],acc=>by simp only[List.map_nil,cq,lv,if_true,List.append_nil]
 |t::ts,acc=>by
  have e:ev C (l.set .number (.int t)) (.bin .mod (.loc .number) (.int 256)) h=some (.int (t.fmod 256),h):=iL (aa rfl) (by decide)
  simp only[List.map_cons,cq,lv,if_true,e]
  rw[Ei lv ts]
  simp
end
noncomputable def pL(w:Nat):List (Nm×V):=[(.K,.int (-1)),(.lR,.int (w:Int))]
noncomputable def yg(al:Bool)(w:Nat):List (Nm×V):=if al then put .lS (.bool true) (pL w)else pL w
noncomputable def iN(al bl:Bool)(w:Nat):List (Nm×V):=if bl then put .lT (.bool true) (yg al w)else yg al w
noncomputable def rQ(b:Bool):Option Bool:=if b then some true else none
theorem Ej(b:Bool):(rQ b).getD false=b:=by induction b<;>rfl
theorem PP(al bl:Bool)(w:Nat):own .K (iN al bl w)=some (.int (-1))∧own .lR (iN al bl w)=some (.int (w:Int))∧(own .lS (iN al bl w)).getD .none=bv (rQ al)∧(own .lT (iN al bl w)).getD .none=bv (rQ bl)∧(iN al bl w).length≤400∧ ∀k,own .K (put .K (.int k) (iN al bl w))=some (.int k):=by
 induction al<;>induction bl<;>exact⟨rfl,rfl,rfl,rfl,Nat.le_of_ble_eq_true rfl,fun _=>rfl⟩
noncomputable def yh(r:SS):SS:=(.cons (.assign .params (.dict [.K,.lR] (.cons (.neg (.int 1)) (.cons (.loc .width) .nil))))
 (.cons (.ifs (.tr (.loc .align))
 (.cons (.fI (.loc .params) .lS (.bool true))
 .nil)
 .nil)
 (.cons (.ifs (.tr (.loc .black))
 (.cons (.fI (.loc .params) .lT (.bool true))
 .nil)
 .nil) r)))
noncomputable def Ek:X:=(.bz (.cmp .eq (.loc .dD) (.int 1)) (.bin .add (.call (.glob .eC) (.cons (.bin .add (.loc .bits) (.glob .jz)) .nil) []) (.bytesOf (.comp (.bin .mod (.loc .number) (.int 256)) .number (.val (.eP (.loc .ak) (.int 9)))))) (.call (.glob .eC) (.cons (.loc .bits) .nil) []))
noncomputable def uA:X:=(.call (.glob .gI) (.cons (.loc .data) (.cons (.loc .params) .nil)) [])
noncomputable def uB:SS:=yh
 (.cons (.assign .data Ek)
 (.cons (.assign .got uA)
 (.cons (.ifs (.or (.cons (.not (.tr (.fG (.loc .got) .bytes))) (.cons (.cmp .ne (.loc .got) (.loc .cw)) .nil)))
 (.cons (.ret (.bool false))
 .nil)
 .nil)
 (.cons (.fI (.loc .params) .K (.bz (.cmp .ne (.loc .size) (.neg (.int 1))) (.loc .size) (.int 0)))
 (.cons (.eZ (.cons (.expr uA)
 .nil)
 (.cons (.gl .gG) [.lU true] .nil))
 (.cons (.ret (.bool false))
 .nil))))))
theorem El{l:L}{x:X}{xs:XS}{v:V}{vs:List V}(a:kH l x=some v)(b:gh l xs=some vs):gh l (.cons x xs)=some (v::vs):=by
 show(match kH l x,gh l xs with|some v,some vs=>some (v::vs)|_,_=>none)=_
 rw[a,b]
theorem PQ{C:Cx}{l:L}{h:H}{al bl:Bool}{w:Nat}(m1:l .align=some (.bool al))(m2:l .black=some (.bool bl))(m3:l .width=some (.int (w:Int))): ∃h',(∀r,ay C (yh r) l h=ay C r (l.set .params (.ref h.n)) h')∧h'.o h.n=some (.dict (iN al bl w))∧h'.n=h.n+1∧ ∀i,i<h.n→h'.o i=h.o i:=by
 have s1:ex C (.assign .params (.dict [.K,.lR] (.cons (.neg (.int 1)) (.cons (.loc .width) .nil)))) l h=some (.next,l.set .params (.ref h.n),h.push (.dict (pL w))):=
  aV (MK (vs:=[.int (-1),.int (w:Int)]) (El rfl (El m3 rfl)) ⟨by decide,rfl,by decide,by decide⟩)
 have k: ∀{h1:H}{es:List (Nm×V)}(n:Nm)(b:Bool)(q:Nm),(l.set .params (.ref h.n)) q=some (.bool b)→h1.o h.n=some (.dict es)→es.length≤400→h1.n=h.n+1→(∀i,i<h.n→h1.o i=h.o i)→
  ∃h2,ex C (.ifs (.tr (.loc q)) (.cons (.fI (.loc .params) n (.bool true)) .nil) .nil) (l.set .params (.ref h.n)) h1=some (.next,l.set .params (.ref h.n),h2)∧h2.o h.n=some (.dict (if b then put n (.bool true) es else es))∧h2.n=h.n+1∧ ∀i,i<h.n→h2.o i=h.o i:=by
  intro h1 es n b q e o z n1 f
  induction b with
  |true=>exact⟨_,bE (bG (aa e) rfl) (eL (B9 (k:=h.n) rfl (aa rfl) o z)),bU _ _ _,n1,fun i hi=>by rw[dN (by trace"caBpAlBAexi hi")];exact f i hi⟩
  |false=>exact⟨h1,bi (bG (aa e) rfl) rfl,o,n1,f⟩
 refine jw (k (h1:=h.push (.dict (pL w))) (es:=pL w) .lS al .align (by rw[bu,if_neg (by decide)];exact m1) (bB rfl) (by simp[pL]) (bN _ _) (fun i hi=>bM (by trace"caBpAlBAexi hi"))) fun h2 a1 a2 a3 a4=> ?_
 refine jw (k (h1:=h2) (es:=yg al w) .lT bl .black (by rw[bu,if_neg (by decide)];exact m2) a2 (by induction al<;>exact Nat.le_of_ble_eq_true rfl) a3 a4) fun h3 b1 b2 b3 b4=> ?_
 refine⟨h3,fun r=> ?_,b2,b3,b4⟩
 unfold yh
 rw[bI s1,bI a1,bI b1]
section
variable{S:List Int}{fuel k w:Nat}{h:H}{l:L}
theorem uC{B:List Bool}{x:X}(e:ev (Cn (aj S) fuel (k+1)) l x h=some (.str (aL B),h))(hB:B.length≤90000): ∃h',ev (Cn (aj S) fuel (k+1)) l (.call (.glob .eC) (.cons x .nil) []) h=some (.bytes (eu B),h')∧h.n≤h'.n∧ ∀i,i<h.n→h'.o i=h.o i:=
 ⟨_,eV (a:= .fn .eC) (cD rfl) (aT e bh) (Dg (fuel:=fuel) (n:=k) (h:=h) (aj S) B hB),Nat.le_succ _,fun i hi=>bM (by trace"caBpAlBAexi hi")⟩
theorem Em:glob .jz=some (.str (aL eN)):=rfl
theorem En(B:List Bool):(eu B).length≤B.length+1:=by
 unfold eu
 rw[List.length_map]
 have e:8*((cg B).length/8)≤(cg B).length:=by trace"daCA8maBeCp8klnA8mBli .d8"
 rw[(ul _ _ e).2]
 unfold cg
 rw[List.length_append,List.length_replicate]
 trace"iaAG8maHFaeAp8klnFB8maDeFp8klnE8klDEa8ken8kElD0kenoEC8maHeEp8klnGHpliiii .d8 .d8 .s .d8"
theorem PR{B:List Bool}(m:l .bits=some (.str (aL B)))(hB:B.length≤80000):ev (Cn (aj S) fuel k) l (.bin .add (.loc .bits) (.glob .jz)) h=some (.str (aL (B++eN)),h):=by
 refine aS (aa m) (cD Em) ?_
 rw[lm,if_pos (by rw[cT,cT];simp only[aU,eN,List.length_cons,List.length_nil];trace"baA80000klA0kppppppppppppppppppppppppa16777216kli hB"),kh]
theorem PS(m:l .ak=some (.b7 .ak)): ∃ys h',ev (Cn (aj S) fuel k) l (.bytesOf (.comp (.bin .mod (.loc .number) (.int 256)) .number (.val (.eP (.loc .ak) (.int 9))))) h=some (.bytes ys,h')∧ys.length≤9∧h.n≤h'.n∧ ∀i,i<h.n→h'.o i=h.o i:=by
 have cm:be (S.map V.int) 0 9=(be S 0 9).map .int:=by simp[be,List.map_take]
 have uD:(be S 0 9).length≤9:=by simp[be];trace"ca9kBlA9kenB9klABenoA9kli .m"
 have e:ev (Cn (aj S) fuel k) l (.eP (.loc .ak) (.int 9)) h=some (.ref h.n,h.push (.list ((be S 0 9).map .int))):=by
  refine tK (aa m) am ?_
  have:eD (Cn (aj S) fuel k) h (.b7 .ak) none (some 9)=cy h (be ((Cn (aj S) fuel k).cl .ak) 0 9):=rfl
  rw[this,gX,cm,cy,if_pos (by rw[List.length_map];simp only[aU];trace"baA9klA16777216kli uD")]
 have it:(Cn (aj S) fuel k).items (h.push (.list ((be S 0 9).map .int))) (.ref h.n)=some ((be S 0 9).map .int):=by rw[j9,bB rfl]
 have g:=Ei (C:=Cn (aj S) fuel k) (l:=l) (h:=h.push (.list ((be S 0 9).map .int))) (src:=some (.ref h.n)) (all:=(be S 0 9).map .int) (fQ (bB rfl)) (be S 0 9) []
 rw[List.reverse_nil,List.nil_append]at g
 have c:=wM (pd e it) g (by rw[List.length_map];simp only[aU];trace"baA9klA16777216kli uD")
 refine⟨_,_,wL c (by rw[j9,bB rfl];exact Eh _) (by rw[List.length_map];simp only[aU];trace"baA9klA16777216kli uD"),by rw[List.length_map];exact uD,by simp only[bN];trace"baAAppl",fun i hi=> ?_⟩
 rw[bM (by simp only[bN];trace"caBpAlBApexi hi"),bM (by trace"caBpAlBAexi hi")]
noncomputable def rR(cl:CL→List V)(fuel w:Nat)(al rev:Option Bool)(B:List Bool)(cw:List UInt8):Prop:=(∃d',dh cl fuel (fresh w al rev) (eu B) d' .go∧d'.buf=cw)∧(∃d',dh cl fuel (fresh w al rev) (eu (B++eN)) d' .stop∧d'.buf=cw)∧
 ∀i,i<13→ ∃d',dh cl fuel (fresh w al rev) (eu (B++fz i)) d' (.bad .cv)∧d'.buf=cw
theorem PT{B:List Bool}{cw:List UInt8}{al rev:Option Bool}{en:Int}(F:rR (aj S) fuel w al rev B cw)(m1:l .dD=some (.int en))(m2:l .bits=some (.str (aL B)))(m3:l .ak=some (.b7 .ak))(hB:B.length≤80000):
 ∃data h' d' s,ev (Cn (aj S) fuel (k+1)) l Ek h=some (.bytes data,h')∧Bytes (aj S) fuel (fresh w al rev) data d' s∧(∀c,s≠ .bad c)∧d'.buf=cw∧h.n≤h'.n∧ ∀i,i<h.n→h'.o i=h.o i:=by
 by_cases q:en=1
 ·subst q
  refine aA F.2.1 fun d' f bf=> ?_
  refine ck (uC (k:=k) (fuel:=fuel) (S:=S) (B:=B++eN) (PR (h:=h) m2 hB) (by rw[List.length_append];simp only[eN,List.length_cons,List.length_nil];trace"baA80000klA0kppppppppppppppppppppppppa90000kli hB")) fun h1 e1 n1 k1=> ?_
  refine rV (PS (S:=S) (fuel:=fuel) (k:=k+1) (h:=h1) (l:=l) m3) fun ys h2 e2 ly n2 k2=> ?_
  refine⟨_,h2,d',.stop,gS (aJ (aa m1) am rfl) (aS e1 e2 ?_),f.bytes.more rfl ys,fun c e=>(by cases e),bf,by trace"daCBlBAlCAlii n1 n2",fun i hi=>by rw[k2 i (by trace"daCBlApClApBlii n1 hi"),k1 i hi]⟩
  have:=En (B++eN)
  rw[List.length_append]at this
  have le:eN.length=24:=rfl
  rw[Nb,if_pos (by simp only[aU];trace"eaB80000klC9klDBAaplA24keDCa16777216kliiii hB ly this le")]
 ·refine aA F.1 fun d' f bf=> ?_
  refine ck (uC (k:=k) (fuel:=fuel) (S:=S) (B:=B) (aa (h:=h) m2) (by trace"baA80000klA90000kli hB")) fun h1 e1 n1 k1=> ?_
  refine⟨_,h1,d',.go,gT (aJ (aa m1) am ?_) e1,f.bytes,fun c e=>(by cases e),bf,n1,k1⟩
  rw[ph,wY]
  simp[q]
theorem PU{B:List Bool}{cw:List UInt8}{al bl:Bool}{en sz:Int}(hw:1≤w∧w≤575)(F:rR (aj S) fuel w (rQ al) (rQ bl) B cw)(m1:l .dD=some (.int en))(m2:l .bits=some (.str (aL B)))(m3:l .ak=some (.b7 .ak))(m4:l .align=some (.bool al))(m5:l .black=some (.bool bl))(m6:l .width=some (.int (w:Int)))(m7:l .cw=some (.bytes cw))(m8:l .size=some (.int sz))(hB:B.length≤80000):
 ∃l' h',ay (Cn (aj S) fuel (k+6)) uB l h=some (.ret (.bool true),l',h'):=by
 refine jw (PQ (C:=Cn (aj S) fuel (k+6)) (h:=h) m4 m5 m6) fun h1 p1 p2 p3 p4=> ?_
 obtain⟨l1,ci⟩: ∃l1:L,l1=l.set .params (.ref h.n):=⟨_,rfl⟩
 have lk: ∀{n v},l n=some v→n≠ .params→l1 n=some v:=fun e q=>by rw[ci,bu,if_neg q];exact e
 refine EQ (PT (k:=k+5) (h:=h1) (l:=l1) F (lk m1 (by decide)) (lk m2 (by decide)) (lk m3 (by decide)) hB) fun data h2 d' s e2 f hs bf n2 k2=> ?_
 have o2:h2.o h.n=some (.dict (iN al bl w)):=by rw[k2 _ (by trace"caBApeApBli p3")];exact p2
 refine EN (PP al bl w) fun w1 w2 w3 w4 w5 w6=> ?_
 refine ck (Oh (n:=k) (h:=h2) o2 w1 w2 w3 w4 (by trace"ba1kAlA575kln1kAlA1000klni hw") f hs) fun h3 e3 n3 k3=> ?_
 obtain⟨l2,cV⟩: ∃l2:L,l2=(l1.set .data (.bytes data)).set .got (.bytes d'.buf):=⟨_,rfl⟩
 have pM: ∀{n v},l n=some v→n≠ .params→n≠ .data→n≠ .got→l2 n=some v:=fun e a b c=>by rw[cV,bu,if_neg c,bu,if_neg b];exact lk e a
 have par:(l1.set .data (.bytes data)) .params=some (.ref h.n):=by rw[ci];rfl
 have Eo:l2 .params=some (.ref h.n):=by rw[cV,ci];rfl
 have PV:l2 .data=some (.bytes data):=by rw[cV];rfl
 have o3:h3.o h.n=some (.dict (iN al bl w)):=by rw[k3 _ (by trace"daCApeCBlApBlii p3 n2")];exact o2
 obtain⟨kv,e4,kn⟩: ∃kv:Int,ev (Cn (aj S) fuel (k+6)) l2 (.bz (.cmp .ne (.loc .size) (.neg (.int 1))) (.loc .size) (.int 0)) h3=some (.int kv,h3)∧kv≠ -1:=by
  have m:=pM m8 (by decide) (by decide) (by decide)
  by_cases q:sz= -1
  ·exact⟨0,gT (aJ (aa m) (gR am) (by rw[tX,CA,q];rfl)) am,by decide⟩
  ·refine⟨sz,gS (aJ (aa m) (gR am) ?_) (aa m),q⟩
   rw[tX,CA];simp[q]
 obtain⟨h4,Ep⟩: ∃h4:H,h4=h3.set h.n (.dict (put .K (.int kv) (iN al bl w))):=⟨_,rfl⟩
 have o4:h4.o h.n=some (.dict (put .K (.int kv) (iN al bl w))):=by rw[Ep];exact bU _ _ _
 have bad:=Oi (cl:=aj S) (fuel:=fuel) (n:=k) (data:=data) o4 (w6 kv) kn
 refine⟨l2,h4,?_⟩
 unfold uB
 have s3:ex (Cn (aj S) fuel (k+6)) (.ifs (.or (.cons (.not (.tr (.fG (.loc .got) .bytes))) (.cons (.cmp .ne (.loc .got) (.loc .cw)) .nil))) (.cons (.ret (.bool false)) .nil) .nil) l2 h3=some (.next,l2,h3):=by
  have g:l2 .got=some (.bytes d'.buf):=by rw[cV];rfl
  refine bi (MS (j6 (t:=true) (bG (BZ (aa g)) rfl)) (aJ (aa g) (aa (pM m7 (by decide) (by decide) (by decide))) ?_)) rfl
  rw[tX,Nf,bf];simp
 have s4:ex (Cn (aj S) fuel (k+6)) (.fI (.loc .params) .K (.bz (.cmp .ne (.loc .size) (.neg (.int 1))) (.loc .size) (.int 0))) l2 h3=some (.next,l2,h4):=by
  rw[Ep];exact B9 e4 (aa Eo) o3 w5
 have s5:ex (Cn (aj S) fuel (k+6)) (.eZ (.cons (.expr uA) .nil) (.cons (.gl .gG) [.lU true] .nil)) l2 h4=some (.ret (.bool true),l2,h4):=
  rc (Cd (Ce (MO (a:= .fn .gI) (cD rfl) (aT (aa PV) (aT (aa Eo) bh)) bad))) rfl rfl
 have PW:ev (Cn (aj S) fuel (k+6)) (l1.set .data (.bytes data)) uA h2=some (.bytes d'.buf,h3):=eV (a:= .fn .gI) (cD rfl) (aT (aa rfl) (aT (aa par) bh)) e3
 rw[p1,←ci,bI (aV e2),bI (aV PW),←cV,bI s3,bI s4,wW s5]
end
section
variable{C:Cx}{l l1:L}{h h1 h2 h3:H}{x y z:X}{xs:XS}{v a b c f:V}{vs first:List V}{n m:Nm}
end
theorem Er{h:H}{p:Nat}{d:PC}{S:Nat→Prop}(a:cZ h p d S):gf h (.ref p) .fC=some (.fn .fC,[.ref p]):=cR a fun _ _ _ a=>a.fn rfl
theorem Es{h:H}{p:Nat}{d:PC}{S:Nat→Prop}(a:cZ h p d S):gf h (.ref p) .close=some (.fn .close,[.ref p]):=cR a fun _ _ _ a=>a.fn rfl
theorem cZ.keep {h h':H} {p:Nat} {d:PC} {S:Nat→Prop} (a:cZ h p d S) (k: ∀i,S i→h'.o i=h.o i) (n:h.n≤h'.n):cZ h' p d S:=by
 refine cR a fun c r q a=> ?_
 exact⟨c,r,q,by rw[k _ a.sp];exact a.ob,by rw[k _ a.sc];exact a.cu,by rw[k _ a.sr];exact a.re,by rw[k _ a.sa];exact a.ac,a.sp,a.sc,a.sr,a.sa,a.ne,fun i hi=>Nat.lt_of_lt_of_le (a.lt i hi) n,a.ex,a.wd⟩
theorem cZ.lt {h:H} {p:Nat} {d:PC} {S:Nat→Prop} (a:cZ h p d S): ∀i,S i→i<h.n:=by
 refine cR a fun c r q a=> ?_
 exact a.lt
structure fX(h:H)(p:Nat)(d:PC)(P:Nat→Prop)(q:Nat)(e:PC)(Q:Nat→Prop):Prop where
 a:cZ h p d P
 b:cZ h q e Q
 no: ∀i,P i→ ¬Q i
theorem fX.left {h h':H} {p q:Nat} {d e d':PC} {P Q:Nat→Prop} (t:fX h p d P q e Q) (D:bO h p P d' h'):fX h' p d' (grow P h h') q e Q:=by
 refine⟨D.1,t.b.keep (fun i hi=>D.2.2 i (t.b.lt i hi) fun x=>t.no i x hi) D.2.1,fun i x y=> ?_⟩
 rcases x with x|x
 ·exact t.no i x y
 ·have:=t.b.lt i y;trace"daCBlBpAlnBpClxi x this"
theorem fX.right {h h':H} {p q:Nat} {d e e':PC} {P Q:Nat→Prop} (t:fX h p d P q e Q) (D:bO h q Q e' h'):fX h' p d P q e' (grow Q h h'):=by
 refine⟨t.a.keep (fun i hi=>D.2.2 i (t.a.lt i hi) fun x=>t.no i hi x) D.2.1,D.1,fun i x y=> ?_⟩
 rcases y with y|y
 ·exact t.no i x y
 ·have:=t.a.lt i x;trace"daCBlBpAlnBpClxi y this"
theorem PX{cl:CL→List V}{fuel:Nat}(hf:1002≤fuel){buf:List UInt8}{e:PC}(hb:buf.length≤1000)(b:iJ 1 (some true) (some false) [] buf e): ∃e',Bytes cl fuel e [128] e' .go∧iJ 1 (some true) (some false) [] (buf++[128]) e':=by
 have ok:bw [] 1:=⟨fun i j x y h=>by simp at h,fun i x h=>by simp at h,by simp⟩
 have L:er [] [] 1 (-1) 0 [iG 3]:= .rB (j:=0) (one:=1) (first:=1) (by decide) ⟨rfl,fun i _ h=>by trace"!faDCeEp0klCA2ma0keCp2klnDB2maEeDp2klnxiii _ h .d2 .d2",fun x h=>by simp at h⟩ rfl rfl (by decide) (by decide) (.done (by decide))
 refine aA (DO (cl:=cl) hf (by decide) ok ok (D7 (by decide) (some false) []) hb b L) fun e' f b'=> ?_
 have r:dj 1 ((some false:Option Bool).getD false) []=[128]:=by decide+kernel
 rw[r]at b'
 exact⟨_,.cons (.skip _ [false,false,false,false,false,false,false] (by decide) f) (.nil _),b'⟩
noncomputable def isBad:cF→Bool
 | .bad _=>true
 |_=>false
noncomputable def jr:SS:=(.cons (.expr (.bg (.loc .other) .fC (.cons (.bytes [128]) .nil) []))
 (.cons (.ifs (.not (.tr (.loc .refused)))
 (.cons (.eZ (.cons (.expr (.bg (.loc .parser) .fC (.cons (.loc .part) .nil) []))
 .nil)
 (.cons (.gl .gJ) [.setB .refused true] .nil))
 .nil)
 .nil)
 .nil))
section
variable{S:List Int}{fuel k w:Nat}{h:H}{l:L}{p q:Nat}
theorem PY{d d1 e e1:PC}{P Q:Nat→Prop}{ps:List UInt8}{rf:Bool}{s:cF}(m1:l .parser=some (.ref p))(m2:l .other=some (.ref q))(m3:l .refused=some (.bool rf))(m4:l .part=some (.bytes ps))(T:fX h p d P q e Q)(f:Bytes (aj S) fuel e [128] e1 .go)
 (g:rf=false→Bytes (aj S) fuel d ps d1 s) (hs: ∀c,s= .bad c→c= .cv) (hd:rf=true→d1=d):
 ∃l' h' P' Q',ay (Cn (aj S) fuel (k+5)) jr l h=some (.next,l',h')∧fX h' p d1 P' q e1 Q'∧l' .refused=some (.bool (rf||isBad s&& !rf))∧ ∀n,n≠ .refused→l' n=l n:=by
 refine aA (xu (n:=k) f T.b) fun h1 f1 D1=> ?_
 have T1:=T.right D1
 have s1:ex (Cn (aj S) fuel (k+5)) (.expr (.bg (.loc .other) .fC (.cons (.bytes [128]) .nil) [])) l h=some (.next,l,h1):=
  tT (nj (aa m2) (Er T.b) (aT rfl bh) f1)
 induction rf with
 |true=>
  have:=hd rfl
  subst this
  refine⟨l,h1,_,_,?_,T1,m3,fun _ _=>rfl⟩
  unfold jr
  rw[bI s1]
  exact eL (bi (j6 (t:=true) (bG (aa m3) rfl)) rfl)
 |false=>
  refine aA (xu (n:=k) (g rfl) T1.a) fun h2 f2 D2=> ?_
  have T2:=T1.left D2
  have cc:=Er T1.a
  induction s with
  |go=>
   refine⟨l,h2,_,_,?_,T2,m3,fun _ _=>rfl⟩
   unfold jr
   rw[bI s1]
   exact eL (bE (j6 (t:=false) (bG (aa m3) rfl)) (eL (wU (eL (tT (nj (aa m1) cc (aT (aa m4) bh) f2))))))
  |stop=>
   refine⟨l,h2,_,_,?_,T2,m3,fun _ _=>rfl⟩
   unfold jr
   rw[bI s1]
   exact eL (bE (j6 (t:=false) (bG (aa m3) rfl)) (eL (wU (eL (tT (nj (aa m1) cc (aT (aa m4) bh) f2))))))
  |bad c=>
   have:=hs c rfl
   subst this
   refine⟨l.set .refused (.bool true),h2,_,_,?_,T2,rfl,fun n hn=>by rw[bu,if_neg hn]⟩
   unfold jr
   rw[bI s1]
   refine eL (bE (j6 (t:=false) (bG (aa m3) rfl)) (eL (rc (Cd (Ce (o0 (aa m1) cc (aT (aa m4) bh) f2))) rfl ?_)))
   rfl
theorem PZ(hf:1002≤fuel){dd:PC}{ss:cF}(hs: ∀c,ss= .bad c→c= .cv): ∀(parts:List (List UInt8)){l:L}{h:H}{d e:PC}{P Q:Nat→Prop}{rf:Bool}{buf:List UInt8}{s:cF},l .parser=some (.ref p)→l .other=some (.ref q)→l .refused=some (.bool rf)→fX h p d P q e Q→iJ 1 (some true) (some false) [] buf e→buf.length+parts.length≤1000→
 (rf=false→dh (aj S) fuel d parts.flatten dd s∧ ∀c,s= .bad c↔ss= .bad c)→(rf=true→d=dd∧isBad ss=true)→
 ∃l' h' P' Q' e',bD (fun h=>bV (Cn (aj S) fuel (k+5)) h none (parts.map .bytes)) (fun v l h=>ay (Cn (aj S) fuel (k+5)) jr (l.set .part v) h) (parts.map .bytes) l h=some (.next,l',h')∧fX h' p dd P' q e' Q'∧e'.buf=buf++List.replicate parts.length 128∧l' .refused=some (.bool (isBad ss))∧ ∀n,n≠ .refused→n≠ .part→l' n=l n:=by
 have go: ∀(all:List V)(parts:List (List UInt8)){l:L}{h:H}{d e:PC}{P Q:Nat→Prop}{rf:Bool}{buf:List UInt8}{s:cF},l .parser=some (.ref p)→l .other=some (.ref q)→l .refused=some (.bool rf)→fX h p d P q e Q→iJ 1 (some true) (some false) [] buf e→buf.length+parts.length≤1000→
  (rf=false→dh (aj S) fuel d parts.flatten dd s∧ ∀c,s= .bad c↔ss= .bad c)→(rf=true→d=dd∧isBad ss=true)→
  ∃l' h' P' Q' e',bD (fun h=>bV (Cn (aj S) fuel (k+5)) h none all) (fun v l h=>ay (Cn (aj S) fuel (k+5)) jr (l.set .part v) h) (parts.map .bytes) l h=some (.next,l',h')∧fX h' p dd P' q e' Q'∧e'.buf=buf++List.replicate parts.length 128∧l' .refused=some (.bool (isBad ss))∧ ∀n,n≠ .refused→n≠ .part→l' n=l n:=by
  intro all parts
  induction parts with
  |nil=>
   intro l h d e P Q rf buf s m1 m2 m3 T b hl g1 g2
   induction rf with
   |true=>
    obtain⟨rfl,i⟩:=g2 rfl
    exact⟨l,h,P,Q,e,wT rfl,T,by rw[b.buf];simp,by rw[i];exact m3,fun _ _ _=>rfl⟩
   |false=>
    obtain⟨x,y⟩:=g1 rfl
    cases x with
    |nil=>
     have:isBad ss=false:=by
      induction ss with
      |bad c=>have:=(y c).mpr rfl;cases this
      |go=>rfl
      |stop=>rfl
     exact⟨l,h,P,Q,e,wT rfl,T,by rw[b.buf];simp,by rw[this];exact m3,fun _ _ _=>rfl⟩
  |cons pt parts ih=>
   intro l h d e P Q rf buf s m1 m2 m3 T b hl g1 g2
   rw[List.length_cons]at hl
   refine aA (PX (cl:=aj S) hf (by trace"caBApa1000klB1000kli hl") b) fun e1 f b1=> ?_
   have hb:(buf++[128]).length+parts.length≤1000:=by rw[List.length_append,List.length_singleton];trace"caABpa1000klApBa1000kli hl"
   have P0: ∀n,(buf++[128])++List.replicate n (128:UInt8)=buf++List.replicate (n+1) 128:=fun n=>by rw[List.append_assoc,List.replicate_succ];rfl
   have fin: ∀{d1:PC}{s1 s2:cF},(rf=false→Bytes (aj S) fuel d pt d1 s1)→(∀c,s1= .bad c→c= .cv)→(rf=true→d1=d)→
    ((rf||isBad s1&& !rf)=false→dh (aj S) fuel d1 parts.flatten dd s2∧ ∀c,s2= .bad c↔ss= .bad c)→((rf||isBad s1&& !rf)=true→d1=dd∧isBad ss=true)→
    ∃l' h' P' Q' e',bD (fun h=>bV (Cn (aj S) fuel (k+5)) h none all) (fun v l h=>ay (Cn (aj S) fuel (k+5)) jr (l.set .part v) h) ((pt::parts).map .bytes) l h=some (.next,l',h')∧fX h' p dd P' q e' Q'∧e'.buf=buf++List.replicate (pt::parts).length 128∧l' .refused=some (.bool (isBad ss))∧ ∀n,n≠ .refused→n≠ .part→l' n=l n:=by
    intro d1 s1 s2 a1 a2 a3 a4 a5
    refine uM (PY (k:=k) (l:=l.set .part (.bytes pt)) (by rw[bu,if_neg (by decide)];exact m1) (by rw[bu,if_neg (by decide)];exact m2) (by rw[bu,if_neg (by decide)];exact m3) rfl T f a1 a2 a3) fun l1 h1 P1 Q1 t1 T1 t2 t3=> ?_
    refine yt (ih (by rw[t3 _ (by decide),bu,if_neg (by decide)];exact m1) (by rw[t3 _ (by decide),bu,if_neg (by decide)];exact m2) t2 T1 b1 hb a4 a5) fun l2 h2 P2 Q2 e2 u1 u2 u3 u4 u5=> ?_
    refine⟨l2,h2,P2,Q2,e2,(Ci rfl t1).trans u1,u2,by rw[u3,P0];rfl,u4,fun n x y=> ?_⟩
    rw[u5 n x y,t3 n x,bu,if_neg y]
   induction rf with
   |true=>
    obtain⟨rfl,i⟩:=g2 rfl
    exact fin (d1:=d) (s1:= .go) (s2:= .go) (fun q=>by cases q) (fun c q=>by cases q) (fun _=>rfl) (fun q=>by cases q) (fun _=>⟨rfl,i⟩)
   |false=>
    obtain⟨x,y⟩:=g1 rfl
    rw[List.flatten_cons]at x
    rcases dh.split pt x with⟨d1,s1,h1,h2,s2,h3,h4⟩|⟨c,rfl,h1⟩
    ·have nb:isBad s1=false:=by rcases h1 with rfl|rfl<;>rfl
     refine fin (fun _=>h2) (fun c q=> ?_) (fun q=>by cases q) (fun _=>⟨h3,fun c=>(h4 c).trans (y c)⟩) (fun q=> ?_)
     ·rcases h1 with rfl|rfl<;>cases q
     ·rw[nb]at q;cases q
    ·have Et:=(y c).mp rfl
     exact fin (s2:= .go) (fun _=>h1) (fun c' q=>by cases q;exact hs c Et) (fun q=>by cases q) (fun q=>by cases q) (fun _=>⟨rfl,by rw[Et];rfl⟩)
 intro parts
 exact go _ parts
end
noncomputable def km:X:=(.call (.glob .hK) .nil [])
noncomputable def Eu:CC.S:=(.ifs (.cmp .eq (.loc .dD) (.int 4))
 (.cons (.assign .data (.call (.glob .eC) (.cons (.bin .add (.loc .bits) (.sub km (.bin .mod (.loc .size) (.len km)))) .nil) []))
 .nil)
 (.cons (.assign .data (.call (.glob .eC) (.cons (.bin .add (.loc .bits) (.bz (.cmp .eq (.loc .dD) (.int 3)) (.glob .jz) (.str []))) .nil) []))
 .nil))
noncomputable def Ev:X:=(.bz (.tr (.loc .ak)) (.bin .mod (.sub (.loc .ak) (.int 0)) (.bin .add (.len (.loc .data)) (.int 1))) (.int 0))
noncomputable def Ew:X:=(.bin .add (.loc .first) (.bin .mod (.loc .size) (.bin .add (.bin .sub (.len (.loc .data)) (.loc .first)) (.int 1))))
noncomputable def Ey:X:=(.and (.cons (.cmp .eq (.loc .refused) (.cmp .eq (.loc .dD) (.int 4))) (.cons (.fG (.loc .got) .bytes) (.cons (.cmp .eq (.loc .got) (.loc .cw)) (.cons (.cmp .eq (.bg (.loc .other) .close .nil []) (.bytes [128,128,128])) .nil)))))
noncomputable def uE:SS:=(.cons (.assign .parser (.call (.glob .ao) (.cons (.loc .width) (.cons (.loc .align) (.cons (.loc .black) .nil))) []))
 (.cons Eu
 (.cons (.assign .first Ev)
 (.cons (.assign .second Ew)
 (.cons (.assign .refused (.bool false))
 (.cons (.assign .other (.call (.glob .ao) (.cons (.int 1) (.cons (.bool true) .nil)) []))
 (.cons (.bK .part (.tup (.cons (.eP (.loc .data) (.loc .first)) (.cons (.fE (.loc .data) (.loc .first) (.loc .second)) (.cons (.fF (.loc .data) (.loc .second)) .nil)))) jr)
 (.cons (.assign .got (.bg (.loc .parser) .close .nil []))
 (.cons (.ret Ey)
 .nil)))))))))
noncomputable def uF:SS:=(.cons ye
 (.cons (.assign .cw Eg)
 (.cons (.ifs (.cmp .lt (.loc .dD) (.int 2)) uB .nil) uE)))
theorem P3:pX=yb (.cons uy
 (.cons (.assign .bits (.str []))
 (.cons (.assign .told (.int 0))
 (.cons (.assign .above (.list .nil))
 (.cons (.bK .row (.val (.loc .rows)) nQ) uF))))):=rfl
theorem P4{α:Type}(xs:List α){a b:Nat}(h1:a≤b)(h2:b≤xs.length):[be xs 0 a,be xs a b,be xs b xs.length].flatten=xs:=by
 have e:xs.take b=xs.take a++(xs.take b).drop a:=by
  have:=List.take_append_drop a (xs.take b)
  rw[List.take_take,Nat.min_eq_left h1]at this
  exact this.symm
 simp only[be,List.drop_zero,List.flatten_cons,List.flatten_nil,List.append_nil,List.take_length]
 rw[←List.append_assoc,←e,List.take_append_drop]
theorem P5: ∀i,i<13→(fz i).length≤26:=by decide+kernel
section
variable{S:List Int}{fuel k w:Nat}{h:H}{l:L}
theorem yi(C:Cx)(h:H)(s:List UInt8)(l u:Option Int)(a:0≤l.getD 0∧0≤u.getD 0∧l.getD 0<2^31∧u.getD 0<2^31)(b:s.length≤aU):eD C h (.bytes s) l u=some (.bytes (be s (l.getD 0).toNat ((u.map Int.toNat).getD s.length)),h):=by
 unfold eD uW
 rw[if_pos a]
 exact if_pos b
theorem P6{B:List Bool}{cw:List UInt8}{al rev:Option Bool}{en sz:Int}(F:rR (aj S) fuel w al rev B cw)(m1:l .dD=some (.int en))(m2:l .bits=some (.str (aL B)))(m3:l .size=some (.int sz))(hB:B.length≤80000)(e0:2≤en∧en<5):
 ∃data h' d' s,ex (Cn (aj S) fuel (k+1)) Eu l h=some (.next,l.set .data (.bytes data),h')∧dh (aj S) fuel (fresh w al rev) data d' s∧isBad s=(en==4)∧(∀c,s= .bad c→c= .cv)∧d'.buf=cw∧data.length≤90000∧h.n≤h'.n∧ ∀i,i<h.n→h'.o i=h.o i:=by
 have pl: ∀X:List Bool,X.length≤26→(eu (B++X)).length≤90000:=fun X hX=>by
  have:=En (B++X)
  rw[List.length_append]at this
  trace"daA80000klB26klCABaplC90000kliii hB hX this"
 by_cases q:en=4
 ·subst q
  have b:=iI sz (b:=13) (by decide)
  obtain⟨i,hi⟩: ∃i:Nat,(i:Int)=sz.fmod 13:=⟨(sz.fmod 13).toNat,by trace"bb0zUrUq13zrn0zUrAcUjnU0zrA0kenoAcUjii b .t"⟩
  have li:i<13:=by trace"bb0zUrUq13zrnAcUjAp13klii b hi"
  refine aA (F.2.2 i li) fun d' f bf=> ?_
  have bl:=P5 i li
  have n1:=C5 (fuel:=fuel) (n:=k) (h:=h) (aj S)
  have n2:=C5 (fuel:=fuel) (n:=k) (h:=h.push (.list dG)) (aj S)
  have e1:ev (Cn (aj S) fuel (k+1)) l km h=some (.ref h.n,h.push (.list dG)):=eV (a:= .fn .hK) (cD rfl) bh n1
  have e2:ev (Cn (aj S) fuel (k+1)) l km (h.push (.list dG))=some (.ref (h.n+1),(h.push (.list dG)).push (.list dG)):=eV (a:= .fn .hK) (cD rfl) bh n2
  have e3:ev (Cn (aj S) fuel (k+1)) l (.bin .mod (.loc .size) (.len km)) (h.push (.list dG))=some (.int (i:Int),(h.push (.list dG)).push (.list dG)):=by
   rw[hi]
   exact aS (aa m3) (iA (vs:=dG) e2 (by rw[j9,bB (h:=h.push (.list dG)) (j:=h.n+1) rfl])) ((gU _ _ _ _).trans (if_pos (by decide)))
  have e4:ev (Cn (aj S) fuel (k+1)) l (.sub km (.bin .mod (.loc .size) (.len km))) h=some (.str (aL (fz i)),(h.push (.list dG)).push (.list dG)):=by
   refine dz e1 e3 ?_
   rw[tY _ _ ((bM (by rw[bN];trace"baAApex")).trans (bB rfl))]
   show(if(0:Int)≤(i:Int)then dG[((i:Int)).toNat]? else none)=_
   rw[if_pos (by trace"bb0zUrUq13zrnAcUj0zAcrii b hi"),Int.toNat_natCast]
   exact Om i li
  have e5:ev (Cn (aj S) fuel (k+1)) l (.bin .add (.loc .bits) (.sub km (.bin .mod (.loc .size) (.len km)))) h=some (.str (aL (B++fz i)),(h.push (.list dG)).push (.list dG)):=by
   refine aS (aa m2) e4 ?_
   rw[lm,if_pos (by rw[cT,cT];simp only[aU];trace"caA80000klB26klABa16777216klii hB bl"),kh]
  have pk:=Dg (fuel:=fuel) (n:=k) (h:=(h.push (.list dG)).push (.list dG)) (aj S) (B++fz i) (by rw[List.length_append];trace"caA80000klB26klABa90000klii hB bl")
  refine⟨_,_,d',_,bE (aJ (aa m1) am rfl) (eL (aV (eV (a:= .fn .eC) (cD rfl) (aT e5 bh) pk))),f,rfl,fun c e=>by cases e;rfl,bf,pl _ bl,by simp only[bN];trace"baAApppl",fun j hj=> ?_⟩
  rw[bM (by simp only[bN];trace"caBpAlBAppexi hj"),bM (by simp only[bN];trace"caBpAlBApexi hj"),bM (by trace"caBpAlBAexi hj")]
 ·have q4:(en==4)=false:=by simp[q]
  by_cases q3:en=3
  ·subst q3
   refine aA F.2.1 fun d' f bf=> ?_
   have e5:ev (Cn (aj S) fuel (k+1)) l (.bin .add (.loc .bits) (.bz (.cmp .eq (.loc .dD) (.int 3)) (.glob .jz) (.str []))) h=some (.str (aL (B++eN)),h):=by
    refine aS (aa m2) (gS (aJ (aa m1) am rfl) (cD Em)) ?_
    rw[lm,if_pos (by rw[cT,cT];simp only[aU,eN,List.length_cons,List.length_nil];trace"baA80000klA0kppppppppppppppppppppppppa16777216kli hB"),kh]
   refine ck (uC (S:=S) (fuel:=fuel) (k:=k) e5 (by rw[List.length_append];simp only[eN,List.length_cons,List.length_nil];trace"baA80000klA0kppppppppppppppppppppppppa90000kli hB")) fun h1 e6 n6 k6=> ?_
   exact⟨_,h1,d',.stop,bi (aJ (aa m1) am rfl) (eL (aV e6)),f,rfl,fun c e=>(by cases e),bf,pl _ (by decide),n6,k6⟩
  ·refine aA F.1 fun d' f bf=> ?_
   have P7:(en==3)=false:=by simp[q3]
   have e5:ev (Cn (aj S) fuel (k+1)) l (.bin .add (.loc .bits) (.bz (.cmp .eq (.loc .dD) (.int 3)) (.glob .jz) (.str []))) h=some (.str (aL B),h):=by
    refine aS (aa m2) (gT (aJ (aa m1) am (by rw[ph,wY,P7])) rfl) ?_
    rw[lm,if_pos (by rw[cT];simp only[aU,List.length_nil];trace"baA80000klA0ka16777216kli hB"),List.append_nil]
   refine ck (uC (S:=S) (fuel:=fuel) (k:=k) e5 (by trace"baA80000klA90000kli hB")) fun h1 e6 n6 k6=> ?_
   have z:=pl [] (by decide)
   rw[List.append_nil]at z
   exact⟨_,h1,d',.go,bi (aJ (aa m1) am (by rw[ph,wY,q4])) (eL (aV e6)),f,q4.symm,fun c e=>(by cases e),bf,z,n6,k6⟩
theorem P8{data:List UInt8}{hd:Int}(hl:data.length≤90000)(m1:l .ak=some (.b7 .ak))(m2:l .data=some (.bytes data)): ∃a:Nat,ev (Cn (aj S) fuel k) l Ev h=some (.int (a:Int),h)∧a≤data.length:=by
 cases hS:S with
 |nil=>
  subst hS
  exact⟨0,gT (bG (aa m1) (by rw[pK,gX];rfl)) am,Nat.zero_le _⟩
 |cons z T=>
  subst hS
  have b:=iI z (b:=(data.length:Int)+1) (by trace"baA90000kl0zqAcqri hl")
  refine⟨(z.fmod ((data.length:Int)+1)).toNat,?_,by trace"cb0zUrUqBcqrn0zUrAcUjnU0zrA0kenoABlii b .t"⟩
  rw[Int.toNat_of_nonneg b.1]
  refine gS (bG (aa m1) (by rw[pK,gX];rfl)) (aS (a:= .int z) (dz (aa m1) am ?_) (aS (BW (aa m2) (by trace"baA90000klA1000000000kli hl")) am (pf _ _ _ _)) ((gU _ _ _ _).trans (if_pos (by trace"baA90000klAcq0zjxi hl"))))
  rw[rh,gX];rfl
theorem P9{data:List UInt8}{sz:Int}{a:Nat}(hl:data.length≤90000)(m1:l .first=some (.int (a:Int)))(m2:l .data=some (.bytes data))(m3:l .size=some (.int sz))(ha:a≤data.length): ∃b:Nat,ev (Cn (aj S) fuel k) l Ew h=some (.int (b:Int),h)∧a≤b∧b≤data.length:=by
 have b:=iI sz (b:=(data.length:Int)-a+1) (by trace"caABl0zqBcAcsqri ha")
 refine⟨a+(sz.fmod ((data.length:Int)-a+1)).toNat,?_,by trace"cb0zUrAcUjnU0zrA0kenoBBAali .t",by trace"db0zUrUqCcBcsqrn0zUrAcUjnU0zrA0kenoBAaClii b .t"⟩
 rw[Int.natCast_add,Int.toNat_of_nonneg b.1]
 exact aS (aa m1) (aS (aa m3) (aS (aS (BW (aa m2) (by trace"baA90000klA1000000000kli hl")) (aa m1) (rg _ _ _ _)) am (pf _ _ _ _)) ((gU _ _ _ _).trans (if_pos (by trace"caBAlAcBcsq0zjxi ha")))) (pf _ _ _ _)
theorem Qa{B:List Bool}{cw:List UInt8}{al bl:Bool}{en sz:Int}(hf:1002≤fuel)(hw:1≤w∧w≤575)(F:rR (aj S) fuel w (some al) (some bl) B cw)(e0:2≤en∧en<5)(m1:l .dD=some (.int en))(m2:l .bits=some (.str (aL B)))(m3:l .ak=some (.b7 .ak))(m4:l .align=some (.bool al))(m5:l .black=some (.bool bl))(m6:l .width=some (.int (w:Int)))(m7:l .cw=some (.bytes cw))(m8:l .size=some (.int sz))(hB:B.length≤80000):
 ∃l' h',ay (Cn (aj S) fuel (k+6)) uE l h=some (.ret (.bool true),l',h'):=by
 refine lJ (Oe (cl:=aj S) (fuel:=fuel) (n:=k+2) (h:=h) (w:=w) al bl (by trace"ba1kAlA575kln1kAlA1000klni hw")) fun h1 f1 A1 N1 N2 N3=> ?_
 have e1:ev (Cn (aj S) fuel (k+6)) l (.call (.glob .ao) (.cons (.loc .width) (.cons (.loc .align) (.cons (.loc .black) .nil))) []) h=some (.ref h.n,h1):=eV (cD rfl) (aT (aa m6) (aT (aa m4) (aT (aa m5) bh))) (w9 f1)
 obtain⟨l1,ci⟩: ∃l1:L,l1=l.set .parser (.ref h.n):=⟨_,rfl⟩
 have uG: ∀{n v},l n=some v→n≠ .parser→l1 n=some v:=fun e q=>by rw[ci,bu,if_neg q];exact e
 refine uN (P6 (k:=k+5) (h:=h1) (l:=l1) F (uG m1 (by decide)) (uG m2 (by decide)) (uG m8 (by decide)) hB e0) fun data h2 d' s e2 EX ib hs bf dl N4 k2=> ?_
 obtain⟨l2,cV⟩: ∃l2:L,l2=l1.set .data (.bytes data):=⟨_,rfl⟩
 rw[←cV]at e2
 have pM: ∀{n v},l n=some v→n≠ .parser→n≠ .data→l2 n=some v:=fun e a b=>by rw[cV,bu,if_neg b];exact uG e a
 have d2:l2 .data=some (.bytes data):=by rw[cV];rfl
 refine aA (P8 (S:=S) (fuel:=fuel) (k:=k+6) (h:=h2) (l:=l2) (hd:=0) dl (pM m3 (by decide) (by decide)) d2) fun a e3 la=> ?_
 refine ck (P9 (S:=S) (fuel:=fuel) (k:=k+6) (h:=h2) (l:=l2.set .first (.int (a:Int))) dl rfl (by rw[bu,if_neg (by decide)];exact d2) (by rw[bu,if_neg (by decide)];exact pM m8 (by decide) (by decide)) la) fun b e4 ab lb=> ?_
 refine lJ (Of (cl:=aj S) (fuel:=fuel) (n:=k+2) (h:=h2) (w:=1) true (by decide)) fun h3 f3 A3 M1 M2 M3=> ?_
 obtain⟨l3,gD⟩: ∃l3:L,l3=(((l2.set .first (.int (a:Int))).set .second (.int (b:Int))).set .refused (.bool false)).set .other (.ref h2.n):=⟨_,rfl⟩
 have js: ∀{n v},l2 n=some v→n≠ .first→n≠ .second→n≠ .refused→n≠ .other→l3 n=some v:=fun e a b c d=>by rw[gD,bu,if_neg d,bu,if_neg c,bu,if_neg b,bu,if_neg a];exact e
 have d3:=js d2 (by decide) (by decide) (by decide) (by decide)
 have p3:l3 .parser=some (.ref h.n):=js (by rw[cV,ci];rfl) (by decide) (by decide) (by decide) (by decide)
 have fa:l3 .first=some (.int (a:Int)):=by rw[gD];rfl
 have fb:l3 .second=some (.int (b:Int)):=by rw[gD];rfl
 have T:fX h3 h.n (fresh w (some al) (some bl)) (fun i=>h.n≤i∧i<h1.n) h2.n (fresh 1 (some true) (some false)) (fun i=>h2.n≤i∧i<h3.n):=by
  refine⟨A1.keep (fun i hi=> ?_) (by trace"daCBlBAlCAlii N4 M2"),A3,fun i x y=>by trace"faCBlEDlDpClnBDlDpAlnxii N4 x y"⟩
  rw[M3 i (by trace"eaBAlDClCpBlnCpAlii N4 hi"),k2 i hi.2]
 refine yt (PZ (S:=S) (fuel:=fuel) (k:=k+1) hf hs [be data 0 a,be data a b,be data b data.length] (l:=l3) (h:=h3) p3 (by rw[gD];rfl) (by rw[gD];rfl) T (DN 1 (some true) (some false)) (Nat.le_of_ble_eq_true rfl) (fun _=>⟨by rw[P4 data ab lb];exact EX,fun _=>Iff.rfl⟩) (fun q=>by cases q)) fun l4 h4 P' Q' e' g1 T4 g2 g3 g4=> ?_
 have nR: ∀{n v},l n=some v→n≠ .parser→n≠ .data→n≠ .first→n≠ .second→n≠ .refused→n≠ .other→n≠ .part→l4 n=some v:=fun e a b c d f g i=>by rw[g4 _ f i];exact js (pM e a b) c d f g
 have bd:data.length≤aU:=by simp only[aU];trace"baA90000klA16777216kli dl"
 have s6:ex (Cn (aj S) fuel (k+6)) (.bK .part (.tup (.cons (.eP (.loc .data) (.loc .first)) (.cons (.fE (.loc .data) (.loc .first) (.loc .second)) (.cons (.fF (.loc .data) (.loc .second)) .nil)))) jr) l3 h3=some (.next,l4,h4):=by
  refine(M5 (aT (tK (aa d3) (aa fa) (yi _ _ _ _ _ ?_ bd)) (aT (wI (aa d3) (aa fa) (aa fb) (yi _ _ _ _ _ ?_ bd)) (aT (BV (aa d3) (aa fb) (yi _ _ _ _ _ ?_ bd)) bh))) (Nat.le_of_ble_eq_true rfl)).trans g1
  ·simp only[Option.getD_none,Option.getD_some];trace"daA90000klCBlBAl0z0zr0zCcr0zq2^31zrCcq2^31zrnnniii dl ab lb"
  ·simp only[Option.getD_some];trace"daA90000klCBlBAl0zCcr0zBcrCcq2^31zrBcq2^31zrnnniii dl ab lb"
  ·simp only[Option.getD_none,Option.getD_some];trace"caA90000klBAl0zBcr0z0zrBcq2^31zr0zq2^31zrnnnii dl lb"
 have p4:l4 .parser=some (.ref h.n):=by rw[g4 _ (by decide) (by decide)];exact p3
 have o4:l4 .other=some (.ref h2.n):=by rw[g4 _ (by decide) (by decide),gD];rfl
 have e7:ev (Cn (aj S) fuel (k+6)) l4 (.bg (.loc .parser) .close .nil []) h4=some (.bytes d'.buf,h4):=nj (aa p4) (Es T4.a) bh (xw T4.a)
 have e8:ev (Cn (aj S) fuel (k+6)) (l4.set .got (.bytes d'.buf)) (.bg (.loc .other) .close .nil []) h4=some (.bytes e'.buf,h4):=nj (aa (by rw[bu,if_neg (by decide)];exact o4)) (Es T4.b) bh (xw T4.b)
 have e9:ev (Cn (aj S) fuel (k+6)) (l4.set .got (.bytes d'.buf)) Ey h4=some (.bool true,h4):=by
  refine wO (lh (a:= .bool (isBad s)) (b:= .bool (en==4)) (aa (by rw[bu,if_neg (by decide)];exact g3)) (lh (aa (by rw[bu,if_neg (by decide)];exact nR m1 (by decide) (by decide) (by decide) (by decide) (by decide) (by decide) (by decide))) am rfl) ?_) (wO (BZ (aa rfl)) (wO (lh (aa rfl) (aa (by rw[bu,if_neg (by decide)];exact nR m7 (by decide) (by decide) (by decide) (by decide) (by decide) (by decide) (by decide))) ?_) (MQ (lh e8 rfl ?_))))
  ·rw[ph,Nd,ib];simp
  ·rw[ph,Cz,bf];simp
  ·rw[ph,Cz,g2];rfl
 refine⟨l4.set .got (.bytes d'.buf),h4,?_⟩
 have e5:ev (Cn (aj S) fuel (k+6)) (((l2.set .first (.int (a:Int))).set .second (.int (b:Int))).set .refused (.bool false)) (.call (.glob .ao) (.cons (.int 1) (.cons (.bool true) .nil)) []) h2=some (.ref h2.n,h3):=eV (cD rfl) (aT am (aT rfl bh)) (w9 f3)
 unfold uE
 rw[bI (aV e1),←ci,bI e2,bI (aV e3),bI (aV e4),bI (aV (v:= .bool false) rfl),bI (aV e5),←gD,bI s6,bI (aV e7),wW (fy e9)]
theorem Qb(hf:1002≤fuel)(hS:S.length≤63): ∃l' h',ay (Cn (aj S) fuel (k+6)) pX L0 h=some (.ret (.bool true),l',h'):=by
 rw[P3]
 refine EV (Py (S:=S) (fuel:=fuel) (k:=k+6) (.cons uy (.cons (.assign .bits (.str [])) (.cons (.assign .told (.int 0)) (.cons (.assign .above (.list .nil)) (.cons (.bK .row (.val (.loc .rows)) nQ) uF))))) h) fun hd sz ns bl al en wi e1 Qc Ez ln sn _=> ?_
 refine yv (PF (S:=S) (fuel:=fuel) (k:=k+5) (h:=h) (hd:=hd) (sz:=sz) (bl:=bl) (al:=al) (en:=en) (wi:=wi) ln (fun q=>(sn q).2.2.2.2.1)) fun l2 h2 ro refs f w e2 r1 r2 r3 r4 r5 r6 r7 w1 w2 r8 r9=> ?_
 have g: ∀{n v},L1 hd sz h.n bl al en wi n=some v→n≠ .bY→n≠ .width→n≠ .rows→l2 n=some v:=fun e a b c=>by rw[r3 _ a b c];exact e
 obtain⟨l3,gD⟩: ∃l3:L,l3=((l2.set .bits (.str (aL []))).set .told (.int 0)).set .above (.ref h2.n):=⟨_,rfl⟩
 have js: ∀{n v},l2 n=some v→n≠ .bits→n≠ .told→n≠ .above→l3 n=some v:=fun e a b c=>by rw[gD,bu,if_neg c,bu,if_neg b,bu,if_neg a];exact e
 have Qd:bw [] w:=⟨fun i j x y h=>by simp at h,fun i x h=>by simp at h,by simp⟩
 have o3:(h2.push (.list [])).o ro=some (.list (refs.map .ref)):=by rw[bM (by trace"caBpAlBAexi r7")];exact r4
 refine uN (Ed (S:=S) (fuel:=fuel) (k:=k+4) (w:=w) (wi:=wi) (al:=al) (ro:=ro) (f:=f) (by trace"ba1002kAl600kAli hf") w2 (refs.map .ref) refs [] l3 (h2.push (.list [])) h2.n [] [] 0 (fun q z=>q (r9 z)) (by rw[List.length_nil,Nat.zero_add];exact r5) o3 (by rw[bN];trace"caApBlApBpli r7") .nil Qd (fun i hi=>(r6 i hi).mono (by rw[bN];trace"baAApl") (fun i hi=>bM (by trace"caBpAlBAexi hi"))) (bB rfl) (by rw[bN];trace"baApApl") (by simp)
  (by rw[gD];rfl) (js r2 (by decide) (by decide) (by decide)) (js (g rfl (by decide) (by decide) (by decide)) (by decide) (by decide) (by decide)) (js (g rfl (by decide) (by decide) (by decide)) (by decide) (by decide) (by decide)) (by rw[gD];rfl) (js (g rfl (by decide) (by decide) (by decide)) (by decide) (by decide) (by decide)) (by rw[gD];rfl)) fun l4 h4 B above e4 RR Q b4 lB k4 n4 f4=> ?_
 rw[List.nil_append]at RR lB
 have nR: ∀{n v},l2 n=some v→n≠ .bits→n≠ .told→n≠ .above→n≠ .row→n≠ .codes→l4 n=some v:=fun e a b c d i=>by rw[k4 _ d i b a c];exact js e a b c
 have yj: ∀{n v},L1 hd sz h.n bl al en wi n=some v→n≠ .bY→n≠ .width→n≠ .rows→n≠ .bits→n≠ .told→n≠ .above→n≠ .row→n≠ .codes→l4 n=some v:=fun e a b c d i j m o=>nR (g e a b c) d i j m o
 have yk:B.length≤70000:=by
  refine Nat.le_trans lB ?_
  rcases r8 with q|q
  ·exact Nat.le_trans (Nat.mul_le_mul q (show 60*w+68≤34568 by trace"ba1kAlA575klA60m68ka34568klii w1 w2")) (by decide)
  ·exact Nat.le_trans (Nat.mul_le_mul r5 (show 60*w+68≤1028 by trace"ba1kAlA575klA16klA60m68ka1028kliii w1 w2 q")) (by decide)
 have o4:h4.o ro=some (.list (refs.map .ref)):=by rw[f4 _ (by rw[bN];trace"caApBlApBpli r7")];exact o3
 have R4: ∀i∈refs,Rw f h4 w i:=fun i hi=>(r6 i hi).mono (by rw[bN]at n4;trace"caApBlABli n4") fun j hj=>by rw[f4 j (by rw[bN];trace"caApBlApBpli hj"),bM (by trace"caBpAlBAexi hj")]
 have e5:=Ea (C:=Cn (aj S) fuel (k+6)) (h:=h4) (yj (n:= .align) rfl (by decide) (by decide) (by decide) (by decide) (by decide) (by decide) (by decide) (by decide)) b4 (by trace"baA70000klA1000000kli yk")
 obtain⟨l5,nT⟩: ∃l5:L,l5=l4.set .bits (.str (aL (cj al B))):=⟨_,rfl⟩
 rw[←nT]at e5
 have cw:=PN (S:=S) (fuel:=fuel) (k:=k+5) (w:=w) (h:=h4) (l:=l5) (f:=f) (bl:=bl) (ro:=ro) (refs:=refs) ⟨w1,w2⟩ o4 (by rw[nT,bu,if_neg (by decide)];exact nR r1 (by decide) (by decide) (by decide) (by decide) (by decide)) (by rw[nT,bu,if_neg (by decide)];exact nR r2 (by decide) (by decide) (by decide) (by decide) (by decide)) (by rw[nT,bu,if_neg (by decide)];exact yj rfl (by decide) (by decide) (by decide) (by decide) (by decide) (by decide) (by decide) (by decide)) r5 R4
 obtain⟨dv,EA⟩: ∃dv:List UInt8,dv=(refs.map f).flatMap (dj w bl):=⟨_,rfl⟩
 rw[←EA]at cw
 obtain⟨l6,rS⟩: ∃l6:L,l6=l5.set .cw (.bytes dv):=⟨_,rfl⟩
 have iO: ∀{n v},L1 hd sz h.n bl al en wi n=some v→n≠ .bY→n≠ .width→n≠ .rows→n≠ .bits→n≠ .told→n≠ .above→n≠ .row→n≠ .codes→n≠ .cw→l6 n=some v:=fun e a b c d i j m o q=>by rw[rS,bu,if_neg q,nT,bu,if_neg d];exact yj e a b c d i j m o
 have wd:l6 .width=some (.int (w:Int)):=by rw[rS,bu,if_neg (by decide),nT,bu,if_neg (by decide)];exact nR r2 (by decide) (by decide) (by decide) (by decide) (by decide)
 have bt:l6 .bits=some (.str (aL (cj al B))):=by rw[rS,nT];rfl
 have du:l6 .cw=some (.bytes dv):=by rw[rS];rfl
 have lP:(cj al B).length≤80000:=by
  induction al with
  |false=>exact Nat.le_trans yk (by decide)
  |true=>rw[ux,List.length_append,List.length_replicate];trace"gaB70000klFC8maDeFp8klnE8klDEa8ken8kElD0kenoEA8maBeEp8klnBFa80000kliiii yk .d8 .s .d8"
 have F: ∀uH rev:Option Bool,uH.getD false=al→rev.getD false=bl→rR (aj S) fuel w uH rev (cj al B) dv:=fun uH rev ha hr=>by
  subst ha
  have:=Pn (cl:=aj S) (fuel:=fuel) (w:=w) (al:=uH) (rev:=rev) hf ⟨w1,w2⟩ (dj w (rev.getD false)) (fun row _=>D7 w2 rev row) RR Q (by rw[List.length_map];exact r5)
  rw[hr,←EA]at this
  exact this
 have lt:te (Cn (aj S) fuel (k+6)) l6 (.cmp .lt (.loc .dD) (.int 2)) (h4.push (.list (refs.map fun i=> .bytes (dj w bl (f i)))))=some (decide (en<2),h4.push (.list (refs.map fun i=> .bytes (dj w bl (f i))))):=aJ (aa (iO rfl (by decide) (by decide) (by decide) (by decide) (by decide) (by decide) (by decide) (by decide) (by decide))) am rfl
 have s4:ex (Cn (aj S) fuel (k+6)) (.bK .row (.val (.loc .rows)) nQ) l3 (h2.push (.list []))=some (.next,l4,h4):=(M4 (aa (js r1 (by decide) (by decide) (by decide))) (by rw[j9,o3])).trans e4
 have fA:ay (Cn (aj S) fuel (k+6)) (.cons (.assign .bits (.str [])) (.cons (.assign .told (.int 0)) (.cons (.assign .above (.list .nil)) (.cons (.bK .row (.val (.loc .rows)) nQ) uF)))) l2 h2=ay (Cn (aj S) fuel (k+6)) (.cons (.ifs (.cmp .lt (.loc .dD) (.int 2)) uB .nil) uE) l6 (h4.push (.list (refs.map fun i=> .bytes (dj w bl (f i))))):=by
  rw[bI (aV (v:= .str (aL [])) rfl),bI (aV am),bI (aV (dF bh (by decide))),←gD,bI s4]
  unfold uF
  rw[bI e5,bI (aV cw),←rS]
 rw[e1,bI e2,fA]
 by_cases q:en<2
 ·rw[decide_eq_true q]at lt
  refine kr (PU (k:=k) (h:=h4.push (.list (refs.map fun i=> .bytes (dj w bl (f i))))) ⟨w1,w2⟩ (F _ _ (Ej al) (Ej bl)) (iO rfl (by decide) (by decide) (by decide) (by decide) (by decide) (by decide) (by decide) (by decide) (by decide)) bt (iO rfl (by decide) (by decide) (by decide) (by decide) (by decide) (by decide) (by decide) (by decide) (by decide)) (iO rfl (by decide) (by decide) (by decide) (by decide) (by decide) (by decide) (by decide) (by decide) (by decide)) (iO rfl (by decide) (by decide) (by decide) (by decide) (by decide) (by decide) (by decide) (by decide) (by decide)) wd du (iO rfl (by decide) (by decide) (by decide) (by decide) (by decide) (by decide) (by decide) (by decide) (by decide)) lP) fun l' h' z=> ?_
  exact⟨l',h',wW (bE lt z)⟩
 ·rw[decide_eq_false q]at lt
  refine kr (Qa (k:=k) (h:=h4.push (.list (refs.map fun i=> .bytes (dj w bl (f i))))) hf ⟨w1,w2⟩ (F _ _ rfl rfl) ⟨by trace"ab0zUrUq5zrUq2zrx2zUriii Qc Ez q",Ez⟩ (iO rfl (by decide) (by decide) (by decide) (by decide) (by decide) (by decide) (by decide) (by decide) (by decide)) bt (iO rfl (by decide) (by decide) (by decide) (by decide) (by decide) (by decide) (by decide) (by decide) (by decide)) (iO rfl (by decide) (by decide) (by decide) (by decide) (by decide) (by decide) (by decide) (by decide) (by decide)) (iO rfl (by decide) (by decide) (by decide) (by decide) (by decide) (by decide) (by decide) (by decide) (by decide)) wd du (iO rfl (by decide) (by decide) (by decide) (by decide) (by decide) (by decide) (by decide) (by decide) (by decide)) lP) fun l' h' z=> ?_
  refine⟨l',h',?_⟩
  rw[bI (bi lt rfl)]
  exact z
theorem Qe(hf:1002≤fuel)(hS:S.length≤63): ∃h',(Cn (aj S) fuel 12).call .nZ [.b7 .ak] [] h=some (.ret (.bool true),h'):=by
 refine kr (Qb (S:=S) (fuel:=fuel) (k:=5) (h:=h) hf hS) fun l' h' e=> ?_
 refine⟨h',?_⟩
 rw[M8]
 have b:fJ .nZ=some ⟨[.ak],[],pX⟩:=rfl
 rw[b]
 show(match ay (Cn (aj S) fuel 11) pX L0 h with
  |some (.next,_,h)=>some (CR.ret .none,h)
  |some (.ret v,_,h)=>some (.ret v,h)
  |some (.exc c,_,h)=>some (.exc c,h)
  |_=>none)=_
 rw[e]
end
theorem plain:wH:=fun ns hl=>⟨3000,Qe (S:=ns) (fuel:=3000) (h:=⟨fun _=>none,0⟩) (by decide) hl⟩
theorem done:PySem.Challenge.rw_an0018_01.Holds:=MH plain
end CC
end
theorem PySem.Challenge.cw_an0018_01_holds : PySem.Challenge.rw_an0018_01.Holds :=
 CC.done
