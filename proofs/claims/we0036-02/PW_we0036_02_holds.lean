import PyProof.Rows.All
import PyProof.StrLawsIn
import Wide.Txt
import Open.Head
import KE.KIntText
import Wide.FinOn
import OpenK.AllK
import Wide.All
import Lean
import PySem.Challenge.RW_we0036_02
set_option Elab.async false
set_option maxRecDepth 100000
set_option maxHeartbeats 4000000
set_option bootstrap.genMatcherCode false
set_option tactic.hygienic false
set_option genSizeOf false
set_option genInjectivity false
set_option linter.all false
noncomputable section
section
namespace Mn.Lz
set_option genCtorIdx false in
inductive X where
 | v (i:Nat)
 | k (n:Nat)
 | a (x y:X)
 | m (x y:X)
set_option genCtorIdx false in
inductive Y where
 | v (i:Nat)
 | k (z:Int)
 | a (x y:Y)
 | s (x y:Y)
 | g (x:Y)
 | m (x y:Y)
 | n (x:X)
variable (c:List Nat) (e:List Int)
noncomputable def X.d(x:X):Nat:=X.rec (motive:=fun Z=>Nat) (fun i=>c.getD i 0) (fun n=>n) (fun Z Z a b=>a+b) (fun Z Z a b=>a*b) x
noncomputable def Y.d(x:Y):Int:=Y.rec (motive:=fun X=>Int) (fun i=>e.getD i 0) (fun z=>z) (fun X X a b=>a+b) (fun X X a b=>a-b) (fun X a=> -a) (fun X X a b=>a*b) (fun x=>(x.d c:Nat)) x
structure P where
 k:Int
 c:List Int
 e:List Int
noncomputable def dot(p q:List Int):Int:=List.rec (motive:=fun X=>List Int→Int) (fun X=>0) (fun a X r q=>List.casesOn (motive:=fun X=>Int) q 0 fun b q=>a*b+r q) p q
def P.d(p:P):Int:=p.k+(dot p.c (c.map Int.ofNat)+dot p.e e)
noncomputable def ad(p q:List Int):List Int:=List.rec (motive:=fun X=>List Int→List Int) (fun q=>q) (fun a p r q=>List.casesOn (motive:=fun X=>List Int) q (a :: p) fun b q=>(a+b) :: r q) p q
noncomputable def P.a(p q:P):P:=⟨p.k+q.k,ad p.c q.c,ad p.e q.e⟩
noncomputable def P.m(z:Int)(p:P):P:=⟨z*p.k,p.c.map (z * ·),p.e.map (z * ·)⟩
noncomputable def un(i:Nat):List Int:=List.replicate i 0 ++ [1]
noncomputable def P.t(p q:P):P:=bif p.c.isEmpty&&p.e.isEmpty then q.m p.k else bif q.c.isEmpty&&q.e.isEmpty then p.m q.k else ⟨0,[],[]⟩
noncomputable def okT(p q:P):Bool:=p.c.isEmpty&&p.e.isEmpty || q.c.isEmpty&&q.e.isEmpty
def X.p(x:X):Bool×P:=X.rec (motive:=fun Z=>Bool×P) (fun i=>(true,⟨0,un i,[]⟩)) (fun n=>(true,⟨n,[],[]⟩)) (fun Z Z a b=>(a.1&&b.1,a.2.a b.2)) (fun Z Z a b=>(a.1&&b.1&&okT a.2 b.2,a.2.t b.2)) x
def Y.p(x:Y):Bool×P:=Y.rec (motive:=fun X=>Bool×P) (fun i=>(true,⟨0,[],un i⟩)) (fun z=>(true,⟨z,[],[]⟩)) (fun X X a b=>(a.1&&b.1,a.2.a b.2)) (fun X X a b=>(a.1&&b.1,a.2.a (b.2.m (-1)))) (fun X a=>(a.1,a.2.m (-1))) (fun X X a b=>(a.1&&b.1&&okT a.2 b.2,a.2.t b.2)) (fun x=>x.p) x
theorem zjs:∀p q r:List Int,dot (ad p q) r=dot p r+dot q r
 | [],q,r=>(Int.zero_add _).symm
 | a :: p, [], []=>rfl
 | a :: p, [],x :: r=>(Int.add_zero _).symm
 | a :: p,b :: q, []=>rfl
 | a :: p,b :: q,x :: r=>by
  show (a+b)*x+dot (ad p q) r=(a*x+dot p r)+(b*x+dot q r);rw [zjs p q r,Int.add_mul];ac_rfl
theorem zpc(z:Int):∀p r:List Int,dot (p.map (z * ·)) r=z*dot p r
 | [],r=>(Int.mul_zero z).symm
 | a :: p, []=>(Int.mul_zero z).symm
 | a :: p,x :: r=>by
  show z*a*x+dot (p.map (z * ·)) r=z*(a*x+dot p r);rw [zpc z p r,Int.mul_add,Int.mul_assoc]
theorem zjr:∀(i:Nat) (r:List Int),dot (un i) r=r.getD i 0
 | 0, []=>rfl
 | 0,x :: r=>(Int.add_zero _).trans (Int.one_mul x)
 | i+1, []=>rfl
 | i+1,x :: r=>by
  show 0*x+dot (un i) r=r.getD i 0;rw [zjr i r,Int.zero_mul,Int.zero_add]
theorem zjh:∀(c:List Nat) (i:Nat),(c.map Int.ofNat).getD i 0=((c.getD i 0:Nat):Int)
 | [],_=>rfl
 | _ :: _,0=>rfl
 | _ :: c,i+1=>zjh c i
theorem d_a(p q:P):(p.a q).d c e=p.d c e+q.d c e:=by
 show p.k+q.k+(dot (ad p.c q.c) _+dot (ad p.e q.e) _)=(p.k+(dot p.c _+dot p.e _))+(q.k+(dot q.c _+dot q.e _));rw [zjs,zjs];ac_rfl
theorem d_m(z:Int)(p:P):(p.m z).d c e=z*p.d c e:=by
 show z*p.k+(dot (p.c.map (z * ·)) _+dot (p.e.map (z * ·)) _)=z*(p.k+(dot p.c _+dot p.e _));rw [zpc,zpc,Int.mul_add,Int.mul_add]
theorem d_k(p:P)(h:(p.c.isEmpty&&p.e.isEmpty)=true):p.d c e=p.k:=by
 obtain ⟨k,l,m⟩:=p;obtain ⟨h1,h2⟩:=Bool.and_eq_true_iff.mp h;obtain rfl:=List.isEmpty_iff.mp h1;obtain rfl:=List.isEmpty_iff.mp h2;exact Int.add_zero k
theorem d_t(p q:P)(h:okT p q=true):(p.t q).d c e=p.d c e*q.d c e:=by
 unfold P.t;rcases Bool.eq_false_or_eq_true (p.c.isEmpty&&p.e.isEmpty) with z | z
 ·rw [z,d_k c e p z];exact d_m c e _ q
 ·have y:(q.c.isEmpty&&q.e.isEmpty)=true:=by unfold okT at h;rwa [z,Bool.false_or] at h
  rw [z,y,d_k c e q y,Int.mul_comm];exact d_m c e _ p
theorem cg{f:Int→Int→Int}{a b u v:Int}(h:a=u)(k:b=v):f a b=f u v:=h▸k▸rfl
theorem X.ok(x:X)(h:x.p.1=true):x.p.2.d c e=(x.d c:Nat):=by
 induction x with
 | v i=>exact (Int.zero_add _).trans ((Int.add_zero _).trans ((zjr i _).trans (zjh c i)))
 | k n=>exact Int.add_zero _
 | a x y ix iy=>
  have h:=Bool.and_eq_true_iff.mp h;exact (d_a c e _ _).trans (cg (f:=(· + ·)) (ix h.1) (iy h.2))
 | m x y ix iy=>
  have h:=Bool.and_eq_true_iff.mp h;have g:=Bool.and_eq_true_iff.mp h.1;exact (d_t c e _ _ h.2).trans (cg (f:=(· * ·)) (ix g.1) (iy g.2))
theorem Y.ok(x:Y)(h:x.p.1=true):x.p.2.d c e=x.d c e:=by
 induction x with
 | v i=>exact (Int.zero_add _).trans ((Int.zero_add _).trans (zjr i _))
 | k n=>exact Int.add_zero _
 | a x y ix iy=>
  have h:=Bool.and_eq_true_iff.mp h;exact (d_a c e _ _).trans (cg (f:=(· + ·)) (ix h.1) (iy h.2))
 | s x y ix iy=>
  have h:=Bool.and_eq_true_iff.mp h;exact (d_a c e _ _).trans (cg (f:=(· + ·)) (ix h.1) ((d_m c e _ _).trans ((Int.neg_one_mul _).trans (congrArg (- ·) (iy h.2)))))
 | g x ix=>exact (d_m c e _ _).trans ((Int.neg_one_mul _).trans (congrArg (- ·) (ix h)))
 | m x y ix iy=>
  have h:=Bool.and_eq_true_iff.mp h;have g:=Bool.and_eq_true_iff.mp h.1;exact (d_t c e _ _ h.2).trans (cg (f:=(· * ·)) (ix g.1) (iy g.2))
 | n x=>exact X.ok c e x h
set_option genCtorIdx false in
inductive F where
 | N (l r:X)
 | I (l r:Y)
def F.d(f:F):Prop:=F.casesOn (motive:=fun X=>Prop) f (fun l r=>l.d c≤r.d c) fun l r=>l.d c e≤r.d c e
noncomputable def F.q(f:F):(Bool×P)×(Bool×P):=F.casesOn (motive:=fun X=>(Bool×P)×(Bool×P)) f (fun l r=>(l.p,r.p)) fun l r=>(l.p,r.p)
noncomputable def F.p(f:F):Bool×P:=(f.q.1.1&&f.q.2.1,f.q.2.2.a (f.q.1.2.m (-1)))
theorem F.is(f:F)(h:f.p.1=true):f.d c e↔0≤f.p.2.d c e:=by
 have h:=Bool.and_eq_true_iff.mp h;have z:=(d_a c e f.q.2.2 (f.q.1.2.m (-1))).trans (congrArg _ (d_m c e (-1) f.q.1.2));rw [Int.neg_one_mul] at z;show _↔0≤(f.q.2.2.a (f.q.1.2.m (-1))).d c e;rw [z];induction f with
 | N l r=>
  have a:=X.ok c e l h.1;have b:=X.ok c e r h.2;show l.d c≤r.d c↔0≤r.p.2.d c e + -l.p.2.d c e;rw [a,b];exact ⟨fun h=>Int.sub_nonneg_of_le (Int.ofNat_le.mpr h),fun h=>Int.ofNat_le.mp (Int.le_of_sub_nonneg h)⟩
 | I l r=>
  have a:=Y.ok c e l h.1;have b:=Y.ok c e r h.2;show l.d c e≤r.d c e↔0≤r.p.2.d c e + -l.p.2.d c e;rw [a,b];exact ⟨Int.sub_nonneg_of_le,Int.le_of_sub_nonneg⟩
def hyp(hs:List (Nat×F))(G:Prop):Prop:=List.rec (motive:=fun X=>Prop) G (fun h X r=>h.2.d c e→r) hs
noncomputable def sum(hs:List (Nat×F))(p:Bool×P):Bool×P:=List.rec (motive:=fun X=>Bool×P→Bool×P) (fun p=>p) (fun h X r p=>r (p.1&&h.2.p.1,p.2.a (h.2.p.2.m h.1))) hs p
noncomputable def neg(p:P):Bool:=decide (p.k<0)&&p.c.all (fun z=>decide (z≤0))&&p.e.all fun z=>decide (z=0)
theorem zn6:∀(p:List Int) (c:List Nat),(p.all fun z=>decide (z≤0))=true→dot p (c.map Int.ofNat)≤0
 | [],_,_=>Int.le_refl 0
 | _ :: _, [],_=>Int.le_refl 0
 | a :: p,x :: c,h=>by
  have h:=Bool.and_eq_true_iff.mp h;exact Int.add_nonpos (Int.mul_nonpos_of_nonpos_of_nonneg (of_decide_eq_true h.1) (Int.natCast_nonneg x)) (zn6 p c h.2)
theorem zn7:∀(p e:List Int),(p.all fun z=>decide (z=0))=true→dot p e=0
 | [],_,_=>rfl
 | _ :: _, [],_=>rfl
 | a :: p,x :: e,h=>by
  have h:=Bool.and_eq_true_iff.mp h;show a*x+dot p e=0;rw [of_decide_eq_true h.1,zn7 p e h.2,Int.zero_mul];rfl
theorem zqL{p:P}(h:neg p=true):p.d c e<0:=by
 have h:=Bool.and_eq_true_iff.mp h;have g:=Bool.and_eq_true_iff.mp h.1;show p.k+(_+_)<0;rw [zn7 p.e e h.2,Int.add_zero];exact Int.add_neg_of_neg_of_nonpos (of_decide_eq_true g.1) (zn6 _ _ g.2)
theorem sum_ok:∀(hs:List (Nat×F)) (p:Bool×P),(p.1=true→0≤p.2.d c e)→hyp c e hs ((sum hs p).1=true→0≤(sum hs p).2.d c e)
 | [],_,h=>h
 | x :: hs,p,h=>fun g=>sum_ok hs _ fun z=>by
  have z:=Bool.and_eq_true_iff.mp z;show 0≤(p.2.a _).d c e;rw [d_a,d_m];exact Int.add_nonneg (h z.1) (Int.mul_nonneg (Int.natCast_nonneg _) ((F.is c e _ z.2).mp g))
theorem ze1{G H:Prop}(i:G→H):∀hs:List (Nat×F),hyp c e hs G→hyp c e hs H
 | [],h=>i h
 | _ :: hs,h=>fun g=>ze1 i hs (h g)
noncomputable def ng(m:Nat)(g:F):Bool×P:=(g.p.1,(g.p.2.m (-1)).a ⟨-1,[],[]⟩ |>.m m)
theorem lzC(hs:List (Nat×F))(g:F)(m:Nat)(k:((sum hs (ng m g)).1&&g.p.1&&neg (sum hs (ng m g)).2)=true):hyp c e hs (g.d c e):=by
 have k1:=Bool.and_eq_true_iff.mp k;have k2:=Bool.and_eq_true_iff.mp k1.1;refine ze1 c e (F.is c e g k2.2).mpr hs ?_;refine Classical.byCases (fun h:0≤g.p.2.d c e=>?_) fun h=>?_
 ·exact ze1 c e (fun X=>h) hs (sum_ok c e hs (false,g.p.2) nofun)
 ·refine ze1 c e (fun z=>absurd (z k2.1) (Int.not_le.mpr (zqL c e k1.2))) hs (sum_ok c e hs (ng m g) fun X=>?_)
  show 0≤(P.m _ _).d c e;rw [d_m,d_a,d_m];refine Int.mul_nonneg (Int.natCast_nonneg m) ?_;rw [Int.neg_one_mul];exact Int.sub_nonneg_of_le (b:=1) (Int.neg_le_neg (Int.le_sub_one_of_lt (Int.not_le.mp h)) |> fun z=>by simpa using z)
noncomputable def pX(f:Nat):Nat→X×Nat:=Nat.rec (motive:=fun Z=>Nat→X×Nat) (fun s=>(.k 0,s)) (fun Z r s=>
 bif Nat.ble (s%64) 1 then (bif Nat.beq (s%64) 0 then .a (r (s/64)).1 (r (r (s/64)).2).1 else .m (r (s/64)).1 (r (r (s/64)).2).1,(r (r (s/64)).2).2)
 else bif Nat.beq (s%64) 2 then (.k (s/4096%64^(s/64%64)),s/4096/64^(s/64%64))
 else (bif Nat.ble 32 (s%64) then .k (s%64-32) else .v (s%64-6),s/64)) f
noncomputable def pY(f:Nat):Nat→Y×Nat:=Nat.rec (motive:=fun X=>Nat→Y×Nat) (fun s=>(.k 0,s)) (fun X r s=>
 bif Nat.ble (s%64) 1 then (bif Nat.beq (s%64) 0 then .a (r (s/64)).1 (r (r (s/64)).2).1 else .m (r (s/64)).1 (r (r (s/64)).2).1,(r (r (s/64)).2).2)
 else bif Nat.beq (s%64) 2 then (.k ((s/4096%64^(s/64%64):Nat):Int),s/4096/64^(s/64%64))
 else bif Nat.beq (s%64) 3 then (.s (r (s/64)).1 (r (r (s/64)).2).1,(r (r (s/64)).2).2)
 else bif Nat.beq (s%64) 4 then (.g (r (s/64)).1,(r (s/64)).2)
 else bif Nat.beq (s%64) 5 then (.n (pX 20 (s/64)).1,(pX 20 (s/64)).2)
 else (bif Nat.ble 32 (s%64) then .k ((s%64-32:Nat):Int) else .v (s%64-6),s/64)) f
noncomputable def pF(s:Nat):F×Nat:=bif Nat.beq (s%64) 0 then (.N (pX 20 (s/64)).1 (pX 20 (pX 20 (s/64)).2).1,(pX 20 (pX 20 (s/64)).2).2) else (.I (pY 20 (s/64)).1 (pY 20 (pY 20 (s/64)).2).1,(pY 20 (pY 20 (s/64)).2).2)
noncomputable def pH(f:Nat):Nat→List (Nat×F)×Nat:=Nat.rec (motive:=fun X=>Nat→List (Nat×F)×Nat) (fun s=>([],s)) (fun X r s=>((s%64,(pF (s/64)).1) :: (r (pF (s/64)).2).1,(r (pF (s/64)).2).2)) f
noncomputable def hsN(n:Nat):List (Nat×F):=(pH (n%64) (n/64)).1
noncomputable def glM(n:Nat):Nat:=(pH (n%64) (n/64)).2%64
noncomputable def glN(n:Nat):F:=(pF ((pH (n%64) (n/64)).2/64)).1
def okH(n:Nat):Bool:=(sum (hsN n) (ng (glM n) (glN n))).1&&(glN n).p.1&&neg (sum (hsN n) (ng (glM n) (glN n))).2
end Mn.Lz
namespace Mn
def kr1:Lean.Syntax:=Lean.Syntax.node Lean.SourceInfo.none `Lean.Parser.Tactic.tacticSeq #[Lean.Syntax.node Lean.SourceInfo.none `Lean.Parser.Tactic.tacticSeq1Indented #[Lean.Syntax.node Lean.SourceInfo.none `null #[Lean.Syntax.node Lean.SourceInfo.none `tacticKernel_rfl #[Lean.mkAtom "kernel_rfl"]]]]
open Lz
def say(c:List Nat)(e:List Int)(n:Nat):Prop:=Bool.rec (motive:=fun X=>Prop) True (hyp c e (hsN n) ((glN n).d c e)) (okH n)
theorem li(c:List Nat)(e:List Int)(n:Nat):say c e n:=Bool.rec (motive:=fun b=>okH n=b→Bool.rec (motive:=fun X=>Prop) True (hyp c e (hsN n) ((glN n).d c e)) b) (fun X=>trivial) (fun k=>lzC c e (hsN n) (glN n) (glM n) k) (okH n) rfl
theorem lz(c:List Nat)(n:Nat):say c [] n:=li c [] n
theorem lz1{a:Nat}(n:Nat):say [a] [] n:=li _ _ n
theorem lz2{a b:Nat}(n:Nat):say [a,b] [] n:=li _ _ n
theorem lz3{a b c:Nat}(n:Nat):say [a,b,c] [] n:=li _ _ n
theorem lz4{a b c d:Nat}(n:Nat):say [a,b,c,d] [] n:=li _ _ n
theorem lz5{a b c d e:Nat}(n:Nat):say [a,b,c,d,e] [] n:=li _ _ n
theorem lz6{a b c d e f:Nat}(n:Nat):say [a,b,c,d,e,f] [] n:=li _ _ n
theorem lz7{a b c d e f g:Nat}(n:Nat):say [a,b,c,d,e,f,g] [] n:=li _ _ n
theorem lzq{a b:Nat}(h:a=b):a≤b:=Nat.le_of_eq h
theorem lzr{a b:Nat}(h:a=b):b≤a:=Nat.le_of_eq h.symm
theorem liq{a b:Int}(h:a=b):a≤b:=Int.le_of_eq h
theorem lir{a b:Int}(h:a=b):b≤a:=Int.le_of_eq h.symm
theorem lzs(a b:Nat):a≤a-b+b:=Nat.le_add_of_sub_le (Nat.le_refl _)
theorem lzc{a b:Nat}(h:b≤a):a-b+b≤a:=Nat.le_of_eq (Nat.sub_add_cancel h)
theorem lzm(a b:Nat):a%b.succ<b.succ:=Nat.mod_lt _ (Nat.succ_pos _)
theorem lzd(a b:Nat):b*(a/b)+a%b≤a:=Nat.le_of_eq (Nat.div_add_mod a b)
theorem lze(a b:Nat):a≤b*(a/b)+a%b:=Nat.le_of_eq (Nat.div_add_mod a b).symm
theorem lzn{P:Prop}(h:1≤0):P:=absurd h (Nat.not_succ_le_zero 0)
end Mn
namespace Mine.P2
noncomputable def gr(c x:Nat):Nat:=x/c+x%c
theorem zgG(c a b:Nat)(h:b<c):gr c (a*c+b)=a+b:=by
 have h0:0<c:=Nat.lt_of_le_of_lt (Nat.zero_le _) h;unfold gr;rw [Nat.mul_comm,Nat.mul_add_div h0,Nat.mul_add_mod,Nat.div_eq_of_lt h,Nat.mod_eq_of_lt h]
 rfl
theorem zoV{c d k r:Nat}(e:k*c=d+r)(hr:r<c)(hk:r<k)(x:Nat):
  gr c x+1≤gr c (x+d):=by
 have h0:0<c:=Nat.lt_of_le_of_lt (Nat.zero_le _) hr;have hx:x/c*c+x%c=x:=Nat.div_add_mod' x c;have hb:x%c<c:=Nat.mod_lt _ h0;show x/c+x%c+1≤_;generalize x/c=a at*;generalize x%c=b at*;subst hx;have hkc:c≤k*c:=Nat.le_mul_of_pos_left c (Nat.lt_of_le_of_lt (Nat.zero_le _) hk);obtain h | h:=Nat.lt_or_ge b r
 ·have e1:a*c+b+d=(a+(k-1))*c+(b+c-r):=by
   rw [Nat.add_mul,Nat.sub_mul];exact Nat.le_antisymm (Mn.lz [_,_,_,_,_,_,_,_] 0xc24d00018b34000004730028b00004a8412402000481c6000043 (Mn.lzr e) (Mn.lzs _ _) (Mn.lzs _ _)) (Mn.lz [_,_,_,_,_,_,_,_] 0x730d0002c934000004a30020b0000462a10490000481c0180043 (Mn.lzq e) (Mn.lzc (Mn.lz2 0x71a1040047180041 hkc)) (Mn.lzc (Mn.lz3 0x7200180047846000041 hr)))
  rw [e1,zgG c _ _ (by exact Mn.lz4 0x98480000491801c8000047846000042 h (Mn.lzc (Mn.lz3 0x7200180047846000041 hr)))];exact Mn.lz7 0xa2cc0008493000000612c01c0046280209000048860000047846000044 hk h0 (Mn.lzs _ _) (Mn.lzs _ _)
 ·have e1:a*c+b+d=(a+k)*c+(b-r):=by
   rw [Nat.add_mul];exact Nat.le_antisymm (Mn.lz6 0xa20b0001892c00000472802400481c6000042 (Mn.lzr e) (Mn.lzs _ _)) (Mn.lz6 0x728b0002462c000004a2090000481c0180042 (Mn.lzq e) (Mn.lzc (Mn.lz2 0x7180047180041 h)))
  rw [e1,zgG c _ _ (by exact Mn.lz3 0x7848000046200047846000042 hb (Nat.sub_le _ _))];exact Mn.lz5 0x91ca000848280000046240200047846000042 hk (Mn.lzs _ _)
theorem zgF{c d k r:Nat}(e:k*c=d+r)(hr:r<c)(hk:r<k)(x:Nat):
  (n:Nat)→gr c x+n≤gr c (x+n*d)
 | 0=>by rw [Nat.zero_mul];exact Nat.le_refl _
 | n+1=>by
  have h:=zgF e hr hk x n;have h2:=zoV e hr hk (x+n*d);rw [Nat.succ_mul,←Nat.add_assoc x];exact Nat.le_trans (Nat.succ_le_succ h) h2
theorem zpv{c d k r:Nat}(e:k*c=d+r)(hr:r<c)(hk:r<k)(N f x:Nat)(hf:f≤N):
  N+gr c x≤N-f+gr c (x+f*d):=by
 have:=zgF e hr hk x f;exact Mn.lz5 0x82801890000472802400481c6000042 this (Mn.lzs _ _)
theorem zsp{c d k r:Nat}(e:k*c=d+r)(hr:r<c)(hd:c<d)(N:Nat):
  (N*d+k*c)/d=N+1∧(N*d+k*c)%d=r∧gr c r=r∧gr c (r+1*d)=k:=by
 have h0:0<d:=Mn.lz2 0x7860000047846000041 hd;have hrd:r<d:=Mn.lz3 0x8846000048847000047846000042 hr hd;have hc:0<c:=Mn.lz2 0x7860000047846000041 hr;refine ⟨?_,?_,?_,?_⟩
 ·rw [e,←Nat.add_assoc,←Nat.succ_mul,Nat.mul_comm,Nat.mul_add_div h0,Nat.div_eq_of_lt hrd]
 ·rw [e,←Nat.add_assoc,←Nat.succ_mul,Nat.mul_comm,Nat.mul_add_mod,Nat.mod_eq_of_lt hrd]
 ·have:=zgG c 0 r hr
  rw [Nat.zero_mul,Nat.zero_add] at this;exact this
 ·have:=zgG c k 0 hc
  rw [Nat.add_zero,Nat.add_zero] at this;rw [Nat.one_mul,Nat.add_comm,←e];exact this
noncomputable def zfL(c d t:Nat):Nat:=t/d+gr c (t%d)
noncomputable def znA(c d t:Nat):List Nat:=
 ((List.range c).filter fun f=>decide (f≤t/d)).map fun f=>t/d-f+gr c (t%d+f*d)
theorem zjf{c d t:Nat}(hc:0<c):zfL c d t∈znA c d t:=by
 refine List.mem_map.2 ⟨0,List.mem_filter.2 ⟨List.mem_range.2 hc,decide_eq_true (Nat.zero_le _)⟩,?_⟩;rw [Nat.zero_mul];rfl
theorem zlH{c d k r t:Nat}(e:k*c=d+r)(hr:r<c)(hk:r<k)(w:Nat)(hw:w∈znA c d t):
  zfL c d t≤w:=by
 obtain ⟨f,h,rfl⟩:=List.mem_map.1 hw;exact zpv e hr hk (t/d) f (t%d) (of_decide_eq_true (List.mem_filter.1 h).2)
theorem zll{c d k r:Nat}(e:k*c=d+r)(hr:r<c)(hd:c<d)(h2:2≤c)(N:Nat):
  N+k∈znA c d (N*d+k*c)∧zfL c d (N*d+k*c)=N+1+r:=by
 obtain ⟨a,b,g,h⟩:=zsp (k:=k) e hr hd N;refine ⟨List.mem_map.2 ⟨1,List.mem_filter.2 ⟨List.mem_range.2 h2,?_⟩,?_⟩,?_⟩
 ·rw [a];exact decide_eq_true (Nat.le_add_left 1 N)
 ·rw [a,b,h];rfl
 ·unfold zfL;rw [a,b,g]
end Mine.P2
end
section
open PySem PySem.W PyProof.Rows PySem.Calls
namespace Mine
variable {prog:Program} {w:World} {A:Around} {E:Value→Shared→Prop} {s:Shared}
theorem slot_ci_iter:Slot "callable_iterator" "__iter__" "callable_iterator.__iter__" :=
 .of (owner:= "callable_iterator") (n:= "__iter__") (by rw [typeLookup_type,builtinLookup_eq_fast];kernel_rfl) (by decide +kernel) (by decide +kernel) (by decide +kernel)
  (by first | exact .inl (by decide +kernel) | exact .inr (by decide +kernel)) (by rw [isSubtype_type];kernel_rfl)
theorem slot_ci_next:Slot "callable_iterator" "__next__" "callable_iterator.__next__" :=
 .of (owner:= "callable_iterator") (n:= "__next__") (by rw [typeLookup_type,builtinLookup_eq_fast];kernel_rfl) (by decide +kernel) (by decide +kernel) (by decide +kernel)
  (by first | exact .inl (by decide +kernel) | exact .inr (by decide +kernel)) (by rw [isSubtype_type];kernel_rfl)
theorem entry_ci_iter:entryFor table "callable_iterator.__iter__" =some Builtin.«dict_keyiterator.__iter__»:=
 entryFor_alias (id':= "dict_keyiterator.__iter__") (by kernel_rfl) rfl (by decide +kernel) (by kernel_rfl)
theorem entry_ci_next:entryFor table "callable_iterator.__next__" =some Builtin.«callable_iterator.__next__»:=entryFor_of_tree (by kernel_rfl)
theorem args_ci_iter(a:Value):argsOk "callable_iterator.__iter__" ⟨[a],[]⟩:=by unfold argsOk;kernel_rfl
theorem args_ci_next(a:Value):argsOk "callable_iterator.__next__" ⟨[a],[]⟩:=by unfold argsOk;kernel_rfl
theorem slot_lr_iter:Slot "list_reverseiterator" "__iter__" "list_reverseiterator.__iter__" :=
 .of (owner:= "list_reverseiterator") (n:= "__iter__") (by rw [typeLookup_type,builtinLookup_eq_fast];kernel_rfl) (by decide +kernel) (by decide +kernel) (by decide +kernel)
  (by first | exact .inl (by decide +kernel) | exact .inr (by decide +kernel)) (by rw [isSubtype_type];kernel_rfl)
theorem slot_lr_next:Slot "list_reverseiterator" "__next__" "list_reverseiterator.__next__" :=
 .of (owner:= "list_reverseiterator") (n:= "__next__") (by rw [typeLookup_type,builtinLookup_eq_fast];kernel_rfl) (by decide +kernel) (by decide +kernel) (by decide +kernel)
  (by first | exact .inl (by decide +kernel) | exact .inr (by decide +kernel)) (by rw [isSubtype_type];kernel_rfl)
theorem entry_lr_iter:entryFor table "list_reverseiterator.__iter__" =some Builtin.«dict_keyiterator.__iter__»:=
 entryFor_alias (id':= "dict_keyiterator.__iter__") (by kernel_rfl) rfl (by decide +kernel) (by kernel_rfl)
theorem args_lr_iter(a:Value):argsOk "list_reverseiterator.__iter__" ⟨[a],[]⟩:=by unfold argsOk;kernel_rfl
theorem slot_di_iter:Slot "dict_itemiterator" "__iter__" "dict_itemiterator.__iter__" :=
 .of (owner:= "dict_itemiterator") (n:= "__iter__") (by rw [typeLookup_type,builtinLookup_eq_fast];kernel_rfl) (by decide +kernel) (by decide +kernel) (by decide +kernel)
  (by first | exact .inl (by decide +kernel) | exact .inr (by decide +kernel)) (by rw [isSubtype_type];kernel_rfl)
theorem slot_di_next:Slot "dict_itemiterator" "__next__" "dict_itemiterator.__next__" :=
 .of (owner:= "dict_itemiterator") (n:= "__next__") (by rw [typeLookup_type,builtinLookup_eq_fast];kernel_rfl) (by decide +kernel) (by decide +kernel) (by decide +kernel)
  (by first | exact .inl (by decide +kernel) | exact .inr (by decide +kernel)) (by rw [isSubtype_type];kernel_rfl)
theorem entry_di_iter:entryFor table "dict_itemiterator.__iter__" =some Builtin.«dict_keyiterator.__iter__»:=
 entryFor_alias (id':= "dict_keyiterator.__iter__") (by kernel_rfl) rfl (by decide +kernel) (by kernel_rfl)
theorem args_di_iter(a:Value):argsOk "dict_itemiterator.__iter__" ⟨[a],[]⟩:=by unfold argsOk;kernel_rfl
theorem self_iter{T id nid:String}{a:Addr}{Q:Value→Shared→Prop}(hT:s.TypeIs (.ref a) T)(slot:Slot T "__iter__" id)(entry:entryFor table id=some Builtin.«dict_keyiterator.__iter__»)(args:argsOk id ⟨[.ref a],[]⟩)
  (nx:Slot T "__next__" nid) (h:Q (.ref a) s):wpAny (model prog w) A (pyIter (.ref a)) Q E s:=by
 refine wpAny_pyIter_slot hT slot (wpAny_call_entry slot hT entry ?_ args);show wpAny _ _ (ret (.ref a)) _ _ s;exact wpAny_pure ⟨_,rfl,T,_,hT,nx.lookup,h⟩
theorem wIfN{α:Type}{M:Model}{c:Prop}[Decidable c]{x y:Sem α}{Q:α→Shared→Prop}(h:¬c)(q:wpAny M A y Q E s):wpAny M A (if c then x else y) Q E s:=if_neg h▸q
theorem wIfP{α:Type}{M:Model}{c:Prop}[Decidable c]{x y:Sem α}{Q:α→Shared→Prop}(h:c)(q:wpAny M A x Q E s):wpAny M A (if c then x else y) Q E s:=if_pos h▸q
theorem stop_ok{α:Type}{Q:Option Value→Shared→Prop}(hh:A.handled=none)(h:∀h',(∀b o,s.heap.get? b=some o→h'.get? b=some o)→s.heap.objs.size≤h'.objs.size→Q none {s with heap:=h'}):
  wpAny (model prog w) A.in1 (Builtin.SmallTypes.stopIteration:Sem α) (fun X X=>False) (fun e s'=>wpAny (model prog w) A (do if←isInstance e (.type "StopIteration") then pure none else throw e) Q E s') s:=by
 unfold Builtin.SmallTypes.stopIteration;refine wpAny_bind ?_;simp only [newExc,newTuple];refine wpAny_bind (wpAny_newObj_type ?_ (by size_fits));refine wpAny_bind (m:=firstArgMember _ _) (wpAny_of_eq (a:=Value.none) (by first | rfl | (simp only [firstArgMember];rfl)) ?_);refine wpAny_newObj_type ?_ (by size_fits);refine wpAny_bind (wpAny_handled ?_);rw [show A.in1.handled=none from hh];refine wpAny_bind (wpAny_pure (wpAny_throw ?_));refine wpAny_bind (wpAny_isInstance (T:= "StopIteration") (b:=true) ⟨_,Heap.get?_push_size _ rfl,rfl⟩ isSubtype_stop ?_);exact wpAny_pure (h _ (fun b o e=>Heap.get?_push_of_some _ (Heap.get?_push_of_some _ e)) (by simp only [Heap.size_push];lia))
theorem zdS(t:SetTable)(n:Nat):(t.orStandIn n).led=t.led:=by unfold SetTable.orStandIn;split <;> rfl
theorem zcz{t:SetTable}{n:Nat}(h:t.plain=false):(t.orStandIn n).plain=false:=by unfold SetTable.orStandIn;split <;> first | exact h | rfl
theorem zhB(t:SetTable)(es:Array (Int×Value))(h:Int)(x:Value):(layNew t es h x).2.1.led=t.led:=by
 unfold layNew
 split
 ·dsimp only;rw [zdS];rfl
 ·rfl
theorem zeT{t:SetTable}(es:Array (Int×Value))(h:Int)(x:Value)(hp:t.plain=false):(layNew t es h x).2.1.plain=false:=by
 unfold layNew
 split
 ·dsimp only;exact zcz hp
 ·rfl
theorem zdi{t t':SetTable}{hs:Array Int}{n:Nat}{o:Array Nat}(h:t.relaid hs n=some (t',o)):t'.led=t.led∧t'.plain=t.plain:=by
 unfold SetTable.relaid SetTable.laid at h;simp only [Option.bind_eq_bind,Option.bind_eq_some_iff,Option.pure_def,Option.some.injEq,Prod.mk.injEq] at h;obtain ⟨X,Z,rfl,Y⟩:=h;exact ⟨rfl,rfl⟩
set_option tactic.hygienic true in
theorem zeF(t:SetTable)(es:Array (Int×Value))(n:Nat):(relayAll t es n).2.1.led=t.led:=by
 unfold relayAll
 split
 ·rename_i t' o e
  dsimp only
  split
  ·exact (zdi e).1
  ·rfl
 ·rfl
set_option tactic.hygienic true in
theorem zd6{t:SetTable}(es:Array (Int×Value))(n:Nat)(hp:t.plain=false):(relayAll t es n).2.1.plain=false:=by
 unfold relayAll
 split
 ·rename_i t' o e
  dsimp only
  split
  ·exact (zdi e).2.trans hp
  ·rfl
 ·rfl
noncomputable abbrev zav(es:Array (Int×Value))(ep:Nat)(t:SetTable):Obj:={cls:= .type "set",data:= .set es ep t}
section
variable {K:Type} [DecidableEq K] {knd:KeyKind prog w K}
theorem store_at{h:Heap}{a:Addr}{es es':Array (Int×Value)}{ep:Nat}{t t':SetTable}(ho:h.get? a=some (zav es ep t)):(h.update a (Obj.putSet es' t')).get? a=some (zav es' (ep+1) t'):=by
 have:=Heap.get?_update_self (Obj.putSet es' t') ho (by rw [putSet_of (o:=zav es ep t) es' t' rfl];rfl);rw [putSet_of (o:=zav es ep t) es' t' rfl] at this;exact this
theorem zfW{g:Bool→Sem Unit}(hg:∀(b:Bool) (s₁:Shared) (Q':Unit→Shared→Prop),Q' () s₁→wpAny (model prog w) A (g b) Q' E s₁)
  {a:Addr} {es:Array (Int×Value)} {ep:Nat} {t:SetTable} (ho:s.heap.get? a=some (zav es ep t))
  {es1:Array (Int×Value)} {t2:SetTable} (hb1:es1.size<scanBound) (hf2:t2.fits es1.size=true) {wasDummy:Bool} {R:Option Bool→Shared→Prop}
  (h:∀h' es' ep' t',Heap.SameBut a s.heap h'→h'.get? a=some (zav es' ep' t')→List.Perm es'.toList es1.toList→t'.fits es'.size=true→t'.led=t2.led→(t2.plain=false→t'.plain=false)→R (some true) {s with heap:=h'}):
  wpAny (model prog w) A (do
    storeSet a es1 t2
    if (!wasDummy&&t2.tooFull)=true then do
      g (relayAll t2 es1 (SetTable.grown es1.size)).2.2
      storeSet a (relayAll t2 es1 (SetTable.grown es1.size)).1 (relayAll t2 es1 (SetTable.grown es1.size)).2.1
      pure (some true)
     else pure (some true)) R E s:=by
 refine wpAny_bind (wpAny_storeSet_of ho rfl ?_ (fits_of_scanBound hb1));have ho1:(s.heap.update a (Obj.putSet es1 t2)).get? a=_:=store_at (es':=es1) (t':=t2) ho;have hsb1:=Heap.SameBut.update s.heap a (Obj.putSet es1 t2)
 split
 ·have hp:=relayAll_perm t2 es1 (SetTable.grown es1.size)
  have hfr:=relayAll_fits t2 es1 (SetTable.grown es1.size);have hl:=zeF t2 es1 (SetTable.grown es1.size);have hq:=fun q=>zd6 es1 (SetTable.grown es1.size) (t:=t2) q;generalize relayAll t2 es1 (SetTable.grown es1.size)=Rl at hp hfr hl hq⊢;obtain ⟨es2,t3,gave2⟩:=Rl
  dsimp only at hp hfr hl hq⊢
  have hsz:es2.size=es1.size:=by rw [←Array.length_toList,hp.length_eq,Array.length_toList]
  refine wpAny_bind (hg _ _ _ ?_);refine wpAny_bind (wpAny_storeSet_of (o:=zav es1 (ep+1) t2) ho1 rfl ?_ (fits_of_scanBound (by rw [hsz];exact hb1)));exact wpAny_pure (h _ es2 _ t3 (hsb1.trans (Heap.SameBut.update _ a _)) (store_at ho1) hp hfr hl hq)
 ·exact wpAny_pure (h _ es1 _ t2 hsb1 ho1 (List.Perm.refl _) hf2 rfl id)
theorem addHashed_ok{a:Addr}{es:Array (Int×Value)}{ep:Nat}{t:SetTable}{k:K}{x:Value}{Q:Bool→Shared→Prop}(hkey:knd.is k x=true)(hsc:x.scannable=true)
  (ho:s.heap.get? a=some (zav es ep t)) (hf:t.fits es.size=true) (hel:ElemsOf knd es.toList) (hb:es.size+1<scanBound)
  (h0:(∃e∈es.toList,knd.is k e.2=true)→Q false s)
  (h1:(¬∃e∈es.toList,knd.is k e.2=true)→∀h' es' ep' t',Heap.SameBut a s.heap h'→h'.get? a=some (zav es' ep' t')→List.Perm es'.toList (es.toList ++ [(knd.hash k,x)])→t'.fits es'.size=true→t'.led=t.led→
   (plainKind x=false∨t.plain=false→t'.plain=false)→Q true {s with heap:=h'}):
  wpAny (model prog w) A (setAddHashed a x (knd.hash k)) Q E s:=by
 unfold setAddHashed setAddHashedIn;refine wpAny_holding (wpAny_bind (wpAny_setState_of (o:=zav es ep t) ho rfl hf ?_))
 dsimp only
 rw [byScan_of hsc (Nat.lt_of_succ_lt hb) hel];simp only [↓reduceIte];unfold setAddByScan;refine wpAny_bind ?_;refine wpAny_bind (wpAny_rule ?_);refine wpAny_bind (wpAny_setScan_of hkey (o:=zav es ep t) ho rfl hf hel ?_);induction hr:List.findIdx? (fun e=>knd.is k e.2) es.toList with
 | some j=>
  dsimp only
  have tm103:=List.findIdx?_eq_some_iff_getElem.mp hr;have hj:=tm103.1;have hpj:=tm103.2.1;exact wpAny_pure (wpAny_pure (h0 ⟨_,List.getElem_mem hj,hpj⟩))
 | none=>
  dsimp only
  have hno:¬∃e∈es.toList,knd.is k e.2=true:=by
   rintro ⟨e,he,hp⟩
   have:=List.findIdx?_eq_none_iff.mp hr e he;rw [hp] at this;cases this
  have hgw:∀(b:Bool) (s₁:Shared) (Q':Unit→Shared→Prop),Q' () s₁→wpAny (model prog w) A (match b with | true=>rule "set.scan.the-table-gave-way" | false=>pure ()) Q' E s₁:=
   fun b s₁ Q' hq=>by induction b <;> first | exact wpAny_pure hq | exact wpAny_rule hq
  have hperm:=layNew_perm t es (knd.hash k) x;have hfits:=layNew_fits t es (knd.hash k) x;have hled:=zhB t es (knd.hash k) x;have hpl:=fun q=>zeT (t:=t) es (knd.hash k) x q;generalize layNew t es (knd.hash k) x=L at hperm hfits hled hpl⊢;obtain ⟨es1,t1,wasDummy,gave⟩:=L
  dsimp only at hperm hfits hled hpl⊢
  rw [Array.toList_push] at hperm;have hb1:es1.size<scanBound:=by rw [←Array.length_toList,hperm.length_eq,List.length_append,Array.length_toList];simpa using hb
  refine wpAny_bind (hgw _ _ _ ?_);have fin:∀(t2:SetTable),t2.fits es1.size=true→t2.led=t1.led→(plainKind x=false∨t.plain=false→t2.plain=false)→∀h' es' ep' t',Heap.SameBut a s.heap h'→h'.get? a=some (zav es' ep' t')→List.Perm es'.toList es1.toList→t'.fits es'.size=true→t'.led=t2.led→
    (t2.plain=false→t'.plain=false)→Q true {s with heap:=h'}:=fun t2 X q1 q2 h' es' ep' t' a1 a2 a3 a4 a5 a6=>
   h1 hno h' es' ep' t' a1 a2 (a3.trans hperm) a4 (a5.trans (q1.trans hled)) fun q=>a6 (q2 q)
  split
  ·rename_i hp1
   refine wpAny_bind ?_;rw [hashByValue_scannable 8 hsc];refine wpAny_pure ?_;induction hk:plainKind x with
   | true=>
    simp only [↓reduceIte]
    refine zfW hgw ho hb1 hfits (fun h' es' ep' t' a1 a2 a3 a4 a5 a6=>?_);exact wpAny_pure (fin t1 hfits rfl (fun q=>q.elim (fun z=>by rw [hk] at z;cases z) hpl) h' es' ep' t' a1 a2 a3 a4 a5 a6)
   | false=>
    simp only [Bool.false_eq_true,↓reduceIte]
    refine zfW hgw ho hb1 (SetTable.fits_plain_off hfits) (fun h' es' ep' t' a1 a2 a3 a4 a5 a6=>?_);exact wpAny_pure (fin _ (SetTable.fits_plain_off hfits) rfl (fun X=>rfl) h' es' ep' t' a1 a2 a3 a4 a5 a6)
  ·rename_i hp1
   refine wpAny_bind (wpAny_pure ?_);simp only [↓reduceIte];refine zfW hgw ho hb1 hfits (fun h' es' ep' t' a1 a2 a3 a4 a5 a6=>?_);exact wpAny_pure (fin t1 hfits rfl (fun X=>by simpa using hp1) h' es' ep' t' a1 a2 a3 a4 a5 a6)
theorem newSet_led{Q:Value→Shared→Prop}(h:Q (.ref s.heap.objs.size) {s with heap:=s.heap.push (zav #[] 0 (.fresh 0 0 (!w.params.followText "set-order")))}):
  wpAny (model prog w) A (newSet (.type "set")) Q E s:=by
 unfold newSet setsByText;refine wpAny_bind (wpAny_bind (wpAny_askSetting (wpAny_pure ?_)))
 dsimp only
 simp only [newObj]
 exact wpAny_bind (wpAny_alloc (wpAny_pure h))
theorem zee{l:List Value}(hchk:checkBuiltinCall "set.__new__" ⟨.type "set" :: l,[]⟩ = pure ()){Q₁:Value→Shared→Prop}
  (hl:l.length≤1) (h:Q₁ (.ref s.heap.objs.size) {s with heap:=s.heap.push (zav #[] 0 (.fresh 0 0 (!w.params.followText "set-order")))}):
  codeAny (model prog w) A (.call (.builtin "set.__new__") ⟨.type "set" :: l, []⟩) (wants Q₁ E) s:=by
 refine codeAny_of_tree ?_;show wpAny _ A.in1 (do checkBuiltinCall "set.__new__" ⟨.type "set" :: l, []⟩;again (.builtin "set.__new__" ⟨.type "set" :: l, []⟩)) _ _ s;refine wpAny_bind (wpAny_of_eq hchk (wpAny_pure ⟨plainId_quiet PySem.F.plain_set_new _,codeAny_builtin PySem.F.entry_set_new ?_⟩));rw [Around.under_plainId PySem.F.plain_set_new _];unfold Builtin.«set.__new__» Builtin.Frozenset.newClass;have hsub:=sub_set_self;obtain ⟨hp,g,d,tk,os⟩:=s
 dsimp only
 rcases l with _ | ⟨x,_ | ⟨y,r⟩⟩
 ·wp_walk
  refine wpAny_askSetting (wpAny_pure ?_)
  dsimp only
  simp only [newObj]
  refine wpAny_bind (wpAny_alloc (wpAny_pure ?_));exact wpAny_pure h
 ·wp_walk
  refine wpAny_askSetting (wpAny_pure ?_)
  dsimp only
  simp only [newObj]
  refine wpAny_bind (wpAny_alloc (wpAny_pure ?_));exact wpAny_pure h
 ·simp at hl
end
end Mine
end
section
open PySem PySem.W PyProof.Rows PySem.Calls PySem.Spec
namespace Mine
variable {prog:Program} {w:World} {A:Around} {E:Value→Shared→Prop} {s:Shared} {I S:Addr} {es:Array (Int×Value)} {ep:Nat} {t:SetTable}
section
variable {R:Result→Shared→Prop} {fp wr:List Addr} {G:Array GenState→Array GenState→Prop} {n:Nat} {P:Nat→Value→Prop} {St:Nat→Shared→Prop}
end
set_option maxHeartbeats 3200000 in
theorem zlY{args:List Value}{Q Q₁:Value→Shared→Prop}(hct:checkTypeCall "set" ⟨args,[]⟩ = pure ())(hn:codeAny (model prog w) A.in1 (.call (.builtin "set.__new__") ⟨.type "set" :: args,[]⟩) (wants Q₁ E) s)
  (hi:∀obj s₁,Q₁ obj s₁→s₁.TypeIs obj "set" ∧codeAny (model prog w) A.in1 (.call (.builtin "set.__init__") ⟨obj :: args, []⟩) (wants (fun r s₂=>r = .none∧Q obj s₂) E) s₁):wpAny (model prog w) A (call (.type "set") args) Q E s:=by
 obtain ⟨c,tl,hmro⟩:=PySem.F.called_set.mro;have hmade:=PySem.F.called_set.made;have hsub:=PySem.F.called_set.sub;refine wpAny_call (codeAny_of_tree ?_);show wpAny _ _ (callAny (.type "set") _) _ _ _;refine wpAny_pure ⟨Code.quiet_builtin _ (by decide +kernel),codeAny_builtin F.entry_type_call ?_⟩;rw [Around.under_plain (weight_type_call_type "set" args []) rfl];have h1:=PySem.F.called_set.notType;have h2:=PySem.F.called_set.canCreate
 repeat (any_goals (first | assumption | wp_step))
 refine codeAny_mono hn fun r s₁ hr=>?_;induction r with
 | error e=>exact hr
 | ok fl=>
  induction fl with
  | ret obj=>
   obtain ⟨hT,hc⟩:=hi _ _ hr;have hli:=PySem.F.called_set.init.lookup;have hbi:=PySem.F.called_set.init.bind obj
   repeat (any_goals (first | assumption | wp_step))
   refine codeAny_mono hc fun r₂ s₂ hr₂=>?_;induction r₂ with
   | error e=>exact hr₂
   | ok fl₂=>
    induction fl₂ with
    | ret r=>
     obtain ⟨rfl,hq⟩:=hr₂
     repeat (any_goals (first | assumption | wp_step))
    | _=>exact hr₂.elim
  | _=>exact hr.elim
theorem call_set_nil{Q:Value→Shared→Prop}(h:Q (.ref s.heap.objs.size) {s with heap:=s.heap.push (zav #[] 0 (.fresh 0 0 (!w.params.followText "set-order")))}):
  wpAny (model prog w) A (call (.type "set") []) Q E s:=by
 refine zlY PySem.F.typeCall_set_0 (zee (l:= []) PySem.F.newCall_set_0 (E:=E) (Q₁:=fun obj s₁=>obj = .ref s.heap.objs.size∧s₁ = {s with heap:=s.heap.push (zav #[] 0 (.fresh 0 0 (!w.params.followText "set-order")))}) (by simp) ⟨rfl,rfl⟩) fun obj s₁ hr=>?_
 obtain ⟨rfl,rfl⟩:=hr;have hT:Shared.TypeIs {s with heap:=s.heap.push (zav #[] 0 (.fresh 0 0 (!w.params.followText "set-order")))} (.ref s.heap.objs.size) "set" :=⟨_,Heap.get?_push_size _ rfl,rfl⟩
 refine ⟨hT,codeAny_call_builtin PySem.F.called_set.init.plain PySem.F.entry_set_init (check_set_init hT ?_)⟩;unfold Builtin.«set.__init__» noKeywords
 wp_walk
 exact ⟨rfl,h⟩
theorem entry_set_pop:entryFor table "set.pop" =some Builtin.«set.pop»:=entryFor_of_tree (by kernel_rfl)
theorem wpAny_choose{src:Source}{n:Nat}{Q:Nat→Shared→Prop}(hn:n≠0)(h:∀i,i<n→∀d,Q i {s with drawn:=d}):wpAny (model prog w) A (choose src n) Q E s:=fun Γ p hΓ=>by
 unfold choose;rw [Sem.wp_choose];refine ⟨hn,?_⟩;rw [Sem.wp_pure];exact h _ (Nat.mod_lt _ (Nat.pos_of_ne_zero hn)) _
theorem byText_ok{Q:Bool→Shared→Prop}(h:Q (w.params.followText "set-order") s):wpAny (model prog w) A setsByText Q E s:=by
 unfold setsByText;exact wpAny_bind (wpAny_askSetting (wpAny_pure h))
section
variable {T:Addr}
theorem size_one{α:Type}{xs:Array α}(h:xs.size=1):∃x,xs = #[x]:=Array.size_eq_one_iff.mp h
end
end Mine
end
section
open PySem
namespace Mine
theorem upd_size(h:Heap)(a:Addr)(f:Obj→Obj):(h.update a f).objs.size=h.objs.size:=(Heap.SameBut.update h a f).1
theorem zcv{M:Model}{Γ:Ctx}{p:Pos}{t:Sem Fin}{fs:List Frame}{s s':Shared}{e:End}(h:Runs M Γ p t fs s e s'):s.heap.objs.size≤s'.heap.objs.size:=by
 induction h <;> (try simp only [Shared.setGen,upd_size,Heap.size_push] at *) <;> lia
theorem zeE{M:Model}{Γ:Ctx}{p:Pos}{s s':Shared}{r:Result}(h:Returns M Γ p s r s'):s.heap.objs.size≤s'.heap.objs.size:=zcv h
theorem zhd{M:Model}{Γ:Ctx}{p:Pos}{g:Nat}{r:Resume}{s s':Shared}{res:GenResult}(h:Wakes M Γ p g r s res s'):s.heap.objs.size≤s'.heap.objs.size:=by
 unfold Wakes at h;generalize s.gens[g]? = o at h;induction o with
 | none=>exact h.elim
 | some x=>
  induction x with
  | fresh c=>induction r with
   | send v=>induction v with
    | none=>
     obtain ⟨X,s₁,hr,Z,Y,rfl⟩:=h;exact (zcv hr:(s.setGen g .running).heap.objs.size≤s₁.heap.objs.size)
    | _=>exact h.2▸Nat.le_refl _
   | throw x=>exact h.2▸Nat.le_refl _
  | suspended=>
   obtain ⟨X,s₁,hr,Z,Y,rfl⟩:=h;exact (zcv hr:(s.setGen g .running).heap.objs.size≤s₁.heap.objs.size)
  | _=>exact h.2▸Nat.le_refl _
theorem zny{α:Type}(M:Model)(Γ:Ctx)(n:Nat)(t:Sem α):∀(Q:α→Pos→Shared→Prop) (E:Value→Pos→Shared→Prop) (p:Pos) (s:Shared),n≤s.heap.objs.size→
  Sem.wp M Γ t (fun a p' s'=>n≤s'.heap.objs.size→Q a p' s') (fun e p' s'=>n≤s'.heap.objs.size→E e p' s') p s→Sem.wp M Γ t Q E p s:=by
 induction t with
 | pure a=>intro Q E p s hn h;exact h hn
 | raise e=>intro Q E p s hn h;exact h hn
 | unsupported X=>intro Q E p s _ h;exact h
 | finish X=>intro Q E p s _ h;exact h
 | rule X k ih=>intro Q E p s hn h;exact ih () Q E p s hn h
 | «at» p' k ih=>intro Q E p s hn h;exact ih () Q E p' s hn h
 | load a X k ih=>intro Q E p s hn h;obtain ⟨o,ho,h⟩:=h;exact ⟨o,ho,ih o Q E p s hn h⟩
 | update a X f k ih=>intro Q E p s hn h;exact ⟨h.1,ih () Q E p _ (by rw [upd_size];exact hn) h.2⟩
 | loadIfAlive a k ih=>intro Q E p s hn h;exact ih _ Q E p s hn h
 | point X k ih=>intro Q E p s hn h;exact ih () Q E p s hn h
 | register X Z=>intro Q E p s _ h;exact h
 | alloc o k ih=>intro Q E p s hn h;exact ih _ Q E p _ (by rw [Heap.size_push];lia) h
 | fresh k ih=>intro Q E p s hn h;exact ih _ Q E p _ hn h
 | ask k ih=>intro Q E p s hn h;exact ih _ Q E p s hn h
 | choose src m k ih=>intro Q E p s hn h;exact ⟨h.1,ih _ Q E p _ hn h.2⟩
 | os q X k ih=>intro Q E p s hn h;exact ih _ Q E p _ hn h
 | call c hd X Z k ih=>intro Q E p s hn h;obtain ⟨r,s',hr,h⟩:=h;exact ⟨r,s',hr,ih r Q E p s' (Nat.le_trans hn (zeE hr)) h⟩
 | handled own k ih=>intro Q E p s hn h;exact ih _ Q E p s hn h
 | genState g k ih=>intro Q E p s hn h;obtain ⟨st,hs,h⟩:=h;exact ⟨st,hs,ih _ Q E p s hn h⟩
 | newGen c k ih=>intro Q E p s hn h;exact ih _ Q E p _ hn h
 | resume g r X k ih=>intro Q E p s hn h;obtain ⟨res,s',hw,h⟩:=h;exact ⟨res,s',hw,ih res Q E p s' (Nat.le_trans hn (zhd hw)) h⟩
 | yield X Z Y J=>intro Q E p s _ h;exact h
 | stack k ih=>intro Q E p s hn h;exact ih _ Q E p s hn h
 | fork X Z=>intro Q E p s _ h;exact h
 | thread k ih=>intro Q E p s hn h;exact ih _ Q E p s hn h
 | await X Z Y J U=>intro Q E p s _ h;exact h
theorem wpAny_szE{α:Type}{M:Model}{A:Around}{E:Value→Shared→Prop}{s:Shared}{t:Sem α}{Q:α→Shared→Prop}(h:wpAny M A t (fun a s'=>s.heap.objs.size≤s'.heap.objs.size→Q a s') (fun e s'=>s.heap.objs.size≤s'.heap.objs.size→E e s') s):wpAny M A t Q E s:=
 fun Γ p hΓ=>zny M Γ s.heap.objs.size t _ _ p s (Nat.le_refl _) (h Γ p hΓ)
theorem wpAny_sz{α:Type}{M:Model}{A:Around}{E:Value→Shared→Prop}{s:Shared}{t:Sem α}{Q:α→Shared→Prop}(h:wpAny M A t (fun a s'=>s.heap.objs.size≤s'.heap.objs.size→Q a s') E s):wpAny M A t Q E s:=
 wpAny_szE (wpAny_mono h (fun X X z=>z) fun X X z X=>z)
end Mine
end
section
open PySem PySem.W PyProof.Rows PySem.Calls PySem.Spec
namespace Mine
section
variable {prog:Program} {w:World} {A:Around} {E:Value→Shared→Prop} {s:Shared} {S I T:Addr} {es:Array (Int×Value)} {ep:Nat} {t:SetTable}
end
end Mine
end
section
open PySem PySem.W PyProof.Rows PySem.Calls PySem.Builtin.Re
namespace Mine
theorem entry_pattern_search:entryFor table "re.Pattern.search" =some Builtin.«re.Pattern.search»:=entryFor_of_tree (by kernel_rfl)
theorem args_pattern_search(a b:Value):argsOk "re.Pattern.search" ⟨[a,b],[]⟩:=by unfold argsOk;kernel_rfl
theorem reNamed_one(v:Value):reNamed "re.Pattern.search" "search" ["string", "pos", "endpos"] 1 [v] []=pure [some v,none,none]:=by kernel_rfl
noncomputable def rxHit(code:Array Nat)(c:Nat):Bool:=Except.casesOn (motive:=fun X=>Bool) (Sre.inSet code c code.size 5 true {}) (fun X=>true) fun x=>x.1
noncomputable def zeL{α β ε:Type}(x:Except ε (α×β)):Option α:=Except.casesOn (motive:=fun X=>Option α) x (fun X=>none) fun x=>some x.1
theorem zdq(code:Array Nat)(c:Nat):∀(fuel i:Nat) (yes:Bool) (s t:Sre.Seen),zeL (Sre.inSet code c fuel i yes s)=zeL (Sre.inSet code c fuel i yes t)
 | 0,_,_,_,_=>rfl
 | fuel+1,i,yes,s,t=>by
  have ih:=zdq code c fuel;have ifs:∀{p:Bool} {x y x' y':Except String (Bool×Sre.Seen)},zeL x=zeL x'→zeL y=zeL y'→zeL (if p=true then x else y)=zeL (if p=true then x' else y'):=fun {p} {_ _ _ _} a b=>by
   induction p with
   | true=>exact a
   | false=>exact b
  conv=>lhs;arg 1;whnf
  conv=>rhs;arg 1;whnf
  generalize Sre.ops[code.getD (i+0) 0]? = o;induction o with
  | none=>exact (rfl:(none:Option Bool)=none)
  | some op=>induction op with
   | FAILURE=>exact (rfl:some (!yes)=some (!yes))
   | NEGATE=>exact ih _ _ _ _
   | LITERAL=>exact ifs rfl (ih _ _ _ _)
   | RANGE=>exact ifs rfl (ih _ _ _ _)
   | RANGE_UNI_IGNORE=>exact ifs rfl (ih _ _ _ _)
   | CATEGORY=>
    induction Sre.category (code.getD (i+1) 0) c with
    | error e=>exact (rfl:(none:Option Bool)=none)
    | ok b=>exact ifs rfl (ih _ _ _ _)
   | CHARSET=>exact ifs rfl (ih _ _ _ _)
   | BIGCHARSET=>exact ifs rfl (ih _ _ _ _)
   | _=>exact (rfl:(none:Option Bool)=none)
theorem zqG{code:Array Nat}{c:Nat}(h:rxHit code c=false)(s:Sre.Seen):∃t,Sre.inSet code c code.size 5 true s = .ok (false,t):=by
 have e:=zdq code c code.size 5 true {} s;unfold rxHit at h;revert h e;induction Sre.inSet code c code.size 5 true {} with
 | error=>exact fun h=>nomatch h
 | ok x=>
  induction Sre.inSet code c code.size 5 true s with
  | error=>exact fun X e=>nomatch e
  | ok y=>exact fun h e=>⟨y.2,congrArg Except.ok (Prod.ext ((Option.some.inj e).symm.trans h) rfl)⟩
theorem zbJ(m:Sre.M)(h:∀i,i<m.lim→rxHit m.code (m.text.getD i 0)=false):∀(fuel s:Nat) (seen:Sre.Seen),∃t,Sre.M.admitted m fuel s seen = .ok (none,t)
 | 0,s,seen=>⟨seen,rfl⟩
 | fuel+1,s,seen=>by
  by_cases hs:s≥m.lim
  ·exact ⟨seen,if_pos hs⟩
  ·obtain ⟨t,e⟩:=zqG (h s (Nat.lt_of_not_le hs)) seen
   obtain ⟨u,q⟩:=zbJ m h fuel (s+1) t;refine ⟨u,(if_neg hs).trans ?_⟩;rw [e];exact q
theorem zcY{m:Sre.M}{code text:Array Nat}{f s:Nat}{seen:Sre.Seen}{r:Except String (Option Nat×Sre.Seen)}(e:m.admitted f s seen=r)(hc:m.code=code)(ht:m.text=text)(hl:m.lim=text.size)
  (h:∀i,i<text.size→rxHit code (text.getD i 0)=false):∃t,r = .ok (none,t):=by
 subst hc ht;obtain ⟨t,q⟩:=zbJ m (fun i hi=>h i (hl▸hi)) f s seen;exact ⟨t,e.symm.trans q⟩
structure SaidNo(m:Sre.M):Prop where
 out:m.outcome=none
 ans:m.answer=some false
 frs:m.frames = []
set_option tactic.hygienic true in
theorem zig(code text:Array Nat)(groups:Nat)(hs:Sre.ops[code.getD 0 0]? = some .INFO)(h4:code.getD 2 0=4)(h:∀i,i<text.size→rxHit code (text.getD i 0)=false):
  SaidNo (Sre.forSearch code text groups 0 text.size false):=by
 unfold Sre.forSearch
 dsimp only
 split
 ·exact ⟨rfl,rfl,rfl⟩
 ·unfold Sre.M.attemptFrom
  have hf:∀m:Sre.M,m.code=code→m.hasFirstSet=true:=by
   intro m e;unfold Sre.M.hasFirstSet;rw [e,h4,hs]
   rfl
  rw [hf _ rfl];simp only [Bool.not_true,Bool.false_eq_true,if_false]
  split
  ·rename_i s seen e
   obtain ⟨t,e'⟩:=zcY e rfl rfl rfl h
   cases e'
  ·exact ⟨rfl,rfl,rfl⟩
  ·rename_i e
   obtain ⟨t,e'⟩:=zcY e rfl rfl rfl h
   cases e'
theorem zeD{m:Sre.M}(h:SaidNo m):(m.runFor 4).outcome=some .failed:=by
 obtain ⟨h1,h2,h3⟩:=h;have e1:m.step = {m with outcome:=some (.failed)}:=by
  unfold Sre.M.step;rw [h1,h2,h3]
  rfl
 conv=>lhs;arg 1;whnf
 rw [h1];refine (congrArg (fun x:Sre.M=>(x.runFor 3).outcome) e1).trans ?_
 rfl
section
variable {prog:Program} {w:World} {A:Around} {E:Value→Shared→Prop} {s:Shared}
theorem zhv{m:Sre.M}(h:SaidNo m):∀n,reDrive (n+1) m=pure (m.runFor 4):=by
 intro n;unfold reDrive
 dsimp only
 rw [show reTurnSteps=4 from rfl,zeD h]
 rfl
theorem rules_only{l:List Nat}{f:Nat→Sem (ForInStep PUnit)}{Q:PUnit→Shared→Prop}(hf:∀i (Q:ForInStep PUnit→Shared→Prop) (s:Shared),Q (.yield PUnit.unit) s→wpAny (model prog w) A (f i) Q E s)(h:Q PUnit.unit s):
  wpAny (model prog w) A (forIn l PUnit.unit fun i X=>f i) Q E s:=by
 induction l with
 | nil=>rw [List.forIn_nil];exact wpAny_pure h
 | cons x l ih=>
  rw [List.forIn_cons];exact wpAny_bind (hf x _ s ih)
theorem zfs{m:Sre.M}(hm:SaidNo m){Q:Option Sre.M→Shared→Prop}(h:Q none s):wpAny (model prog w) A (reRunToEnd m) Q E s:=by
 unfold reRunToEnd;rw [show (2:Nat)^64=18446744073709551615+1 from rfl,zhv hm];refine wpAny_bind (wpAny_pure ?_);refine wpAny_bind (rules_only (fun i Q s q=>?_) ?_)
 ·split
  ·exact wpAny_bind (wpAny_rule (wpAny_pure q))
  ·exact wpAny_pure q
 ·rw [zeD hm]
  exact wpAny_pure h
theorem search_ok{a T:Addr}{vs items:Array Value}{o:Obj}{n:Nat}{x:Str}{t:Tok}{Q:Value→Shared→Prop}(ho:s.heap.get? a=some {cls:= .type "re.Pattern",data:= .fields vs})(h6:∃u,vs.getD 6 .none = .int 0 u)(h5:vs.getD 5 .none = .ref T)(hT:s.heap.get? T=some o)(hd:o.data = .seq items n)
  (hs:Sre.ops[((items.map reRawOf).map (·.toNat)).getD 0 0]? = some .INFO) (h4:((items.map reRawOf).map (·.toNat)).getD 2 0=4) (hx:∀c∈x.cps.toList,rxHit ((items.map reRawOf).map (·.toNat)) c=false) (hz:x.cps.size<2^62) (h:Q .none s):
  wpAny (model prog w) A (call (.builtin "re.Pattern.search") [.ref a, .str x t]) Q E s:=by
 have slot:Slot "re.Pattern" "search" "re.Pattern.search" :=
  .of (owner:= "re.Pattern") (n:= "search") (by rw [typeLookup_type,builtinLookup_eq_fast];kernel_rfl) (by decide +kernel) (by decide +kernel) (by decide +kernel)
   (by first | exact .inl (by decide +kernel) | exact .inr (by decide +kernel)) (by rw [isSubtype_type];kernel_rfl)
 refine wpAny_call_entry slot ⟨_,ho,rfl⟩ entry_pattern_search ?_ (args_pattern_search _ _);unfold Builtin.«re.Pattern.search»;refine wpAny_bind ?_;unfold reTarget
 dsimp only
 rw [reNamed_one];refine wpAny_bind (wpAny_pure ?_)
 dsimp only
 refine wpAny_bind (wpAny_pure (wpAny_bind (wpAny_pure ?_)));refine wpAny_bind (wpAny_fieldsOf ho rfl ?_);refine wpAny_bind (m:=reTextOf _) ?_;unfold reTextOf;refine wpAny_bind (m:=asStr? (.str x t)) (wpAny_pure ?_);refine wpAny_pure ?_
 dsimp only
 obtain ⟨u,h6⟩:=h6;rw [h6,h5];show wpAny _ _ (do
  reNoCollectionInside (.str x t) 0
  let items←reRawItems (.ref T)
  pure (ReTarget.mk (.ref a) (.str x t) (items.map (·.toNat)) x.cps 0 (reRawNat (vs.getD 2 .none)) (min (0:Int).toNat x.cps.size) (min (2^63-1:Int).toNat x.cps.size))) _ _ _
 refine wpAny_bind (m:=reNoCollectionInside _ _) (wpAny_pure ?_);refine wpAny_bind ?_;unfold reRawItems;refine wpAny_bind (wpAny_seqItems hT hd (wpAny_pure (wpAny_pure ?_)));unfold reAnswer
 dsimp only [Option.getD]
 have e1:min (0:Int).toNat x.cps.size=0:=by simp
 have e2:min (2^63-1:Int).toNat x.cps.size=x.cps.size:=by
  have:(2^63-1:Int).toNat=9223372036854775807:=by decide
  rw [this];lia
 rw [e1,e2];refine wpAny_bind (zfs (zig _ _ _ hs h4 fun i hi=>?_) ?_)
 ·refine hx _ ?_
  rw [Array.getD_eq_getD_getElem?,Array.getElem?_eq_getElem hi];simp
 ·exact wpAny_pure ⟨_,rfl,h⟩
end
end Mine
end
section
open PySem
namespace Mn
noncomputable def cL:= @List.casesOn
noncomputable def cE:= @PySem.Expr.casesOn
theorem aI{a b:Bool}(h:(a&&b)=true):a=true∧b=true:=Bool.and_eq_true_iff.mp h
noncomputable def wB:= @wpAny_bind
noncomputable def wP:= @wpAny_pure
noncomputable def wH:= @wpAny_holding
noncomputable def lT:= @Nat.le_trans
noncomputable def oD:= @of_decide_eq_true
noncomputable def sI:= @Option.some.inj
noncomputable def lL:= @Nat.lt_of_lt_of_le
noncomputable def lE:= @Nat.lt_of_le_of_lt
noncomputable def jL:= @Nat.le_of_ble_eq_true
noncomputable def mG:= @List.mem_of_getElem?
noncomputable def pS:= @Heap.get?_push_of_some
noncomputable def pZ:= @Heap.get?_push_size
noncomputable def fT:= @Bool.eq_false_or_eq_true
theorem iE{α:Type _}{x:Option α}(h:x.isSome=true):∃a,x=some a:=Option.isSome_iff_exists.mp h
theorem bE{α β:Type _}{o:Option α}{f:α→Option β}{b:β}(h:o.bind f=some b):∃a,o=some a∧f a=some b:=Option.bind_eq_some_iff.mp h
theorem jE{α β:Type _}{o:Option α}{f:α→β}{b:β}(h:o.map f=some b):∃a,o=some a∧f a=b:=Option.map_eq_some_iff.mp h
theorem gE{α:Type _}{l:List α}{i:Nat}{a:α}(e:l[i]? = some a):∃h:i<l.length,l[i]=a:=List.getElem?_eq_some_iff.mp e
noncomputable def mM:= @List.mem_cons_of_mem
noncomputable def mS:= @List.mem_cons_self
noncomputable def lO:= @Nat.le_of_lt
noncomputable def jD:= @Nat.add_le_add
noncomputable def rL:= @Nat.le_refl
theorem mP{α β:Type _}{b:β}{f:α→β}{l:List α}(h:b∈l.map f):∃a,a∈l∧f a=b:=List.mem_map.mp h
theorem eI{α:Type _}{l:List α}(h:l.isEmpty=true):l = []:=List.isEmpty_iff.mp h
noncomputable def mT:= @Nat.mod_lt
theorem jN{α:Type _}{o:Option α}(h:o.isNone=true):o=none:=Option.isNone_iff_eq_none.mp h
noncomputable def dT:= @decide_eq_true
noncomputable def qB:= @Nat.eq_of_beq_eq_true
theorem cP{α:Type _}{a b:α}{l:List α}(h:a∈b :: l):a=b∨a∈l:=List.mem_cons.mp h
theorem aT{α:Type _}{p:α→Bool}{l:List α}(h:l.all p=true):∀x∈l,p x=true:=List.all_eq_true.mp h
noncomputable def sS:= @Nat.lt_succ_self
noncomputable def pR:= @Nat.pow_le_pow_right
theorem lM{α β:Type _}{as:List α}(f:α→β):(as.map f).length=as.length:=List.length_map f
theorem lA{α:Type _}{as bs:List α}:(as++bs).length=as.length+bs.length:=List.length_append
theorem gG{α:Type _}{l:List α}{i:Nat}(h:i<l.length):l[i]?=some l[i]:=List.getElem?_eq_getElem h
theorem gD{α:Type _}{l:List α}{i:Nat}{a:α}:l.getD i a=l[i]?.getD a:=List.getD_eq_getElem?_getD
theorem mA{α β:Type _}{f:α→β}{l₁ l₂:List α}:(l₁++l₂).map f=l₁.map f++l₂.map f:=List.map_append
theorem aA{α:Type _}(a b c:List α):a++b++c=a++(b++c):=List.append_assoc a b c
theorem mC{α β:Type _}{f:α→β}{a:α}{l:List α}:(a::l).map f=f a::l.map f:=List.map_cons
theorem aL{α:Type _}(a:List α):a++[]=a:=List.append_nil a
theorem lR{n:Nat}:(List.range n).length=n:=List.length_range
theorem mN{β γ α:Type _}{g:β→γ}{f:α→β}{l:List α}:(l.map f).map g=l.map (g ∘ f):=List.map_map
theorem gM{α β:Type _}{f:α→β}{l:List α}{i:Nat}:(l.map f)[i]?=l[i]?.map f:=List.getElem?_map
theorem sM{α:Type _}{a b:α}(h:a∈[b]):a=b:=List.mem_singleton.mp h
theorem bS{α:Type _}[BEq α][ReflBEq α](a:α):(a==a)=true:=beq_self_eq_true a
theorem aO{a b:Prop}(h:a)(k:b):a∧b:=⟨h,k⟩
theorem rA(a b:Nat):a≤a+b:=Nat.le_add_right a b
theorem eL{a b:Nat}(h:a=b):a≤b:=Nat.le_of_eq h
theorem cN(n:Nat):(0:Int)≤n:=Int.natCast_nonneg n
theorem oL(n:Nat):0≤n:=Nat.zero_le n
theorem uL{a b:Nat}(h:a≤b):a.succ≤b.succ:=Nat.succ_le_succ h
theorem nL{a b:Nat}(h:a<b):¬b≤a:=Nat.not_le_of_lt h
theorem dF{p:Prop}[Decidable p](h:¬p):decide p=false:=decide_eq_false h
noncomputable def hZ:= @Heap.lt_size
noncomputable def wS:= @wpAny_standAt
noncomputable def wM:= @wpAny_mono
end Mn
namespace Mn
theorem upd_size(h:Heap)(a:Addr)(f:Obj→Obj):(h.update a f).objs.size=h.objs.size:=Mine.upd_size h a f
theorem wpAny_sz{α:Type}{M:Model}{A:Around}{E:Value→Shared→Prop}{s:Shared}{t:Sem α}{Q:α→Shared→Prop}(h:wpAny M A t (fun a s'=>s.heap.objs.size≤s'.heap.objs.size→Q a s') E s):wpAny M A t Q E s:=Mine.wpAny_sz h
end Mn
end
section
open PySem PySem.W PyProof.Rows PySem.Calls
namespace Mn
variable {n n':Nat} {ob:Obj} {s s' s₁:Shared}
inductive BI where
 | len | ord | chr | divmod | sum | min | max | sorted | iter
noncomputable def BI.id:BI→String
 | .len=> "len" | .ord=> "ord" | .chr=> "chr" | .divmod=> "divmod" | .sum=> "sum" | .min=> "min" | .max=> "max" | .sorted=> "sorted" | .iter=> "iter"
inductive TY where
 | int | str | range | list | set | enumerate | reversed | type
noncomputable def TY.id:TY→String
 | .int=> "int" | .str=> "str" | .range=> "range" | .list=> "list" | .set=> "set" | .enumerate=> "enumerate" | .reversed=> "reversed" | .type=> "type"
set_option genCtorIdx false in
inductive SV where
 | none
 | bool (b:Bool)
 | int (i:Int)
 | str (s:List Nat)
set_option genCtorIdx false in
inductive AV where
 | none
 | bool (b:Bool)
 | int (i:Int)
 | str (s:List Nat)
 | ref (n:Nat)
 | glob (a:Nat)
 | bi (m:BI)
 | ty (m:TY)
 | tup (xs:List SV)
 | lst (xs:List SV)
 | cod
structure FDat where
 name:Str
 params:Arguments
 body:List Stmt
 scope:Scope
 tab:Option (Nat×Nat×Nat)
set_option genCtorIdx false in
inductive AO where
 | list (f:Bool) (xs:List AV)
 | dict (f:Bool) (es:List (List Nat×AV))
 | cell (v:Option AV)
 | inst (C:Nat) (d:Nat)
 | set (xs:List SV)
 | clo (fd:FDat) (cl:List (Str×Nat))
 | bound (self:AV) (f:Nat)
 | citer (f:AV) (sent:AV) (ended:Bool)
 | range (a b c:Int)
 | items (d:Nat)
 | liter (l:AV) (i:Nat)
 | siter (s:List Nat) (i:Nat)
 | riter (x left step:Int)
 | enumr (it:Nat) (i:Nat)
 | revit (l:Nat) (i:Int)
 | diter (d:Nat)
 | frame (l:List (Str×AV))
 | flist (vs:Array Value) (n:Nat) (xs:List Int)
 | other
noncomputable def za0(s:List Nat):Str:=⟨s.toArray⟩
inductive Rs{α β:Type}(R:α→β→Prop):List α→List β→Prop
 | nil:Rs R [] []
 | cons {x y xs ys}:R x y→Rs R xs ys→Rs R (x :: xs) (y :: ys)
section
variable {α β:Type} {R S:α→β→Prop} {xs xs':List α} {ys ys':List β}
theorem Rs.imp(i:∀x y,R x y→S x y)(h:Rs R xs ys):Rs S xs ys:=h.rec .nil fun a X k=> .cons (i _ _ a) k
theorem Rs.len(h:Rs R xs ys):xs.length=ys.length:=h.rec rfl fun X X k=>congrArg Nat.succ k
theorem Rs.app(h:Rs R xs ys)(k:Rs R xs' ys'):Rs R (xs++xs') (ys++ys'):=h.rec k fun a X k=> .cons a k
theorem Rs.get(h:Rs R xs ys):∀(i:Nat) (x:α),xs[i]? = some x→∃y,ys[i]? = some y∧R x y:=by
 induction h with
 | nil=>exact fun X X e=>nomatch e
 | cons a X k=>exact fun i=>match i with
  | 0=>fun X e=>⟨_,rfl,sI e▸a⟩
  | i+1=>k i
end
structure Wd where
 pl:Nat→Addr
 fz:Addr→Option Obj
noncomputable def zbp(k:String)(vs:Array Value)(n:Nat):Obj:={cls:= .type k,data:= .seq vs n}
def zfX(ob:Obj):Prop:=∃vs q t,ob.cls = .type "code" ∧ob.data = .fields vs∧vs[1]? = some (.str q t)
def SR:SV→Value→Prop
 | .none,v=>v = .none
 | .bool b,v=>v = .bool b
 | .int i,v=>∃t,v = .int i t
 | .str s,v=>∃t,v = .str (za0 s) t
def VR(W:Wd)(n:Nat):AV→Value→Prop
 | .none,v=>v = .none
 | .bool b,v=>v = .bool b
 | .int i,v=>∃t,v = .int i t
 | .str s,v=>∃t,v = .str (za0 s) t
 | .ref k,v=>k<n∧v = .ref (W.pl k)
 | .glob a,v=>v = .ref a
 | .bi m,v=>v = .builtin m.id
 | .ty m,v=>v = .type m.id
 | .tup xs,v=>∃a vs k,v = .ref a∧W.fz a=some (zbp "tuple" vs k)∧Rs SR xs vs.toList
 | .lst xs,v=>∃a vs k,v = .ref a∧W.fz a=some (zbp "list" vs k)∧Rs SR xs vs.toList
 | .cod,v=>∃a ob,v = .ref a∧W.fz a=some ob∧zfX ob
structure Le(n:Nat)(W:Wd)(n':Nat)(W':Wd):Prop where
 le:n≤n'
 pl:∀k,k<n→W'.pl k=W.pl k
 fz:∀a ob,W.fz a=some ob→W'.fz a=some ob
section
variable {n₁:Nat} {W W' W₁:Wd}
theorem Le.refl:Le n W n W:=⟨rL _,fun X X=>rfl,fun X X e=>e⟩
theorem Le.trans(h:Le n W n₁ W₁)(k:Le n₁ W₁ n' W'):Le n W n' W':=⟨lT h.le k.le,fun i q=>(k.pl i (lL q h.le)).trans (h.pl i q),fun a o e=>k.fz a o (h.fz a o e)⟩
theorem Le.zero(h:Le n W n' W'):Le 0 W 0 W':=⟨rL _,fun X q=>absurd q (Nat.not_lt_zero _),h.fz⟩
theorem VR.up(L:Le n W n' W'){x:AV}{v:Value}(h:VR W n x v):VR W' n' x v:=by
 induction x with
 | ref k=>exact ⟨lL h.1 L.le,h.2.trans (congrArg Value.ref (L.pl k h.1).symm)⟩
 | tup _ | lst _=>exact h.imp fun X=> .imp fun X=> .imp fun X=> .imp_right (.imp_left (L.fz _ _))
 | cod=>exact h.imp fun X=> .imp fun X=> .imp_right (.imp_left (L.fz _ _))
 | _=>exact h
theorem VR.ups{xs:List AV}{vs:List Value}(L:Le n W n' W')(h:Rs (VR W n) xs vs):Rs (VR W' n') xs vs:=h.imp fun X X=>VR.up L
end
noncomputable def lim(f:Bool)(n:Nat):Nat:=bif f then n else 0
theorem Le.lim{n n':Nat}{W W':Wd}(L:Le n W n' W'):∀f,Le (lim f n) W (lim f n') W'
 | true=>L
 | false=>L.zero
theorem zc6{n:Nat}{W:Wd}:∀f,Le (lim f n) W n W
 | true=> .refl
 | false=>⟨oL _,fun X q=>absurd q (Nat.not_lt_zero _),fun X X e=>e⟩
structure Cx where
 prog:Program
 w:World
 B:Heap
 K:Frag
 tabs:List Addr
 tinfo:Addr→Nat×Nat
 G:Addr
 os:OsState
def ER(w:World)(R:AV→Value→Prop)(e:List Nat×AV)(d:DictEntry):Prop:=∃tk v,d = ⟨PyData.keyHash w.params (za0 e.1), .str (za0 e.1) tk,v⟩∧R e.2 v
def ObjIs(c:Cx)(W:Wd)(n:Nat)(ob:Obj):AO→Prop
 | .list f xs=>∃vs k,ob=zbp "list" vs k∧Rs (VR W (lim f n)) xs vs.toList
 | .dict f es=>∃ds k,ob = {cls:= .type "dict",data:= .dict ds k}∧Rs (ER c.w (VR W (lim f n))) es ds.toList∧(es.map (·.1)).Nodup∧(es = []→k=0)
 | .cell none=>ob.data = .cell none
 | .cell (some x)=>∃v,ob.data = .cell (some v)∧VR W n x v
 | .inst C d=>d<n∧ob=instObj C (W.pl d)
 | .set xs=>∃es ep t,ob = {cls:= .type "set",data:= .set es ep t}∧t.fits es.size=true∧(∃ys,List.Perm ys xs∧Rs SR ys (es.toList.map (·.2)))∧(∀e∈es.toList,(∃i u,e.2 = .int i u∧e.1=hashInt i)∨(∃z u,e.2 = .str z u∧e.1=hashStr c.w z))∧(c.w.params.followText "set-order" =false→t.led=true)∧(t.plain=false∨es.size≤1)
 | .clo fd cl=>∃fd' v,ob = {cls:= .type "function",data:= .func fd'}∧fd'.code=v∧VR W n .cod v∧(∀x k,cl.lookup x=some k→k<n∧fd'.closure.lookup x=some (W.pl k))∧
   fd'.params=fd.params∧fd'.body = .stmts fd.body∧fd'.scope=fd.scope∧fd'.globals=c.G∧fd'.builtins=0∧fd'.defaults = .none∧fd'.kwdefaults = .none
 | .bound self f=>∃v,ob = {cls:= .type "method",data:= .fields #[.ref f,v]}∧VR W n self v
 | .citer f s e=>∃v u,ob = {cls:= .type "callable_iterator",data:= .fields #[v,u, .bool e]}∧VR W n f v∧VR W n s u
 | .range a b k=>∃t u v,ob = {cls:= .type "range",data:= .fields #[.int a t, .int b u, .int k v]}
 | .items d=>d<n∧ob = {cls:= .type "dict_items",data:= .fields #[.ref (W.pl d)]}
 | .liter l i=>∃v,VR W n l v∧ob.cls = .type "list_iterator" ∧ob.data = .fields #[v, .int i 0]
 | .siter s i=>∃t,ob.cls = .type (strIterType (za0 s))∧ob.data = .fields #[.str (za0 s) t, .int i 0]
 | .riter x l k=>ob = {cls:= .type "range_iterator",data:= .fields #[rawInt x,rawInt l,rawInt k]}
 | .enumr j i=>∃old,j<n∧ob = {cls:= .type "enumerate",data:= .fields #[.none, .bool false, .ref (W.pl j),rawInt i, .none,old]}
 | .diter d=>d<n∧ob = {cls:= .type "dict_itemiterator",data:= .fields #[.none, .bool false, .ref (W.pl d), .int 0 0, .int 0 0, .int 0 0, .none, .none]}
 | .revit l i=>l<n∧ob.cls = .type "list_reverseiterator" ∧ob.data = .fields #[.ref (W.pl l), .int i 0]
 | .frame l=>∃es k,ob.data = .dict es k∧StrKeys es∧∀x v,l.lookup x=some v→∃u,nsFind es x=some u∧VR W n v u
 | .flist vs k xs=>ob=zbp "list" vs k∧Rs (VR W 0) (xs.map .int) vs.toList
 | .other=>True
section
variable {c:Cx} {W W':Wd}
theorem ER.up{w:World}{R S:AV→Value→Prop}(i:∀x v,R x v→S x v){e:List Nat×AV}{d:DictEntry}(h:ER w R e d):ER w S e d:=h.imp fun X=> .imp fun X=> .imp_right (i _ _)
theorem ObjIs.up(L:Le n W n' W'){o:AO}(h:ObjIs c W n ob o):ObjIs c W' n' ob o:=by
 induction o with
 | list f=>exact h.imp fun X=> .imp fun X=> .imp_right (VR.ups (L.lim f))
 | dict f=>exact h.imp fun X=> .imp fun X=> .imp_right (.imp_left (.imp fun X X=>ER.up fun X X=>VR.up (L.lim f)))
 | cell v=>induction v with
  | none=>exact h
  | some=>exact h.imp fun X=> .imp_right (.up L)
 | inst | items | diter | revit=>exact ⟨lL h.1 L.le,(L.pl _ h.1).symm▸h.2⟩
 | clo=>exact h.elim fun f h=>h.elim fun v h=>⟨f,v,h.1,h.2.1,h.2.2.1.up L,fun x k e=>⟨lL (h.2.2.2.1 x k e).1 L.le,(L.pl _ (h.2.2.2.1 x k e).1).symm▸(h.2.2.2.1 x k e).2⟩,h.2.2.2.2⟩
 | bound=>exact h.imp fun X=> .imp_right (.up L)
 | citer=>exact h.imp fun X=> .imp fun X=> .imp_right (.imp (.up L) (.up L))
 | liter=>exact h.imp fun X=> .imp_left (.up L)
 | enumr j=>exact h.elim fun o h=>⟨o,lL h.1 L.le,(L.pl _ h.1).symm▸h.2⟩
 | frame=>exact h.imp fun X=> .imp fun X=> .imp_right (.imp_right fun h x v e=>(h x v e).imp fun X=> .imp_right (.up L))
 | flist=>exact h.imp_right (VR.ups L.zero)
 | _=>exact h
end
structure Hp where
 nx:Nat
 at_:Nat→AO
noncomputable def upd{α:Type}(f:Nat→α)(n:Nat)(a:α):Nat→α:=fun k=>bif Nat.beq k n then a else f k
theorem upd_self{α:Type}{f:Nat→α}{n:Nat}{a:α}:upd f n a n=a:=by unfold upd;rw [Nat.beq_refl];rfl
theorem za9{α:Type}{f:Nat→α}{n k:Nat}{a:α}(h:k≠n):upd f n a k=f k:=by
 unfold upd;induction e:Nat.beq k n with
 | true=>exact absurd (qB e) h
 | false=>rfl
def Hp.set(h:Hp)(n:Nat)(o:AO):Hp:=⟨h.nx,upd h.at_ n o⟩
def Hp.new(h:Hp)(o:AO):Hp:=⟨h.nx+1,upd h.at_ h.nx o⟩
theorem no{α:Type}{x:α}{P:Prop}(h:(none:Option α)=some x):P:=nomatch h
noncomputable abbrev jA{α ω:Type _}:α→Option ω:=fun _=>none
theorem jB{α:Type _}{ω:Type}{z:ω}{P:α→Prop}(a:α)(e:(none:Option ω)=some z):P a:=no e
noncomputable abbrev jC{α β ω:Type _}:α→β→Option ω:=fun _ _=>none
noncomputable abbrev jF{α β γ ω:Type _}:α→β→γ→Option ω:=fun _ _ _=>none
theorem jG{α β:Type _}{ω:Type}{z:ω}{P:α→β→Prop}(a:α)(b:β)(e:(none:Option ω)=some z):P a b:=no e
theorem jH{α β γ:Type _}{ω:Type}{z:ω}{P:α→β→γ→Prop}(a:α)(b:β)(c:γ)(e:(none:Option ω)=some z):P a b c:=no e
noncomputable abbrev jI{α β:Type _}:α→β→Bool:=fun _ _=>true
noncomputable abbrev jJ{α:Type _}:α→Bool:=fun _=>true
noncomputable abbrev jK{α β γ:Type _}:α→β→γ→Bool:=fun _ _ _=>true
noncomputable abbrev jM{α:Type _}:α→Bool:=fun _=>false
noncomputable abbrev jO{α β:Type _}:α→β→Bool:=fun _ _=>false
noncomputable abbrev jP{α β γ:Type _}:α→β→γ→Bool:=fun _ _ _=>false
noncomputable abbrev jQ{α β γ δ:Type _}:α→β→γ→δ→Bool:=fun _ _ _ _=>false
noncomputable abbrev jR{α β γ δ:Type _}:α→β→γ→δ→Bool:=fun _ _ _ _=>true
noncomputable abbrev jS{α β γ δ ω:Type _}:α→β→γ→δ→Option ω:=fun _ _ _ _=>none
noncomputable def AV.bool?(o:AV):Option (Bool):=AV.casesOn (motive:=fun X=>Option (Bool)) o Option.none (fun a=>Option.some a) jA jA jA jA jA jA jA jA Option.none
theorem AV.bool?_is{o:AV}{l:Bool}:o.bool? = some l→o = .bool l:=AV.casesOn (motive:=fun o=>o.bool? = some l→o = .bool l) o no (fun a e=>(sI e)▸rfl) jB jB jB jB jB jB jB jB no
noncomputable def AV.int?(o:AV):Option (Int):=AV.casesOn (motive:=fun X=>Option (Int)) o Option.none jA (fun a=>Option.some a) jA jA jA jA jA jA jA Option.none
theorem AV.int?_is{o:AV}{l:Int}:o.int? = some l→o = .int l:=AV.casesOn (motive:=fun o=>o.int? = some l→o = .int l) o no jB (fun a e=>(sI e)▸rfl) jB jB jB jB jB jB jB no
noncomputable def AV.str?(o:AV):Option ((List Nat)):=AV.casesOn (motive:=fun X=>Option ((List Nat))) o Option.none jA jA (fun a=>Option.some a) jA jA jA jA jA jA Option.none
theorem AV.str?_is{o:AV}{l:(List Nat)}:o.str? = some l→o = .str l:=AV.casesOn (motive:=fun o=>o.str? = some l→o = .str l) o no jB jB (fun a e=>(sI e)▸rfl) jB jB jB jB jB jB no
noncomputable def AV.ref?(o:AV):Option (Nat):=AV.casesOn (motive:=fun X=>Option (Nat)) o Option.none jA jA jA (fun a=>Option.some a) jA jA jA jA jA Option.none
theorem AV.ref?_is{o:AV}{l:Nat}:o.ref? = some l→o = .ref l:=AV.casesOn (motive:=fun o=>o.ref? = some l→o = .ref l) o no jB jB jB (fun a e=>(sI e)▸rfl) jB jB jB jB jB no
noncomputable def AV.glob?(o:AV):Option (Nat):=AV.casesOn (motive:=fun X=>Option (Nat)) o Option.none jA jA jA jA (fun a=>Option.some a) jA jA jA jA Option.none
theorem AV.glob?_is{o:AV}{l:Nat}:o.glob? = some l→o = .glob l:=AV.casesOn (motive:=fun o=>o.glob? = some l→o = .glob l) o no jB jB jB jB (fun a e=>(sI e)▸rfl) jB jB jB jB no
noncomputable def AV.bi?(o:AV):Option (BI):=AV.casesOn (motive:=fun X=>Option (BI)) o Option.none jA jA jA jA jA (fun a=>Option.some a) jA jA jA Option.none
theorem AV.bi?_is{o:AV}{l:BI}:o.bi? = some l→o = .bi l:=AV.casesOn (motive:=fun o=>o.bi? = some l→o = .bi l) o no jB jB jB jB jB (fun a e=>(sI e)▸rfl) jB jB jB no
noncomputable def AV.ty?(o:AV):Option (TY):=AV.casesOn (motive:=fun X=>Option (TY)) o Option.none jA jA jA jA jA jA (fun a=>Option.some a) jA jA Option.none
theorem AV.ty?_is{o:AV}{l:TY}:o.ty? = some l→o = .ty l:=AV.casesOn (motive:=fun o=>o.ty? = some l→o = .ty l) o no jB jB jB jB jB jB (fun a e=>(sI e)▸rfl) jB jB no
noncomputable def AV.tup?(o:AV):Option ((List SV)):=AV.casesOn (motive:=fun X=>Option ((List SV))) o Option.none jA jA jA jA jA jA jA (fun a=>Option.some a) jA Option.none
theorem AV.tup?_is{o:AV}{l:(List SV)}:o.tup? = some l→o = .tup l:=AV.casesOn (motive:=fun o=>o.tup? = some l→o = .tup l) o no jB jB jB jB jB jB jB (fun a e=>(sI e)▸rfl) jB no
noncomputable def AO.list?(o:AO):Option (Bool×(List AV)):=AO.casesOn (motive:=fun X=>Option (Bool×(List AV))) o (fun a b=>Option.some (a,b)) jC jA jC jA jC jC jF jF jA jC jC jF jC jC jA jA jF Option.none
theorem AO.list?_is{o:AO}{l:Bool×(List AV)}:o.list? = some l→o = .list l.1 l.2:=AO.casesOn (motive:=fun o=>o.list? = some l→o = .list l.1 l.2) o (fun a b e=>(sI e)▸rfl) jG jB jG jB jG jG jH jH jB jG jG jH jG jG jB jB jH no
noncomputable def AO.dict?(o:AO):Option (Bool×(List (List Nat×AV))):=AO.casesOn (motive:=fun X=>Option (Bool×(List (List Nat×AV)))) o jC (fun a b=>Option.some (a,b)) jA jC jA jC jC jF jF jA jC jC jF jC jC jA jA jF Option.none
theorem AO.dict?_is{o:AO}{l:Bool×(List (List Nat×AV))}:o.dict? = some l→o = .dict l.1 l.2:=AO.casesOn (motive:=fun o=>o.dict? = some l→o = .dict l.1 l.2) o jG (fun a b e=>(sI e)▸rfl) jB jG jB jG jG jH jH jB jG jG jH jG jG jB jB jH no
noncomputable def AO.cell?(o:AO):Option ((Option AV)):=AO.casesOn (motive:=fun X=>Option ((Option AV))) o jC jC (fun a=>Option.some a) jC jA jC jC jF jF jA jC jC jF jC jC jA jA jF Option.none
theorem AO.cell?_is{o:AO}{l:(Option AV)}:o.cell? = some l→o = .cell l:=AO.casesOn (motive:=fun o=>o.cell? = some l→o = .cell l) o jG jG (fun a e=>(sI e)▸rfl) jG jB jG jG jH jH jB jG jG jH jG jG jB jB jH no
noncomputable def AO.inst?(o:AO):Option (Nat×Nat):=AO.casesOn (motive:=fun X=>Option (Nat×Nat)) o jC jC jA (fun a b=>Option.some (a,b)) jA jC jC jF jF jA jC jC jF jC jC jA jA jF Option.none
theorem AO.inst?_is{o:AO}{l:Nat×Nat}:o.inst? = some l→o = .inst l.1 l.2:=AO.casesOn (motive:=fun o=>o.inst? = some l→o = .inst l.1 l.2) o jG jG jB (fun a b e=>(sI e)▸rfl) jB jG jG jH jH jB jG jG jH jG jG jB jB jH no
noncomputable def AO.set?(o:AO):Option ((List SV)):=AO.casesOn (motive:=fun X=>Option ((List SV))) o jC jC jA jC (fun a=>Option.some a) jC jC jF jF jA jC jC jF jC jC jA jA jF Option.none
theorem AO.set?_is{o:AO}{l:(List SV)}:o.set? = some l→o = .set l:=AO.casesOn (motive:=fun o=>o.set? = some l→o = .set l) o jG jG jB jG (fun a e=>(sI e)▸rfl) jG jG jH jH jB jG jG jH jG jG jB jB jH no
noncomputable def AO.clo?(o:AO):Option (FDat×(List (Str×Nat))):=AO.casesOn (motive:=fun X=>Option (FDat×(List (Str×Nat)))) o jC jC jA jC jA (fun a b=>Option.some (a,b)) jC jF jF jA jC jC jF jC jC jA jA jF Option.none
theorem AO.clo?_is{o:AO}{l:FDat×(List (Str×Nat))}:o.clo? = some l→o = .clo l.1 l.2:=AO.casesOn (motive:=fun o=>o.clo? = some l→o = .clo l.1 l.2) o jG jG jB jG jB (fun a b e=>(sI e)▸rfl) jG jH jH jB jG jG jH jG jG jB jB jH no
noncomputable def AO.bound?(o:AO):Option (AV×Nat):=AO.casesOn (motive:=fun X=>Option (AV×Nat)) o jC jC jA jC jA jC (fun a b=>Option.some (a,b)) jF jF jA jC jC jF jC jC jA jA jF Option.none
theorem AO.bound?_is{o:AO}{l:AV×Nat}:o.bound? = some l→o = .bound l.1 l.2:=AO.casesOn (motive:=fun o=>o.bound? = some l→o = .bound l.1 l.2) o jG jG jB jG jB jG (fun a b e=>(sI e)▸rfl) jH jH jB jG jG jH jG jG jB jB jH no
noncomputable def AO.frame?(o:AO):Option ((List (Str×AV))):=AO.casesOn (motive:=fun X=>Option ((List (Str×AV)))) o jC jC jA jC jA jC jC jF jF jA jC jC jF jC jC jA (fun a=>Option.some a) jF Option.none
theorem AO.frame?_is{o:AO}{l:(List (Str×AV))}:o.frame? = some l→o = .frame l:=AO.casesOn (motive:=fun o=>o.frame? = some l→o = .frame l) o jG jG jB jG jB jG jG jH jH jB jG jG jH jG jG jB (fun a e=>(sI e)▸rfl) jH no
noncomputable def AO.live(o:AO):Bool:=AO.casesOn (motive:=fun X=>Bool) o jI jI jJ jI jJ jI jI jK jK jJ jI jI jK jI jI jJ jJ jK false
def OAt(c:Cx)(W:Wd)(n:Nat)(s:Shared)(a:Addr)(o:AO):Prop:=o.live=true→c.B.get? a=none∧∃ob,s.heap.get? a=some ob∧ObjIs c W n ob o
def ztN(c:Cx)(W:Wd)(s:Shared)(t:Addr):Prop:=s.heap.get? t=some {cls:= .none,data:= .fields #[]}∨
 ∃a ob,s.heap.get? t=some {cls:= .none,data:= .fields #[rawInt (c.tinfo t).1,rawInt (c.tinfo t).2, .ref a]}∧W.fz a=some ob∧zfX ob
structure Amb(c:Cx)(W:Wd)(s:Shared):Prop where
 base:∀b o,c.B.get? b=some o→b∉c.tabs→s.heap.get? b=some o
 tab:∀t,t∈c.tabs→c.B.get? t≠none∧ztN c W s t
 gens:s.gens = #[]
 os:s.os=c.os
def FrL(o:Obj):Prop:=(∃es k,o.data = .dict es k)∧o.cls≠ .type "dict"
def SlotEq(o o':Obj):Prop:=o'=o∨FrL o∧∃sl,o' = {o with slots:=sl}
theorem SlotEq.trans{o o' x:Obj}(h:SlotEq o o')(i:SlotEq o' x):SlotEq o x:=by
 rcases h with rfl | ⟨f,sl,rfl⟩
 ·exact i
 ·rcases i with rfl | ⟨_,sl',rfl⟩
  ·exact .inr ⟨f,sl,rfl⟩
  ·exact .inr ⟨f,sl',rfl⟩
theorem SlotEq.frl{o o':Obj}(h:SlotEq o o')(f:FrL o):FrL o':=by
 rcases h with rfl | ⟨f,sl,rfl⟩ <;> exact f
structure Rel(c:Cx)(W:Wd)(h:Hp)(s:Shared):Prop where
 at_:∀n,n<h.nx→OAt c W h.nx s (W.pl n) (h.at_ n)
 apart:∀m n,m<h.nx→n<h.nx→(h.at_ m).live=true→(h.at_ n).live=true→W.pl m=W.pl n→m=n
 fz:∀a ob,W.fz a=some ob→c.B.get? a=none∧s.heap.get? a=some ob∧∀n,n<h.nx→(h.at_ n).live=true→W.pl n≠a
 amb:Amb c W s
 fzn:∀a ob,W.fz a=some ob→¬FrL ob
theorem ObjIs.frl{c:Cx}{n:Nat}{W:Wd}{ob:Obj}{o:AO}(h:ObjIs c W n ob o)(f:FrL ob)(l:o.live=true):∃x,o = .frame x:=by
 obtain ⟨⟨es,k,d⟩,q⟩:=f;induction o with
 | list=>obtain ⟨X,Z,rfl,Y⟩:=h;cases d
 | dict=>obtain ⟨X,Z,rfl,Y⟩:=h;exact absurd rfl q
 | cell v=>induction v with
  | none=>rw [show ob.data=_ from h] at d;cases d
  | some=>obtain ⟨X,e,Z⟩:=h;rw [e] at d;cases d
 | inst=>obtain ⟨X,rfl⟩:=h;cases d
 | set=>obtain ⟨X,Z,Y,rfl,J⟩:=h;cases d
 | clo=>obtain ⟨X,Z,rfl,Y⟩:=h;cases d
 | bound=>obtain ⟨X,rfl,Z⟩:=h;cases d
 | citer=>obtain ⟨X,Z,rfl,Y⟩:=h;cases d
 | range=>obtain ⟨X,Z,Y,rfl⟩:=h;cases d
 | items=>obtain ⟨X,rfl⟩:=h;cases d
 | liter=>obtain ⟨X,Z,Y,e⟩:=h;rw [e] at d;cases d
 | siter=>obtain ⟨X,Z,e⟩:=h;rw [e] at d;cases d
 | riter=>obtain rfl:ob=_:=h;cases d
 | enumr=>obtain ⟨X,Z,rfl⟩:=h;cases d
 | diter=>obtain ⟨X,rfl⟩:=h;cases d
 | revit=>obtain ⟨X,Z,e⟩:=h;rw [e] at d;cases d
 | frame x=>exact ⟨x,rfl⟩
 | flist=>obtain ⟨rfl,X⟩:=h;cases d
 | other=>exact nomatch l
theorem ObjIs.slot{c:Cx}{n:Nat}{W:Wd}{ob ob':Obj}{o:AO}(h:ObjIs c W n ob o)(l:o.live=true)(q:SlotEq ob ob'):ObjIs c W n ob' o:=by
 rcases q with rfl | ⟨f,sl,rfl⟩
 ·exact h
 ·obtain ⟨x,rfl⟩:=h.frl f l
  exact h
structure Step(c:Cx)(n:Nat)(W:Wd)(s:Shared)(W':Wd)(h':Hp)(s':Shared):Prop where
 rel:Rel c W' h' s'
 le:Le n W h'.nx W'
 size:s.heap.objs.size≤s'.heap.objs.size
 fresh:∀k,n≤k→k<h'.nx→s.heap.objs.size≤W'.pl k
 freshF:∀a ob,W'.fz a=some ob→W.fz a=some ob∨s.heap.objs.size≤a∨∃k,k<n∧W.pl k=a
 kept:∀b o,s.heap.get? b=some o→(∀k,k<n→W.pl k≠b)→b∉c.tabs→∃o',s'.heap.get? b=some o'∧SlotEq o o'
 frm:∀b o,s.heap.get? b=some o→FrL o→∃o',s'.heap.get? b=some o'∧FrL o'
section
variable {c:Cx} {W W' W₁:Wd} {h h' h₁:Hp}
theorem Step.refl(R:Rel c W h s):Step c h.nx W s W h s:=⟨R, .refl,rL _,fun X a b=>absurd a (nL b),fun X X e=> .inl e,fun X o e X X=>⟨o,e, .inl rfl⟩,fun X o e f=>⟨o,e,f⟩⟩
theorem Step.trans(S:Step c n W s W₁ h₁ s₁)(T:Step c h₁.nx W₁ s₁ W' h' s'):Step c n W s W' h' s':=
 have far:∀k,n≤k→k<h₁.nx→s.heap.objs.size≤W₁.pl k:=S.fresh
 ⟨T.rel,S.le.trans T.le,lT S.size T.size,
 fun k a b=>(Nat.lt_or_ge k h₁.nx).elim (fun q=>T.le.pl k q▸far k a q) fun q=>lT S.size (T.fresh k q b),
 fun a ob e=>(T.freshF a ob e).elim (S.freshF a ob) fun q=>q.elim (fun q=> .inr (.inl (lT S.size q))) fun ⟨k,q,e⟩=>(Nat.lt_or_ge k n).elim (fun z=> .inr (.inr ⟨k,z,(S.le.pl k z).symm.trans e⟩)) fun z=> .inr (.inl (e▸far k z q)),
 fun b o e hp ht=>(S.kept b o e hp ht).elim fun o' q=>(T.kept b o' q.1 (fun k q z=>(Nat.lt_or_ge k n).elim (fun y=>hp k y ((S.le.pl k y).symm.trans z)) fun y=>nL (hZ e) (z▸far k y q)) ht).imp fun X z=>⟨z.1,q.2.trans z.2⟩,
 fun b o e f=>(S.frm b o e f).elim fun o' q=>T.frm b o' q.1 q.2⟩
theorem Amb.step(A:Amb c W s)(hb:∀b o,c.B.get? b≠none→s.heap.get? b=some o→s'.heap.get? b=some o)(hf:∀a ob,W.fz a=some ob→W'.fz a=some ob)(hg:s'.gens=s.gens)(ho:s'.os=s.os):Amb c W' s':=
 ⟨fun b o e q=>hb b o (fun z=>nomatch e.symm.trans z) (A.base b o e q),fun t ht=>⟨(A.tab t ht).1,(A.tab t ht).2.imp (hb t _ (A.tab t ht).1) fun ⟨a,ob,h1,h2,h3⟩=>⟨a,ob,hb t _ (A.tab t ht).1 h1,hf _ _ h2,h3⟩⟩,hg.trans A.gens,ho.trans A.os⟩
theorem Step.keeps(R:Rel c W h s)(hk:∀b o,s.heap.get? b=some o→s'.heap.get? b=some o)(hg:s'.gens=s.gens)(ho:s'.os=s.os)(hz:s.heap.objs.size≤s'.heap.objs.size:=by first | assumption | exact Nat.le_refl _ | (simp only [Heap.size_push];omega) | (simp only [upd_size];exact Nat.le_refl _)):Step c h.nx W s W h s':=
 ⟨⟨fun k q=>fun l=>(R.at_ k q l).imp id fun ⟨ob,h1,h2⟩=>⟨ob,hk _ _ h1,h2⟩,R.apart,fun a ob e=>⟨(R.fz a ob e).1,hk _ _ (R.fz a ob e).2.1,(R.fz a ob e).2.2⟩,R.amb.step (fun b o X=>hk b o) (fun X X e=>e) hg ho,R.fzn⟩,
  .refl,hz,fun X a b=>absurd a (nL b),fun X X e=> .inl e,fun b o e X X=>⟨o,hk b o e, .inl rfl⟩,fun b o e f=>⟨o,hk b o e,f⟩⟩
theorem Step.same(R:Rel c W h s)(hh:s'.heap=s.heap)(hg:s'.gens=s.gens)(ho:s'.os=s.os):Step c h.nx W s W h s':= .keeps R (fun X X e=>hh▸e) hg ho (hh▸rL _)
theorem Step.set(R:Rel c W h s){k:Nat}(o:AO)(hn:k<h.nx)(hl:(h.at_ k).live=true)(hf:∀x ob,h.at_ k = .frame x→s.heap.get? (W.pl k)=some ob→FrL ob→∃o',s'.heap.get? (W.pl k)=some o'∧FrL o')(hO:o.live=true→∃ob,s'.heap.get? (W.pl k)=some ob∧ObjIs c W h.nx ob o)
  (hk:∀b o,s.heap.get? b=some o→b≠W.pl k→s'.heap.get? b=some o) (hg:s'.gens=s.gens) (ho:s'.os=s.os) (hz:s.heap.objs.size≤s'.heap.objs.size:=by first | assumption | exact Nat.le_refl _ | (simp only [Heap.size_push];omega) | (simp only [upd_size];exact Nat.le_refl _)):Step c h.nx W s W (h.set k o) s':=by
 have hB:=(R.at_ k hn hl).1;have lv:∀m,m<h.nx→(upd h.at_ k o m).live=true→m=k∨(h.at_ m).live=true:=fun m X l=>(Decidable.em (m=k)).imp id fun q=>za9 (f:=h.at_) q▸l;have far:∀m,m<h.nx→(h.at_ m).live=true→m≠k→W.pl m≠W.pl k:=fun m q l ne e=>ne (R.apart m k q hn l hl e);refine ⟨⟨fun m q l=>?_,fun i j a b l m e=>?_,fun a ob e=>⟨(R.fz a ob e).1,hk _ _ (R.fz a ob e).2.1 (Ne.symm ((R.fz a ob e).2.2 k hn hl)),fun m q l=>(lv m q l).elim (fun z=>z▸(R.fz a ob e).2.2 k hn hl) ((R.fz a ob e).2.2 m q)⟩,
  R.amb.step (fun b o q e=>hk b o e fun z=>q (z▸hB)) (fun X X e=>e) hg ho,R.fzn⟩, .refl,hz,fun X a b=>absurd a (nL b),fun X X e=> .inl e,fun b o e q X=>⟨o,hk b o e (Ne.symm (q k hn)), .inl rfl⟩,fun b o e f=>?_⟩
 ·have l:(upd h.at_ k o m).live=true:=l
  show _∧∃ob,_∧ObjIs c W h.nx ob (upd h.at_ k o m);by_cases z:m=k
  ·subst z
   rw [upd_self] at l⊢;exact ⟨hB,hO l⟩
  ·rw [za9 z] at l⊢
   exact (R.at_ m q l).imp id fun ⟨ob,h1,h2⟩=>⟨ob,hk _ _ h1 (far m q l z),h2⟩
 ·exact R.apart i j a b ((lv i a l).elim (fun z=>z▸hl) id) ((lv j b m).elim (fun z=>z▸hl) id) e
 ·by_cases z:b=W.pl k
  ·subst z
   obtain ⟨ob,h1,h2⟩:=(R.at_ k hn hl).2;obtain rfl:=sI (h1.symm.trans e);obtain ⟨x,ex⟩:=h2.frl f hl;exact hf x _ ex e f
  ·exact ⟨o,hk b o e z,f⟩
def Wd.put(W:Wd)(n:Nat)(a:Addr):Wd:=⟨upd W.pl n a,W.fz⟩
theorem Le.put(n:Nat)(W:Wd)(a:Addr):Le n W (n+1) (W.put n a):=⟨Nat.le_succ _,fun X q=>za9 (Nat.ne_of_lt q),fun X X e=>e⟩
theorem Step.new(R:Rel c W h s){a:Addr}(o:AO)(hO:o.live=true→∃ob,s'.heap.get? a=some ob∧ObjIs c (W.put h.nx a) (h.nx+1) ob o)(ha:s.heap.objs.size≤a)(hB:c.B.get? a=none)
  (hk:∀b o,s.heap.get? b=some o→s'.heap.get? b=some o) (hg:s'.gens=s.gens) (ho:s'.os=s.os) (hz:s.heap.objs.size≤s'.heap.objs.size:=by first | assumption | exact Nat.le_refl _ | (simp only [Heap.size_push];omega) | (simp only [upd_size];exact Nat.le_refl _)):Step c h.nx W s (W.put h.nx a) (h.new o) s':=by
 have L:=Le.put h.nx W a;have old:∀m,m<h.nx+1→m=h.nx∨m<h.nx:=fun m q=>(Nat.lt_succ_iff_lt_or_eq.mp q).symm;have lt:∀m,m<h.nx→(h.at_ m).live=true→W.pl m≠a:=fun m q l e=>nL ((R.at_ m q l).2.elim fun X z=>hZ z.1) (e▸ha);have pl:∀m,m<h.nx→(W.put h.nx a).pl m=W.pl m:=L.pl;have at_:∀m,m<h.nx→(h.new o).at_ m=h.at_ m:=fun m q=>za9 (Nat.ne_of_lt q);have pn:(W.put h.nx a).pl h.nx=a:=upd_self;refine ⟨⟨fun m q l=>?_,fun i j p q l m e=>?_,fun b ob e=>⟨(R.fz b ob e).1,hk _ _ (R.fz b ob e).2.1,fun m q l=>?_⟩,R.amb.step (fun b o X=>hk b o) (fun X X e=>e) hg ho,R.fzn⟩,L,hz,fun k p q=>?_,fun X X e=> .inl e,fun b o e X X=>⟨o,hk b o e, .inl rfl⟩,fun b o e f=>⟨o,hk b o e,f⟩⟩
 ·rcases old m q with rfl | q
  ·rw [show (h.new o).at_ h.nx=o from upd_self] at l⊢
   rw [pn];exact ⟨hB,hO l⟩
  ·rw [at_ m q] at l⊢
   rw [pl m q];exact (R.at_ m q l).imp id fun ⟨ob,h1,h2⟩=>⟨ob,hk _ _ h1,h2.up L⟩
 ·rcases old i p with rfl | p
  ·rcases old j q with rfl | q
   ·rfl
   ·rw [at_ j q] at m
    rw [pn,pl j q] at e;exact absurd e.symm (lt j q m)
  ·rw [at_ i p] at l
   rcases old j q with rfl | q
   ·rw [pn,pl i p] at e;exact absurd e (lt i p l)
   ·rw [at_ j q] at m
    rw [pl i p,pl j q] at e;exact R.apart i j p q l m e
 ·rcases old m q with rfl | q
  ·rw [pn];exact fun z=>nL (hZ (R.fz b ob e).2.1) (z▸ha)
  ·rw [at_ m q] at l
   rw [pl m q];exact (R.fz b ob e).2.2 m q l
 ·rcases old k q with rfl | q
  ·rw [pn];exact ha
  ·exact absurd p (nL q)
end
noncomputable def AV.ren(g:Nat→Nat):AV→AV
 | .ref k=> .ref (g k)
 | v=>v
noncomputable def AV.bd(n:Nat):AV→Bool
 | .ref k=>Nat.blt k n
 | _=>true
noncomputable def AO.ren(g:Nat→Nat):AO→AO
 | .list true xs=> .list true (xs.map (AV.ren g))
 | .dict true es=> .dict true (es.map fun e=>(e.1,e.2.ren g))
 | .cell v=> .cell (v.map (AV.ren g))
 | .inst C d=> .inst C (g d)
 | .clo fd cl=> .clo fd (cl.map fun e=>(e.1,g e.2))
 | .bound s f=> .bound (s.ren g) f
 | .citer f s e=> .citer (f.ren g) (s.ren g) e
 | .items d=> .items (g d)
 | .liter l i=> .liter (l.ren g) i
 | .enumr j i=> .enumr (g j) i
 | .revit l i=> .revit (g l) i
 | .diter d=> .diter (g d)
 | .frame _=> .other
 | o=>o
noncomputable def AO.bd(n:Nat):AO→Bool
 | .list true xs=>xs.all (AV.bd n)
 | .dict true es=>es.all fun e=>e.2.bd n
 | .cell (some v)=>v.bd n
 | .inst _ d | .items d | .diter d=>Nat.blt d n
 | .clo _ cl=>cl.all fun e=>Nat.blt e.2 n
 | .bound s _=>s.bd n
 | .citer f s _=>f.bd n&&s.bd n
 | .liter l _=>l.bd n
 | .enumr j _ | .revit j _=>Nat.blt j n
 | .frame _=>false
 | _=>true
section
variable {c:Cx} {W W':Wd} {g:Nat→Nat}
theorem blt{a b:Nat}(h:Nat.blt a b=true):a<b:=jL h
structure Mp(g:Nat→Nat)(n:Nat)(W:Wd)(n':Nat)(W':Wd):Prop where
 pl:∀k,k<n→g k<n'∧W'.pl (g k)=W.pl k
 fz:∀a ob,W.fz a=some ob→W'.fz a=some ob
theorem Mp.le0(M:Mp g n W n' W'):Le 0 W 0 W':=⟨rL _,fun X q=>absurd q (Nat.not_lt_zero _),M.fz⟩
theorem VR.mp(M:Mp g n W n' W'){x:AV}{v:Value}(h:VR W n x v):VR W' n' (x.ren g) v:=by
 induction x with
 | ref k=>exact ⟨(M.pl k h.1).1,h.2.trans (congrArg Value.ref (M.pl k h.1).2.symm)⟩
 | tup _ | lst _=>exact h.imp fun X=> .imp fun X=> .imp fun X=> .imp_right (.imp_left (M.fz _ _))
 | cod=>exact h.imp fun X=> .imp fun X=> .imp_right (.imp_left (M.fz _ _))
 | _=>exact h
theorem Rs.mapL{α β γ:Type}{R:α→β→Prop}{S:γ→β→Prop}{f:α→γ}{xs:List α}{ys:List β}(i:∀x y,R x y→S (f x) y)(h:Rs R xs ys):Rs S (xs.map f) ys:=h.rec .nil fun a X k=> .cons (i _ _ a) k
theorem Rs.unmap{α β γ:Type}{R:α→β→Prop}{S:γ→β→Prop}{f:α→γ}{p:α→Bool}(i:∀x y,p x=true→S (f x) y→R x y):∀{xs:List α} {ys:List β},xs.all p=true→Rs S (xs.map f) ys→Rs R xs ys
 | [],_,_, .nil=> .nil
 | _ :: _,_,h, .cons a k=> .cons (i _ _ (aI h).1 a) (Rs.unmap i (aI h).2 k)
theorem zhx{cl:List (Str×Nat)}{x:Str}{k:Nat}:(cl.map fun e=>(e.1,g e.2)).lookup x=some k→∃j,cl.lookup x=some j∧k=g j:=by
 induction cl with
 | nil=>exact nofun
 | cons e r ih=>
  rw [mC,List.lookup_cons,List.lookup_cons];induction x==e.1 with
  | true=>exact fun h=>⟨_,rfl,(sI h).symm⟩
  | false=>exact ih
theorem zcC{cl:List (Str×Nat)}{x:Str}{k:Nat}:cl.lookup x=some k→(cl.map fun e=>(e.1,g e.2)).lookup x=some (g k)∧∀p:Str×Nat→Bool,cl.all p=true→∃y,p (y,k)=true:=by
 induction cl with
 | nil=>exact nofun
 | cons e r ih=>
  rw [mC,List.lookup_cons,List.lookup_cons];induction x==e.1 with
  | true=>exact fun h=>⟨congrArg (some ∘ g) (sI h),fun p q=>⟨e.1,sI h▸(aI q).1⟩⟩
  | false=>exact fun h=>⟨(ih h).1,fun p q=>(ih h).2 p (aI q).2⟩
theorem ObjIs.mp(M:Mp g n W n' W'){o:AO}(h:ObjIs c W n ob o):ObjIs c W' n' ob (o.ren g):=by
 induction o with
 | list f=>induction f with
  | true=>exact h.imp fun X=> .imp fun X=> .imp_right (.mapL fun X X=>VR.mp M)
  | false=>exact h.imp fun X=> .imp fun X=> .imp_right (VR.ups M.le0)
 | dict f es=>induction f with
  | true=>exact h.imp fun X=> .imp fun X=> .imp_right fun h=>⟨h.1.mapL (fun X X=>ER.up fun X X=>VR.mp M),by rw [mN];exact h.2.1,fun e=>h.2.2 (List.map_eq_nil_iff.mp e)⟩
  | false=>exact h.imp fun X=> .imp fun X=> .imp_right (.imp_left (.imp fun X X=>ER.up fun X X=>VR.up M.le0))
 | cell v=>induction v with
  | none=>exact h
  | some=>exact h.imp fun X=> .imp_right (.mp M)
 | inst | items | diter | revit=>exact ⟨(M.pl _ h.1).1,(M.pl _ h.1).2.symm▸h.2⟩
 | clo=>exact h.elim fun f h=>h.elim fun v h=>⟨f,v,h.1,h.2.1,h.2.2.1.mp M,fun x k e=>(zhx e).elim fun j q=>q.2▸⟨(M.pl _ (h.2.2.2.1 x j q.1).1).1,(M.pl _ (h.2.2.2.1 x j q.1).1).2.symm▸(h.2.2.2.1 x j q.1).2⟩,h.2.2.2.2⟩
 | bound=>exact h.imp fun X=> .imp_right (.mp M)
 | citer=>exact h.imp fun X=> .imp fun X=> .imp_right (.imp (.mp M) (.mp M))
 | liter=>exact h.imp fun X=> .imp_left (.mp M)
 | enumr j=>exact h.elim fun o h=>⟨o,(M.pl _ h.1).1,(M.pl _ h.1).2.symm▸h.2⟩
 | frame=>trivial
 | flist=>exact h.imp_right (VR.ups M.le0)
 | _=>exact h
noncomputable def Wd.comp(W:Wd)(g:Nat→Nat):Wd:=⟨fun k=>W.pl (g k),W.fz⟩
theorem VR.cm{x:AV}{v:Value}(b:x.bd n'=true)(h:VR W n (x.ren g) v):VR (W.comp g) n' x v:=by
 induction x with
 | ref k=>exact ⟨blt b,h.2⟩
 | _=>exact h
theorem ObjIs.cm{o:AO}(b:o.bd n'=true)(h:ObjIs c W n ob (o.ren g)):ObjIs c (W.comp g) n' ob o:=by
 have L:Le 0 W 0 (W.comp g):=⟨rL _,fun X q=>absurd q (Nat.not_lt_zero _),fun X X e=>e⟩;induction o with
 | list f=>induction f with
  | true=>exact h.imp fun X=> .imp fun X=> .imp_right (.unmap (fun X X=>VR.cm) b)
  | false=>exact h.imp fun X=> .imp fun X=> .imp_right (VR.ups L)
 | dict f es=>induction f with
  | true=>exact h.imp fun X=> .imp fun X=> .imp_right fun h=>⟨h.1.unmap (p:=fun e:List Nat×AV=>e.2.bd n') (fun X X b=> .imp fun X=> .imp fun X=> .imp_right (VR.cm b)) b,by have:=h.2.1;rw [mN] at this;exact this,fun e=>h.2.2 (List.map_eq_nil_iff.mpr e)⟩
  | false=>exact h.imp fun X=> .imp fun X=> .imp_right (.imp_left (.imp fun X X=>ER.up fun X X=>VR.up L))
 | cell v=>induction v with
  | none=>exact h
  | some=>exact h.imp fun X=> .imp_right (.cm b)
 | inst | items | diter | revit=>exact ⟨blt b,h.2⟩
 | clo X cl=>exact h.elim fun f h=>h.elim fun v h=>⟨f,v,h.1,h.2.1,h.2.2.1,fun x k e=>⟨((zcC (g:=g) e).2 _ b).elim fun X q=>blt q,(h.2.2.2.1 x _ (zcC e).1).2⟩,h.2.2.2.2⟩
 | bound=>exact h.imp fun X=> .imp_right (.cm b)
 | citer=>exact h.imp fun X=> .imp fun X=> .imp_right (.imp (.cm (aI b).1) (.cm (aI b).2))
 | liter=>exact h.imp fun X=> .imp_left (.cm b)
 | enumr j=>exact h.elim fun o h=>⟨o,blt b,h.2⟩
 | frame=>exact nomatch b
 | flist=>exact h.imp_right (VR.ups L)
 | _=>exact h
end
noncomputable def gl(σ:List Nat)(k:Nat):Nat:=σ.getD k 0
noncomputable def ix(k:Nat):List Nat→Option Nat
 | []=>none
 | x :: r=>bif Nat.beq x k then some 0 else (ix k r).map Nat.succ
theorem ixc{k x:Nat}{r:List Nat}:ix k (x :: r)=bif Nat.beq x k then some 0 else (ix k r).map Nat.succ:=rfl
noncomputable def nd:List Nat→Bool
 | []=>true
 | x :: r=>(ix x r).isNone&&nd r
noncomputable def Hp.of(os:List AO):Hp:=⟨os.length,fun k=>os.getD k .other⟩
structure Vw(σ:List Nat)(h:Hp)(os:List AO):Prop where
 e:σ.map h.at_=os.map (AO.ren (gl σ))
 b:(os.all (AO.bd os.length)&&os.all (fun o=>(o.ren id).live)&&nd σ&&σ.all fun k=>Nat.blt k h.nx)=true
theorem zkQ{g:Nat→Nat}{o:AO}:(o.ren g).live=(o.ren id).live:=by
 induction o with
 | list f=>induction f <;> rfl
 | dict f=>induction f <;> rfl
 | _=>rfl
theorem ziZ{g:Nat→Nat}{o:AO}(h:(o.ren g).live=true):o.live=true:=by
 induction o with
 | frame=>exact nomatch h
 | other=>exact nomatch h
 | _=>rfl
theorem zfG:∀{σ:List Nat} {k i:Nat},ix k σ=some i→i<σ.length∧gl σ i=k
 | x :: r,k,i,h=>by
  rw [ixc] at h;induction e:Nat.beq x k with
  | true=>rw [e] at h;cases h;exact ⟨Nat.zero_lt_succ _,qB e⟩
  | false=>rw [e] at h;exact (jE h).elim fun j q=>q.2▸⟨Nat.succ_lt_succ (zfG q.1).1,(zfG q.1).2⟩
theorem zls:∀{σ:List Nat} {i:Nat},nd σ=true→i<σ.length→ix (gl σ i) σ=some i
 | x :: r,0,_,_=>by
  rw [ixc];rw [show gl (x :: r) 0=x from rfl,Nat.beq_refl];rfl
 | x :: r,i+1,h,l=>by
  have h:=aI h;have e:=zls h.2 (Nat.lt_of_succ_lt_succ l);rw [ixc];rw [show gl (x :: r) (i+1)=gl r i from rfl];induction q:Nat.beq x (gl r i) with
  | true=>rw [qB q,e] at h;exact nomatch h.1
  | false=>rw [e];rfl
section
variable {c:Cx} {W W' W₁:Wd} {h h' E₁:Hp} {σ:List Nat} {os:List AO}
theorem Vw.len(V:Vw σ h os):σ.length=os.length:=by simpa using congrArg List.length V.e
theorem Vw.at_(V:Vw σ h os){k:Nat}(l:k<os.length):gl σ k<h.nx∧h.at_ (gl σ k)=((Hp.of os).at_ k).ren (gl σ)∧((Hp.of os).at_ k).bd os.length=true∧(h.at_ (gl σ k)).live=true:=by
 have e:=V.1;have b:=V.2;have el:σ.length=os.length:=by simpa using congrArg List.length e
 simp only [Bool.and_eq_true] at b
 have e1:σ[k]? = some (gl σ k):=by rw [gl,gD,gG (el▸l)];rfl
 have e2:os[k]? = some ((Hp.of os).at_ k):=by
  show _=some (os.getD k .other);rw [gD,gG l];rfl
 have e3:=congrArg (·[k]?) e;simp only [List.getElem?_map,e1,e2,Option.map_some] at e3;have e3:=sI e3;exact ⟨blt (aT b.2 _ (mG e1)),e3,aT b.1.1.1 _ (mG e2),by rw [e3,zkQ];exact aT b.1.1.2 _ (mG e2)⟩
theorem Vw.inj(V:Vw σ h os){i j:Nat}(a:i<os.length)(b:j<os.length)(e:gl σ i=gl σ j):i=j:=by
 have q:=V.b;simp only [Bool.and_eq_true] at q;have x:=zls q.1.2 (V.len▸a);rw [e,zls q.1.2 (V.len▸b)] at x;exact (sI x).symm
theorem Rel.view(R:Rel c W h s)(V:Vw σ h os):Rel c (W.comp (gl σ)) (Hp.of os) s:=
 ⟨fun k q l=>(R.at_ _ (V.at_ q).1 (V.at_ q).2.2.2).imp id fun ⟨ob,h1,h2⟩=>⟨ob,h1, .cm (V.at_ q).2.2.1 ((V.at_ q).2.1▸h2)⟩,fun i j a b X X e=>V.inj a b (R.apart _ _ (V.at_ a).1 (V.at_ b).1 (V.at_ a).2.2.2 (V.at_ b).2.2.2 e),
  fun a ob e=>⟨(R.fz a ob e).1,(R.fz a ob e).2.1,fun k q X=>(R.fz a ob e).2.2 _ (V.at_ q).1 (V.at_ q).2.2.2⟩,⟨R.amb.1,R.amb.2,R.amb.3,R.amb.4⟩,R.fzn⟩
theorem Step.view(S:Step c n W s W' h' s')(V:Vw σ h' os)(p:((List.range n).all (fun j=>Nat.beq (gl σ j) j)&&Nat.ble n os.length)=true):Step c n W s (W'.comp (gl σ)) (Hp.of os) s':=by
 have p:=aI p;have id_:∀j,j<n→gl σ j=j:=fun j q=>qB (aT p.1 j (List.mem_range.mpr q));have le:n≤os.length:=jL p.2;exact ⟨S.rel.view V,⟨le,fun k q=>(congrArg W'.pl (id_ k q)).trans (S.le.pl k q),S.le.fz⟩,S.size,
  fun k a b=>S.fresh _ ((Nat.lt_or_ge (gl σ k) n).elim (fun q=>absurd (V.inj (lL q le) b (id_ _ q)) (Nat.ne_of_lt (lL q a))) id) (V.at_ b).1,S.freshF,S.kept,S.frm⟩
noncomputable def g2(h:Hp)(σ:List Nat)(i:Nat):Nat:=bif Nat.blt i σ.length then gl σ i else h.nx+(i-σ.length)
def Hp.patch(h:Hp)(σ:List Nat)(E:Hp):Hp:=⟨h.nx+(E.nx-σ.length),fun k=>bif Nat.blt k h.nx then (match ix k σ with | some i=>(E.at_ i).ren (g2 h σ) | none=>h.at_ k) else (E.at_ (k-h.nx+σ.length)).ren (g2 h σ)⟩
noncomputable def Wd.patch(W:Wd)(h:Hp)(m:Nat)(W₁:Wd):Wd:=⟨fun k=>bif Nat.blt k h.nx then W.pl k else W₁.pl (k-h.nx+m),W₁.fz⟩
theorem zjU{a b:Nat}(h:b≤a):Nat.blt a b=false:=by
 induction e:Nat.blt a b with
 | true=>exact absurd (blt e) (Nat.not_lt_of_le h)
 | false=>rfl
theorem zhQ{a b:Nat}(h:a<b):Nat.blt a b=true:=Nat.ble_eq_true_of_le h
theorem zdR(V:Vw σ h os)(S:Step c (Hp.of os).nx (W.comp (gl σ)) s W₁ E₁ s₁):Mp (g2 h σ) E₁.nx W₁ (h.patch σ E₁).nx (W.patch h σ.length W₁):=by
 refine ⟨fun k q=>?_,fun X X e=>e⟩;unfold g2 Wd.patch Hp.patch;have el:=V.len;have le:os.length≤E₁.nx:=S.le.le;rcases Nat.lt_or_ge k os.length with a | a
 ·have b:=(V.at_ a).1
  simp only [zhQ (el▸a:k<σ.length),zhQ b,cond_true]
  exact ⟨lL b (rA _ _),(S.le.pl k a).symm⟩
 ·simp only [zjU (el▸a:σ.length≤k),cond_false,zjU (Nat.le_add_right h.nx (k-σ.length))]
  exact ⟨Nat.add_lt_add_left (Nat.sub_lt_sub_right (el▸a) q) _,congrArg W₁.pl (by rw [Nat.add_sub_cancel_left,Nat.sub_add_cancel (el▸a)])⟩
theorem Step.patch(R:Rel c W h s)(V:Vw σ h os)(S:Step c (Hp.of os).nx (W.comp (gl σ)) s W₁ E₁ s₁):Step c h.nx W s (W.patch h σ.length W₁) (h.patch σ E₁) s₁:=by
 have M:=zdR V S;have el:=V.len;have le:os.length≤E₁.nx:=S.le.le;have L:Le h.nx W (h.patch σ E₁).nx (W.patch h σ.length W₁):=⟨Nat.le_add_right _ _,fun k q=>by unfold Wd.patch;simp only [zhQ q,cond_true],S.le.fz⟩;have live:∀k,k<h.nx→(h.at_ k).live=true→W.pl k<s.heap.objs.size:=fun k q l=>(R.at_ k q l).2.elim fun X z=>hZ z.1;have far:∀k,k<h.nx→ix k σ=none→(h.at_ k).live=true→∀j,j<os.length→W.pl (gl σ j)≠W.pl k:=fun k q n l j a e=>by
  have z:=R.apart _ _ (V.at_ a).1 q (V.at_ a).2.2.2 l e;have b:=V.b;simp only [Bool.and_eq_true] at b;rw [←z,zls b.1.2 (el▸a)] at n
  cases n
 -- every place is one of the call's or an old one
 have key:∀k,k<(h.patch σ E₁).nx→((h.patch σ E₁).at_ k).live=true→(∃i,i<E₁.nx∧g2 h σ i=k∧(h.patch σ E₁).at_ k=(E₁.at_ i).ren (g2 h σ)∧(E₁.at_ i).live=true)∨(k<h.nx∧ix k σ=none∧(h.patch σ E₁).at_ k=h.at_ k):=fun k q l=>by
  have q:k<h.nx+(E₁.nx-σ.length):=q;have e:(h.patch σ E₁).at_ k=bif Nat.blt k h.nx then (match ix k σ with | some i=>(E₁.at_ i).ren (g2 h σ) | none=>h.at_ k) else (E₁.at_ (k-h.nx+σ.length)).ren (g2 h σ):=rfl
  rcases Nat.lt_or_ge k h.nx with a | a
  ·rw [zhQ a,cond_true] at e
   induction x:ix k σ with
   | none=>rw [x] at e;exact .inr ⟨a,rfl,e⟩
   | some i=>
    rw [x] at e;have e:(h.patch σ E₁).at_ k=(E₁.at_ i).ren (g2 h σ):=e;obtain ⟨x1,x2⟩:=zfG x;exact .inl ⟨i,lL (el▸x1) le,by unfold g2;rw [zhQ x1];exact x2,e,ziZ (g:=g2 h σ) (e▸l)⟩
  ·rw [zjU a,cond_false] at e
   exact .inl ⟨k-h.nx+σ.length,Nat.add_lt_of_lt_sub (Nat.sub_lt_left_of_lt_add a q),by unfold g2;rw [zjU (Nat.le_add_left _ _),cond_false,Nat.add_sub_cancel,Nat.add_sub_cancel' a],e,ziZ (g:=g2 h σ) (e▸l)⟩
 have pli:∀i,i<E₁.nx→(W.patch h σ.length W₁).pl (g2 h σ i)=W₁.pl i:=fun i q=>(M.pl i q).2;have mix:∀i,i<E₁.nx→∀k,k<h.nx→ix k σ=none→(h.at_ k).live=true→W₁.pl i≠W.pl k:=fun i q k a n l e=>(Nat.lt_or_ge i os.length).elim (fun z=>far k a n l i z ((S.le.pl i z).symm.trans e)) fun z=>nL (live k a l) (e▸S.fresh i z q);refine ⟨⟨fun k q l=>?_,fun i j a b l m e=>?_,fun a ob e=>⟨(S.rel.fz a ob e).1,(S.rel.fz a ob e).2.1,fun k q l=>?_⟩,⟨S.rel.amb.1,S.rel.amb.2,S.rel.amb.3,S.rel.amb.4⟩,S.rel.fzn⟩,L,S.size,fun k a b=>?_,fun a ob e=>(S.freshF a ob e).imp id (.imp id fun ⟨j,q,z⟩=>⟨_,(V.at_ q).1,z⟩),fun b o e hp ht=>S.kept b o e (fun j q=>hp _ (V.at_ q).1) ht,S.frm⟩
 ·rcases key k q l with ⟨i,i1,i2,i3,i4⟩ | ⟨a,n,i3⟩
  ·rw [←i2,pli i i1,i2,i3]
   exact (S.rel.at_ i i1 i4).imp id fun ⟨ob,h1,h2⟩=>⟨ob,h1,h2.mp M⟩
  ·rw [i3] at l⊢
   obtain ⟨o1,ob,h1,h2⟩:=R.at_ k a l;rw [L.pl k a];exact (S.kept _ _ h1 (fun j q=>far k a n l j q) (fun ht=>(R.amb.tab _ ht).1 o1)).elim fun ob' q=>⟨o1,ob',q.1,(h2.slot l q.2).up L⟩
 ·rcases key i a l with ⟨x,x1,x2,_,x4⟩ | ⟨p,n,x3⟩
  ·rcases key j b m with ⟨y,y1,y2,_,y4⟩ | ⟨p',n',y3⟩
   ·rw [←x2,←y2,pli x x1,pli y y1] at e
    rw [←x2,←y2,S.rel.apart x y x1 y1 x4 y4 e]
   ·rw [←x2,pli x x1,L.pl j p'] at e
    exact absurd e (mix x x1 j p' n' (y3▸m))
  ·rcases key j b m with ⟨y,y1,y2,_,y4⟩ | ⟨p',n',y3⟩
   ·rw [←y2,pli y y1,L.pl i p] at e
    exact absurd e.symm (mix y y1 i p n (x3▸l))
   ·rw [L.pl i p,L.pl j p'] at e
    exact R.apart i j p p' (x3▸l) (y3▸m) e
 ·rcases key k q l with ⟨i,i1,i2,_,i4⟩ | ⟨p,n,i3⟩
  ·rw [←i2,pli i i1];exact (S.rel.fz a ob e).2.2 i i1 i4
  ·rw [L.pl k p]
   have l:(h.at_ k).live=true:=i3▸l;exact fun z=>(S.freshF a ob e).elim (fun y=>(R.fz a ob y).2.2 k p l z) fun y=>y.elim (fun y=>nL (live k p l) (z▸y)) fun ⟨j,y1,y2⟩=>far k p n l j y1 (y2.trans z.symm)
 ·have b:k<h.nx+(E₁.nx-σ.length):=b
  have e:(W.patch h σ.length W₁).pl k=W₁.pl (k-h.nx+σ.length):=by unfold Wd.patch;simp only [zjU a,cond_false]
  rw [e];exact S.fresh _ (show os.length≤k-h.nx+σ.length from el▸Nat.le_add_left _ _) (Nat.add_lt_of_lt_sub (Nat.sub_lt_left_of_lt_add a b))
end
end Mn
end
section
open PySem PySem.W PyProof.Rows PySem.Calls PySem.SeqAt
namespace Mn
variable {α:Type} {b:AV} {p q G:Prop} {x:Int} {W:Wd} {h:Hp} {s:Shared} {A:Around} {E:Value→Shared→Prop} {K:AV→Hp→Prop} {env:Env} {l:List (Str×AV)} {y:Int} {a:AV} {op:Operator} {o:Option α} {k:α→Prop}
structure Tabs where
 glob:Str→Option AV
 blt:Str→Option AV
 meth:Nat→List (Str×Nat)
 attrs:Nat→List (List Nat)
 defs:Nat→Option (FDat×List AV)
 intSet:Nat→Option (List Int)
 intTab:Nat→Option (List (Int×List Nat))
 rx:Nat→Option (List Nat→Bool)
def VR0(v:AV)(val:Value):Prop:=VR ⟨fun X=>0,fun X=>none⟩ 0 v val
theorem VR0.up{W:Wd}{n:Nat}{v:AV}{val:Value}(h:VR0 v val):VR W n v val:=VR.up ⟨oL _,fun X q=>absurd q (Nat.not_lt_zero _),fun X X q=>nomatch (q:none=some _)⟩ h
def FnB(c:Cx)(a:Addr)(fd:FDat)(dflt:List AV):Prop:=a∉c.tabs∧∃o fd',c.B.get? a=some o∧o.data = .func fd'∧fd'.params=fd.params∧fd'.body = .stmts fd.body∧fd'.scope=fd.scope∧fd'.globals=c.G∧fd'.builtins=0∧
  (∃cd oc vs q t,fd'.code = .ref cd∧cd∉c.tabs∧c.B.get? cd=some oc∧oc.data = .fields vs∧vs[1]? = some (.str q t)∧
   ∀t l k,fd.tab=some (t,l,k)→t∈c.tabs∧c.tinfo t=(l,k)∧c.B.TableAt cd t #[]∧c.B.IsCode cd t #[])∧
  ((fd'.defaults = .none∧dflt = [])∨∃T o items n,fd'.defaults = .ref T∧T∉c.tabs∧c.B.get? T=some o∧o.data = .seq items n∧Rs VR0 dflt items.toList)
noncomputable def zaY(T:Tabs)(C:Nat)(name:List Nat):Option Nat:=((T.meth C).find? (fun m=>m.1.cps.toList==name)).map (·.2)
structure Stat(T:Tabs)(c:Cx):Prop where
 gl:∃m,c.B.Ns c.G m∧(∀x v,T.glob x=some v→∃val,m x=some val∧VR0 v val)∧(∀x,T.glob x=none→(T.blt x).isSome=true→m x=none)
 bl:∃m,c.B.Ns 0 m∧∀x v,T.blt x=some v→∃val,m x=some val∧VR0 v val
 gt:c.G∉c.tabs
 bt:0∉c.tabs
 st:cStatics∉c.tabs
 lim:c.B.NoLimit
 bf:∀(M:Model) (h:Heap),(∀b o,c.B.get? b=some o→b∉c.tabs→h.get? b=some o)→Looks M h (builtinsFor c.G 0) 0
 fn:∀a fd dflt,T.defs a=some (fd,dflt)→FnB c a fd dflt
 set_:∀a is,T.intSet a=some is→a∉c.tabs∧∃n,c.B.SetOf (PySem.intKind c.prog c.w) a (fun k=>is.contains k) n
 inB:c.K.In c.B
 tabs:∀a o,c.K.lookup a=some o→a∉c.tabs
 cls:∀C,T.attrs C≠ []∨T.meth C≠ []→findIn c.K (.ref C) "__getattribute__" =some (some (.builtin "object.__getattribute__"))∧findIn c.K (.ref C) "__setattr__" =some (some (.builtin "object.__setattr__"))∧
  plainOver c.K C=true∧(clsIn c.K C).any (·.hasDict)=true∧findIn c.K (.ref C) "__getattr__" =some none
 attr:∀C n,n∈T.attrs C→findIn c.K (.ref C) (za0 n)=some none
 meth:∀C n f,zaY T C n=some f→findIn c.K (.ref C) (za0 n)=some (some (.ref f))∧specialIn c.K (.ref f) "__get__" =some (some (.builtin "function.__get__"))∧typeIn c.K (.ref f)=some (.type "function")∧takesIn c.K (.ref f)=some false∧copiedNames.contains (za0 n)=false
 make:∀C m,zaY T C [95,95,105,110,105,116,95,95]=some m→makesIn c.K C=true∧keepIn c.K (.ref C)=true
structure Room(A:Around)(n:Nat):Prop where
 hand:A.handled=none
 depth:A.depth+8*n+4<900
 units:A.units+60*n+100<cLine
structure RoomC(A:Around)(n:Nat):Prop where
 hand:A.handled=none
 depth:A.depth+8*n<900
 units:A.units+60*n+70<cLine
theorem Room.c{A:Around}{n:Nat}(h:Room A n):RoomC A n:=⟨h.hand,lE (rA _ _) h.depth,lE (Nat.add_le_add_left (by decide) _) h.units⟩
def FFC(c:Cx)(A:Around)(s:Shared):Prop:=∃l,A.frames=some l∧∀env∈l,env.scope.kind≠ .module∧∃L o,env.frame=some L∧c.B.get? L=none∧s.heap.get? L=some o∧FrL o
theorem FFC.step{c:Cx}{A:Around}{n:Nat}{W W':Wd}{h':Hp}{s s':Shared}(F:FFC c A s)(S:Step c n W s W' h' s'):FFC c A s':=F.imp fun X z=>⟨z.1,fun env m=>(z.2 env m).imp id fun ⟨L,o,a,b,e,f⟩=>(S.frm L o e f).elim fun o' q=>⟨L,o',a,b,q.1,q.2⟩⟩
structure RoomF(c:Cx)(A:Around)(n:Nat)(s:Shared):Prop extends RoomC A n where
 frs:FFC c A s
structure PM(T:Tabs) where
 c:Cx
 S:Stat T c
 n:Nat
section
variable {T:Tabs} (P:PM T)
structure Go(W:Wd)(h:Hp)(s:Shared)(A:Around):Prop where
 room:Room A P.n
 rel:Rel P.c W h s
 frs:FFC P.c A s
def Kn{α β:Type}(RR:Wd→Nat→α→β→Prop)(K:α→Hp→Prop)(W:Wd)(n:Nat)(s:Shared)(Q:β→Shared→Prop):Prop:=∀⦃W' v val h' s'⦄,Step P.c n W s W' h' s'→RR W' h'.nx v val→K v h'→Q val s'
def J{ι α β:Type}(RI:Around→Wd→Nat→ι→Prop)(RR:Wd→Nat→α→β→Prop)(t:ι→Sem β)(h:Hp)(K:α→Hp→Prop):Prop:=
 ∀(A:Around) (E:Value→Shared→Prop) (Q:β→Shared→Prop) (s:Shared) (W:Wd) (i:ι),Go P W h s A→RI A W h.nx i→Kn P RR K W h.nx s Q→wpAny (model P.c.prog P.c.w) A (t i) Q E s
end
def VV(W:Wd)(n:Nat)(x:AV)(v:Value):Prop:=VR W n x v
def BB(_:Wd)(_:Nat)(x y:Bool):Prop:=y=x
def UU(_:Wd)(_:Nat)(_:Unit)(_:Unit):Prop:=True
def V1(a:AV)(_:Around)(W:Wd)(n:Nat)(v:Value):Prop:=VR W n a v
def V2(a b:AV)(_:Around)(W:Wd)(n:Nat)(v:Value×Value):Prop:=VR W n a v.1∧VR W n b v.2
def V3(a b d:AV)(_:Around)(W:Wd)(n:Nat)(v:Value×Value×Value):Prop:=VR W n a v.1∧VR W n b v.2.1∧VR W n d v.2.2
structure Fr where
 sc:Scope
 L:Nat
 cel:List (Str×Nat)
 tab:Option (Nat×Nat×Nat)
structure FrAt(c:Cx)(W:Wd)(n:Nat)(env:Env)(fr:Fr):Prop where
 kind:env.scope.kind = .function
 kinds:∀x k,fr.sc.names.lookup x=some k→env.kindOf x=some k∨(k = .free∧env.kindOf x=some .cell)
 glob:env.globals=c.G
 blt:env.builtins=0
 loc:fr.L<n∧env.locals=W.pl fr.L
 cells:∀x t,fr.cel.lookup x=some t→t<n∧env.cells.lookup x=some (W.pl t)
 tab:∀t l k,fr.tab=some (t,l,k)→t∈c.tabs∧c.tinfo t=(l,k)∧∃a,env.code = .ref a∧a∉c.tabs∧c.B.TableAt a t #[]∧c.B.IsCode a t #[]
def zrX(A:Around)(env:Env):Prop:=∃e0 l,A.frames=some (e0 :: l)∧e0.frame=env.frame
structure FI{T:Tabs}(P:PM T)(fr:Fr)(A:Around)(W:Wd)(n:Nat)(env:Env):Prop extends FrAt P.c W n env fr where
 head:zrX A env
noncomputable def zgk(x:Str):Bool:=!(x==("__debug__" :Str)) && !(x==("__classdict__" :Str))
def req(b:Bool)(p:Prop):Prop:=Bool.casesOn (motive:=fun X=>Prop) b False p
def br(b:Bool)(p q:Prop):Prop:=Bool.casesOn (motive:=fun X=>Prop) b q p
def opt{α:Type}(o:Option α)(k:α→Prop):Prop:=Option.casesOn (motive:=fun X=>Prop) o False k
def alt{α:Type}(o:Option α)(k:α→Prop)(p:Prop):Prop:=Option.casesOn (motive:=fun X=>Prop) o p k
inductive res(x:Int)(b:Bool)(k:Int→Prop):Prop
 | mk (y:Int) (e:x=y) (c:b=true) (h:k y)
inductive mapK{α β:Type}(f:β→α)(xs:List α)(k:List β→Prop):Prop
 | mk (is:List β) (e:xs=is.map f) (h:k is)
theorem mapK.ex{α β:Type}{f:β→α}{xs:List α}{k:List β→Prop}(H:mapK f xs k):∃is,xs=is.map f∧k is:=H.casesOn fun is e h=>⟨is,e,h⟩
section
variable {b:Bool} {a:α} {m:Int→Prop}
theorem zo3(e:b=true)(h:p):req b p:=by subst e;exact h
theorem br_t(e:b=true)(h:p):br b p q:=by subst e;exact h
theorem br_f(e:b=false)(h:q):br b p q:=by subst e;exact h
theorem zcb(e:o=some a)(h:k a):opt o k:=by subst e;exact h
theorem req.go(h:req b p)(f:b=true→p→G):G:=by
 induction b
 ·exact h.elim
 ·exact f rfl h
theorem br.go(h:br b p q)(f:b=true→p→G)(g:b=false→q→G):G:=by
 induction b
 ·exact g rfl h
 ·exact f rfl h
theorem opt.go(h:opt o k)(f:∀a,o=some a→k a→G):G:=by
 induction o
 ·exact h.elim
 ·exact f _ rfl h
theorem alt.go(h:alt o k p)(f:∀a,o=some a→k a→G)(g:o=none→p→G):G:=by
 induction o
 ·exact g rfl h
 ·exact f _ rfl h
theorem res.go(h:res x b m)(f:b=true→m x→G):G:=h.casesOn fun X e c h=>f c (e▸h)
end
inductive Rq(b:Bool)(p:Prop):Prop
 | t (e:b=true) (h:p)
inductive Br(b:Bool)(p q:Prop):Prop
 | t (e:b=true) (h:p)
 | f (e:b=false) (h:q)
inductive Op{α:Type}(o:Option α)(k:α→Prop):Prop
 | s (a:α) (e:o=some a) (h:k a)
inductive Al{α:Type}(o:Option α)(k:α→Prop)(p:Prop):Prop
 | s (a:α) (e:o=some a) (h:k a)
 | n (e:o=none) (h:p)
section
variable {b:Bool}
theorem Rq.go(h:Rq b p)(f:b=true→p→G):G:=h.casesOn f
theorem Br.go(h:Br b p q)(f:b=true→p→G)(g:b=false→q→G):G:=h.casesOn f g
theorem Op.go(h:Op o k)(f:∀a,o=some a→k a→G):G:=h.casesOn f
theorem Al.go(h:Al o k p)(f:∀a,o=some a→k a→G)(g:o=none→p→G):G:=h.casesOn f g
end
section
variable {T:Tabs} {P:PM T} {W₁:Wd} {h₁:Hp} {s₁:Shared} {n:Nat}
theorem Go.rc(G:Go P W h s A):RoomF P.c A P.n s:=⟨G.room.c,G.frs⟩
theorem Go.u(G:Go P W h s A):A.units+70<cLine:=by have:=G.room.units;exact lz3 0x88411820860000012210640821fc042046000000041 this
theorem Go.step(G:Go P W h s A)(S:Step P.c n W s W₁ h₁ s₁){W₀:Wd}:Go P W₁ h₁ s₁ A:=⟨G.room,S.rel,G.frs.step S⟩
theorem FrAt.up{c:Cx}{n n':Nat}{W W':Wd}{env:Env}{fr:Fr}(F:FrAt c W n env fr)(L:Le n W n' W'):FrAt c W' n' env fr:=
 ⟨F.kind,F.kinds,F.glob,F.blt,⟨lL F.loc.1 L.le,F.loc.2.trans (L.pl _ F.loc.1).symm⟩,fun x t e=>⟨lL (F.cells x t e).1 L.le,(L.pl _ (F.cells x t e).1).symm▸(F.cells x t e).2⟩,F.tab⟩
theorem FI.up{T:Tabs}{P:PM T}{A:Around}{n n':Nat}{W W':Wd}{env:Env}{fr:Fr}(F:FI P fr A W n env)(L:Le n W n' W'):FI P fr A W' n' env:=⟨F.toFrAt.up L,F.head⟩
theorem Kn.after{α β:Type}{RR:Wd→Nat→α→β→Prop}{K:α→Hp→Prop}{Q:β→Shared→Prop}(k:Kn P RR K W n s Q)(S:Step P.c n W s W₁ h₁ s₁):Kn P RR K W₁ h₁.nx s₁ Q:=fun X X X X X S' V q=>k (S.trans S') V q
theorem Kn.here{K:AV→Hp→Prop}{Q:Value→Shared→Prop}(k:Kn P VV K W h.nx s Q)(R:Rel P.c W h s){v:AV}{val:Value}(hv:VR W h.nx v val)(q:K v h){tk:Nat}{d:Drawn}:Q val {s with toks:=tk,drawn:=d}:=k (.same R rfl rfl rfl) hv q
theorem Kn.nu{K:AV→Hp→Prop}{Q:Value→Shared→Prop}(k:Kn P VV K W h.nx s Q)(R:Rel P.c W h s){o:AO}{ob:Obj}(hl:ob.isFreed=false)(hO:∀W',Le h.nx W (h.nx+1) W'→ObjIs P.c W' (h.nx+1) ob o)(q:K (.ref h.nx) (h.new o)){tk:Nat}{d:Drawn}:Q (.ref s.heap.objs.size) {s with heap:=s.heap.push ob,toks:=tk,drawn:=d}:=
 k (.new R (a:=s.heap.objs.size) o (fun X=>⟨ob,pZ _ hl,hO _ (.put ..)⟩) (rL _) (by
  induction e:P.c.B.get? s.heap.objs.size with
  | none=>rfl
  | some x=>
   by_cases ht:s.heap.objs.size∈P.c.tabs
   ·exact absurd ((R.amb.tab _ ht).2.elim hZ fun ⟨X,Z,q,Y⟩=>hZ q) (Nat.lt_irrefl _)
   ·exact absurd (hZ (R.amb.base _ _ e ht)) (Nat.lt_irrefl _)) (fun X X e=>pS _ e) rfl rfl) (show VR _ _ (.ref h.nx) _ from ⟨sS _,congrArg Value.ref upd_self.symm⟩) q
theorem Rel.obj{c:Cx}(R:Rel c W h s){k:Nat}(hk:k<h.nx){o:AO}(e:h.at_ k=o)(l:o.live=true):∃ob,s.heap.get? (W.pl k)=some ob∧ObjIs c W h.nx ob o:=(e▸R.at_ k hk:OAt _ _ _ _ _ o) l |>.2
theorem zb4{h h':Heap}{a:Addr}{m:Str→Option Value}(hn:h.Ns a m)(e:∀o,h.get? a=some o→h'.get? a=some o):h'.Ns a m:=hn.imp fun X=> .imp fun X=> .imp fun X=> .imp_left (e _)
end
def zaS(l:List Nat):Prop:=∀c∈l,c<0x110000
def pdS(x:SV):PyData:=SV.casesOn (motive:=fun X=>PyData) x .none .bool .int fun s=> .str (za0 s)
def pdA(a:AV):Option PyData:=AV.casesOn (motive:=fun X=>Option PyData) a (some .none) (fun b=>some (.bool b)) (fun i=>some (.int i)) (fun s=>some (.str (za0 s))) jA jA jA jA (fun xs=>some (.tuple (xs.map pdS))) (fun xs=>some (.list (xs.map pdS))) none
def zsi(xs ys:List AV)(r:Bool):Prop:=∃d e,xs.map pdA=d.map some∧ys.map pdA=e.map some∧PyData.canLayAll0 d=true∧PyData.canLayAll0 e=true∧PyData.eqvAll d e=r
inductive eqL(xs ys:List AV)(k:Bool→Prop):Prop
 | len (e:Nat.beq xs.length ys.length=false) (H:k false)
 | strs (a b:List (List Nat)) (ea:xs=a.map .str) (eb:ys=b.map .str) (ca:∀s∈a,zaS s) (cb:∀s∈b,zaS s) (H:k (a==b))
 | ints (a b:List Int) (ea:xs=a.map .int) (eb:ys=b.map .int) (H:k (a==b))
 | dat (r:Bool) (q:zsi xs ys r) (H:k r)
set_option genCtorIdx false in
inductive U where
 | o
 | b (b:Bool)
 | n (n:Nat)
 | i (i:Int)
 | s (s:List Nat)
 | a (a:AV)
 | x (x:SV)
 | ht (a:AV) (l:List AV)
 | en (i:Int) (s:List Nat)
 | li (l:List Int)
 | ls (l:List (List Nat))
 | lo (l:List (Option (List Nat)))
 | len
 | txt (a b:List (List Nat))
 | num (a b:List Int)
noncomputable def U.b?(u:U):Option Bool:=U.casesOn (motive:=fun X=>Option Bool) u Option.none some jA jA jA jA jA jC jC jA jA jA Option.none jC jC
noncomputable def U.n?(u:U):Option Nat:=U.casesOn (motive:=fun X=>Option Nat) u Option.none jA some jA jA jA jA jC jC jA jA jA Option.none jC jC
noncomputable def U.i?(u:U):Option Int:=U.casesOn (motive:=fun X=>Option Int) u Option.none jA jA some jA jA jA jC jC jA jA jA Option.none jC jC
noncomputable def U.s?(u:U):Option (List Nat):=U.casesOn (motive:=fun X=>Option (List Nat)) u Option.none jA jA jA some jA jA jC jC jA jA jA Option.none jC jC
noncomputable def U.a?(u:U):Option AV:=U.casesOn (motive:=fun X=>Option AV) u Option.none jA jA jA jA some jA jC jC jA jA jA Option.none jC jC
noncomputable def U.x?(u:U):Option SV:=U.casesOn (motive:=fun X=>Option SV) u Option.none jA jA jA jA jA some jC jC jA jA jA Option.none jC jC
noncomputable def U.ht?(u:U):Option (AV×List AV):=U.casesOn (motive:=fun X=>Option (AV×List AV)) u Option.none jA jA jA jA jA jA (fun a l=>some (a,l)) jC jA jA jA Option.none jC jC
noncomputable def U.en?(u:U):Option (Int×List Nat):=U.casesOn (motive:=fun X=>Option (Int×List Nat)) u Option.none jA jA jA jA jA jA jC (fun a l=>some (a,l)) jA jA jA Option.none jC jC
noncomputable def U.li?(u:U):Option (List Int):=U.casesOn (motive:=fun X=>Option (List Int)) u Option.none jA jA jA jA jA jA jC jC some jA jA Option.none jC jC
noncomputable def U.ls?(u:U):Option (List (List Nat)):=U.casesOn (motive:=fun X=>Option (List (List Nat))) u Option.none jA jA jA jA jA jA jC jC jA some jA Option.none jC jC
noncomputable def U.lo?(u:U):Option (List (Option (List Nat))):=U.casesOn (motive:=fun X=>Option (List (Option (List Nat)))) u Option.none jA jA jA jA jA jA jC jC jA jA some Option.none jC jC
set_option genCtorIdx false in
inductive Tr(β:Type):Type 1
 | ret (a:β) (h:Hp)
 | no
 | rq (b:Bool) (t:Tr β)
 | bs (b:Bool) (t e:Tr β)
 | os {ι:Type} (o:Option ι) (k:ι→Tr β)
 | al {ι:Type} (o:Option ι) (k:ι→Tr β) (n:Tr β)
 | Rq (b:Bool) (t:Tr β)
 | Br (b:Bool) (t e:Tr β)
 | Op {ι:Type} (d:U→Option ι) (o:Option ι) (k:ι→Tr β)
 | Al {ι:Type} (d:U→Option ι) (o:Option ι) (k:ι→Tr β) (n:Tr β)
 | rs (x:Int) (b:Bool) (k:Int→Tr β)
 | mp {ι κ:Type} (d:U→Option (List κ)) (f:κ→ι) (xs:List ι) (k:List κ→Tr β)
 | eq (xs ys:List AV) (k:Bool→Tr β)
noncomputable def Tr.sem{β:Type}(K:β→Hp→Prop):Tr β→Prop
 | .ret a h=>K a h
 | .no=>False
 | .rq b t=>req b (t.sem K)
 | .bs b t e=>br b (t.sem K) (e.sem K)
 | .os o k=>opt o fun a=>(k a).sem K
 | .al o k n=>alt o (fun a=>(k a).sem K) (n.sem K)
 | .Rq b t=>Mn.Rq b (t.sem K)
 | .Br b t e=>Mn.Br b (t.sem K) (e.sem K)
 | .Op _ o k=>Mn.Op o fun a=>(k a).sem K
 | .Al _ o k n=>Mn.Al o (fun a=>(k a).sem K) (n.sem K)
 | .rs x b k=>res x b fun y=>(k y).sem K
 | .mp _ f xs k=>mapK f xs fun is=>(k is).sem K
 | .eq xs ys k=>eqL xs ys fun r=>(k r).sem K
noncomputable def byKind.{u}{α:Sort u}(k:NameKind)(l c f g:α):α:=NameKind.casesOn (motive:=fun X=>α) k l c f g g
def zhz{T:Tabs}(fr:Fr)(x:Str)(h:Hp):Tr AV:= .rq (zgk x) (.os (fr.sc.names.lookup x) fun k=>byKind (α:=Tr AV) k
 (.os (h.at_ fr.L).frame? fun l=> .os (l.lookup x) fun v=> .ret v h)
 (.os (fr.cel.lookup x) fun t=> .os (h.at_ t).cell? fun v=> .os v fun v=> .ret v h)
 (.os (fr.cel.lookup x) fun t=> .os (h.at_ t).cell? fun v=> .os v fun v=> .ret v h)
 (.os ((T.glob x).or (T.blt x)) fun v=> .ret v h))
def load{T:Tabs}(fr:Fr)(x:Str)(h:Hp)(K:AV→Hp→Prop):Prop:=(zhz (T:=T) fr x h).sem K
section
variable {T:Tabs} {P:PM T} {fr:Fr} {x:Str}
theorem FrAt.frame{c:Cx}(F:FrAt c W h.nx env fr)(R:Rel c W h s)(e:(h.at_ fr.L).frame? = some l):∃m,s.heap.Ns env.locals m∧∀x v,l.lookup x=some v→∃u,m x=some u∧VR W h.nx v u:=
 (R.obj F.loc.1 (AO.frame?_is e) rfl).elim fun ob o=>o.2.elim fun es q=>q.elim fun ep q=>⟨nsFind es,F.loc.2▸⟨ob,es,ep,o.1,q.1,q.2.1,fun X=>rfl⟩,q.2.2⟩
theorem zhy(e:fr.sc.names.lookup x=some .local)(H:opt (h.at_ fr.L).frame? fun l=>opt (l.lookup x) fun v=>K v h):J P (FI P fr) VV (fun env=>loadName env x) h K:=fun A E Q s W env G F k=>
 H.go fun l e1 H=>H.go fun v e2 H=>(FrAt.frame F.toFrAt G.rel e1).elim fun m q=>(q.2 x v e2).elim fun u r=>wpAny_loadName_local F.kind ((F.kinds x _ e).elim id fun q=>nomatch q.1) q.1 r.1 (k.here G.rel r.2 H)
theorem zeP{k:NameKind}(e:fr.sc.names.lookup x=some k)(hk:k = .cell∨k = .free)(hx:(x==("__classdict__" :Str))=false)(H:opt (fr.cel.lookup x) fun t=>opt (h.at_ t).cell? fun v=>opt v fun v=>K v h):J P (FI P fr) VV (fun env=>loadName env x) h K:=fun A E Q s W env G F kn=>
 H.go fun t e1 H=>H.go fun c e2 H=>H.go fun v e3 H=>(F.cells x t e1).elim fun b1 b2=>(G.rel.obj b1 ((AO.cell?_is e2).trans (congrArg AO.cell e3)) rfl).elim fun ob o=>o.2.elim fun u q=>by
  have I:s.heap.IsCell (W.pl t) (some u):=⟨_,o.1,q.1⟩;have z:=kn.here G.rel q.2 H (tk:=s.toks) (d:=s.drawn);exact (F.kinds x _ e).elim (fun y=>hk.elim (fun z'=>wpAny_loadName_cell F.kind (z'▸y) b2 I z) fun z'=>wpAny_loadName_free F.kind (z'▸y) b2 I z hx) fun y=>wpAny_loadName_cell F.kind y.2 b2 I z
theorem zeO{k:NameKind}(e:fr.sc.names.lookup x=some k)(hk:k = .globalExplicit∨k = .globalImplicit)(H:opt ((T.glob x).or (T.blt x)) fun v=>K v h):J P (FI P fr) VV (fun env=>loadName env x) h K:=fun A E Q s W env G F kn=>
 H.go fun v e1 H=>P.S.gl.elim fun m g=>P.S.bl.elim fun b b'=>by
  have g1:s.heap.Ns env.globals m:=F.glob▸zb4 g.1 fun o q=>G.rel.amb.base _ _ q P.S.gt;have b1:s.heap.Ns env.builtins b:=F.blt▸zb4 b'.1 fun o q=>G.rel.amb.base _ _ q P.S.bt;have red:wpAny (model P.c.prog P.c.w) A (loadGlobal env x) Q E s:=wB (wpAny_nsGet g1 (by
   induction q:T.glob x with
   | some u=>exact (g.2.1 x u q).elim fun val r=>r.1▸wP (kn.here G.rel r.2.up (sI (q▸e1:(some u).or _=_)▸H))
   | none=>
    have e1:T.blt x=some v:=(q▸e1:Option.or none _=_);exact g.2.2 x q (e1▸rfl)▸wB (wpAny_nsGet b1 ((b'.2 x v e1).elim fun val r=>r.1▸wP (kn.here G.rel r.2.up H)))))
  have z:k≠ .free→env.kindOf x=some k:=fun ne=>(F.kinds x _ e).elim id fun q=>absurd q.1 ne;show wpAny _ A (loadName env x) Q E s;rcases hk with rfl | rfl
  ·exact loadName_declared F.kind (z nofun)▸red
  ·exact loadName_read F.kind (z nofun)▸red
theorem zfC(H:load (T:=T) fr x h K):J P (FI P fr) VV (fun env=>loadName env x) h K:=H.go fun hx H=>H.go fun k e H=>by
 have hx:=Bool.not_eq_true' _▸(aI hx).2;induction k with
 | «local» =>exact zhy e H
 | cell=>exact zeP e (.inl rfl) hx H
 | free=>exact zeP e (.inr rfl) hx H
 | globalExplicit=>exact zeO e (.inl rfl) H
 | globalImplicit=>exact zeO e (.inr rfl) H
end
theorem zcx{x:Str}{n:Int}{key v:Value}{o:Obj}:(Obj.putName x n key v o).cls=o.cls∧((∃es k,o.data = .dict es k)→∃es k,(Obj.putName x n key v o).data = .dict es k):=by
 obtain ⟨c,d,dt,sl⟩:=o;rw [Obj.putName_eq];unfold Obj.putNameByArray;induction dt with
 | dict es k=>
  dsimp only
  induction es.findIdx? (·.key.isStr x) with
  | none=>exact ⟨rfl,fun X=>⟨_,_,rfl⟩⟩
  | some i=>exact ⟨rfl,fun X=>⟨_,_,rfl⟩⟩
 | _=>exact ⟨rfl,fun ⟨X,Z,e⟩=>nomatch e⟩
theorem ziO{M:Model}{A:Around}{E:Value→Shared→Prop}{s:Shared}{a:Addr}{m}{name:Str}{v:Value}{Q:Unit→Shared→Prop}(hn:s.heap.Ns a m)
  (h:∀h',h'.Ns a (fun x=>if x=name then some v else m x)→Heap.SameBut a s.heap h'→(∀o,s.heap.get? a=some o→FrL o→∃o',h'.get? a=some o'∧FrL o')→Q () {s with heap:=h',toks:=s.toks+1}):wpAny M A (nsSet a name v) Q E s:=fun Γ p X=>by
 obtain ⟨o,es,ep,ho,hd,hk,hm⟩:=id hn;have z:=Sem.wp_nsSet M Γ (fun e X s=>E e s) p s hn name v (fun X X s'=>∀h',s' = {s with heap:=h',toks:=s.toks+1}→h'.Ns a (fun x=>if x=name then some v else m x)∧Heap.SameBut a s.heap h') fun h' n sb h'' e=>by
  obtain rfl:h'=h'':=congrArg (·.heap) e;exact ⟨n,sb⟩
 revert z;simp only [nsSet,strHash,Sem.wp_bind',Sem.wp_cmd_ask,Sem.wp_pure',Sem.wp_cmd_mkText];rw [Sem.wp_loadPart_of M Γ (fun e X s=>E e s) p {s with toks:=s.toks+1} (o:=o) _ ho,Sem.wp_loadPart_of M Γ (fun e X s=>E e s) p {s with toks:=s.toks+1} (o:=o) _ ho]
 have hany:es.any (·.refKey)=false:=by
  rw [Array.any_eq_false'];intro e he;obtain ⟨n,t,h⟩:=hk e he;simp [DictEntry.refKey,h]
 simp only [hd,aRefKeyMayBeTheName_eq,aRefKeyMayBeTheNameByArray,hany,Bool.and_false,Bool.false_eq_true,if_false,Sem.wp_cmd_updatePart]
 intro z;refine ⟨z.1,h _ (z.2 _ rfl).1 (z.2 _ rfl).2 fun o' e f=>?_⟩;obtain rfl:=sI (ho.symm.trans e);obtain ⟨es',k',d'⟩:=zcx.2 f.1;exact ⟨_,Heap.get?_update_self _ ho (Obj.isFreed_of_dict d'),⟨es',k',d'⟩,fun q=>f.2 (zcx.1.symm.trans q)⟩
def zcs{β:Type}(fr:Fr)(x:Str)(v:AV)(h:Hp)(k:Hp→Tr β):Tr β:= .os (fr.sc.names.lookup x) fun n=>byKind (α:=Tr β) n
 (.os (h.at_ fr.L).frame? fun l=>k (h.set fr.L (.frame ((x,v) :: l))))
 (.os (fr.cel.lookup x) fun t=> .os (h.at_ t).cell? fun X=>k (h.set t (.cell (some v)))) .no .no
def zhl(fr:Fr)(x:Str)(v:AV)(h:Hp)(K:Unit→Hp→Prop):Prop:=(zcs fr x v h fun h=> .ret () h).sem K
section
variable {T:Tabs} {P:PM T} {fr:Fr} {x:Str} {K:Unit→Hp→Prop} {v v':AV}
def FV0(P:PM T)(fr:Fr)(v:AV)(_:Around)(W:Wd)(n:Nat)(p:Env×Value):Prop:=FrAt P.c W n p.1 fr∧VR W n v p.2
def FV(P:PM T)(fr:Fr)(v:AV)(A:Around)(W:Wd)(n:Nat)(p:Env×Value):Prop:=FI P fr A W n p.1∧VR W n v p.2
theorem zay(e:fr.sc.names.lookup x=some .local)(H:opt (h.at_ fr.L).frame? fun l=>K () (h.set fr.L (.frame ((x,v) :: l)))):J P (FV0 P fr v) UU (fun p=>storeName p.1 x p.2) h K:=fun A E Q s W p G F k=>
 H.go fun l e1 H=>(FrAt.frame F.1 G.rel e1).elim fun m q=>(show wpAny _ A (storeName p.1 x p.2) Q E s from (storeName_local ((F.1.kinds x _ e).elim id fun q=>nomatch q.1) (by rw [F.1.kind];rfl) p.2).symm▸ziO q.1 fun h' n' sb fl=>n'.elim fun ob n=>n.elim fun es n=>n.elim fun ep n=>by
  rw [F.1.loc.2] at n sb fl;exact k (.set G.rel (k:=fr.L) (.frame ((x,v) :: l)) F.1.loc.1 (AO.frame?_is e1▸rfl) (fun X o X e f=>fl o e f) (fun X=>⟨ob,n.1,es,ep,n.2.1,n.2.2.1,fun y w z=>n.2.2.2 y▸by
   rw [List.lookup_cons] at z;show∃u,(if y=x then some p.2 else m y)=some u∧_;induction q':y==x with
   | true=>rw [q'] at z;exact ⟨p.2,if_pos (eq_of_beq q'),sI z▸F.2⟩
   | false=>rw [q'] at z;exact (q.2 y w z).imp fun X r=>⟨(if_neg (ne_of_beq_false q')).trans r.1,r.2⟩⟩) (fun b o e ne=>(sb.2 b ne).trans e) rfl rfl (eL sb.1.symm)) trivial H)
theorem zhk(e:fr.sc.names.lookup x=some .cell)(H:opt (fr.cel.lookup x) fun t=>opt (h.at_ t).cell? fun X=>K () (h.set t (.cell (some v)))):J P (FV0 P fr v) UU (fun p=>storeName p.1 x p.2) h K:=fun A E Q s W p G F k=>
 H.go fun t e1 H=>H.go fun c e2 H=>(F.1.cells x t e1).elim fun b1 b2=>(G.rel.obj b1 (AO.cell?_is e2) rfl).elim fun ob o=>
  (show∃v₀,ob.data = .cell v₀ from match c,o.2 with
   | none,q=>⟨_,q⟩
   | some _,q=>q.imp' some fun X q=>q.1).elim fun v₀ q=>wpAny_storeName_cell F.1.kind ((F.1.kinds x _ e).elim id fun q=>nomatch q.1) b2 ⟨ob,o.1,q⟩ fun h' n sb=>n.elim fun ob' n=>
   k (.set G.rel (k:=t) (.cell (some v)) b1 (AO.cell?_is e2▸rfl) (fun X X q=>AO.noConfusion ((AO.cell?_is e2).symm.trans q)) (fun X=>⟨ob',n.1,p.2,n.2,F.2⟩) (fun b o e hb=>(sb.2 b hb).trans e) rfl rfl (eL sb.1.symm)) trivial H
theorem zcg{β:Type}{κ:Hp→Tr β}{K:β→Hp→Prop}(H:(zcs fr x v h κ).sem K):J P (FV0 P fr v) UU (fun p=>storeName p.1 x p.2) h (fun X h=>(κ h).sem K):=H.go fun k e H=>by
 induction k with
 | «local» =>exact zay e H
 | cell=>exact zhk e H
 | _=>exact H.elim
end
noncomputable def SV.av:SV→AV
 | .none=> .none
 | .bool b=> .bool b
 | .int i=> .int i
 | .str s=> .str s
theorem SR.vr{W:Wd}{n:Nat}{x:SV}{v:Value}(h:SR x v):VR W n x.av v:=by induction x <;> exact h
def zaT(h:Hp)(a:AV):Option (Bool×List AV):=AV.casesOn (motive:=fun X=>Option (Bool×List AV)) a none jA jA jA (fun k=>(h.at_ k).list?) jA jA jA jA (fun xs=>some (false,xs.map SV.av)) none
noncomputable def sizeL:Nat:=2^24
noncomputable def za1(i:Int):Bool:=decide (i.natAbs.log2<1000000)
section
variable {T:Tabs} {P:PM T} {β:Type} {RR:Wd→Nat→α→β→Prop} {t:Value×Value→Sem β} {K:α→Hp→Prop}
theorem zac{c:Cx}(R:Rel c W h s){v:Value}{p:Bool×List AV}(hv:VR W h.nx a v)(e:zaT h a=some p):∃l vs k,v = .ref l∧s.heap.get? l=some (zbp "list" vs k)∧Rs (VR W (lim p.1 h.nx)) p.2 vs.toList:=by
 induction a with
 | ref k=>exact (R.obj hv.1 (AO.list?_is e) rfl).elim fun ob o=>o.2.elim fun vs q=>q.elim fun k q=>⟨_,vs,k,hv.2,q.1▸o.1,q.2⟩
 | lst xs=>exact hv.elim fun l q=>q.elim fun vs q=>q.elim fun k q=>⟨l,vs,k,q.1,(R.fz _ _ q.2.1).2.1,sI e▸q.2.2.mapL fun X X=>SR.vr⟩
 | _=>exact no e
theorem J2.ii(f:∀A E Q s W i j,Go P W h s A→Kn P RR K W h.nx s Q→wpAny (model P.c.prog P.c.w) A (t (.int x i, .int y j)) Q E s):J P (V2 (.int x) (.int y)) RR t h K:=fun A E Q s W p G F k=>F.1.elim fun i e=>F.2.elim fun j e'=>(Prod.ext e e':p=(_,_))▸f A E Q s W i j G k
end
def zrR{β:Type}(op:Operator)(x y:Int)(k:Int→Tr β):Tr β:=Operator.casesOn (motive:=fun X=>Tr β) op
 (k (x+y)) (k (x-y)) (.rs (x*y) (za1 x&&za1 y) k) .no .no (.rs (x.fmod y) (y != 0) k)
 (.rs (x^y.toNat) (decide (0≤y)&&decide (y≤100000)&&decide (x.natAbs<2^64)) k)
 (.rs (x*2^y.toNat) (decide (0≤y)&&decide (y≤1000000)&&za1 x) k)
 (.rs (x.fdiv (2^y.toNat)) (decide (0≤y)) k) (.rs (Builtin.bitOr x y) true k) (.rs (Builtin.bitXor x y) true k) (.rs (Builtin.bitAnd x y) true k)
 (.rs (x.fdiv y) (y != 0 && !Builtin.divisionGoesByPylong x y) k)
noncomputable def zog(op:Operator):Bool:=Operator.casesOn (motive:=fun X=>Bool) op true true true false false false false true true false false false false
noncomputable def zoN(op:Operator):Bool:=Operator.casesOn (motive:=fun X=>Bool) op true false false false false false false false false false false false false
noncomputable def zly(op:Operator):Bool:=Operator.casesOn (motive:=fun X=>Bool) op false false true false false false false false false false false false false
theorem zgC{op:Operator}(h:zoN op=true):op = .Add:=by induction op <;> first | rfl | cases h
theorem zgB{op:Operator}(h:zly op=true):op = .Mult:=by induction op <;> first | rfl | cases h
section
variable {T:Tabs} {P:PM T}
def JB(P:PM T)(a b:AV)(h:Hp)(K:AV→Hp→Prop)(op:Operator):Prop:=J P (V2 a b) VV (fun p=>binaryOp op p.1 p.2) h K∧(zog op=true→J P (V2 a b) VV (fun p=>inplaceOp op p.1 p.2) h K)
theorem zaU{x:Int}(h:za1 x=true):Builtin.Int.intBits x≤1000000:=by
 have h:=oD h;unfold Builtin.Int.intBits
 split
 ·exact oL _
 ·exact h
theorem zgp(h:(za1 x&&za1 y)=true):IntMulOk x y:=by
 have h:=aI h;have b1:=zaU h.1;have b2:=zaU h.2;unfold IntMulOk Builtin.Int.intTooBig;intro q;have:=oD (aI q).2;rw [show bitsLine=134217728 from rfl] at this
 lia
theorem zkV(h2:x.natAbs<2^64):Builtin.Int.intBits x≤64:=by
 unfold Builtin.Int.intBits
 split
 ·exact oL _
 ·rename_i hx
  exact (Nat.log2_lt (fun q=>hx (by simpa using Int.natAbs_eq_zero.mp q))).mpr h2
theorem zkU(h0:0≤y)(h1:y≤100000)(h2:x.natAbs<2^64):(Builtin.Int.intBits x:Int)*y≤2^27:=by
 have hb:=zkV h2;have h1:(Builtin.Int.intBits x:Int)*y≤64*100000:=Int.mul_le_mul (by exact lz1 0x40082185041040082180041 hb) h1 h0 (by lia);exact Int.le_trans h1 (by decide)
theorem Kn.int{Q:Value→Shared→Prop}(k:Kn P VV K W h.nx s Q)(G:Go P W h s A){z:Int}(q:K (.int z) h){u tk:Nat}{d:Drawn}:Q (.int z u) {s with toks:=tk,drawn:=d}:=k.here G.rel (v:= .int z) ⟨u,rfl⟩ q
theorem zpt(H:(zrR op x y fun z=> .ret (.int z) h).sem K):JB P (.int x) (.int y) h K op:=by
 induction op with
 | Add=>exact ⟨J2.ii fun A E Q s W i j G k=>add_int (k.int G H),fun X=>J2.ii fun A E Q s W i j G k=>PySem.P.iadd_int (k.int G H)⟩
 | Sub=>exact ⟨J2.ii fun A E Q s W i j G k=>sub_int (k.int G H),fun X=>J2.ii fun A E Q s W i j G k=>PySem.P.isub_int (k.int G H)⟩
 | Mult=>exact H.go fun e H=>⟨J2.ii fun A E Q s W i j G k=>mul_int (k.int G H) (zgp e),fun X=>J2.ii fun A E Q s W i j G k=>PySem.P.imul_int (k.int G H) (zgp e)⟩
 | FloorDiv=>exact H.go fun e H=>⟨J2.ii fun A E Q s W i j G k=>floordiv_int (bne_iff_ne.mp (aI e).1) (k.int G H) (.inl (Bool.not_eq_true' _▸(aI e).2)),nofun⟩
 | Mod=>exact H.go fun e H=>⟨J2.ii fun A E Q s W i j G k=>mod_int' (bne_iff_ne.mp e) (k.int G H),nofun⟩
 | Pow=>
   refine H.go fun e H=>?_;simp only [Bool.and_eq_true,decide_eq_true_eq] at e;exact ⟨J2.ii fun A E Q s W i j G k=>pow_int e.1.1 (zkU e.1.1 e.1.2 e.2) (k.int G H),nofun⟩
 | LShift=>
   refine H.go fun e H=>?_;simp only [Bool.and_eq_true,decide_eq_true_eq] at e;have b:=zaU e.2;exact ⟨J2.ii fun A E Q s W i j G k=>lshift_int e.1.1 (by exact li [_] [_] 0x200000005086185001043d090040860010f4240102181042 e.1.2 b) (k.int G H),fun X=>J2.ii fun A E Q s W i j G k=>PyProof.Rows.ilshift_int e.1.1 (by lia) (k.int G H)⟩
 | RShift=>exact H.go fun e H=>⟨J2.ii fun A E Q s W i j G k=>rshift_int (oD e) (k.int G H),fun X=>J2.ii fun A E Q s W i j G k=>PyProof.Rows.irshift_int (oD e) (k.int G H)⟩
 | BitAnd=>exact H.go fun X H=>⟨J2.ii fun A E Q s W i j G k=>and_int (k.int G H),nofun⟩
 | BitOr=>exact H.go fun X H=>⟨J2.ii fun A E Q s W i j G k=>or_int (k.int G H),nofun⟩
 | BitXor=>exact H.go fun X H=>⟨J2.ii fun A E Q s W i j G k=>xor_int (k.int G H),nofun⟩
 | _=>exact H.elim
end
theorem za2(x:List Nat):(za0 x).length=x.length:=by simp [za0,Str.length]
theorem zaI(x y:List Nat):za0 x++za0 y=za0 (x++y):=by
 show Str.append _ _=_;simp [za0,Str.append]
theorem zf1{α:Type}(x:List α):∀(k:Nat) (acc:Array α),(List.replicate k x.toArray).foldl (· ++ ·) acc=(acc.toList++(List.replicate k x).flatten).toArray:=by
 intro k;induction k with
 | zero=>intro acc;simp
 | succ k ih=>intro acc;rw [List.replicate_succ,List.foldl_cons,ih,List.replicate_succ];simp
theorem Rs.reps{α β:Type}{R:α→β→Prop}{xs:List α}{vs:List β}(h:Rs R xs vs):∀k,Rs R (List.replicate k xs).flatten (List.replicate k vs).flatten
 | 0=> .nil
 | k+1=>by rw [List.replicate_succ,List.replicate_succ];exact h.app (reps h k)
def nuL(f:Bool)(xs:List AV)(h:Hp)(K:AV→Hp→Prop):Prop:=K (.ref h.nx) (h.new (.list f xs))
noncomputable def nuT(f:Bool)(xs:List AV)(h:Hp):Tr AV:= .ret (.ref h.nx) (h.new (.list f xs))
def zps(op:Operator)(a b:AV)(h:Hp)(p:Tr AV):Tr AV:= .al a.int? (fun x=> .os b.int? fun y=>zrR op x y fun z=> .ret (.int z) h)
 (.al a.str? (fun x=> .rq (zoN op) (.os b.str? fun y=> .Rq (Nat.ble (x.length+y.length) sizeL) (.ret (.str (x++y)) h))) p)
def zsH(op:Operator)(a:AV):Option (List Nat):=bif zly op then a.str? else none
noncomputable def zld(x:List Nat)(i:Int):List Nat:=(List.replicate i.toNat x).flatten
def zux(op:Operator)(a b:AV)(h:Hp):Tr AV:= .al (zsH op a) (fun x=> .os b.int? fun i=> .Rq (Nat.ble (x.length*i.toNat) sizeL&&decide (i.natAbs<2^62)) (.ret (.str (zld x i)) h)) (zps op a b h (.os (zaT h a) fun p=>
 .bs (zoN op) (.os (zaT h b) fun q=> .Rq (Nat.ble (p.2.length+q.2.length) sizeL) (nuT (p.1 || q.1) (p.2++q.2) h))
  (.rq (zly op) (.os b.int? fun y=> .Rq (Nat.ble (p.2.length*y.toNat) sizeL&&decide (y.natAbs<2^62)) (nuT p.1 (List.replicate y.toNat p.2).flatten h)))))
def zse(op:Operator)(a b:AV)(h:Hp):Tr AV:= .rq (zog op) (zps op a b h .no)
def bin(op:Operator)(a b:AV)(h:Hp)(K:AV→Hp→Prop):Prop:=(zux op a b h).sem K
def aug(op:Operator)(a b:AV)(h:Hp)(K:AV→Hp→Prop):Prop:=(zse op a b h).sem K
section
variable {T:Tabs} {P:PM T} {x y:List Nat} {i:Int} {p q:Bool×List AV}
theorem ble{a b:Nat}(h:Nat.ble a b=true):a≤b:=jL h
theorem Kn.str{Q:Value→Shared→Prop}(k:Kn P VV K W h.nx s Q)(G:Go P W h s A){z:List Nat}(q:K (.str z) h){u tk:Nat}{d:Drawn}:Q (.str (za0 z) u) {s with toks:=tk,drawn:=d}:=k.here G.rel (v:= .str z) ⟨u,rfl⟩ q
theorem Kn.list{Q:Value→Shared→Prop}(k:Kn P VV K W h.nx s Q)(G:Go P W h s A){f:Bool}{xs:List AV}{vs:Array Value}(hv:Rs (VR W (lim f h.nx)) xs vs.toList)(q:nuL f xs h K){n:Nat}{tk:Nat}{d:Drawn}:Q (.ref s.heap.objs.size) {s with heap:=s.heap.push (zbp "list" vs n),toks:=tk,drawn:=d}:=
 k.nu G.rel (o:= .list f xs) rfl (fun X L=>⟨_,_,rfl,VR.ups (L.lim f) hv⟩) q
theorem zrw(hl:Nat.ble (x.length+y.length) sizeL=true)(H:K (.str (x++y)) h):JB P (.str x) (.str y) h K .Add:=by
 have hl':(za0 x).length+(za0 y).length≤2^24:=by rw [za2,za2];exact ble hl
 exact ⟨fun A E Q s W v G F k=>F.1.elim fun t e=>F.2.elim fun u e'=>by
   show wpAny _ A (binaryOp .Add v.1 v.2) Q E s;rw [e,e'];exact PyProof.Rows.add_str (fun X X=>zaI x y▸k.str G H) hl',
  fun X A E Q s W v G F k=>F.1.elim fun t e=>F.2.elim fun u e'=>by
   show wpAny _ A (inplaceOp .Add v.1 v.2) Q E s;rw [e,e'];exact PySem.SB.iadd (fun X X=>zaI x y▸k.str G H) hl'⟩
theorem zpm(e1:zaT h a=some p)(e2:zaT h b=some q)(hl:Nat.ble (p.2.length+q.2.length) sizeL=true)(H:nuL (p.1 || q.1) (p.2++q.2) h K):J P (V2 a b) VV (fun v=>binaryOp .Add v.1 v.2) h K:=fun A E Q s W v G F k=>
 (zac G.rel F.1 e1).elim fun l z=>z.elim fun vs z=>z.elim fun n z=>(zac G.rel F.2 e2).elim fun l' z'=>z'.elim fun us z'=>z'.elim fun m z'=>by
  show wpAny _ A (binaryOp .Add v.1 v.2) Q E s;rw [z.1,z'.1];refine PySem.P.add_list z.2.1 z'.2.1 (k.list G (tk:=s.toks) (d:=s.drawn) ?_ H) (by rw [←Array.length_toList,←Array.length_toList,←z.2.2.len,←z'.2.2.len];exact ble hl);have up:∀f g,Le (lim f h.nx) W (lim (f || g) h.nx) W:=fun f g=>by induction f;exact ⟨oL _,fun X X=>rfl,fun X X e=>e⟩;exact .refl
  rw [Array.toList_append];exact (VR.ups (up p.1 q.1) z.2.2).app (VR.ups (Bool.or_comm q.1 p.1▸up q.1 p.1) z'.2.2)
theorem zo4(e1:zaT h a=some p)(hl:(Nat.ble (p.2.length*i.toNat) sizeL&&decide (i.natAbs<2^62))=true)(H:nuL p.1 (List.replicate i.toNat p.2).flatten h K):J P (V2 a (.int i)) VV (fun v=>binaryOp .Mult v.1 v.2) h K:=fun A E Q s W v G I k=>
 (zac G.rel I.1 e1).elim fun l z=>z.elim fun vs z=>z.elim fun n z=>I.2.elim fun u e=>by
  show wpAny _ A (binaryOp .Mult v.1 v.2) Q E s;rw [z.1,e];have hl:=aI hl;have hy:=oD hl.2;have hz1:vs.size*i.toNat≤2^24:=by rw [←Array.length_toList,←z.2.2.len];exact ble hl.1
  refine wpAny_binaryOp_repeat_ref (T:= "list") (U:= "int") (by decide) ⟨_,z.2.1,rfl⟩ (fun s'=>typeIs_int s' i u) noFill_list_mul F.fills_int_mul F.slot_int_rmul repeat_list F.slot_int_index.lookup
   (call_meets F.slot_int_rmul (typeIs_int s i u) F.entry_int_rmul (F.args_int_rmul_2 _ _) (int___rmul___int_list i u l vs n)
    ⟨z.2.1,rfl,⟨_,z.2.1,rfl⟩,call_meets F.slot_list_mul ⟨_,z.2.1,rfl⟩ F.entry_list_mul (F.args_list_mul_2 _ _)
     (AutoListH.list___mul___list_int_3 l vs n i u (by simp [Builtin.List.listFitsIndex];omega) (by omega) (by simp [Builtin.List.listTooLong,sizeLine];omega)) ⟨z.2.1,k.list G (tk:=s.toks) (d:=s.drawn) (n:=0) ?_ H⟩⟩)
  have e:((List.replicate (if vs.isEmpty=true then 0 else i.toNat) vs).foldl (· ++ ·) #[]).toList=(List.replicate i.toNat vs.toList).flatten:=by
   have:=zf1 vs.toList (if vs.isEmpty=true then 0 else i.toNat) #[];rw [show vs.toList.toArray=vs from by simp] at this;rw [this];by_cases hv:vs.isEmpty=true
   ·obtain rfl:vs = #[]:=by simpa using hv
    simp
   ·rw [if_neg hv];simp
  exact e▸z.2.2.reps _
theorem zov(x:List Nat)(i:Int):Txt.mul (za0 x) i=za0 (zld x i):=by
 unfold Txt.mul zld;by_cases h1:i<1
 ·rw [if_pos h1,show i.toNat=0 by lia];rfl
 ·rw [if_neg h1]
  by_cases h2:(i==1 || (za0 x).length==0)=true
  ·rw [if_pos h2]
   rcases Bool.or_eq_true_iff.mp h2 with q | q
   ·obtain rfl:i=1:=eq_of_beq q
    rw [show (1:Int).toNat=1 from rfl,List.replicate_one,List.flatten_singleton]
   ·have q:=eq_of_beq q
    rw [za2] at q;obtain rfl:=List.length_eq_zero_iff.mp q;rw [List.flatten_replicate_nil]
  ·rw [if_neg h2]
   have:=zf1 x i.toNat #[];refine congrArg Str.mk ?_;rw [show (za0 x).cps=x.toArray from rfl,this];rfl
theorem zou(hl:(Nat.ble (x.length*i.toNat) sizeL&&decide (i.natAbs<2^62))=true)(H:K (.str (zld x i)) h):J P (V2 (.str x) (.int i)) VV (fun v=>binaryOp .Mult v.1 v.2) h K:=fun A E Q s W v G F k=>F.1.elim fun t e=>F.2.elim fun u e'=>by
 show wpAny _ A (binaryOp .Mult v.1 v.2) Q E s;rw [e,e'];have hl:=aI hl;have hy:=oD hl.2;have hz:x.length*i.toNat≤2^24:=ble hl.1;refine SB.mul ⟨?_,fun a X=>?_,fun a X=>?_⟩ fun t' tk=>zov x i▸k.str G H
 ·rw [Bool.or_eq_false_iff];exact ⟨dF (by lia),dF (by lia)⟩
 ·rw [za2]
  refine Int.not_lt.mpr (Int.le_ediv_of_mul_le (li [] [_] 0x6860001046841041 (Int.not_lt.mp a)) ?_);have:(x.length:Int)*i=(x.length*i.toNat:Nat):=by
   rw [Int.natCast_mul,Int.toNat_of_nonneg (by exact li [] [_] 0x6801046841041 (Int.not_lt.mp a))]
  rw [this];exact lz1 0x8480000000000000002c20c6141041000000142180041 hz
 ·rw [za2];simp [Builtin.Str.tooLong,sizeLine];exact lz1 0x1000000142180041000000142180041 hz
theorem zh7{p:Tr AV}(H:(zps op a b h p).sem K)(f:p.sem K→J P (V2 a b) VV (fun v=>binaryOp op v.1 v.2) h K):J P (V2 a b) VV (fun v=>binaryOp op v.1 v.2) h K∧(¬p.sem K→zog op=true→J P (V2 a b) VV (fun v=>inplaceOp op v.1 v.2) h K):=
 H.go (fun X e H=>H.go fun X e' H=>AV.int?_is e▸AV.int?_is e'▸(zpt H).imp id fun x X=>x) fun X H=>H.go (fun X e H=>H.go fun o H=>H.go fun X e' H=>H.go fun l H=>AV.str?_is e▸AV.str?_is e'▸zgC o▸(zrw l H).imp id fun x X=>x) fun X H=>⟨f H,fun q=>absurd H q⟩
theorem zi6{x:List Nat}(e:zsH op a=some x):op = .Mult∧a = .str x:=by
 unfold zsH at e;induction q:zly op with
 | true=>rw [q] at e;exact ⟨zgB q,AV.str?_is e⟩
 | false=>rw [q] at e;exact no e
theorem zrQ(H:bin op a b h K):J P (V2 a b) VV (fun v=>binaryOp op v.1 v.2) h K:=
 H.go (fun x e H=>H.go fun i e' H=>H.go fun l H=>(zi6 e).1▸(zi6 e).2▸AV.int?_is e'▸zou l H) fun X H=>(zh7 H fun H=>H.go fun X e H=>H.go (fun o H=>H.go fun X e' H=>H.go fun l H=>zgC o▸zpm e e' l H) fun X H=>H.go fun o H=>H.go fun X e' H=>H.go fun l H=>zgB o▸AV.int?_is e'▸zo4 e l H).1
theorem zjZ(H:aug op a b h K):J P (V2 a b) VV (fun v=>inplaceOp op v.1 v.2) h K:=H.go fun o H=>(zh7 H False.elim).2 id o
end
theorem nb{P:Prop}(h:false=true):P:=nomatch h
noncomputable def isNone(a:AV):Bool:=AV.casesOn (motive:=fun X=>Bool) a true jM jM jM jM jM jM jM jM jM false
theorem zcH{a:AV}:isNone a=true→a = .none:=AV.casesOn (motive:=fun a=>isNone a=true→a = .none) a (fun X=>rfl) (fun X=>nb) (fun X=>nb) (fun X=>nb) (fun X=>nb) (fun X=>nb) (fun X=>nb) (fun X=>nb) (fun X=>nb) (fun X=>nb) nb
def zaN{β:Type}(a:AV)(h:Hp)(K:Bool→Hp→Tr β):Tr β:=AV.casesOn (motive:=fun X=>Tr β) a (K false h) (fun b=>K b h) (fun i=>K (i != 0) h) (fun s=>Tr.Rq (Nat.ble s.length sizeL) (K (!s.isEmpty) h))
 (fun k=>Tr.al (h.at_ k).set? (fun xs=>Tr.Rq (Nat.ble xs.length sizeL) (K (!xs.isEmpty) h)) (Tr.os (h.at_ k).list? fun p=>Tr.Rq (Nat.ble p.2.length sizeL) (K (!p.2.isEmpty) h))) (fun X=> .no) (fun X=> .no) (fun X=> .no) (fun X=> .no)
 (fun xs=>Tr.Rq (Nat.ble xs.length sizeL) (K (!xs.isEmpty) h)) .no
def zq2(a:AV)(h:Hp)(K:Bool→Hp→Prop):Prop:=(zaN a h .ret).sem K
section
variable {T:Tabs} {P:PM T} {B:Bool→Hp→Prop}
theorem Kn.bool{Q:Bool→Shared→Prop}(k:Kn P BB B W h.nx s Q)(R:Rel P.c W h s){b:Bool}(q:B b h){tk:Nat}{d:Drawn}:Q b {s with toks:=tk,drawn:=d}:=k (.same R rfl rfl rfl) rfl q
theorem zic{α:Type}(xs:List α):((xs.length:Int) != 0) = !xs.isEmpty:=by
 induction xs using cL with
 | nil=>rfl
 | cons X r=>exact bne_iff_ne.mpr fun e=>nomatch Int.ofNat.inj e
theorem Rs.size{α:Type}{R:α→Value→Prop}{xs:List α}{vs:Array Value}(h:Rs R xs vs.toList):xs.length=vs.size:=h.len
theorem fit{n:Nat}(h:Nat.ble n sizeL=true):(n:Int)<2^63:=Int.lt_of_le_of_lt (Int.ofNat_le.mpr (ble h)) (by decide)
theorem zmv{α:Type}{R:α→Value→Prop}{xs:List α}{vs:Array Value}{l:Addr}{n:Nat}{Q:Bool→Shared→Prop}(hl:s.heap.get? l=some (zbp "list" vs n))(r:Rs R xs vs.toList)(e:Nat.ble xs.length sizeL=true)(q:Q (!xs.isEmpty) {s with toks:=s.toks+1+1}):wpAny (model P.c.prog P.c.w) A (truthy (.ref l)) Q E s:=
 wpAny_truthy_list ⟨_,hl,rfl,_,rfl⟩ (r.size▸fit e) (by
  have:vs.isEmpty=xs.isEmpty:=by
   rw [Array.isEmpty,←r.size];induction xs using cL <;> rfl
  rw [this];exact q)
theorem zhw:typeLookup (.type "set") "__bool__" =pure none:=by rw [typeLookup_type,builtinLookup_eq_fast];kernel_rfl
theorem zhe{α:Type}{xs:List α}{a:Addr}{es:Array (Int×Value)}{ep:Nat}{t:SetTable}{Q:Bool→Shared→Prop}(ho:s.heap.get? a=some {cls:= .type "set",data:= .set es ep t})(hf:t.fits es.size=true)(hz:es.toList.length=xs.length)(e:Nat.ble xs.length sizeL=true)
  (q:Q (!xs.isEmpty) {s with toks:=s.toks+1+1}):wpAny (model P.c.prog P.c.w) A (truthy (.ref a)) Q E s:=by
 have hT:s.TypeIs (.ref a) "set" :=⟨_,ho,rfl⟩;have hz:es.size=xs.length:=hz;refine wB (wpAny_callSpecial?_none (name:=Str.ofString "__bool__") hT zhw (wB (wpAny_specialOf (name:=Str.ofString "__len__") hT PySem.F.slot_set_len.lookup (wB (wpAny_runValue (codeAny_builtin entry_len ?_))))));rw [Around.under_plainId plain_len _];refine wM (wpAny_len_body_set (Q:=fun r s'=>r = .int es.size (s.toks+1)∧Q ((es.size:Int) != 0) s') ho ⟨rfl,rfl,rfl⟩ rfl hf (hz▸fit e) ⟨rfl,by rw [hz,zic];exact q⟩) (fun fin s' h'=>h'.elim fun r h=>h.1▸h.2.1▸wP h.2.2) fun X X e=>e
theorem zcf{β:Type}{κ:Bool→Hp→Tr β}{B:β→Hp→Prop}(H:(zaN a h κ).sem B):J P (V1 a) BB (fun v=>truthy v) h (fun b h=>(κ b h).sem B):=fun A E Q s W v G I k=>by
 show wpAny _ A (truthy v) Q E s;induction a with
 | none=>exact I▸truthy_none (k.bool G.rel H)
 | bool b=>exact I▸wpAny_truthy_bool (k.bool G.rel H)
 | int i=>exact I.elim fun t e=>e▸PySem.P.truthy_int (k.bool G.rel H)
 | str z=>exact I.elim fun t e=>e▸H.go fun l H=>PySem.P.truthy_str (by rw [za2];exact Int.not_le.mpr (fit l)) (by rw [za2,zic];exact k.bool G.rel H)
 | ref r=>exact H.go (fun xs e H=>(G.rel.obj I.1 (AO.set?_is e) rfl).elim fun ob o=>o.2.elim fun es q=>q.elim fun ep q=>q.elim fun t q=>H.go fun l H=>I.2▸zhe (q.1▸o.1) q.2.1 (q.2.2.1.elim fun ys y=>(lM (as:=es.toList) (·.2)).symm.trans (y.2.len.symm.trans y.1.length_eq)) l (k.bool G.rel H)) (fun X H=>H.go fun p e H=>(zac (a:= .ref r) G.rel I e).elim fun l z=>z.elim fun vs z=>z.elim fun n z=>z.1▸H.go fun l H=>zmv z.2.1 z.2.2 l (k.bool G.rel H))
 | lst xs=>exact H.go fun l H=>I.elim fun a z=>z.elim fun vs z=>z.elim fun n z=>z.1▸zmv (G.rel.fz _ _ z.2.1).2.1 z.2.2 l (k.bool G.rel H)
 | _=>exact H.elim
end
noncomputable def TY.n(t:TY):Nat:=TY.casesOn (motive:=fun X=>Nat) t 0 1 2 3 4 5 6 7
noncomputable def TY.no(s:String):Nat:=if s= "int" then 0 else if s= "str" then 1 else if s= "range" then 2 else if s= "list" then 3 else if s= "set" then 4 else if s= "enumerate" then 5 else if s= "reversed" then 6 else 7
noncomputable def TY.of(n:Nat):TY:=[TY.int, .str, .range, .list, .set, .enumerate, .reversed, .type].getD n .type
theorem TY.eq(a b:TY):(Value.type a.id==Value.type b.id)=Nat.beq a.n b.n:=by
 have h1:∀a:TY,TY.no a.id=a.n:=fun a=>by induction a <;> decide
 have h2:∀a:TY,TY.of a.n=a:=fun a=>by induction a <;> rfl
 rw [Bool.eq_iff_iff,beq_iff_eq];exact ⟨fun e=>by rw [←h1 a,←h1 b,Value.type.inj e,Nat.beq_refl],fun e=>by rw [←h2 a,←h2 b,qB e]⟩
def zjI{β:Type}(a b:AV)(h:Hp)(k:Bool→Tr β):Tr β:= .al a.int? (fun x=> .os b.int? fun y=>k (x==y)) (.al a.str? (fun x=> .os b.str? fun y=>k (x==y)) (.al a.bool? (fun x=> .os b.bool? fun y=>k (x==y)) (.al a.tup? (fun xs=> .os b.tup? fun ys=> .mp U.li? .int xs fun x=> .mp U.li? .int ys fun y=>k (x==y)) (.os (zaT h a) fun p=> .os (zaT h b) fun q=> .eq p.2 q.2 k))))
noncomputable def nst(o:Option (List Nat)):AV:=Option.casesOn (motive:=fun X=>AV) o .none .str
def ztf{β:Type}(a:AV)(ys:List AV)(k:Bool→Tr β):Tr β:= .al a.int? (fun i=> .mp U.li? .int ys fun zs=>k (zs.any (· == i))) (.al a.str? (fun t=> .mp U.ls? .str ys fun zs=>k (zs.any (· == t))) (.rq (isNone a) (.mp U.lo? nst ys fun zs=>k (zs.any Option.isNone))))
noncomputable def one(l:List Nat):Option Nat:=List.casesOn (motive:=fun X=>Option Nat) l none fun c r=>bif r.isEmpty then some c else none
def zjH{β:Type}(T:Tabs)(a b:AV)(h:Hp)(k:Bool→Tr β):Tr β:= .al b.str? (fun y=> .os a.str? fun x=> .os (one x) fun c=>k (decide (c∈y)))
 (.al b.glob? (fun g=> .os a.int? fun i=> .os (T.intSet g) fun is=>k (is.contains i))
 (.al b.tup? (fun xs=>ztf a (xs.map SV.av) k)
 (.al (b.ref?.bind fun t=>(h.at_ t).set?) (fun xs=> .rq (xs.isEmpty&&a.int?.isSome) (k false)) (.os (zaT h b) fun p=>ztf a p.2 k))))
def zjG{β:Type}(a b:AV)(k:Bool→Tr β):Tr β:= .bs (isNone b) (k (isNone a)) (.al b.bool? (fun y=> .os a.bool? fun x=>k (x==y)) (.os b.ty? fun y=> .os a.ty? fun x=>k (Nat.beq x.n y.n)))
def ztw(T:Tabs)(op:CmpOp)(a b:AV)(h:Hp):Tr AV:=CmpOp.casesOn (motive:=fun X=>Tr AV) op
 (zjI a b h fun r=> .ret (.bool r) h) (zjI a b h fun r=> .ret (.bool !r) h)
 (.os a.int? fun x=> .os b.int? fun y=> .ret (.bool (decide (x<y))) h) (.os a.int? fun x=> .os b.int? fun y=> .ret (.bool (decide (x≤y))) h)
 (.os a.int? fun x=> .os b.int? fun y=> .ret (.bool (decide (y<x))) h) (.os a.int? fun x=> .os b.int? fun y=> .ret (.bool (decide (y≤x))) h)
 (zjG a b fun r=> .ret (.bool r) h) (zjG a b fun r=> .ret (.bool !r) h)
 (zjH T a b h fun r=> .ret (.bool r) h) (zjH T a b h fun r=> .ret (.bool !r) h)
def cmp(T:Tabs)(op:CmpOp)(a b:AV)(h:Hp)(K:AV→Hp→Prop):Prop:=(ztw T op a b h).sem K
section
variable {T:Tabs} {P:PM T} {k:Bool→Prop} {va vb:Value} {xs ys:List AV} {vs us:List Value} {n:Nat}
theorem strOf_beq{x y:List Nat}:(za0 x==za0 y)=(x==y):=by
 rw [Bool.eq_iff_iff,beq_iff_eq,beq_iff_eq];exact ⟨fun h=>by simpa [za0] using congrArg (fun z:Str=>z.cps.toList) h,fun e=>e▸rfl⟩
theorem zkz{l:List Nat}(h:zaS l):PyData.strOk (za0 l)=true:=by
 unfold PyData.strOk za0;rw [Array.all_eq_true_iff_forall_mem];exact fun c hc=>decide_eq_true (h c (by simpa using hc))
def EqD(A:Around)(s:Shared)(v u:Value)(r:Bool):Prop:=RcAt A s v u r∧RcNeAt A s v u !r
theorem zim{hp:Heap}:∀{a:List (List Nat)} {vs:List Value},Rs (VR W n) (a.map .str) vs→∃as,ReadsAll hp vs (a.map fun s=> .str (za0 s)) as
 | [],_, .nil=>⟨_, .nil⟩
 | _ :: _,_, .cons h r=>h.elim fun t e=>(zim r).elim fun as q=>⟨[]++as, .cons (e▸Reads.str _ t) q⟩
theorem zin{hp:Heap}:∀{a:List Int} {vs:List Value},Rs (VR W n) (a.map .int) vs→∃as,ReadsAll hp vs (a.map .int) as
 | [],_, .nil=>⟨_, .nil⟩
 | _ :: _,_, .cons h r=>h.elim fun t e=>(zin r).elim fun as q=>⟨[]++as, .cons (e▸Reads.int _ t) q⟩
theorem zs7:∀{a:List (List Nat)},(∀s∈a,zaS s)→PyData.canLayAll0 (a.map fun s=> .str (za0 s))=true∧PyData.depthAll (a.map fun s=> .str (za0 s))=0
 | [],_=>⟨by simp [PyData.canLayAll0],rfl⟩
 | s :: a,h=>by
  have ih:=zs7 fun x hx=>h x (mM _ hx);exact ⟨by rw [mC,PyData.canLayAll0,PyData.canLay0,zkz (h s mS),ih.1];rfl,by show max 0 (PyData.depthAll _)=0;rw [ih.2];rfl⟩
theorem zoH:∀a:List Int,PyData.canLayAll0 (a.map .int)=true∧PyData.depthAll (a.map .int)=0
 | []=>⟨by simp [PyData.canLayAll0],rfl⟩
 | s :: a=>⟨by rw [mC,PyData.canLayAll0,PyData.canLay0,(zoH a).1];rfl,by show max 0 (PyData.depthAll _)=0;rw [(zoH a).2];rfl⟩
theorem zuj:∀a b:List (List Nat),PyData.eqvAll (a.map fun s=>PyData.str (za0 s)) (b.map fun s=>PyData.str (za0 s))=(a==b)
 | [], [] | [],_ :: _ | _ :: _, []=>by simp [PyData.eqvAll]
 | x :: a,y :: b=>by rw [mC,mC,PyData.eqvAll,PyData.eqv,zuj a b,strOf_beq];rfl
theorem ztn:∀a b:List Int,PyData.eqvAll (a.map PyData.int) (b.map PyData.int)=(a==b)
 | [], [] | [],_ :: _ | _ :: _, []=>by simp [PyData.eqvAll]
 | x :: a,y :: b=>by rw [mC,mC,PyData.eqvAll,PyData.eqv,ztn a b];rfl
theorem zjn{l l':Addr}{vs us:Array Value}{m m':Nat}{d e:List PyData}(G:Go P W h s A)(hl:s.heap.get? l=some (zbp "list" vs m))(hr:s.heap.get? l'=some (zbp "list" us m'))(rd:∃as,ReadsAll s.heap vs.toList d as)(re:∃as,ReadsAll s.heap us.toList e as)
  (hd:PyData.canLayAll0 d=true∧PyData.depthAll d≤1) (he:PyData.canLayAll0 e=true):EqD A s (.ref l) (.ref l') (PyData.eqvAll d e):=by
 have hu:A.units+min (PyData.list d).depth (PyData.list e).depth<cLine:=by have h1:(PyData.list d).depth≤2:=uL hd.2;have:=Nat.min_le_left (PyData.list d).depth (PyData.list e).depth;have:=G.u;lia
 have e0:PyData.eqv (.list d) (.list e)=PyData.eqvAll d e:=by rw [PyData.eqv]
 have ca:(PyData.list d).canLay0=true:=by rw [PyData.canLay0];exact hd.1
 have cb:(PyData.list e).canLay0=true:=by rw [PyData.canLay0];exact he
 exact rd.elim fun as r1=>re.elim fun bs r2=>e0▸⟨rcAt_reads (.list hl rfl rfl r1) (.list hr rfl rfl r2) ca cb hu,rcNeAt_reads (.list hl rfl rfl r1) (.list hr rfl rfl r2) ca cb hu⟩
theorem zio{hp:Heap}:∀{a:List SV} {vs:List Value},Rs SR a vs→∃as,ReadsAll hp vs (a.map pdS) as
 | [],_, .nil=>⟨_, .nil⟩
 | x :: _,_, .cons h r=>(zio (hp:=hp) r).elim fun as q=>by
  induction x with
  | none=>exact ⟨[]++as, .cons ((show _=Value.none from h)▸Reads.none) q⟩
  | bool b=>exact ⟨[]++as, .cons ((show _=Value.bool b from h)▸Reads.bool _) q⟩
  | int i=>exact (show∃t,_=Value.int i t from h).elim fun t e=>⟨[]++as, .cons (e▸Reads.int _ t) q⟩
  | str z=>exact (show∃t,_=Value.str (za0 z) t from h).elim fun t e=>⟨[]++as, .cons (e▸Reads.str _ t) q⟩
theorem zo5(R:Rel P.c W h s){x:AV}{v:Value}{d:PyData}(hv:VR W n x v)(e:pdA x=some d):∃as,Reads s.heap v d as:=by
 induction x with
 | none=>exact ⟨_,(show v=Value.none from hv)▸sI e▸Reads.none⟩
 | bool b=>exact ⟨_,(show v=Value.bool b from hv)▸sI e▸Reads.bool _⟩
 | int i=>exact (show∃t,v=Value.int i t from hv).elim fun t e'=>⟨_,e'▸sI e▸Reads.int _ t⟩
 | str z=>exact (show∃t,v=Value.str (za0 z) t from hv).elim fun t e'=>⟨_,e'▸sI e▸Reads.str _ t⟩
 | tup xs=>exact hv.elim fun a z=>z.elim fun vs z=>z.elim fun k z=>(zio z.2.2).elim fun as q=>⟨_,z.1▸sI e▸Reads.tuple (R.fz _ _ z.2.1).2.1 rfl rfl q⟩
 | lst xs=>exact hv.elim fun a z=>z.elim fun vs z=>z.elim fun k z=>(zio z.2.2).elim fun as q=>⟨_,z.1▸sI e▸Reads.list (R.fz _ _ z.2.1).2.1 rfl rfl q⟩
 | _=>exact nomatch e
theorem ziq(R:Rel P.c W h s):∀{a:List AV} {vs:List Value} {d:List PyData},Rs (VR W n) a vs→a.map pdA=d.map some→∃as,ReadsAll s.heap vs d as
 | [],_, [], .nil,_=>⟨_, .nil⟩
 | [],_,_ :: _,_,e=>nomatch e
 | _ :: _,_, [],_,e=>nomatch e
 | _ :: _,_,_ :: _, .cons h r,e=>(zo5 R h (List.cons.inj e).1).elim fun X q=>(ziq R r (List.cons.inj e).2).elim fun X q'=>⟨_, .cons q q'⟩
theorem zum:∀a:List SV,PyData.depthAll (a.map pdS)=0
 | []=>rfl
 | x :: a=>by
  have:(pdS x).depth=0:=by induction x <;> rfl
  show max (pdS x).depth (PyData.depthAll _)=0;rw [this,zum a];rfl
theorem zun:∀(a:List AV) (d:List PyData),a.map pdA=d.map some→PyData.depthAll d≤1
 | _, [],_=>oL _
 | [],_ :: _,e=>nomatch e
 | x :: a,y :: d,e=>by
  have i:=zun a d (List.cons.inj e).2;have e1:pdA x=some y:=(List.cons.inj e).1;have:y.depth≤1:=by
   induction x with
   | tup xs | lst xs=>exact sI e1▸(show PyData.depthAll _+1≤1 from zum xs▸rL _)
   | none | bool | int | str=>exact sI e1▸oL _
   | _=>exact nomatch e1
  exact Nat.max_le.mpr ⟨this,i⟩
theorem eqT{x y:List SV}{is js:List Int}(G:Go P W h s A)(ha:VR W h.nx (.tup x) va)(hb:VR W h.nx (.tup y) vb)(ex:x=is.map .int)(ey:y=js.map .int):EqD A s va vb (is==js):=by
 subst ex ey;obtain ⟨a,r1⟩:=zo5 (d:= .tuple ((is.map SV.int).map pdS)) G.rel ha rfl;obtain ⟨b,r2⟩:=zo5 (d:= .tuple ((js.map SV.int).map pdS)) G.rel hb rfl;have m:∀l:List Int,(l.map SV.int).map pdS=l.map .int:=fun l=>mN;rw [m] at r1 r2;have c:∀l:List Int,(PyData.tuple (l.map .int)).canLay0=true:=fun l=>by rw [PyData.canLay0];exact (zoH l).1
 have hu:A.units+min (PyData.tuple (is.map .int)).depth (PyData.tuple (js.map .int)).depth<cLine:=by have h1:(PyData.tuple (is.map .int)).depth≤1:=uL (eL (zoH is).2);have:=Nat.min_le_left (PyData.tuple (is.map .int)).depth (PyData.tuple (js.map .int)).depth;have:=G.u;lia
 have e0:PyData.eqv (.tuple (is.map .int)) (.tuple (js.map .int))=(is==js):=by rw [PyData.eqv];exact ztn is js
 exact e0▸⟨rcAt_reads r1 r2 (c is) (c js) hu,rcNeAt_reads r1 r2 (c is) (c js) hu⟩
theorem zh1{k:Bool→Tr AV}(H:(zjI a b h k).sem K)(G:Go P W h s A)(ha:VR W h.nx a va)(hb:VR W h.nx b vb):∃r,(k r).sem K∧EqD A s va vb r:=
 H.go (fun x e H=>H.go fun y e' H=>⟨_,H,by
  obtain ⟨t,rfl⟩:=(AV.int?_is e▸ha:VR _ _ (.int x) va);obtain ⟨u,rfl⟩:=(AV.int?_is e'▸hb:VR _ _ (.int y) vb);exact ⟨RcAt.int_int _ _ _ _,RcNeAt.int_int _ _ _ _⟩⟩) fun X H=>H.go (fun x e H=>H.go fun y e' H=>⟨_,H,by
  obtain ⟨t,rfl⟩:=(AV.str?_is e▸ha:VR _ _ (.str x) va);obtain ⟨u,rfl⟩:=(AV.str?_is e'▸hb:VR _ _ (.str y) vb);exact strOf_beq (x:=x)▸⟨RcAt.str_str _ _ _ _,RcNeAt.str_str _ _ _ _⟩⟩) fun X H=>H.go (fun x e H=>H.go fun y e' H=>⟨_,H,(AV.bool?_is e▸ha:VR _ _ (.bool x) va)▸(AV.bool?_is e'▸hb:VR _ _ (.bool y) vb)▸⟨RcAt.bool_bool _ _,RcNeAt.bool_bool _ _⟩⟩) fun X H=>H.go (fun x e H=>H.go fun y e' H=>H.ex.elim fun is q=>q.2.ex.elim fun js q'=>⟨_,q'.2,eqT G (AV.tup?_is e▸ha) (AV.tup?_is e'▸hb) q.1 q'.1⟩) fun X H=>H.go fun p e H=>H.go fun q e' H=>by
  obtain ⟨l,vs,m,rfl,l1,l2⟩:=zac G.rel ha e;obtain ⟨l',us,m',rfl,r1,r2⟩:=zac G.rel hb e';rcases H with ⟨ne,H⟩ | ⟨x,y,ex,ey,cx,cy,H⟩ | ⟨x,y,ex,ey,H⟩ | ⟨r,H0,H⟩
  ·have z:(vs.size != us.size)=true:=by rw [←l2.size,←r2.size];exact bne_iff_ne.mpr fun z=>by rw [z,Nat.beq_refl] at ne;cases ne
   exact ⟨_,H,RcAt.lists_lengths ⟨_,l1,rfl,_,rfl⟩ ⟨_,r1,rfl,_,rfl⟩ z (lE (rA _ _) G.u),RcNeAt.lists_lengths ⟨_,l1,rfl,_,rfl⟩ ⟨_,r1,rfl,_,rfl⟩ z (lE (rA _ _) G.u)⟩
  ·rw [ex] at l2;rw [ey] at r2
   exact ⟨_,H,zuj x y▸zjn G l1 r1 (zim l2) (zim r2) ⟨(zs7 cx).1,(zs7 cx).2▸oL _⟩ (zs7 cy).1⟩
  ·rw [ex] at l2;rw [ey] at r2
   exact ⟨_,H,ztn x y▸zjn G l1 r1 (zin l2) (zin r2) ⟨(zoH x).1,(zoH x).2▸oL _⟩ (zoH y).1⟩
  ·obtain ⟨d,e',ed,ee,cd,ce,er⟩:=H0
   exact ⟨_,H,er▸zjn G l1 r1 (ziq G.rel l2 ed) (ziq G.rel r2 ee) ⟨cd,zun p.2 d ed⟩ ce⟩
noncomputable def veqI(i:Int)(v:Value):Bool:=Value.casesOn (motive:=fun X=>Bool) v false false false jM (fun j X=>j==i) jO jO jO jM jM jM
def veqS(i:List Nat)(v:Value):Bool:=Value.casesOn (motive:=fun X=>Bool) v false false false jM jO jO (fun z X=>z==za0 i) jO jM jM jM
noncomputable def veqN(v:Value):Bool:=Value.casesOn (motive:=fun X=>Bool) v true false false jM jO jO jO jO jM jM jM
theorem zk3{α:Type}{f:α→AV}{e:Value→Bool}{r:α→Bool}{u:Value}(i:∀x v,VR W n (f x) v→EqAt A s v u (e v)∧e v=r x):∀{zs:List α} {vs:List Value},Rs (VR W n) (zs.map f) vs→(∀y,y∈vs→EqAt A s y u (e y))∧vs.any e=zs.any r
 | [],_, .nil=>⟨fun X h=>(nomatch h),rfl⟩
 | _ :: _,_, .cons a t=>⟨fun y h=>(cP h).elim (fun q=>q▸(i _ _ a).1) ((zk3 i t).1 y),by rw [List.any_cons,List.any_cons,(i _ _ a).2,(zk3 i t).2]⟩
theorem zmU{k:Bool→Tr AV}(H:(ztf a ys k).sem K)(ha:VR W n a va){vs:Array Value}(r:Rs (VR W n) ys vs.toList):∃e:Value→Bool,(∀y,y∈vs→EqAt A s y va (e y))∧(k (vs.any e)).sem K:=by
 have fin:∀{α:Type} {f:α→AV} {e:Value→Bool} {r':α→Bool} {zs:List α},(∀x v,VR W n (f x) v→EqAt A s v va (e v)∧e v=r' x)→ys=zs.map f→(k (zs.any r')).sem K→∃e:Value→Bool,(∀y,y∈vs→EqAt A s y va (e y))∧(k (vs.any e)).sem K:=fun {α f e r' zs} i q H=>by
  have:=zk3 i (q▸r);exact ⟨e,fun y h=>this.1 y (Array.mem_toList_iff.mpr h),by rw [←Array.any_toList,this.2];exact H⟩
 exact H.go (fun x e H=>H.ex.elim fun zs q=>(AV.int?_is e▸ha:VR _ _ (.int x) va).elim fun t et=>fin (f:= .int) (e:=veqI x) (fun y v h=>h.elim fun u eu=>by subst et eu;exact ⟨EqAt.int_int _ _ _ _,rfl⟩) q.1 q.2)
  fun X H=>H.go (fun x e H=>H.ex.elim fun zs q=>(AV.str?_is e▸ha:VR _ _ (.str x) va).elim fun t et=>fin (f:= .str) (e:=veqS x) (fun y v h=>h.elim fun u eu=>by subst et eu;exact ⟨EqAt.str_str _ _ _ _,strOf_beq⟩) q.1 q.2)
  fun X H=>H.go fun e H=>H.ex.elim fun zs q=>fin (f:=nst) (e:=veqN) (fun y v h=>by
   obtain rfl:va = .none:=(zcH e▸ha:VR W n .none va);induction y with
   | none=>obtain rfl:v = .none:=h;exact ⟨EqAt.same _,rfl⟩
   | some z=>obtain ⟨u,rfl⟩:=h;exact ⟨EqAt.str_none _ _,rfl⟩) q.1 q.2
def InD(P:PM T)(A:Around)(E:Value→Shared→Prop)(s:Shared)(v u:Value)(r:Bool):Prop:=(∀Q:Value→Shared→Prop,(∀tk,Q (.bool r) {s with toks:=tk})→wpAny (model P.c.prog P.c.w) A (compareOp .In v u) Q E s)∧∀Q:Value→Shared→Prop,(∀tk,Q (.bool !r) {s with toks:=tk})→wpAny (model P.c.prog P.c.w) A (compareOp .NotIn v u) Q E s
theorem zmT{l:Addr}{i:Int}{t:Tok}{f:Int→Bool}{m:Nat}(hS:s.heap.SetOf (intKind P.c.prog P.c.w) l f m):InD P A E s (.int i t) (.ref l) (f i):=⟨fun Q q=>wpAny_inSet_of (k:=i) (by simp [intKind,Value.isInt]) rfl hS (q _),fun Q q=>wpAny_notInSet_of (k:=i) (by simp [intKind,Value.isInt]) rfl hS (q _)⟩
theorem zoQ{l:Addr}{vs:Array Value}{m:Nat}{e:Value→Bool}(hl:s.heap.get? l=some (zbp "list" vs m))(h:∀y,y∈vs→EqAt A.in1 s y va (e y)):InD P A E s va (.ref l) (vs.any e):=⟨fun Q q=>in_listAt _ ⟨_,hl,rfl,_,rfl⟩ h (q s.toks),fun Q q=>notIn_listAt _ ⟨_,hl,rfl,_,rfl⟩ h (q s.toks)⟩
theorem zlB{l:Addr}{vs:Array Value}{m:Nat}{e:Value→Bool}(hl:s.heap.get? l=some (zbp "tuple" vs m))(h:∀y,y∈vs→EqAt A.in1 s y va (e y)):InD P A E s va (.ref l) (vs.any e):=⟨fun Q q=>in_tupleAt _ ⟨_,hl,rfl,_,rfl⟩ h (q s.toks),fun Q q=>notIn_tupleAt _ ⟨_,hl,rfl,_,rfl⟩ h (q s.toks)⟩
theorem zmG{l:List Nat}{c:Nat}(h:one l=some c):l = [c]:=by
 induction l using cL with
 | nil=>exact no h
 | cons x r=>induction r using cL with
  | nil=>exact sI h▸rfl
  | cons X Z=>exact no h
theorem in_str{c:Nat}{y:List Nat}{t u:Tok}:InD P A E s (.str (za0 [c]) t) (.str (za0 y) u) (decide (c∈y)):=by
 have e:(!(Builtin.Str.occurrences (za0 y) (za0 [c]) 0 (za0 y).length 1).isEmpty)=decide (c∈y):=StrLaws.found_one (za0 y) c;exact e▸⟨fun Q q=>PySem.P.in_str (q s.toks),fun Q q=>PySem.P.notIn_str (q s.toks)⟩
theorem zh0{k:Bool→Tr AV}(H:(zjH T a b h k).sem K)(G:Go P W h s A)(ha:VR W h.nx a va)(hb:VR W h.nx b vb):∃r,(k r).sem K∧InD P A E s va vb r:=
 H.go (fun y e H=>H.go fun x e' H=>H.go fun c e'' H=>⟨_,H,by
  obtain ⟨t,rfl⟩:=(AV.str?_is e'▸ha:VR _ _ (.str x) va);obtain ⟨u,rfl⟩:=(AV.str?_is e▸hb:VR _ _ (.str y) vb);exact zmG e''▸in_str⟩) fun X H=>H.go (fun g e H=>H.go fun i e' H=>H.go fun is es H=>⟨_,H,by
  obtain ⟨t,rfl⟩:=(AV.int?_is e'▸ha:VR _ _ (.int i) va);obtain rfl:vb = .ref g:=(AV.glob?_is e▸hb:VR W h.nx (.glob g) vb);exact (P.S.set_ _ _ es).elim fun hT z=>z.elim fun n z=>z.elim fun o z=>z.elim fun es z=>z.elim fun ep z=>z.elim fun tb z=>zmT (m:=n) ⟨o,es,ep,tb,G.rel.amb.base _ _ z.1 hT,z.2⟩⟩) fun X H=>H.go (fun xs e H=>by
  obtain ⟨l,vs,m,rfl,l1,l2⟩:=(AV.tup?_is e▸hb:VR _ _ (.tup xs) vb);exact (zmU H ha (l2.mapL fun X X=>SR.vr)).elim fun e q=>⟨_,q.2,zlB (G.rel.fz _ _ l1).2.1 q.1⟩) fun X H=>H.go (fun xs e H=>H.go fun q H=>⟨_,H,by
  obtain ⟨r,e1,e2⟩:=bE e;obtain ⟨q1,q2⟩:=aI q;obtain rfl:=eI q1;obtain ⟨i,ei⟩:=iE q2;obtain ⟨t,rfl⟩:=(AV.int?_is ei▸ha:VR _ _ (.int i) va);obtain ⟨b1,rfl⟩:=(AV.ref?_is e1▸hb:VR _ _ (.ref r) vb);obtain ⟨ob,o1,es,ep,tb,rfl,f,⟨ys,yp,ry⟩,X⟩:=G.rel.obj b1 (AO.set?_is e2) rfl;obtain rfl:=List.perm_nil.mp yp;obtain rfl:es = #[]:=Array.size_eq_zero_iff.mp ((lM (as:=es.toList) (·.2)).symm.trans ry.len.symm);exact zmT (f:=fun X=>false) (m:=0) ⟨_, #[],ep,tb,o1,⟨rfl,rfl,rfl⟩,rfl,fun e he=>(nomatch he),fun k=>⟨nofun,fun ⟨X,q,Z⟩=>nomatch q⟩,by decide,f,rfl⟩⟩) fun X H=>H.go fun p e H=>by
  obtain ⟨l,vs,m,rfl,l1,l2⟩:=zac G.rel hb e;exact (zmU (n:=h.nx) H ha (VR.ups (zc6 p.1) l2)).elim fun e q=>⟨_,q.2,zoQ l1 q.1⟩
theorem zjb(ha:VR W n a va):(va==Value.none)=isNone a:=by
 induction a with
 | int _ | str _=>exact ha.elim fun X e=>e▸rfl
 | ref X=>exact ha.2▸rfl
 | tup _ | lst _=>exact ha.elim fun X q=>q.elim fun X q=>q.elim fun X q=>q.1▸rfl
 | cod=>exact ha.elim fun X q=>q.elim fun X q=>q.1▸rfl
 | _=>rw [show va=_ from ha];rfl
def IsD(P:PM T)(A:Around)(E:Value→Shared→Prop)(s:Shared)(v u:Value)(r:Bool):Prop:=(∀Q:Value→Shared→Prop,Q (.bool r) s→wpAny (model P.c.prog P.c.w) A (compareOp .Is v u) Q E s)∧∀Q:Value→Shared→Prop,Q (.bool !r) s→wpAny (model P.c.prog P.c.w) A (compareOp .IsNot v u) Q E s
theorem zgZ{k:Bool→Tr AV}(H:(zjG a b k).sem K)(ha:VR W n a va)(hb:VR W n b vb):∃r,(k r).sem K∧IsD P A E s va vb r:=
 H.go (fun e H=>⟨_,H,by
  obtain rfl:vb = .none:=(zcH e▸hb:VR W n .none vb);exact zjb ha▸⟨fun Q q=>is_none_gen q,fun Q q=>isnot_none_gen q⟩⟩) fun X H=>H.go (fun y e H=>H.go fun x e' H=>⟨_,H,by
  obtain rfl:va = .bool x:=(AV.bool?_is e'▸ha:VR W n (.bool x) va);obtain rfl:vb = .bool y:=(AV.bool?_is e▸hb:VR W n (.bool y) vb);exact ⟨fun Q q=>PyProof.Rows.is_bool q,fun Q q=>PyProof.Rows.isnot_bool (by induction x <;> induction y <;> exact q)⟩⟩) fun X H=>H.go fun y e H=>H.go fun x e' H=>⟨_,H,by
  obtain rfl:va = .type x.id:=(AV.ty?_is e'▸ha:VR W n (.ty x) va);obtain rfl:vb = .type y.id:=(AV.ty?_is e▸hb:VR W n (.ty y) vb);exact TY.eq x y▸⟨fun Q q=>wP (a:=Value.bool (Value.type x.id==Value.type y.id)) q,fun Q q=>wP (a:=Value.bool (!(Value.type x.id==Value.type y.id))) q⟩⟩
theorem J2.cmpI{x y:Int}{op:CmpOp}{r:Bool}(H:K (.bool r) h)(f:∀A E s Q i j,Q (.bool r) s→wpAny (model P.c.prog P.c.w) A (compareOp op (.int x i) (.int y j)) Q E s):J P (V2 (.int x) (.int y)) VV (fun v=>compareOp op v.1 v.2) h K:=
 J2.ii (t:=fun v=>compareOp op v.1 v.2) fun A E Q s W i j G k=>f A E s Q i j (k.here G.rel (v:= .bool r) rfl H)
theorem znc{op:CmpOp}(H:cmp T op a b h K):J P (V2 a b) VV (fun v=>compareOp op v.1 v.2) h K:=by
 induction op with
 | Eq=>exact fun A E Q s W v G I kn=>(zh1 H G I.1 I.2).elim fun r q=>q.2.1 _ _ _ _ (kn.here G.rel (v:= .bool r) rfl q.1)
 | NotEq=>exact fun A E Q s W v G I kn=>(zh1 H G I.1 I.2).elim fun r q=>q.2.2 _ _ _ _ (kn.here G.rel (v:= .bool !r) rfl q.1)
 | Lt=>exact H.go fun X e H=>H.go fun X e' H=>AV.int?_is e▸AV.int?_is e'▸J2.cmpI H fun X X X X X X q=>PySem.P.lt_int q
 | LtE=>exact H.go fun X e H=>H.go fun X e' H=>AV.int?_is e▸AV.int?_is e'▸J2.cmpI H fun X X X X X X q=>PySem.P.le_int q
 | Gt=>exact H.go fun X e H=>H.go fun X e' H=>AV.int?_is e▸AV.int?_is e'▸J2.cmpI H fun X X X X X X q=>PySem.P.gt_int q
 | GtE=>exact H.go fun X e H=>H.go fun X e' H=>AV.int?_is e▸AV.int?_is e'▸J2.cmpI H fun X X X X X X q=>PySem.P.ge_int q
 | Is=>exact fun A E Q s W v G I kn=>(zgZ (a:=a) (b:=b) (k:=fun r=> .ret (.bool r) h) H I.1 I.2).elim fun r q=>q.2.1 _ (kn.here G.rel (v:= .bool r) rfl q.1)
 | IsNot=>exact fun A E Q s W v G I kn=>(zgZ (a:=a) (b:=b) (k:=fun r=> .ret (.bool !r) h) H I.1 I.2).elim fun r q=>q.2.2 _ (kn.here G.rel (v:= .bool !r) rfl q.1)
 | In=>exact fun A E Q s W v G I kn=>(zh0 H G I.1 I.2).elim fun r q=>q.2.1 _ fun X=>kn.here G.rel (v:= .bool r) rfl q.1
 | NotIn=>exact fun A E Q s W v G I kn=>(zh0 H G I.1 I.2).elim fun r q=>q.2.2 _ fun X=>kn.here G.rel (v:= .bool !r) rfl q.1
def unO(op:UnaryOp)(a:AV)(h:Hp):Tr AV:=UnaryOp.casesOn (motive:=fun X=>Tr AV) op (.os a.int? fun x=> .ret (.int (-x-1)) h) (zaN a h fun r h=> .ret (.bool !r) h) .no (.os a.int? fun x=> .ret (.int (-x)) h)
def un(op:UnaryOp)(a:AV)(h:Hp)(K:AV→Hp→Prop):Prop:=(unO op a h).sem K
theorem zss{op:UnaryOp}(H:un op a h K):J P (V1 a) VV (fun v=>unaryOp op v) h K:=fun A E Q s W v G I k=>by
 show wpAny _ A (unaryOp op v) Q E s;induction op with
 | Invert=>exact H.go fun x e H=>(AV.int?_is e▸I:VR _ _ (.int x) v).elim fun t e=>e▸PyProof.Rows.invert_int (by
   rw [show Builtin.bitNot x = -x-1 from by unfold Builtin.bitNot;lia];exact k.int G H)
 | Not=>
  unfold unaryOp;exact wH (wB (zcf (a:=a) (h:=h) (B:=K) (κ:=fun r h=> .ret (AV.bool !r) h) H A E _ s W v G I fun X X X X X S e q=>wP (k S (show VR _ _ (.bool _) _ from congrArg (fun r=>Value.bool !r) e) q)))
 | UAdd=>exact H.elim
 | USub=>exact H.go fun x e H=>(AV.int?_is e▸I:VR _ _ (.int x) v).elim fun t e=>e▸PySem.P.neg_int (k.int G H)
end
noncomputable def zba(i:Int):Bool:=decide (-(2^63)≤i)&&decide (i<2^63)
def nth{α:Type}(xs:List α)(i:Int):Option α:=bif zba i then (seqIndex? i xs.length).bind (xs[·]?) else none
noncomputable def zdW{α:Type}(es:List (List Nat×α))(k:List Nat):Option α:=(es.find? fun e=>e.1==k).map (·.2)
def zoK(a b:AV)(h:Hp):Tr AV:= .al a.str? (fun z=> .os b.int? fun i=> .Op U.n? (nth z i) fun c=> .ret (.str [c]) h)
 (.al a.tup? (fun xs=> .os b.int? fun i=> .Op U.x? (nth xs i) fun v=> .ret v.av h)
 (.os (zaT h a) fun p=> .os b.int? fun i=> .Op U.a? (nth p.2 i) fun v=> .ret v h))
def zu8(a b:AV)(h:Hp)(K:AV→Hp→Prop):Prop:=(zoK a b h).sem K
noncomputable def zd8(a:AV):Option (Option Int):=AV.casesOn (motive:=fun X=>Option (Option Int)) a (some none) jA (fun i=>some (some i)) jA jA jA jA jA jA jA none
noncomputable def za7{α:Type}(xs:List α)(lo hi st:Option Int):List α:=
 (PySem.sliceRange (PySem.sliceBounds lo hi st xs.length).1 (PySem.sliceBounds lo hi st xs.length).2.1 (PySem.sliceBounds lo hi st xs.length).2.2).filterMap (xs[·]?)
noncomputable def zc2(x:List Nat)(lo hi st:Option Int):List Nat:=
 let p:=Builtin.Str.strSliceIndices lo hi (st.getD 1) x.length
 if (st.getD 1==1&&p.length==x.length)=true then x else p.filterMap (x[·]?)
noncomputable def AO.flist?(o:AO):Option (List Int):=AO.casesOn (motive:=fun X=>Option (List Int)) o jC jC jA jC jA jC jC jF jF jA jC jC jF jC jC jA jA (fun X X xs=>some xs) none
def zur(a lo hi st:AV)(h:Hp):Tr AV:= .os (zd8 lo) fun l=> .os (zd8 hi) fun u=> .os (zd8 st) fun k=> .Rq (!(k==some 0))
 (.al a.str? (fun z=> .Rq (Nat.ble z.length sizeL) (.ret (.str (zc2 z l u k)) h))
 (.al (a.ref?.bind fun r=>(h.at_ r).flist?) (fun xs=> .Rq (Nat.ble xs.length sizeL) (nuT false (za7 (xs.map .int) l u k) h))
 (.os (zaT h a) fun p=> .Rq (Nat.ble p.2.length sizeL) (nuT p.1 (za7 p.2 l u k) h))))
def cut(a lo hi st:AV)(h:Hp)(K:AV→Hp→Prop):Prop:=(zur a lo hi st h).sem K
def tf(a:AV):Bool:=a.ref?.isNone
def zdO(a b v:AV)(h:Hp):Tr Unit:= .os a.ref? fun r=> .os (h.at_ r).list? fun p=> .os b.int? fun i=> .Rq (decide (0≤i)&&decide (i<p.2.length)&&Nat.ble p.2.length sizeL&&(p.1 || tf v)) (.ret () (h.set r (.list p.1 (p.2.set i.toNat v))))
def zfu(a b v:AV)(h:Hp)(K:Unit→Hp→Prop):Prop:=(zdO a b v h).sem K
section
variable {T:Tabs} {P:PM T} {lo hi st:AV} {n:Nat}
theorem zgl{α:Type}{xs:List α}{i:Int}{v:α}(e:nth xs i=some v):zba i=true∧(seqIndex? i xs.length).bind (xs[·]?)=some v:=by
 unfold nth at e;induction q:zba i with
 | true=>rw [q] at e;exact ⟨rfl,e⟩
 | false=>rw [q] at e;exact no e
theorem zbr{α:Type}{xs:List α}{i:Nat}{v:α}(e:xs[i]? = some v)(hl:Nat.ble xs.length sizeL=true):nth xs i=some v:=by
 have l:=(gE e).1;have hl:xs.length≤2^24:=ble hl;have f:zba (i:Int)=true:=by unfold zba;simp only [Bool.and_eq_true,decide_eq_true_eq];lia
 have q:seqIndex? (i:Int) xs.length=some i:=by
  unfold seqIndex?;rw [if_neg (Int.not_lt.mpr (cN i))];exact if_pos (by simp only [Bool.and_eq_true,decide_eq_true_eq];exact ⟨lz1 6534729792,lz2 0x7161185001047846000041 l⟩)
 unfold nth;rw [f,q];exact e
def JI(P:PM T)(a b:AV)(h:Hp)(K:AV→Hp→Prop):Prop:=∀A E Q s W va vb,Go P W h s A→VR W h.nx a va→VR W h.nx b vb→Kn P VV K W h.nx s Q→(∀Q':Bool→Shared→Prop,Q' false s→wpAny (model P.c.prog P.c.w) A (getitemInPython va) Q' E s)∧wpAny (model P.c.prog P.c.w) A (getItem va vb) Q E s
theorem zaE{Ty id:String}{v:Value}{Q:Bool→Shared→Prop}(hT:s.TypeIs v Ty)(h:Slot Ty "__getitem__" id)(q:Q false s):wpAny (model P.c.prog P.c.w) A (getitemInPython v) Q E s:=by
 unfold getitemInPython;exact wB (wpAny_specialOf hT h.lookup (wP q))
theorem zif{α:Type}{xs:List α}{i:Int}{v:α}(e:nth xs i=some v):(0≤i∧i<2^63∧xs[i.toNat]? = some v)∨(i<0∧ -(xs.length:Int)≤i∧ -(2^63)≤i∧xs[(i+xs.length).toNat]? = some v):=by
 obtain ⟨f,e⟩:=zgl e;simp only [zba,Bool.and_eq_true,decide_eq_true_eq] at f;obtain ⟨j,e3,e4⟩:=bE e;unfold seqIndex? at e3;by_cases h0:i<0
 ·rw [if_pos h0] at e3
  obtain ⟨c,e5⟩:=Option.ite_none_right_eq_some.mp e3;simp only [Bool.and_eq_true,decide_eq_true_eq] at c;exact .inr ⟨h0,li [_] [_] 0x186144041185180801041 c.1,f.1,sI e5▸e4⟩
 ·rw [if_neg h0] at e3
  obtain ⟨c,e5⟩:=Option.ite_none_right_eq_some.mp e3;exact .inl ⟨by lia,f.2,sI e5▸e4⟩
theorem Rs.nth{α:Type}{R:α→Value→Prop}{xs:List α}{vs:Array Value}(r:Rs R xs vs.toList){i:Int}{v:α}(e:nth xs i=some v):∃j w,seqIndex? i vs.size=some j∧vs[j]? = some w∧R v w:=by
 obtain ⟨j,e3,e4⟩:=bE (zgl e).2;exact (r.get j _ e4).elim fun w q=>⟨j,w,r.size▸e3,Array.getElem?_toList▸q.1,q.2⟩
theorem ER.find{w:World}{R:AV→Value→Prop}{x:List Nat}{es:List (List Nat×AV)}{ds:List DictEntry}(r:Rs (ER w R) es ds):(∃v u,zdW es x=some v∧(ds.find? fun e=>Value.isStrOf (za0 x) e.key).map (·.val)=some u∧R v u)∨(zdW es x=none∧(ds.find? fun e=>Value.isStrOf (za0 x) e.key).map (·.val)=none):=by
 induction r with
 | nil=>exact .inr ⟨rfl,rfl⟩
 | @cons k _ es ds a _ ih=>
  obtain ⟨tk,u,rfl,r⟩:=a;unfold zdW;rw [List.find?_cons,List.find?_cons,show Value.isStrOf (za0 x) (.str (za0 k.1) tk)=(k.1==x) from strOf_beq];induction k.1==x with
  | true=>exact .inl ⟨k.2,u,rfl,rfl,r⟩
  | false=>exact ih
theorem zlx{z:List Nat}{i:Int}{c:Nat}(e:nth z i=some c)(H:K (.str [c]) h):JI P (.str z) (.int i) h K:=fun A E Q s W va vb G ⟨t,ha⟩ ⟨u,hb⟩ k=>by
 subst ha hb;obtain ⟨f,e⟩:=zgl e;simp only [zba,Bool.and_eq_true,decide_eq_true_eq] at f;exact ⟨fun Q q=>zaE (Ty:= "str") (typeIs_str _ _ _) PySem.F.slot_str_getitem q,PyProof.Rows.getItem_str (c:=c) (by rw [decide_eq_false (by lia),decide_eq_false (by lia)];rfl) (by rw [za2];simpa [za0] using e) (k.str G H)⟩
theorem zlw{xs:List SV}{i:Int}{v:SV}(e:nth xs i=some v)(H:K v.av h):JI P (.tup xs) (.int i) h K:=fun A E Q s W va vb G ⟨a,vs,m,ha,h1,h2⟩ ⟨u,hb⟩ k=>by
 subst ha hb;have h1:=(G.rel.fz _ _ h1).2.1;have f:=(zgl e).1;simp only [zba,Bool.and_eq_true,decide_eq_true_eq] at f;obtain ⟨j,w,e1,e2,r⟩:=h2.nth e;exact ⟨fun Q q=>zaE (Ty:= "tuple") ⟨_,h1,rfl⟩ PySem.F.slot_tuple_getitem q,PyProof.Rows.getItem_tuple ⟨_,h1,rfl,_,rfl⟩ f.1 f.2 e1 e2 (k.here G.rel r.vr H (tk:=s.toks) (d:=s.drawn))⟩
theorem zj9{p:Bool×List AV}{i:Int}{v:AV}(ea:zaT h a=some p)(e:nth p.2 i=some v)(H:K v h):JI P a (.int i) h K:=fun A E Q s W va vb G ha ⟨u,hb⟩ k=>by
 subst hb;obtain ⟨l,vs,m,rfl,h1,h2⟩:=zac G.rel ha ea;have h2:=VR.ups (zc6 p.1) h2;refine ⟨fun Q q=>zaE (Ty:= "list") ⟨_,h1,rfl⟩ PySem.F.slot_list_getitem q,?_⟩;rcases zif e with ⟨c1,c2,c3⟩ | ⟨c0,c1,c2,c3⟩
 ·exact (h2.get _ _ c3).elim fun w q=>wpAny_getItem_list ⟨_,h1,rfl,_,rfl⟩ c1 c2 (Array.getElem?_toList▸q.1) (k.here G.rel q.2 H (tk:=s.toks) (d:=s.drawn))
 ·exact (h2.get _ _ c3).elim fun w q=>wpAny_getItem_list_neg ⟨_,h1,rfl,_,rfl⟩ c0 (h2.size▸c1) c2 (by rw [←h2.size,←Array.getElem?_toList];exact q.1) (k.here G.rel q.2 H (tk:=s.toks) (d:=s.drawn))
theorem zj8(H:zu8 a b h K):JI P a b h K:=
 H.go (fun z e H=>H.go fun i e' H=>H.go fun c q H=>AV.str?_is e▸AV.int?_is e'▸zlx q H) fun X H=>H.go (fun z e H=>H.go fun i e' H=>H.go fun c q H=>AV.tup?_is e▸AV.int?_is e'▸zlw q H) fun X H=>
 H.go fun z e H=>H.go fun i e' H=>H.go fun c q H=>AV.int?_is e'▸zj9 e q H
theorem zbP{x:AV}{v:Value}{p:Option Int}(h:VR W n x v)(e:zd8 x=some p):IsPart v p∧∃q:Option (Int×Tok),v=partValue q∧q.map (·.1)=p:=by
 induction x with
 | none=>
  obtain rfl:none=p:=sI e;obtain rfl:v = .none:=h;exact ⟨.none,none,rfl,rfl⟩
 | int i=>
  obtain rfl:some i=p:=sI e;obtain ⟨t,rfl⟩:=h;exact ⟨.int _ _,some (i,t),rfl,rfl⟩
 | _=>exact no e
theorem Rs.pick{α:Type}{R:α→Value→Prop}{xs:List α}{vs:List Value}(r:Rs R xs vs):∀is:List Nat,Rs R (is.filterMap (xs[·]?)) (is.filterMap (vs[·]?))
 | []=> .nil
 | i :: is=>by
  rw [List.filterMap_cons,List.filterMap_cons];induction e:xs[i]? with
  | none=>
   rw [List.getElem?_eq_none (r.len▸List.getElem?_eq_none_iff.mp e)];exact r.pick is
  | some x=>
   obtain ⟨v,e',q⟩:=r.get i x e;rw [e'];exact .cons q (r.pick is)
def ztP(P:PM T)(a lo hi st:AV)(h:Hp)(K:AV→Hp→Prop):Prop:=∀A E Q s W va vl vu vk sl,Go P W h s A→VR W h.nx a va→VR W h.nx lo vl→VR W h.nx hi vu→VR W h.nx st vk→s.heap.IsSliceOf sl vl vu vk→Kn P VV K W h.nx s Q→
 (∀Q':Bool→Shared→Prop,Q' false s→wpAny (model P.c.prog P.c.w) A (getitemInPython va) Q' E s)∧wpAny (model P.c.prog P.c.w) A (getItem va (.ref sl)) Q E s
variable {l u k:Option Int}
theorem zgW{f:Bool}{xs:List AV}(e1:zd8 lo=some l)(e2:zd8 hi=some u)(e3:zd8 st=some k)(h0:k≠some 0)(hl:Nat.ble xs.length sizeL=true)(H:nuL f (za7 xs l u k) h K)
  (g:∀W s va,Rel P.c W h s→VR W h.nx a va→∃r vs m,va = .ref r∧s.heap.get? r=some (zbp "list" vs m)∧Rs (VR W (lim f h.nx)) xs vs.toList):ztP P a lo hi st h K:=fun A E Q s W va vl vu vk sl G ha h1 h2 h3 hs kn=>by
 obtain ⟨r,vs,m,rfl,q1,q2⟩:=g W s va G.rel ha;have z:vs.size≤sizeLine:=q2.size▸ble hl;refine ⟨fun Q q=>zaE (Ty:= "list") ⟨_,q1,rfl⟩ PySem.F.slot_list_getitem q,wpAny_getItem_list_slice ⟨_,q1,rfl,_,rfl⟩ hs (zbP h1 e1).1 (zbP h2 e2).1 (zbP h3 e3).1 h0 (kn.list G (tk:=s.toks) (d:=s.drawn) (n:=0) ?_ H) z⟩;have:=q2.pick (sliceRange (sliceBounds l u k xs.length).1 (sliceBounds l u k xs.length).2.1 (sliceBounds l u k xs.length).2.2);unfold slicePick za7;rw [←q2.size]
 simpa using this
theorem zpg{z:List Nat}(e1:zd8 lo=some l)(e2:zd8 hi=some u)(e3:zd8 st=some k)(h0:k≠some 0)(hl:Nat.ble z.length sizeL=true)(H:K (.str (zc2 z l u k)) h):ztP P (.str z) lo hi st h K:=fun A E Q s W va vl vu vk sl G ha h1 h2 h3 hs kn=>by
 obtain ⟨t,rfl⟩:=ha;obtain ⟨ql,rfl,rfl⟩:=(zbP h1 e1).2;obtain ⟨qu,rfl,rfl⟩:=(zbP h2 e2).2;obtain ⟨qk,rfl,rfl⟩:=(zbP h3 e3).2;have k0:(qk.map (·.1)).getD 1≠0:=by
  induction qk with
  | none=>decide
  | some p=>exact fun e=>h0 (congrArg some e)
 refine ⟨fun Q q=>zaE (Ty:= "str") (typeIs_str _ _ _) PySem.F.slot_str_getitem q,wpAny_getItem_str_slice hs (beq_eq_false_iff_ne.mpr k0) ?_⟩;unfold sliceMade;rw [show PySem.slicePicked (za0 z) ql qu qk=Builtin.Str.strSliceIndices (ql.map (·.1)) (qu.map (·.1)) ((qk.map (·.1)).getD 1) z.length from by unfold PySem.slicePicked;rw [za2],za2];unfold zc2 at H
 dsimp only at H⊢
 split
 ·rename_i q
  rw [if_pos q] at H;exact kn.here G.rel (v:= .str z) ⟨t,rfl⟩ H (tk:=s.toks) (d:=s.drawn)
 ·rename_i q
  rw [if_neg q] at H;have e:(⟨((Builtin.Str.strSliceIndices (ql.map (·.1)) (qu.map (·.1)) ((qk.map (·.1)).getD 1) z.length).filterMap ((za0 z).cps[·]?)).toArray⟩:Str)=za0 ((Builtin.Str.strSliceIndices (ql.map (·.1)) (qu.map (·.1)) ((qk.map (·.1)).getD 1) z.length).filterMap (z[·]?)):=by simp [za0]
  rw [e];exact ⟨by rw [za2];exact lT (List.length_filterMap_le _ _) (lT (sliceIndicesBy_le _ _ _ k0 z.length) (ble hl)),kn.str G H⟩
theorem zjl{o:AO}{xs:List Int}:o.flist? = some xs→∃vs n,o = .flist vs n xs:=AO.casesOn (motive:=fun o=>o.flist? = some xs→∃vs n,o = .flist vs n xs) o jG jG jB jG jB jG jG jH jH jB jG jG jH jG jG jB jB (fun vs n X e=>⟨vs,n,sI e▸rfl⟩) no
theorem zrq(H:cut a lo hi st h K):ztP P a lo hi st h K:=H.go fun l e1 H=>H.go fun u e2 H=>H.go fun k e3 H=>H.go fun h0 H=>by
 have h0:k≠some 0:=fun q=>by rw [q] at h0;exact nb h0
 exact H.go (fun z e H=>H.go fun hl H=>AV.str?_is e▸zpg e1 e2 e3 h0 hl H) fun X H=>H.go (fun xs e H=>H.go fun hl H=>(bE e).elim fun r e=>(zjl e.2).elim fun vs q=>q.elim fun m q=>AV.ref?_is e.1▸zgW e1 e2 e3 h0 (by rw [lM];exact hl) H
   fun W s va R ha=>(R.obj ha.1 q rfl).elim fun ob o=>⟨_,vs,m,ha.2,o.2.1▸o.1,o.2.2⟩)
  fun X H=>H.go fun p e H=>H.go fun hl H=>zgW e1 e2 e3 h0 hl H fun W s va R ha=>zac R ha e
theorem zdL{r:Addr}{vs:Array Value}{m:Nat}{i:Int}{t:Tok}{v:Value}{Q:Unit→Shared→Prop}(ho:s.heap.get? r=some (zbp "list" vs m))(h0:0≤i)(hk:i<vs.size)(hfit:i<2^63)
  (hQ:Q () {s with heap:=s.heap.update r (Obj.mapSeq (·.setIfInBounds i.toNat v))}):wpAny (model P.c.prog P.c.w) A (setItem (.ref r) (.int i t) v) Q E s:=by
 have hl:s.heap.IsList r vs:=⟨_,ho,rfl,m,rfl⟩;have hx':vs[i.toNat]? = some vs[i.toNat]:=Array.getElem?_eq_getElem (by omega);unfold setItem
 try with_reducible refine wH ?_
 first | refine wB (wP ?_) | skip
 refine wB (wpAny_sequenceKey hl.typeIs (by decide) ?_);refine wB (wpAny_callSpecial?_slot (name:=Str.ofString "__setitem__") hl.typeIs slot_list_setitem (wpAny_call_entry slot_list_setitem hl.typeIs entry_list_setitem ?_ (args_list_setitem _ _ _)));refine wB (m:=Builtin.List.listSubscript? (.int i t)) (wpAny_listSubscript_int (fitsIndex_of h0 hfit) ?_);obtain ⟨j,rfl⟩:=Int.eq_ofNat_of_zero_le h0;refine wB (m:=seqItemAt r j>>=fun r=>pure (r.map (j,·))) (wB (wpAny_seqItemAt ho rfl (wP ?_)));rw [show vs[j]? = some vs[j] from hx'];refine wB (m:=setSeqItemAt r j v) (wpAny_setSeqItemAt ho rfl ?_)
 first
  | exact wB (wP (wP ⟨.none,rfl,wP hQ⟩))
  | exact wP ⟨.none,rfl,wP hQ⟩
theorem Rs.set{α β:Type}{R:α→β→Prop}{x:α}{y:β}(q:R x y){xs:List α}{ys:List β}(r:Rs R xs ys):∀i,Rs R (xs.set i x) (ys.set i y):=by
 induction r with
 | nil=>exact fun X=> .nil
 | cons a t ih=>exact fun i=>Nat.casesOn i (.cons q t) fun i=> .cons a (ih i)
theorem Step.seq{c:Cx}(R:Rel c W h s){r:Nat}{p:Bool×List AV}(hr:r<h.nx)(e:(h.at_ r).list? = some p){vs:Array Value}{m:Nat}(ho:s.heap.get? (W.pl r)=some (zbp "list" vs m)){f:Array Value→Array Value}{g:Bool}{ys:List AV}(hy:Rs (VR W (lim g h.nx)) ys (f vs).toList){tk:Nat}{d:Drawn}:
  Step c h.nx W s W (h.set r (.list g ys)) {s with heap:=s.heap.update (W.pl r) (Obj.mapSeq f),toks:=tk,drawn:=d}:=
 .set R (k:=r) (.list g ys) hr (AO.list?_is e▸rfl) (fun X X q=>AO.noConfusion ((AO.list?_is e).symm.trans q)) (fun X=>⟨_,Heap.get?_update_self _ ho rfl,f vs,_,rfl,hy⟩) (fun b o e hb=>(Heap.get?_update_ne _ _ _ _ hb).trans e) rfl rfl (eL (upd_size ..).symm)
theorem zkw{x:AV}{v:Value}{f:Bool}(h:(f || tf x)=true)(r:VR W n x v):VR W (lim f n) x v:=by
 induction f with
 | true=>exact r
 | false=>induction x with
  | ref X=>exact nb h
  | _=>exact r
theorem zbT{c:Cx}(R:Rel c W h s){r:Nat}{p:Bool×List AV}(hr:r<h.nx)(e:(h.at_ r).list? = some p):∃vs m,s.heap.get? (W.pl r)=some (zbp "list" vs m)∧Rs (VR W (lim p.1 h.nx)) p.2 vs.toList:=(R.obj hr (AO.list?_is e) rfl).elim fun X o=>o.2.elim fun vs q=>q.elim fun m q=>⟨vs,m,q.1▸o.1,q.2⟩
theorem zdj{v:AV}{K:Unit→Hp→Prop}(H:zfu a b v h K):J P (V3 a b v) UU (fun x=>setItem x.1 x.2.1 x.2.2) h K:=fun A E Q s W x G I k=>H.go fun r e H=>H.go fun p e1 H=>H.go fun i e2 H=>H.go fun c H=>by
 obtain ⟨hr,q1⟩:=(AV.ref?_is e▸I.1:VR _ _ (.ref r) x.1);obtain ⟨t,q2⟩:=(AV.int?_is e2▸I.2.1:VR _ _ (.int i) x.2.1);simp only [Bool.and_eq_true,decide_eq_true_eq] at c;obtain ⟨vs,m,o1,o2⟩:=zbT G.rel hr e1;show wpAny _ A (setItem x.1 x.2.1 x.2.2) Q E s;have z:p.2.length≤2^24:=ble c.1.2;rw [q1,q2];exact zdL o1 c.1.1.1 (o2.size▸c.1.1.2) (li [_] [_] 0x20000000000000000b0a1180041040000005086001185846001042 c.1.1.2 z) (k (.seq G.rel hr e1 o1 (f:=(·.setIfInBounds i.toNat x.2.2)) (by rw [Array.toList_setIfInBounds];exact o2.set (zkw c.2 I.2.2) _) (tk:=s.toks) (d:=s.drawn)) trivial H)
end
end Mn
end
section
open PySem PySem.W PyProof.Rows PySem.Calls PySem.SeqAt Builtin Builtin.ObjectAttr Builtin.Getset_descriptor
namespace Mn
noncomputable def zkg(es:List (List Nat×AV))(k:List Nat)(v:AV):List (List Nat×AV):=match es with
 | []=> [(k,v)]
 | e :: r=>bif e.1==k then (e.1,v) :: r else e :: zkg r k v
theorem zo6{e:List Nat×AV}{r:List (List Nat×AV)}{k:List Nat}{v:AV}:zkg (e :: r) k v=bif e.1==k then (e.1,v) :: r else e :: zkg r k v:=rfl
def zlA(h:Hp)(r:Nat):Option ((Nat×Nat)×Bool×List (List Nat×AV)):=(h.at_ r).inst?.bind fun c=>(h.at_ c.2).dict?.map fun p=>(c,p)
def zoW(T:Tabs)(o:AV)(n:List Nat)(h:Hp):Tr AV:= .os o.ref? fun r=> .os (zlA h r) fun i=> .al (zdW i.2.2 n) (fun v=> .rq ((T.attrs i.1.1).contains n) (.ret v h)) (.os (zaY T i.1.1 n) fun m=> .ret (.ref h.nx) (h.new (.bound o m)))
def zue(T:Tabs)(o:AV)(n:List Nat)(h:Hp)(K:AV→Hp→Prop):Prop:=(zoW T o n h).sem K
def zo7(T:Tabs)(o:AV)(n:List Nat)(v:AV)(h:Hp):Tr Unit:= .os o.ref? fun r=> .os (zlA h r) fun i=> .rq ((T.attrs i.1.1).contains n&&Nat.blt i.2.2.length 100&&(i.2.1 || tf v)) (.ret () (h.set i.1.2 (.dict i.2.1 (zkg i.2.2 n v))))
def zsY(T:Tabs)(o:AV)(n:List Nat)(v:AV)(h:Hp)(K:Unit→Hp→Prop):Prop:=(zo7 T o n v h).sem K
section
variable {T:Tabs} {P:PM T} {W:Wd} {h:Hp} {s:Shared} {A:Around} {E:Value→Shared→Prop} {o v:AV} {K:AV→Hp→Prop} {n:List Nat} {r m:Nat} {i:(Nat×Nat)×Bool×List (List Nat×AV)} {R:AV→Value→Prop} {es:List (List Nat×AV)} {ds:List DictEntry}
theorem zfM(r:Rs (ER P.c.w R) es ds):((∃v u,zdW es n=some v∧PySem.W.getL (za0 n) ds=some (some u)∧R v u)∨(zdW es n=none∧PySem.W.getL (za0 n) ds=some none))∧ds.any (·.refKey)=false:=by
 have hr:ds.any (·.refKey)=false:=by
  induction r with
  | nil=>rfl
  | cons a X ih=>rw [List.any_cons,ih];exact a.elim fun t a=>a.elim fun u a=>a.1▸rfl
 have e:(fun e:DictEntry=>Value.isStrOf (za0 n) e.key)=fun e=>e.key.isStr (za0 n):=funext fun e=>by induction e.key <;> rfl
 have f:=ER.find (x:=n) r;rw [e] at f;unfold PySem.W.getL;refine ⟨f.imp (fun q=>q.elim fun v q=>q.elim fun u q=>(jE q.2.1).elim fun en g=>⟨v,u,q.1,by rw [g.1];exact congrArg (some ∘ some) g.2,q.2.2⟩) fun q=>⟨q.1,by rw [Option.map_eq_none_iff.mp q.2];exact if_neg (by rw [hr];exact Bool.false_ne_true)⟩,hr⟩
structure InstD(P:PM T)(s:Shared)(W:Wd)(h:Hp)(r:Nat)(i:(Nat×Nat)×Bool×List (List Nat×AV))(ds:List DictEntry)(k:Nat):Prop where
 lt:i.1.2<h.nx
 live:(h.at_ i.1.2).live=true
 x:s.heap.get? (W.pl r)=some (instObj i.1.1 (W.pl i.1.2))
 d:s.heap.get? (W.pl i.1.2)=some (dictOf ds k)
 r:Rs (ER P.c.w (VR W (lim i.2.1 h.nx))) i.2.2 ds
 nd:(i.2.2.map (·.1)).Nodup
theorem zdZ(R:Rel P.c W h s)(hr:r<h.nx)(e:zlA h r=some i):∃ds k,InstD P s W h r i ds k:=by
 obtain ⟨c,e1,e2⟩:=bE e;obtain ⟨p,e3,rfl⟩:=jE e2;obtain ⟨ob,o1,o2⟩:=R.obj hr (AO.inst?_is e1) rfl;obtain ⟨ob',q1,ds,k,rfl,q3,q4,q5⟩:=R.obj o2.1 (AO.dict?_is e3) rfl;exact ⟨ds.toList,k,o2.1,AO.dict?_is e3▸rfl,o2.2▸o1,q1,q3,q4⟩
theorem InstD.at_{k:Nat}(D:InstD P s W h r i ds k):InstAt s.heap (W.pl r) (instObj i.1.1 (W.pl i.1.2)) i.1.1 (some (dictOf ds k)):=⟨D.x,rfl,rfl,D.d⟩
theorem Stat.here(R:Rel P.c W h s):P.c.K.In s.heap:=fun a o e=>R.amb.base a o (P.S.inB a o e) (P.S.tabs a o e)
theorem zbZ{C:Nat}(e:(T.attrs C).contains n=true):n∈T.attrs C∧(T.attrs C≠[]∨T.meth C≠[]):=by
 have:=List.contains_iff_mem.mp e;exact ⟨this, .inl (List.ne_nil_of_mem this)⟩
theorem ziY{C:Nat}(e:zaY T C n=some m):T.attrs C≠[]∨T.meth C≠[]:= .inr fun q=>by unfold zaY at e;rw [q] at e;exact no e
theorem zgi{k:Nat}{cd:ClassData}(hd:cd.hasDict=true):PySem.W.ownOf cd (some (dictOf ds k)) (za0 n)=PySem.W.getL (za0 n) ds:=by
 unfold PySem.W.ownOf;rw [hd];rfl
theorem zeX{n:Nat}{x:AV}{v:Value}(h:VR W n x v):handedIn v=true:=by
 induction x with
 | int _ | str _=>exact h.elim fun X e=>e▸rfl
 | ref X=>exact h.2▸rfl
 | bi m=>obtain rfl:v=_:=h;induction m <;> decide +kernel
 | tup _ | lst _=>exact h.elim fun X q=>q.elim fun X q=>q.elim fun X q=>q.1▸rfl
 | cod=>exact h.elim fun X q=>q.elim fun X q=>q.1▸rfl
 | _=>obtain rfl:v=_:=h;rfl
theorem InstD.val{k:Nat}(D:InstD P s W h r i ds k)(R:Rel P.c W h s){u:Value}{x:Bool}{Q:Value→Shared→Prop}(e:(T.attrs i.1.1).contains n=true)(g:PySem.W.getL (za0 n) ds=some (some u))(hu:handedIn u=true)(q:Q u {s with toks:=s.toks+1}):wpAny (model P.c.prog P.c.w) A (getAttr (.ref (W.pl r)) (za0 n) x) Q E s:=by
 obtain ⟨c1,c2,c3,c4,c5⟩:=P.S.cls _ (zbZ e).2;obtain ⟨cd,hc,hd⟩:=any_some c4;refine get_value (Stat.here R) D.at_ c1 ?_ hu q;unfold findObj;rw [hc,P.S.attr _ n (zbZ e).1];simp only [Option.bind_some];rw [zgi hd,g];rfl
theorem InstD.bound{k:Nat}(D:InstD P s W h r i ds k)(R:Rel P.c W h s){x:Bool}{Q:Value→Shared→Prop}(e:zaY T i.1.1 n=some m)(g:PySem.W.getL (za0 n) ds=some none)(q:Q (.ref s.heap.objs.size) {s with heap:=s.heap.push (methodObj (.ref m) (.ref (W.pl r))),toks:=s.toks+1}):wpAny (model P.c.prog P.c.w) A (getAttr (.ref (W.pl r)) (za0 n) x) Q E s:=by
 obtain ⟨c1,c2,c3,c4,c5⟩:=P.S.cls _ (ziY e);obtain ⟨cd,hc,hd⟩:=any_some c4;obtain ⟨m1,m2,m3,m4,m5⟩:=P.S.meth _ n m e;refine get_bind (g:= .builtin "function.__get__") (a:= .ref m) (Stat.here R) D.at_ c1 ?_ c5 (wpAny_call (fn_get (s:={s with toks:=s.toks+1}) (show P.c.K.In s.heap from Stat.here R) m3 ?_))
 ·unfold findObj
  rw [hc,m1];simp only [Option.bind_some];rw [m2];simp only [Option.bind_some];rw [m4];simp only [Option.bind_some];rw [zgi hd,g];simp only [Option.bind_some];rw [m5];rfl
 ·exact wP (a:=Value.ref s.heap.objs.size) q
def JA(P:PM T)(o:AV)(n:List Nat)(h:Hp)(K:AV→Hp→Prop):Prop:=∀x,J P (V1 o) VV (fun v=>getAttr v (za0 n) x) h K
theorem zji(H:zue T o n h K):JA P o n h K:=fun x A E Q s W va G I k=>H.go fun r e H=>H.go fun i e1 H=>by
 have H:alt (zdW i.2.2 n) (fun v=>req ((T.attrs i.1.1).contains n) (K v h)) (opt (zaY T i.1.1 n) fun m=>K (.ref h.nx) (h.new (.bound o m))):=H;obtain ⟨hr,rfl⟩:=(AV.ref?_is e▸I:VR _ _ (.ref r) va);obtain ⟨ds,m,D⟩:=zdZ G.rel hr e1;rcases (zfM (P:=P) (n:=n) D.r).1 with ⟨v,u,g1,g2,g3⟩ | ⟨g1,g2⟩
 ·rw [g1] at H
  exact req.go (H:req _ _) fun a H=>D.val G.rel a g2 (zeX g3) (k.here G.rel (VR.up (zc6 i.2.1) g3) H)
 ·rw [g1] at H
  exact opt.go (H:opt _ _) fun f a H=>D.bound G.rel a g2 (k.nu G.rel (o:= .bound o f) rfl (fun X L=>⟨_,rfl,VR.up L (AV.ref?_is e▸(show VR W h.nx (.ref r) (.ref (W.pl r)) from ⟨hr,rfl⟩))⟩) H)
theorem ziI{x C dx:Addr}{v:Value}{name:Str}{k:Nat}{tk:Tok}{R:Result→Shared→Prop}(X:P.c.K.In s.heap)(I:InstAt s.heap x (instObj C dx) C (some (dictOf ds k)))(hd:s.heap.get? dx=some (dictOf ds k))(hp:plainOver P.c.K C=true)(ht:takerIn P.c.K C name=some none)(hh:(clsIn P.c.K C).any (·.hasDict)=true)(hk:ds.any (·.refKey)=false)
  (hz:(putL name (PyData.keyHash P.c.w.params name) (.str name s.toks) v ds).length≤sizeLine) (q:R (.ok (.ret .none)) {s with heap:=s.heap.update dx (Obj.putName name (PyData.keyHash P.c.w.params name) (.str name s.toks) v),toks:=s.toks+1}):codeAny (model P.c.prog P.c.w) A (.call (.builtin "object.__setattr__") ⟨[.ref x, .str name tk,v], []⟩) R s:=by
 refine osa_open X I hp ht fun b=>?_;obtain ⟨cd,hc,hd'⟩:=any_some hh;refine wB (wP (wB (wB (wpAny_loadPart I.1 (wB ((looks_clsIn X hc).here ?_))))));rw [hd'];refine wP (a:=some dx) (wB (wP (wB ?_)));unfold nsSet;refine wB (wB (wpAny_askSetting (wP (wB (wpAny_mkText (wB (wpAny_loadPart hd ?_)))))))
 dsimp only
 rw [aRefKeyMayBeTheName_at,show (!ds.toArray.any (·.key.isStr name)&&ds.toArray.any (·.refKey))=false from by rw [show ds.toArray.any (·.refKey)=ds.any (·.refKey) from by rw [←Array.any_toList],hk,Bool.and_false]];refine wpAny_updatePart hd ?_;have pn:=putName_dict name (PyData.keyHash P.c.w.params name) (.str name s.toks) v ds k;have hD:(s.heap.update dx (Obj.putName name (PyData.keyHash P.c.w.params name) (.str name s.toks) v)).get? dx=some (dictOf (putL name (PyData.keyHash P.c.w.params name) (.str name s.toks) v ds) (putN name ds k)):=(Heap.get?_update_self _ hd (pn▸rfl)).trans (congrArg some pn);exact wB (wpAny_lookBehind hD (pastItsLine_dict (Nat.le_succ_of_le hz)) (wP q))
theorem ER.put(r:Rs (ER P.c.w R) es ds){x:AV}{v:Value}{t:Tok}(q:R x v):Rs (ER P.c.w R) (zkg es n x) (putL (za0 n) (PyData.keyHash P.c.w.params (za0 n)) (.str (za0 n) t) v ds):=by
 induction r with
 | nil=>exact .cons ⟨t,v,rfl,q⟩ .nil
 | @cons k _ es ds a b ih=>
  obtain ⟨tk,u,rfl,c⟩:=a;rw [zo6];unfold putL;rw [show Value.isStr (.str (za0 k.1) tk) (za0 n)=(k.1==n) from strOf_beq];induction k.1==n with
  | true=>exact .cons ⟨tk,v,rfl,q⟩ b
  | false=>exact .cons ⟨tk,u,rfl,c⟩ ih
theorem zgf{x:AV}{k:List Nat}:∀{es:List (List Nat×AV)},k∈(zkg es n x).map (·.1)→k∈es.map (·.1)∨k=n
 | [],h=> .inr (sM h)
 | e :: r,h=>by
  rw [zo6] at h;induction q:e.1==n with
  | true=>rw [q] at h;exact .inl h
  | false=>rw [q] at h;exact (cP h).elim (fun z=> .inl (z▸mS)) fun z=>(zgf z).imp (mM _) id
theorem ziB{x:AV}:∀{es:List (List Nat×AV)},((es.map (·.1)).Nodup→((zkg es n x).map (·.1)).Nodup)∧(zkg es n x).length≤es.length+1∧zkg es n x≠[]
 | []=>⟨fun X=>List.nodup_cons.mpr ⟨List.not_mem_nil,List.nodup_nil⟩,rL _,List.cons_ne_nil _ _⟩
 | e :: r=>by
  have ih:=ziB (x:=x) (es:=r);rw [zo6];induction q:e.1==n with
  | true=>exact ⟨id,Nat.le_succ _,List.cons_ne_nil _ _⟩
  | false=>exact ⟨fun h=>List.nodup_cons.mpr ⟨fun z=>(zgf z).elim (List.nodup_cons.mp h).1 fun z=>beq_eq_false_iff_ne.mp q z,ih.1 (List.nodup_cons.mp h).2⟩,uL ih.2.1,List.cons_ne_nil _ _⟩
theorem ziC{K:Unit→Hp→Prop}(H:zsY T o n v h K):J P (V2 o v) UU (fun x=>setAttr x.1 (za0 n) x.2) h K:=fun A E Q s W x G I kn=>H.go fun r e H=>H.go fun i e1 H=>H.go fun c H=>by
 obtain ⟨hr,q1⟩:=(AV.ref?_is e▸I.1:VR _ _ (.ref r) x.1);obtain ⟨ds,k,D⟩:=zdZ G.rel hr e1;have c:=aI c;have c':=aI c.1;obtain ⟨c1,c2,c3,c4,c5⟩:=P.S.cls _ (zbZ c'.1).2;have hp:=ER.put (n:=n) (t:=s.toks+1) D.r (zkw c.2 I.2);have z:=ziB (n:=n) (x:=v) (es:=i.2.2);have pn:=putName_dict (za0 n) (PyData.keyHash P.c.w.params (za0 n)) (.str (za0 n) (s.toks+1)) x.2 ds k;show wpAny _ A (setAttr x.1 (za0 n) x.2) Q E s;rw [q1];exact set_plain (Stat.here G.rel) D.at_ c2 (ziI (s:={s with toks:=s.toks+1}) (show P.c.K.In s.heap from Stat.here G.rel) D.at_ D.d c3 (by unfold takerIn;rw [P.S.attr _ n (zbZ c'.1).1];rfl) c4 (zfM (P:=P) (n:=n) D.r).2 (by rw [←hp.len];exact lT z.2.1 (lT (blt c'.2) (by decide)))
  (kn (.set G.rel (k:=i.1.2) (.dict i.2.1 (zkg i.2.2 n v)) D.lt D.live (fun X ob X e f=>absurd rfl (show FrL (dictOf ds k) from sI (D.d.symm.trans e)▸f).2) (fun X=>⟨_,(Heap.get?_update_self _ D.d (pn▸rfl)).trans (congrArg some pn),_,_,rfl,hp,z.1 D.nd,fun q=>absurd q z.2.2⟩) (fun b o eb hb=>(Heap.get?_update_ne _ _ _ _ hb).trans eb) rfl rfl (eL (upd_size ..).symm)) trivial H))
end
end Mn
end
section
open PySem PySem.W PyProof.Rows PySem.Calls PySem.SeqAt
namespace Mn
variable {T:Tabs} {W:Wd} {h:Hp} {s:Shared} {A:Around} {E:Value→Shared→Prop} {P:PM T}
inductive BM where
 | sJoin | sUpper | sLower | sReplace | sRstrip | sCount | lAppend | lPop | lCount | lReverse | dItems | iBitLength | tGet | rSearch | ePop
noncomputable def zsd(b:BM):String:=BM.casesOn (motive:=fun X=>String) b "str.join" "str.upper" "str.lower" "str.replace" "str.rstrip" "str.count" "list.append" "list.pop" "list.count" "list.reverse" "dict.items" "int.bit_length" "dict.get" "re.Pattern.search" "set.pop"
noncomputable def tabS:List (Str×BM):=[("join", .sJoin),("upper", .sUpper),("lower", .sLower),("replace", .sReplace),("rstrip", .sRstrip),("count", .sCount)]
noncomputable def tabL:List (Str×BM):=[("append", .lAppend),("pop", .lPop),("count", .lCount),("reverse", .lReverse)]
noncomputable def tabD:List (Str×BM):=[("items", .dItems)]
noncomputable def tabI:List (Str×BM):=[("bit_length", .iBitLength)]
noncomputable def tabT:List (Str×BM):=[("get", .tGet)]
noncomputable def tabR:List (Str×BM):=[("search", .rSearch)]
noncomputable def tabE:List (Str×BM):=[("pop", .ePop)]
set_option genCtorIdx false in
inductive MR where
 | bm (b:BM) (self:AV)
 | um (f:AV) (first:List AV)
def GR(W:Wd)(n:Nat)(m:MR)(r:Value×List Value):Prop:=MR.casesOn (motive:=fun X=>Prop) m (fun b self=>∃v,r=(.builtin (zsd b),[v])∧VR W n self v) fun f first=>VR W n f r.1∧Rs (VR W n) first r.2
def zci(T:Tabs)(o:AV)(x:Str)(h:Hp):Tr MR:= .al o.str? (fun X=> .os (tabS.lookup x) fun b=> .ret (.bm b o) h) (.al o.int? (fun X=> .os (tabI.lookup x) fun b=> .ret (.bm b o) h)
 (.al o.glob? (fun a=> .bs (T.intTab a).isSome (.os (tabT.lookup x) fun b=> .ret (.bm b o) h) (.rq (T.rx a).isSome (.os (tabR.lookup x) fun b=> .ret (.bm b o) h)))
 (.al (zaT h o) (fun X=> .os (tabL.lookup x) fun b=> .ret (.bm b o) h) (.os o.ref? fun r=> .al (h.at_ r).dict? (fun X=> .os (tabD.lookup x) fun b=> .ret (.bm b o) h) (.al (h.at_ r).set? (fun X=> .os (tabE.lookup x) fun b=> .ret (.bm b o) h)
  (.os (zlA h r) fun i=> .al (zdW i.2.2 x.cps.toList) (fun v=> .rq ((T.attrs i.1.1).contains x.cps.toList) (.ret (.um v []) h)) (.os (zaY T i.1.1 x.cps.toList) fun m=> .ret (.um (.glob m) [o]) h)))))))
def zo2(T:Tabs)(o:AV)(x:Str)(h:Hp)(K:MR→Hp→Prop):Prop:=(zci T o x h).sem K
def zuN(F:Str→BM→Prop)(l:List (Str×BM)):Prop:=List.rec (motive:=fun X=>Prop) True (fun p X q=>F p.1 p.2∧q) l
def Fact(ty:String)(x:Str)(b:BM):Prop:=Slot ty x (zsd b)∧typeOf (.builtin (zsd b))=pure (.type "method_descriptor")
theorem zbS{F:Str→BM→Prop}{x:Str}{b:BM}:∀{l:List (Str×BM)},zuN F l→l.lookup x=some b→F x b
 | [],_,e=>no e
 | p :: r,f,e=>by
  rw [List.lookup_cons] at e;induction q:x==p.1 with
  | true=>rw [q] at e;rw [eq_of_beq q];exact sI e▸f.1
  | false=>rw [q] at e;exact zbS f.2 e
theorem zby:PlainAttrs "re.Pattern" :=
 ⟨⟨"object.__getattribute__",by rw [typeLookup_type,builtinLookup_eq_fast];kernel_rfl,by decide +kernel⟩,by rw [typeLookup_type,builtinLookup_eq_fast];kernel_rfl⟩
theorem zbm:typeOf (.builtin "re.Pattern.search")=pure (.type "method_descriptor"):=by show builtinType _=_;rw [builtinType_eq_fast];kernel_rfl
theorem zaA:Slot "re.Pattern" "search" "re.Pattern.search" :=
 .of (owner:= "re.Pattern") (n:= "search") (by rw [typeLookup_type,builtinLookup_eq_fast];kernel_rfl) (by decide +kernel) (by decide +kernel) (by decide +kernel)
  (by first | exact .inl (by decide +kernel) | exact .inr (by decide +kernel)) (by rw [isSubtype_type];kernel_rfl)
section
variable {o:AV} {K:MR→Hp→Prop} {x:Str} {pl:Sem Bool}
theorem zon(x:Str):za0 x.cps.toList=x:=rfl
theorem Kn.bm{v:Value}{ty:String}{l:List (Str×BM)}{Q:Value×List Value→Shared→Prop}(k:Kn P GR K W h.nx s Q)(G:Go P W h s A)(hv:VR W h.nx o v)(H:opt (l.lookup x) fun b=>K (.bm b o) h)(pa:PlainAttrs ty)(f:zuN (Fact ty) l)(hT:s.TypeIs v ty)
  (hd:∀a,v = .ref a→∃o,s.heap.get? a=some o∧o.dict=none):wpAny (model P.c.prog P.c.w) A (getMethod v x pl) Q E s:=H.go fun b e H=>
 getMethod_builtin hT pa (zbS f e).1 (zbS f e).2 hd (k (.refl G.rel) (show GR _ _ (.bm b o) _ from ⟨v,rfl,hv⟩) H)
theorem zbg{a:Addr}{ob:Obj}(ho:s.heap.get? a=some ob)(hd:ob.dict=none):∀x,Value.ref a = .ref x→∃o,s.heap.get? x=some o∧o.dict=none:=fun X e=>Value.ref.inj e▸⟨_,ho,hd⟩
theorem zdh(tabB:∀a t,T.intTab a=some t→a∉P.c.tabs∧∃es k,P.c.B.get? a=some {cls:= .type "dict",data:= .dict es k})(rxB:∀a f,T.rx a=some f→a∉P.c.tabs∧∃vs,P.c.B.get? a=some {cls:= .type "re.Pattern",data:= .fields vs})
  (H:zo2 T o x h K):J P (V1 o) GR (fun v=>getMethod v x pl) h K:=fun A E Q s W v G I k=>by
 show wpAny _ A (getMethod v x pl) Q E s;have at_:∀{a:Addr} {ob:Obj},a∉P.c.tabs→P.c.B.get? a=some ob→s.heap.get? a=some ob:=fun ht e=>G.rel.amb.base _ _ e ht;refine H.go (fun z e H=>?_) fun X H=>H.go (fun i e H=>?_) fun X H=>H.go (fun a e H=>?_) fun X H=>H.go (fun p e H=>?_) fun X H=>H.go fun r e H=>?_
 ·exact (AV.str?_is e▸I:VR _ _ (.str z) v).elim fun t q=>k.bm G I H PySem.F.plainAttrs_str ⟨⟨PySem.F.slot_str_join,PySem.F.type_str_join⟩,⟨PySem.F.slot_str_upper,PySem.F.type_str_upper⟩,⟨PySem.F.slot_str_lower,PySem.F.type_str_lower⟩,⟨PySem.F.slot_str_replace,PySem.F.type_str_replace⟩,⟨PySem.F.slot_str_rstrip,PySem.F.type_str_rstrip⟩,⟨PySem.F.slot_str_count,PySem.F.type_str_count⟩,trivial⟩ (q▸typeIs_str _ _ _) fun a e=>nomatch q.symm.trans e
 ·exact (AV.int?_is e▸I:VR _ _ (.int i) v).elim fun t q=>k.bm G I H PySem.F.plainAttrs_int ⟨⟨PySem.F.slot_int_bit_length,PySem.F.type_int_bit_length⟩,trivial⟩ (q▸typeIs_int _ _ _) fun a e=>nomatch q.symm.trans e
 ·obtain rfl:v = .ref a:=(AV.glob?_is e▸I:VR W h.nx (.glob a) v)
  exact H.go (fun e H=>(iE e).elim fun t e=>(tabB a t e).elim fun ht q=>q.elim fun es q=>q.elim fun m q=>k.bm G I H PySem.F.plainAttrs_dict ⟨⟨PySem.F.slot_dict_get,PySem.F.type_dict_get⟩,trivial⟩ ⟨_,at_ ht q,rfl⟩ (zbg (at_ ht q) rfl))
   fun X H=>H.go fun e H=>(iE e).elim fun t e=>(rxB a t e).elim fun ht q=>q.elim fun m q=>k.bm G I H zby ⟨⟨zaA,zbm⟩,trivial⟩ ⟨_,at_ ht q,rfl⟩ (zbg (at_ ht q) rfl)
 ·obtain ⟨l,vs,m,rfl,q1,q2⟩:=zac G.rel I e
  exact k.bm G I H PySem.F.plainAttrs_list ⟨⟨PySem.F.slot_list_append,PySem.F.type_list_append⟩,⟨PySem.F.slot_list_pop,PySem.F.type_list_pop⟩,⟨PySem.F.slot_list_count,PySem.F.type_list_count⟩,⟨PySem.F.slot_list_reverse,PySem.F.type_list_reverse⟩,trivial⟩ ⟨_,q1,rfl⟩ (zbg q1 rfl)
 ·have I':VR W h.nx (.ref r) v:=AV.ref?_is e▸I
  obtain ⟨hr,rfl⟩:=I';refine H.go (fun p e H=>?_) fun X H=>H.go (fun p e H=>?_) fun X H=>H.go fun i e1 H=>?_
  ·exact (G.rel.obj hr (AO.dict?_is e) rfl).elim fun ob o=>o.2.elim fun ds q=>q.elim fun m q=>k.bm G I H PySem.F.plainAttrs_dict ⟨⟨PySem.F.slot_dict_items,PySem.F.type_dict_items⟩,trivial⟩ ⟨_,o.1,q.1▸rfl⟩ (zbg o.1 (q.1▸rfl))
  ·exact (G.rel.obj hr (AO.set?_is e) rfl).elim fun ob o=>o.2.elim fun ds q=>q.elim fun m q=>q.elim fun t q=>k.bm G I H PySem.F.plainAttrs_set ⟨⟨PySem.F.slot_set_pop,PySem.F.type_set_pop⟩,trivial⟩ ⟨_,o.1,q.1▸rfl⟩ (zbg o.1 (q.1▸rfl))
  ·have H:alt (zdW i.2.2 x.cps.toList) (fun v=>req ((T.attrs i.1.1).contains x.cps.toList) (K (.um v []) h)) (opt (zaY T i.1.1 x.cps.toList) fun m=>K (.um (.glob m) [o]) h):=H
   obtain ⟨ds,m,D⟩:=zdZ G.rel hr e1;rcases (zfM (P:=P) (n:=x.cps.toList) D.r).1 with ⟨v,u,g1,g2,g3⟩ | ⟨g1,g2⟩
   ·rw [g1] at H
    exact req.go (H:req _ _) fun a H=>(P.S.cls _ (zbZ a).2).elim fun c1 c2=>method_usual (Stat.here G.rel) D.at_ c1 c2.2.2.2 (P.S.attr _ _ (zbZ a).1) rfl (D.val G.rel a g2 (zeX g3) (k (.same G.rel rfl rfl rfl) (show GR _ _ (.um v []) _ from ⟨VR.up (zc6 i.2.1) g3, .nil⟩) H))
   ·rw [g1] at H
    exact opt.go (H:opt _ _) fun f a H=>(P.S.cls _ (ziY a)).elim fun c1 c2=>(P.S.meth _ _ f a).elim fun m1 m2=>method_fn (Stat.here G.rel) D.at_ c1 c2.2.2.2 m1 m2.2.1 (by show (lookIn _ _).map _=_;show (PySem.W.getL _ _).map _=_;rw [←zon x,g2];rfl) (k (.refl G.rel) (show GR _ _ (.um (.glob f) [o]) _ from ⟨rfl, .cons I .nil⟩) H)
end
noncomputable def a1(l:List AV):Option AV:=List.casesOn (motive:=fun X=>Option AV) l none fun x r=>List.casesOn (motive:=fun X=>Option AV) r (some x) fun X X=>none
noncomputable def a2(l:List AV):Option (AV×AV):=List.casesOn (motive:=fun X=>Option (AV×AV)) l none fun x r=>(a1 r).map fun y=>(x,y)
noncomputable def a3(l:List AV):Option (AV×AV×AV):=List.casesOn (motive:=fun X=>Option (AV×AV×AV)) l none fun x r=>(a2 r).map fun y=>(x,y)
def VS(as:List AV)(_:Around)(W:Wd)(n:Nat)(vs:List Value):Prop:=Rs (VR W n) as vs
def JV{T:Tabs}(P:PM T)(f:Value)(as:List AV)(h:Hp)(K:AV→Hp→Prop):Prop:=J P (VS as) VV (fun vs=>call f vs) h K
def za6(s:List Nat):List Nat:=(PySem.placed (za0 s) fun X c=>Unicode.upperOf c).toList
def za8(s:List Nat):List Nat:=(PySem.placed (za0 s) fun i X=>Unicode.lowerAt (za0 s).cps i).toList
def zaV(s:List Nat):List Nat:=if PySem.stripSame Unicode.isSpace false true (za0 s)=true then s else (PySem.stripped Unicode.isSpace false true (za0 s)).cps.toList
def zdy(s x:List Nat):Nat:=(Builtin.Str.occurrences (za0 s) (za0 x) 0 s.length (s.length+1)).length
noncomputable def zaM(sep:List Nat):List (List Nat)→List Nat
 | []=> []
 | [x]=>x
 | x :: r=>x++sep++zaM sep r
theorem zr0{sep x y:List Nat}{r:List (List Nat)}:zaM sep (x :: y :: r)=x++sep++zaM sep (y :: r):=rfl
noncomputable def zak(i:Int):Int:=if i=0 then 0 else (i.natAbs.log2:Int)+1
noncomputable def zdY(i:Int):Option (List Nat):=if i.natAbs.log2<1920 then some (Str.ofString (toString i)).cps.toList else none
def zbn(s:List Nat):Option Int:=if s.length≤640 then PySem.intText? (za0 s) else none
section
variable {as:List AV} {a b d:AV} {K:AV→Hp→Prop} {f:Value} {n:Nat} {vs:List Value} {z x:List Nat} {i j:Int}
theorem c0(H:as = [])(g:∀A E Q s W,Go P W h s A→Kn P VV K W h.nx s Q→wpAny (model P.c.prog P.c.w) A (call f []) Q E s):JV P f as h K:=fun A E Q s W vs G I k=>by
 subst H
 cases I with
 | nil=>exact g A E Q s W G k
theorem c1(e:a1 as=some a)(g:∀A E Q s W v,Go P W h s A→VR W h.nx a v→Kn P VV K W h.nx s Q→wpAny (model P.c.prog P.c.w) A (call f [v]) Q E s):JV P f as h K:=fun A E Q s W vs G I k=>by
 induction I using Rs.casesOn with
 | nil=>exact no e
 | cons p r=>induction r using Rs.casesOn with
  | nil=>exact g A E Q s W _ G (sI e▸p) k
  | cons X Z=>exact no e
theorem c2{p:AV×AV}(e:a2 as=some p)(g:∀A E Q s W v u,Go P W h s A→VR W h.nx p.1 v→VR W h.nx p.2 u→Kn P VV K W h.nx s Q→wpAny (model P.c.prog P.c.w) A (call f [v,u]) Q E s):JV P f as h K:=fun A E Q s W vs G I k=>by
 induction I using Rs.casesOn with
 | nil=>exact no e
 | cons p r=>induction r using Rs.casesOn with
  | nil=>exact no e
  | cons q r=>induction r using Rs.casesOn with
   | nil=>have e:=sI e;subst e;exact g A E Q s W _ _ G p q k
   | cons X Z=>exact no e
theorem c3{p:AV×AV×AV}(e:a3 as=some p)(g:∀A E Q s W v u w,Go P W h s A→VR W h.nx p.1 v→VR W h.nx p.2.1 u→VR W h.nx p.2.2 w→Kn P VV K W h.nx s Q→wpAny (model P.c.prog P.c.w) A (call f [v,u,w]) Q E s):JV P f as h K:=fun A E Q s W vs G I k=>by
 induction I using Rs.casesOn with
 | nil=>exact no e
 | cons p r=>induction r using Rs.casesOn with
  | nil=>exact no e
  | cons q r=>induction r using Rs.casesOn with
   | nil=>exact no e
   | cons t r=>induction r using Rs.casesOn with
    | nil=>have e:=sI e;subst e;exact g A E Q s W _ _ _ G p q t k
    | cons X Z=>exact no e
theorem Kn.made{Q:Value→Shared→Prop}(k:Kn P VV K W h.nx s Q)(G:Go P W h s A){y:Str}(hz:y.length≤sizeLine)(q:K (.str y.cps.toList) h):(Made.str y).post Q s:=⟨hz,k.str G (z:=y.cps.toList) q⟩
theorem zks(e:a1 as=some (.str z))(hl:Nat.ble (za6 z).length sizeL=true)(H:K (.str (za6 z)) h):JV P (.builtin "str.upper") as h K:=c1 e fun A E Q s W v G I k=>I.elim fun t e=>by
 have hz:(PySem.placed (za0 z) fun X c=>Unicode.upperOf c).size≤sizeLine:=ble hl;exact e▸call_gives PySem.F.slot_str_upper (typeIs_str _ _ _) PySem.F.entry_str_upper (PySem.F.args_str_upper_1 _) (gives_str_upper _ t (by simpa [Builtin.Str.tooLong] using hz)) (k.made G hz H)
theorem zlh(e:a1 as=some (.str z))(hl:Nat.ble (za8 z).length sizeL=true)(H:K (.str (za8 z)) h):JV P (.builtin "str.lower") as h K:=c1 e fun A E Q s W v G I k=>I.elim fun t e=>by
 have hz:(PySem.placed (za0 z) fun i X=>Unicode.lowerAt (za0 z).cps i).size≤sizeLine:=ble hl;exact e▸call_gives PySem.F.slot_str_lower (typeIs_str _ _ _) PySem.F.entry_str_lower (PySem.F.args_str_lower_1 _) (gives_str_lower _ t (by simpa [Builtin.Str.tooLong] using hz)) (k.made G hz H)
theorem zii(e:a1 as=some (.str z))(hl:Nat.ble z.length sizeL=true)(H:K (.str (zaV z)) h):JV P (.builtin "str.rstrip") as h K:=c1 e fun A E Q s W v G I k=>I.elim fun t e=>by
 refine e▸call_gives PySem.F.slot_str_rstrip (typeIs_str _ _ _) PySem.F.entry_str_rstrip (PySem.F.args_str_rstrip_1 _) (gives_str_rstrip _ t) ?_;unfold zaV at H
 split
 ·rename_i q;rw [if_pos q] at H;exact k.here G.rel (v:= .str z) ⟨t,rfl⟩ H (tk:=s.toks) (d:=s.drawn)
 ·rename_i q;rw [if_neg q] at H;exact k.made G (fits_stripped _ _ _ (by rw [za2];exact ble hl)) H
theorem zhu{y:List Nat}(e:a3 as=some (.str z, .str x, .str y))(hl:(Builtin.Str.occurrences (za0 z) (za0 x) 0 z.length (z.length+1)).isEmpty=true)(H:K (.str z) h):JV P (.builtin "str.replace") as h K:=c3 e fun A E Q s W v1 v2 v3 G I1 I2 I3 k=>I1.elim fun t e1=>I2.elim fun u e2=>I3.elim fun w e3=>by
 have hl:(Builtin.Str.occurrences (za0 z) (za0 x) 0 (za0 z).length ((za0 z).length+1)).isEmpty=true:=by rw [za2];exact hl
 rw [e1,e2,e3];refine call_gives PySem.F.slot_str_replace (typeIs_str _ _ _) PySem.F.entry_str_replace (PySem.F.args_str_replace_3 _ _ _) (gives_str_replace _ _ _ t u w (fun hf=>by rw [hl] at hf;cases hf)) ?_;rw [hl];exact k.here G.rel (v:= .str z) ⟨t,rfl⟩ H (tk:=s.toks) (d:=s.drawn)
theorem zih(e:a2 as=some (.str z, .str x))(H:K (.int (zdy z x)) h):JV P (.builtin "str.count") as h K:=c2 e fun A E Q s W v1 v2 G I1 I2 k=>I1.elim fun t e1=>I2.elim fun u e2=>by
 rw [e1,e2];refine call_gives PySem.F.slot_str_count (typeIs_str _ _ _) PySem.F.entry_str_count (PySem.F.args_str_count_2 _ _) (gives_str_count _ _ t u) ?_;rw [za2];exact k.int G H
theorem zpq(e:a1 as=some (.int i))(H:K (.int (zak i)) h):JV P (.builtin "int.bit_length") as h K:=c1 e fun A E Q s W v G I k=>I.elim fun t e=>by
 refine e▸call_gives PySem.F.slot_int_bit_length (typeIs_int _ _ _) PySem.F.entry_int_bit_length (PySem.F.args_int_bit_length_1 _) (AutoIntG2.int_bit_length_int_0 i t) ?_;have:((Builtin.Int.intBits i:Nat):Int)=zak i:=by
  unfold Builtin.Int.intBits zak;by_cases h:i=0
  ·rw [h];rfl
  ·rw [if_neg (by simpa using h),if_neg h];rfl
 exact k.int G (this▸H)
theorem zoF(e:a1 as=some (.str z))(hl:Nat.ble z.length sizeL=true)(H:K (.int z.length) h):JV P (.builtin "len") as h K:=c1 e fun A E Q s W v G I k=>I.elim fun t e=>e▸PySem.P.len_str (by rw [za2];exact Int.not_le.mpr (fit hl)) (by rw [za2];exact k.int G H)
theorem zoG{p:Bool×List AV}(e:a1 as=some a)(e1:zaT h a=some p)(hl:Nat.ble p.2.length sizeL=true)(H:K (.int p.2.length) h):JV P (.builtin "len") as h K:=c1 e fun A E Q s W v G I k=>(zac G.rel I e1).elim fun l q=>q.elim fun vs q=>q.elim fun m q=>q.1▸Calls.call_len_list ⟨_,q.2.1,rfl,_,rfl⟩ (q.2.2.size▸fit hl) (by rw [←q.2.2.size];exact k.int G H)
theorem zqC{c:Nat}(e:a1 as=some (.str [c]))(H:K (.int c) h):JV P (.builtin "ord") as h K:=c1 e fun A E Q s W v G I k=>I.elim fun t e=>e▸PySem.P.ord_of_char (k.int G H)
theorem zrv(e:a1 as=some (.int i))(h0:(decide (0≤i)&&decide (i≤1114111))=true)(H:K (.str [i.toNat]) h):JV P (.builtin "chr") as h K:=c1 e fun A E Q s W v G I k=>I.elim fun t e=>e▸PySem.P.chr_of_int (by simp only [Bool.and_eq_true,decide_eq_true_eq] at h0;simp;omega) (k.str G (z:=[i.toNat]) H)
theorem znL(e:a1 as=some (.int i))(hz:zdY i=some z)(H:K (.str z) h):JV P (.type "str") as h K:=c1 e fun A E Q s W v G I k=>I.elim fun t e=>by
 obtain ⟨g,q⟩:=Option.ite_none_right_eq_some.mp hz;exact e▸PySem.P.str_of_int g (k.str G (z:=(Str.ofString (toString i)).cps.toList) (sI q▸H))
theorem zoP(e:a1 as=some (.str z))(hz:zbn z=some i)(H:K (.int i) h):JV P (.type "int") as h K:=c1 e fun A E Q s W v G I k=>I.elim fun t e=>by
 obtain ⟨g,q⟩:=Option.ite_none_right_eq_some.mp hz;exact e▸PySem.W.KIN.call_text q (by rw [za2];exact g) (k.int G H)
theorem Kn.obj{Q:Value→Shared→Prop}(k:Kn P VV K W h.nx s Q)(G:Go P W h s A)(o:AO){ob:Obj}(hl:ob.isFreed=false)(hO:∀W',Le h.nx W (h.nx+1) W'→ObjIs P.c W' (h.nx+1) ob o)(q:K (.ref h.nx) (h.new o)):Q (.ref s.heap.objs.size) {s with heap:=s.heap.push ob}:=k.nu G.rel (tk:=s.toks) (d:=s.drawn) hl hO q
theorem ziz(e:a1 as=some (.int i))(H:K (.ref h.nx) (h.new (.range 0 i 1))):JV P (.type "range") as h K:=c1 e fun A E Q s W v G I k=>I.elim fun t e=>e▸call_range_1 (k.nu (o:= .range 0 i 1) G.rel rfl (fun X X=>⟨_,_,_,rfl⟩) H)
theorem ziy(e:a2 as=some (.int i, .int j))(H:K (.ref h.nx) (h.new (.range i j 1))):JV P (.type "range") as h K:=c2 e fun A E Q s W v1 v2 G I1 I2 k=>I1.elim fun t e1=>I2.elim fun u e2=>e1▸e2▸call_range_2 (k.nu (o:= .range i j 1) G.rel rfl (fun X X=>⟨_,_,_,rfl⟩) H)
theorem zix{l:Int}(e:a3 as=some (.int i, .int j, .int l))(hk:(l != 0 && !Builtin.divisionGoesByPylong (j-i) l)=true)(H:K (.ref h.nx) (h.new (.range i j l))):JV P (.type "range") as h K:=c3 e fun A E Q s W v1 v2 v3 G I1 I2 I3 k=>I1.elim fun t e1=>I2.elim fun u e2=>I3.elim fun w e3=>by
 have hk:=aI hk;exact e1▸e2▸e3▸call_range_3 (bne_iff_ne.mp hk.1) (k.obj G (.range i j l) rfl (fun X X=>⟨_,_,_,rfl⟩) H) (.inl (Bool.not_eq_true' _▸hk.2))
theorem zkt(e:a1 as=some (.str z))(H:K (.ty .str) h):JV P (.type "type") as h K:=c1 e fun A E Q s W v G I k=>I.elim fun t e=>e▸call_type_of (typeIs_str s _ t) (by decide) (k.here G.rel (v:= .ty .str) rfl H (tk:=s.toks) (d:=s.drawn))
theorem zku{p:Bool×List AV}(e:a1 as=some a)(e1:zaT h a=some p)(H:K (.ty .list) h):JV P (.type "type") as h K:=c1 e fun A E Q s W v G I k=>(zac G.rel I e1).elim fun l q=>q.elim fun vs q=>q.elim fun m q=>q.1▸call_type_of (Tx:= "list") ⟨_,q.2.1,rfl⟩ (by decide) (k.here G.rel (v:= .ty .list) rfl H (tk:=s.toks) (d:=s.drawn))
end
end Mn
end
section
open PySem PySem.W PyProof.Rows PySem.Calls PySem.SeqAt PySem.Builtin.Re
namespace Mn
variable {T:Tabs} {W:Wd} {h:Hp} {s:Shared} {A:Around} {E:Value→Shared→Prop} {as:List AV} {a b d:AV} {K:AV→Hp→Prop} {f:Value} {n:Nat} {vs:List Value} {z x:List Nat} {i j:Int} {r:Nat} {q:Bool×List AV} {p:AV×AV} {c:Cx} {P:PM T}
structure Tbl(T:Tabs)(c:Cx):Prop where
 sys:∃o,c.B.get? sysModules=some o
 tab:∀a t,T.intTab a=some t→a∉c.tabs∧a≠sysModules∧(∃es k,c.B.get? a=some {cls:= .type "dict",data:= .dict es k})∧∃f,c.B.MapOf (PySem.intKind c.prog c.w) a f∧∀i,(match t.find? (fun e=>e.1==i) with | some e=>∃u,f i=some (.str (za0 e.2) u) | none=>f i=none)
 rx:∀a f,T.rx a=some f→a∉c.tabs∧∃vs T items n o,c.B.get? a=some {cls:= .type "re.Pattern",data:= .fields vs}∧(∃u,vs.getD 6 .none = .int 0 u)∧vs.getD 5 .none = .ref T∧T∉c.tabs∧c.B.get? T=some o∧o.data = .seq items n∧
  Sre.ops[((items.map reRawOf).map (·.toNat)).getD 0 0]? = some .INFO∧((items.map reRawOf).map (·.toNat)).getD 2 0=4∧f=fun s=>s.any (Mine.rxHit ((items.map reRawOf).map (·.toNat)))
theorem Rs.back{α β:Type}{R:α→β→Prop}{xs:List α}{ys:List β}(h:Rs R xs ys)(n:Nat):Rs R xs.reverse ys.reverse:=by
 induction h with
 | nil=>exact .nil
 | cons a X ih=>rw [List.reverse_cons,List.reverse_cons];exact ih.app (.cons a .nil)
noncomputable def zc4(a c:Int)(n:Nat):List Int:=(List.range n).map fun (k:Nat)=>a+(k:Int)*c
theorem Step.frz(R:Rel c W h s){s':Shared}{l:Addr}{ob:Obj}(hO:s'.heap.get? l=some ob)(hl:s.heap.objs.size≤l)(hB:c.B.get? l=none)(hk:∀b o,s.heap.get? b=some o→s'.heap.get? b=some o)(hg:s'.gens=s.gens)(ho:s'.os=s.os)(hz:s.heap.objs.size≤s'.heap.objs.size)(hF:¬FrL ob:=by intro f;obtain ⟨X,Z,d⟩:=f.1;cases d):
  Step c h.nx W s ⟨W.pl,upd W.fz l (some ob)⟩ h s':=by
 have fz:∀b o,W.fz b=some o→b≠l:=fun b o e q=>nL (hZ (R.fz b o e).2.1) (q▸hl);have L:Le h.nx W h.nx ⟨W.pl,upd W.fz l (some ob)⟩:=⟨rL _,fun X X=>rfl,fun b o e=>(za9 (fz b o e)).trans e⟩;refine ⟨⟨fun k q u=>(R.at_ k q u).imp id fun ⟨o,h1,h2⟩=>⟨o,hk _ _ h1,h2.up L⟩,R.apart,fun b o e=>?_,R.amb.step (fun b o X=>hk b o) L.fz hg ho,fun b o e=>?_⟩,L,hz,fun X a b=>absurd a (nL b),fun b o e=>?_,fun b o e X X=>⟨o,hk b o e, .inl rfl⟩,fun b o e f=>⟨o,hk b o e,f⟩⟩
 ·by_cases q:b=l
  ·subst q
   obtain rfl:ob=o:=sI (upd_self.symm.trans e);exact ⟨hB,hO,fun k q u e=>nL ((R.at_ k q u).2.elim fun X z=>hZ z.1) (e▸hl)⟩
  ·have e:W.fz b=some o:=(za9 q).symm.trans e
   exact ⟨(R.fz b o e).1,hk _ _ (R.fz b o e).2.1,(R.fz b o e).2.2⟩
 ·by_cases q:b=l
  ·subst q
   obtain rfl:ob=o:=sI (upd_self.symm.trans e);exact hF
  ·exact R.fzn b o ((za9 q).symm.trans e)
 ·by_cases q:b=l
  ·exact .inr (.inl (q▸hl))
  ·exact .inl ((za9 q).symm.trans e)
theorem Rel.outside(R:Rel c W h s){l:Addr}(hl:s.heap.objs.size≤l):c.B.get? l=none:=by
 induction e:c.B.get? l with
 | none=>rfl
 | some o=>
  by_cases ht:l∈c.tabs
  ·exact absurd ((R.amb.tab _ ht).2.elim hZ fun ⟨X,Z,q,Y⟩=>hZ q) (Nat.not_lt_of_le hl)
  ·exact absurd (hZ (R.amb.base _ _ e ht)) (Nat.not_lt_of_le hl)
theorem Kn.tup{Q:Value→Shared→Prop}(k:Kn P VV K W h.nx s Q)(G:Go P W h s A){xs:List SV}{vs:Array Value}{m:Nat}(hv:Rs SR xs vs.toList)(q:K (.tup xs) h){tk:Nat}{d:Drawn}:Q (.ref s.heap.objs.size) {s with heap:=s.heap.push (zbp "tuple" vs m),toks:=tk,drawn:=d}:=
 k (.frz G.rel (ob:=zbp "tuple" vs m) (pZ _ rfl) (rL _) (G.rel.outside (rL _)) (fun X X e=>pS _ e) rfl rfl (by rw [Heap.size_push];exact Nat.le_succ _)) (show VR _ _ (.tup xs) _ from ⟨_,vs,m,rfl,upd_self,hv⟩) q
theorem Kn.newL{Q:Value→Shared→Prop}(k:Kn P VV K W h.nx s Q)(G:Go P W h s A){s':Shared}{l:Addr}{xs:List AV}{vs:Array Value}{m:Nat}(hv:Rs (VR W 0) xs vs.toList)(hO:s'.heap.get? l=some (zbp "list" vs m))(hl:s.heap.objs.size≤l)(hk:∀b o,s.heap.get? b=some o→s'.heap.get? b=some o)(hg:s'.gens=s.gens)(ho:s'.os=s.os)(hz:s.heap.objs.size≤s'.heap.objs.size)(q:nuL false xs h K):Q (.ref l) s':=
 k (.new G.rel (.list false xs) (fun X=>⟨_,hO,vs,m,rfl,VR.ups (Le.put h.nx W l).zero hv⟩) hl (G.rel.outside hl) hk hg ho hz) (show VR _ _ (.ref h.nx) _ from ⟨sS _,congrArg Value.ref upd_self.symm⟩) q
theorem c2r(e:a2 as=some p)(er:p.1.ref? = some r)(e1:(h.at_ r).list? = some q)(g:∀A E Q s W vs m u,Go P W h s A→r<h.nx→s.heap.get? (W.pl r)=some (zbp "list" vs m)→Rs (VR W (lim q.1 h.nx)) q.2 vs.toList→VR W h.nx p.2 u→Kn P VV K W h.nx s Q→wpAny (model P.c.prog P.c.w) A (call f [.ref (W.pl r),u]) Q E s):JV P f as h K:=c2 e fun A E Q s W v u G I1 I2 k=>by
 obtain ⟨hr,rfl⟩:=(AV.ref?_is er▸I1:VR _ _ (.ref r) v);exact (zbT G.rel hr e1).elim fun vs z=>z.elim fun m z=>g A E Q s W vs m u G hr z.1 z.2 I2 k
theorem zfn(e:a2 as=some p)(er:p.1.ref? = some r)(e1:(h.at_ r).list? = some q)(c:(Nat.ble q.2.length.succ sizeL&&(q.1 || tf p.2))=true)(H:K .none (h.set r (.list q.1 (q.2 ++ [p.2])))):JV P (.builtin "list.append") as h K:=c2r e er e1 fun A E Q s W vs m u G hr z1 z2 I k=>
 (aI c).elim fun c1 c2=>call_meets slot_list_append ⟨_,z1,rfl⟩ entry_list_append (args_list_append _ _) (AutoListH.list_append_list_val_0 _ vs m u (lO (z2.size▸ble c1))) ⟨z1,k (.seq G.rel hr e1 z1 (Array.toList_push▸z2.app (.cons (zkw c2 I) .nil))) (show VR _ _ .none _ from rfl) H⟩
theorem zo9{xs:List AV}{y:AV}{f:Bool}(e:a2 as=some p)(er:p.1.ref? = some r)(e1:(h.at_ r).list? = some (f,y :: xs))(ei:p.2.int? = some 0)(hl:Nat.ble xs.length.succ sizeL=true)(H:K y (h.set r (.list f xs))):JV P (.builtin "list.pop") as h K:=c2r e er e1 fun A E Q s W vs m u G hr z1 z2 I k=>(AV.int?_is ei▸I:VR _ _ (.int 0) u).elim fun t q=>by
 subst q;obtain ⟨l⟩:=vs
 cases z2 with
 | @cons _ v _ l p' q'=>
  have hz:l.length+1≤sizeLine:=q'.len▸ble hl;exact call_meets PySem.F.slot_list_pop ⟨_,z1,rfl⟩ PySem.F.entry_list_pop (PySem.F.args_list_pop_2 _ _) (MeetsSeq.list_pop_at _ ⟨v :: l⟩ m 0 t 0 v rfl (by unfold seqIndex?;simp) (by simp) hz) ⟨z1,k (.seq (g:=f) G.rel hr e1 z1 (by simpa [Array.eraseIdxIfInBounds] using q')) (show VR W h.nx y v from VR.up (zc6 f) p') H⟩
theorem zht(e:a1 as=some a)(er:a.ref? = some r)(e1:(h.at_ r).list? = some q)(hl:Nat.ble q.2.length sizeL=true)(H:K .none (h.set r (.list q.1 q.2.reverse))):JV P (.builtin "list.reverse") as h K:=c1 e fun A E Q s W v G I k=>by
 obtain ⟨hr,rfl⟩:=(AV.ref?_is er▸I:VR _ _ (.ref r) v);exact (zbT G.rel hr e1).elim fun vs z=>z.elim fun m z=>call_meets F.slot_list_reverse ⟨_,z.1,rfl⟩ F.entry_list_reverse (F.args_list_reverse_1 _) (AutoListH.list_reverse_list_0 _ vs m (z.2.size▸ble hl)) ⟨z.1,k (.seq G.rel hr e1 z.1 (by rw [Array.toList_reverse];exact z.2.back 0)) (show VR _ _ .none _ from rfl) H⟩
theorem zo0(e:a1 as=some a)(er:a.ref? = some r)(e1:(h.at_ r).list? = some q)(H:K (.ref h.nx) (h.new (.revit r ((q.2.length:Int)-1)))):JV P (.type "reversed") as h K:=c1 e fun A E Q s W v G I k=>by
 obtain ⟨hr,rfl⟩:=(AV.ref?_is er▸I:VR _ _ (.ref r) v);exact (zbT G.rel hr e1).elim fun vs z=>z.elim fun m z=>call_reversed_list ⟨_,z.1,rfl,_,rfl⟩ (by rw [←z.2.size];exact k.nu (o:= .revit r _) G.rel (tk:=s.toks) (d:=s.drawn) rfl (fun W' L=>⟨Nat.lt_succ_of_lt hr,rfl,by rw [L.pl r hr];rfl⟩) H)
theorem c1l(e:a1 as=some a)(e1:zaT h a=some q)(g:∀A E Q s W l vs m,Go P W h s A→VR W h.nx a (.ref l)→s.heap.get? l=some (zbp "list" vs m)→Rs (VR W (lim q.1 h.nx)) q.2 vs.toList→Kn P VV K W h.nx s Q→wpAny (model P.c.prog P.c.w) A (call f [.ref l]) Q E s):JV P f as h K:=c1 e fun A E Q s W v G I k=>
 (zac G.rel I e1).elim fun l z=>z.elim fun vs z=>z.elim fun m z=>by obtain ⟨rfl,z1,z2⟩:=z;exact g A E Q s W l vs m G I z1 z2 k
theorem zbC:∀{is:List Int} {vs:List Value},Rs (VR W n) (is.map .int) vs→IntsAre vs is
 | [],_,h=>by cases h;exact .nil
 | i :: r,_,h=>by
  cases h with
  | cons a q=>obtain ⟨t,rfl⟩:=a;exact .cons i t (zbC q)
theorem zka:∀{ss:List (List Nat)} {vs:List Value},Rs (VR W n) (ss.map .str) vs→∃l:List (Str×Tok),vs=strValues l∧l.map (·.1)=ss.map za0
 | [],_,h=>by cases h;exact ⟨[],rfl,rfl⟩
 | z :: ss,_,h=>by
  cases h with
  | cons a q=>obtain ⟨t,rfl⟩:=a;exact (zka q).elim fun l e=>⟨(za0 z,t) :: l,by rw [e.1];rfl,congrArg (za0 z :: ·) e.2⟩
theorem zdd(sep:List Nat):∀ss:List (List Nat),Str.join (za0 sep) (ss.map za0)=za0 (zaM sep ss)
 | []=>rfl
 | [x]=>rfl
 | x :: y :: r=>by
  have:=zdd sep (y :: r);refine (congrArg (za0 x++za0 sep ++ ·) this:Str.join (za0 sep) (za0 x :: za0 y :: r.map za0)=_).trans ?_;rw [zaI,zaI];rfl
theorem zoJ{ss:List (List Nat)}(e:a2 as=some p)(ez:p.1.str? = some z)(e1:zaT h p.2=some q)(es:q.2=ss.map .str)(hl:Nat.ble ((ss.map List.length).sum+ss.length*z.length) sizeL=true)(H:K (.str (zaM z ss)) h):JV P (.builtin "str.join") as h K:=c2 e fun A E Q s W v u G I1 I2 k=>(AV.str?_is ez▸I1:VR _ _ (.str z) v).elim fun t et=>(zac G.rel I2 e1).elim fun l w=>w.elim fun vs w=>w.elim fun m w=>by
 obtain ⟨rfl,z1,z2⟩:=w;rw [et];obtain ⟨l',hv,hm⟩:=zka (es▸z2);have hk:Builtin.Str.tooLong ((l'.map (·.1)).toArray.foldl (· + ·.length+(za0 z).length) 0)=false:=by
  rw [hm,StrLaws.joinTotal,za2,mN,lM];have:(fun x:Str=>x.length) ∘ za0=List.length:=funext za2;rw [this];have hl:_≤sizeLine:=ble hl
  simpa [Builtin.Str.tooLong] using hl
 refine call_meets PySem.F.slot_str_join (typeIs_str _ _ _) PySem.F.entry_str_join (PySem.F.args_str_join_2 _ _) (meets_str_join_list _ t l l' hk) ⟨⟨_,z1,rfl,m,by rw [←hv];rfl⟩,post_join l' ⟨joinFit_length hk,fun t' tk=>?_⟩⟩;have:Txt.join (za0 z) (l'.map (·.1))=za0 (zaM z ss):=by
  show Builtin.Str.glued _ _=_;rw [hm,StrLaws.glued_eq_join,zdd]
 rw [this];exact k.str G H (d:=s.drawn)
theorem zjt(e:a2 as=some (.int i, .int j))(c:(j != 0 && !Builtin.divisionGoesByPylong i j)=true)(H:K (.tup [.int (i.fdiv j), .int (i.fmod j)]) h):JV P (.builtin "divmod") as h K:=c2 e fun A E Q s W v1 v2 G I1 I2 k=>I1.elim fun t e1=>I2.elim fun u e2=>by
 have c:=aI c;exact e1▸e2▸PyProof.Rows.divmod_int (bne_iff_ne.mp c.1) (k.tup G (xs:= [.int (i.fdiv j), .int (i.fmod j)]) (vs:= #[_,_]) (.cons ⟨_,rfl⟩ (.cons ⟨_,rfl⟩ .nil)) H (d:=s.drawn)) (.inl (Bool.not_eq_true' _▸c.2))
theorem Kn.kept{Q:Value→Shared→Prop}(k:Kn P VV K W h.nx s Q)(G:Go P W h s A){v:AV}{val:Value}{h':Heap}{tk:Nat}(r:VR W h.nx v val)(hk:∀b o,s.heap.get? b=some o→h'.get? b=some o)(q:K v h)(hz:s.heap.objs.size≤h'.objs.size):Q val {s with heap:=h',toks:=tk}:=k (.keeps G.rel hk rfl rfl hz) r q
theorem sum_ok{is:List Int}(e:a1 as=some a)(e1:zaT h a=some q)(es:q.2=is.map .int)(H:K (.int is.sum) h):JV P (.builtin "sum") as h K:=c1l e e1 fun A E Q s W l vs m G X z1 z2 k=>by
 have hi:=zbC (es▸z2);obtain ⟨ys,ey⟩:=(show AllInts vs from by have:=hi.allInts;simpa using this).items;have hns:is=ys.toList.map (·.1):=by
  have:=hi.numsOf;rw [←this,←nums_intItems,←ey]
 subst ey;refine wpAny_sz (sum_intListG G.room.hand ⟨_,z1,rfl,_,rfl⟩ fun h' tk t' hk=>?_);rw [preSum_eq,List.take_of_length_le (by simp),←hns];exact k.kept G (v:= .int is.sum) ⟨_,rfl⟩ hk H
theorem zeM(xs:Array (Int×Tok))(i:Nat):numAt xs i=(xs.toList.map (·.1)).getD i 0:=by
 simp [numAt,List.getD_eq_getElem?_getD,List.getElem?_map]
theorem zcd:typeLookup (.type "method") "__call__" =pure (some (.builtin "method.__call__")):=by rw [typeLookup_type,builtinLookup_eq_fast];kernel_rfl
theorem zhI:entryFor table "iter" =some Builtin.«iter»:=entryFor_of_fast (by kernel_rfl)
theorem zhS(a b:Value):argsOk "iter" ⟨[a,b],[]⟩:=by unfold argsOk;kernel_rfl
theorem ziu(x y z:Int):0≤Builtin.Range.rangeSize x y z:=by
 unfold Builtin.Range.rangeSize
 split
 ·split
  ·have:=Int.ediv_nonneg (a:=y-x-1) (b:=z) (by lia) (by lia);exact li [] [_] 0x21180801046801041 this
  ·lia
 ·split
  ·have:=Int.ediv_nonneg (a:=x-y-1) (b:=-z) (by lia) (by lia);exact li [] [_] 0x21180801046801041 this
  ·lia
noncomputable def zg5(t:List (Int×List Nat))(i:Int):AV:=Option.casesOn (motive:=fun X=>AV) (t.find? fun e=>e.1==i) .none fun e=> .str e.2
section
variable {l:Addr}
theorem znG(B:Tbl T P.c){t:List (Int×List Nat)}(e:a2 as=some p)(el:p.1.glob? = some l)(et:T.intTab l=some t)(ei:p.2.int? = some i)(H:K (zg5 t i) h):JV P (.builtin "dict.get") as h K:=c2 e fun A E Q s W v u G I1 I2 k=>(AV.int?_is ei▸I2:VR _ _ (.int i) u).elim fun w ew=>by
 obtain rfl:v = .ref l:=(AV.glob?_is el▸I1:VR W h.nx (.glob l) v);obtain ⟨h1,h2,X,f,⟨o,es,ep,q1,q2,q3,q4,q5⟩,h4⟩:=B.tab l t et;have hM:s.heap.MapOf (PySem.intKind P.c.prog P.c.w) l f:=⟨o,es,ep,G.rel.amb.base _ _ q1 h1,q2,q3,q4,q5⟩;rw [ew];refine call_meetsIn PySem.F.slot_dict_get hM.typeIs PySem.F.entry_dict_get (PySem.F.args_dict_get_2 _ _) (meets_dict_get (PySem.intKind P.c.prog P.c.w) l (k:=i) (by simp [PySem.intKind,Value.isInt]) (beq_eq_false_iff_ne.mpr h2)) ⟨_,hM,?_⟩;have q:=h4 i;unfold zg5 at H;show Q _ _;induction e:t.find? fun e=>e.1==i with
 | none=>rw [e] at q H;rw [q];exact k.here G.rel (v:= .none) rfl H (tk:=s.toks+1) (d:=s.drawn)
 | some y=>rw [e] at q H;obtain ⟨v,q⟩:=q;rw [q];exact k.here G.rel (v:= .str y.2) ⟨v,rfl⟩ H (tk:=s.toks+1) (d:=s.drawn)
theorem search_ok(B:Tbl T P.c){f:List Nat→Bool}(e:a2 as=some p)(el:p.1.glob? = some l)(et:T.rx l=some f)(ez:p.2.str? = some z)(c:(!f z&&Nat.ble z.length sizeL)=true)(H:K .none h):JV P (.builtin "re.Pattern.search") as h K:=c2 e fun A E Q s W v u G I1 I2 k=>(AV.str?_is ez▸I2:VR _ _ (.str z) u).elim fun w ew=>by
 obtain rfl:v = .ref l:=(AV.glob?_is el▸I1:VR W h.nx (.glob l) v);obtain ⟨h1,vs,Ta,items,m,o,q1,q2,q3,q4,q5,q6,q7,q8,rfl⟩:=B.rx l f et;have c:=aI c;rw [ew];exact Mine.search_ok (G.rel.amb.base _ _ q1 h1) q2 q3 (G.rel.amb.base _ _ q5 q4) q6 q7 q8 (fun ch hc=>Bool.not_eq_true _▸List.any_eq_false.mp (Bool.not_eq_true' _▸c.1) ch hc) (lE (show z.length≤sizeL from ble c.2) (by decide)) (k.here G.rel (v:= .none) rfl H (tk:=s.toks) (d:=s.drawn))
theorem zlv{b:AV×Nat}(e:a2 as=some p)(er:p.1.ref? = some r)(e1:(h.at_ r).bound? = some b)(H:K (.ref h.nx) (h.new (.citer p.1 p.2 false))):JV P (.builtin "iter") as h K:=c2 e fun A E Q s W v u G I1 I2 k=>by
 obtain ⟨hr,rfl⟩:=(AV.ref?_is er▸I1:VR _ _ (.ref r) v);refine call_function_entry (by decide +kernel) (by decide +kernel) zhI (zhS _ _) ?_;unfold Builtin.«iter»;refine wB (m:=someArgs "iter" 1 2 _) (wpAny_of_eq (a:= [Value.ref (W.pl r),u]) (by first | rfl | kernel_rfl!) ?_)
 dsimp only
 have fin:wpAny (model P.c.prog P.c.w) A.in1 (do ret (←newFields "callable_iterator" [.ref (W.pl r),u, .bool false])) (fun fin s'=>∃v,fin = .done (.ret v)∧Q v s') E s:= 
  wB (wpAny_newObj_type (wP ⟨_,rfl,k.nu (o:= .citer p.1 p.2 false) G.rel (tk:=s.toks) (d:=s.drawn) rfl (fun W' L=>⟨_,_,rfl,I1.up L,I2.up L⟩) H⟩))
 obtain ⟨ob,k2,sv,rfl,k3⟩:=G.rel.obj hr (AO.bound?_is e1) rfl;refine wB (wpAny_specialOf (T:= "method") ⟨_,k2,rfl⟩ zcd ?_);rw [if_neg (by simp)];exact wB (wpAny_rule fin)
theorem zp3{v:AV}(e:a1 as=some v)(e1:zaT h v=some q)(H:K (.ref (h.nx+1)) ((h.new (.liter v 0)).new (.enumr h.nx 0))):JV P (.type "enumerate") as h K:=c1l e e1 fun A E Q s W l vs m G I z1 z2 k=>by
 refine call_enumerate_list ⟨_,z1,rfl,m,rfl⟩ fun h' i1 i2 hz hk=>?_;obtain ⟨o,o1,o2,o3⟩:=i2;have nf:o.isFreed=false:=Obj.isFreed_of_fields o3;have hsz:(s.heap.push o).objs.size=s.heap.objs.size+1:=Heap.size_push ..;have S₁:Step P.c h.nx W s (W.put h.nx s.heap.objs.size) (h.new (.liter v 0)) {s with heap:=s.heap.push o}:= .new G.rel (a:=s.heap.objs.size) (.liter v 0) (fun X=>⟨o,pZ _ nf,_,I.up (Le.put ..),o2,o3⟩) (rL _) (G.rel.outside (rL _)) (fun X X e=>pS _ e) rfl rfl
 refine k (S₁.trans (.new S₁.rel (a:=s.heap.objs.size+1) (.enumr h.nx 0) (fun X=>⟨_,i1, .none,Nat.lt_succ_of_lt (sS _),?_⟩) (hsz▸rL _) (S₁.rel.outside (hsz▸rL _)) (fun b ob q=>?_) rfl rfl (hsz▸hz▸Nat.le_succ _))) (show VR _ _ (.ref (h.nx+1)) _ from ⟨sS _,congrArg Value.ref upd_self.symm⟩) H
 ·rw [show ((W.put h.nx s.heap.objs.size).put (h.new (.liter v 0)).nx (s.heap.objs.size+1)).pl h.nx=s.heap.objs.size from (za9 (Nat.ne_of_lt (sS _))).trans upd_self];rfl
 ·by_cases hb:b=s.heap.objs.size
  ·subst hb
   obtain rfl:=sI ((pZ _ nf).symm.trans q);exact o1
  ·exact hk _ _ ((Heap.get?_push_ne _ _ _ hb).symm.trans q)
theorem zlk{i j l:Int}(e:a1 as=some a)(er:a.ref? = some r)(e1:h.at_ r = .range i j l)(c:(Builtin.Range.small i j l&&decide (Builtin.Range.rangeSize i j l≤sizeL))=true)(H:nuL false ((zc4 i l (Builtin.Range.rangeSize i j l).toNat).map AV.int) h K):JV P (.type "list") as h K:=c1 e fun A E Q s W v G I k=>by
 obtain ⟨hr,rfl⟩:=(AV.ref?_is er▸I:VR _ _ (.ref r) v);have c:=aI c;have hz:=oD c.2;have h0:=ziu i j l;obtain ⟨ob,p2,t,u,v,rfl⟩:=G.rel.obj hr e1 rfl;refine wpAny_sz (call_list_range (n:=(Builtin.Range.rangeSize i j l).toNat) G.room.hand p2 c.1 (Int.toNat_of_nonneg h0).symm (by unfold sizeL at hz;lia) fun h' tk acc c' hk hat hit=>?_);refine fun hz=>k.newL G (s':={s with heap:=h',toks:=tk}) (m:=c') ?_ hat (rL _) hk rfl rfl hz H
 have acc:=acc;have key:∀{f:Nat→Int} {acc:List Value} (n:Nat),acc.length=n→(∀k v,acc[k]? = some v→∃t,v=Value.int (f k) t)→Rs (VR W 0) (((List.range n).map f).map AV.int) acc:=by
  intro f acc;induction acc generalizing f with
  | nil=>rintro _ rfl _;exact .nil
  | cons y ys ih=>
   rintro _ rfl q
   rw [List.length_cons,List.range_succ_eq_map,mC,mC,show ((List.range ys.length).map Nat.succ).map f=(List.range ys.length).map (f ∘ Nat.succ) from mN];exact .cons (q 0 y rfl) (ih (f:=f ∘ Nat.succ) ys.length rfl fun k=>q (k+1))
 exact key _ hit.1 fun k v e=>hit.2 k v (List.getElem?_toArray.trans e)
end
end Mn
end
section
open PySem PySem.W PyProof.Rows PySem.Calls PySem.SeqAt
namespace Mn
variable {T:Tabs} {W:Wd} {h:Hp} {s:Shared} {A:Around} {E:Value→Shared→Prop} {as:List AV} {a b d:AV} {K:AV→Hp→Prop} {n:Nat} {r:Expr} {W₁:Wd} {h₁:Hp} {s₁:Shared} {env:Env} {fr:Fr} {pos pos':Pos} {x:Str} {l o i e t:Expr} {P:PM T}
open Mine (zav)
section
variable {f:Value} {vs:List Value} {z x:List Nat} {i j:Int} {r:Nat} {q:Bool×List AV} {p:AV×AV} {c:Cx} {l:Addr}
theorem zf8{W':Wd}{n:Nat}:ObjIs P.c W' n (zav #[] 0 (.fresh 0 0 (!P.c.w.params.followText "set-order"))) (.set []):=⟨#[],0,_,rfl,rfl,⟨[],List.Perm.refl _, .nil⟩,fun e he=>absurd he List.not_mem_nil,fun q=>by rw [q];rfl, .inr (oL _)⟩
theorem znV(e:as = [])(H:K (.ref h.nx) (h.new (.set []))):JV P (.type "set") as h K:=c0 e fun A E Q s W G k=>Mine.call_set_nil (k.nu (o:= .set []) G.rel (tk:=s.toks) (d:=s.drawn) rfl (fun X X=>zf8) H)
end
open Mine (zav)
theorem ztk{t:SetTable}(h:t.fits 1=true):(t.popped 0).fits 0=true∧(t.popped 0).led=t.led:=by
 obtain ⟨j,hj⟩:=Mine.size_one (show t.place.size=1 from by simp only [SetTable.fits,Bool.and_eq_true,beq_iff_eq] at h;exact h.1);obtain ⟨mask,place,dummies,finger,led,moves,plain⟩:=t
 dsimp only at hj
 subst hj;simp only [SetTable.fits,SetTable.fill,Bool.and_eq_true,beq_iff_eq,decide_eq_true_eq,List.size_toArray,List.length_cons,List.length_nil] at h;refine ⟨?_,rfl⟩;show ((SetTable.eraseAt #[j] 0).size==0&&decide ((SetTable.eraseAt #[j] 0).size+(SetTable.insertAt dummies (SetTable.below dummies j) j).size≤mask))=true;have:(SetTable.insertAt dummies (SetTable.below dummies j) j).size=dummies.size+1:=by simpa using (SetTable.insertAt_perm dummies (SetTable.below dummies j) j).length_eq
 rw [show SetTable.eraseAt #[j] 0 = #[] from by simp [SetTable.eraseAt],this];simp;exact lz2 0x78460000471a1800000041 h.2
section
variable {r:Nat} {S:Addr}
theorem zkW{h0:Int}{x:Value}{ep:Nat}{t:SetTable}{Q:Option Value→Shared→Prop}(ho:s.heap.get? S=some (zav #[(h0,x)] ep t))(hf:t.fits 1=true)
  (h:∀d,Q (some x) {s with heap:=s.heap.update S (Obj.putSet #[] (t.popped 0)),drawn:=d}):wpAny (model P.c.prog P.c.w) A (setPop S) Q E s:=by
 have hps:t.place.size=1:=by simp only [SetTable.fits,Bool.and_eq_true,beq_iff_eq] at hf;exact hf.1
 unfold setPop;refine wB (wpAny_setState_of (o:=zav #[(h0,x)] ep t) ho rfl hf ?_)
 dsimp only
 have hp:t.popPlace=some 0:=by
  unfold SetTable.popPlace;rw [if_neg (by rw [Array.isEmpty_iff_size_eq_zero];lia)]
  dsimp only
  split
  ·rename_i q;congr 1;lia
  ·rfl
 rw [hp]
 dsimp only
 have fin:∀d,wpAny (model P.c.prog P.c.w) A (do storeSet S (SetTable.eraseAt #[(h0,x)] 0) (t.popped 0);return some x) Q E {s with drawn:=d}:=fun d=>by
  rw [show SetTable.eraseAt #[(h0,x)] 0 = #[] from by simp [SetTable.eraseAt]];exact wB (wpAny_storeSet_of (o:=zav #[(h0,x)] ep t) (s:={s with drawn:=d}) ho rfl (wP (h d)) (oL _))
 refine wB (Mine.byText_ok ?_);induction hb:P.c.w.params.followText "set-order" with
 | true=>
  refine wpAny_bind (m:=(choose .order 1:Sem Nat)) (Mine.wpAny_choose (by simp) fun i hi d=>?_);obtain rfl:i=0:=by lia
  exact fin d
 | false=>
  split
  ·rename_i q
   exact absurd q (by show¬(false || (!t.plain&&decide ((#[(h0,x)]:Array (Int×Value)).size>1)))=true;simp)
  ·refine wB (m:=(if (!t.led&&decide ((#[(h0,x)]:Array (Int×Value)).size>1))=true then unsupported "set:maker-not-led" else pure ())) ?_
   refine Mine.wIfN (by simp) ?_;exact wP (wB (wP (fin s.drawn)))
theorem znT{x:SV}(e:a1 as=some a)(er:a.ref? = some r)(e1:(h.at_ r).set? = some [x])(H:K x.av (h.set r (.set []))):JV P (.builtin "set.pop") as h K:=c1 e fun A E Q s W v G I k=>by
 obtain ⟨hr,rfl⟩:=(AV.ref?_is er▸I:VR _ _ (.ref r) v);obtain ⟨ob,p2,es,ep,t,rfl,p3,⟨ys,p4,p5⟩,p6,p7,p8⟩:=G.rel.obj hr (AO.set?_is e1) rfl;obtain rfl:=List.perm_singleton.mp p4;have hl:=p5.len;obtain ⟨⟨h0,v⟩,rfl⟩:=Mine.size_one (show es.size=1 from by simpa using hl.symm);have hv:SR x v:=by cases p5 with | cons p q=>exact p
 obtain ⟨f1,f2⟩:=ztk p3;refine wpAny_call_entry PySem.F.slot_set_pop ⟨_,p2,rfl⟩ Mine.entry_set_pop ?_ (PySem.F.args_set_pop_1 _);unfold Builtin.«set.pop»;refine wB (m:=Builtin.Frozenset.noArgs "pop" _) ?_;unfold Builtin.Frozenset.noArgs
 dsimp only
 show wpAny _ _ (Builtin.Frozenset.addrOf (.ref (W.pl r))) _ _ _;unfold Builtin.Frozenset.addrOf;refine wP (wB (zkW p2 p3 fun d=>wP ⟨v,rfl,k (.set (s':={s with heap:=s.heap.update (W.pl r) (Obj.putSet #[] (t.popped 0)),drawn:=d}) G.rel (k:=r) (.set []) hr (AO.set?_is e1▸rfl) (fun X X q=>AO.noConfusion ((AO.set?_is e1).symm.trans q)) (fun X=>⟨_,Mine.store_at (es':= #[]) (t':=t.popped 0) p2, #[],ep+1,_,rfl,f1,⟨[],List.Perm.refl _, .nil⟩,fun e he=>absurd he List.not_mem_nil,fun q=>f2.trans (p7 q), .inr (oL _)⟩) (fun b o q hb=>(Heap.get?_update_other _ _ (Ne.symm hb)).trans q) rfl rfl (by rw [upd_size];exact rL _)) (show VR _ _ x.av _ from hv.vr) H⟩))
def JE(P:PM T)(fr:Fr)(e:Expr)(h:Hp)(K:AV→Hp→Prop):Prop:=J P (FI P fr) VV (fun env=>eval e env) h K
theorem zdV{env:Env}{fr:Fr}{Q:Bool→Shared→Prop}(R:Rel P.c W h s)(F:FrAt P.c W h.nx env fr)(ht:fr.tab.isSome=true)(q:∀b,Q b s):wpAny (model P.c.prog P.c.w) A (inMainModule env) Q E s:=by
 obtain ⟨⟨t,l,k⟩,e⟩:=iE ht;obtain ⟨X,Z,a,e1,e2,Y,I⟩:=F.tab t l k e;obtain ⟨o,vs,file,tf,flags,tg,inF,text,tt,op,q1,q2,q3,q4,X⟩:=I;unfold inMainModule;rw [e1];refine Mine.wIfN (by simp) ?_;refine wB (wpAny_fieldsOf (R.amb.base _ _ q1 e2) q2 ?_);rw [q4];exact wB (wpAny_askSetting (wP (q _)))
def setK(h:Hp)(K:AV→Hp→Prop)(v:AV)(h':Hp):Prop:=opt v.int? fun i=>opt (h'.at_ h.nx).set? fun xs=>req xs.isEmpty (K (.ref h.nx) (h'.set h.nx (.set [.int i])))
theorem znU{fr:Fr}{x:Str}{p pos:Pos}(ht:fr.tab.isSome=true)(H:JE P fr (.Name x p) (h.new (.set [])) (setK h K)):JE P fr (.Set [.Name x p] 0 pos) h K:=fun A E Q s W env G F k=>by
 show wpAny _ A (eval (.Set [.Name x p] 0 pos) env) Q E s;rw [arm_eval_Set];refine wB (wS (wB (zdV G.rel F.toFrAt ht fun b=>?_)));show wpAny _ _ (setDisplay .oneByOne b [(false,do let v←eval (.Name x p) env;standAt pos;pure v)]) _ _ _;unfold setDisplay
 dsimp only
 refine Mine.wIfN (by decide) ?_;refine wB (Mine.newSet_led ?_)
 dsimp only
 have S₁:Step P.c h.nx W s (W.put h.nx s.heap.objs.size) (h.new (.set [])) {s with heap:=s.heap.push (zav #[] 0 (.fresh 0 0 (!P.c.w.params.followText "set-order")))}:=
  .new G.rel (a:=s.heap.objs.size) (.set []) (fun X=>⟨_,pZ _ rfl,zf8⟩) (rL _) (G.rel.outside (rL _)) (fun X X e=>pS _ e) rfl rfl
 refine wB (wH (wB (m:=evalAll [do let v←eval (.Name x p) env;standAt pos;pure v]) ?_));show wpAny _ _ ((do let v←eval (.Name x p) env;standAt pos;pure v)>>=fun v=>holding [v] (pure [])>>=fun r=>pure (v :: r)) _ _ _;refine wB (wB (H _ _ _ _ _ env (G.step S₁ (W₀:=W)) (F.up S₁.le) fun W' v val h' s' S₂ V q=>q.go fun i e1 q=>q.go fun xs e2 q=>q.go fun e3 q=>?_));obtain ⟨tk,rfl⟩:=(AV.int?_is e1▸V:VR _ _ (.int i) val);refine wB (wS (wP (wB (wH (wP (wP (wB (wH ?_))))))));refine wB (m:=forIn [Value.int i tk] PUnit.unit (fun x X=>do let _←setAdd s.heap.objs.size x;pure (ForInStep.yield PUnit.unit))) ?_;rw [List.forIn_cons];have ll:h.nx<h'.nx:=S₂.le.le;have pl:W'.pl h.nx=s.heap.objs.size:=(S₂.le.pl h.nx (sS _)).trans upd_self;obtain ⟨ob,p2,es,ep,t,rfl,p3,⟨ys,p4,p5⟩,p6,p7,p8⟩:=S₂.rel.obj ll (AO.set?_is e2) rfl;obtain rfl:xs = []:=eI e3;obtain rfl:=List.perm_nil.mp p4;have he:es = #[]:=Array.size_eq_zero_iff.mp (by simpa using p5.len.symm);subst he;rw [pl] at p2;unfold setAdd;have hk:(PySem.intKind P.c.prog P.c.w).is i (.int i tk)=true:=by simp [PySem.intKind,Value.isInt]
 refine wB (wB (wH (wB ((PySem.intKind P.c.prog P.c.w).pyHash (k:=i) hk ?_))));refine Mine.addHashed_ok (s:={s' with toks:=s'.toks+1}) (knd:=PySem.intKind P.c.prog P.c.w) hk rfl p2 p3 (fun e he=>absurd he List.not_mem_nil) (by decide) (fun h0=>h0.elim fun e he=>absurd he.1 List.not_mem_nil) (fun h1 h'' es' ep' t' a1 a2 a3 a4 a5 a6=>?_)
 refine wP ?_
 dsimp only
 rw [List.forIn_nil];refine wP ?_;have e2':es' = #[(hashInt i, .int i tk)]:=Array.toList_inj.mp (List.perm_singleton.mp a3);subst e2';refine Mine.wIfN (by decide) ?_;refine wP (wB (m:=forIn ([]:List (Bool×Sem Value)) PUnit.unit _) ?_);rw [List.forIn_nil];exact wP (wP (wP (k ((S₁.trans S₂).trans (.set (s':={s' with heap:=h'',toks:=s'.toks+1}) S₂.rel (k:=h.nx) (.set [.int i]) ll (AO.set?_is e2▸rfl) (fun X X q=>AO.noConfusion ((AO.set?_is e2).symm.trans q)) (fun X=>pl▸⟨_,a2,_,ep',t',rfl,a4,⟨[.int i],List.Perm.refl _, .cons ⟨tk,rfl⟩ .nil⟩,fun e he=> .inl ⟨i,tk,sM he▸⟨rfl,rfl⟩⟩,fun q=>a5.trans (p7 q), .inr (rL _)⟩) (fun b o q hb=>(a1.2 b (pl▸hb)).trans q) rfl rfl (eL a1.1.symm))) (show VR _ _ (.ref h.nx) _ from ⟨ll,congrArg Value.ref pl.symm⟩) q)))
end
noncomputable def exE{α:Type}(a:α)(comp call sl st lst set:α)(e:Expr):α:=Expr.casesOn (motive_1:=fun X=>α) e (fun X X X=>a) (fun X X X=>a) (fun X X X X=>a) (fun X X X=>a) (fun X X X X=>a) (fun X X X X=>a) (fun X X X=>a) (fun X X X=>set) (fun X X X X=>comp) (fun X X X X=>comp) (fun X X X X X=>comp) (fun X X X X=>a) (fun X X=>a) (fun X X=>a) (fun X X=>a) (fun X X X X=>a) (fun X X X X=>call) (fun X X X X=>a) (fun X X=>a) (fun X X X=>a) (fun X X X=>a) (fun X X X=>a) (fun X X=>st) (fun X X=>a) (fun X X=>lst) (fun X X X=>a) (fun X X X X=>sl)
def zaR(e:Expr):Bool:=exE false true false false false false false e
noncomputable def zte(e:Expr):Bool:=Expr.casesOn (motive_1:=fun X=>Bool) e jP jP jQ jP jQ jQ jP jP jQ jQ (fun X X X X X=>false) jQ jO jO jO jQ jQ jQ jO jP jP jP jO jI jO jP jQ
def zbB(e:Expr):Bool:=Expr.casesOn (motive_1:=fun X=>Bool) e jP jP jQ jP jQ jQ jP jP jQ jQ (fun X X X X X=>false) jQ jO jO jO jQ (fun f as ks X=>zte f&&(as.isEmpty&&ks.isEmpty)) jQ jO jP jP jP jO jO jO jP jQ
def zua(e:Expr):Bool:=exE false false false true false false false e
def zu9(e:Expr):Bool:=exE false false false false true false false e
def zfI(e:Expr):Bool:=exE false false false false false false true e
noncomputable def ztL{α:Type}(f:α→Bool)(l:List α):Bool:=List.rec (motive:=fun X=>Bool) true (fun a X q=>f a&&q) l
def zat(es:List Expr):Bool:=ztL (fun e=>!zu9 e) es
theorem Go.on(G:Go P W h s A)(S:Step P.c n W s W₁ h₁ s₁):Go P W₁ h₁ s₁ A:=G.step (W₀:=W) S
theorem J.mono{ι α β:Type}{RI:Around→Wd→Nat→ι→Prop}{RR:Wd→Nat→α→β→Prop}{t:ι→Sem β}{K K':α→Hp→Prop}(H:J P RI RR t h K)(i:∀a h,K a h→K' a h):J P RI RR t h K':=fun A E Q s W x G I k=>H A E Q s W x G I fun X X X X X S V q=>k S V (i _ _ q)
theorem zb3(h:zgk x=true):(x==("__debug__" :Str))=false∧(x==("__classdict__" :Str))=false:=(aI h).imp (Bool.not_eq_true' _▸·) (Bool.not_eq_true' _▸·)
section
variable {op:Operator} {k:Nat}
theorem zrd(H:K .none h):JE P fr (.Constant .none k pos) h K:=fun A E Q s W env G F kn=>by
 show wpAny _ A (eval (.Constant .none k pos) env) Q E s;rw [eval_Constant];exact wP (kn.here G.rel (v:= .none) rfl H (tk:=s.toks) (d:=s.drawn))
theorem zrg{b:Bool}(H:K (.bool b) h):JE P fr (.Constant (.bool b) k pos) h K:=fun A E Q s W env G F kn=>by
 show wpAny _ A (eval (.Constant (.bool b) k pos) env) Q E s;rw [eval_Constant];exact wP (kn.here G.rel (v:= .bool b) rfl H (tk:=s.toks) (d:=s.drawn))
theorem ztq{b:Int}(H:K (.int b) h):JE P fr (.Constant (.int b) k pos) h K:=fun A E Q s W env G F kn=>by
 show wpAny _ A (eval (.Constant (.int b) k pos) env) Q E s;rw [eval_Constant];exact wpAny_mkInt (kn.int G H (d:=s.drawn))
theorem zp5{b:Str}(H:K (.str b.cps.toList) h):JE P fr (.Constant (.str b) k pos) h K:=fun A E Q s W env G F kn=>by
 show wpAny _ A (eval (.Constant (.str b) k pos) env) Q E s;rw [eval_Constant];exact wpAny_mkText (kn.str G (z:=b.cps.toList) H (d:=s.drawn))
theorem zn4(H:load (T:=T) fr x h K):JE P fr (.Name x pos) h K:=H.go fun hx X=>fun A E Q s W env G F kn=>wpAny_Name (zfC H A E Q s W env G F kn) (zb3 hx).1
theorem zts(H:JE P fr l h fun a h=>JE P fr r h fun b h=>bin op a b h K):JE P fr (.BinOp l op r pos) h K:=fun A E Q s W env G F kn=>
 wpAny_BinOp (H A E _ s W env G F fun X X va X X S₁ V₁ H=>H A E _ _ _ env (G.on S₁) (F.up S₁.le) fun X X vb X X S₂ V₂ H=>zrQ H A E Q _ _ (va,vb) ((G.on S₁).on S₂) ⟨V₁.up S₂.le,V₂⟩ ((kn.after S₁).after S₂))
theorem e_un{op:UnaryOp}(H:JE P fr e h fun a h=>un op a h K):JE P fr (.UnaryOp op e pos) h K:=fun A E Q s W env G F kn=>
 wpAny_UnaryOp (H A E _ s W env G F fun X X va X X S₁ V₁ H=>zss H A E Q _ _ va (G.on S₁) V₁ (kn.after S₁))
def JT(P:PM T)(fr:Fr)(e:Expr)(h:Hp)(K:Bool→Hp→Prop):Prop:=J P (FI P fr) BB (fun env=>isTrue e env (eval e env)) h K
def JTs(P:PM T)(fr:Fr)(op:BoolOp)(es:List Expr)(h:Hp)(K:Bool→Hp→Prop):Prop:=J P (FI P fr) BB (fun env=>allTrue op es env) h K
def JB'(P:PM T)(fr:Fr)(op:BoolOp)(es:List Expr)(h:Hp)(K:AV→Hp→Prop):Prop:=∀pos,J P (FI P fr) VV (fun env=>boolOp pos op (evalEach es env)) h K
def Vs(W:Wd)(n:Nat)(xs:List AV)(vs:List Value):Prop:=Rs (VR W n) xs vs
def JEs(P:PM T)(fr:Fr)(es:List Expr)(h:Hp)(K:List AV→Hp→Prop):Prop:=J P (FI P fr) Vs (fun env=>spliced (es.map fun e=>(false,eval e env))) h K
def JO(P:PM T)(fr:Fr)(e:Option Expr)(h:Hp)(K:AV→Hp→Prop):Prop:=J P (FI P fr) VV (fun env=>valueOrNone (evalOpt e env)) h K
theorem e_if{t:Expr}(H:JT P fr t h fun c h=>Br c (JE P fr l h K) (JE P fr r h K)):JE P fr (.IfExp t l r pos) h K:=fun A E Q s W env G F kn=>
 wpAny_IfExp (H A E _ s W env G F fun X c b X X S V H=>by
  obtain rfl:b=c:=V;exact H.go (fun e H'=>by subst e;exact H' A E Q _ _ env (G.on S) (F.up S.le) (kn.after S)) fun e H'=>by subst e;exact H' A E Q _ _ env (G.on S) (F.up S.le) (kn.after S))
theorem few{α:Type}{xs:List AV}{vs:List Value}{R:AV→Value→Prop}(r:Rs R xs vs)(h:Nat.blt xs.length 1000=true):vs.length≤sizeLine:=r.len▸lT (lO (blt h)) (by decide)
theorem za5{pos:Pos}:∀{es:List Expr},zat es=true→backTo pos (starEach es env)=es.map fun e=>(false,eval e env)
 | [],_=>rfl
 | e :: es,h=>by
  have ih:zat es=true→_:=za5 (pos:=pos) (es:=es);have q:=aI (show (!zu9 e&&zat es)=true from h);induction e using cE <;> first | exact nb q.1 | exact congrArg (_ :: ·) (ih q.2)
theorem zf6{K:List AV→Hp→Prop}(H:K [] h):JEs P fr [] h K:=fun A E Q s W env G F kn=>wP (kn (.refl G.rel) .nil H)
theorem zcO{K:List AV→Hp→Prop}{es:List Expr}(H:JE P fr e h fun v h=>JEs P fr es h fun vs h=>K (v :: vs) h):JEs P fr (e :: es) h K:=fun A E Q s W env G F kn=>
 wB (H A E _ s W env G F fun X X X X X S₁ V₁ H=>wB (wP (wB (wH (H A E _ _ _ env (G.on S₁) (F.up S₁.le) fun X X X X X S₂ V₂ H=>wP (kn (S₁.trans S₂) (.cons (V₁.up S₂.le) V₂) H))))))
def tfs(vs:List AV):Bool:=ztL tf vs
noncomputable def sv?(a:AV):Option SV:=AV.casesOn (motive:=fun X=>Option SV) a (some .none) (fun b=>some (.bool b)) (fun i=>some (.int i)) (fun s=>some (.str s)) jA jA jA jA jA jA none
def svs(l:List AV):Option (List SV):=List.rec (motive:=fun X=>Option (List SV)) (some []) (fun a X q=>(sv? a).bind fun x=>q.map (x :: ·)) l
theorem zqd{a:AV}{x:SV}{v:Value}(e:sv? a=some x)(r:VR W n a v):SR x v:=by
 induction a <;> first | exact no e | (obtain rfl:=sI e;exact r)
theorem zqc{l:List AV}{vs:List Value}(r:Rs (VR W n) l vs):∀{xs:List SV},svs l=some xs→Rs SR xs vs:=by
 induction r with
 | nil=>exact fun e=>sI e▸ .nil
 | cons a X ih=>exact fun e=>(bE e).elim fun x q=>(jE q.2).elim fun y q'=>q'.2▸ .cons (zqd q.1 a) (ih q'.1)
theorem zq6{l:List AV}{vs:List Value}(r:Rs (VR W n) l vs)(e:tfs l=true):Rs (VR W 0) l vs:=by
 induction r with
 | nil=>exact .nil
 | @cons a v l vs p _ ih=>exact (aI (show (tf a&&tfs l)=true from e)).elim fun a b=> .cons (zkw (f:=false) a p) (ih b)
def zu7(vs:List AV)(h:Hp):Tr AV:= .rq (Nat.blt vs.length 1000) (.Br (tfs vs) (nuT false vs h) (nuT true vs h))
def mkL(vs:List AV)(h:Hp)(K:AV→Hp→Prop):Prop:=(zu7 vs h).sem K
theorem zre{es:List Expr}(hs:zat es=true)(H:JEs P fr es h fun vs h=>mkL vs h K):JE P fr (.List es pos) h K:=fun A E Q s W env G F kn=>by
 show wpAny _ A (eval (.List es pos) env) Q E s;rw [arm_eval_List,za5 hs];exact wB (wS (wB (H A E _ s W env G F fun W' vs val h' s' S V H=>H.go fun hl H=>wpAny_newList (H.go (fun e H=>(kn.after S).list (G.on S) (f:=false) (zq6 V e) H (tk:=s'.toks) (d:=s'.drawn)) fun e H=>(kn.after S).list (G.on S) (f:=true) V H (tk:=s'.toks) (d:=s'.drawn)) (few (α:=AV) V hl))))
theorem zp4{es:List Expr}(hs:zat es=true)(H:JEs P fr es h fun vs h=>req (Nat.blt vs.length 1000) (opt (svs vs) fun xs=>K (.tup xs) h)):JE P fr (.Tuple es k pos) h K:=fun A E Q s W env G F kn=>by
 show wpAny _ A (eval (.Tuple es k pos) env) Q E s;rw [arm_eval_Tuple,za5 hs];exact wB (wS (wB (H A E _ s W env G F fun W' vs val h' s' S V H=>H.go fun hl H=>H.go fun xs e H=>wpAny_newTuple ((kn.after S).tup (G.on S) (zqc V e) H (tk:=s'.toks) (d:=s'.drawn)) (few (α:=AV) V hl))))
theorem ztr{op:CmpOp}(hn:behindInMarks op r=false)(H:JE P fr l h fun a h=>JE P fr r h fun b h=>cmp T op a b h K):JE P fr (.Compare l [op] [r] pos) h K:=fun A E Q s W env G F kn=>
 wpAny_Compare1 (H A E _ s W env G F fun X X va X X S₁ V₁ H=>H A E _ _ _ env (G.on S₁) (F.up S₁.le) fun X X vb X X S₂ V₂ H=>znc H A E Q _ _ (va,vb) ((G.on S₁).on S₂) ⟨V₁.up S₂.le,V₂⟩ ((kn.after S₁).after S₂)) hn
theorem zfU{w:Sem Value}{x:Str}:zbB o=false→attributeBase o x env w=w:=by
 induction o using cE with
 | Call f as ks=>
  induction f using cE with
  | Name=>induction as using cL with
   | nil=>induction ks using cL with
    | nil=>exact fun h=>nb h.symm
    | cons=>exact fun (_:false=false)=>(rfl:w=w)
   | cons=>exact fun (_:false=false)=>(rfl:w=w)
  | _=>exact fun (_:false=false)=>(rfl:w=w)
 | _=>exact fun (_:false=false)=>(rfl:w=w)
theorem zax{x:Str}(h:zbB o=false):attributeBase o x env (eval o env)=eval o env:=zfU h
theorem zrh(hb:zbB o=false)(H:JE P fr o h fun ov h=>zue T ov x.cps.toList h K):JE P fr (.Attribute o x pos) h K:=fun A E Q s W env G F kn=>by
 show wpAny _ A (eval (.Attribute o x pos) env) Q E s;rw [arm_eval_Attribute,zax hb];exact wB (H A E _ s W env G F fun X X X X X S₁ V₁ H=>wB (wS (wB (wH (zji H _ A E _ _ _ _ (G.on S₁) V₁ fun X X X X X S V H=>wB (wpAny_letTemporaryGo (wP (kn (S₁.trans S) V H))))))))
theorem zmx{slice:Expr}{o i:Value}{Q:Value→Shared→Prop}(h:wpAny (model P.c.prog P.c.w) A (getItem o i) Q E s):wpAny (model P.c.prog P.c.w) A (subscripted slice false o i) Q E s:=by
 have z:=wpAny_operate' (vs:= [o,i]) h;induction slice using cE with
 | Slice l u k p=>
  induction k using Option.casesOn with
  | none=>exact wpAny_operate' h
  | some=>exact z
 | _=>exact z
theorem zrf(H:JE P fr o h fun a h=>JE P fr i h fun b h=>zu8 a b h K):JE P fr (.Subscript o i pos) h K:=fun A E Q s W env G F kn=>by
 show wpAny _ A (eval (.Subscript o i pos) env) Q E s;rw [arm_eval_Subscript];refine wB (H A E _ s W env G F fun X X va X X S₁ V₁ H=>wB (wH (H A E _ _ _ env (G.on S₁) (F.up S₁.le) fun X X vb X X S₂ V₂ H=>wB (wS (wB ?_)))));have z:=zj8 H A E (fun v s'=>wpAny (model P.c.prog P.c.w) A (do letTemporaryGo o va v;pure v) Q E s') _ _ va vb ((G.on S₁).on S₂) (V₁.up S₂.le) V₂ fun X X X X X S V H=>wB (wpAny_letTemporaryGo (wP (kn ((S₁.trans S₂).trans S) V H)));exact z.1 _ (wB (zmx z.2))
theorem zqE(H:K .none h):JO P fr none h K:=fun A E Q s W env G F kn=>wP (kn (v:= .none) (.refl G.rel) rfl H)
theorem zqD(H:JE P fr e h K):JO P fr (some e) h K:=fun A E Q s W env G F kn=>by
 show wpAny _ A (valueOrNone (evalOpt (some e) env)) Q E s;rw [arm_evalOpt_some];exact H A E Q s W env G F kn
theorem zp6{lo hi st:Option Expr}(H:JE P fr o h fun ov h=>JO P fr lo h fun l h=>JO P fr hi h fun u h=>JO P fr st h fun k h=>cut ov l u k h K):JE P fr (.Subscript o (.Slice lo hi st pos') pos) h K:=fun A E Q s W env G F kn=>by
 show wpAny _ A (eval (.Subscript o (.Slice lo hi st pos') pos) env) Q E s;rw [arm_eval_Subscript];refine wB (H A E _ s W env G F fun X X va X X S₁ V₁ H=>?_);rw [arm_eval_Slice];refine wB (wH (wB (H A E _ _ _ env (G.on S₁) (F.up S₁.le) fun X X xl X X S₂ V₂ H=>wB (wH (H A E _ _ _ env ((G.on S₁).on S₂) (F.up (S₁.trans S₂).le) fun X X xu X X S₃ V₃ H=>wB (wH (H A E _ _ _ env (((G.on S₁).on S₂).on S₃) (F.up ((S₁.trans S₂).trans S₃).le) fun W' X xk h' s₄ S₄ V₄ H=>wpAny_newObj_type ?_)))))));have U:=(S₂.trans S₃).trans S₄;have S':Step P.c h'.nx W' s₄ W' h' {s₄ with heap:=s₄.heap.push {cls:= .type "slice",data:= .fields #[xl,xu,xk]}}:= .keeps S₄.rel (fun b o e=>pS _ e) rfl rfl
 have z:=zrq H A E (fun v s'=>wpAny (model P.c.prog P.c.w) A (do letTemporaryGo o va v;pure v) Q E s') _ _ va xl xu xk _ ((((((G.on S₁).on S₂).on S₃).on S₄)).on S') (V₁.up U.le) (V₂.up (S₃.trans S₄).le) (V₃.up S₄.le) V₄ (Heap.IsSliceOf.new s₄.heap xl xu xk) fun X X X X X S V H=>wB (wpAny_letTemporaryGo (wP (kn (((S₁.trans U).trans S').trans S) V H)));exact wB (wS (wB (z.1 _ (wB (zmx z.2)))))
end
set_option genCtorIdx false in
inductive Fl where
 | next | brk | cont
 | ret (v:AV)
def FF(W:Wd)(n:Nat)(x:Fl)(f:Flow):Prop:=Fl.casesOn (motive:=fun X=>Prop) x (f = .next) (f = .brk) (f = .cont) fun v=>∃u,f = .ret u∧VR W n v u
section
variable {K:Bool→Hp→Prop} {op:BoolOp} {es:List Expr}
theorem zsD(H:JT P fr e h fun b h=>K (!b) h):JT P fr (.UnaryOp .Not e pos) h K:=fun A E Q s W env G F kn=>
 wpAny_isTrue_Not (H A E _ s W env G F fun X X X X X S V H=>kn S (congrArg _ V) H)
theorem t_if(H:JT P fr t h fun c h=>Br c (JT P fr l h K) (JT P fr r h K)):JT P fr (.IfExp t l r pos) h K:=fun A E Q s W env G F kn=>by
 show wpAny _ A (isTrue (.IfExp t l r pos) env (eval (.IfExp t l r pos) env)) Q E s;rw [arm_isTrue_IfExp];exact wB (H A E _ s W env G F fun X c b X X S V H=>by
  obtain rfl:b=c:=V;exact H.go (fun e H'=>by subst e;exact H' A E Q _ _ env (G.on S) (F.up S.le) (kn.after S)) fun e H'=>by subst e;exact H' A E Q _ _ env (G.on S) (F.up S.le) (kn.after S))
theorem t_op(H:JTs P fr op es h K):JT P fr (.BoolOp op es pos) h K:=fun A E Q s W env G F kn=>wpAny_isTrue_BoolOp (H A E Q s W env G F kn)
noncomputable def zr1(op:BoolOp):Bool:=BoolOp.casesOn (motive:=fun X=>Bool) op true false
theorem zsE(H:K (zr1 op) h):JTs P fr op [] h K:=fun A E Q s W env G F kn=>by
 show wpAny _ A (allTrue op [] env) Q E s;rw [arm_allTrue_nil];induction op <;> exact wP (kn (v:=_) (.refl G.rel) rfl H)
def ztK(op:BoolOp)(b:Bool)(p:Prop)(k:Bool→Prop):Prop:=BoolOp.casesOn (motive:=fun X=>Prop) op (Br b p (k false)) (Br b (k true) p)
theorem zqb(H:JT P fr e h fun b h=>ztK op b (JTs P fr op es h K) fun b=>K b h):JTs P fr op (e :: es) h K:=fun A E Q s W env G F kn=>by
 show wpAny _ A (allTrue op (e :: es) env) Q E s;rw [arm_allTrue_cons];refine wB (H A E _ s W env G F fun X c b X X S V H=>?_);obtain rfl:b=c:=V;induction op with
 | And=>exact Br.go H (fun e H'=>by subst e;exact H' A E Q _ _ env (G.on S) (F.up S.le) (kn.after S)) fun e H'=>by subst e;exact wP (kn (v:=false) S rfl H')
 | Or=>exact Br.go H (fun e H'=>by subst e;exact wP (kn (v:=true) S rfl H')) fun e H'=>by subst e;exact H' A E Q _ _ env (G.on S) (F.up S.le) (kn.after S)
theorem zsF{op:CmpOp}(hn:behindInMarks op r=false)(H:JE P fr l h fun a h=>JE P fr r h fun b h=>cmp T op a b h fun c h=>zq2 c h K):JT P fr (.Compare l [op] [r] pos) h K:=fun A E Q s W env G F kn=>
 wpAny_isTrue_Compare1 (H A E _ s W env G F fun X X va X X S₁ V₁ H=>H A E _ _ _ env (G.on S₁) (F.up S₁.le) fun X X vb X X S₂ V₂ H=>znc H A E _ _ _ (va,vb) ((G.on S₁).on S₂) ⟨V₁.up S₂.le,V₂⟩ fun X X vc X X S₃ V₃ H=>zcf H A E Q _ _ vc (((G.on S₁).on S₂).on S₃) V₃ (((kn.after S₁).after S₂).after S₃)) hn
theorem zhh(he:∀env whole,isTrue e env whole=(do let v←whole;standAt e.pos;holding [v] (truthy v)))(H:JE P fr e h fun v h=>zq2 v h K):JT P fr e h K:=fun A E Q s W env G F kn=>
 wpAny_isTrue_value (H A E _ s W env G F fun X X va X X S₁ V₁ H=>zcf H A E Q _ _ va (G.on S₁) V₁ (kn.after S₁)) (he _ _)
end
theorem ztF{op:BoolOp}(H:JE P fr e h K):JB' P fr op [e] h K:=fun pos A E Q s W env G F kn=>H A E Q s W env G F kn
theorem ztG{es:List Expr}(H:JE P fr e h fun v h=>J P (V1 v) BB (fun v=>truthy v) h fun t h=>Br t (JB' P fr .And (l :: es) h K) (K v h)):JB' P fr .And (e :: l :: es) h K:=fun pos A E Q s W env G F kn=>by
 show wpAny _ A (boolOp pos .And (eval e env :: eval l env :: evalEach es env)) Q E s;refine wB (m:=eval e env) (H A E _ s W env G F fun X X va X X S₁ V₁ H=>wB (wS (wB (wH (H A E _ _ _ va (G.on S₁) V₁ fun X c b X X S₂ V H=>?_)))));obtain rfl:b=c:=V;exact H.go (fun e H'=>by subst e;exact H' pos A E Q _ _ env ((G.on S₁).on S₂) (F.up (S₁.trans S₂).le) ((kn.after S₁).after S₂)) fun e H'=>by subst e;exact wP (kn (S₁.trans S₂) (V₁.up S₂.le) H')
theorem e_op{op:BoolOp}{es:List Expr}(H:JB' P fr op es h K):JE P fr (.BoolOp op es pos) h K:=fun A E Q s W env G F kn=>by
 show wpAny _ A (eval (.BoolOp op es pos) env) Q E s;rw [arm_eval_BoolOp];exact H pos A E Q s W env G F kn
def JS(P:PM T)(fr:Fr)(st:Stmt)(h:Hp)(K:Fl→Hp→Prop):Prop:=J P (FI P fr) FF (fun env=>exec st env) h K
def JSs(P:PM T)(fr:Fr)(st:List Stmt)(h:Hp)(K:Fl→Hp→Prop):Prop:=J P (FI P fr) FF (fun env=>execs st env) h K
def JA'(P:PM T)(fr:Fr)(t:Expr)(v:AV)(h:Hp)(K:Unit→Hp→Prop):Prop:=J P (FV P fr v) UU (fun p=>assign t p.1 p.2) h K
section
variable {K:Fl→Hp→Prop} {st:Stmt} {b d:List Stmt}
theorem zsl(H:K .next h):JSs P fr [] h K:=fun A E Q s W env G F kn=>wpAny_execs_nil (kn (v:= .next) (.refl G.rel) rfl H)
def zsB(P:PM T)(fr:Fr)(r:List Stmt)(K:Fl→Hp→Prop)(x:Fl)(h:Hp):Prop:=Fl.casesOn (motive:=fun X=>Prop) x (JSs P fr r h K) (K .brk h) (K .cont h) fun v=>K (.ret v) h
theorem zpS(H:JS P fr st h (zsB P fr b K)):JSs P fr (st :: b) h K:=fun A E Q s W env G F kn=>by
 show wpAny _ A (execs (st :: b) env) Q E s;rw [arm_execs_cons];refine wB (H A E _ s W env G F fun X x f X X S V H=>?_);induction x with
 | next=>obtain rfl:f = .next:=V;exact H A E Q _ _ env (G.on S) (F.up S.le) (kn.after S)
 | brk=>obtain rfl:f = .brk:=V;exact wP (kn (v:= .brk) S rfl H)
 | cont=>obtain rfl:f = .cont:=V;exact wP (kn (v:= .cont) S rfl H)
 | ret v=>exact V.elim fun u e=>e.1▸wP (kn (v:= .ret v) S ⟨u,rfl,e.2⟩ H)
theorem zbe{t:Option Expr}{l:Nat}(h:zaR e=false):swapsWith e t l env=pure false:=by
 revert h;induction e using cE <;> first | exact fun (_:false=false)=>(rfl:(pure false:Sem Bool)=pure false) | exact fun h=>nb h.symm
theorem zlP{v:Value}{Q:Flow→Shared→Prop}(q:Q .next s):wpAny (model P.c.prog P.c.w) A (dropValue (.List [] pos) pos v) Q E s:=by
 induction v with
 | ref=>exact wB (wS (wB (wpAny_runValue (codeAny_builtin PySem.entry_let_go (show wpAny _ _ (ret .none) _ _ s from wP (wP q))))))
 | _=>exact wP (a:=Flow.next) q
set_option smartUnfolding false in
theorem zjq{v:Value}{Q:Flow→Shared→Prop}(q:Q .next s):wpAny (model P.c.prog P.c.w) A (dropValue e pos v) Q E s:=by
 have z:=zlP (P:=P) (A:=A) (E:=E) (v:=v) (pos:=pos) q;induction e using cE with
 | Name=>exact wP (a:=Flow.next) q
 | _=>exact z
theorem zpQ(hc:zaR e=false)(H:JE P fr e h fun X h=>K .next h):JS P fr (.Expr e pos) h K:=fun A E Q s W env G F kn=>by
 show wpAny _ A (exec (.Expr e pos) env) Q E s;rw [exec_Expr env e pos (by unfold interactive;rw [F.kind];rfl) (zbe hc)];exact wB (wS (wB (H A E _ s W env G F fun X X X X X S X H=>zjq (kn (v:= .next) S rfl H))))
theorem zpP(H:K .next h):JS P fr (.Pass pos) h K:=fun A E Q s W env G F kn=>wpAny_Pass (kn (v:= .next) (.refl G.rel) rfl H)
theorem zso(H:K .brk h):JS P fr (.Break pos) h K:=fun A E Q s W env G F kn=>wpAny_Break (kn (v:= .brk) (.refl G.rel) rfl H)
theorem zpR(H:K .cont h):JS P fr (.Continue pos) h K:=fun A E Q s W env G F kn=>wpAny_Continue (kn (v:= .cont) (.refl G.rel) rfl H)
theorem zsk(H:JE P fr e h fun v h=>K (.ret v) h):JS P fr (.Return (some e) pos) h K:=fun A E Q s W env G F kn=>
 wpAny_Return_some (H A E _ s W env G F fun X v u X X S V H=>kn (v:= .ret v) S ⟨u,rfl,V⟩ H)
theorem zpO(H:K (.ret .none) h):JS P fr (.Return none pos) h K:=fun A E Q s W env G F kn=>wpAny_Return_none (kn (v:= .ret .none) (.refl G.rel) ⟨.none,rfl,rfl⟩ H)
theorem x_if(H:JT P fr t h fun c h=>Br c (JSs P fr b h K) (JSs P fr d h K)):JS P fr (.If t b d pos) h K:=fun A E Q s W env G F kn=>
 wpAny_If (H A E _ s W env G F fun X c b X X S V H=>by
  obtain rfl:b=c:=V;exact H.go (fun e H'=>by subst e;exact H' A E Q _ _ env (G.on S) (F.up S.le) (kn.after S)) fun e H'=>by subst e;exact H' A E Q _ _ env (G.on S) (F.up S.le) (kn.after S))
theorem zkp{m:Option Expr}(H:JT P fr t h fun c h=>Rq c (K .next h)):JS P fr (.Assert t m pos) h K:=fun A E Q s W env G F kn=>
 wpAny_Assert_holds (H A E _ s W env G F fun X c b X X S V H=>H.go fun e H=>⟨V.trans e,kn (v:= .next) S rfl H⟩)
theorem zk9{v:AV}{K:Unit→Hp→Prop}(H:zhl fr x v h K):JA' P fr (.Name x pos) v h K:=fun A E Q s W p G I kn=>wpAny_assign_Name (zcg H A E Q s W p G ⟨I.1.toFrAt,I.2⟩ kn)
theorem zrU{v:AV}{K:Unit→Hp→Prop}(H:JE P fr o h fun ov h=>zsY T ov x.cps.toList v h K):JA' P fr (.Attribute o x pos) v h K:=fun A E Q s W p G I kn=>by
 show wpAny _ A (assign (.Attribute o x pos) p.1 p.2) Q E s;rw [arm_assign_Attribute];exact wB (wH (H A E _ s W p.1 G I.1 fun X X ov X X S₁ V₁ H=>wB (wS (wB (wH (ziC H A E _ _ _ (ov,p.2) (G.on S₁) ⟨V₁,I.2.up S₁.le⟩ fun X X X X X S V H=>wpAny_release' (kn (v:=()) (S₁.trans S) V H)))))))
theorem zrT{v:AV}{K:Unit→Hp→Prop}(H:JE P fr o h fun ov h=>JE P fr i h fun iv h=>zfu ov iv v h K):JA' P fr (.Subscript o i pos) v h K:=fun A E Q s W p G I kn=>by
 show wpAny _ A (assign (.Subscript o i pos) p.1 p.2) Q E s;rw [arm_assign_Subscript];exact wB (wH (H A E _ s W p.1 G I.1 fun X X ov X X S₁ V₁ H=>wB (wH (H A E _ _ _ p.1 (G.on S₁) (I.1.up S₁.le) fun X X iv X X S₂ V₂ H=>wB (wS (wB (wH (zdj H A E _ _ _ (ov,iv,p.2) ((G.on S₁).on S₂) ⟨V₁.up S₂.le,V₂,I.2.up (S₁.trans S₂).le⟩ fun X X X X X S V H=>wpAny_release' (kn (v:=()) ((S₁.trans S₂).trans S) V H)))))))))
theorem zpT{op:Operator}(H:J P (FI P fr) VV (fun env=>loadName env x) h fun a h=>JE P fr e h fun b h=>aug op a b h fun c h=>zhl fr x c h fun X h=>K .next h):JS P fr (.AugAssign (.Name x pos') op e pos) h K:=fun A E Q s W env G F kn=>
 wpAny_AugAssign_Name (H A E _ s W env G F fun X X va X X S₁ V₁ H=>H A E _ _ _ env (G.on S₁) (F.up S₁.le) fun X X vb X X S₂ V₂ H=>zjZ H A E _ _ _ (va,vb) ((G.on S₁).on S₂) ⟨V₁.up S₂.le,V₂⟩ fun X X vc X X S₃ V₃ H=>zcg H A E _ _ _ (env,vc) (((G.on S₁).on S₂).on S₃) ⟨F.toFrAt.up ((S₁.trans S₂).trans S₃).le,V₃⟩ fun X X X X X S V H=>kn (v:= .next) (((S₁.trans S₂).trans S₃).trans S) rfl H)
theorem zpV{op:Operator}(H:JE P fr o h fun ov h=>JA P ov x.cps.toList h fun a h=>JE P fr e h fun b h=>aug op a b h fun c h=>zsY T ov x.cps.toList c h fun X h=>K .next h):JS P fr (.AugAssign (.Attribute o x pos') op e pos) h K:=fun A E Q s W env G F kn=>
 wpAny_AugAssign_AttributeAny (H A E _ s W env G F fun X X vo X X S₀ V₀ H=>H _ A E _ _ _ vo (G.on S₀) V₀ fun X X va X X S₁ V₁ H=>H A E _ _ _ env ((G.on S₀).on S₁) (F.up (S₀.trans S₁).le) fun X X vb X X S₂ V₂ H=>zjZ H A E _ _ _ (va,vb) (((G.on S₀).on S₁).on S₂) ⟨V₁.up S₂.le,V₂⟩ fun X X vc X X S₃ V₃ H=>ziC H A E _ _ _ (vo,vc) ((((G.on S₀).on S₁).on S₂).on S₃) ⟨V₀.up ((S₁.trans S₂).trans S₃).le,V₃⟩ fun X X X X X S V H=>kn (v:= .next) (S₀.trans (((S₁.trans S₂).trans S₃).trans S)) rfl H)
theorem zpU{op:Operator}(hi:zua i=false)(H:JE P fr o h fun ov h=>JE P fr i h fun iv h=>JI P ov iv h fun a h=>JE P fr e h fun b h=>aug op a b h fun c h=>zfu ov iv c h fun X h=>K .next h):JS P fr (.AugAssign (.Subscript o i pos') op e pos) h K:=fun A E Q s W env G F kn=>
 wpAny_AugAssign_SubscriptAny (H A E _ s W env G F fun X X vo X X S₀ V₀ H=>H A E _ _ _ env (G.on S₀) (F.up S₀.le) fun X X vi X X S' V' H=>(H A E _ _ _ vo vi ((G.on S₀).on S') (V₀.up S'.le) V' fun X X va X X S₁ V₁ H=>H A E _ _ _ env (((G.on S₀).on S').on S₁) (F.up ((S₀.trans S').trans S₁).le) fun X X vb X X S₂ V₂ H=>zjZ H A E _ _ _ (va,vb) ((((G.on S₀).on S').on S₁).on S₂) ⟨V₁.up S₂.le,V₂⟩ fun X X vc X X S₃ V₃ H=>zdj H A E _ _ _ (vo,vi,vc) (((((G.on S₀).on S').on S₁).on S₂).on S₃) ⟨V₀.up (S'.trans ((S₁.trans S₂).trans S₃)).le,V'.up ((S₁.trans S₂).trans S₃).le,V₃⟩ fun X X X X X S V H=>kn (v:= .next) ((S₀.trans S').trans (((S₁.trans S₂).trans S₃).trans S)) rfl H).2)
  (fun ov iv new=>by induction i using cE <;> first | rfl | exact nb hi.symm)
end
theorem znC{α:Type}{f:Nat→α}{n:Nat}{a b:α}:upd (upd f n a) n b=upd f n b:=funext fun k=>by
 unfold upd;induction Nat.beq k n <;> rfl
theorem Hp.set_set{h:Hp}{n:Nat}{a b:AO}:(h.set n a).set n b=h.set n b:=congrArg (Hp.mk _) znC
section
variable {p q:Pos} {y:Str}
theorem Step.view'{c:Cx}(R:Rel c W h s){L:Nat}(hL:L<h.nx){l l':List (Str×AV)}(e:(h.at_ L).frame? = some l')(i:∀z w,l.lookup z=some w→l'.lookup z=some w):Step c h.nx W s W (h.set L (.frame l)) s:=
 .set R (k:=L) (.frame l) hL (AO.frame?_is e▸rfl) (fun X o X e f=>⟨o,e,f⟩) (fun X=>(R.obj hL (AO.frame?_is e) rfl).elim fun ob o=>⟨ob,o.1,o.2.imp fun X=> .imp fun X=> .imp_right (.imp_right fun z x v q=>z x v (i x v q))⟩) (fun X X e X=>e) rfl rfl (rL _)
def zsL(fr:Fr)(x y:Str)(h:Hp)(u:AV×AV):Tr Unit:= .os (fr.sc.names.lookup x) fun k=> .os (fr.sc.names.lookup y) fun m=>byKind (α:=Tr Unit) k (byKind (α:=Tr Unit) m
 (.rq (!(x==y)) (.os (h.at_ fr.L).frame? fun l=> .ret () (h.set fr.L (.frame ((y,u.2) :: (x,u.1) :: l))))) .no .no .no) .no .no .no
def zbM(fr:Fr)(x y:Str)(v:AV)(h:Hp):Tr Unit:= .al v.tup? (fun xs=> .os (a2 (xs.map SV.av)) (zsL fr x y h)) (.os (zaT h v) fun q=> .os (a2 q.2) (zsL fr x y h))
def zg7(fr:Fr)(x y:Str)(v:AV)(h:Hp)(K:Unit→Hp→Prop):Prop:=(zbM fr x y v h).sem K
theorem sr2{xs:List AV}{vs:List Value}{n:Nat}(r:Rs (VR W n) xs vs){u:AV×AV}(e:a2 xs=some u):∃v w,vs = [v,w]∧VR W n u.1 v∧VR W n u.2 w:=by
 induction r using Rs.casesOn with
 | nil=>exact no e
 | cons a r=>induction r using Rs.casesOn with
  | nil=>exact no e
  | cons b r=>induction r using Rs.casesOn with
   | nil=>obtain rfl:=sI e;exact ⟨_,_,rfl,a,b⟩
   | cons X Z=>exact no e
theorem zmt{v:AV}{K:Unit→Hp→Prop}(H:zg7 fr x y v h K){c:Cx}(R:Rel c W h s){val:Value}(V:VR W h.nx v val):
  ∃p a T va vb m,(zsL fr x y h p).sem K∧val = .ref a∧s.heap.get? a=some (zbp T #[va,vb] m)∧(T= "tuple" ∨T= "list")∧VR W h.nx p.1 va∧VR W h.nx p.2 vb:=H.go (fun xs e1 H=>H.go fun u e2 H=>by
 obtain ⟨a,vs,m,rfl,h1,h2⟩:=(AV.tup?_is e1▸V:VR W h.nx (.tup xs) val);have h2:Rs (VR W h.nx) (xs.map SV.av) vs.toList:=h2.rec .nil fun a X k=> .cons a.vr k;obtain ⟨va,vb,hv,hu⟩:=sr2 h2 e2;obtain ⟨vs⟩:=vs;obtain rfl:vs = [va,vb]:=hv;exact ⟨u,a,_,va,vb,m,H,rfl,(R.fz _ _ h1).2.1, .inl rfl,hu⟩) fun X H=>H.go fun q e1 H=>H.go fun u e2 H=>by
 obtain ⟨a,vs,m,rfl,h1,h2⟩:=zac R V e1;obtain ⟨va,vb,hv,hu⟩:=sr2 (VR.ups (zc6 q.1) h2) e2;obtain ⟨vs⟩:=vs;obtain rfl:vs = [va,vb]:=hv;exact ⟨u,a,_,va,vb,m,H,rfl,h1, .inr rfl,hu⟩
theorem ztY{a:Addr}{T:String}{m:Nat}{u w:Value}(hh:A.handled=none)(e:s.heap.get? a=some (zbp T #[u,w] m))(hT:T= "tuple" ∨T= "list"){Q:List Value→Shared→Prop}(hQ:∀h',Heap.ExtBut s.heap.objs.size s.heap h'→s.heap.objs.size≤h'.objs.size→Q [u,w] {s with heap:=h'}):wpAny (model P.c.prog P.c.w) A (unpackItems (.ref a) 2 none) Q E s:=by
 rcases hT with rfl | rfl
 ·exact wpAny_sz (wpAny_unpackItems_tuple (items:= #[u,w]) hh ⟨_,e,rfl,m,rfl⟩ hQ)
 ·exact wpAny_sz (kun_itemsOf (items:= #[u,w]) hh ⟨_,e,rfl,m,rfl⟩ hQ)
theorem zgw{k:NameKind}{K:Unit→Hp→Prop}{a:Tr Unit}{o:Option NameKind}(e:o=some k)(h:(byKind (α:=Tr Unit) k a .no .no .no).sem K):o=some .local∧a.sem K:=by
 induction k with
 | «local» =>exact ⟨e,h⟩
 | _=>exact False.elim h
theorem zex{v:AV}{K:Unit→Hp→Prop}(H:zg7 fr x y v h K)(G:Go P W h s A)(F:FrAt P.c W h.nx env fr){val:Value}(V:VR W h.nx v val){Q:Unit→Shared→Prop}(kn:Kn P UU K W h.nx s Q):
  ∃a T m u w,val = .ref a∧s.heap.get? a=some (zbp T #[u,w] m)∧(T= "tuple" ∨T= "list")∧∀s₁,Step P.c h.nx W s W h s₁→
   wpAny (model P.c.prog P.c.w) A (storeName env x u) (fun X s=>wpAny (model P.c.prog P.c.w) A (storeName env y w) Q E s) E s₁∧
   wpAny (model P.c.prog P.c.w) A (storeName env y w) (fun X s=>wpAny (model P.c.prog P.c.w) A (storeName env x u) Q E s) E s₁:=by
 obtain ⟨u,a,T,va,vb,m,H,rfl,e2,hT,hu⟩:=zmt H G.rel V;refine ⟨a,T,m,va,vb,rfl,e2,hT,fun s₁ S=>?_⟩;revert H;refine fun H=>H.go fun k e3 H=>H.go fun m e4 H=>?_;obtain ⟨e3,H⟩:=zgw e3 H;obtain ⟨e4,H⟩:=zgw e4 H;refine H.go fun ne H=>H.go fun l e5 H=>?_;have ne:∀{z:Str},(z==x)=true→(z==y)=false:=fun a=>by
  have ne:(x==y)=false:=Bool.not_eq_true' _▸ne;rw [eq_of_beq a];exact ne
 refine ⟨?_,?_⟩
 ·refine zay (fr:=fr) (v:=u.1) (K:=fun X h'=>h'=h.set fr.L (.frame ((x,u.1) :: l))) e3 (zcb e5 rfl) A E _ s₁ W (env,va) (G.on S) ⟨F,hu.1⟩ fun W₁ X X h₁ s₂ S₁ X eh=>?_
  subst eh;exact zay (fr:=fr) (v:=u.2) (K:=K) e4 (zcb (a:=(x,u.1) :: l) (congrArg AO.frame? upd_self) (by rw [Hp.set_set];exact H)) A E Q s₂ W₁ (env,vb) ((G.on S).on S₁) ⟨F.up S₁.le,VR.up S₁.le hu.2⟩ (kn.after (S.trans S₁))
 ·refine zay (fr:=fr) (v:=u.2) (K:=fun X h'=>h'=h.set fr.L (.frame ((y,u.2) :: l))) e4 (zcb e5 rfl) A E _ s₁ W (env,vb) (G.on S) ⟨F,hu.2⟩ fun W₁ X X h₁ s₂ S₁ X eh=>?_
  subst eh;refine zay (fr:=fr) (v:=u.1) (K:=fun X h'=>h'=h.set fr.L (.frame ((x,u.1) :: (y,u.2) :: l))) e3 (zcb (a:=(y,u.2) :: l) (congrArg AO.frame? upd_self) Hp.set_set) A E _ s₂ W₁ (env,va) ((G.on S).on S₁) ⟨F.up S₁.le,VR.up S₁.le hu.1⟩ fun W₂ X X h₂ s₃ S₂ X eh=>?_;subst eh;refine kn (v:=()) ((S.trans (S₁.trans S₂)).trans (.view' S₂.rel (L:=fr.L) (l:=(y,u.2) :: (x,u.1) :: l) (lL (F.up S.le).loc.1 (S₁.trans S₂).le.le) (congrArg AO.frame? upd_self) fun z w q=>?_)) trivial (by rw [Hp.set_set];exact H);induction q':z==x with
  | false=>
   induction q'':z==y with
   | true=>simpa only [List.lookup_cons,q',q''] using q
   | false=>simpa only [List.lookup_cons,q',q''] using q
  | true=>simpa only [List.lookup_cons,q',ne q'] using q
theorem zk0{k:Nat}{v:AV}{K:Unit→Hp→Prop}(H:zg7 fr x y v h K):JA' P fr (.Tuple [.Name x p, .Name y q] k pos) v h K:=fun A E Q s W z G I kn=>by
 obtain ⟨a,T,m,u,w,e1,e2,hT,e4⟩:=zex (E:=E) H G I.1.toFrAt I.2 kn;show wpAny _ A (assign (.Tuple [.Name x p, .Name y q] k pos) z.1 z.2) Q E s;rw [e1,arm_assign_Tuple];refine wB (wS ?_);unfold unpack;refine wB (wH (ztY G.room.hand e2 hT fun h' ext hz=>?_));have S:Step P.c h.nx W s W h {s with heap:=h'}:= .keeps G.rel (fun b o e=>ext b o (Nat.ne_of_lt (hZ e)) e) rfl rfl hz
 show wpAny _ A (assignInOrder [assign (.Name x p) z.1,assign (.Name y q) z.1] [u,w]) Q E _;refine wB (wH (wpAny_assign_Name (wM (e4 _ S).1 (fun X s' h'=>?_) fun X X q=>q)));refine wB (wH (wpAny_assign_Name (wM h' (fun X s' h'=>?_) fun X X q=>q)));exact wP h'
section
variable {K:Fl→Hp→Prop}
theorem zko(hc:zaR e=false)(h1:∀env,swappedStores [t] e env=pure none)(h2:∀env,(assignEach [t] env).map (·.2) = [assign t env])(H:JE P fr e h fun v h=>JA' P fr t v h fun X h=>K .next h):JS P fr (.Assign [t] e pos) h K:=fun A E Q s W env G F kn=>by
 show wpAny _ A (exec (.Assign [t] e pos) env) Q E s;rw [exec_Assign_arm];refine wB (wS ?_);rw [show swapsWithSole [t] e pos.line env=Pure.pure false from zbe hc];refine wB (wP ?_);refine Mine.wIfN (by decide) ?_;refine wB (H A E _ s W env G F fun W₁ v va h₁ s₁ S₁ V₁ H=>?_);rw [h1];refine wB (wP ?_);show wpAny _ A (do assignAll va ((assignEach [t] env).map (·.2));Pure.pure Flow.next) _ E s₁;rw [h2];exact wB (H A E _ _ _ (env,va) (G.on S₁) ⟨F.up S₁.le,V₁⟩ fun X X X X X S V H=>wP (kn (v:= .next) (S₁.trans S) rfl H))
noncomputable def zs6(e:Expr):Bool:=Expr.casesOn (motive_1:=fun X=>Bool) e jK jK jR jK jR jR jK jK jR jR (fun X X X X X=>true) jR jI jI jI jR jR jR jI jK jK jK jI jI jI (fun vs X X=>!(vs.all (constantsAlone 8)) || vs.all (foldedForSure 8)) jR
def swR(x y:Str)(t:Sem (Option (List Str))):Prop:=t=pure none∨t=pure (some [x,y])
theorem swN:swR x y (pure none):= .inl rfl
theorem swI{c:Prop}[Decidable c]{t:Sem (Option (List Str))}(h:¬c→swR x y t):swR x y (if c then pure none else t):=by
 by_cases q:c
 ·exact .inl (if_pos q)
 ·rw [if_neg q];exact h q
theorem swE{c:Prop}[Decidable c]{t u:Sem (Option (List Str))}(q:¬c)(h:swR x y t):swR x y (if c then u else t):=by
 rw [if_neg q];exact h
theorem swF{f:Expr→Option Str}{a b:Expr}{d:Bool}(ha:f a=some x)(hb:f b=some y∨f b=none)(q:¬((([a,b].filterMap f).length != 2 || d)=true)):swR x y (pure (some ([a,b].filterMap f))):=by
 rcases hb with hb | hb
 ·exact .inr (by rw [List.filterMap_cons_some ha,List.filterMap_cons_some hb];rfl)
 ·rw [List.filterMap_cons_some ha,List.filterMap_cons_none hb] at q
  exact absurd rfl q
theorem sw2{k:Nat}(h:zs6 e=true)(h1:env.kindOf x=some .local)(h2:env.kindOf y=some .local):swR x y (swappedStores [.Tuple [.Name x p, .Name y q] k pos] e env):=by
 revert h;induction e using cE with
 | Tuple vs=>
  intro h;refine swI fun X=>swI fun X=>swI fun q0=>swI fun q1=>swE (fun c=>q1 ((Bool.or_eq_true_iff.mp h).resolve_left fun d=>Bool.noConfusion ((congrArg (!·) c).symm.trans d))) (swF (if_pos (Bool.and_eq_true_iff.mpr ⟨(congrArg (· == some NameKind.local) h1).trans rfl,bS _⟩)) ?_ q0);by_cases e:(env.kindOf y==some .local&&q.line==p.line)=true
  ·exact .inl (if_pos e)
  ·exact .inr (if_neg e)
 | _=>exact fun (_:true=true)=>swN
theorem zhZ{k:Nat}(hc:(!zaR e&&zs6 e)=true)(H:JE P fr e h fun v h=>zg7 fr x y v h fun X h=>K .next h):JS P fr (.Assign [.Tuple [.Name x p, .Name y q] k pos'] e pos) h K:=fun A E Q s W env G F kn=>by
 have hc:=aI hc;have h0:zaR e=false:=(Bool.not_eq_true' _).mp hc.1;show wpAny _ A (exec (.Assign [.Tuple [.Name x p, .Name y q] k pos'] e pos) env) Q E s;rw [exec_Assign_arm];refine wB (wS ?_);rw [show swapsWithSole [.Tuple [.Name x p, .Name y q] k pos'] e pos.line env=Pure.pure false from zbe (t:=some (.Tuple [.Name x p, .Name y q] k pos')) (l:=pos.line) (env:=env) h0];refine wB (wP ?_);refine Mine.wIfN (by decide) ?_;refine wB (H A E _ s W env G F fun W₁ v va h₁ s₁ S₁ V₁ H=>?_);have F₁:=F.up S₁.le;have kn':Kn P UU (fun X h=>K .next h) W₁ h₁.nx s₁ (fun X s=>Q .next s):=fun X X X X X S X H=>kn (v:= .next) (S₁.trans S) rfl H;have lc:env.kindOf x=some .local∧env.kindOf y=some .local:=(zmt H S₁.rel V₁).elim fun u q=>q.elim fun a q=>q.elim fun T q=>q.elim fun X q=>q.elim fun X q=>q.elim fun X q=>q.1.go fun k e3 H=>H.go fun m e4 H=>(zgw e3 H).elim fun e3 H=>(zgw e4 H).elim fun e4 X=>⟨(F.kinds x _ e3).elim id (fun q=>(nomatch q.1)),(F.kinds y _ e4).elim id (fun q=>(nomatch q.1))⟩;rcases sw2 (p:=p) (q:=q) (pos:=pos') (k:=k) hc.2 lc.1 lc.2 with z | z
 ·rw [z]
  refine wB (wP ?_);show wpAny _ A (do assignAll va [assign (.Tuple [.Name x p, .Name y q] k pos') env];Pure.pure Flow.next) _ E s₁;exact wB (zk0 H A E _ _ _ (env,va) (G.on S₁) ⟨F₁,V₁⟩ fun X X X X X S V H=>wP (kn' (v:=()) S V H))
 ·rw [z]
  refine wB (wP ?_);obtain ⟨a,T,m,u,w,rfl,e2,hT,e4⟩:=zex (E:=E) H (G.on S₁) F₁.toFrAt V₁ kn';unfold assignStores;refine wB (wpAny_rule (wB (ztY G.room.hand e2 hT fun h' ext hz=>?_)));have S:Step P.c h₁.nx W₁ s₁ W₁ h₁ {s₁ with heap:=h'}:= .keeps S₁.rel (fun b o e=>ext b o (Nat.ne_of_lt (hZ e)) e) rfl rfl hz
  show wpAny _ A (assignInOrder [bindName env y,bindName env x] [w,u]>>=fun X=>Pure.pure Flow.next) _ E _;refine wB (wB (wH (wpAny_bindName (wM (e4 _ S).2 (fun X s' h'=>?_) fun X X q=>q))));refine wB (wH (wpAny_bindName (wM h' (fun X s' h'=>?_) fun X X q=>q)));exact wP (wP h')
end
end
end Mn
end
section
open PySem PySem.W PyProof.Rows PySem.Calls
namespace Mn.Srt
variable {α β:Type} (lt:Nat→Nat→Bool)
noncomputable def run:KasT α→α
 | .ret a=>a
 | .ask i j k=>run (k (lt i j))
theorem zbx(p:Array Nat)(a n:Nat):(kas_rev p a n).Perm p:=mirror_perm _ _ _ _
noncomputable def In(N:Nat)(R:α→Prop):KasT α→Prop
 | .ret a=>R a
 | .ask i j k=>i<N∧j<N∧∀b,In N R (k b)
theorem zbW{N:Nat}{R:α→Prop}{S:β→Prop}{f:α→KasT β}(g:∀a,R a→In N S (f a)):∀t:KasT α,In N R t→In N S (t.bind f)
 | .ret a,h=>g a h
 | .ask i j k,h=>⟨h.1,h.2.1,fun b=>zbW g (k b) (h.2.2 b)⟩
theorem zeW{N:Nat}{R:α→Prop}{a:α}(h:R a):In N R (.ret a):=h
theorem zcJ{N:Nat}{R:α→Prop}{c:Prop}[Decidable c]{t e:KasT α}(h:In N R t)(g:In N R e):In N R (if c then t else e):=by
 split
 ·exact h
 ·exact g
def Bd(N:Nat)(p:Array Nat):Prop:=∀i,p.getD i 0<N
theorem Bd.of{N:Nat}{p q:Array Nat}(h1:1≤N)(h:p.Perm q)(hq:∀x∈q,x<N):Bd N p:=fun i=>by
 rw [Array.getD_eq_getD_getElem?];induction e:p[i]? with
 | none=>exact h1
 | some x=>exact hq x (h.mem_iff.mp (Array.mem_of_getElem? e))
section
variable {N:Nat} (q:Array Nat) (h1:1≤N) (hq:∀x∈q,x<N)
include h1 hq
theorem zk1{p:Array Nat}(h:p.Perm q):∀f n,In N (fun X=>True) (kas_asc p f n)
 | 0,_=>trivial
 | f+1,n=>⟨Bd.of h1 h hq _,Bd.of h1 h hq _,fun b=>zcJ (R:=fun X=>True) trivial (zk1 h f (n+1))⟩
theorem zeb:∀f (p:Array Nat) n k,p.Perm q→In N (fun r=>r.1.Perm q) (kas_desc f p n k)
 | 0,p,n,k,h=>h
 | f+1,p,n,k,h=>⟨Bd.of h1 h hq _,Bd.of h1 h hq _,fun b=>zcJ (zcJ (zeb f _ _ _ ((zbx _ _ _).trans h)) (zeb f _ _ _ h)) ⟨Bd.of h1 h hq _,Bd.of h1 h hq _,fun b=>zcJ (zeW h) (zeb f _ _ _ h)⟩⟩
theorem zi4{p:Array Nat}{n m:Nat}(h:p.Perm q):In N (fun r=>r.2.Perm q) (kas_tail3 n m p):=zbW (R:=fun X=>True) (fun X X=>zeW (R:=fun r:Nat×Array Nat=>r.2.Perm q) ((zbx _ _ _).trans h)) _ (zk1 q h1 hq ((zbx _ _ _).trans h) _ _)
theorem ziG{p:Array Nat}{n m:Nat}(h:p.Perm q):In N (fun r=>r.2.Perm q) (kas_descPart n m p):=zbW (R:=fun r=>r.1.Perm q) (fun X g=>zcJ (zi4 q h1 hq ((zbx _ _ _).trans g)) (zi4 q h1 hq g)) _ (zeb q h1 hq _ _ _ _ h)
theorem zlS{p:Array Nat}{m:Nat}(h:p.Perm q):In N (fun r=>r.2.Perm q) (kas_count m p):=by
 refine zbW (R:=fun X=>True) (fun n X=>?_) _ (zk1 q h1 hq h _ _);refine zcJ (zeW h) (zcJ ?_ (ziG q h1 hq h));exact ⟨Bd.of h1 h hq _,Bd.of h1 h hq _,fun b=>zcJ (zeW h) (ziG q h1 hq ((zbx _ _ _).trans h))⟩
theorem zdP{p:Array Nat}{k:Nat}(h:p.Perm q):∀f l r,In N (fun X=>True) (kas_place p k f l r)
 | 0,_,_=>trivial
 | f+1,l,r=>zcJ (R:=fun X=>True) trivial ⟨Bd.of h1 h hq _,Bd.of h1 h hq _,fun b=>zcJ (zdP h f _ _) (zdP h f _ _)⟩
theorem znp:∀f (p:Array Nat) k,p.Perm q→In N (fun r=>r.Perm q) (kas_bin f p k)
 | 0,p,k,h=>h
 | f+1,p,k,h=>zbW (R:=fun X=>True) (fun l X=>znp f _ _ ((bubble_perm _ _ _).trans h)) _ (zdP q h1 hq h _ _ _)
end
theorem zdJ{N:Nat}(h1:1≤N):In N (fun r=>r.Perm (List.range N).toArray) (kas_sort N):=
 zbW (R:=fun r=>r.2.Perm (List.range N).toArray) (fun r g=>zcJ (znp (List.range N).toArray h1 (fun x m=>List.mem_range.mp (by simpa using m)) _ _ _ g) (zeW g)) _ (zlS (List.range N).toArray h1 (fun x m=>List.mem_range.mp (by simpa using m)) (.refl _))
theorem zjd{N:Nat}{R:α→Prop}{lt:Nat→Nat→Bool}:∀t:KasT α,In N R t→R (run lt t)
 | .ret _,h=>h
 | .ask i j k,h=>zjd (k (lt i j)) (h.2.2 _)
theorem wp_run{N:Nat}{R:α→Prop}{lt:Nat→Nat→Bool}{cmp:Nat→Nat→(Bool→Shared→Prop)→Shared→Prop}{s:Shared}{Q:α→Shared→Prop}(hc:∀i j C,i<N→j<N→C (lt i j) s→cmp i j C s):∀t:KasT α,In N R t→Q (run lt t) s→t.kasWp cmp Q s
 | .ret _,_,q=>q
 | .ask i j k,h,q=>hc i j _ h.1 h.2.1 (wp_run hc (k (lt i j)) (h.2.2 _) q)
end Mn.Srt
namespace Mn.Srt
variable {prog:Program} {w:World} {A:Around} {E:Value→Shared→Prop} {s:Shared} {lt:Nat→Nat→Bool} {κ:SortKind} {vs:List Value}
def But(a:Addr)(h h':Heap):Prop:=∀b o,b≠a→h.get? b=some o→h'.get? b=some o
structure By(prog:Program)(w:World)(A:Around)(s:Shared)(vs:List Value)(lt:Nat→Nat→Bool)(κ:SortKind)(ok:Heap→Prop):Prop where
 kind:∀h',ok h'→∀(E:Value→Shared→Prop) (Q:SortKind→Shared→Prop),Q κ {s with heap:=h'}→wpAny (model prog w) A (keyKind' vs.toArray) Q E {s with heap:=h'}
 cmp:∀h',ok h'→∀i j,i<vs.length→j<vs.length→∀(E:Value→Shared→Prop) (C:Bool→Shared→Prop),C (lt i j) {s with heap:=h'}→wpAny (model prog w) A (keyLt' κ (vs.getD i Value.none) (vs.getD j Value.none)) C E {s with heap:=h'}
theorem zeQ{a:Addr}{n:Nat}{P:PySem.Fin→Shared→Prop}(ho:s.heap.get? a=some (seqObj "list" vs.toArray n))(h2:2≤vs.length)(h64:vs.length<64)(B:By prog w A s vs lt κ (But a s.heap))
  (h:P (.done (.ret .none)) {s with heap:=sortedHeap s.heap a vs (List.toArray ((run lt (kas_sort vs.length)).toList.map fun i=>vs.getD i Value.none))}):
  wpAny (model prog w) A (Builtin.«list.sort» ⟨[.ref a], []⟩) P E s:=by
 rw [list_sort_plain];have ha:a<s.heap.objs.size:=hZ ho;refine wB (listItems_at ho rfl ?_);refine wB (listUpdate_at ho rfl ?_);obtain ⟨e1,ho1⟩:∃e1,(s.heap.update a (Obj.mapSeq fun X=> #[])).get? a=some (seqObj "list" #[] e1):=⟨_,get?_update_seq ho (fun X=> #[])⟩;refine wB (seqEpoch_at ho1 rfl ?_);refine wB (wpAny_newTuple ?_);refine wB (wpAny_newList ?_);refine wH ?_;have ho6:(((s.heap.update a (Obj.mapSeq fun X=> #[])).push (seqObj "tuple" vs.toArray 0)).push (seqObj "list" #[] 0)).get? a=some (seqObj "list" #[] e1):=by
  rw [Heap.get?_push_ne _ _ _ (by rw [size_push',Heap.size_update];exact Nat.ne_of_lt (Nat.lt_succ_of_lt ha)),Heap.get?_push_ne _ _ _ (by rw [Heap.size_update];exact Nat.ne_of_lt ha)];exact ho1
 show wpAny (model prog w) A _ P E {s with heap:=((s.heap.update a (Obj.mapSeq fun X=> #[])).push (seqObj "tuple" vs.toArray 0)).push (seqObj "list" #[] 0)}
 have keep:But a s.heap (((s.heap.update a (Obj.mapSeq fun X=> #[])).push (seqObj "tuple" vs.toArray 0)).push (seqObj "list" #[] 0)):=fun b o hb q=>
  pS _ (pS _ (by rw [Heap.get?_update_ne _ _ _ _ hb];exact q))
 dsimp only
 have hn2:¬vs.toArray.size<2:=by rw [List.size_toArray];exact fun zz=>lzn (lz1 0x20840022846000046880042 h2 zz)
 rw [if_neg hn2,if_neg hn2];refine wB (B.kind _ keep _ _ ?_);have R:=zjd (lt:=lt) _ (zdJ (N:=vs.length) (lz1 0x6840046880041 h2));have z:(run lt (kas_sort vs.length)).size=vs.length:=R.size_eq.trans (by simp);refine wB (wM (kat_run (ks:=vs) (Q:=fun st' s'=>(arrOf st').map (·.2)=List.toArray ((run lt (kas_sort vs.length)).toList.map fun i=>vs.getD i Value.none)∧failedOf st'=none∧s' = {s with heap:=((s.heap.update a (Obj.mapSeq fun X=> #[])).push (seqObj "tuple" vs.toArray 0)).push (seqObj "list" #[] 0)})
  (G:=fun p s'=>p=run lt (kas_sort vs.length)∧s' = {s with heap:=((s.heap.update a (Obj.mapSeq fun X=> #[])).push (seqObj "tuple" vs.toArray 0)).push (seqObj "list" #[] 0)})
  rfl h2 h64 (fun p' st' s' a1 a2 a3 a4=>⟨a4.1▸kat_snds rfl a2,a3,a4.2⟩) (wp_run (lt:=lt) (fun i j C hi hj q=>B.cmp _ keep i j hi hj _ _ q) _ (zdJ (lz1 0x6840046880041 h2)) ⟨rfl,rfl⟩)) ?_ fun X X e=>e)
 rintro ⟨⟨⟩,st'⟩ s' ⟨hp,hf,rfl⟩
 dsimp only
 rw [hp];refine wB (seqEpoch_at ho6 rfl ?_);refine wB (listUpdate_at ho6 rfl ?_ (hsz2:=by rw [List.size_toArray,lM,Array.length_toList,z,sizeLine_eq];exact lz1 0x841000000142006001040082846000041 h64));rw [hf];simp only [bne_self_eq_false,Bool.false_eq_true,if_false];exact wP h
theorem By.mono{ok ok':Heap→Prop}(B:By prog w A s vs lt κ ok)(i:∀h,ok' h→ok h){h₁:Heap}:By prog w A {s with heap:=h₁} vs lt κ ok':=⟨fun h' k=>B.kind h' (i _ k),fun h' k=>B.cmp h' (i _ k)⟩
theorem zia{l:Addr}{Q:Value→Shared→Prop}(hl:s.heap.IsList l vs.toArray)(h2:2≤vs.length)(h64:vs.length<64)(B:By prog w A.in1.in1 s vs lt κ fun h'=>∀b o,s.heap.get? b=some o→h'.get? b=some o)
  (h:Q (.ref (s.heap.objs.size+1)) {s with heap:=sortedAll s.heap vs (List.toArray ((run lt (kas_sort vs.length)).toList.map fun i=>vs.getD i Value.none))}):
  wpAny (model prog w) A (call (.builtin "sorted") [.ref l]) Q E s:=by
 refine Calls.call_function_entry kind_sorted plain_sorted entry_sorted (args_sorted1 _) ?_;unfold Builtin.«sorted»;refine wB (m:=checkCount "sorted" 1 1 _) (wP ?_);refine wB (collect_list hl ?_);refine wB (wpAny_newList ?_);have hsz:((s.heap.push (seqObj "list" #[] 0)).update s.heap.objs.size (Obj.mapSeq (· ++ vs.toArray))).objs.size=s.heap.objs.size+1:=by
  rw [Heap.size_update,size_push']
 have hoL:(((s.heap.push (seqObj "list" #[] 0)).update s.heap.objs.size (Obj.mapSeq (· ++ vs.toArray))).push (seqObj "list" vs.toArray 0)).get? (s.heap.objs.size+1)=some (seqObj "list" vs.toArray 0):=by
  rw [←hsz];exact pZ _ rfl
 have keep:∀b o,s.heap.get? b=some o→(((s.heap.push (seqObj "list" #[] 0)).update s.heap.objs.size (Obj.mapSeq (· ++ vs.toArray))).push (seqObj "list" vs.toArray 0)).get? b=some o:=fun b o q=>by
  have hlt:b<s.heap.objs.size:=hZ q;rw [Heap.get?_push_ne _ _ _ (by rw [hsz];exact Nat.ne_of_lt (Nat.lt_succ_of_lt hlt)),Heap.get?_update_ne _ _ _ _ (Nat.ne_of_lt hlt),Heap.get?_push_ne _ _ _ (Nat.ne_of_lt hlt)];exact q
 show wpAny _ _ _ _ _ {s with heap:=((s.heap.push (seqObj "list" #[] 0)).update s.heap.objs.size (Obj.mapSeq (· ++ vs.toArray))).push (seqObj "list" vs.toArray 0)}
 rw [hsz];refine wB (wH (wpAny_call_entry slot_list_sort ⟨_,hoL,rfl⟩ entry_list_sort (zeQ (vs:=vs) (κ:=κ) hoL h2 h64 (B.mono fun h' k b o q=>k b o (Nat.ne_of_lt (Nat.lt_succ_of_lt (hZ q))) (keep b o q)) ⟨_,rfl,?_⟩) (args_list_sort _)));exact wP ⟨_,rfl,h⟩
end Mn.Srt
end
section
open PySem PySem.W PyProof.Rows PySem.Calls PySem.SeqAt
namespace Mn.Srt
variable {prog:Program} {w:World} {A:Around} {E:Value→Shared→Prop} {s:Shared} {γ:Type}
structure Atom(ρ:γ→Value→Prop)(T:Value)(eq lt:γ→γ→Bool):Prop where
 eqs:∀a b u v A s,ρ a u→ρ b v→EqAt A s u v (eq a b)
 lt1:∀prog w A E s a b u v (Q:Bool→Shared→Prop),ρ a u→ρ b v→Q (lt a b) s→wpAny (model prog w) A (oneLt' true u v) Q E s
 lt2:∀prog w A E s a b u v (Q:Value→Shared→Prop),ρ a u→ρ b v→Q (.bool (lt a b)) s→wpAny (model prog w) A (compareOp .Lt u v) Q E s
 ty:∀M h a u,ρ a u→Looks M h (typeOf u) T
noncomputable def ltP(eq lt:γ→γ→Bool)(x y:γ×γ):Bool:=bif eq x.1 y.1 then bif eq x.2 y.2 then false else lt x.2 y.2 else lt x.1 y.1
theorem zob{ρ:γ→Value→Prop}{T:Value}{eq lt:γ→γ→Bool}(R:Atom ρ T eq lt){x y:Addr}{a b c d:γ}{u v u' v':Value}{m n:Nat}{C:Bool→Shared→Prop}(hx:s.heap.get? x=some (seqObj "tuple" #[u,v] m))(hy:s.heap.get? y=some (seqObj "tuple" #[u',v'] n))
  (ra:ρ a u) (rb:ρ b v) (rc:ρ c u') (rd:ρ d v') (h:C (ltP eq lt (a,b) (c,d)) s):wpAny (model prog w) A (keyLt' (tuples' true) (.ref x) (.ref y)) C E s:=by
 refine kat_lt hx rfl hy rfl (kat_cons (R.eqs a c u u' _ _ ra rc _ _ _ _ ?_));revert h;unfold ltP;induction eq a c with
 | false=>exact fun h=>kat_no (R.lt1 _ _ _ _ _ _ _ _ _ _ ra rc h)
 | true=>
  refine fun h=>kat_yes (kat_cons (R.eqs b d v v' _ _ rb rd _ _ _ _ ?_));revert h;show C (bif eq b d then false else lt b d) s→_;induction eq b d with
  | false=>exact fun h=>kat_no (kat_one _ _ (R.lt2 _ _ _ _ _ _ _ _ _ _ rb rd (show C (lt b d) s from h)))
  | true=>exact fun h=>kat_yes (kat_nil h)
noncomputable def Prs(ρ:γ→Value→Prop)(h:Heap):List (γ×γ)→List Value→Prop
 | [], []=>True
 | k :: ks,r :: vs=>(∃x u v m,r = .ref x∧h.get? x=some (seqObj "tuple" #[u,v] m)∧ρ k.1 u∧ρ k.2 v)∧Prs ρ h ks vs
 | _,_=>False
theorem Prs.mono{ρ:γ→Value→Prop}{h h':Heap}(i:∀b o,h.get? b=some o→h'.get? b=some o):∀{ks:List (γ×γ)} {vs:List Value},Prs ρ h ks vs→Prs ρ h' ks vs
 | [], [],_=>trivial
 | [],_ :: _,q=>q.elim
 | _ :: _, [],q=>q.elim
 | _ :: _,_ :: _,⟨⟨x,u,v,m,e,g,a,b⟩,q⟩=>⟨⟨x,u,v,m,e,i _ _ g,a,b⟩,q.mono i⟩
theorem Prs.at_{ρ:γ→Value→Prop}{h:Heap}(d:γ×γ):∀{ks:List (γ×γ)} {vs:List Value},Prs ρ h ks vs→∀i,i<vs.length→∃x u v m,vs.getD i Value.none = .ref x∧h.get? x=some (seqObj "tuple" #[u,v] m)∧ρ (ks.getD i d).1 u∧ρ (ks.getD i d).2 v
 | [], [],_,i,hi=>absurd hi (Nat.not_lt_zero _)
 | [],_ :: _,q,_,_=>q.elim
 | _ :: _, [],q,_,_=>q.elim
 | _ :: _,_ :: _,q,0,_=>q.1
 | _ :: _,_ :: _,q,i+1,hi=>q.2.at_ d i (Nat.lt_of_succ_lt_succ hi)
theorem Prs.tups{ρ:γ→Value→Prop}{M:Model}{T:Value}{h:Heap}(ty:∀a u,ρ a u→Looks M h (typeOf u) T):∀{ks:List (γ×γ)} {vs:List Value},Prs ρ h ks vs→∃fs,KatTups h vs fs∧fs.length=vs.length∧∀v∈fs,Looks M h (typeOf v) T
 | [], [],_=>⟨[],trivial,rfl,fun X m=>nomatch m⟩
 | [],_ :: _,q=>q.elim
 | _ :: _, [],q=>q.elim
 | _ :: _,_ :: _,⟨⟨x,u,v,m,e,g,a,b⟩,q⟩=>(q.tups ty).elim fun fs z=>⟨u :: fs,e▸KatTups.cons g rfl rfl rfl z.1,congrArg (· + 1) z.2.1,fun y hy=>by
  obtain hy | hy:=cP hy
  ·exact hy▸ty _ _ a
  ·exact z.2.2 _ hy⟩
theorem Prs.by_{ρ:γ→Value→Prop}{T:Value}{eq lt:γ→γ→Bool}(R:Atom ρ T eq lt)(hT:(T==T)=true)(hN:(T != Value.type "tuple")=true)(d:γ×γ){ks:List (γ×γ)}{vs:List Value}(P:Prs ρ s.heap ks vs)(hne:0<vs.length):
  By prog w A s vs (fun i j=>ltP eq lt (ks.getD i d) (ks.getD j d)) (tuples' true) fun h'=>∀b o,s.heap.get? b=some o→h'.get? b=some o where
 kind:=fun h' ok E Q q=>((P.mono ok).tups (R.ty (model prog w) h')).elim fun fs z=>kat_kind (s:={s with heap:=h'}) z.1 (z.2.1▸hne) z.2.2 hT (hN▸q)
 cmp:=fun h' ok i j hi hj E C q=>by
  obtain ⟨x,u,v,m,e,g,a,b⟩:=(P.mono ok).at_ d i hi;obtain ⟨x',u',v',m',e',g',a',b'⟩:=(P.mono ok).at_ d j hj;rw [e,e'];exact zob (s:={s with heap:=h'}) R g g' a b a' b' q
structure Lin(eq lt:γ→γ→Bool):Prop where
 qe:∀a b,eq a b=true→a=b
 refl:∀a,eq a a=true
 irr:∀a,lt a a=false
 tot:∀a b,lt a b=false→lt b a=false→a=b
 trans:∀a b c,lt a b=true→lt b c=true→lt a c=true
theorem linI:Lin (γ:=Int) (· == ·) (fun a b=>decide (a<b)) where
 qe:=fun a b h=>eq_of_beq h
 refl:=fun a=>bS a
 irr:=fun a=>dF (Int.lt_irrefl a)
 tot:=fun a b h k=>Int.le_antisymm (Int.not_lt.mp (of_decide_eq_false k)) (Int.not_lt.mp (of_decide_eq_false h))
 trans:=fun a b c h k=>dT (Int.lt_trans (oD h) (oD k))
theorem Lin.uniq{eq lt:γ→γ→Bool}(L:Lin eq lt){a b:List γ}(ha:a.Pairwise fun a b=>lt b a=false)(hb:b.Pairwise fun a b=>lt b a=false)(p:a.Perm b):a=b:=p.eq_of_pairwise (fun x y X X h k=>L.tot _ _ k h) ha hb
end Mn.Srt
namespace Mn
variable {T:Tabs} {W:Wd} {h:Hp} {s:Shared} {A:Around} {E:Value→Shared→Prop} {as:List AV} {a:AV} {K:AV→Hp→Prop} {n:Nat} {z:List Nat} {x:AV} {i j:Int} {q:Bool×List AV} {p:AV×AV} {c:Cx} {W₁:Wd} {h₁:Hp} {s₁:Shared} {env:Env} {fr:Fr} {pos pos':Pos} {t:Expr} {it l k:Nat} {v:AV} {sc:Scope} {cenv:Env} {e:Expr} {acc:Value} {P:PM T}
open Srt
theorem zgs(x:Int)(r:List Int):(r.foldl min x)∈x :: r∧∀y∈x :: r,r.foldl min x≤y:=by
 induction r generalizing x with
 | nil=>exact ⟨mS,fun y hy=>(sM hy)▸Int.le_refl _⟩
 | cons y r ih=>
  obtain ⟨h1,h2⟩:=ih (min x y);rw [List.foldl_cons];refine ⟨(cP h1).elim (fun h=>?_) fun h=>mM _ (mM _ h),fun z hz=>?_⟩
  ·rw [h];exact (Int.le_total x y).elim (fun q=>by rw [Int.min_eq_left q];exact mS) fun q=>by rw [Int.min_eq_right q];exact mM _ mS
  ·have h3:=h2 (min x y) mS
   exact (cP hz).elim (fun e=>by rw [e];exact Int.le_trans h3 (Int.min_le_left x y)) fun hz=>(cP hz).elim (fun e=>by rw [e];exact Int.le_trans h3 (Int.min_le_right x y)) fun hz=>h2 z (mM _ hz)
noncomputable def zpG(xs:List Int):Option Int:=List.casesOn (motive:=fun X=>Option Int) xs none fun x r=>some (r.foldl min x)
noncomputable def zkI{γ:Type}(lt:γ→γ→Bool)(l:List γ):List γ:=l.mergeSort fun a b=>!lt b a
theorem zho{γ:Type}(lt:γ→γ→Bool)(l:List γ):(zkI lt l).Perm l:=List.mergeSort_perm _ _
theorem zkH{γ:Type}{eq lt:γ→γ→Bool}(L:Lin eq lt)(l:List γ):(zkI lt l).Pairwise fun a b=>lt b a=false:=by
 refine (List.pairwise_mergeSort (le:=fun a b=>!lt b a) (fun a b c h k=>?_) (fun a b=>?_) l).imp fun h=>(Bool.not_eq_true' _).mp h
 ·refine (Bool.not_eq_true' _).mpr (Bool.eq_false_iff.mpr fun z=>?_)
  have h:=(Bool.not_eq_true' _).mp h;have k:=(Bool.not_eq_true' _).mp k;by_cases q:lt a b=true
  ·exact Bool.false_ne_true (k.symm.trans (L.trans _ _ _ z q))
  ·rw [L.tot _ _ (Bool.eq_false_iff.mpr q) h] at z
   exact Bool.false_ne_true (k.symm.trans z)
 ·rcases fT (lt b a) with q | q
  ·rw [q,show lt a b=false from Bool.eq_false_iff.mpr fun z=>Bool.false_ne_true ((L.irr a).symm.trans (L.trans _ _ _ z q))];rfl
  ·rw [q];rfl
theorem zga{γ:Type}{eq lt:γ→γ→Bool}(L:Lin eq lt){a l:List γ}(p:a.Perm l)(h:a.Pairwise fun a b=>lt b a=false):a=zkI lt l:=L.uniq h (zkH L l) (p.trans (zho lt l).symm)
noncomputable def ltI(a b:Int):Bool:=decide (a<b)
noncomputable def ltT(a b:List Nat):Bool:=decide (a<b)
def zpK(a b:List Nat):Bool:=za0 a==za0 b
theorem linT:Lin zpK ltT where
 qe:=fun a b h=>congrArg (fun s:Str=>s.cps.toList) (eq_of_beq h:za0 a=za0 b)
 refl:=fun a=>bS (za0 a)
 irr:=fun a=>dF (List.lt_irrefl _)
 tot:=fun a b h k=>List.le_antisymm (List.not_lt.mp (of_decide_eq_false k)) (List.not_lt.mp (of_decide_eq_false h))
 trans:=fun a b c h k=>dT (List.lt_trans (oD h) (oD k))
theorem ztJ:Atom (fun (i:List Nat) v=>∃t,v=Value.str (za0 i) t) (.type "str") zpK ltT where
 eqs:=fun a b u v A s h k=>by
  obtain ⟨t,rfl⟩:=h;obtain ⟨t',rfl⟩:=k;exact EqAt.str_str _ _ _ _
 lt1:=fun prog w A E s a b u v Q h k q=>by
  obtain ⟨t,rfl⟩:=h;obtain ⟨t',rfl⟩:=k;exact oneLt_str q
 lt2:=fun prog w A E s a b u v Q h k q=>by
  obtain ⟨t,rfl⟩:=h;obtain ⟨t',rfl⟩:=k;exact lt_str q
 ty:=fun M h a u k=>by
  obtain ⟨t,rfl⟩:=k;exact .of_pure rfl
def zoz:List Nat×List Nat→List Nat×List Nat→Bool:=ltP zpK ltT
noncomputable def prT(p:List Nat×List Nat):AV:= .tup [.str p.1, .str p.2]
def zkY(l:List (List Nat×List Nat)):Array Nat:=run (fun i j=>zoz (l.getD i ([],[])) (l.getD j ([],[]))) (kas_sort l.length)
def zc9(l:List (List Nat×List Nat)):List (List Nat×List Nat):=(zkY l).toList.map fun i=>l.getD i ([],[])
theorem zfx{l:List (List Nat×List Nat)}(h:1≤l.length):∀i∈(zkY l).toList,i<l.length:=fun i hi=>List.mem_range.mp ((zjd _ (zdJ h)).toList.mem_iff.mp hi)
theorem zib{l:List (List Nat×List Nat)}(h:1≤l.length){x:List Nat×List Nat}(m:x∈zc9 l):x∈l:=by
 obtain ⟨i,hi,rfl⟩:=mP m;have q:=zfx h i hi;rw [gD,gG q];exact List.getElem_mem q
def zdK(l:List Int):List Int:=zkI ltI l
section
variable {b d:AV} {f:Value} {vs:List Value} {x:List Nat} {r:Nat} {l:Addr}
theorem zqO{is:List Int}{x:Int}{r:List Int}(e:a1 as=some a)(e1:zaT h a=some q)(es:q.2=is.map .int)(e2:is=x :: r)(H:K (.int (r.foldl min x)) h):JV P (.builtin "min") as h K:=c1l e e1 fun A E Q s W l vs m G X z1 z2 k=>by
 have hi:=zbC (es▸z2);obtain ⟨ys,ey⟩:=(show AllInts vs from by have:=hi.allInts;simpa using this).items;have hns:x :: r=ys.toList.map (·.1):=by
  have:=hi.numsOf;rw [←e2,←this,←nums_intItems,←ey]
 have hsz:ys.size=r.length+1:=by simpa using (congrArg List.length hns).symm
 subst ey;refine wpAny_sz (min_intList G.room.hand ⟨_,z1,rfl,_,rfl⟩ (hsz▸Nat.succ_pos _) fun v h' tk hv hk=>?_);obtain ⟨t,rfl⟩:=intItems_at hv;obtain ⟨h1,h2⟩:=argBest_lt (numAt ys) (ys.size-1);obtain ⟨m1,m2⟩:=zgs x r;have hM:numAt ys (argBest (fun i j=>decide (numAt ys i<numAt ys j)) (ys.size-1))=r.foldl min x:=by
  apply Int.le_antisymm
  ·rw [hns] at m1
   obtain ⟨j,hj,ej⟩:=mem_getD m1;rw [lM,Array.length_toList] at hj;rw [←ej,←zeM];exact h2 j (Nat.le_sub_one_of_lt hj)
  ·apply m2
   rw [hns,zeM];exact getD_mem (by rw [lM,Array.length_toList];exact lE h1 (Nat.sub_lt (hsz▸Nat.succ_pos _) Nat.one_pos))
 rw [hM];exact k.kept G (v:= .int (r.foldl min x)) ⟨_,rfl⟩ hk H
theorem zqP{is:List Int}{q:Bool×List AV}{m:Int}(e:a1 as=some a)(e1:zaT h a=some q)(es:q.2=is.map .int)(e2:zpG is=some m)(H:K (.int m) h):JV P (.builtin "min") as h K:=by
 induction is using cL with
 | nil=>exact no e2
 | cons x r=>exact zqO e e1 es rfl (sI e2▸H)
theorem znJ{i j:Int}(e:a1 as=some a)(e1:a.tup? = some [.int i, .int j])(H:K (.int (i+j)) h):JV P (.builtin "sum") as h K:=c1 e fun A E Q s W v G I k=>by
 obtain ⟨l,vs,m,rfl,z1,z2⟩:=(AV.tup?_is e1▸I:VR W h.nx (.tup [.int i, .int j]) v);obtain ⟨vs⟩:=vs
 cases z2 with
 | cons p z2=>cases z2 with
  | cons p' z2=>
   cases z2
   obtain ⟨t,rfl⟩:=p;obtain ⟨u,rfl⟩:=p';have g:=(G.rel.fz _ _ z1).2.1;have hT:s.heap.IsTuple l (intItems #[(i,t),(j,u)]):=⟨_,g,rfl,m,by simp [intItems,zbp]⟩;have hlt:l<s.heap.objs.size:=hZ g;refine wpAny_sz (call_sum_walkG (wpAny_pyIter_tuple hT ⟨_, [_,l], [_],_,_,_,numAt #[(i,t),(j,u)],rfl,Walks.tuple (A:=A.in1) G.room.hand _ l (Nat.ne_of_lt hlt) (intItems #[(i,t),(j,u)]),⟨⟨_,pZ _ rfl,rfl,rfl⟩,hT.push _⟩,fun c hc=>?_,(fun X X=>intItems_at),fun h' tk t' hk=>?_⟩))
   ·show c<(s.heap.push _).objs.size
    rw [Heap.size_push];rcases cP hc with rfl | hc
    ·exact sS _
    ·rcases cP hc with rfl | hc
     ·exact Nat.lt_succ_of_lt hlt
     ·cases hc
   ·have hold:∀c o,s.heap.get? c=some o→h'.get? c=some o:=fun c o e=>by
     refine hk c o (fun hm=>?_) (pS _ e);rcases cP hm with e1 | hm
     ·exact absurd (e1▸hZ e) (Nat.lt_irrefl _)
     ·cases hm
    have e3:preSum (numAt #[(i,t),(j,u)]) (intItems #[(i,t),(j,u)]).size=i+j:=by
     rw [preSum_eq];simp [intItems,numAt]
    rw [e3];exact k.kept G (v:= .int (i+j)) ⟨_,rfl⟩ hold H
theorem zcu{h:Heap}{l:Addr}{vs:List Value}{out:Array Value}:∃h' m,sortedAll h vs out=h'∧h'.get? (h.objs.size+1)=some (zbp "list" out m)∧(∀b o,h.get? b=some o→h'.get? b=some o)∧h.objs.size≤h'.objs.size:=by
 have hsz:((h.push (seqObj "list" #[] 0)).update h.objs.size (Obj.mapSeq (· ++ vs.toArray))).objs.size=h.objs.size+1:=by
  rw [Heap.size_update,size_push']
 obtain ⟨e1,ho1⟩:∃e1,((((h.push (seqObj "list" #[] 0)).update h.objs.size (Obj.mapSeq (· ++ vs.toArray))).push (seqObj "list" vs.toArray 0)).update (h.objs.size+1) (Obj.mapSeq fun X=> #[])).get? (h.objs.size+1)=some (seqObj "list" #[] e1):=⟨_,get?_update_seq (hsz▸pZ _ rfl) (fun X=> #[])⟩;have hz2:((((h.push (seqObj "list" #[] 0)).update h.objs.size (Obj.mapSeq (· ++ vs.toArray))).push (seqObj "list" vs.toArray 0)).update (h.objs.size+1) (Obj.mapSeq fun X=> #[])).objs.size=h.objs.size+2:=by
  rw [Heap.size_update,size_push',hsz]
 refine ⟨_,_,rfl,get?_update_seq (pS _ (pS _ ho1)) (fun X=>out),fun b o q=>?_,?_⟩
 ·have hlt:b<h.objs.size:=hZ q
  unfold sortedAll sortedHeap;rw [Heap.get?_update_ne _ _ _ _ (Nat.ne_of_lt (Nat.lt_succ_of_lt hlt))];refine pS _ (pS _ ?_);rw [Heap.get?_update_ne _ _ _ _ (Nat.ne_of_lt (Nat.lt_succ_of_lt hlt))];refine pS _ ?_;rw [Heap.get?_update_ne _ _ _ _ (Nat.ne_of_lt hlt)];exact pS _ q
 ·unfold sortedAll sortedHeap
  rw [Heap.size_update,size_push',size_push',hz2];exact rA _ 4
theorem zhn{is:List Int}(e:a1 as=some a)(e1:zaT h a=some q)(es:q.2=is.map .int)(hl:Nat.blt is.length 64=true)(H:nuL false ((zdK is).map .int) h K):JV P (.builtin "sorted") as h K:=c1l e e1 fun A E Q s W l vs m G X z1 z2 k=>by
 have hi:=zbC (es▸z2);have hlen:vs.toList.length=is.length:=by rw [←z2.len,es,lM]
 refine sorted_ints (vs:=vs.toList) ⟨_,z1,rfl,_,rfl⟩ hi (hlen▸blt hl) fun out ns' a1 a2 a3=>?_;have e3:ns'=zdK is:=zga linI a2 (a3.imp fun h=>dF (Int.not_lt.mpr h));obtain ⟨h',m',q1,q2,q3,q4⟩:=zcu (h:=s.heap) (l:=l) (vs:=vs.toList) (out:=out);rw [q1];refine k.newL G (s':={s with heap:=h'}) (m:=m') ?_ q2 (Nat.le_succ _) q3 rfl rfl q4 H
 rw [←e3];clear q1 q2 q3 q4 H e3 a2 a3;revert a1;generalize out.toList=vs;intro a1;induction a1 with
 | nil=>exact .nil
 | cons x t X ih=>exact .cons ⟨t,rfl⟩ ih
theorem zmD(R:Rel P.c W h s){m:Nat}:∀{ps:List (List Nat×List Nat)} {vs:List Value},Rs (VR W m) (ps.map prT) vs→Prs (fun (i:List Nat) v=>∃t,v=Value.str (za0 i) t) s.heap ps vs
 | [],_,h=>by cases h;trivial
 | p :: ps,_,h=>by
  cases h with
  | cons a r=>
   obtain ⟨x,vs,k,rfl,z,q⟩:=a;obtain ⟨vs⟩:=vs
   cases q with
   | cons u q=>cases q with
    | cons v q=>cases q;exact ⟨⟨x,_,_,k,rfl,(R.fz _ _ z).2.1,u,v⟩,zmD R r⟩
theorem zhm{ps:List (List Nat×List Nat)}(e:a1 as=some a)(e1:zaT h a=some q)(es:q.2=ps.map prT)(hl:(Nat.ble 2 ps.length&&Nat.blt ps.length 64)=true)(H:nuL false ((zc9 ps).map prT) h K):JV P (.builtin "sorted") as h K:=c1l e e1 fun A E Q s W l vs m G Z z1 z2 k=>by
 rw [es] at z2;have hlen:vs.toList.length=ps.length:=by rw [←z2.len,lM]
 obtain ⟨l1,l2⟩:=aI hl;have l1:2≤ps.length:=ble l1;have l2:=blt l2;have X:=zmD G.rel z2;refine zia (vs:=vs.toList) ⟨_,z1,rfl,_,rfl⟩ (hlen▸l1) (hlen▸l2) (X.by_ ztJ (by rfl) (by rfl) ([], []) (hlen▸lL Nat.two_pos l1)) ?_;rw [hlen];obtain ⟨h',m',q1,q2,q3,q4⟩:=zcu (h:=s.heap) (l:=l) (vs:=vs.toList) (out:=List.toArray ((zkY ps).toList.map fun i=>vs.toList.getD i Value.none));show Q _ {s with heap:=sortedAll s.heap vs.toList (List.toArray ((zkY ps).toList.map fun i=>vs.toList.getD i Value.none))}
 rw [q1];refine k.newL G (s':={s with heap:=h'}) (m:=m') ?_ q2 (Nat.le_succ _) q3 rfl rfl q4 H
 have at_:∀i,i<ps.length→VR W 0 (prT (ps.getD i ([], []))) (vs.toList.getD i Value.none):=fun i hi=>by
  have e1:(ps.map prT)[i]? = some (prT (ps.getD i ([], []))):=by rw [gM,gG hi,gD,gG hi];rfl
  obtain ⟨y,e2,V⟩:=z2.get i _ e1;rw [show vs.toList.getD i Value.none=y from by rw [gD,e2];rfl];exact V
 have mem:=zfx (l:=ps) (Nat.le_of_succ_le l1);show Rs _ (((zkY ps).toList.map fun i=>ps.getD i ([], [])).map prT) ((zkY ps).toList.map _);revert mem;generalize (zkY ps).toList=l;intro mem;induction l with
 | nil=>exact .nil
 | cons i l ih=>exact .cons (at_ i (mem i mS)) (ih fun j hj=>mem j (mM _ hj))
end
def zhj{β:Type}(as:List AV)(k:List Nat→Tr β):Tr β:= .os (a1 as) fun a=> .os a.str? k
def zqg{β:Type}(as:List AV)(k:List Nat→List Nat→Tr β):Tr β:= .os (a2 as) fun p=> .os p.1.str? fun x=> .os p.2.str? fun y=>k x y
def zmO{β:Type}(h:Hp)(as:List AV)(k:Nat→Bool×List AV→AV→Tr β):Tr β:= .os (a2 as) fun p=> .os p.1.ref? fun r=> .os (h.at_ r).list? fun q=>k r q p.2
def zmH(z:List Nat)(h:Hp):Tr AV:= .Rq (Nat.ble z.length sizeL) (.ret (.str z) h)
noncomputable def zlF(xs:List AV):Option (AV×List AV):=List.casesOn (motive:=fun X=>Option (AV×List AV)) xs none fun x r=>some (x,r)
noncomputable def lone(xs:List SV):Option SV:=List.casesOn (motive:=fun X=>Option SV) xs none fun x r=>List.casesOn (motive:=fun X=>Option SV) r (some x) fun X X=>none
noncomputable def U.tp?(u:U):Option (List (List Nat×List Nat)):=U.casesOn (motive:=fun X=>Option (List (List Nat×List Nat))) u Option.none jA jA jA jA jA jA jC jC jA jA jA Option.none (fun a b=>some (a.zip b)) jC
noncomputable def SV.i?(x:SV):Option Int:=SV.casesOn (motive:=fun X=>Option Int) x Option.none jA some fun X=>Option.none
theorem SV.i?_is{x:SV}{i:Int}:x.i? = some i→x = .int i:=SV.casesOn (motive:=fun x=>x.i? = some i→x = .int i) x no jB (fun X e=>sI e▸rfl) fun X=>no
noncomputable def ztZ{α:Type}(xs:List α):Option (α×α):=List.casesOn (motive:=fun X=>Option (α×α)) xs none fun x r=>List.casesOn (motive:=fun X=>Option (α×α)) r none fun y r=>List.casesOn (motive:=fun X=>Option (α×α)) r (some (x,y)) fun X X=>none
theorem znF{α:Type}{xs:List α}{p:α×α}(e:ztZ xs=some p):xs = [p.1,p.2]:=by
 induction xs using cL with
 | nil=>exact no e
 | cons x r=>induction r using cL with
  | nil=>exact no e
  | cons y r=>induction r using cL with
   | nil=>exact sI e▸rfl
   | cons X Z=>exact no e
def znm(T:Tabs)(b:BM)(as:List AV)(h:Hp):Tr AV:=BM.casesOn (motive:=fun X=>Tr AV) b
 (.os (a2 as) fun p=> .os p.1.str? fun z=> .os (zaT h p.2) fun q=> .mp U.ls? .str q.2 fun ss=> .Rq (Nat.ble ((ss.map List.length).sum+ss.length*z.length) sizeL) (.ret (.str (zaM z ss)) h))
 (zhj as fun z=>zmH (za6 z) h) (zhj as fun z=>zmH (za8 z) h)
 (.os (a3 as) fun p=> .os p.1.str? fun z=> .os p.2.1.str? fun x=> .os p.2.2.str? fun y=> .Rq (Builtin.Str.occurrences (za0 z) (za0 x) 0 z.length (z.length+1)).isEmpty (.ret (.str z) h))
 (zhj as fun z=> .Rq (Nat.ble z.length sizeL) (.ret (.str (zaV z)) h)) (zqg as fun z x=> .ret (.int (zdy z x)) h)
 (zmO h as fun r q v=> .Rq (Nat.ble q.2.length.succ sizeL&&(q.1 || tf v)) (.ret .none (h.set r (.list q.1 (q.2 ++ [v])))))
 (zmO h as fun r q v=> .Op U.ht? (zlF q.2) fun p=> .os v.int? fun i=> .Rq (i==0&&Nat.ble p.2.length.succ sizeL) (.ret p.1 (h.set r (.list q.1 p.2))))
 .no
 (.os (a1 as) fun a=> .os a.ref? fun r=> .os (h.at_ r).list? fun q=> .Rq (Nat.ble q.2.length sizeL) (.ret .none (h.set r (.list q.1 q.2.reverse))))
 .no
 (.os (a1 as) fun a=> .os a.int? fun i=> .ret (.int (zak i)) h)
 (.os (a2 as) fun p=> .os p.1.glob? fun l=> .os (T.intTab l) fun t=> .os p.2.int? fun i=> .Al U.en? (t.find? fun e=>e.1==i) (fun e=> .ret (.str e.2) h) (.ret .none h))
 (.os (a2 as) fun p=> .os p.1.glob? fun l=> .os (T.rx l) fun f=> .os p.2.str? fun z=> .Rq (!f z&&Nat.ble z.length sizeL) (.ret .none h))
 (.os (a1 as) fun a=> .os a.ref? fun r=> .os (h.at_ r).set? fun xs=> .os (lone xs) fun x=> .ret x.av (h.set r (.set [])))
def zrA(T:Tabs)(b:BM)(as:List AV)(h:Hp)(K:AV→Hp→Prop):Prop:=(znm T b as h).sem K
def znl(m:BI)(as:List AV)(h:Hp):Tr AV:=BI.casesOn (motive:=fun X=>Tr AV) m
 (.os (a1 as) fun a=> .al a.str? (fun z=> .Rq (Nat.ble z.length sizeL) (.ret (.int z.length) h)) (.os (zaT h a) fun q=> .Rq (Nat.ble q.2.length sizeL) (.ret (.int q.2.length) h)))
 (zhj as fun z=> .os (one z) fun c=> .ret (.int c) h)
 (.os (a1 as) fun a=> .os a.int? fun i=> .Rq (decide (0≤i)&&decide (i≤1114111)) (.ret (.str [i.toNat]) h))
 (.os (a2 as) fun p=> .os p.1.int? fun i=> .os p.2.int? fun j=> .Rq (j != 0 && !Builtin.divisionGoesByPylong i j) (.ret (.tup [.int (i.fdiv j), .int (i.fmod j)]) h))
 (.os (a1 as) fun a=> .al a.tup? (fun xs=> .os (ztZ xs) fun p=> .os p.1.i? fun i=> .os p.2.i? fun j=> .ret (.int (i+j)) h) (.os (zaT h a) fun q=> .mp U.li? .int q.2 fun is=> .ret (.int is.sum) h))
 (.os (a1 as) fun a=> .os (zaT h a) fun q=> .mp U.li? .int q.2 fun is=> .Op U.i? (zpG is) fun m=> .ret (.int m) h)
 .no
 (.os (a1 as) fun a=> .os (zaT h a) fun q=> .Br (q.2.all fun x=>x.int?.isSome) (.mp U.li? .int q.2 fun is=> .Rq (Nat.blt is.length 64) (nuT false ((zdK is).map .int) h)) (.mp U.tp? prT q.2 fun ps=> .Rq (Nat.ble 2 ps.length&&Nat.blt ps.length 64) (nuT false ((zc9 ps).map prT) h)))
 (.os (a2 as) fun p=> .os p.1.ref? fun r=> .os (h.at_ r).bound? fun X=> .ret (.ref h.nx) (h.new (.citer p.1 p.2 false)))
def zry(m:BI)(as:List AV)(h:Hp)(K:AV→Hp→Prop):Prop:=(znl m as h).sem K
noncomputable def AO.range?(o:AO):Option (Int×Int×Int):=AO.casesOn (motive:=fun X=>Option (Int×Int×Int)) o jC jC jA jC jA jC jC jF (fun a b c=>some (a,b,c)) jA jC jC jF jC jC jA jA jF none
theorem AO.range?_is{o:AO}{p:Int×Int×Int}:o.range? = some p→o = .range p.1 p.2.1 p.2.2:=AO.casesOn (motive:=fun o=>o.range? = some p→o = .range p.1 p.2.1 p.2.2) o jG jG jB jG jB jG jG jH (fun a b c e=>sI e▸rfl) jB jG jG jH jG jG jB jB jH no
noncomputable def zok(i j l:Int)(h:Hp):Tr AV:= .ret (.ref h.nx) (h.new (.range i j l))
def zni(m:TY)(as:List AV)(h:Hp):Tr AV:=TY.casesOn (motive:=fun X=>Tr AV) m
 (zhj as fun z=> .Op U.i? (zbn z) fun i=> .ret (.int i) h)
 (.os (a1 as) fun a=> .os a.int? fun i=> .Op U.s? (zdY i) fun z=> .ret (.str z) h)
 (.al (a1 as) (fun a=> .os a.int? fun i=>zok 0 i 1 h) (.al (a2 as) (fun p=> .os p.1.int? fun i=> .os p.2.int? fun j=>zok i j 1 h)
  (.os (a3 as) fun p=> .os p.1.int? fun i=> .os p.2.1.int? fun j=> .os p.2.2.int? fun l=> .Rq (l != 0 && !Builtin.divisionGoesByPylong (j-i) l) (zok i j l h))))
 (.os (a1 as) fun a=> .os a.ref? fun r=> .os (h.at_ r).range? fun p=> .Rq (Builtin.Range.small p.1 p.2.1 p.2.2&&decide (Builtin.Range.rangeSize p.1 p.2.1 p.2.2≤sizeL)) (nuT false ((zc4 p.1 p.2.2 (Builtin.Range.rangeSize p.1 p.2.1 p.2.2).toNat).map .int) h))
 (.rq as.isEmpty (.ret (.ref h.nx) (h.new (.set []))))
 (.os (a1 as) fun a=> .os (zaT h a) fun X=> .ret (.ref (h.nx+1)) ((h.new (.liter a 0)).new (.enumr h.nx 0)))
 (.os (a1 as) fun a=> .os a.ref? fun r=> .os (h.at_ r).list? fun q=> .ret (.ref h.nx) (h.new (.revit r ((q.2.length:Int)-1))))
 (.os (a1 as) fun a=> .al a.str? (fun X=> .ret (.ty .str) h) (.os (zaT h a) fun X=> .ret (.ty .list) h))
def zrx(m:TY)(as:List AV)(h:Hp)(K:AV→Hp→Prop):Prop:=(zni m as h).sem K
section
variable {x:List Nat} {l:Int}
theorem e1s(e:a1 as=some a)(q:a.str? = some z):a1 as=some (.str z):=AV.str?_is q▸e
theorem e1i(e:a1 as=some a)(q:a.int? = some i):a1 as=some (.int i):=AV.int?_is q▸e
theorem e2s(e:a2 as=some p)(q:p.1.str? = some z)(r:p.2.str? = some x):a2 as=some (.str z, .str x):=AV.str?_is q▸AV.str?_is r▸e
theorem e2i(e:a2 as=some p)(q:p.1.int? = some i)(r:p.2.int? = some j):a2 as=some (.int i, .int j):=AV.int?_is q▸AV.int?_is r▸e
theorem zcr{k:List Nat→Tr AV}{G:Prop}(H:(zhj as k).sem K)(f:∀z,a1 as=some (.str z)→(k z).sem K→G):G:=H.go fun X e H=>H.go fun z q H=>f z (e1s e q) H
theorem zm7(B:Tbl T P.c){b:BM}(H:zrA T b as h K):JV P (.builtin (zsd b)) as h K:=by
 induction b with
 | sJoin=>exact H.go fun p e H=>H.go fun z e1 H=>H.go fun q e2 H=>H.ex.elim fun ss H=>H.2.go fun c H'=>zoJ e e1 e2 H.1 c H'
 | sUpper=>exact zcr H fun z e H=>H.go fun c H=>zks e c H
 | sLower=>exact zcr H fun z e H=>H.go fun c H=>zlh e c H
 | sReplace=>exact H.go fun p e H=>H.go fun z e1 H=>H.go fun x e2 H=>H.go fun y e3 H=>H.go fun c H=>zhu (z:=z) (x:=x) (y:=y) (AV.str?_is e1▸AV.str?_is e2▸AV.str?_is e3▸e) c H
 | sRstrip=>exact zcr H fun z e H=>H.go fun c H=>zii e c H
 | sCount=>exact H.go fun p e H=>H.go fun z e1 H=>H.go fun x e2 H=>zih (e2s e e1 e2) H
 | lAppend=>exact H.go fun p e H=>H.go fun r e1 H=>H.go fun q e2 H=>H.go fun c H=>zfn e e1 e2 c H
 | lPop=>exact H.go fun p e H=>H.go fun r e1 H=>H.go fun q e2 H=>H.go fun u e3 H=>H.go fun i e4 H=>H.go fun c H=>(aI c).elim fun c1 c2=>zo9 (xs:=u.2) (y:=u.1) (f:=q.1) e e1 (by
   obtain ⟨f,xs⟩:=q;induction xs using cL with
   | nil=>exact no e3
   | cons y ys=>obtain rfl:=sI e3;exact e2) (show p.2.int? = some 0 from (eq_of_beq c1:i=0)▸e4) c2 H
 | lCount=>exact False.elim H
 | lReverse=>exact H.go fun a e H=>H.go fun r e1 H=>H.go fun q e2 H=>H.go fun c H=>zht e e1 e2 c H
 | dItems=>exact False.elim H
 | iBitLength=>exact H.go fun a e H=>H.go fun i e1 H=>zpq (e1i e e1) H
 | tGet=>exact H.go fun p e H=>H.go fun l e1 H=>H.go fun t e2 H=>H.go fun i e3 H=>znG B e e1 e2 e3 (H.go (fun a q H=>by unfold zg5;rw [q];exact H) fun q H=>by unfold zg5;rw [q];exact H)
 | rSearch=>exact H.go fun p e H=>H.go fun l e1 H=>H.go fun f e2 H=>H.go fun z e3 H=>H.go fun c H=>search_ok B e e1 e2 e3 c H
 | ePop=>exact H.go fun a e H=>H.go fun r e1 H=>H.go fun xs e2 H=>H.go fun x e3 H=>znT (x:=x) e e1 (by
   induction xs using cL with
   | nil=>exact no e3
   | cons y ys=>induction ys using cL with
    | nil=>obtain rfl:=sI e3;exact e2
    | cons X Z=>exact no e3) H
theorem zm5{m:BI}(H:zry m as h K):JV P (.builtin m.id) as h K:=by
 induction m with
 | len=>exact H.go fun a e H=>H.go (fun z e1 H=>H.go fun c H=>zoF (e1s e e1) c H) fun X H=>H.go fun q e1 H=>H.go fun c H=>zoG e e1 c H
 | ord=>exact zcr H fun z e H=>H.go fun c e1 H=>zqC (zmG e1▸e) H
 | chr=>exact H.go fun a e H=>H.go fun i e1 H=>H.go fun c H=>zrv (e1i e e1) c H
 | divmod=>exact H.go fun p e H=>H.go fun i e1 H=>H.go fun j e2 H=>H.go fun c H=>zjt (e2i e e1 e2) c H
 | sum=>exact H.go fun a e H=>H.go (fun xs e1 H=>H.go fun p e2 H=>H.go fun i e3 H=>H.go fun j e4 H=>znJ e (by rw [e1,znF e2,SV.i?_is e3,SV.i?_is e4]) H) fun X H=>H.go fun q e1 H=>H.ex.elim fun is H=>sum_ok e e1 H.1 H.2
 | min=>exact H.go fun a e H=>H.go fun q e1 H=>H.ex.elim fun is H=>H.2.go fun m e2 H'=>zqP e e1 H.1 e2 H'
 | max=>exact False.elim H
 | sorted=>exact H.go fun a e H=>H.go fun q e1 H=>H.go (fun X H=>H.ex.elim fun is H=>H.2.go fun c H'=>zhn e e1 H.1 c H') fun X H=>H.ex.elim fun ps H=>H.2.go fun c H'=>zhm e e1 H.1 c H'
 | iter=>exact H.go fun p e H=>H.go fun r e1 H=>H.go fun b e2 H=>zlv e e1 e2 H
theorem zm3{m:TY}(H:zrx m as h K):JV P (.type m.id) as h K:=by
 induction m with
 | int=>exact zcr H fun z e H=>H.go fun i e1 H=>zoP e e1 H
 | str=>exact H.go fun a e H=>H.go fun i e1 H=>H.go fun z e2 H=>znL (e1i e e1) e2 H
 | range=>exact H.go (fun a e H=>H.go fun i e1 H=>ziz (e1i e e1) H) fun X H=>H.go (fun p e H=>H.go fun i e1 H=>H.go fun j e2 H=>ziy (e2i e e1 e2) H) fun X H=>H.go fun p e H=>H.go fun i e1 H=>H.go fun j e2 H=>H.go fun l e3 H=>H.go fun c H=>zix (i:=i) (j:=j) (l:=l) (AV.int?_is e1▸AV.int?_is e2▸AV.int?_is e3▸e) c H
 | list=>exact H.go fun a e H=>H.go fun r e1 H=>H.go fun p e2 H=>H.go fun c H=>zlk e e1 (AO.range?_is e2) c H
 | set=>exact H.go fun c H=>znV (eI c) H
 | enumerate=>exact H.go fun a e H=>H.go fun q e1 H=>zp3 e e1 H
 | reversed=>exact H.go fun a e H=>H.go fun r e1 H=>H.go fun q e2 H=>zo0 e e1 e2 H
 | type=>exact H.go fun a e H=>H.go (fun z e1 H=>zkt (e1s e e1) H) fun X H=>H.go fun q e1 H=>zku e e1 H
end
def KR(W:Wd)(n:Nat)(kw:List (Str×AV))(kv:List (Str×Value)):Prop:=Rs (fun p q=>q.1=p.1∧VR W n p.2 q.2) kw kv
def zcZ(c:Cx)(s:Shared)(f:Value):Prop:=∃k,(k=Keeper.frame∨k=Keeper.machine∨k=Keeper.boundFrame)∧Looks (model c.prog c.w) s.heap (keeperOf f) k
section
variable {x:Str}
theorem zck{c:Cx}{id:String}:zcZ c s (.builtin id):=⟨.machine, .inr (.inl rfl), .now⟩
theorem zlr{c:Cx}{T:String}:zcZ c s (.type T):=⟨.machine, .inr (.inl rfl), .now⟩
abbrev zjX(Q E:Value→Shared→Prop)(r:Result)(s:Shared):Prop:=match r with | .ok (.ret x)=>Q x s | .ok _=>False | .error e=>E e s
def za3(P:PM T)(f:AV)(as:List AV)(kw:List (Str×AV))(h:Hp)(K:AV→Hp→Prop):Prop:=∀(A:Around) (E:Value→Shared→Prop) (Q:Value→Shared→Prop) (s:Shared) (W:Wd) (fv:Value) (vs:List Value) (kv:List (Str×Value)),
 RoomF P.c A P.n s→Rel P.c W h s→VR W h.nx f fv→Rs (VR W h.nx) as vs→KR W h.nx kw kv→Kn P VV K W h.nx s Q→zcZ P.c s fv∧codeAny (model P.c.prog P.c.w) A (.call fv ⟨vs,kv⟩) (zjX Q E) s
def zjN(P:PM T)(f:AV)(as:List AV)(kw:List (Str×AV))(h:Hp)(K:AV→Hp→Prop):Prop:=alt f.bi? (fun m=>req kw.isEmpty (zry m as h K)) (alt f.ty? (fun m=>req kw.isEmpty (zrx m as h K)) (za3 P f as kw h K))
def zpn(P:PM T)(m:MR)(as:List AV)(kw:List (Str×AV))(h:Hp)(K:AV→Hp→Prop):Prop:=MR.casesOn (motive:=fun X=>Prop) m (fun b self=>req kw.isEmpty (zrA T b (self :: as) h K)) fun f first=>zjN P f (first++as) kw h K
theorem KR.up{kw:List (Str×AV)}{kv:List (Str×Value)}{n':Nat}(L:Le n W n' W₁)(k:KR W n kw kv):KR W₁ n' kw kv:=k.imp fun X X=> .imp_right (.up L)
theorem KR.nil_of{kw:List (Str×AV)}{kv:List (Str×Value)}(k:KR W n kw kv)(e:kw.isEmpty=true):kv = []:=by
 induction k using Rs.casesOn with
 | nil=>rfl
 | cons X Z=>exact nb e
theorem zh3{f:AV}{kw:List (Str×AV)}(H:zjN P f as kw h K){Q:Value→Shared→Prop}{fv:Value}{vs:List Value}{kv:List (Str×Value)}(G:Go P W h s A)(Vf:VR W h.nx f fv)(Va:Rs (VR W h.nx) as vs)(Vk:KR W h.nx kw kv)(kn:Kn P VV K W h.nx s Q):zcZ P.c s fv∧wpAny (model P.c.prog P.c.w) A (call fv vs kv) Q E s:=
 H.go (fun m e H=>H.go fun c H=>by
  obtain rfl:fv = .builtin m.id:=(AV.bi?_is e▸Vf:VR W h.nx (.bi m) fv);rw [Vk.nil_of c];exact ⟨zck,zm5 H A E Q s W vs G Va kn⟩) fun X H=>H.go (fun m e H=>H.go fun c H=>by
  obtain rfl:fv = .type m.id:=(AV.ty?_is e▸Vf:VR W h.nx (.ty m) fv);rw [Vk.nil_of c];exact ⟨zlr,zm3 H A E Q s W vs G Va kn⟩) fun X H=>(H A E Q s W fv vs kv G.rc G.rel Vf Va Vk kn).imp id wpAny_call
theorem zm4(B:Tbl T P.c){m:MR}{kw:List (Str×AV)}(H:zpn P m as kw h K){Q:Value→Shared→Prop}{r:Value×List Value}{vs:List Value}{kv:List (Str×Value)}(G:Go P W h s A)(Vm:GR W h.nx m r)(Va:Rs (VR W h.nx) as vs)(Vk:KR W h.nx kw kv)(kn:Kn P VV K W h.nx s Q):zcZ P.c s r.1∧wpAny (model P.c.prog P.c.w) A (call r.1 (r.2++vs) kv) Q E s:=by
 induction m with
 | bm b self=>exact Vm.elim fun v e=>req.go H fun c H=>by rw [Vk.nil_of c,e.1];exact ⟨zck,zm7 B H A E Q s W (v :: vs) G (.cons e.2 Va) kn⟩
 | um f first=>exact zh3 H G Vm.1 (Vm.2.app Va) Vk kn
def zb6(ks:List Keyword):Bool:=ztL (fun k=>k.arg.isSome) ks
theorem zai{pos:Pos}{env:Env}:∀{ks:List Keyword},zb6 ks=true→(backToKw pos (keywordEach ks env)).all (·.1.isSome)=true
 | [],_=>rfl
 | ⟨n,e,p⟩ :: r,h=>by
  have h:=aI (show (n.isSome&&zb6 r)=true from h);show (n.isSome&&(backToKw pos (keywordEach r env)).all (·.1.isSome))=true;rw [h.1,zai h.2];rfl
def JK(P:PM T)(fr:Fr)(ks:List Keyword)(h:Hp)(K:List (Str×AV)→Hp→Prop):Prop:=∀(pos:Pos) (A:Around) (E:Value→Shared→Prop) (Q:List Value→Shared→Prop) (s:Shared) (W:Wd) (env:Env),Go P W h s A→FI P fr A W h.nx env→
 (∀W' kw vs h' s',Step P.c h.nx W s W' h' s'→KR W' h'.nx kw (((backToKw pos (keywordEach ks env)).filterMap (·.1)).zip vs)→K kw h'→Q vs s')→wpAny (model P.c.prog P.c.w) A (evalAll ((backToKw pos (keywordEach ks env)).map (·.2))) Q E s
theorem zqY{K:List (Str×AV)→Hp→Prop}(H:K [] h):JK P fr [] h K:=fun pos A E Q s W env G F k=>wP (k _ _ _ _ _ (.refl G.rel) .nil H)
theorem zqZ{K:List (Str×AV)→Hp→Prop}{e:Expr}{r:List Keyword}(H:JE P fr e h fun v h=>JK P fr r h fun vs h=>K ((x,v) :: vs) h):JK P fr (⟨some x,e,pos'⟩ :: r) h K:=fun pos A E Q s W env G F k=>
 wpAny_evalAll_cons (wB (H A E _ s W env G F fun X X X X X S₁ V₁ H=>wB (wS (wP (H pos A E _ _ _ env (G.on S₁) (F.up S₁.le) fun X X X X X S₂ V₂ H=>k _ _ _ _ _ (S₁.trans S₂) (.cons ⟨rfl,V₁.up S₂.le⟩ V₂) H)))))
theorem zbd{es:List Expr}:(es.map fun e=>(false,eval e env)).all (!·.1)=true:=by
 induction es with
 | nil=>rfl
 | cons e es ih=>exact ih
theorem zcy{es:List Expr}{ks:List Keyword}{pos:Pos}(h:(backToKw pos (keywordEach ks env)).all (·.1.isSome)=true):
  ((es.map fun e=>(false,eval e env)).any (·.1) || (backToKw pos (keywordEach ks env)).any (·.1.isNone))=false:=by
 have a:(es.map fun e=>(false,eval e env)).any (·.1)=false:=by induction es with | nil=>rfl | cons e es ih=>exact ih
 rw [a,Bool.false_or];exact List.any_eq_false.mpr fun x hx q=>by
  have:=aT h x hx;rw [jN q] at this;exact nb this
theorem zaJ{M:Model}{f:Value}{es:List Expr}{kws:List (Option Str×Sem Value)}{Q:Args→Shared→Prop}(hall:kws.all (·.1.isSome)=true)
  (h:wpAny M A (spliced (es.map fun e=>(false,eval e env))) (fun vs s₁=>wpAny M A (evalAll (kws.map (·.2))) (fun ks s₂=>Q ⟨vs,(kws.filterMap (·.1)).zip ks⟩ s₂) E s₁) E s):wpAny M A (evalArgs f true (es.map fun e=>(false,eval e env)) kws) Q E s:=by
 induction es using cL with
 | cons e r=>exact evalArgs_kw hall h
 | nil=>
  unfold evalArgs;show wpAny M A (spliced []>>=_) Q E s;refine wB (wM h (fun vs s₁ h₁=>?_) fun X X x=>x);refine wB (wP (wH ?_));simp only [hall,if_true];exact wB (wM h₁ (fun ks s₂ h₂=>wB (wP (wP h₂))) fun X X x=>x)
theorem zbu{es:List Expr}{ks:List Keyword}{KK:List AV→List (Str×AV)→Hp→Prop}{Q:Value→Shared→Prop}{fv:Value}{first:List Value}(hk:zb6 ks=true)(H:JEs P fr es h fun vs h=>JK P fr ks h fun kw h=>KK vs kw h)(G:Go P W h s A)(F:FI P fr A W h.nx env)
  (k:∀W' s' vs vals kw kv h',Step P.c h.nx W s W' h' s'→Rs (VR W' h'.nx) vs vals→KR W' h'.nx kw kv→KK vs kw h'→zcZ P.c s' fv∧wpAny (model P.c.prog P.c.w) A (call fv (first++vals) kv) Q E s'):
  wpAny (model P.c.prog P.c.w) A (callWith pos fv first (es.map fun e=>(false,eval e env)) (backToKw pos (keywordEach ks env))) Q E s:=
 callWith_of (P:=fun h=>zcZ P.c {s with heap:=h} fv) (zcy (zai hk)) (fun h q=>q) (zaJ (zai hk) (H A E _ s W env G F fun X X X X X S₁ V₁ H=>H pos A E _ _ _ env (G.on S₁) (F.up S₁.le) fun X X X X X S₂ V₂ H=>k _ _ _ _ _ _ _ (S₁.trans S₂) (VR.ups S₂.le V₁) V₂ H))
theorem zp8{es:List Expr}{ks:List Keyword}(ho:(zat es&&zb6 ks)=true)(hx:zgk x=true)(H:J P (FI P fr) VV (fun env=>loadName env x) h fun f h=>JEs P fr es h fun vs h=>JK P fr ks h fun kw h=>zjN P f vs kw h K):JE P fr (.Call (.Name x pos') es ks pos) h K:=fun A E Q s W env G F kn=>by
 have ho:=aI ho;refine wpAny_Call_Name_kw (wpAny_Name (H A E _ s W env G F fun X X X X X S₁ V₁ H=>?_) (zb3 hx).1);rw [za5 ho.1];exact zbu ho.2 H (G.on S₁) (F.up S₁.le) fun X X X X X X X S₂ V₂ K₂ H=>zh3 H ((G.on S₁).on S₂) (V₁.up S₂.le) V₂ K₂ ((kn.after S₁).after S₂)
theorem Tbl.b(B:Tbl T P.c):(∀a t,T.intTab a=some t→a∉P.c.tabs∧∃es k,P.c.B.get? a=some {cls:= .type "dict",data:= .dict es k})∧∀a f,T.rx a=some f→a∉P.c.tabs∧∃vs,P.c.B.get? a=some {cls:= .type "re.Pattern",data:= .fields vs}:=
 ⟨fun a t e=>(B.tab a t e).imp_right fun q=>q.2.1,fun a f e=>(B.rx a f e).imp_right fun q=>q.elim fun vs q=>q.elim fun X q=>q.elim fun X q=>q.elim fun X q=>q.elim fun X q=>⟨vs,q.1⟩⟩
theorem zp9(B:Tbl T P.c){o:Expr}{es:List Expr}{ks:List Keyword}(ho:(!zbB o&&zat es&&zb6 ks&&Nat.blt (es.length+ks.length) 29&&Nat.beq pos'.endLine pos.line)=true)
  (H:JE P fr o h fun ov h=>(∀pl,J P (V1 ov) GR (fun v=>getMethod v x pl) h fun m h=>JEs P fr es h fun vs h=>JK P fr ks h fun kw h=>zpn P m vs kw h K)):JE P fr (.Call (.Attribute o x pos') es ks pos) h K:=fun A E Q s W env G F kn=>by
 simp only [Bool.and_eq_true] at ho
 obtain ⟨⟨⟨⟨h1,h2⟩,h3⟩,h4⟩,hp⟩:=ho;have hl:=blt h4;show wpAny _ A (eval (.Call (.Attribute o x pos') es ks pos) env) Q E s;rw [arm_eval_Call,zax ((Bool.not_eq_true' _).mp h1),za5 h2];refine wB (H A E _ s W env G F fun W₁ X vo h₁ s₁ S₁ V₁ H=>wB (wS ?_));have form:methodCallForm (es.length+ks.length) (es.map fun e=>(false,eval e env)) (backToKw pos (keywordEach ks env))=true:=by
  unfold methodCallForm;rw [zai h3,zbd];simp only [Bool.true_and,decide_eq_true_eq]
  split <;> lia
 unfold methodCall;rw [form];refine wB (wH (H _ A E _ _ _ vo (G.on S₁) V₁ fun X m r X X S V H=>?_));rw [show methodCallPos true o env pos' pos=Pure.pure pos by unfold methodCallPos;simp [Nat.eq_of_beq_eq_true hp]];exact wB (wP (zbu h3 H ((G.on S₁).on S) (F.up (S₁.trans S).le) fun W₂ X X X X X h₂ S₂ V₂ K₂ H=>zm4 B H (((G.on S₁).on S).on S₂) (by
  induction m with
  | bm b self=>exact V.imp fun X=> .imp_right (.up S₂.le)
  | um f first=>exact ⟨V.1.up S₂.le,VR.ups S₂.le V.2⟩) V₂ K₂ (((kn.after S₁).after S).after S₂)))
end
theorem Rs.allI{α β:Type}{R S:α→β→Prop}{p:α→Bool}(i:∀x y,p x=true→R x y→S x y):∀{xs:List α} {ys:List β},xs.all p=true→Rs R xs ys→Rs S xs ys
 | [],_,_, .nil=> .nil
 | _ :: _,_,h, .cons a k=> .cons (i _ _ (aI h).1 a) (Rs.allI i (aI h).2 k)
def AO.bf(n:Nat)(o:AO):Bool:=Option.casesOn (motive:=fun X=>Bool) o.frame? (o.bd n) fun l=>l.all fun e=>e.2.bd n
section
variable {m:Nat} {ob:Obj}
theorem VR.bd{x:AV}{v:Value}(b:x.bd m=true)(h:VR W n x v):VR W m x v:=by
 induction x with
 | ref k=>exact ⟨blt b,h.2⟩
 | _=>exact h
theorem zcD{p:AV→Bool}{x:Str}{v:AV}:∀{l:List (Str×AV)},(l.all fun e=>p e.2)=true→l.lookup x=some v→p v=true
 | [],_,e=>no e
 | q :: r,h,e=>by
  have h:=aI h;rw [List.lookup_cons] at e;induction z:x==q.1 with
  | true=>rw [z] at e;exact sI e▸h.1
  | false=>rw [z] at e;exact zcD h.2 e
theorem ObjIs.bf{o:AO}(b:o.bf m=true)(h:ObjIs c W n ob o):ObjIs c W m ob o:=by
 induction o with
 | list f=>induction f with
  | true=>exact h.imp fun X=> .imp fun X=> .imp_right (.allI (fun X X=>VR.bd) b)
  | false=>exact h
 | dict f es=>induction f with
  | true=>exact h.imp fun X=> .imp fun X=> .imp_right (.imp_left (.allI (p:=fun e:List Nat×AV=>e.2.bd m) (fun X X b=> .imp fun X=> .imp fun X=> .imp_right (VR.bd b)) b))
  | false=>exact h
 | cell v=>induction v with
  | none=>exact h
  | some=>exact h.imp fun X=> .imp_right (.bd b)
 | inst | items | diter | revit=>exact ⟨blt b,h.2⟩
 | clo X cl=>exact h.elim fun f h=>h.elim fun v h=>⟨f,v,h.1,h.2.1,h.2.2.1,fun x k e=>⟨((zcC (g:=id) e).2 _ b).elim fun X q=>blt q,(h.2.2.2.1 x _ e).2⟩,h.2.2.2.2⟩
 | bound=>exact h.imp fun X=> .imp_right (.bd b)
 | citer=>exact h.imp fun X=> .imp fun X=> .imp_right (.imp (.bd (aI b).1) (.bd (aI b).2))
 | liter=>exact h.imp fun X=> .imp_left (.bd b)
 | enumr j=>exact h.elim fun o h=>⟨o,blt b,h.2⟩
 | frame l=>exact h.imp fun X=> .imp fun X=> .imp_right (.imp_right fun h x v e=>(h x v e).imp fun X=> .imp_right (.bd (zcD (p:=AV.bd m) b e)))
 | _=>exact h
end
structure Wk(h h':Hp):Prop where
 le:h'.nx≤h.nx
 sub:∀k,k<h'.nx→(h'.at_ k).live=true→(h.at_ k).live=true∧∀c W ob,ObjIs c W h.nx ob (h.at_ k)→ObjIs c W h'.nx ob (h'.at_ k)
section
variable {W':Wd} {h':Hp} {s':Shared}
theorem Wk.refl:Wk h h:=⟨rL _,fun X X l=>⟨l,fun X X X=>id⟩⟩
theorem Wk.trans(a:Wk h h₁)(b:Wk h₁ h'):Wk h h':=⟨lT b.le a.le,fun k q l=>(b.sub k q l).elim fun l' i=>(a.sub k (lL q b.le) l').imp id fun j c W ob z=>i c W ob (j c W ob z)⟩
theorem Rel.wk(R:Rel c W h s)(w:Wk h h'):Rel c W h' s:=
 ⟨fun k q l=>(w.sub k q l).elim fun l' i=>(R.at_ k (lL q w.le) l').imp id fun ⟨ob,h1,h2⟩=>⟨ob,h1,i _ _ _ h2⟩,fun i j a b l m e=>R.apart i j (lL a w.le) (lL b w.le) (w.sub i a l).1 (w.sub j b m).1 e,
  fun a ob e=>⟨(R.fz a ob e).1,(R.fz a ob e).2.1,fun k q l=>(R.fz a ob e).2.2 k (lL q w.le) (w.sub k q l).1⟩,R.amb,R.fzn⟩
theorem Step.wk(S:Step c n W s W' h s')(w:Wk h h')(l:n≤h'.nx):Step c n W s W' h' s':=
 ⟨S.rel.wk w,⟨l,S.le.pl,S.le.fz⟩,S.size,fun k a b=>S.fresh k a (lL b w.le),S.freshF,S.kept,S.frm⟩
theorem rng{α:Type}{f g:Nat→α}{m:Nat}(e:(List.range m).map f=(List.range m).map g){k:Nat}(q:k<m):f k=g k:=by
 have:=congrArg (·[k]?) e;simp only [List.getElem?_map,List.getElem?_range q,Option.map_some] at this;exact sI this
theorem Wk.cut(e:(List.range h'.nx).map h.at_=(List.range h'.nx).map h'.at_)(b:(Nat.ble h'.nx h.nx&&(List.range h'.nx).all fun k=>!(h'.at_ k).live || (h'.at_ k).bf h'.nx)=true):Wk h h':=by
 have b:=aI b;refine ⟨jL b.1,fun k q l=>?_⟩;have z:=aT b.2 k (List.mem_range.mpr q);rw [rng e q];exact ⟨l,fun c W ob i=>i.bf (by rw [l] at z;exact z)⟩
theorem Wk.frm{L:Nat}{l l':List (Str×AV)}(hf:(h.at_ L).frame? = some l')(e:(l.map fun p=>l'.lookup p.1)=l.map fun p=>some p.2):Wk h (h.set L (.frame l)):=by
 refine ⟨rL _,fun k q u=>?_⟩;by_cases z:k=L
 ·subst z
  rw [show (h.set k (.frame l)).at_ k = .frame l from upd_self,AO.frame?_is hf];refine ⟨rfl,fun c W ob i=>i.imp fun X=> .imp fun X=> .imp_right (.imp_right fun i x v g=>i x v ?_)⟩;clear u i hf q;induction l with
  | nil=>exact no g
  | cons p r ih=>
   rw [mC,mC] at e;rw [List.lookup_cons] at g;induction z:x==p.1 with
   | true=>rw [z] at g;rw [eq_of_beq z,(List.cons.inj e).1];exact g
   | false=>rw [z] at g;exact ih (List.cons.inj e).2 g
 ·rw [show (h.set L (.frame l)).at_ k=h.at_ k from za9 z] at u⊢
  exact ⟨u,fun X X X=>id⟩
theorem Wk.drop(k:Nat):Wk h (h.set k .other):=⟨rL _,fun j q u=>by
 by_cases z:j=k
 ·subst z;rw [show (h.set j .other).at_ j = .other from upd_self] at u;exact nb u
 ·rw [show (h.set k .other).at_ j=h.at_ j from za9 z] at u⊢;exact ⟨u,fun X X X=>id⟩⟩
end
noncomputable def zoc(T:String):Bool:=["enumerate", "zip", "dict_itemiterator", "dict_reverseitemiterator", "odict_iterator", "itertools.zip_longest", "itertools.pairwise"].contains T
theorem ifGo{α:Type}{b c:Bool}{x y:Sem α}{Q:α→Shared→Prop}(e:b=false)(H:wpAny (model P.c.prog P.c.w) A y Q E s):wpAny (model P.c.prog P.c.w) A (if (b&&c)=true then x else y) Q E s:=by
 subst e;exact H
theorem zhA{a:Addr}{v:Value}{o:Obj}{T:String}{Q:Unit→Shared→Prop}{p:Pos}(ho:s.heap.get? a=some o)(hT:o.cls = .type T)(hn:zoc T=false)(h:Q () s):wpAny (model P.c.prog P.c.w) A (letOwnedTupleGo (.List [] p) (.ref a) v) Q E s:=by
 induction v with
 | ref=>
  refine wB (wpAny_load ho ?_);obtain ⟨oc,od,dd,osl⟩:=o;obtain rfl:oc = .type T:=hT;induction dd with
  | fields=>exact ifGo hn (wP h)
  | _=>exact wP (a:=()) h
 | _=>exact wP (a:=()) h
set_option smartUnfolding false in
theorem zcF{a:Addr}{v:Value}{o:Obj}{T:String}{Q:Unit→Shared→Prop}(ho:s.heap.get? a=some o)(hT:o.cls = .type T)(hn:zoc T=false)(h:Q () s):wpAny (model P.c.prog P.c.w) A (letOwnedTupleGo t (.ref a) v) Q E s:=by
 have z:∀p,_:=fun p=>zhA (P:=P) (A:=A) (E:=E) (v:=v) (p:=p) ho hT hn h;induction t using cE with
 | Tuple=>exact z default
 | List=>exact z default
 | _=>exact wP (a:=()) h
noncomputable def zoM(o:AO):Bool:=AO.casesOn (motive:=fun X=>Bool) o jO jO jM jO jM jO jO jK jP jM jI jI jK jI jI jJ jM jP false
def zlt(x:AV)(h:Hp):Tr AV:= .al x.str? (fun s=> .ret (.ref h.nx) (h.new (.siter s 0))) (.al (zaT h x) (fun X=> .ret (.ref h.nx) (h.new (.liter x 0))) (.os x.ref? fun r=>
 .al (h.at_ r).range? (fun p=> .Rq (Builtin.Range.small p.1 p.2.1 p.2.2) (.ret (.ref h.nx) (h.new (.riter p.1 (Builtin.Range.rangeSize p.1 p.2.1 p.2.2) p.2.2))))
  (.rq (zoM (h.at_ r)) (.ret x h))))
def zlu(x:AV)(h:Hp)(K:AV→Hp→Prop):Prop:=(zlt x h).sem K
set_option tactic.hygienic true in
theorem zem{r:Nat}{Q:Value→Shared→Prop}(R:Rel P.c W h s)(hr:r<h.nx)(e:zoM (h.at_ r)=true)(q:Q (.ref (W.pl r)) s):wpAny (model P.c.prog P.c.w) A (pyIter (.ref (W.pl r))) Q E s:=by
 have z:=R.at_ r hr;revert z e;induction h.at_ r <;> intro e z <;> first | exact nb e | skip
 all_goals obtain ⟨ob,k,z⟩:=(z rfl).2
 ·obtain ⟨X,Z,rfl,Y⟩:=z
  exact Mine.self_iter ⟨_,k,rfl⟩ Mine.slot_ci_iter Mine.entry_ci_iter (Mine.args_ci_iter _) Mine.slot_ci_next q
 ·rename_i l i
  obtain ⟨v,z0,z1,z2⟩:=z;exact Mine.self_iter ⟨ob,k,z1⟩ slot_listiter_iter entry_listiter_iter (args_listiter_iter _) slot_listiter_next q
 ·obtain ⟨t,z1,z2⟩:=z
  unfold strIterType at z1
  split at z1
  ·exact wpAny_pyIter_striter_ascii ⟨ob,k,z1,z2⟩ q
  ·exact wpAny_pyIter_striter_wide ⟨ob,k,z1,z2⟩ q
 ·obtain rfl:=z
  exact wpAny_pyIter_rangeiter k q
 ·obtain ⟨old,X,rfl⟩:=z
  exact wpAny_pyIter_enum k q
 ·have z1:=z.2.1
  have z2:=z.2.2;exact Mine.self_iter ⟨ob,k,z1⟩ Mine.slot_lr_iter Mine.entry_lr_iter (Mine.args_lr_iter _) Mine.slot_lr_next q
 ·obtain ⟨X,rfl⟩:=z
  exact Mine.self_iter ⟨_,k,rfl⟩ Mine.slot_di_iter Mine.entry_di_iter (Mine.args_di_iter _) Mine.slot_di_next q
theorem zfH(H:zlu x h K):J P (V1 x) VV (fun v=>pyIter v) h K:=fun A E Q s W v G I k=>by
 show wpAny _ A (pyIter v) Q E s;refine H.go (fun z e H=>?_) fun X H=>H.go (fun p e H=>?_) fun X H=>H.go fun r e H=>?_
 ·exact (AV.str?_is e▸I:VR _ _ (.str z) v).elim fun t e=>e▸wpAny_pyIter_strU (k.nu (o:= .siter z 0) G.rel (tk:=s.toks) (d:=s.drawn) rfl (fun X X=>⟨t,rfl,rfl⟩) H)
 ·obtain ⟨l,vs,m,rfl,z1,z2⟩:=zac G.rel I e
  exact wpAny_pyIter_list ⟨_,z1,rfl,_,rfl⟩ (k.nu (o:= .liter x 0) G.rel (tk:=s.toks) (d:=s.drawn) rfl (fun X L=>⟨_,VR.up L I,rfl,rfl⟩) H)
 ·obtain ⟨hr,rfl⟩:=(AV.ref?_is e▸I:VR _ _ (.ref r) v)
  refine H.go (fun p e1 H=>H.go fun c H=>?_) fun X H=>H.go fun c H=>?_
  ·obtain ⟨ob,k1,t,u,v,rfl⟩:=G.rel.obj hr (AO.range?_is e1) rfl
   exact wpAny_pyIter_range k1 c (k.nu (o:= .riter p.1 (Builtin.Range.rangeSize p.1 p.2.1 p.2.2) p.2.2) G.rel (tk:=s.toks) (d:=s.drawn) rfl (fun X X=>rfl) H)
  ·exact zem G.rel hr c (k (.refl G.rel) I H)
section
variable {K:Option AV→Hp→Prop} {o o':AO}
def JN(P:PM T)(t:Expr)(it:Nat)(h:Hp)(K:Option AV→Hp→Prop):Prop:=∀(A:Around) (E:Value→Shared→Prop) (Q:Option Value→Shared→Prop) (s:Shared) (W:Wd),Go P W h s A→it<h.nx→
 (∀W' h' s',Step P.c h.nx W s W' h' s'→K none h'→Q none s')→
 (∀v s',wpAny (model P.c.prog P.c.w) A (letOwnedTupleGo t (.ref (W.pl it)) v) (fun X s₂=>∃W' x h',Step P.c h.nx W s W' h' s₂∧VR W' h'.nx x v∧K (some x) h') E s'→Q (some v) s')→wpAny (model P.c.prog P.c.w) A (pyNext (.ref (W.pl it))) Q E s
theorem zgo(eo:h.at_ it=o)(l0:(o.live&&o.frame?.isNone)=true)(l1:o'.live=true)(f:∀(A:Around) (E:Value→Shared→Prop) s W ob,Go P W h s A→s.heap.get? (W.pl it)=some ob→ObjIs P.c W h.nx ob o→∀R:Option Value→Shared→Prop,
  (∀h' tk v ob' T,VR W h.nx x v→Heap.SameBut (W.pl it) s.heap h'→h'.get? (W.pl it)=some ob'→ob'.cls = .type T→zoc T=false→ObjIs P.c W h.nx ob' o'→R (some v) {s with heap:=h',toks:=tk})→wpAny (model P.c.prog P.c.w) A (pyNext (.ref (W.pl it))) R E s)
  (H:K (some x) (h.set it o')):JN P t it h K:=fun A E Q s W G hr k1 k2=>by
 obtain ⟨ob,g,z⟩:=G.rel.obj hr eo (aI l0).1;exact f A E s W ob G g z Q fun h' tk v ob' T hv sb g' c1 c2 z'=>k2 _ _ (zcF (s:={s with heap:=h',toks:=tk}) g' c1 c2 ⟨W,x,_, .set (s':={s with heap:=h',toks:=tk}) G.rel (k:=it) o' hr (eo▸(aI l0).1) (fun X X q=>nb ((congrArg (fun o:AO=>o.frame?.isNone) (eo.symm.trans q)).symm.trans (aI l0).2)) (fun X=>⟨ob',g',z'⟩) (fun b o e hb=>(sb.2 b hb).trans e) rfl rfl (eL sb.1.symm),hv,H⟩)
theorem zlb(eo:h.at_ it=o)(l0:(o.live&&o.frame?.isNone)=true)(f:∀(A:Around) (E:Value→Shared→Prop) s W ob,Go P W h s A→s.heap.get? (W.pl it)=some ob→ObjIs P.c W h.nx ob o→∀R:Option Value→Shared→Prop,(∀h',Heap.ExtBut (W.pl it) s.heap h'→R none {s with heap:=h'})→wpAny (model P.c.prog P.c.w) A (pyNext (.ref (W.pl it))) R E s)
  (H:K none (h.set it .other)):JN P t it h K:=fun A E Q s W G hr k1 k2=>by
 obtain ⟨ob,g,z⟩:=G.rel.obj hr eo (aI l0).1;refine wpAny_sz (f A E s W ob G g z (fun r s'=>s.heap.objs.size≤s'.heap.objs.size→Q r s') fun h' ex hz=>k1 _ _ _ (.set (s':={s with heap:=h'}) G.rel (k:=it) .other hr (eo▸(aI l0).1) (fun X X q=>nb ((congrArg (fun o:AO=>o.frame?.isNone) (eo.symm.trans q)).symm.trans (aI l0).2)) (fun l=>nb l) (fun b o e hb=>ex b o hb e) rfl rfl hz) H)
theorem zor(eo:h.at_ it = .liter v k)(e:zaT h v=some q)(ex:q.2[k]? = some x)(H:K (some x) (h.set it (.liter v (k+1)))):JN P t it h K:=zgo eo rfl rfl (fun A E s W ob G g z R f=>by
 obtain ⟨u,z0,z1,z2⟩:=z;obtain ⟨l,vs,m,rfl,y1,y2⟩:=zac G.rel z0 e;obtain ⟨w,e1,e2⟩:=y2.get k x ex;exact wpAny_pyNext_list_item ⟨_,g,z1,z2⟩ ⟨_,y1,rfl,_,rfl⟩ (Array.getElem?_toList.symm.trans e1) fun h' hit hs=>hit.elim fun o' g=>f h' s.toks w o' _ (VR.up (zc6 q.1) e2) hs g.1 g.2.1 rfl ⟨_,z0,g.2.1,g.2.2⟩) H
theorem zla(eo:h.at_ it = .liter v k)(e:zaT h v=some q)(ex:q.2[k]? = none)(H:K none (h.set it .other)):JN P t it h K:=zlb eo rfl (fun A E s W ob G g z R f=>by
 obtain ⟨u,z0,z1,z2⟩:=z;obtain ⟨l,vs,m,rfl,y1,y2⟩:=zac G.rel z0 e;exact wpAny_pyNext_list_end G.room.hand ⟨_,g,z1,z2⟩ ⟨_,y1,rfl,_,rfl⟩ (Array.getElem?_eq_none (y2.size▸List.getElem?_eq_none_iff.mp ex)) f) H
theorem zoo{z:List Nat}{c:Nat}(eo:h.at_ it = .siter z k)(ex:z[k]? = some c)(H:K (some (.str [c])) (h.set it (.siter z (k+1)))):JN P t it h K:=zgo eo rfl rfl (fun A E s W ob G g y R f=>by
 obtain ⟨u,k1,k2⟩:=y;have hch:(za0 z).cps[k]? = some c:=List.getElem?_toArray.trans ex;have fin:∀h':Heap,h'.IsStrIter (W.pl it) (strIterType (za0 z)) (za0 z) u (k+1)→Heap.SameBut (W.pl it) s.heap h'→R (some (.str ⟨#[c]⟩ s.toks)) {s with heap:=h',toks:=s.toks+1}:=fun h' hit hs=>hit.elim fun o' g=>f h' (s.toks+1) _ o' _ ⟨_,rfl⟩ hs g.1 g.2.1 (by unfold strIterType;split <;> decide) ⟨u,g.2.1,g.2.2⟩
 unfold strIterType at fin k1
 split at k1
 ·rename_i gg;rw [if_pos gg] at fin;exact wpAny_pyNext_ascii_item ⟨_,g,k1,k2⟩ hch fin
 ·rename_i gg;rw [if_neg gg] at fin;exact wpAny_pyNext_wide_item ⟨_,g,k1,k2⟩ hch fin) H
theorem zl7{z:List Nat}(eo:h.at_ it = .siter z k)(ex:z[k]? = none)(H:K none (h.set it .other)):JN P t it h K:=zlb eo rfl (fun A E s W ob G g y R f=>by
 obtain ⟨u,k1,k2⟩:=y;have hch:(za0 z).cps[k]? = none:=List.getElem?_toArray.trans ex;unfold strIterType at k1
 split at k1
 ·exact wpAny_pyNext_ascii_end G.room.hand ⟨_,g,k1,k2⟩ hch f
 ·exact wpAny_pyNext_wide_end G.room.hand ⟨_,g,k1,k2⟩ hch f) H
theorem zop{a m d:Int}(eo:h.at_ it = .riter a m d)(hm:0<m)(H:K (some (.int a)) (h.set it (.riter (a+d) (m-1) d))):JN P t it h K:=zgo eo rfl rfl (fun A E s W ob G g y R f=>by
 obtain rfl:=y;exact wpAny_pyNext_range_item g hm fun h' hit hs=>f h' _ _ _ _ ⟨_,rfl⟩ hs hit rfl rfl rfl) H
theorem zl8{a m d:Int}(eo:h.at_ it = .riter a m d)(hm:m≤0)(H:K none (h.set it .other)):JN P t it h K:=zlb eo rfl (fun A E s W ob G g y R f=>by
 obtain rfl:=y;exact wpAny_pyNext_range_end G.room.hand g hm f) H
theorem zoq(eo:h.at_ it = .revit l (k:Int))(e:(h.at_ l).list? = some q)(ex:q.2[k]? = some x)(H:K (some x) (h.set it (.revit l ((k:Int)-1)))):JN P t it h K:=zgo eo rfl rfl (fun A E s W ob G g z R f=>by
 obtain ⟨hl,z1,z2⟩:=z;obtain ⟨vs,m,y1,y2⟩:=zbT G.rel hl e;obtain ⟨w,e1,e2⟩:=y2.get k x ex;exact wpAny_pyNext_rev_item ⟨_,g,z1,z2⟩ ⟨_,y1,rfl,_,rfl⟩ (Array.getElem?_toList.symm.trans e1) fun h' hit hs=>hit.elim fun o' g=>f h' s.toks w o' _ (VR.up (zc6 q.1) e2) hs g.1 g.2.1 rfl ⟨hl,g.2.1,g.2.2⟩) H
theorem zl9(eo:h.at_ it = .revit l (-1))(H:K none (h.set it .other)):JN P t it h K:=zlb eo rfl (fun A E s W ob G g z R f=>wpAny_pyNext_rev_end G.room.hand ⟨_,g,z.2.1,z.2.2⟩ f) H
end
section
variable {K:Option AV→Hp→Prop} {j:Nat} {es:List Expr} {b:SV}
theorem zdv(G:Go P W h s A)(hr:it<h.nx)(eo:h.at_ it = .enumr j k)(ej:h.at_ j = .liter v k)(e:zaT h v=some q):∃old l vs m ob,j<h.nx∧s.heap.get? (W.pl it)=some {cls:= .type "enumerate",data:= .fields #[.none, .bool false, .ref (W.pl j),rawInt k, .none,old]}∧s.heap.get? (W.pl j)=some ob∧ob.cls = .type "list_iterator" ∧ob.data = .fields #[.ref l, .int k 0]∧VR W h.nx v (.ref l)∧s.heap.get? l=some (zbp "list" vs m)∧Rs (VR W (lim q.1 h.nx)) q.2 vs.toList∧W.pl it≠W.pl j:=by
 obtain ⟨ob,g,old,hj,rfl⟩:=G.rel.obj hr eo rfl;obtain ⟨ob',g',u,z0,z1,z2⟩:=G.rel.obj hj ej rfl;obtain ⟨l,vs,m,rfl,y1,y2⟩:=zac G.rel z0 e;exact ⟨old,l,vs,m,ob',hj,g,g',z1,z2,z0,y1,y2,fun q=>by
  have:=G.rel.apart it j hr hj (eo▸rfl) (ej▸rfl) q;subst this;exact AO.noConfusion (eo.symm.trans ej)⟩
theorem zqM{kk:Nat}(eo:h.at_ it = .enumr j k)(ej:h.at_ j = .liter v k)(e:zaT h v=some q)(ex:q.2[k]? = some x)(eb:sv? x=some b)(H:K (some (.tup [.int k,b])) ((h.set j (.liter v (k+1))).set it (.enumr j (k+1)))):JN P (.Tuple es kk pos) it h K:=fun A E Q s W G hr k1 k2=>by
 obtain ⟨old,l,vs,m,ob,hj,g,g',z1,z2,z0,y1,y2,ne⟩:=zdv G hr eo ej e;obtain ⟨w,e1,e2⟩:=y2.get k x ex;refine wpAny_sz (wpAny_pyNext_enum_item (Q:=fun r s'=>s.heap.objs.size≤s'.heap.objs.size→Q r s') (i:=k) g ⟨_,g',z1,z2⟩ ⟨_,y1,rfl,_,rfl⟩ (Array.getElem?_toList.symm.trans e1) ne fun h' eo' hit' ht' hz hk hsz=>k2 _ _ (wpAny_letOwnedTupleGo_enum eo' fun h₂ he₂ hs₂=>?_));obtain ⟨o',g1,g2,g3⟩:=hit';have S₁:Step P.c h.nx W s W (h.set j (.liter v (k+1))) {s with heap:=s.heap.update (W.pl j) fun X=>o'}:= .set G.rel (k:=j) _ hj (ej▸rfl) (fun X X q=>AO.noConfusion (ej.symm.trans q)) (fun X=>⟨o',Heap.get?_update_self (fun X=>o') g' (Obj.isFreed_of_fields g3),_,z0,g2,g3⟩) (fun b o eb hb=>(Heap.get?_update_ne _ _ _ _ hb).trans eb) rfl rfl (eL (upd_size _ _ _).symm)
 have ea:(h.set j (.liter v (k+1))).at_ it = .enumr j k:=(za9 fun q=>ne (congrArg W.pl q)).trans eo
 let eO:Obj:={cls:= .type "enumerate",data:= .fields #[.none, .bool false, .ref (W.pl j),rawInt ((k:Int)+1), .none,w]}
 have ga:(s.heap.update (W.pl j) fun X=>o').get? (W.pl it)=some _:=(Heap.get?_update_ne _ _ _ _ ne).trans g;have S₂:Step P.c h.nx W s W ((h.set j (.liter v (k+1))).set it (.enumr j (k+1))) {s with heap:=(s.heap.update (W.pl j) fun X=>o').update (W.pl it) fun X=>eO}:=S₁.trans (.set S₁.rel (k:=it) _ hr (ea▸rfl) (fun X X q=>AO.noConfusion (ea.symm.trans q)) (fun X=>⟨eO,Heap.get?_update_self (fun X=>eO) ga rfl,w,hj,rfl⟩) (fun b o eb hb=>(Heap.get?_update_ne _ _ _ _ hb).trans eb) rfl rfl (eL (upd_size _ _ _).symm))
 have hlt:=hZ g;have tup:h₂.get? s.heap.objs.size=some (zbp "tuple" #[.int k s.toks,w] 0):=(hs₂.2 _ (Nat.ne_of_gt hlt)).trans ht';have sz2:((s.heap.update (W.pl j) fun X=>o').update (W.pl it) fun X=>eO).objs.size=s.heap.objs.size:=by rw [upd_size,upd_size]
 have S₃:=Step.frz S₂.rel (s':={s with heap:=h₂,toks:=s.toks+1}) (l:=s.heap.objs.size) tup (sz2▸rL _) (G.rel.outside (rL _)) (fun b o eb=>by
  by_cases hba:b=W.pl it
  ·subst hba;rw [Heap.get?_update_self (fun X=>eO) ga rfl] at eb;exact eb▸he₂
  ·rw [Heap.get?_update_ne _ _ _ _ hba] at eb
   by_cases hbx:b=W.pl j
   ·subst hbx;rw [Heap.get?_update_self (fun X=>o') g' (Obj.isFreed_of_fields g3)] at eb;exact (hs₂.2 _ hba).trans (eb▸g1)
   ·rw [Heap.get?_update_ne _ _ _ _ hbx] at eb;exact (hs₂.2 b hba).trans (hk b o hba hbx eb)) rfl rfl (by show _≤h₂.objs.size;rw [sz2,hs₂.1];exact hsz)
 exact ⟨_, .tup [.int k,b],_,S₂.trans S₃,⟨_,_,_,rfl,upd_self, .cons ⟨_,rfl⟩ (.cons (zqd eb e2) .nil)⟩,H⟩
theorem zos{t:Expr}(eo:h.at_ it = .enumr j k)(ej:h.at_ j = .liter v k)(e:zaT h v=some q)(ex:q.2[k]? = none)(H:K none ((h.set j .other).set it .other)):JN P t it h K:=fun A E Q s W G hr k1 k2=>by
 obtain ⟨old,l,vs,m,ob,hj,g,g',z1,z2,z0,y1,y2,ne⟩:=zdv G hr eo ej e;refine wpAny_sz (wpAny_pyNext_enum_end (Q:=fun r s'=>s.heap.objs.size≤s'.heap.objs.size→Q r s') G.room.hand g ⟨_,g',z1,z2⟩ ⟨_,y1,rfl,_,rfl⟩ (Array.getElem?_eq_none (y2.size▸List.getElem?_eq_none_iff.mp ex)) fun h' hs hsz=>?_);have S₁:Step P.c h.nx W s W (h.set j .other) {s with heap:=h'}:= .set G.rel (k:=j) .other hj (ej▸rfl) (fun X X q=>AO.noConfusion (ej.symm.trans q)) (fun l=>nb l) (fun b o e hb=>hs b o hb e) rfl rfl hsz
 exact k1 _ _ _ (S₁.wk (.drop it) (rL _)) H
end
section
variable {K:Option AV→Hp→Prop} {b:Nat} {p:AV×Nat} {d:FDat×List AV}
theorem zjT(R:Rel P.c W h s)(hb:b<h.nx)(e:(h.at_ b).bound? = some p)(ed:T.defs p.2=some d):Looks (model P.c.prog P.c.w) s.heap (borrowsExactly (.ref (W.pl b))) true:=by
 obtain ⟨ob,k2,sv,rfl,k3⟩:=R.obj hb (AO.bound?_is e) rfl;obtain ⟨t,o,fd,q1,q2,X⟩:=P.S.fn _ _ _ ed;refine (Looks.ld (part:=none) k2).andThen ?_;show Looks _ _ (if (Value.type "method" ==Value.type "method")=true then _ else _) true;rw [if_pos (by decide)];exact (Looks.ld (part:=none) (R.amb.base _ _ q1 t)).andThen (by rw [q2];exact .now)
theorem zek{f:Value}{Q:Value→Shared→Prop}(h:wpAny (model P.c.prog P.c.w) A (call f []) Q E s):wpAny (model P.c.prog P.c.w) A (callBorrowed f []) Q E s:=fun Γ p hΓ=>by
 have k:=h Γ p hΓ;unfold PySem.call at k;rw [Sem.wp_runValue] at k;unfold callBorrowed;rw [Sem.wp_call];refine wpCode_mono ?_ k;intro r s' hr;rcases r with e | (v | _ | _ | _) <;> first | exact hr | exact hr.elim
def citK(it b:Nat)(z:List Nat)(p:AV×Nat)(K:Option AV→Hp→Prop)(r:AV)(h:Hp):Prop:=opt r.str? fun y=>h.at_ it = .citer (.ref b) (.str z) false∧(h.at_ b).bound? = some p∧Br (y==z) (K none (h.set it (.citer .none .none true))) (K (some (.str y)) h)
theorem zot(eo:h.at_ it = .citer (.ref b) (.str z) false)(eb:(h.at_ b).bound? = some p)(ed:T.defs p.2=some d)(H:za3 P (.ref b) [] [] h (citK it b z p K)):JN P t it h K:=fun A E Q s W G hr k1 k2=>by
 obtain ⟨ob,g,fv,zv,rfl,⟨hb,rfl⟩,k4⟩:=G.rel.obj hr eo rfl;have hT:s.TypeIs (.ref (W.pl it)) "callable_iterator" :=⟨_,g,rfl⟩;refine wpAny_sz ?_;unfold pyNext;refine wB (wpAny_attempt (wpAny_callSpecial?_slot (name:=Str.ofString "__next__") hT Mine.slot_ci_next
  (wpAny_call_entry Mine.slot_ci_next hT Mine.entry_ci_next ?_ (Mine.args_ci_next _))))
 show wpAny _ _ (field (.ref (W.pl it)) 2>>=_) _ _ s;refine wB (wpAny_field g rfl (x:= .bool false) rfl ?_);show wpAny _ _ (if (Value.bool false==Value.bool true)=true then _ else _) _ _ s;refine Mine.wIfN (by decide) ?_;show wpAny _ _ (field (.ref (W.pl it)) 0>>=_) _ _ s;refine wB (wpAny_field g rfl (x:= .ref (W.pl b)) rfl ?_);have hRc:RoomF P.c A.in1 P.n s:=⟨⟨G.room.hand,by have:=G.room.depth;show A.depth+_<_;exact lz2 0xe1020a11e80460000013840828641e8046000000041 this,by have:=G.room.units;show A.units+1+_+_<_;exact lz3 0x8841182087f010818460000000012210640821fc042046000000041 this⟩,G.frs⟩;refine wB (wpAny_attempt ?_);unfold callOutOfASlot;refine wB ((zjT G.rel hb eb ed).here ?_);refine Mine.wIfP rfl ?_;refine zek (wpAny_call (H A.in1 _ _ s W (.ref (W.pl b)) [] [] hRc G.rel ⟨hb,rfl⟩ .nil .nil fun W₁ r rv h₁ s₁ S₁ V₁ H=>H.go fun y e2 H=>?_).2);have eo':=H.1;have eb':=H.2.1;have H:=H.2.2;obtain ⟨u,rfl⟩:=(AV.str?_is e2▸V₁:VR _ _ (.str y) rv);have hr₁:it<h₁.nx:=lL hr S₁.le.le;obtain ⟨ob,g',fv',zv',rfl,⟨hb',rfl⟩,zt,rfl⟩:=S₁.rel.obj hr₁ eo' rfl;rw [S₁.le.pl it hr] at g'
 dsimp only
 show wpAny _ _ (field (.ref (W.pl it)) 2>>=_) _ _ s₁;refine wB (wpAny_field g' rfl (x:= .bool false) rfl ?_);show wpAny _ _ (if (Value.bool false==Value.bool true)=true then _ else _) _ _ s₁;refine Mine.wIfN (by decide) ?_;show wpAny _ _ (field (.ref (W.pl it)) 1>>=_) _ _ s₁;refine wB (wpAny_field g' rfl (x:= .str (za0 z) zt) rfl ?_);have cmp:EqAt A.in1 s₁ (.str (za0 z) zt) (.str (za0 y) u) (y==z):=by
  have:=EqAt.str_str (A:=A.in1) (s:=s₁) (za0 z) zt (za0 y) u;rwa [show (za0 z==za0 y)=(y==z) from strOf_beq.trans (by rw [Bool.beq_comm])] at this
 refine wB (wH (cmp _ _ _ _ ?_));refine H.go (fun e H=>?_) fun e H=>?_
 ·rw [e]
  simp only [Bool.not_true,Bool.false_eq_true,if_false]
  refine wB (wpAny_rule (wB ?_));show wpAny _ _ (field (.ref (W.pl it)) 0>>=_) _ _ s₁;refine wB (wpAny_field g' rfl (x:= .ref (W₁.pl b)) rfl (wB ?_));have goes:wpAny (model P.c.prog P.c.w) A.in1 (slotLetsGo "callable_iterator.__next__" (.ref (W₁.pl b)) fun | .builtin "callable_iterator.__next__" x=>x.pos.head? == some (.ref (W.pl it)) | _=>false) (fun X s'=>s₁=s') (fun X X=>False) s₁:=by
   unfold slotLetsGo;refine wB ((zjT S₁.rel hb' eb' ed).here ?_);refine Mine.wIfP rfl ?_;exact wP rfl
  refine wM goes (fun X s' q=>?_) fun X X q=>q.elim;subst q;refine wpAny_bind (wpAny_setField_rec g' (by simp) fun h1 g1 b1=>?_);refine wpAny_bind (wpAny_setField_rec (s:={s₁ with heap:=h1}) g1 (by simp) fun h2 g2 b2=>?_)
  refine wpAny_setField_rec (s:={s₁ with heap:=h2}) g2 (by simp) fun h3 g3 b3=>?_
  have bt:Heap.SameBut (W.pl it) s₁.heap h3:=(b1.trans b2).trans b3;have S₂:Step P.c h₁.nx W₁ s₁ W₁ (h₁.set it (.citer .none .none true)) {s₁ with heap:=h3}:= .set S₁.rel (k:=it) _ hr₁ (eo'▸rfl) (fun X X q=>AO.noConfusion (eo'.symm.trans q)) (fun X=>⟨_,S₁.le.pl it hr▸g3, .none, .none,by simp,rfl,rfl⟩) (fun b o eb hb=>(bt.2 b (S₁.le.pl it hr▸hb)).trans eb) rfl rfl (Nat.le_of_eq bt.1.symm)
  exact wM (Mine.stop_ok (E:=E) (Q:=fun r s'=>s.heap.objs.size≤s'.heap.objs.size→Q r s') G.room.hand fun h' hk hz X=>k1 _ _ _ ((S₁.trans S₂).trans (.keeps S₂.rel hk rfl rfl hz)) H) (fun X X q=>False.elim q) fun e s' q=>q
 ·rw [e]
  simp only [Bool.not_false,if_true]
  exact wP ⟨_,rfl,wP fun X=>k2 _ _ (zcF g' rfl rfl ⟨_, .str y,_,S₁,⟨u,rfl⟩,H⟩)⟩
theorem zlc{f w:AV}(eo:h.at_ it = .citer f w true)(H:K none h):JN P t it h K:=fun A E Q s W G hr k1 k2=>by
 obtain ⟨ob,g,fv,zv,rfl,X,Z⟩:=G.rel.obj hr eo rfl;have hT:s.TypeIs (.ref (W.pl it)) "callable_iterator" :=⟨_,g,rfl⟩;unfold pyNext;refine wB (wpAny_attempt (wpAny_callSpecial?_slot (name:=Str.ofString "__next__") hT Mine.slot_ci_next
  (wpAny_call_entry Mine.slot_ci_next hT Mine.entry_ci_next ?_ (Mine.args_ci_next _))))
 show wpAny _ _ (field (.ref (W.pl it)) 2>>=_) _ _ s;refine wB (wpAny_field g rfl (x:= .bool true) rfl ?_);show wpAny _ _ (if (Value.bool true==Value.bool true)=true then _ else _) _ _ s;refine Mine.wIfP (by decide) ?_;refine wB (wpAny_rule ?_);exact wB (wM (Mine.stop_ok (E:=E) (Q:=Q) G.room.hand fun h' hk hz=>k1 _ _ _ (.keeps G.rel hk rfl rfl hz) H) (fun X X q=>False.elim q) fun e s' q=>q)
end
section
variable {K:Fl→Hp→Prop} {i:Expr} {b:List Stmt}
def turn(R:Hp→Prop)(K:Fl→Hp→Prop)(x:Fl)(h:Hp):Prop:=Fl.casesOn (motive:=fun X=>Prop) x (R h) (K .next h) (R h) fun v=>K (.ret v) h
structure On(I:Nat→Hp→Prop)(n k:Nat)(h:Hp):Prop where
 go:∃h' j,Wk h h'∧n≤h'.nx∧j<k∧I j h'
theorem zi2{R:Result→Shared→Prop}{I:Nat→Hp→Prop}{S₀:Nat→Shared→Prop}{x:Fl}{f:Flow}{h₀:Hp}(S:Step P.c h₀.nx W s W₁ h₁ s₁)(V:FF W₁ h₁.nx x f)(H:turn (On I h₀.nx k) K x h₁)(go:∀j h',j<k→Step P.c h₀.nx W s W₁ h' s₁→I j h'→S₀ j s₁)(fin:∀y g,FF W₁ h₁.nx y g→K y h₁→R (.ok g) s₁):(match (motive:=Flow→Prop) f with
  | .next | .cont=>∃m,m<k∧S₀ m s₁
  | .brk=>R (.ok .next) s₁
  | .ret v=>R (.ok (.ret v)) s₁):=by
 have on:On I h₀.nx k h₁→∃m,m<k∧S₀ m s₁:=fun ⟨h',j,w,l,q,z⟩=>⟨j,q,go j h' q (S.wk w l) z⟩;induction x with
 | next=>obtain rfl:f = .next:=V;exact on H
 | cont=>obtain rfl:f = .cont:=V;exact on H
 | brk=>obtain rfl:f = .brk:=V;exact fin .next .next rfl H
 | ret v=>obtain ⟨u,rfl,z⟩:=V;exact fin (.ret v) (.ret u) ⟨u,rfl,z⟩ H
theorem znv{I:Nat→Hp→Prop}(hb:∀k h',I k h'→JT P fr t h' fun c h'=>Br c (JSs P fr b h' (turn (On I h.nx k) K)) (K .next h'))(H:I k h):JS P fr (.While t b [] pos) h K:=fun A E Q s W env G F kn=>by
 refine wpAny_While (codeAny_whileLoop (fun k s'=>∃W' h',Step P.c h.nx W s W' h' s'∧I k h') ?_ k ⟨W,h, .refl G.rel,H⟩)
 rintro k s₁ ⟨W₁,h₁,S₁,H⟩
 refine hb k h₁ H A _ _ s₁ W₁ env (G.on S₁) (F.up S₁.le) fun W₂ c b h₂ s₂ S₂ V H=>?_;obtain rfl:b=c:=V;have S:=S₁.trans S₂;refine H.go (fun e H'=>?_) fun e H'=>?_
 ·subst e
  exact H' A _ _ s₂ W₂ env (G.on S) (F.up S.le) fun W₃ x f h₃ s₃ S₃ V H=>zi2 (R:=fun r s'=>match r with | .ok f=>Q f s' | .error e=>cameBackBy (model P.c.prog P.c.w) A env E e s') (S₀:=fun k s'=>∃W' h',Step P.c h.nx W s W' h' s'∧I k h') (S.trans S₃) V H (fun j h' X S z=>⟨_,_,S,z⟩) fun y g V H=>kn (S.trans S₃) V H
 ·subst e
  exact wpAny_execs_nil (kn (v:= .next) S rfl H')
structure ForJ(P:PM T)(fr:Fr)(t:Expr)(b:List Stmt)(it:Nat)(h:Hp)(K:Fl→Hp→Prop):Prop where
 go:∃(I:Nat→Hp→Prop) (k:Nat),I k h∧∀k h',I k h'→it<h'.nx∧JN P t it h' fun o h'=>Option.casesOn (motive:=fun X=>Prop) o (K .next h') fun x=>JA' P fr t x h' fun X h'=>JSs P fr b h' (turn (On I h.nx k) K)
theorem zsm(hi:zfI i=false)(H:JE P fr i h fun x h=>zlu x h fun v h=>opt v.ref? fun it=>ForJ P fr t b it h K):JS P fr (.For t i b [] pos) h K:=fun A E Q s W env G F kn=>by
 refine wpAny_For (H A E _ s W env G F fun W₁ x vx h₁ s₁ S₁ V₁ H=>zfH H A E _ s₁ W₁ vx (G.on S₁) V₁ fun W₂ v itv h₂ s₂ S₂ V₂ H=>H.go fun it e H=>?_) (fun x=>by induction i using cE <;> first | rfl | exact nb hi.symm)
 obtain ⟨hit,rfl⟩:=(AV.ref?_is e▸V₂:VR _ _ (.ref it) itv);obtain ⟨I,k,H,hb⟩:=H;have S₀:=S₁.trans S₂;refine codeAny_forLoop_any (fun k s'=>∃W' h',Step P.c h₂.nx W₂ s₂ W' h' s'∧I k h') ?_ k ⟨W₂,h₂, .refl S₂.rel,H⟩
 rintro k s₃ ⟨W₃,h₃,S₃,H⟩
 obtain ⟨hi',H⟩:=hb k h₃ H;have S:=S₀.trans S₃;rw [←S₃.le.pl it hit];refine H A _ _ s₃ W₃ (G.on S) hi' (fun W₄ h₄ s₄ S₄ H=>wpAny_execs_nil (kn (v:= .next) (S.trans S₄) rfl H)) fun v s₄ z=>wM z (fun X s₅ z=>?_) fun X X q=>q;obtain ⟨W₅,x,h₅,S₅,V₅,H⟩:=z;refine H A _ _ s₅ W₅ (env,v) ((G.on S).on S₅) ⟨F.up (S.trans S₅).le,V₅⟩ fun W₆ X X h₆ s₆ S₆ X H=>?_;have S':=S₃.trans (S₅.trans S₆);exact H A _ _ s₆ W₆ env (((G.on S).on S₅).on S₆) (F.up (S₀.trans S').le) fun W₇ x f h₇ s₇ S₇ V H=>zi2 (R:=fun r s'=>match r with | .ok f=>Q f s' | .error e=>cameBackBy (model P.c.prog P.c.w) A env E e s') (S₀:=fun k s'=>∃W' h',Step P.c h₂.nx W₂ s₂ W' h' s'∧I k h') (S'.trans S₇) V H (fun j h' X S z=>⟨_,_,S,z⟩) fun y g V H=>kn (S₀.trans (S'.trans S₇)) V H
structure Iter(P:PM T)(t:Expr)(it:Nat)(xs:List AV)(In:Nat→Hp→Prop)(adv:Nat→Hp→Hp)(fin:Hp→Hp):Prop where
 step:∀k x h (K:Option AV→Hp→Prop),xs[k]? = some x→In k h→K (some x) (adv k h)→JN P t it h K
 stop:∀h (K:Option AV→Hp→Prop),In xs.length h→K none (fin h)→JN P t it h K
structure On1(I:Nat→Hp→Prop)(n k:Nat)(h:Hp):Prop where
 go:∃h',Wk h h'∧n≤h'.nx∧I (k+1) h'
theorem zeu{R R':Hp→Prop}{x:Fl}(i:∀h,R h→R' h)(H:turn R K x h):turn R' K x h:=by
 induction x with
 | next | cont=>exact i _ H
 | _=>exact H
theorem ForJ.of{xs:List AV}{In:Nat→Hp→Prop}{adv:Nat→Hp→Hp}{fin:Hp→Hp}(D:Iter P t it xs In adv fin)(I:Nat→Hp→Prop)(h0:I 0 h)(hl:∀k h,I k h→it<h.nx∧In k h)
  (hb:∀k x h',xs[k]? = some x→I k h'→JA' P fr t x (adv k h') fun X h'=>JSs P fr b h' (turn (On1 I h.nx k) K)) (he:∀h,I xs.length h→K .next (fin h)):ForJ P fr t b it h K:=by
 refine ⟨fun m h'=>∃k,k+m=xs.length∧I k h',xs.length,⟨0,Nat.zero_add _,h0⟩,fun m h' z=>z.elim fun k z=>⟨(hl k h' z.2).1,?_⟩⟩;induction m using Nat.casesOn with
 | zero=>obtain rfl:k=xs.length:=z.1;exact D.stop _ _ (hl _ _ z.2).2 (he _ z.2)
 | succ m=>
  have hk:k<xs.length:=lz3 0x8846000048847006000041 (lzq z.1);exact D.step k _ _ _ (gG hk) (hl _ _ z.2).2 ((hb k _ h' (gG hk) z.2).mono fun X X H=>J.mono H fun x h H=>zeu (fun h ⟨h',a,b,c⟩=>⟨h',m,a,b,sS _,k+1,by lia,c⟩) H)
theorem zan:Iter P t it q.2 (fun k h=>h.at_ it = .liter v k∧zaT h v=some q) (fun k h=>h.set it (.liter v (k+1))) fun h=>h.set it .other:=
 ⟨fun k x h K e i H=>zor i.1 i.2 e H,fun h K i H=>zla i.1 i.2 (List.getElem?_eq_none (rL _)) H⟩
theorem zbV{z:List Nat}:Iter P t it (z.map fun c=> .str [c]) (fun k h=>h.at_ it = .siter z k) (fun k h=>h.set it (.siter z (k+1))) fun h=>h.set it .other:=
 ⟨fun k x h K e i H=>by
  rw [gM] at e;obtain ⟨c,e1,rfl⟩:=jE e;exact zoo i e1 H,fun h K i H=>zl7 i (List.getElem?_eq_none (by rw [lM];exact rL _)) H⟩
theorem zbO{a c:Int}{m k:Nat}{x:AV}(e:((zc4 a c m).map AV.int)[k]? = some x):k<m∧x = .int (a+k*c):=by
 rw [gM] at e;obtain ⟨y,e1,rfl⟩:=jE e;unfold zc4 at e1;rw [gM] at e1;obtain ⟨j,e2,rfl⟩:=jE e1;obtain ⟨l,e3⟩:=gE e2;rw [lR] at l;exact ⟨l,by rw [←e3,List.getElem_range]⟩
theorem zhC{a c:Int}{m:Nat}:Iter P t it ((zc4 a c m).map AV.int) (fun k h=>h.at_ it = .riter (a+k*c) ((m:Int)-k) c) (fun k h=>h.set it (.riter (a+((k+1:Nat):Int)*c) ((m:Int)-(k+1:Nat)) c)) fun h=>h.set it .other:=
 ⟨fun k x h K e i H=>by
  obtain ⟨hk,rfl⟩:=zbO e;refine zop i (lz2 0x6147143860001047846000041 hk) ?_;rw [show a+(k:Int)*c+c=a+((k+1:Nat):Int)*c by push_cast;rw [Int.add_mul];lia,show (m:Int)-k-1=(m:Int)-(k+1:Nat) by lia];exact H,fun h K i H=>zl8 i (by rw [lM,zc4,lM,lR];exact lz1 0x201851850c1040) H⟩
theorem zhD{l:Nat}:Iter P t it q.2.reverse (fun k h=>h.at_ it = .revit l ((q.2.length:Int)-1-k)∧(h.at_ l).list? = some q) (fun k h=>h.set it (.revit l ((q.2.length:Int)-1-(k+1:Nat)))) fun h=>h.set it .other:=
 ⟨fun k x h K e i H=>by
  have hk:k<q.2.length:=by rw [←List.length_reverse];exact (gE e).1
  rw [List.getElem?_reverse hk] at e;have e1:(q.2.length:Int)-1-k=((q.2.length-1-k:Nat):Int):=by rw [Int.ofNat_sub (Nat.le_sub_one_of_lt hk),Int.ofNat_sub (Nat.succ_le_of_lt (lE (oL k) hk))];rfl
  refine zoq (e1▸i.1) i.2 e ?_;rw [show ((q.2.length-1-k:Nat):Int)-1=(q.2.length:Int)-1-(k+1:Nat) from e1▸Int.sub_sub ..];exact H,fun h K i H=>zl9 (i.1.trans (congrArg _ (by rw [List.length_reverse,Int.sub_sub,Int.add_comm,←Int.sub_sub,Int.sub_self];rfl))) H⟩
noncomputable def zu6(k:Nat)(b:SV):AV:= .tup [.int k,b]
theorem zj7{es:List Expr}{kk:Nat}{j:Nat}{ys:List SV}(hq:q.2=ys.map SV.av):Iter P (.Tuple es kk pos) it (ys.mapIdx zu6) (fun k h=>h.at_ it = .enumr j k∧h.at_ j = .liter v k∧zaT h v=some q) (fun k h=>(h.set j (.liter v (k+1))).set it (.enumr j (k+1))) fun h=>(h.set j .other).set it .other:=
 ⟨fun k x h K e i H=>by
  rw [List.getElem?_mapIdx] at e;obtain ⟨y,e1,rfl⟩:=jE e;exact zqM i.1 i.2.1 i.2.2 (by rw [hq,gM,e1];rfl) (by induction y <;> rfl) H,fun h K i H=>zos i.1 i.2.1 i.2.2 (List.getElem?_eq_none (by rw [hq,lM,List.length_mapIdx];exact rL _)) H⟩
end
noncomputable abbrev zmw(ifs:List Expr)(env:Env):Sem Bool:=forIn ifs true fun c r=>if r=true then do let ok←isTrue c env (eval c env);pure (ForInStep.yield ok) else pure (ForInStep.yield r)
def znt(M:Model)(A:Around)(E:Value→Shared→Prop)(gens:List Comprehension)(emit:Sem Unit)(e:Expr)(d:Nat)(t:Expr)(ifs:List Expr)(it acc:Value)(env:Env)(Q:Fin→Shared→Prop)(s:Shared):Prop:=
 wpAny M A (pyNext it) (fun r s₁=>match r with
  | none=>Q (.done .next) s₁
  | some v=>wpAny M A (letOwnedTupleGo t it v) (fun X s₂=>wpAny M A (assign t env v) (fun X s₃=>wpAny M A (zmw ifs env) (fun ok s₄=>
    if ok=true then (match gens[d+1]? with
     | some g'=>wpAny M A (eval g'.iter env) (fun x s₅=>wpAny M A (pyIter x) (fun it' s₆=>wpAny M A (runOwn (.compStart e (d+1) it' acc env) env) (fun X s₇=>Q (.again (.compLoop e d it acc env)) s₇) E s₆) E s₅) E s₄
     | none=>wpAny M A emit (fun X s₅=>Q (.again (.compLoop e d it acc env)) s₅) E s₄)
    else Q (.again (.compLoop e d it acc env)) s₄) E s₃) E s₂) E s₁) E s
theorem zi3{M:Model}{elt t iter:Expr}{ifs:List Expr}{gens:List Comprehension}{scope:Scope}{pos:Pos}{d:Nat}{it acc:Value}{Q:Fin→Shared→Prop}(hg:gens[d]? = some ⟨t,iter,ifs,0⟩)
  (h0:∀g',gens[d+1]? = some g'→g'.is_async=0∧∀x,foldedSetIterable g'.iter env x=pure x)
  (h:znt M A E gens (do let _←call (.builtin "list.append") [acc,←eval elt env]) (.ListComp elt gens scope pos) d t ifs it acc env Q s):wpAny M A (compTurn (.ListComp elt gens scope pos) d it acc env) Q E s:=by
 unfold compTurn
 dsimp only
 rw [hg]
 dsimp only
 refine wB (wS ?_);refine wB (wM h (fun r s₁ h₁=>?_) fun X X q=>q);induction r with
 | none=>exact wP h₁
 | some v=>
  refine wB (wM h₁ (fun X s₂ h₂=>wB (wM h₂ (fun X s₃ h₃=>wB (wM h₃ (fun ok s₄ h₄=>?_) fun X X q=>q)) fun X X q=>q)) fun X X q=>q);induction ok with
  | false=>exact wP h₄
  | true=>
   simp only [if_true] at h₄⊢
   induction q:gens[d+1]? with
   | none=>
    rw [q] at h₄;exact wB (wM h₄ (fun X s₅ h₅=>wP h₅) fun X X q=>q)
   | some g'=>
    obtain ⟨a1,a2⟩:=h0 g' q;rw [q] at h₄
    dsimp only at h₄⊢
    rw [a1];refine wB (wM h₄ (fun x s₅ h₅=>wB (wS ?_)) fun X X q=>q);rw [a2];refine wB (wP (wB (wH (wM h₅ (fun it' s₆ h₆=>wB (wM h₆ (fun X s₇ h₇=>wP h₇) fun X X q=>q)) fun X X q=>q))))
structure CKit(M:Model)(e:Expr)(gens:List Comprehension)(emit:Sem Unit)(acc:Value)(cenv:Env):Prop where
 turn:∀(A:Around) (E:Value→Shared→Prop) (d:Nat) (t iter:Expr) (ifs:List Expr) (it:Value) (Q:Fin→Shared→Prop) (s:Shared),gens[d]? = some ⟨t,iter,ifs,0⟩→znt M A E gens emit e d t ifs it acc cenv Q s→wpAny M A (compTurn e d it acc cenv) Q E s
 den:∀(d:Nat) (it:Value),M.den (.compLoop e d it acc cenv)=(compTurn e d it acc cenv).onRaise (fun x=>do noteFrame x cenv;theTreesLotGoes x)
 under:∀(A:Around) (d:Nat) (it:Value),A.under (.compLoop e d it acc cenv)=A
 start:∀(A:Around) (R:Result→Shared→Prop) (d:Nat) (it:Value) (s:Shared) (g:Comprehension),gens[d]? = some g→g.is_async=0→(∀E,wpAny M A (pyIter it) (fun r s'=>r=it∧s'=s) E s)→codeAny M A (.compLoop e d it acc cenv) R s→codeAny M A (.compStart e d it acc cenv) R s
noncomputable def zce(env:Env)(l:List (Str×NameKind))(acc:List (Str×Addr)):List (Str×Addr):=List.rec (motive:=fun X=>List (Str×Addr)→List (Str×Addr)) (fun acc=>acc) (fun e X f acc=>bif e.2 == .free then Option.casesOn (motive:=fun X=>List (Str×Addr)) (env.cells.lookup e.1) (f acc) fun a=>f ((e.1,a) :: acc) else f acc) l acc
theorem zne{env:Env}{x:Str}{k:NameKind}{r:List (Str×NameKind)}{acc:List (Str×Addr)}:zce env ((x,k) :: r) acc=bif k == .free then Option.casesOn (motive:=fun X=>List (Str×Addr)) (env.cells.lookup x) (zce env r acc) fun a=>zce env r ((x,a) :: acc) else zce env r acc:=rfl
theorem zbb{scope:Scope}(h:∀x,(x,NameKind.free)∈scope.names→∃a,env.cells.lookup x=some a):closureFor scope env=pure (zce env scope.names []):=by
 unfold closureFor;generalize ([]:List (Str×Addr))=acc;have key:∀(names:List (Str×NameKind)) (acc:List (Str×Addr)),(∀x,(x,NameKind.free)∈names→∃a,env.cells.lookup x=some a)→
   (forIn names acc fun (x:Str×NameKind) (r:List (Str×Addr))=>(if (x.2==NameKind.free)=true then do let a←cellOf env x.1;pure (ForInStep.yield ((x.1,a) :: r)) else pure (ForInStep.yield r):Sem (ForInStep (List (Str×Addr)))))=pure (zce env names acc):=by
  intro names;induction names with
  | nil=>intro acc h;rw [List.forIn_nil];rfl
  | cons p r ih=>
   intro acc h;obtain ⟨x,k⟩:=p;have hr:∀x,(x,NameKind.free)∈r→∃a,env.cells.lookup x=some a:=fun x hx=>h x (mM _ hx);rw [List.forIn_cons,zne];induction q:(k==NameKind.free) with
   | false=>simp only [Bool.false_eq_true,if_false,pure_bind];exact ih acc hr
   | true=>
    have:k = .free:=by simpa using q
    subst this;obtain ⟨a,ha⟩:=h x mS;simp only [if_true];unfold cellOf;rw [ha];simp only [pure_bind];exact ih _ hr
 have:=key scope.names acc h
 simpa using this
theorem zdN{scope:Scope}{cenv:Env}(hs:cenv.scope=relabel scope env){x:Str}{k:NameKind}(h:scope.names.lookup x=some k):cenv.kindOf x=some k∨(k = .free∧cenv.kindOf x=some .cell):=by
 have key:∀(names:List (Str×NameKind)),names.lookup x=some k→(names.map fun (n,k)=>if (k == .free&&env.scope.kind == .function&&env.kindOf n==some .cell) then (n,NameKind.cell) else (n,k)).lookup x=some k∨
   (k = .free∧(names.map fun (n,k)=>if (k == .free&&env.scope.kind == .function&&env.kindOf n==some .cell) then (n,NameKind.cell) else (n,k)).lookup x=some .cell):=by
  intro names;induction names with
  | nil=>intro h;simp at h
  | cons p r ih=>
   intro h;obtain ⟨y,l⟩:=p;rw [List.lookup_cons] at h;rw [mC];by_cases e:x==y
   ·rw [e] at h
    cases h
    dsimp only
    split
    ·rename_i q
     simp only [Bool.and_eq_true,beq_iff_eq] at q
     right
     refine ⟨q.1.1,?_⟩;rw [List.lookup_cons,e]
    ·left
     rw [List.lookup_cons,e]
   ·have e':(x==y)=false:=by simpa using e
    rw [e'] at h;have:=ih h
    dsimp only
    split <;> (rw [List.lookup_cons,e'];exact this)
 unfold Env.kindOf;rw [hs];exact key _ h
theorem zom{scope:Scope}{globals:Addr}{closure:List (Str×Addr)}{qual:Str}{func:Option Addr}{code:Value}{outer:Env}{b:Addr}{Q:Env→Shared→Prop}
  (h:Q {scope,locals:=s.heap.objs.size,globals,cells:=cellsFrom (s.heap.objs.size+1) scope.names closure,qual,func,code:=outer.code,frame:=outer.frame,builtins:=outer.builtins}
   {s with heap:=pushCells (s.heap.push {cls:= .type "dict",data:= .dict #[]}) scope.names}):
  wpAny (model P.c.prog P.c.w) A (newFunctionEnv scope globals closure [] qual func code (some outer) b) Q E s:=by
 simp only [newFunctionEnv,Option.isSome_some,if_true]
 refine wB (wpAny_alloc ?_);refine wB (wpAny_layCells _ (fun name kind cells=>by induction kind <;> rfl) _ _ _ _ ?_)
 rw [List.forIn_nil];refine wB (wP (wP ?_));rw [show ({s with heap:=s.heap.push {cls:= .type "dict",data:= .dict #[]}}:Shared).heap.objs.size=s.heap.objs.size+1 from Heap.size_push ..]
 exact h
theorem zol{scope:Scope}{globals:Addr}{closure:List (Str×Addr)}{qual:Str}{func:Option Addr}{code:Value}{b:Addr}{binds:List (Str×Value)}{Q:Env→Shared→Prop}
  (h:∀(env:Env),env = {scope,locals:=s.heap.objs.size,globals,cells:=cellsFrom (s.heap.objs.size+1) scope.names closure,qual,func,code,frame:=some s.heap.objs.size,builtins:=b}→
   wpAny (model P.c.prog P.c.w) A (forIn binds PUnit.unit fun (x:Str×Value) (_:PUnit)=>(do storeName env x.1 x.2;pure (ForInStep.yield PUnit.unit):Sem (ForInStep PUnit))) (fun X=>Q env) E
    {s with heap:=pushCells (s.heap.push {cls:= .type "frame",data:= .dict #[]}) scope.names}):
  wpAny (model P.c.prog P.c.w) A (newFunctionEnv scope globals closure binds qual func code none b) Q E s:=by
 simp only [newFunctionEnv,Option.isSome_none,Bool.false_eq_true,if_false]
 refine wB (wpAny_alloc ?_);refine wB (wpAny_layCells _ (fun name kind cells=>by induction kind <;> rfl) _ _ _ _ ?_)
 rw [show ({s with heap:=s.heap.push {cls:= .type "frame",data:= .dict #[]}}:Shared).heap.objs.size=s.heap.objs.size+1 from Heap.size_push ..]
 refine wB (wM (h _ rfl) (fun X s' q=>wP q) fun X X q=>q)
def zeK(g:Comprehension):Bool:=g.is_async==0 && !zfI g.iter
theorem zdt{e:Expr}(h:(!zfI e)=true)(env:Env)(x:Value):foldedSetIterable e env x=pure x:=by
 induction e using cE <;> first | rfl | exact nb h
theorem zlq{elt:Expr}{gens:List Comprehension}{scope:Scope}{pos:Pos}(hg:gens.all zeK=true)(acc:Value)(cenv:Env):
  CKit (model P.c.prog P.c.w) (.ListComp elt gens scope pos) gens (do let _←call (.builtin "list.append") [acc,←eval elt cenv]) acc cenv:=by
 refine ⟨fun A E d t iter ifs it Q s hd h=>zi3 hd (fun g' hg'=>?_) h,fun d it=>rfl,fun A d it=>rfl,fun A R d it s g hd ha h0 h=>?_⟩
 ·have:=aI (aT hg g' (mG hg'))
  exact ⟨by simpa using this.1,fun x=>zdt this.2 cenv x⟩
 ·refine codeAny_of_tree ?_
  show wpAny _ A ((compStart (.ListComp elt gens scope pos) d it acc cenv).onRaise (fun x=>do noteFrame x cenv;standAt theWindowsPlace)) _ _ s;refine wpAny_notedAt ?_;unfold compStart;rw [show (clausesOf (.ListComp elt gens scope pos))[d]? = some g from hd,show ((some g:Option Comprehension).elim false (·.is_async != 0))=false from by show (g.is_async != 0)=false;rw [ha];rfl];simp only [Bool.false_eq_true,if_false];refine wB (wpAny_askSetting ?_)
  split
  ·exact wB (wP (wP (aO rfl h)))
  ·exact wB (wpAny_rule (wB (wS (wB (wM (h0 _) (fun r s' q=>by obtain ⟨rfl,rfl⟩:=q;exact wP (aO rfl h)) fun X X q=>q)))))
noncomputable def zdz(n:Nat)(names:List (Str×NameKind))(acc:List (Str×Nat)):List (Str×Nat):=match names with
 | []=>acc
 | p :: r=>byKind p.2 (fun _:Unit=>zdz n r acc) (fun X=>zdz (n+1) r ((p.1,n) :: acc)) (fun X=>zdz n r acc) (fun X=>zdz n r acc) ()
noncomputable def zc8(h:Hp)(names:List (Str×NameKind)):Hp:=match names with
 | []=>h
 | p :: r=>byKind p.2 (fun _:Unit=>zc8 h r) (fun X=>zc8 (h.new (.cell none)) r) (fun X=>zc8 h r) (fun X=>zc8 h r) ()
theorem zeg{c:Cx}:∀{names:List (Str×NameKind)} {acc:List (Str×Nat)} {accA:List (Str×Addr)} {W:Wd} {h:Hp} {s:Shared},Rel c W h s→(∀x t,acc.lookup x=some t→t<h.nx∧accA.lookup x=some (W.pl t))→
  ∃W',Step c h.nx W s W' (zc8 h names) {s with heap:=pushCells s.heap names}∧∀x t,(zdz h.nx names acc).lookup x=some t→t<(zc8 h names).nx∧(cellsFrom s.heap.objs.size names accA).lookup x=some (W'.pl t)
 | [],_,_,W,_,_,R,i=>⟨W, .refl R,i⟩
 | (y,k) :: r,acc,accA,W,h,s,R,i=>by
  induction k with
  | cell=>
   have S₁:Step c h.nx W s (W.put h.nx s.heap.objs.size) (h.new (.cell none)) {s with heap:=s.heap.push {cls:= .type "cell",data:= .cell none}}:= .new R (a:=s.heap.objs.size) (.cell none) (fun X=>⟨_,pZ _ rfl,rfl⟩) (rL _) (R.outside (rL _)) (fun X X e=>pS _ e) rfl rfl
   obtain ⟨W',S,j⟩:=zeg (names:=r) (acc:=(y,h.nx) :: acc) (accA:=(y,s.heap.objs.size) :: accA) S₁.rel (fun x t e=>by
    rw [List.lookup_cons] at e⊢;induction q:x==y with
    | true=>rw [q] at e;obtain rfl:=sI e;exact ⟨sS _,congrArg some upd_self.symm⟩
    | false=>rw [q] at e;exact (i x t e).imp Nat.lt_succ_of_lt fun z=>z.trans (congrArg some (S₁.le.pl t (i x t e).1).symm))
   rw [show ({s with heap:=s.heap.push {cls:= .type "cell",data:= .cell none}}:Shared).heap.objs.size=s.heap.objs.size+1 from Heap.size_push ..] at j
   exact ⟨W',S₁.trans S,j⟩
  | _=>exact zeg (names:=r) R i
section
variable {cl:List (Str×Nat)} {clA:List (Str×Addr)} {cls:String}
def zb9(h:Hp)(sc:Scope):Hp:=zc8 (h.new (.frame [])) sc.names
def zaF(h:Hp)(sc:Scope)(cl:List (Str×Nat))(tab:Option (Nat×Nat×Nat)):Fr:=⟨sc,h.nx,zdz (h.nx+1) sc.names cl,tab⟩
theorem zgM(R:Rel P.c W h s)(i:∀x t,cl.lookup x=some t→t<h.nx∧clA.lookup x=some (W.pl t)):∃W',Step P.c h.nx W s W' (zb9 h sc) {s with heap:=pushCells (s.heap.push {cls:= .type cls,data:= .dict #[]}) sc.names}∧
  (∀(env:Env) (tab:Option (Nat×Nat×Nat)),env.scope.kind = .function→(∀x k,sc.names.lookup x=some k→env.kindOf x=some k∨(k = .free∧env.kindOf x=some .cell))→env.locals=s.heap.objs.size→env.globals=P.c.G→env.builtins=0→env.cells=cellsFrom (s.heap.objs.size+1) sc.names clA→
   (∀t l k,tab=some (t,l,k)→t∈P.c.tabs∧P.c.tinfo t=(l,k)∧∃a,env.code = .ref a∧a∉P.c.tabs∧P.c.B.TableAt a t #[]∧P.c.B.IsCode a t #[])→FrAt P.c W' (zb9 h sc).nx env (zaF h sc cl tab))∧
  (Value.type cls≠ .type "dict" →∃o,({s with heap:=pushCells (s.heap.push {cls:= .type cls,data:= .dict #[]}) sc.names}:Shared).heap.get? s.heap.objs.size=some o∧FrL o):=by
 have S₁:Step P.c h.nx W s (W.put h.nx s.heap.objs.size) (h.new (.frame [])) {s with heap:=s.heap.push {cls:= .type cls,data:= .dict #[]}}:= .new R (a:=s.heap.objs.size) (.frame []) (fun X=>⟨_,pZ _ rfl, #[],0,rfl,fun e he=>absurd he (Array.not_mem_empty _),fun x v e=>no e⟩) (rL _) (R.outside (rL _)) (fun X X e=>pS _ e) rfl rfl
 obtain ⟨W',S,j⟩:=zeg (names:=sc.names) (acc:=cl) (accA:=clA) S₁.rel fun x t e=>(i x t e).imp Nat.lt_succ_of_lt fun z=>z.trans (congrArg some (S₁.le.pl t (i x t e).1).symm);rw [show ({s with heap:=s.heap.push {cls:= .type cls,data:= .dict #[]}}:Shared).heap.objs.size=s.heap.objs.size+1 from Heap.size_push ..] at j
 exact ⟨W',S₁.trans S,fun env tab e0 e1 e2 e3 e4 e5 e6=>⟨e0,e1,e3,e4,⟨S.le.le,e2.trans ((S.le.pl h.nx (sS _)).trans upd_self).symm⟩,fun x t e=>(j x t e).imp id fun z=>e5▸z,e6⟩,fun q=>S.frm _ _ (pZ _ rfl) ⟨⟨_,_,rfl⟩,q⟩⟩
noncomputable def zbj(cel:List (Str×Nat))(names:List (Str×NameKind))(acc:List (Str×Nat)):List (Str×Nat):=match names with
 | []=>acc
 | p :: r=>byKind p.2 (fun _:Unit=>zbj cel r acc) (fun X=>zbj cel r acc) (fun X=>Option.casesOn (motive:=fun X=>List (Str×Nat)) (cel.lookup p.1) (zbj cel r acc) fun t=>zbj cel r ((p.1,t) :: acc)) (fun X=>zbj cel r acc) ()
noncomputable def zds(cel:List (Str×Nat))(names:List (Str×NameKind)):Bool:=names.all fun p=>byKind p.2 true true (cel.lookup p.1).isSome true
theorem ze4{c:Cx}(F:FrAt c W h.nx env fr):∀{names:List (Str×NameKind)} {acc:List (Str×Nat)} {accA:List (Str×Addr)},zds fr.cel names=true→(∀x t,acc.lookup x=some t→t<h.nx∧accA.lookup x=some (W.pl t))→
  ∀x t,(zbj fr.cel names acc).lookup x=some t→t<h.nx∧(zce env names accA).lookup x=some (W.pl t)
 | [],_,_,_,i=>i
 | (y,k) :: r,acc,accA,e,i=>by
  have e:=aI (show (byKind k true true (fr.cel.lookup y).isSome true&&zds fr.cel r)=true from e);induction k with
  | free=>
   obtain ⟨t,et⟩:=iE e.1;have z:=F.cells y t et;rw [zne,z.2];show∀x t',(Option.casesOn (motive:=fun X=>List (Str×Nat)) (fr.cel.lookup y) (zbj fr.cel r acc) fun t=>zbj fr.cel r ((y,t) :: acc)).lookup x=some t'→_;rw [et];exact ze4 F e.2 fun x t' q=>by
    rw [List.lookup_cons] at q⊢;induction q':x==y with
    | true=>rw [q'] at q;obtain rfl:=sI q;exact ⟨z.1,rfl⟩
    | false=>rw [q'] at q;exact i x t' q
  | _=>exact ze4 (names:=r) F e.2 i
end
section
variable {gens:List Comprehension} {emit:Sem Unit} {a:Nat} {inner:Hp→(Hp→Prop)→Prop}
def zpC(P:PM T)(fr:Fr)(ifs:List Expr)(h:Hp)(K:Bool→Hp→Prop):Prop:=J P (FI P fr) BB (fun env=>zmw ifs env) h K
theorem zpA{K:Bool→Hp→Prop}(H:K true h):zpC P fr [] h K:=fun A E Q s W env G F kn=>wP (kn (v:=true) (.refl G.rel) rfl H)
theorem zg4{M:Model}{Q:Bool→Shared→Prop}(q:Q false s):∀l:List Expr,wpAny M A (forIn l false fun c r=>if r=true then do let ok←isTrue c env (eval c env);Pure.pure (ForInStep.yield ok) else Pure.pure (ForInStep.yield r)) Q E s
 | []=>by rw [List.forIn_nil];exact wP q
 | x :: l=>by rw [List.forIn_cons,if_neg (by decide)];exact wB (wP (zg4 q l))
theorem zmm{K:Bool→Hp→Prop}{r:List Expr}(H:JT P fr e h fun b h=>Br b (zpC P fr r h K) (K false h)):zpC P fr (e :: r) h K:=fun A E Q s W env G F kn=>by
 show wpAny _ A (forIn (e :: r) true _) _ E s;rw [List.forIn_cons,if_pos rfl];refine wB (wB (H A E _ s W env G F fun X c b X X S V H=>wP ?_));obtain rfl:b=c:=V;exact H.go (fun e H'=>by subst e;exact H' A E Q _ _ env (G.on S) (F.up S.le) (kn.after S)) fun e H'=>by subst e;exact zg4 (kn (v:=false) S rfl H') r
structure GJ(P:PM T)(fr:Fr)(t:Expr)(ifs:List Expr)(inner:Hp→(Hp→Prop)→Prop)(it:Nat)(h:Hp)(K:Hp→Prop):Prop where
 go:∃(I:Nat→Hp→Prop) (k:Nat),I k h∧∀k h',I k h'→it<h'.nx∧JN P t it h' fun o h'=>Option.casesOn (motive:=fun X=>Prop) o (K h') fun x=>
 JA' P fr t x h' fun X h'=>zpC P fr ifs h' fun ok h'=>Br ok (inner h' (On I h.nx k)) (On I h.nx k h')
def zfN(P:PM T)(fr:Fr)(emit:Hp→(Hp→Prop)→Prop):List Comprehension→Hp→(Hp→Prop)→Prop
 | [],h,K=>emit h K
 | g :: r,h,K=>JE P fr g.iter h fun x h=>zlu x h fun v h=>opt v.ref? fun it=>req (zoM (h.at_ it)) (GJ P fr g.target g.ifs (zfN P fr emit r) it h K)
def zke(P:PM T)(fr:Fr)(emit:Sem Unit)(cenv:Env)(acc:Value)(a:Nat)(emitD:Hp→(Hp→Prop)→Prop):Prop:=∀(A:Around) (E:Value→Shared→Prop) (s:Shared) (W:Wd) (h:Hp) (K:Hp→Prop) (R:Shared→Prop),
 Go P W h s A→FI P fr A W h.nx cenv→VR W h.nx (.ref a) acc→emitD h K→(∀W' h' s',Step P.c h.nx W s W' h' s'→K h'→R s')→wpAny (model P.c.prog P.c.w) A emit (fun X=>R) E s
def zkb(P:PM T)(fr:Fr)(e:Expr)(gens:List Comprehension)(emit:Sem Unit)(cenv:Env)(acc:Value)(a d:Nat)(inner:Hp→(Hp→Prop)→Prop):Prop:=∀(A:Around) (E:Value→Shared→Prop) (s:Shared) (W:Wd) (h:Hp) (K:Hp→Prop) (R:Shared→Prop),
 Go P W h s A→FI P fr A W h.nx cenv→VR W h.nx (.ref a) acc→inner h K→(∀W' h' s',Step P.c h.nx W s W' h' s'→K h'→R s')→match gens[d+1]? with
  | some g'=>wpAny (model P.c.prog P.c.w) A (eval g'.iter cenv) (fun x s₅=>wpAny (model P.c.prog P.c.w) A (pyIter x) (fun it' s₆=>wpAny (model P.c.prog P.c.w) A (runOwn (.compStart e (d+1) it' acc cenv) cenv) (fun X s₇=>R s₇) E s₆) E s₅) E s
  | none=>wpAny (model P.c.prog P.c.w) A emit (fun X s₅=>R s₅) E s
theorem zeN(Kt:CKit (model P.c.prog P.c.w) e gens emit acc cenv){d:Nat}{t iter:Expr}{ifs:List Expr}(hgd:gens[d]? = some ⟨t,iter,ifs,0⟩)(IN:zkb P fr e gens emit cenv acc a d inner){R:Result→Shared→Prop}{K:Hp→Prop}
  (G:Go P W h s A) (F:FI P fr A W h.nx cenv) (V:VR W h.nx (.ref a) acc) (hit:it<h.nx) (H:GJ P fr t ifs inner it h K) (fin:∀W' h' s',Step P.c h.nx W s W' h' s'→K h'→R (.ok .next) s'):codeAny (model P.c.prog P.c.w) A (.compLoop e d (.ref (W.pl it)) acc cenv) R s:=by
 obtain ⟨I,k,H,hb⟩:=H;refine codeAny_loop (by induction e using cE <;> rfl) (fun k s'=>∃W' h',Step P.c h.nx W s W' h' s'∧I k h') ?_ k ⟨W,h, .refl G.rel,H⟩
 rintro k s₁ ⟨W₁,h₁,S₁,H⟩
 rw [Kt.den,Kt.under];refine wpAny_noted (Kt.turn _ _ _ _ _ _ _ _ _ hgd ?_);obtain ⟨hi',H⟩:=hb k h₁ H;show wpAny _ _ (pyNext (.ref (W.pl it))) _ _ s₁;rw [←S₁.le.pl it hit];refine H A _ _ s₁ W₁ (G.on S₁) hi' (fun W₂ h₂ s₂ S₂ H=>fin _ _ _ (S₁.trans S₂) H) fun v s₂ z=>wM z (fun X s₃ z=>?_) fun X X q=>q;obtain ⟨W₃,x,h₃,S₃,V₃,H⟩:=z;refine H A _ _ s₃ W₃ (cenv,v) ((G.on S₁).on S₃) ⟨F.up (S₁.trans S₃).le,V₃⟩ fun W₄ X X h₄ s₄ S₄ X H=>H A _ _ s₄ W₄ cenv (((G.on S₁).on S₃).on S₄) (F.up (S₁.trans (S₃.trans S₄)).le) fun W₅ c ok h₅ s₅ S₅ V₅ H=>?_;have S:=S₁.trans (S₃.trans (S₄.trans S₅));obtain rfl:ok=c:=V₅;have on:∀{W' h' s'},Step P.c h.nx W s W' h' s'→On I h.nx k h'→∃m,m<k∧∃W' h',Step P.c h.nx W s W' h' s'∧I m h':=fun S ⟨h',j,w,l,q,z⟩=>⟨j,q,_,h',S.wk w l,z⟩;refine H.go (fun e H'=>?_) fun e H'=>?_
 ·subst e
  exact IN A _ s₅ W₅ h₅ _ _ (G.on S) (F.up S.le) (V.up S.le) H' fun W₆ h₆ s₆ S₆ H=>⟨by first | trivial | rfl,on (S.trans S₆) H⟩
 ·subst e
  exact ⟨by first | trivial | rfl,on S H'⟩
theorem zgE(Kt:CKit (model P.c.prog P.c.w) e gens emit acc cenv){emitD:Hp→(Hp→Prop)→Prop}(EM:zke P fr emit cenv acc a emitD):∀(rest:List Comprehension) (d:Nat),gens.drop (d+1)=rest→rest.all zeK=true→zkb P fr e gens emit cenv acc a d (zfN P fr emitD rest)
 | [],d,hd,hg=>fun A E s W h K R G F V H q=>by
  have hgn:gens[d+1]? = none:=by rw [←Nat.add_zero (d+1),←List.getElem?_drop,hd];rfl
  rw [hgn];exact EM A E s W h K R G F V H q
 | ⟨t,iter,ifs,z⟩ :: rest,d,hd,hg=>fun A E s W h K R G F V H q=>by
  obtain ⟨h1,h2⟩:=aI (show (zeK ⟨t,iter,ifs,z⟩ && rest.all zeK)=true from hg);obtain rfl:z=0:=eq_of_beq (aI h1).1;have hgn:gens[d+1]? = some ⟨t,iter,ifs,0⟩:=by rw [←Nat.add_zero (d+1),←List.getElem?_drop,hd];rfl
  have hd':gens.drop (d+1+1)=rest:=by rw [←List.drop_drop,hd];rfl
  rw [hgn];refine H A E _ s W cenv G F fun W₁ x vx h₁ s₁ S₁ V₁ H=>zfH H A E _ s₁ W₁ vx (G.on S₁) V₁ fun W₂ v itv h₂ s₂ S₂ V₂ H=>H.go fun it e1 H=>H.go fun e2 H=>?_;obtain ⟨hit,rfl⟩:=(AV.ref?_is e1▸V₂:VR _ _ (.ref it) itv);have S:=S₁.trans S₂;refine wpAny_runOwn (Kt.start _ _ _ _ _ _ hgn rfl (fun E=>zem S₂.rel hit e2 ⟨rfl,rfl⟩) ?_);exact zeN Kt hgn (zgE Kt EM rest (d+1) hd' h2) (G.on S) (F.up S.le) (V.up S.le) hit H fun W₃ h₃ s₃ S₃ H=>q _ _ _ (S.trans S₃) H
end
section
variable {a:Nat} {val:Value} {xs:List SV}
theorem Step.frzL(R:Rel c W h s)(hk:k<h.nx)(e:h.at_ k = .list false (xs.map SV.av)):∃W',Step c h.nx W s W' (h.set k .other) s∧∃vs m,W'.fz (W.pl k)=some (zbp "list" vs m)∧Rs SR xs vs.toList:=by
 have l0:(h.at_ k).live=true:=e▸rfl;obtain ⟨b0,ob,g,vs,m,rfl,r⟩:=(e▸R.at_ k hk:OAt _ _ _ _ _ (.list false _)) rfl;have fz:∀b o,W.fz b=some o→b≠W.pl k:=fun b o e q=>(R.fz b o e).2.2 k hk l0 q.symm;have L:Le h.nx W h.nx ⟨W.pl,upd W.fz (W.pl k) (some (zbp "list" vs m))⟩:=⟨rL _,fun X X=>rfl,fun b o e=>(za9 (fz b o e)).trans e⟩;have lv:∀j,((h.set k .other).at_ j).live=true→j≠k∧(h.at_ j).live=true∧(h.set k .other).at_ j=h.at_ j:=fun j l=>by
  by_cases q:j=k
  ·subst q;rw [show (h.set j .other).at_ j = .other from upd_self] at l;exact nb l
  ·rw [show (h.set k .other).at_ j=h.at_ j from za9 q] at l⊢;exact ⟨q,l,rfl⟩
 refine ⟨⟨W.pl,upd W.fz (W.pl k) (some (zbp "list" vs m))⟩,⟨⟨fun j q u=>?_,fun i j p q u w e=>R.apart i j p q (lv i u).2.1 (lv j w).2.1 e,fun b o e=>?_,R.amb.step (fun X X X e=>e) L.fz rfl rfl,fun b o e=>?_⟩,L,rL _,fun X a b=>absurd a (nL b),fun b o e=>?_,fun X o e X X=>⟨o,e, .inl rfl⟩,fun X o e f=>⟨o,e,f⟩⟩,vs,m,upd_self,?_⟩
 ·rw [(lv j u).2.2]
  exact (R.at_ j q (lv j u).2.1).imp id fun ⟨o,h1,h2⟩=>⟨o,h1,h2.up L⟩
 ·by_cases q:b=W.pl k
  ·subst q
   obtain rfl:=sI (upd_self.symm.trans e);exact ⟨b0,g,fun j p u z=>(lv j u).1 (R.apart j k p hk (lv j u).2.1 l0 z)⟩
  ·have e:=(za9 q).symm.trans e
   exact ⟨(R.fz b o e).1,(R.fz b o e).2.1,fun j p u=>(R.fz b o e).2.2 j p (lv j u).2.1⟩
 ·by_cases q:b=W.pl k
  ·subst q
   obtain rfl:=sI (upd_self.symm.trans e);exact fun f=>by obtain ⟨X,Z,d⟩:=f.1;cases d
  ·exact R.fzn b o ((za9 q).symm.trans e)
 ·by_cases q:b=W.pl k
  ·exact .inr (.inr ⟨k,hk,q.symm⟩)
  ·exact .inl ((za9 q).symm.trans e)
 ·clear e l0 lv
  generalize vs.toList=l at r;induction xs generalizing l with
  | nil=>cases r;exact .nil
  | cons x xs ih=>cases r with | cons p q=>exact .cons (by cases x <;> exact p) (ih _ q)
inductive frz(v:AV)(h:Hp)(K:AV→Hp→Prop):Prop
 | as (H:K v h)
 | fz (k:Nat) (xs:List SV) (e:v = .ref k) (e2:h.at_ k = .list false (xs.map SV.av)) (H:K (.lst xs) (h.set k .other))
theorem zgK{K:AV→Hp→Prop}(H:frz v h K)(R:Rel c W h s)(V:VR W h.nx v val):∃W' v' h',Step c h.nx W s W' h' s∧VR W' h'.nx v' val∧K v' h':=by
 rcases H with H | ⟨k,xs,rfl,e,H⟩
 ·exact ⟨W,v,h, .refl R,V,H⟩
 ·obtain ⟨hk,rfl⟩:=V
  obtain ⟨W',S,vs,m,z,r⟩:=Step.frzL R hk e;exact ⟨W', .lst xs,_,S,⟨_,vs,m,rfl,z,r⟩,H⟩
def zuB(a:Nat)(v:AV)(h:Hp):Tr Unit:= .os (h.at_ a).list? fun q=> .Rq (Nat.ble q.2.length.succ sizeL&&(q.1 || tf v)) (.ret () (h.set a (.list q.1 (q.2 ++ [v]))))
def ztM(a:Nat)(v:AV)(h:Hp)(K:Hp→Prop):Prop:=frz v h fun v h=>(zuB a v h).sem fun X h=>K h
def zjo(P:PM T)(elt:Expr)(fr:Fr)(a:Nat)(h:Hp)(K:Hp→Prop):Prop:=JE P fr elt h fun v h=>ztM a v h K
theorem zlN{elt:Expr}:zke P fr (do let _←call (.builtin "list.append") [acc,←eval elt cenv]) cenv acc a (zjo P elt fr a):=fun A E s W h K R G F V H q=>by
 refine wB (H A E _ s W cenv G F fun W₁ v val h₁ s₁ S₁ V₁ H=>?_);obtain ⟨W₂,v',h₂,S₂,V₂,H⟩:=zgK H S₁.rel V₁;obtain ⟨ha,rfl⟩:=V.up (S₁.trans S₂).le;exact H.go fun p e H=>H.go fun c H=>wB (zfn (P:=P) (as:= [.ref a,v']) (p:=(.ref a,v')) (r:=a) (q:=p) (K:=fun X h'=>K h') rfl rfl e c H A E _ s₁ W₂ [_,val] ((G.on S₁).on S₂) (.cons ⟨ha,rfl⟩ (.cons V₂ .nil)) fun X X X X X S X H=>wP (q _ _ _ ((S₁.trans S₂).trans S) H))
end
section
variable {a:Nat} {v:Value} {kt:Tok}
noncomputable def zbQ(sc:Scope):Bool:=sc.kind == .function&&decide ((sc.names.map (·.1)).Nodup)
def zrs(P:PM T)(fr:Fr)(iter t:Expr)(ifs:List Expr)(rest:List Comprehension)(sc:Scope)(o:AO)(emitD:Fr→Nat→Hp→(Hp→Prop)→Prop)(h:Hp)(K:AV→Nat→Hp→Prop):Prop:=JE P fr iter h fun x h=>zlu x h fun v h=>opt v.ref? fun it=>req (zoM (h.at_ it))
 (GJ P (zaF (h.new o) sc (zbj fr.cel sc.names []) none) t ifs (zfN P (zaF (h.new o) sc (zbj fr.cel sc.names []) none) (emitD (zaF (h.new o) sc (zbj fr.cel sc.names []) none) h.nx) rest) it (zb9 (h.new o) sc) (K (.ref h.nx) (h.nx+1)))
def zfY(P:PM T)(W:Wd)(h:Hp)(s:Shared)(K:AV→Nat→Hp→Prop)(acc:Value)(C:Addr)(s':Shared):Prop:=∃W' h' v L,Step P.c h.nx W s W' h' s'∧VR W' h'.nx v acc∧h.nx≤L∧L<h'.nx∧W'.pl L=C∧K v L h'
def JC(P:PM T)(fr:Fr)(e:Expr)(h:Hp)(K:AV→Nat→Hp→Prop):Prop:=∀(A:Around) (E:Value→Shared→Prop) (s:Shared) (W:Wd) (env:Env) (Q:Value→Shared→Prop),Go P W h s A→FI P fr A W h.nx env→
 ((∀acc C s',zfY P W h s K acc C s'→compPost (model P.c.prog P.c.w) A E none Q acc C (.ok .next) s')→wpAny (model P.c.prog P.c.w) A (eval e env) Q E s)∧
 ∀(u:Value→Sem Unit),(∀acc C s',zfY P W h s K acc C s'→compPost (model P.c.prog P.c.w) A E (some u) Q acc C (.ok .next) s')→wpAny (model P.c.prog P.c.w) A (evalThenUse e env u) (fun X s'=>∃v,Q v s') E s
theorem zdo{x:Str}{k:NameKind}:∀{l:List (Str×NameKind)},(l.map (·.1)).Nodup→(x,k)∈l→l.lookup x=some k
 | [],_,h=>absurd h List.not_mem_nil
 | p :: r,hd,hx=>by
  rw [mC,List.nodup_cons] at hd;rw [List.lookup_cons];rcases cP hx with q | q
  ·rw [←q];simp
  ·rw [show (x==p.1)=false from beq_eq_false_iff_ne.mpr fun e=>hd.1 (e▸List.mem_map.mpr ⟨_,q,rfl⟩)];exact zdo hd.2 q
theorem zjD{t iter:Expr}{ifs:List Expr}{rest:List Comprehension}{sc:Scope}{newAcc:Sem Value}{emit:Value→Env→Sem Unit}{o:AO}{emitD:Fr→Nat→Hp→(Hp→Prop)→Prop}{use:Option (Value→Sem Unit)}{Q:Value→Shared→Prop}{K:AV→Nat→Hp→Prop}
  (hcl:clausesOf e = ⟨t,iter,ifs,0⟩ :: rest) (hsc:zbQ sc=true) (hg:(!zfI iter&&rest.all zeK)=true) (hf:zds fr.cel sc.names=true)
  (hnew:∀{W:Wd} {h:Hp} {s:Shared} {Q:Value→Shared→Prop},Rel P.c W h s→(∀W' s' val,Step P.c h.nx W s W' (h.new o) s'→VR W' (h.nx+1) (.ref h.nx) val→Q val s')→wpAny (model P.c.prog P.c.w) A newAcc Q E s)
  (KT:∀acc cenv,CKit (model P.c.prog P.c.w) e (⟨t,iter,ifs,0⟩ :: rest) (emit acc cenv) acc cenv) (EM:∀(fr:Fr) (a:Nat) (acc:Value) (cenv:Env),zke P fr (emit acc cenv) cenv acc a (emitD fr a))
  (G:Go P W h s A) (F:FI P fr A W h.nx env) (H:zrs P fr iter t ifs rest sc o emitD h K) (hQ:∀acc C s',zfY P W h s K acc C s'→compPost (model P.c.prog P.c.w) A E use Q acc C (.ok .next) s'):wpAny (model P.c.prog P.c.w) A (comprehension e sc env pos newAcc false (eval iter env) use) Q E s:=by
 simp only [zbQ,Bool.and_eq_true,beq_iff_eq,decide_eq_true_eq] at hsc
 obtain ⟨hk,hd⟩:=hsc;obtain ⟨g0,gs⟩:=aI hg;have look:∀x k,(x,k)∈sc.names→sc.names.lookup x=some k:=fun x k hx=>zdo hd hx;have frees:∀x,(x,NameKind.free)∈sc.names→∃a,env.cells.lookup x=some a:=fun x hx=>by
  have:=aT hf _ hx;obtain ⟨t,et⟩:=iE (show (fr.cel.lookup x).isSome=true from this);exact ⟨_,(F.cells x t et).2⟩
 refine wpAny_comprehension_free hcl (fun y=>zdt g0 env y) (zbb frees) hk (fun y hy hl=>look y.1 _ (hl▸hy)) ?_;refine H A E _ s W env G F fun W₁ x vx h₁ s₁ S₁ V₁ H=>zfH H A E _ s₁ W₁ vx (G.on S₁) V₁ fun W₂ v itv h₂ s₂ S₂ V₂ H=>H.go fun it e1 H=>H.go fun e2 H=>?_;obtain ⟨hit,rfl⟩:=(AV.ref?_is e1▸V₂:VR _ _ (.ref it) itv);refine hnew S₂.rel fun W₃ s₃ acc S₃ V₃=>zom ?_;have S₀:=(S₁.trans S₂).trans S₃;have F₃:=F.up S₀.le;obtain ⟨W₄,S₄,hF,X⟩:=zgM (cls:= "dict") (sc:=sc) (clA:=zce env sc.names []) (cl:=zbj fr.cel sc.names []) S₃.rel (ze4 F₃.toFrAt hf fun x t e=>no e);have hit₃:it<(h₂.new o).nx:=Nat.lt_succ_of_lt hit;rw [←S₃.le.pl it hit,←S₄.le.pl it hit₃];have hit₄:it<(zb9 (h₂.new o) sc).nx:=lL hit₃ S₄.le.le;have F₄:=hF {scope:=relabel sc env,locals:=s₃.heap.objs.size,globals:=env.globals,cells:=cellsFrom (s₃.heap.objs.size+1) sc.names (zce env sc.names []),qual:=env.qual,func:=none,code:=env.code,frame:=env.frame,builtins:=env.builtins} none hk (fun x k hx=>zdN rfl hx) rfl F.glob F.blt rfl (fun X X X e=>no e);have it4:zoM ((zb9 (h₂.new o) sc).at_ it)=true:=by
  have key:∀(names:List (Str×NameKind)) (h:Hp),it<h.nx→(zc8 h names).at_ it=h.at_ it:=by
   intro names;induction names with
   | nil=>exact fun X X=>rfl
   | cons p r ih=>
    intro h q;obtain ⟨y,k⟩:=p;induction k with
    | cell=>exact (ih _ (Nat.lt_succ_of_lt q)).trans (za9 (Nat.ne_of_lt q))
    | _=>exact ih h q
  rw [zb9,key _ _ (Nat.lt_succ_of_lt hit₃),show ((h₂.new o).new (.frame [])).at_ it=(h₂.new o).at_ it from za9 (Nat.ne_of_lt hit₃),show (h₂.new o).at_ it=h₂.at_ it from za9 (Nat.ne_of_lt hit)];exact e2
 refine (KT acc _).start _ _ 0 _ _ ⟨t,iter,ifs,0⟩ rfl rfl (fun E=>zem S₄.rel hit₄ it4 ⟨rfl,rfl⟩) ?_;refine zeN (KT acc _) rfl (zgE (KT acc _) (EM _ h₂.nx acc _) rest 0 rfl gs) ((((G.on S₁).on S₂).on S₃).on S₄) ⟨F₄,F.head⟩ (V₃.up S₄.le) hit₄ H fun W₅ h₅ s₅ S₅ H=>hQ acc _ s₅ ⟨W₅,h₅, .ref h₂.nx,h₂.nx+1,(S₀.trans S₄).trans S₅,V₃.up (S₄.trans S₅).le,Nat.le_succ_of_le (S₁.trans S₂).le.le,lL F₄.loc.1 S₅.le.le,(S₅.le.pl _ F₄.loc.1).trans F₄.loc.2.symm,H⟩
end
section
variable {elt kx vx iter:Expr} {ifs:List Expr} {rest:List Comprehension} {x:Str}
theorem ziS{o:AO}{ob:Obj}{Q:Value→Shared→Prop}(R:Rel P.c W h s)(hl:ob.isFreed=false)(hO:∀W',Le h.nx W (h.nx+1) W'→ObjIs P.c W' (h.nx+1) ob o)(q:∀W' s' val,Step P.c h.nx W s W' (h.new o) s'→VR W' (h.nx+1) (.ref h.nx) val→Q val s'){tk:Nat}{d:Drawn}:Q (.ref s.heap.objs.size) {s with heap:=s.heap.push ob,toks:=tk,drawn:=d}:=
 Kn.nu (P:=P) (K:=fun v h'=>v = .ref h.nx∧h'=h.new o) (Q:=Q) (fun X X X X X S V e=>by obtain ⟨rfl,rfl⟩:=e;exact q _ _ _ S V) R (o:=o) hl hO ⟨rfl,rfl⟩
theorem zl5{Q:Value→Shared→Prop}(R:Rel P.c W h s)(q:∀W' s' val,Step P.c h.nx W s W' (h.new (.list false [])) s'→VR W' (h.nx+1) (.ref h.nx) val→Q val s'):wpAny (model P.c.prog P.c.w) A (newList []) Q E s:=wpAny_newList (ziS (o:= .list false []) (ob:=zbp "list" #[] 0) (tk:=s.toks) (d:=s.drawn) R rfl (fun X X=>⟨#[],_,rfl, .nil⟩) q) (oL _)
theorem zl6{Q:Value→Shared→Prop}(R:Rel P.c W h s)(q:∀W' s' val,Step P.c h.nx W s W' (h.new (.dict false [])) s'→VR W' (h.nx+1) (.ref h.nx) val→Q val s'):wpAny (model P.c.prog P.c.w) A newDict Q E s:=by
 unfold newDict;exact wpAny_newObj_type (ziS (o:= .dict false []) (ob:={cls:= .type "dict",data:= .dict #[] 0}) (tk:=s.toks) (d:=s.drawn) R rfl (fun X X=>⟨#[],_,rfl, .nil,List.nodup_nil,fun X=>rfl⟩) q)
theorem zp7{K:AV→Hp→Prop}(H:K (.ref h.nx) (h.new (.dict false []))):JE P fr (.Dict [] [] pos) h K:=fun A E Q s W env G F kn=>by
 show wpAny _ A (eval (.Dict [] [] pos) env) Q E s;rw [arm_eval_Dict];refine wB (wS ?_);show wpAny _ _ (dictDisplay []) _ _ _;unfold dictDisplay
 try dsimp only
 rw [List.forIn_nil];refine wB (wP ?_)
 dsimp only
 exact wB (m:=(pure none:Sem (Option Addr))) (wP (zl6 (P:=P) G.rel fun W' s' val S V=>kn S V H))
def ziN(fr:Fr)(iter:Expr)(rest:List Comprehension)(sc:Scope):Bool:=zbQ sc&&(!zfI iter&&rest.all zeK)&&zds fr.cel sc.names
theorem ziM(h:ziN fr iter rest sc=true):zbQ sc=true∧(!zfI iter&&rest.all zeK)=true∧zds fr.cel sc.names=true∧(Comprehension.mk t iter ifs 0 :: rest).all zeK=true:=by
 obtain ⟨h,h4⟩:=aI h;obtain ⟨h2,h3⟩:=aI h;exact ⟨h2,h3,h4,h3⟩
theorem zrG{K:AV→Nat→Hp→Prop}(ho:ziN fr iter rest sc=true)(H:zrs P fr iter t ifs rest sc (.list false []) (zjo P elt) h K):JC P fr (.ListComp elt (⟨t,iter,ifs,0⟩ :: rest) sc pos) h K:=fun A E s W env Q G F=>by
 have tm32:=ziM (t:=t) (ifs:=ifs) ho;have h1:=tm32.1;have h2:=tm32.2.1;have h3:=tm32.2.2.1;have h4:=tm32.2.2.2;have core:=fun use q=>zjD (A:=A) (E:=E) (pos:=firstIterPos (⟨t,iter,ifs,0⟩ :: rest) pos) (use:=use) (Q:=Q) (env:=env) (e:= .ListComp elt (⟨t,iter,ifs,0⟩ :: rest) sc pos) (emit:=fun acc cenv=>do let _←call (.builtin "list.append") [acc,←eval elt cenv]) rfl h1 h2 h3 zl5 (zlq (P:=P) h4) (fun X X X X=>zlN) G F H q;exact ⟨core none,fun u q=>by rw [arm_evalThenUse_ListComp];exact wB (wM (core (some u) q) (fun v s' q=>wP ⟨v,q⟩) fun X X q=>q)⟩
theorem zqF(R:Rel P.c W h s){L:Nat}(hL:L<h.nx)(e:(h.at_ L).frame?.isSome=true):∃m,s.heap.Ns (W.pl L) m:=(iE e).elim fun l e=>(R.obj hL (AO.frame?_is e) rfl).elim fun ob o=>o.2.elim fun es q=>q.elim fun ep q=>⟨nsFind es,ob,es,ep,o.1,q.1,q.2.1,fun X=>rfl⟩
theorem zud{n:Nat}{W₀:Wd}{s₀:Shared}(S:Step P.c n W₀ s₀ W h s){L:Nat}(hn:n≤L)(hL:L<h.nx)(e:(h.at_ L).frame?.isSome=true){h':Heap}(sb:Heap.SameBut (W.pl L) s.heap h'):Step P.c n W₀ s₀ W (h.set L .other) {s with heap:=h'}:=by
 have hl:(h.at_ L).live=true:=(iE e).elim fun l e=>AO.frame?_is e▸rfl;have far:∀b o,s₀.heap.get? b=some o→b≠W.pl L:=fun b o q z=>nL (hZ q) (z▸S.fresh L hn hL);have R:=S.rel;have hB:=(R.at_ L hL hl).1;have hk:∀b o,s.heap.get? b=some o→b≠W.pl L→h'.get? b=some o:=fun b o q ne=>(sb.2 b ne).trans q;have lv:∀j,((h.set L .other).at_ j).live=true→j≠L∧(h.at_ j).live=true∧(h.set L .other).at_ j=h.at_ j:=fun j l=>by
  by_cases q:j=L
  ·subst q;rw [show (h.set j .other).at_ j = .other from upd_self] at l;exact nb l
  ·rw [show (h.set L .other).at_ j=h.at_ j from za9 q] at l⊢;exact ⟨q,l,rfl⟩
 refine ⟨⟨fun j q u=>?_,fun i j p q u w e=>R.apart i j p q (lv i u).2.1 (lv j w).2.1 e,fun b o e=>⟨(R.fz b o e).1,hk _ _ (R.fz b o e).2.1 (Ne.symm ((R.fz b o e).2.2 L hL hl)),fun j p u=>(R.fz b o e).2.2 j p (lv j u).2.1⟩,
  R.amb.step (fun b o q e=>hk b o e fun z=>q (z▸hB)) (fun X X e=>e) rfl rfl,R.fzn⟩,S.le,lT S.size (eL sb.1.symm),S.fresh,S.freshF,fun b o q hp ht=>?_,fun b o q f=>?_⟩
 ·rw [(lv j u).2.2]
  exact (R.at_ j q (lv j u).2.1).imp id fun ⟨o,h1,h2⟩=>⟨o,hk _ _ h1 fun z=>(lv j u).1 (R.apart j L q hL (lv j u).2.1 hl z),h2⟩
 ·exact (S.kept b o q hp ht).imp fun o' z=>⟨hk _ _ z.1 (far b o q),z.2⟩
 ·exact (S.frm b o q f).imp fun o' z=>⟨hk _ _ z.1 (far b o q),z.2⟩
def zu4(L:Nat)(h:Hp):Tr Unit:= .rq (h.at_ L).frame?.isSome (.ret () (h.set L .other))
def zu5(K:AV→Hp→Prop)(v:AV)(L:Nat)(h:Hp):Prop:=frz v h fun v h=>(zu4 L h).sem fun X h=>K v h
theorem zn5{K:AV→Hp→Prop}(H:JC P fr e h (zu5 K)):JE P fr e h K:=fun A E Q s W env G F kn=>(H A E s W env Q G F).1 fun acc C s' q=>by
 obtain ⟨W₁,h₁,v,L,S₁,V,hge,hL,rfl,H⟩:=q;obtain ⟨W',v',h',S₂,V,H⟩:=zgK H S₁.rel V;have S:=S₁.trans S₂;rw [←S₂.le.pl L hL];have hL:=lL hL S₂.le.le;exact H.go fun e H=>(zqF S.rel hL e).imp fun m hm=>⟨hm,fun h₂ sb=>kn (zud S hge hL e sb) (show VR _ _ v' acc from V) H⟩
theorem zhi{l:Nat}(h:zaR e=true)(hset:∀a b d p,e≠ .SetComp a b d p):∃b,swapsWith e (some t) l env=pure b∧(b=true→∃x p,t = .Name x p):=by
 induction e using cE <;> first | exact nb h | skip
 ·induction t using cE <;> first | exact ⟨_,rfl,fun X=>⟨_,_,rfl⟩⟩ | exact ⟨false,rfl,fun q=>nomatch q⟩
 ·exact absurd rfl (hset _ _ _ _)
 ·induction t using cE <;> first | exact ⟨_,rfl,fun X=>⟨_,_,rfl⟩⟩ | exact ⟨false,rfl,fun q=>nomatch q⟩
theorem Hp.set_comm{a b:Nat}{o o':AO}(q:a≠b):(h.set a o).set b o'=(h.set b o').set a o:=congrArg (Hp.mk h.nx) (funext fun k=>by
 show upd (upd h.at_ a o) b o' k=upd (upd h.at_ b o') a o k;by_cases y:k=b
 ·subst y;rw [upd_self,za9 (Ne.symm q),upd_self]
 ·rw [za9 y]
  by_cases z:k=a
  ·subst z;rw [upd_self,upd_self]
  ·rw [za9 z,za9 z,za9 y])
theorem zi8{v:AV}{L:Nat}{K:Unit→Hp→Prop}(hl:fr.L≠L)(hc:∀x t,fr.cel.lookup x=some t→t≠L)(e:(h.at_ L).frame?.isSome=true)(H:zhl fr x v (h.set L .other) K):zhl fr x v h fun X h'=>req (h'.at_ L).frame?.isSome (K () (h'.set L .other)):=H.go fun k e1 H=>zcb e1 (by
 have lv:∀{a:Nat} {o:AO},a≠L→K () ((h.set L .other).set a o)→req ((h.set a o).at_ L).frame?.isSome (K () ((h.set a o).set L .other)):=fun n H=>zo3 ((congrArg (fun o:AO=>o.frame?.isSome) (za9 (Ne.symm n))).trans e) (by rw [Hp.set_comm n];exact H);have at_:∀{a:Nat},a≠L→(h.set L .other).at_ a=h.at_ a:=fun n=>za9 n;induction k with
 | «local» =>exact opt.go H fun l e2 H=>zcb (at_ hl▸e2) (lv hl H)
 | cell=>exact opt.go H fun t e2 H=>opt.go H fun w e3 H=>zcb e2 (zcb (at_ (hc x t e2)▸e3) (lv (hc x t e2) H))
 | _=>exact False.elim H)
theorem zhY{K:Fl→Hp→Prop}(hc:zaR e=true)(hset:∀a b d p,e≠ .SetComp a b d p)(hs:∀env,swappedStores [.Name x pos'] e env=pure none)(H:JC P fr e h (zu5 fun v h=>zhl fr x v h fun X h=>K .next h)):JS P fr (.Assign [.Name x pos'] e pos) h K:=fun A E Q s W env G F kn=>by
 show wpAny _ A (exec (.Assign [.Name x pos'] e pos) env) Q E s;rw [exec_Assign_arm];refine wB (wS ?_);obtain ⟨b,hb,X⟩:=zhi (env:=env) (t:= .Name x pos') (l:=pos.line) hc hset;rw [show swapsWithSole [.Name x pos'] e pos.line env=Pure.pure b from hb];refine wB (wP ?_);induction b with
 | false=>
  refine Mine.wIfN (by decide) ?_;refine wB (zn5 (P:=P) H A E _ s W env G F fun W₁ v va h₁ s₁ S₁ V₁ H=>?_);rw [hs];refine wB (wP ?_);show wpAny _ A (do assignAll va [assign (.Name x pos') env];Pure.pure Flow.next) _ E s₁;exact wB (zk9 H A E _ _ _ (env,va) (G.on S₁) ⟨F.up S₁.le,V₁⟩ fun X X X X X S V H=>wP (kn (v:= .next) (S₁.trans S) rfl H))
 | true=>
  refine Mine.wIfP rfl ?_;have main:=(H A E s W env (fun X s'=>Q .next s') G F).2 (fun v=>assignAll v ((assignEach [.Name x pos'] env).map (·.2))) fun acc C s' q=>by
   obtain ⟨W₁,h₁,v,L,S₁,V,hge,hL,rfl,H⟩:=q;obtain ⟨W',v',h',S₀,V,H⟩:=zgK H S₁.rel V;have S:=S₁.trans S₀;rw [←S₀.le.pl L hL];have hL:=lL hL S₀.le.le;show wpAny _ A (assign (.Name x pos') env acc) _ E s';refine req.go H fun e H=>?_;refine zk9 (zi8 (Nat.ne_of_lt (lL F.loc.1 hge)) (fun x t e=>Nat.ne_of_lt (lL (F.cells x t e).1 hge)) e H) A E _ s' W' (env,acc) (G.on S) ⟨F.up S.le,V⟩ fun W₂ X X h₂ s₂ S₂ X H=>H.go fun e H=>?_;have hL₂:=lL hL S₂.le.le;rw [←S₂.le.pl L hL];exact (zqF S₂.rel hL₂ e).imp fun m hm=>⟨hm,fun h₃ sb=>kn (v:= .next) (zud (S.trans S₂) hge hL₂ e sb) rfl H⟩
  exact wB (wM main (fun X s' q=>q.elim fun X q=>wP q) fun X X q=>q)
end
noncomputable def znr{α:Type}(sl:List (Str×α))(e:Str×α):List (Str×α):=cond (sl.lookup e.1).isNone (sl ++ [e]) sl
noncomputable def ddF{α:Type}(n:Nat)(dv:List α):List α:=dv.drop (dv.length-n)
def zmB{α:Type}(ns:List Str)(dv pos:List α)(kw:List (Str×α)):List (Str×α):=((ns.drop (ns.length-(ddF ns.length dv).length)).zip (ddF ns.length dv)).foldl znr (ns.zip pos++kw)
def zdD{α:Type}(ns ko:List Str)(dv pos:List α)(kw:List (Str×α)):List (Str×α):=(ns++ko).filterMap fun n=>((zmB ns dv pos kw).lookup n).map (n,·)
noncomputable def zrP(ns ko:List Str)(d n:Nat)(kk:List Str):List Bool:=
 [kk.tail.isEmpty,kk.all fun k=>(ns.contains k || ko.contains k) && !(ns.take n).contains k,Nat.ble n ns.length,(ns.take (ns.length-(d-(d-ns.length)))).all (ns.take n++kk).contains,ko.all (ns.take n++kk).contains]
theorem zb5{β:Type}(m:Str):∀l:List (Str×β),(l.lookup m).isNone = !(l.map (·.1)).contains m
 | []=>rfl
 | p :: l=>by
  rw [List.lookup_cons,mC,List.contains_cons];induction m==p.1 with
  | true=>rfl
  | false=>exact zb5 m l
theorem zdF{β:Type}:∀(ns:List Str) (xs:List β),(ns.zip xs).map (·.1)=ns.take xs.length
 | [],_=>List.take_nil.symm
 | _ :: _, []=>rfl
 | n :: ns,x :: xs=>congrArg (n :: ·) (zdF ns xs)
theorem zk6{β:Type}{m:Str}{sl:List (Str×β)}(e:Str×β)(h:(sl.lookup m).isNone=false):((znr sl e).lookup m).isNone=false:=by
 unfold znr;induction (sl.lookup e.1).isNone with
 | false=>exact h
 | true=>
  rw [zb5,Bool.not_eq_false'] at h;exact (zb5 m (sl ++ [e])).trans (by rw [mA,List.contains_eq_any_beq,List.any_append,←List.contains_eq_any_beq,h];rfl)
theorem zf2{β:Type}{m:Str}:∀(l:List (Str×β)) {sl:List (Str×β)},(sl.lookup m).isNone=false→((l.foldl znr sl).lookup m).isNone=false
 | [],_,h=>h
 | e :: l,_,h=>zf2 l (zk6 e h)
section
variable {M:Model} {α β γ:Type}
theorem zbD{a:α}{l:List α}{b:β}{f:α→β→Sem (ForInStep β)}{Q:β→Shared→Prop}(h:wpAny M A (f a b>>=fun r=>match r with | .done b=>pure b | .yield b=>forIn l b f) Q E s):wpAny M A (forIn (a :: l) b f) Q E s:=by rw [List.forIn_cons];exact h
theorem zgN(g:β→α→β){f:α→β→Sem (ForInStep β)}{Q:β→Shared→Prop}:∀(l:List α) (b:β),(∀a,a∈l→∀b,f a b=pure (.yield (g b a)))→Q (l.foldl g b) s→wpAny M A (forIn l b f) Q E s
 | [],_,_,q=>wP q
 | a :: l,b,hf,q=>zbD (hf a mS b▸zgN g l (g b a) (fun a m=>hf a (mM _ m)) q)
theorem zmX{f:α→β→Sem (ForInStep β)}{Q:β→Shared→Prop}{b:β}:∀(l:List α),(∀a,a∈l→f a b=pure (.yield b))→Q b s→wpAny M A (forIn l b f) Q E s
 | [],_,q=>wP q
 | a :: l,hf,q=>zbD (hf a mS▸zmX l (fun a m=>hf a (mM _ m)) q)
theorem ifF{c:Bool}{t e:Sem α}{Q:α→Shared→Prop}(h:c=false)(q:wpAny M A e Q E s):wpAny M A (if c=true then t else e) Q E s:=by subst h;exact q
theorem ifT{c:Bool}{t e:Sem α}{Q:α→Shared→Prop}(h:c=true)(q:wpAny M A t Q E s):wpAny M A (if c=true then t else e) Q E s:=by subst h;exact q
theorem ifN{c:Prop}[Decidable c]{t e:Sem α}{Q:α→Shared→Prop}(h:¬c)(q:wpAny M A e Q E s):wpAny M A (if c then t else e) Q E s:=if_neg h▸q
theorem zp0{l:List α}{g:α→γ}{b b1:β}{f:α→β→Sem (ForInStep β)}{Q:β→Shared→Prop}(c:(l.map g).tail.isEmpty=true)(h0:l = []→b=b1)(h1:∀a,l = [a]→f a b=pure (.yield b1))(q:Q b1 s):wpAny M A (forIn l b f) Q E s:=by
 induction l using cL with
 | nil=>exact wP ((h0 rfl).symm▸q)
 | cons a r=>
  obtain rfl:r = []:=List.map_eq_nil_iff.mp (eI c);exact zbD (h1 a rfl▸wP q)
def zmp(s:Shared)(v:Value)(o:Option (Array Value)):Prop:=(v = .none∧o=none)∨∃T ob items n,v = .ref T∧s.heap.get? T=some ob∧ob.data = .seq items n∧o=some items
theorem znW{v:Value}{o:Option (Array Value)}{Q:Option (Array Value)→Shared→Prop}(h:zmp s v o)(q:Q o s):wpAny M A (seqItems? v) Q E s:=
 h.elim (fun ⟨e,e2⟩=>e▸wP (e2▸q)) fun ⟨T,X,items,n,e,h1,h2,h3⟩=>e▸wpAny_seqItems h1 h2 (h3▸q)
theorem andF{a b:Bool}(h:a=false):(a&&b)=false:=by subst h;rfl
theorem zaa(i:Nat):∀{l:List Bool},l.all id=true→l.getD i true=true:=by
 induction i with
 | zero=>exact fun {l} h=>by induction l using cL with
  | nil=>rfl
  | cons b l=>exact (aI h).1
 | succ i ih=>exact fun {l} h=>by induction l using cL with
  | nil=>rfl
  | cons b l=>exact ih (aI h).2
theorem ztE{fd:FuncData}{ps ko:List Arg}{kd kwa ds}{o:Option (Array Value)}{pos:List Value}{kw:List (Str×Value)}{Q:List (Str×Value)→Shared→Prop}(hD:zmp s fd.defaults o)
  (c:(zrP (ps.map (·.arg)) (ko.map (·.arg)) (o.getD #[]).toList.length pos.length (kw.map (·.1))).all id=true)
  (hq:Option.casesOn (motive:=fun X=>Prop) kwa (Q (zdD (ps.map (·.arg)) (ko.map (·.arg)) (o.getD #[]).toList pos kw) s)
   fun k=>Q (zdD (ps.map (·.arg)) (ko.map (·.arg)) (o.getD #[]).toList pos kw ++ [(k.arg, .ref s.heap.objs.size)]) {s with heap:=s.heap.push {cls:= .type "dict",data:= .dict #[]}})
  (hp:fd.params = ⟨[],ps,none,ko,kd,kwa,ds⟩):wpAny M A (bindArgs fd ⟨pos,kw⟩) Q E s:=by
 have has:∀n,((ps.map (·.arg)).take pos.length++kw.map (·.1)).contains n=true→(((ps.map (·.arg)).zip pos++kw).lookup n).isNone=false:=fun n h=>(zb5 n _).trans (by rw [mA,zdF,h];rfl);unfold bindArgs;rw [hp];refine wB (zp0 (l:=kw) (g:=(·.1)) (b1:=((ps.map (·.arg)).zip pos++kw, [])) (zaa 0 c) (fun e=>by rw [e,aL];rfl) (fun (k,v) e=>?_) ?_)
 ·have z:=aI (aT (zaa 1 c) k (by rw [e];exact mS))
  refine (if_pos z.1).trans ((if_neg (Bool.eq_false_iff.mp ?_)).trans (by rw [e];rfl));exact Option.isSome_eq_false_iff.mpr ((zb5 k ((ps.map fun x:Arg=>x.arg).zip pos)).trans (by rw [zdF];exact z.2))
 refine wB (znW hD (ifF (andF (dF (Nat.not_lt.mpr (jL (zaa 2 c))))) ?_));refine ifF ?_ ?_
 ·refine congrArg not (List.isEmpty_iff.mpr (List.filter_eq_nil_iff.mpr fun n m=>Bool.eq_false_iff.mp (has n ?_)))
  exact aT (zaa 3 c) n (List.length_drop (i:=(o.getD #[]).toList.length-(ps.map (·.arg)).length) (l:=(o.getD #[]).toList)▸m)
 refine wB (zgN znr _ _ (fun e X b=>?_) ?_)
 ·show (if (b.lookup e.1).isNone=true then _ else _)=pure (ForInStep.yield (cond (b.lookup e.1).isNone _ _))
  induction (b.lookup e.1).isNone <;> rfl
 refine wB (zmX _ (fun n m=>if_neg (Bool.eq_false_iff.mp (zf2 _ (has n (aT (zaa 4 c) n m))))) (ifF rfl ?_));induction kwa with
 | none=>exact wP hq
 | some k=>exact ifN (Nat.not_lt_zero _) (wB (wpAny_alloc (wP hq)))
end
end Mn
end
section
open PySem PySem.W PyProof.Rows
namespace Mn
variable {a b l:List Obj} {o:Obj} {t:Nat} {es:List DictEntry} {ks:List Int} {k:Int}
structure Bs where
 h:Heap
 g:Array GenState
 d:Drawn
 os:OsState
noncomputable def ext(h:Heap)(l:List Obj):Heap:=⟨h.objs++l.toArray,h.life⟩
def Bs.st(B:Bs)(l:List Obj)(t:Nat):Shared:=⟨ext B.h l,B.g,B.d,t,B.os⟩
noncomputable def dO(es:List DictEntry):Obj:={cls:= .type "dict",data:= .dict es.toArray es.length}
section
variable {B:Bs}
theorem znR:(ext B.h l).push o=ext B.h (l ++ [o]):=congrArg (Heap.mk · B.h.life) ((Array.append_push (xs:=B.h.objs) (ys:=l.toArray)).symm.trans (congrArg (B.h.objs ++ ·) (List.push_toArray ..)))
theorem znQ:(ext B.h l).objs.size=B.h.objs.size+l.length:=Array.size_append
theorem zde(hf:o.isFreed=false):(B.st (a++o :: b) t).heap.get? (B.h.objs.size+a.length)=some o:=Heap.get?_some_iff.mpr ⟨by
 show (B.h.objs++(a++o :: b).toArray)[B.h.objs.size+a.length]? = some o;rw [Array.getElem?_append_right (rA ..),Nat.add_sub_cancel_left,List.getElem?_toArray,List.getElem?_append_right (rL _),Nat.sub_self]
 rfl,hf⟩
theorem ziX{α:Type}(f:α→α)(x:α)(b:List α):∀a:List α,(a++x :: b).modify a.length f=a++f x :: b
 | []=>rfl
 | y :: a=>congrArg (y :: ·) (ziX f x b a)
theorem ziW{α:Type}(f:α→α)(l:List α)(i:Nat):∀a:List α,(a++l).modify (a.length+i) f=a++l.modify i f
 | []=>by rw [List.length_nil,Nat.zero_add];rfl
 | y :: a=>by rw [List.length_cons,Nat.succ_add];exact congrArg (y :: ·) (ziW f l i a)
theorem zmA(f:Obj→Obj):(ext B.h (a++o :: b)).update (B.h.objs.size+a.length) f=ext B.h (a++f o :: b):=congrArg (Heap.mk · B.h.life) (Array.toList_inj.mp (by
 rw [Array.toList_modify,Array.toList_append,Array.toList_append,←Array.length_toList,ziW,List.toList_toArray,ziX]))
end
def IK(e:DictEntry)(k:Int):Prop:=∃t,e.key = .int k t∧e.hash=hashInt k
def OkE(es:List DictEntry)(ks:List Int):Prop:=∃K,Rs IK es K∧(K++ks).Pairwise (· < ·)
theorem Rs.mem{α β:Type}{R:α→β→Prop}{xs:List α}{ys:List β}(h:Rs R xs ys):∀x,x∈xs→∃y,y∈ys∧R x y:=by
 induction h with
 | nil=>exact fun X m=>nomatch m
 | cons a X ih=>exact fun x m=>(cP m).elim (fun e=>⟨_,mS,e▸a⟩) fun m=>(ih x m).imp fun X q=>⟨mM _ q.1,q.2⟩
section
variable {e:DictEntry}
theorem OkE.keys(h:OkE es ks):IntKeys es.toArray:=fun e m=>h.elim fun X h=>(h.1.mem e (Array.mem_toList_iff.mpr m)).elim fun j q=>q.2.elim fun t z=>⟨j,t,z⟩
theorem OkE.none(h:OkE es (k :: ks)):(es.toArray.findIdx? fun e=>Value.isInt k e.key)=none:=Array.findIdx?_eq_none_iff.mpr fun e m=>h.elim fun X h=>(h.1.mem e (Array.mem_toList_iff.mpr m)).elim fun j q=>q.2.elim fun t z=>by
 rw [z.1];exact beq_false_of_ne (Int.ne_of_lt ((List.pairwise_append.mp h.2).2.2 j q.1 k mS))
theorem OkE.snoc(h:OkE es (k :: ks))(q:IK e k):OkE (es ++ [e]) ks:=h.elim fun K h=>⟨K ++ [k],h.1.app (.cons q .nil),by rw [aA];exact h.2⟩
theorem OkE.sub{r:List Int}(h:OkE es (ks++r)):OkE [] ks:=h.elim fun X h=>⟨[], .nil,(List.pairwise_append.mp (List.pairwise_append.mp h.2).2.1).1⟩
end
section
variable {B:Bs} {prog:Program} {w:World} {A:Around} {E:Value→Shared→Prop} {tk:Tok} {v:Value} {Q:Unit→Shared→Prop}
theorem zjy(e:DictEntry):Obj.mapDictKeys (·.push e) (dO es)=dO (es ++ [e]):=by
 show ({cls:= .type "dict",data:= .dict (es.toArray.push e) (es.length+1)}:Obj)=_;unfold dO;rw [List.push_toArray,lA]
 rfl
theorem zlQ{e:DictEntry}(h:OkE es (k :: ks))(hz:es.length≤sizeLine)(ik:IK e k)(q:Q () (B.st (a++dO (es ++ [e]) :: b) t)):wpAny (model prog w) A (dictPut (B.h.objs.size+a.length) e.hash e.key e.val) Q E (B.st (a++dO es :: b) t):=by
 obtain ⟨X,Z,v⟩:=e;obtain ⟨tk,rfl,rfl⟩:=ik;unfold dictPut;refine wB (wpAny_dictFind_int (zde rfl) rfl h.keys ?_);rw [h.none];refine wpAny_updateDictKeys (zde rfl) rfl ?_ hz (eL (Array.size_push _));show Q () ⟨(ext B.h (a++dO es :: b)).update (B.h.objs.size+a.length) _,_,_,_,_⟩;rw [zmA,zjy];exact q
theorem zid(h:OkE es (k :: ks))(hz:es.length≤sizeLine)(q:Q () (B.st (a++dO (es ++ [⟨hashInt k, .int k tk,v⟩]) :: b) (t+1))):wpAny (model prog w) A (dictSet (B.h.objs.size+a.length) (.int k tk) v) Q E (B.st (a++dO es :: b) t):=by
 unfold dictSet;refine wH (wB (wpAny_pyHash_int ?_));unfold dictSetHashed;refine wH (wB (wpAny_dictFind_int (s:=B.st (a++dO es :: b) (t+1)) (zde rfl) rfl h.keys ?_));rw [h.none];refine wB (wpAny_rule (wpAny_updateDictKeys (zde rfl) rfl ?_ hz (eL (Array.size_push _))));show Q () ⟨(ext B.h (a++dO es :: b)).update (B.h.objs.size+a.length) _,_,_,_,_⟩;rw [zmA,zjy];exact q
noncomputable def zf7{ι:Type}(ent:ι→Nat→DictEntry)(c:Nat)(t:Nat)(xs:List ι):List DictEntry:=List.rec (motive:=fun X=>Nat→List DictEntry) (fun X=> []) (fun x X ih t=>ent x t :: ih (t+c)) xs t
theorem zcQ{ι:Type}(g:ι→DictEntry)(c:Nat):∀(xs:List ι) (t:Nat),zf7 (fun x X=>g x) c t xs=xs.map g
 | [],_=>rfl
 | x :: xs,t=>congrArg (g x :: ·) (zcQ g c xs (t+c))
theorem zli{ι:Type}{f:ι→PUnit→Sem (ForInStep PUnit)}(key:ι→Int)(ent:ι→Nat→DictEntry)(c:Nat){r:List Int}{Q:PUnit→Shared→Prop}:∀(xs:List ι) (es:List DictEntry) (t:Nat),
  (∀x,x∈xs→∀t,IK (ent x t) (key x))→(∀x,x∈xs→∀es t ks (Q:ForInStep PUnit→Shared→Prop),OkE es (key x :: ks)→es.length≤sizeLine→Q (.yield ⟨⟩) (B.st (a++dO (es ++ [ent x t]) :: l) (t+c))→wpAny (model prog w) A (f x ⟨⟩) Q E (B.st (a++dO es :: l) t))→
  OkE es (xs.map key++r)→es.length+xs.length≤sizeLine→Q ⟨⟩ (B.st (a++dO (es++zf7 ent c t xs) :: l) (t+c*xs.length))→wpAny (model prog w) A (forIn xs PUnit.unit f) Q E (B.st (a++dO es :: l) t)
 | [],es,t,_,_,_,_,q=>wP (aL es▸q)
 | x :: xs,es,t,ik,hf,h,hz,q=>by
  have e1:es++zf7 ent c t (x :: xs)=es ++ [ent x t]++zf7 ent c (t+c) xs:=(aA es [ent x t] (zf7 ent c (t+c) xs)).symm;have e2:t+c*(x :: xs).length=t+c+c*xs.length:=(congrArg (t + ·) (Nat.add_comm (c*xs.length) c)).trans (Nat.add_assoc ..).symm;rw [e1,e2] at q;exact zbD (wB (hf x mS es t _ _ h (lT (rA ..) hz) (zli key ent c xs (es ++ [ent x t]) (t+c) (fun y m=>ik y (mM _ m)) (fun y m=>hf y (mM _ m)) (h.snoc (ik x mS t)) (by rw [lA];exact lT (eL (Nat.add_right_comm ..)) hz) q)))
noncomputable def zcG(kv:Int×Str):Sem Value:=mkInt kv.1
noncomputable def zcp(pos:Pos)(kv:Int×Str):Sem Value:=do let x←mkText kv.2;standAt pos;pure x
def zd3(pos:Pos)(kvs:List (Int×Str)):List (Sem Value×Sem Value):=kvs.map fun kv=>(zcG kv,zcp pos kv)
noncomputable def ztp(kv:Int×Str)(t:Nat):DictEntry:=⟨hashInt kv.1, .int kv.1 t, .str kv.2 (t+1)⟩
noncomputable def zq1(kvs:List (Int×Str)):Nat→List (Int×Nat×Value):=List.rec (motive:=fun X=>Nat→List (Int×Nat×Value)) (fun X=> []) (fun kv X ih t=>(kv.1,t, .str kv.2 (t+1)) :: ih (t+2)) kvs
noncomputable def zto(y:Int×Nat×Value):DictEntry:=⟨hashInt y.1, .int y.1 y.2.1,y.2.2⟩
noncomputable def vv(y:Int×Nat×Value):Value×Value:=(.int y.1 y.2.1,y.2.2)
def zfg(t:Nat)(kvs:List (Int×Str)):List DictEntry:=if kvs.length≤15 then (zq1 kvs t).map zto else zf7 ztp 3 t kvs
theorem zbv:∀(kvs:List (Int×Str)) (t:Nat),(zq1 kvs t).map (·.1)=kvs.map (·.1)
 | [],_=>rfl
 | kv :: r,t=>congrArg (kv.1 :: ·) (zbv r (t+2))
theorem zg3(kvs:List (Int×Str))(t:Nat):(zq1 kvs t).length=kvs.length:=(lM ..).symm.trans ((congrArg List.length (zbv kvs t)).trans (lM ..))
theorem zg2{kv:Int×Str}{Q:Value→Shared→Prop}(q:Q (.int kv.1 t) (B.st l (t+1))):wpAny (model prog w) A (zcG kv) Q E (B.st l t):=fun X X X=>q
theorem zg1{pos:Pos}{kv:Int×Str}{Q:Value→Shared→Prop}(q:Q (.str kv.2 t) (B.st l (t+1))):wpAny (model prog w) A (zcp pos kv) Q E (B.st l t):=fun X X X=>q
theorem zmF(pos:Pos):∀(kvs:List (Int×Str)) (t:Nat) (Q:List (Value×Value)→Shared→Prop),Q ((zq1 kvs t).map vv) (B.st l (t+2*kvs.length))→wpAny (model prog w) A (evalPairs (zd3 pos kvs)) Q E (B.st l t)
 | [],_,_,q=>wP q
 | kv :: r,t,Q,q=>wB (zg2 (wB (wH (zg1 (wB (wH (zmF pos r (t+1+1) _ (wP (((congrArg (t + ·) (Nat.add_comm (2*r.length) 2)).trans (Nat.add_assoc ..).symm:t+2*(kv :: r).length=t+1+1+2*r.length)▸q)))))))))
theorem zfO{ι α β:Type}{g:ι→α}{xs:List ι}{b:β}{f:α→β→Sem (ForInStep β)}{s:Shared}{Q:β→Shared→Prop}(h:wpAny (model prog w) A (forIn xs b fun x=>f (g x)) Q E s):wpAny (model prog w) A (forIn (xs.map g) b f) Q E s:=by rw [List.forIn_map];exact h
theorem zmy(pos:Pos){kvs:List (Int×Str)}{Q:Addr→Shared→Prop}(h:OkE [] (kvs.map (·.1)))(hz:kvs.length≤sizeLine)(q:Q (B.h.objs.size+l.length) (B.st (l ++ [dO (zfg t kvs)]) (t+3*kvs.length))):
  wpAny (model prog w) A (subDict (zd3 pos kvs)) Q E (B.st l t):=by
 have h:OkE [] (kvs.map (·.1) ++ []):=(aL _).symm▸h;have hz:([]:List DictEntry).length+kvs.length≤sizeLine:=(Nat.zero_add _).symm▸hz;unfold subDict;refine wB (wpAny_alloc ?_);show wpAny _ _ _ Q E ⟨(ext B.h l).push (dO []),_,_,_,_⟩;rw [znR,show (B.st l t).heap.objs.size=_ from znQ];refine wB (wH ?_);rw [show (zd3 pos kvs).length=kvs.length from lM ..];unfold zfg at q;by_cases hn:kvs.length≤15
 ·rw [if_pos hn] at q⊢
  refine wB (zmF (B:=B) pos kvs t _ (wH (wB (zfO (zli (B:=B) (·.1) (fun y X=>zto y) 1 (r:= []) (zq1 kvs t) [] (t+2*kvs.length) ?_ ?_ ?_ ?_ ?_)))))
  ·exact fun y X X=>⟨_,rfl,rfl⟩
  ·exact fun y X es t ks Q h hz q=>wB (zid h hz (wP q))
  ·rw [zbv];exact h
  ·rw [zg3];exact hz
  ·rw [zcQ,zg3,Nat.add_assoc,←Nat.add_mul];exact wP (wP q)
 ·rw [if_neg hn] at q⊢
  refine wB (wpAny_rule (wB (zfO (zli (B:=B) (·.1) ztp 3 (r:= []) kvs [] t (fun X X X=>⟨_,rfl,rfl⟩) (fun kv X es t ks Q h hz q=>?_) h hz (wP (wP q))))));exact wB (zg2 (wB (wH (zg1 (wB (wH (zid h hz (wP q))))))))
theorem zsZ{α:Type}{M:Model}{x y:α}{s:Shared}{Q:α→Shared→Prop}(e:x=y)(q:Q y s):wpAny M A (pure x) Q E s:=by subst e;exact wP q
theorem Rs.getD{α β:Type}{R:α→β→Prop}{xs:List α}{ys:List β}{d:α}{e:β}(h:Rs R xs ys):∀i,i<xs.length→R (xs.getD i d) (ys.getD i e):=by
 induction h with
 | nil=>exact fun X q=>absurd q (Nat.not_lt_zero _)
 | cons a X ih=>exact fun i q=>by induction i using Nat.casesOn with
  | zero=>exact a
  | succ i=>exact ih i (Nat.lt_of_succ_lt_succ q)
theorem zbN{α:Type}(d:α):∀l:List α,(List.range l.length).map (l.getD · d)=l
 | []=>rfl
 | x :: l=>by rw [List.length_cons,List.range_succ_eq_map,mC,mN];exact congrArg (x :: ·) (zbN d l)
theorem zle{ex:List Obj}{es':List DictEntry}{K r:List Int}(hne:es≠[])(h:OkE es (K++r))(h':Rs IK es' K)(hz:es.length+es'.length≤sizeLine)(hm:1<B.h.objs.size)(q:Q () (B.st (dO (es++es') :: (ex ++ [dO es'])) t)):
  wpAny (model prog w) A (mergeMapping (B.h.objs.size+0) (.ref (B.h.objs.size+(ex.length+1))) false) Q E (B.st (dO es :: (ex ++ [dO es'])) t):=by
 have hs:∀es,(B.st (dO es :: (ex ++ [dO es'])) t).heap.get? (B.h.objs.size+(ex.length+1))=some (dO es'):=fun es=>zde (a:=dO es :: ex) (b:= []) rfl;have hT:(B.st (dO es :: (ex ++ [dO es'])) t).TypeIs (.ref (B.h.objs.size+(ex.length+1))) "dict" :=⟨_,hs es,rfl⟩;unfold mergeMapping;refine wB (wpAny_isInstance hT isSubtype_dict_dict (ifT rfl (wB (wpAny_specialOf hT F.slot_dict_iter.lookup (wB (zsZ (bS _) ?_))))));refine ifF (beq_false_of_ne (Nat.ne_of_gt (lL hm (rA ..)))) (wB (wpAny_dictEntries (zde (a:= []) rfl) rfl (ifF ?_ (wB (wpAny_dictEntries (hs es) rfl (wB (wpAny_dictEpoch (hs es) rfl (wB ?_))))))))
 ·induction es using cL with
  | nil=>exact absurd rfl hne
  | cons=>rfl
 have e1:zf7 (fun i (_:Nat)=>es'.getD i ⟨0, .none, .none⟩) 0 t (List.range es'.length)=es':=(zcQ ..).trans (zbN _ es');refine zli (B:=B) (a:= []) (fun i=>K.getD i 0) (fun i X=>es'.getD i ⟨0, .none, .none⟩) 0 (r:=r) (List.range es'.length) es t (fun i m t=>?_) (fun i m es t ks Q h hz q=>?_) ?_ ?_ ?_
 ·exact h'.getD i (List.mem_range.mp m)
 ·refine wB (wpAny_dictEntries (hs es) rfl ?_)
  rw [show es'.toArray[i]? = some (es'.getD i ⟨0, .none, .none⟩) by rw [List.getElem?_toArray,gD,gG (List.mem_range.mp m)];rfl];exact wB (wH (ifN (Bool.noConfusion) (zlQ (a:= []) h hz (h'.getD i (List.mem_range.mp m)) (wB (wpAny_dictEpoch (hs _) rfl (ifF (bne_self_eq_false _) (wP q)))))))
 ·rw [h'.len,zbN];exact h
 ·rw [lR];exact hz
 ·rw [e1,Nat.zero_mul];exact wP q
theorem zcn(kvs:List (Int×Str))(t:Nat):Rs IK (zfg t kvs) (kvs.map (·.1)):=by
 have e1:∀(l:List (Int×Nat×Value)),Rs IK (l.map zto) (l.map (·.1)):=fun l=>by
  induction l with
  | nil=>exact .nil
  | cons X Z ih=>exact .cons ⟨_,rfl,rfl⟩ ih
 have e2:∀(l:List (Int×Str)) t,Rs IK (zf7 ztp 3 t l) (l.map (·.1)):=fun l=>by
  induction l with
  | nil=>exact fun X=> .nil
  | cons X Z ih=>exact fun t=> .cons ⟨_,rfl,rfl⟩ (ih (t+3))
 unfold zfg
 split
 ·exact zbv kvs t▸e1 _
 ·exact e2 kvs t
theorem zcV(kvs:List (Int×Str))(t:Nat):(zfg t kvs).length=kvs.length:=(zcn kvs t).len.trans (lM ..)
noncomputable abbrev DM:=Option (List DictEntry×List Obj)
noncomputable def esD(m:DM):List DictEntry:=Option.casesOn (motive:=fun X=>List DictEntry) m [] (·.1)
noncomputable def zfA(m:DM):List Obj:=Option.casesOn (motive:=fun X=>List Obj) m [] fun x=>dO x.1 :: x.2
noncomputable def zlg(B:Bs)(m:DM):Option Addr:=m.map fun X=>B.h.objs.size+0
def zaZ(m:DM)(t:Nat)(run:List (Int×Str)):DM:=List.casesOn (motive:=fun X=>DM) run m fun X X=>some (Option.casesOn (motive:=fun X=>List DictEntry×List Obj) m (zfg t run,[]) fun x=>(x.1++zfg t run,x.2 ++ [dO (zfg t run)]))
def zhM(kvs:List (Int×Str)):DM→Nat→List (Int×Str)→DM×Nat×List (Int×Str):=List.rec (motive:=fun X=>DM→Nat→List (Int×Str)→DM×Nat×List (Int×Str)) (fun m t p=>(m,t,p)) (fun kv X ih m t p=>cond ((p ++ [kv]).length==17) (ih (zaZ m t (p ++ [kv])) (t+3*(p ++ [kv]).length) []) (ih m t (p ++ [kv]))) kvs
theorem zdu{m:DM}{run:List (Int×Str)}:(esD (zaZ m t run)).length=(esD m).length+run.length:=by
 induction run using cL with
 | nil=>rfl
 | cons kv r=>induction m with
  | none=>exact (zcV (kv :: r) t).trans (Nat.zero_add _).symm
  | some x=>exact List.length_append.trans (congrArg (x.1.length + ·) (zcV (kv :: r) t))
def OkM(m:DM)(ks:List Int):Prop:=OkE (esD m) ks∧(m.isSome=true→0<(esD m).length)
theorem zjk{m:DM}{run:List (Int×Str)}{r:List Int}(h:OkM m (run.map (·.1)++r)):OkM (zaZ m t run) r:=by
 induction run using cL with
 | nil=>exact h
 | cons kv ru=>
  refine ⟨?_,fun X=>zdu (t:=t) (m:=m) (run:=kv :: ru)▸Nat.succ_pos _⟩;induction m with
  | none=>exact h.1.elim fun K q=>by cases q.1;exact ⟨_,zcn (kv :: ru) t,q.2⟩
  | some x=>exact h.1.elim fun K q=>⟨_,q.1.app (zcn (kv :: ru) t),(aA ..).symm▸q.2⟩
def zkd(B:Bs)(M:Model)(A:Around)(E:Value→Shared→Prop)(pos:Pos)(fl:List (Sem Value×Sem Value)→Option Addr→Sem (Option Addr)):Prop:=∀(m:DM) (t:Nat) (run:List (Int×Str)) (r:List Int) (Q:Option Addr→Shared→Prop),OkM m (run.map (·.1)++r)→(esD m).length+run.length≤sizeLine→
 Q (zlg B (zaZ m t run)) (B.st (zfA (zaZ m t run)) (t+3*run.length))→wpAny M A (fl (zd3 pos run) (zlg B m)) Q E (B.st (zfA m) t)
theorem zhf{pos:Pos}{p:List (Int×Str)}{kv:Int×Str}:zd3 pos p ++ [(zcG kv,zcp pos kv)]=zd3 pos (p ++ [kv]):=by unfold zd3;rw [mA];rfl
theorem zcT{pos:Pos}{fl:List (Sem Value×Sem Value)→Option Addr→Sem (Option Addr)}(hfl:zkd B (model prog w) A E pos fl){f:Int×Str→Option Addr×List (Sem Value×Sem Value)→Sem (ForInStep (Option Addr×List (Sem Value×Sem Value)))}
  (hf:∀kv m run,f kv (m,run)=if ((run ++ [(zcG kv,zcp pos kv)]).length==17)=true then fl (run ++ [(zcG kv,zcp pos kv)]) m>>=fun m=>pure (.yield (m, [])) else pure (.yield (m,run ++ [(zcG kv,zcp pos kv)]))) {Q:Option Addr×List (Sem Value×Sem Value)→Shared→Prop}
  {F:DM×Nat×List (Int×Str)→Prop} (hF:∀x,F x→OkM x.1 (x.2.2.map (·.1) ++ [])→(esD x.1).length+x.2.2.length≤sizeLine→Q (zlg B x.1,zd3 pos x.2.2) (B.st (zfA x.1) x.2.1)):
  ∀(kvs:List (Int×Str)) (m:DM) (t:Nat) (p:List (Int×Str)),OkM m (p.map (·.1)++kvs.map (·.1))→(esD m).length+p.length+kvs.length≤sizeLine→F (zhM kvs m t p)→wpAny (model prog w) A (forIn kvs (zlg B m,zd3 pos p) f) Q E (B.st (zfA m) t)
 | [],m,t,p,h,hz,q=>wP (hF _ q h hz)
 | kv :: r,m,t,p,h,hz,q=>by
  have e1:p.map (·.1)++(kv :: r).map (·.1)=(p ++ [kv]).map (·.1)++r.map (·.1):=by rw [mA,aA];rfl
  have e3:(esD m).length+p.length+(kv :: r).length=(esD m).length+(p ++ [kv]).length+r.length:=by rw [lA,←Nat.add_assoc,Nat.add_assoc _ [kv].length,Nat.add_comm [kv].length];rfl
  rw [e1] at h;rw [e3] at hz;have q:F (cond ((p ++ [kv]).length==17) (zhM r (zaZ m t (p ++ [kv])) (t+3*(p ++ [kv]).length) []) (zhM r m t (p ++ [kv]))):=q;refine zbD ?_;rw [hf,zhf,show (zd3 pos (p ++ [kv])).length=(p ++ [kv]).length from lM ..];revert q;induction (p ++ [kv]).length==17 with
  | true=>exact fun q=>wB (ifT rfl (wB (hfl _ _ _ _ _ h (lT (rA ..) hz) (wP (zcT hfl hf hF r _ _ [] (zjk h) (lT (eL (congrArg (· + r.length) zdu)) hz) q)))))
  | false=>exact fun q=>wB (ifF rfl (wP (zcT hfl hf hF r m t _ h hz q)))
theorem zhL(pos:Pos){kvs:List (Int×Str)}(ok:OkE [] (kvs.map (·.1)))(hz:kvs.length≤sizeLine)(hm:1<B.h.objs.size){Q:Value→Shared→Prop}{D:DM×Nat×List (Int×Str)}(eD:zhM kvs none t []=D)
  (hs:(zaZ D.1 D.2.1 D.2.2).isSome=true) (q:Q (.ref B.h.objs.size) (B.st (zfA (zaZ D.1 D.2.1 D.2.2)) (D.2.1+3*D.2.2.length))):wpAny (model prog w) A (dictDisplay (kvs.map fun kv=>(some (zcG kv),zcp pos kv))) Q E (B.st [] t):=by
 unfold dictDisplay
 extract_lets fl
 have hfl:zkd B (model prog w) A E pos fl:=fun m t run r Q h hz q=>by
  induction run using cL with
  | nil=>exact wP q
  | cons kv ru=>induction m with
   | none=>exact wB (zmy pos h.1.sub (lT (Nat.le_add_left ..) hz) (wP q))
   | some x=>
    refine wB (wH (zmy pos h.1.sub (lT (Nat.le_add_left ..) hz) (wB (wpAny_onRaise (wM (wH (zle (fun e=>absurd (h.2 rfl) (e▸Nat.lt_irrefl 0:¬0<x.1.length)) h.1 (zcn (kv :: ru) t) (zcV (kv :: ru) t▸hz) hm (E:=fun X X=>False) (Q:=fun X s'=>wpAny _ _ (pure (some (B.h.objs.size+0))) Q E s') (wP q))) (fun X X z=>z) fun X X z=>z.elim)))))
 refine wB (zfO (zcT hfl (fun X X X=>rfl) (F:=(· = D)) (fun x e h hz=>?_) kvs none t [] ⟨ok,fun q=>nb q⟩ ((Nat.zero_add _).symm▸hz) eD));obtain rfl:=e;refine wB (hfl x.1 x.2.1 x.2.2 [] _ h hz ?_);revert hs q;induction zaZ x.1 x.2.1 x.2.2 with
 | none=>exact fun hs=>nb hs
 | some y=>exact fun X q=>wP q
end
end Mn
end
section
open PySem PySem.W
namespace Mn
variable {prog:Program} {w:World} {ok:Addr→Bool} {α β:Type} {Γ:Ctx} {p:Pos} {s S:SharedT} {t:Sem α}
open PySem.Sem (wp)
theorem cnd{α:Type}{b:Bool}{x:Option α}{z:α}(h:cond b x none=some z):b=true∧x=some z:=by
 induction b with
 | false=>exact no h
 | true=>exact ⟨rfl,h⟩
noncomputable abbrev Ev(α:Type):=Except Value α×Pos×SharedT
noncomputable def evC(ih:Ctx→Pos→SharedT→Option (Ev Fin)):Nat→Ctx→Pos→SharedT→Option (Result×SharedT)
 | 0,_,_,_=>none
 | m+1,Γ,p,s=>(ih Γ p s).bind fun x=>Except.casesOn (motive:=fun X=>Option (Result×SharedT)) x.1 (fun e=>some ((.error e:Result),x.2.2)) fun f=>PySem.Fin.casesOn (motive:=fun X=>Option (Result×SharedT)) f (fun f=>some ((.ok f:Result),x.2.2)) fun c=>cond c.quiet (evC ih m (Γ.goto c) x.2.1 x.2.2) none
def evN(den:Code→Sem Fin)(prog:Program)(w:World)(ok:Addr→Bool):Nat→(α:Type)→Ctx→Sem α→Pos→SharedT→Option (Ev α)
 | 0,_,_,_,_,_=>none
 | n+1,α,Γ,t,p,s=>match t with
  | .pure a=>some (.ok a,p,s)
  | .raise e=>some (.error e,p,s)
  | .rule _ k=>evN den prog w ok n α Γ (k ()) p s
  | .at p' k=>evN den prog w ok n α Γ (k ()) p' s
  | .load a _ k=>cond (Nat.blt a s.n) ((s.tree.get a).bind fun o=>(alive o).bind fun o=>evN den prog w ok n α Γ (k o) p s) none
  | .update a _ f k=>cond (Nat.blt a s.n&&ok a) ((s.tree.get a).bind fun o=>(alive o).bind fun X=>evN den prog w ok n α Γ (k ()) p {s with tree:=s.tree.set a f}) none
  | .alloc o k=>cond ((s.tree.ins s.n o).get s.n).isSome (evN den prog w ok n α Γ (k s.n) p {s with tree:=s.tree.ins s.n o,n:=s.n+1}) none
  | .loadIfAlive a k=>cond (Nat.blt a s.n) ((s.tree.get a).bind fun o=>evN den prog w ok n α Γ (k (alive o)) p s) (evN den prog w ok n α Γ (k none) p s)
  | .point _ k=>evN den prog w ok n α Γ (k ()) p s
  | .fresh k=>evN den prog w ok n α Γ (k s.toks) p {s with toks:=s.toks+1}
  | .ask k=>evN den prog w ok n α Γ (k ⟨prog,w.params⟩) p s
  | .call c h _ _ k=>(evC (fun Γ p s=>evN den prog w ok n Fin Γ (den Γ.code) p s) n (Γ.enter c h p) p s).bind fun x=>evN den prog w ok n α Γ (k x.1) p x.2
  | .handled own k=>evN den prog w ok n α Γ (k (if own then Γ.own else Γ.handled)) p s
  | .stack k=>evN den prog w ok n α Γ (k ((Γ.code,p) :: Γ.below)) p s
  | .thread k=>evN den prog w ok n α Γ (k 0) p s
  | _=>none
structure Kept(ok:Addr→Bool)(s s':SharedT):Prop where
 n:s.n≤s'.n
 obj:∀b o,ok b=false→s.abs.heap.get? b=some o→s'.abs.heap.get? b=some o
 life:s'.life=s.life
 gens:s'.gens=s.gens
 os:s'.os=s.os
section
variable {den:Code→Sem Fin} {p':Pos} {s' s₁:SharedT} {r:Except Value α} {o:Obj} {a:Addr} {f:Obj→Obj}
theorem Kept.refl:Kept ok s s:=⟨rL _,fun X X X e=>e,rfl,rfl,rfl⟩
theorem Kept.trans(a:Kept ok s s₁)(b:Kept ok s₁ s'):Kept ok s s':=⟨lT a.n b.n,fun x o h e=>b.obj x o h (a.obj x o h e),b.life.trans a.life,b.gens.trans a.gens,b.os.trans a.os⟩
theorem zk7(g:s.tree.get a=some o):SharedT.abs {s with tree:=s.tree.set a f} = {s.abs with heap:=s.abs.heap.update a f}:=congrArg (fun h=>Shared.mk h s.gens s.drawn s.toks s.os) (absHeap_set g)
theorem zk8(e:((s.tree.ins s.n o).get s.n).isSome=true):SharedT.abs {s with tree:=s.tree.ins s.n o,n:=s.n+1} = {s.abs with heap:=s.abs.heap.push o}:=congrArg (fun h=>Shared.mk h s.gens s.drawn s.toks s.os) (absHeap_ins e)
theorem Kept.set(g:s.tree.get a=some o)(h:ok a=true):Kept ok s {s with tree:=s.tree.set a f}:=⟨rL _,fun b x hb hx=>(congrArg (fun z:Shared=>z.heap.get? b) (zk7 g)).trans ((Heap.get?_update_other _ _ fun e=>by subst e;exact nb (hb.symm.trans h)).trans hx),rfl,rfl,rfl⟩
theorem Kept.ins(e:((s.tree.ins s.n o).get s.n).isSome=true):Kept ok s {s with tree:=s.tree.ins s.n o,n:=s.n+1}:=⟨Nat.le_succ _,fun b x X hx=>(congrArg (fun z:Shared=>z.heap.get? b) (zk8 e)).trans (pS _ hx),rfl,rfl,rfl⟩
def zrb(Q:α→Pos→Shared→Prop)(E:Value→Pos→Shared→Prop)(x:Ev α):Prop:=Except.casesOn (motive:=fun X=>Prop) x.1 (fun e=>E e x.2.1 x.2.2.abs) fun a=>Q a x.2.1 x.2.2.abs
def zmn(den:Code→Sem Fin)(prog:Program)(w:World)(ok:Addr→Bool)(Γ:Ctx)(t:Sem α)(p:Pos)(s:SharedT)(x:Ev α):Prop:=Kept ok s x.2.2∧∀Q E,zrb Q E x→wp ⟨den,prog,w⟩ Γ t Q E p s.abs
theorem zn2{ih:Ctx→Pos→SharedT→Option (Ev Fin)}(H:∀Γ p s x,ih Γ p s=some x→zmn den prog w ok Γ (den Γ.code) p s x):∀(m:Nat) (Γ:Ctx) (p:Pos) (s:SharedT) (y:Result×SharedT),evC ih m Γ p s=some y→Kept ok s y.2∧∀R:Result→Shared→Prop,R y.1 y.2.abs→wpCode ⟨den,prog,w⟩ Γ R p s.abs
 | 0,_,_,_,_,h=>no h
 | m+1,Γ,p,s,y,h=>(bE h).elim fun x q=>by
  obtain ⟨K,Z⟩:=H Γ p s x q.1;obtain ⟨f,p1,s1⟩:=x;have q:=q.2;induction f with
  | error e=>obtain rfl:=sI q;exact ⟨K,fun R hR=>(wpCode_iff_wp ..).mpr (Z _ _ hR)⟩
  | ok f=>
   induction f with
   | done f=>obtain rfl:=sI q;exact ⟨K,fun R hR=>(wpCode_iff_wp ..).mpr (Z _ _ hR)⟩
   | again c=>
    have z:=zn2 H m (Γ.goto c) p1 s1 y (cnd q).2;exact ⟨K.trans z.1,fun R hR=>(wpCode_iff_wp ..).mpr (Z _ _ ⟨(cnd q).1,z.2 R hR⟩)⟩
theorem zau:∀(n:Nat) (α:Type) (Γ:Ctx) (t:Sem α) (p:Pos) (s:SharedT) (x:Ev α),evN den prog w ok n α Γ t p s=some x→zmn den prog w ok Γ t p s x
 | 0,_,_,_,_,_,_,h=>no h
 | n+1,α,Γ,t,p,s,x,h=>by
  induction t using Sem.casesOn with
  | pure a=>obtain rfl:=sI h;exact ⟨.refl,fun X X=>id⟩
  | raise e=>obtain rfl:=sI h;exact ⟨.refl,fun X X=>id⟩
  | rule X k=>exact zau n α Γ (k ()) p s x h
  | «at» q k=>exact zau n α Γ (k ()) q s x h
  | point X k=>exact zau n α Γ (k ()) p s x h
  | ask k=>exact zau n α Γ (k _) p s x h
  | handled own k=>exact zau n α Γ (k _) p s x h
  | stack k=>exact zau n α Γ (k _) p s x h
  | thread k=>exact zau n α Γ (k 0) p s x h
  | fresh k=>exact (zau n α Γ (k _) p _ x h).imp (fun K=>⟨K.n,K.obj,K.life,K.gens,K.os⟩) fun z=>z
  | load a q k=>exact (bE (cnd h).2).elim fun o g=>(bE g.2).elim fun o' l=>(zau n α Γ (k o') p s x l.2).imp id fun z Q E hr=>⟨o',(abs_get (jL (cnd h).1) g.1).trans l.1,z Q E hr⟩
  | update a q f k=>
   refine (bE (cnd h).2).elim fun o g=>(bE g.2).elim fun o' l=>(zau n α Γ (k ()) p _ x l.2).imp (Kept.set g.1 (aI (cnd h).1).2).trans fun z Q E hr=>⟨Option.isSome_iff_exists.mpr ⟨o',(abs_get (jL (aI (cnd h).1).1) g.1).trans l.1⟩,?_⟩;have e:=z Q E hr;rw [zk7 g.1] at e;exact e
  | alloc o k=>
   refine (zau n α Γ (k s.n) p _ x (cnd h).2).imp (Kept.ins (cnd h).1).trans fun z Q E hr=>?_;have e:=z Q E hr;rw [zk8 (cnd h).1] at e;rw [Sem.wp_alloc,show s.abs.heap.objs.size=s.n from absHeap_size ..];exact e
  | loadIfAlive a k=>
   have h:cond (Nat.blt a s.n) ((s.tree.get a).bind fun o=>evN den prog w ok n α Γ (k (alive o)) p s) (evN den prog w ok n α Γ (k none) p s)=some x:=h;have go:∀{o:Option Obj},s.abs.heap.get? a=o→zmn den prog w ok Γ (k o) p s x→zmn den prog w ok Γ (.loadIfAlive a k) p s x:=fun e z=>by subst e;exact z
   revert h;induction e:Nat.blt a s.n with
   | false=>exact fun h=>go (abs_get_none fun q=>nb (e.symm.trans (Nat.ble_eq_true_of_le q))) (zau n α Γ (k none) p s x h)
   | true=>exact fun h=>(bE h).elim fun o g=>go (abs_get (jL e) g.1) (zau n α Γ (k (alive o)) p s x g.2)
  | call c hd g l k=>exact (bE h).elim fun y q=>(zau n α Γ (k y.1) p y.2 x q.2).elim fun K z=>(zn2 (fun Γ p s x=>zau n PySem.Fin Γ (den Γ.code) p s x) n _ _ _ _ q.1).imp (Kept.trans · K) fun Z Q E hr=>Z _ (z Q E hr)
  | _=>exact no h
end
section
variable {den:Code→Sem PySem.Fin} {N:Nat} {γ:Type} {Γ':Ctx} {f:α→Sem β} {Φ:α→Pos→SharedT→Prop} {Ψ:β→Pos→SharedT→Prop} {y:γ}
def evK(den:Code→Sem PySem.Fin)(prog:Program)(w:World)(ok:Addr→Bool)(N:Nat)(Γ:Ctx)(t:Sem α)(p:Pos)(s:SharedT)(k:α→Pos→SharedT→Option γ):Option γ:=(evN den prog w ok N α Γ t p s).bind fun x=>Except.casesOn (motive:=fun X=>Option γ) x.1 jA fun a=>k a x.2.1 x.2.2
def W(M:Model)(ok:Addr→Bool)(Γ:Ctx)(t:Sem α)(p:Pos)(s:SharedT)(Φ:α→Pos→SharedT→Prop):Prop:=wp M Γ t (fun a p' σ=>∃S,σ=S.abs∧Kept ok s S∧Φ a p' S) (fun X X X=>False) p s.abs
theorem W.bind{M:Model}(h:W M ok Γ t p s Φ)(k:∀a p' S,Φ a p' S→W M ok Γ (f a) p' S Ψ):W M ok Γ (t>>=f) p s Ψ:=by
 unfold W;rw [Sem.wp_bind'];refine Sem.wp_mono _ _ _ (fun a p' X q=>q.elim fun S q=>?_) (fun X X X z=>z) _ _ h;obtain ⟨rfl,K,q⟩:=q;exact Sem.wp_mono _ _ _ (fun X X X z=>z.imp fun X z=>z.imp id (.imp K.trans id)) (fun X X X z=>z) _ _ (k a p' S q)
theorem W.use{M:Model}{Q:α→Pos→Shared→Prop}(h:W M ok Γ t p s Φ)(q:∀a p' S,Kept ok s S→Φ a p' S→Q a p' S.abs):wp M Γ t Q (fun X X X=>False) p s.abs:=Sem.wp_mono _ _ _ (fun a p' X z=>z.elim fun S z=>z.1▸q a p' S z.2.1 z.2.2) (fun X X X z=>z) _ _ h
theorem W.pure{M:Model}{a:α}(h:Φ a p s):W M ok Γ (pure a) p s Φ:=(⟨s,rfl, .refl,h⟩:∃S,s.abs=S.abs∧Kept ok s S∧Φ a p S)
theorem W.at{M:Model}{q:Pos}{t:Sem α}(h:W M ok Γ t q s Φ):W M ok Γ (standAt q>>=fun X=>t) p s Φ:=h
theorem W.run{M:Model}{c:Code}{Φ:Flow→Pos→SharedT→Prop}(h:W M ok (Γ.enter c none p) (M.den c) p s fun fin X S=>∃f,fin = .done f∧Φ f p S):W M ok Γ (run c) p s Φ:=by
 unfold W;rw [Sem.wp_run,wpCode_iff_wp];exact Sem.wp_mono _ _ _ (fun a p' X q=>q.elim fun S q=>q.2.2.elim fun f z=>by rw [z.1];exact ⟨S,q.1,q.2.1,z.2⟩) (fun X X X z=>z) _ _ h
theorem W.raise{M:Model}{d:Value→Sem Unit}(h:W M ok Γ t p s Φ):W M ok Γ (t.onRaise d) p s Φ:=by
 unfold W;rw [Sem.wp_onRaise];exact Sem.wp_mono _ _ _ (fun X X X z=>z) (fun X X X z=>z.elim) _ _ h
theorem W.ev{ι:Type}(i0:ι){k:ι→α→Pos→SharedT→Option γ}(h:∀i,evK den prog w ok N Γ t p s (k i)=some y)(q:∀a p' S,(∀i,k i a p' S=some y)→Φ a p' S):W ⟨den,prog,w⟩ ok Γ t p s Φ:=(bE (h i0)).elim fun x e=>by
 obtain ⟨r,p',S⟩:=x;have Z:=zau _ _ _ _ _ _ _ e.1;have h:∀i,(some (r,p',S)).bind (fun x:Ev α=>Except.casesOn (motive:=fun X=>Option γ) x.1 jA fun a=>k i a x.2.1 x.2.2)=some y:=fun i=>(congrArg (Option.bind · _) e.1).symm.trans (h i);induction r with
 | error=>exact no (h i0)
 | ok a=>exact Z.2 _ _ ⟨S,rfl,Z.1,q _ _ _ h⟩
theorem W.step{ι:Type}(i0:ι){k:ι→α→Pos→SharedT→Option γ}(h:∀i,evK den prog w ok N Γ t p s (k i)=some y)(q:∀a p' S,(∀i,k i a p' S=some y)→W ⟨den,prog,w⟩ ok Γ (f a) p' S Ψ):W ⟨den,prog,w⟩ ok Γ (t>>=f) p s Ψ:=W.bind (W.ev i0 h q) fun X X X z=>z
end
noncomputable def zgD:BT→Nat→List Obj→BT
 | t,_, []=>t
 | t,n,o :: l=>zgD (t.ins n o) (n+1) l
noncomputable def ze0:BT→Nat→List Obj→Bool
 | _,_, []=>true
 | t,n,o :: l=>((t.ins n o).get n).isSome&&ze0 (t.ins n o) (n+1) l
theorem zc1:∀(l:List Obj) (t:BT) (n:Nat) (life:Life),ze0 t n l=true→absHeap (zgD t n l) (n+l.length) life=ext (absHeap t n life) l
 | [],t,n,life,_=>congrArg (Heap.mk · life) (Array.append_empty).symm
 | o :: l,t,n,life,h=>by
  have:=zc1 l (t.ins n o) (n+1) life (aI h).2;rw [absHeap_ins (aI h).1,Nat.add_right_comm] at this;exact this.trans (congrArg (Heap.mk · life) (Array.toList_inj.mp (by
   show ((absHeap t n life).objs.push o++l.toArray).toList=((absHeap t n life).objs++(o :: l).toArray).toList;rw [Array.toList_append,Array.toList_push,Array.toList_append,aA]
   rfl)))
end Mn
end
section
open PySem PySem.W PySem.Calls
namespace Mn
variable {p:Program} {w:World}
open PySem.Sem (wp)
noncomputable def ctx0:Ctx:=⟨.builtin "claim.caller" {},none,none,[],none⟩
noncomputable def zaq(p:Program)(code:Value)(frame:Addr):Env:={scope:=p.main.scope,locals:=mainNs,globals:=mainNs,cells:=[],code,frame:=some frame}
def zpL(p:Program)(env:Env)(q:Pos):Ctx:=ctx0.enter (.body (behindTheImports p) env) none q
structure Pc where
 ts:List Expr
 ks:List (Option Expr)
 vs:List Expr
 dpos:Pos
 pos:Pos
 kvs:List (Int×Str)
noncomputable def Pc.st(x:Pc):Stmt:= .Assign x.ts (.Dict x.ks x.vs x.dpos) x.pos
def zjx(s:SharedT)(kvs:List (Int×Str)):SharedT:=
 let D:=zhM kvs none s.toks []
 let l:=zfA (zaZ D.1 D.2.1 D.2.2)
 {s with tree:=zgD s.tree s.n l,n:=s.n+l.length,toks:=D.2.1+3*D.2.2.length}
def zrj(s:SharedT)(kvs:List (Int×Str)):Bool:=
 let D:=zhM kvs none s.toks []
 [ze0 s.tree s.n (zfA (zaZ D.1 D.2.1 D.2.2)),Nat.blt 1 s.n,(zaZ D.1 D.2.1 D.2.2).isSome].all id
noncomputable def ziR{γ:Type}(f:Flow)(x:Option γ):Option γ:=Flow.casesOn (motive:=fun X=>Option γ) f x none none fun X=>none
def zsx{γ:Type}(den:Code→Sem PySem.Fin)(p:Program)(w:World)(ok:Addr→Bool)(N i:Nat)(x:Pc)(k:SharedT→γ)(s0:SharedT)(q:Pos):Option γ:=
 evK den p w ok N ctx0 (moduleCode p.main) default s0 fun code p1 s1=>evK den p w ok N ctx0 (newBodyFrame code mainNs mainNs) p1 s1 fun frame p2 s2=>
  evK den p w ok N (zpL p (zaq p code frame) p2) (blockStart (behindTheImports p) (zaq p code frame)) p2 s2 fun X p3 s3=>evK den p w ok N (zpL p (zaq p code frame) p2) (execs ((behindTheImports p).take i) (zaq p code frame)) p3 s3 fun f X s4=>ziR f
   (evK den p w ok N (zpL p (zaq p code frame) p2) (swapsWithSole x.ts (.Dict x.ks x.vs x.dpos) x.pos.line (zaq p code frame)) x.pos s4 fun b X s5=>cond b none (cond (zrj s5 x.kvs)
    (evK den p w ok N (zpL p (zaq p code frame) p2) (do assignStores (zaq p code frame) (.ref s5.n) (←swappedStores x.ts (.Dict x.ks x.vs x.dpos) (zaq p code frame)) ((assignEach x.ts (zaq p code frame)).map (·.2))) q (zjx s5 x.kvs) fun f p6 s6=>ziR f
     (evK den p w ok N (zpL p (zaq p code frame) p2) (execs ((behindTheImports p).drop (i+1)) (zaq p code frame)) p6 s6 fun f X s7=>ziR f (some (k s7)))) none))
theorem zf5(l r:List Stmt)(env:Env):execs (l++r) env=execs l env>>=fun f=>match f with | .next=>execs r env | f=>pure f:=by
 induction l with
 | nil=>rfl
 | cons st l ih=>
  show (exec st env>>=fun f=>match f with | .next=>execs (l++r) env | f=>pure f)=((exec st env>>=fun f=>match f with | .next=>execs l env | f=>pure f)>>=_)
  rw [ih];rw [show∀(x:Sem Flow) (f:Flow→Sem Flow) (g:Flow→Sem Flow),(x>>=f)>>=g=x>>=fun a=>f a>>=g from fun x f g=>bind_assoc ..]
  congr 1
  funext f
  induction f <;> rfl
noncomputable def zq3(Γ:Ctx):Around:={handled:=Γ.handled,depth:=frameCount Γ.below+Γ.code.weight,units:=Γ.units}
theorem zlC(Γ:Ctx):Γ.In (zq3 Γ):=⟨rfl,rL _,(fun X e=>nomatch e),(fun X e=>nomatch e),rL _⟩
section
variable {ok:Addr→Bool} {N i:Nat} {x:Pc} {s0 s:SharedT} {γ:Type} {k:SharedT→γ} {y:γ}
theorem zcj{f:Flow}{x:Option γ}(h:ziR f x=some y):f = .next∧x=some y:=by
 induction f with
 | next=>exact ⟨rfl,h⟩
 | _=>exact no h
theorem zri{Γ:Ctx}{q:Pos}{env:Env}(hi:(evalEachOpt x.ks env).zip ((evalEach x.vs env).map fun v=>do let y←v;standAt x.dpos;pure y)=x.kvs.map fun kv=>(some (zcG kv),zcp x.dpos kv))
  (ho:OkE [] (x.kvs.map (·.1))) (hz:x.kvs.length≤sizeLine) (hd:zrj s x.kvs=true):W (model p w) ok Γ (eval (.Dict x.ks x.vs x.dpos) env) q s fun v X S=>v = .ref s.n∧S=zjx s x.kvs:=by
 have e:=zc1 _ _ _ s.life (zaa 0 hd);have hs:s.abs.heap.objs.size=s.n:=absHeap_size ..;have K:Kept ok s (zjx s x.kvs):=⟨rA _ _,fun b o X h=>((congrArg (Heap.get? · b) e).trans (Heap.get?_some_iff.mpr ((Heap.get?_some_iff.mp h).imp (fun z=>(Array.getElem?_append_left (hZ h)).trans z) id)) :),rfl,rfl,rfl⟩;have D:wpAny (model p w) (zq3 Γ) (eval (.Dict x.ks x.vs x.dpos) env) (fun v s'=>v = .ref s.n∧s'=(zjx s x.kvs).abs) (fun X X=>False) s.abs:=by
  rw [arm_eval_Dict,hi];refine wB (wS ?_);exact Eq.mp (congrArg (wpAny _ _ _ _ _) (congrArg (fun a=>Shared.mk (Heap.mk a s.life) s.gens s.drawn s.toks s.os) Array.append_empty:Bs.st ⟨s.abs.heap,s.gens,s.drawn,s.os⟩ [] s.toks=s.abs)) (zhL (B:=⟨s.abs.heap,s.gens,s.drawn,s.os⟩) (t:=s.toks) x.dpos ho hz (hs▸jL (zaa 1 hd)) rfl (zaa 2 hd) ⟨congrArg Value.ref hs,congrArg (Shared.mk · s.gens s.drawn (zjx s x.kvs).toks s.os) e.symm⟩)
 exact Sem.wp_mono _ _ _ (fun v X σ z=>⟨_,z.2,K,z.1,rfl⟩) (fun X X X z=>z) _ _ (D Γ q (zlC Γ))
theorem zsw(hst:(behindTheImports p)[i]? = some x.st)(hi:∀env,(evalEachOpt x.ks env).zip ((evalEach x.vs env).map fun v=>do let y←v;standAt x.dpos;pure y)=x.kvs.map fun kv=>(some (zcG kv),zcp x.dpos kv))
  (ho:OkE [] (x.kvs.map (·.1))) (hz:x.kvs.length≤sizeLine) (h:∀q,zsx (denote table) p w ok N i x k s0 q=some y):W (model p w) ok ctx0 (topStub p).cur default s0 fun fin X S=>fin = .done (.ret .none)∧k S=y:=by
 obtain ⟨lt,eg⟩:=gE hst;have hs:behindTheImports p=(behindTheImports p).take i++x.st :: (behindTheImports p).drop (i+1):=(List.take_append_drop i _).symm.trans (congrArg ((behindTheImports p).take i ++ ·) ((List.drop_eq_getElem_cons lt).trans (eg▸rfl)));show W _ _ _ (moduleCode p.main>>=fun code=>newBodyFrame code mainNs mainNs>>=fun frame=>run (.body (behindTheImports p) (zaq p code frame))>>=fun X=>ret .none) _ _ _;refine W.step default h fun code p1 s1 h=>W.step default h fun frame p2 s2 h=>W.bind (W.run (Φ:=fun X X S=>k S=y) ?_) fun X X X z=>W.pure ⟨rfl,z⟩;refine W.step default h fun X p3 s3 h=>W.bind (Φ:=fun X X S=>k S=y) (W.raise ?_) fun f X S z=>W.pure ⟨f,rfl,z⟩;rw [show execs (behindTheImports p) (zaq p code frame)=execs ((behindTheImports p).take i++x.st :: (behindTheImports p).drop (i+1)) (zaq p code frame) from congrArg (execs · _) hs,zf5];refine W.step default h fun f p4 s4 h=>?_;obtain ⟨rfl,X⟩:=zcj (h default);refine W.bind (Φ:=fun f p6 s6=>f = .next∧evK (denote table) p w ok N (zpL p (zaq p code frame) p2) (execs ((behindTheImports p).drop (i+1)) (zaq p code frame)) p6 s6 (fun f X s7=>ziR f (some (k s7)))=some y) (W.at (W.step default (fun q=>(zcj (h q)).2) fun b p5 s5 h=>?_)) fun f p6 s6 z=>?_
 ·induction b with
  | true=>exact no (h default)
  | false=>
   have d:=(cnd (h default)).1;refine W.bind (zri (p:=p) (w:=w) (hi _) ho hz d) fun v q S z=>?_;obtain ⟨rfl,rfl⟩:=z;exact W.ev () (fun X=>(cnd (h q)).2) fun f p6 s6 z=>zcj (z ())
 ·obtain ⟨rfl,z⟩:=z
  exact W.ev () (fun X=>z) fun f X S z=>sI (zcj (z ())).2
end
open PySem.Sem (wp)
section
variable {den:Code→Sem PySem.Fin}
theorem zbw:∀(n:Nat) (s:Shared) (t:Thread) (σ:Shared) (τ:Thread),runN den p w n s t = .running σ τ→(∀k,k<n→∀s1 t1,runN den p w k s t = .running s1 t1→t1.calm=true)→s.asleep→
  schedN den p w n (.single s t) = .running (.single σ τ)
 | 0,s,t,σ,τ,h,_,_=>by
  have e:Run.running s t = .running σ τ:=h
  injection e with e1 e2
  subst e1 e2
  rfl
 | n+1,s,t,σ,τ,h,hc,hz=>by
  have e:=sstep_single den p w s t (hc 0 (Nat.succ_pos n) s t rfl) hz;simp only [runN] at h;induction hs:PySem.step den p w s t with
  | go s₂ t₂=>
   rw [hs] at h e;rcases e with e | e
   ·simp only [schedN,e,Step.lift]
    exact zbw n s₂ t₂ σ τ h (fun k hk s₁ t₁ q=>hc (k+1) (Nat.succ_lt_succ hk) s₁ t₁ (by simp only [runN,hs];exact q)) (Shared.asleep_of_life (step_life den p w s s₂ t t₂ hs) hz)
   ·cases e
  | halt o₂ s₂=>rw [hs] at h;cases h
theorem zdb{n:Nat}{s:Shared}{t:Thread}{s':Shared}{t':Thread}(h:runNI den p w n s t = .running s' t'):∀k,k<n→∀s₁ t₁,runNK den p w k s t = .running s₁ t₁→t₁.calm=true:=by
 induction n generalizing s t with
 | zero=>intro k hk;exact absurd hk (Nat.not_lt_zero k)
 | succ n ih=>
  simp only [runNI] at h
  induction hl:t.loud with
  | true=>simp only [stepI_loud den p w hl] at h;cases h
  | false=>
   simp only [stepI_quiet den p w hl] at h
   have hcalm:t.calm=true:=by
    rw [Thread.calm_eq,hl];induction hr:t.refused with
    | false=>rfl
    | true=>
     obtain ⟨what,e⟩:=stepK_refused den p w (s:=s) hr;simp only [e] at h
     cases h
   induction hs:stepK den p w s t with
   | go s₂ t₂=>
    simp only [hs] at h
    intro k hk s₁ t₁ q;induction k using Nat.casesOn with
    | zero=>injection q with _ e;exact e▸hcalm
    | succ k=>simp only [runNK,hs] at q;exact ih h k (Nat.lt_of_succ_lt_succ hk) s₁ t₁ q
   | halt o₂ s₂=>simp only [hs] at h;cases h
theorem zeh{n:Nat}{s:Shared}{t:Thread}{s':Shared}{t':Thread}(h:runNI den p w n s t = .running s' t'):∀k,k<n→∀s₁ t₁,runN den p w k s t = .running s₁ t₁→t₁.calm=true:=by
 intro k hk s₁ t₁ q;have e:=runNK_same den p w k (s₁:=s) (s₂:=s) (t₁:=t) (t₂:=t) rfl rfl;rw [q] at e;induction hr:runNK den p w k s t with
 | halted o₂ s₂=>rw [hr] at e;cases e
 | running s₂ t₂=>
  rw [hr] at e;simp only [Run.forget] at e;injection e with _ e2
  rw [←Thread.calm_forget t₁,←e2,Thread.calm_forget];exact zdb h k hk s₂ t₂ hr
theorem zhs{t:Sem PySem.Fin}{c:Code}{s:Shared}{P:Shared→Prop}(hz:s.asleep)(h:wp (model p w) (Ctx.of c []) t (fun fin X s'=>fin = .done (.ret .none)∧P s'∧s'.gens = #[]) (fun X X X=>False) default s):
  ∃s' n τ,schedN (denote table) p w n (.single s ⟨t,c,default, []⟩) = .running (.single s' τ)∧through τ=true∧P s'∧s'.heap.life=s.heap.life:=by
 obtain ⟨s',p',leaf,⟨n,hn⟩,hl⟩:=wp_comes (Ctx.fits_of c []) t _ _ _ _ h;have hn':runNI (denote table) p w n s ⟨t,c,default, []⟩ = .running s' ⟨leaf,c,p', []⟩:=hn;obtain ⟨σ,τ,hr,hσ,hτ⟩:=runNI_running_real hn';rcases hl with ⟨a,rfl,rfl,hP,hg⟩ | ⟨e,_,hF⟩
 ·obtain rfl:=Shared.eq_of_forget_eq hσ hg
  obtain ⟨cur,code,pos,stack⟩:=τ;simp only [Thread.forget,Thread.mk.injEq,forgetAll] at hτ;obtain ⟨e2,e3,e4,e5⟩:=hτ;have hst:stack = []:=by induction stack using cL with | nil=>rfl | cons x xs=>simp at e5
  subst hst e2 e3 e4;exact ⟨σ,n,_,zbw n _ _ _ _ hr (zeh hn') hz,rfl,hP,runN_life_running hr⟩
 ·exact hF.elim
end
noncomputable def zuk(p:Program)(h₀ h₁:Heap):List Bool:=[h₀.isNs mainGlobals,staticsOk (importedModules p.main.body) h₀ h₁,namesBound p h₁,laidKept h₀ h₁,h₁.accountedOkI (importedModules p.main.body),h₁.isNs mainGlobals,h₁.isNs builtinsNs,h₁.bmainOk,decide (h₁.bltView=bltViewBooted)]
noncomputable def zl1(n₀:Nat)(ann:Addr)(a:Addr):Bool:=Nat.ble n₀ a || (Nat.beq a mainNs || (Nat.beq a cStatics || Nat.beq a ann))
noncomputable def zrO(p:Program):SharedT:=⟨.nil,0,{}, #[],{},1,{stdin:=p.given.stdin.toArray}⟩
noncomputable def zmS(c:Code):Bool:=match c with
 | .builtin id a=>decide (id= "proto.exit.begin")&&decide (a.pos = [rawInt mainGlobals])&&a.kw.isEmpty
 | _=>false
def zkR(s:Shared):Option SharedT:=cond (ze0 .nil 0 s.heap.objs.toList) (some ⟨zgD .nil 0 s.heap.objs.toList,s.heap.objs.toList.length,s.heap.life,s.gens,s.drawn,s.toks,s.os⟩) none
noncomputable def zjB:Ctx:=⟨.builtin "boot" {},none,none,[],none⟩
def zkZ(den:Code→Sem PySem.Fin)(p:Program)(w:World)(N:Nat):Option SharedT:=evK den (opening p) w jJ N zjB (boot (opening p)) default (zrO (opening p)) fun f X s=>PySem.Fin.casesOn (motive:=fun X=>Option SharedT) f jA fun c=>cond (zmS c) ((fenceModules? p s.abs).bind zkR) none
theorem zil{s:Shared}{T:SharedT}(h:zkR s=some T):T.abs=s:=by
 obtain rfl:=sI (cnd h).2;obtain ⟨⟨objs,life⟩,g,d,tk,os⟩:=s;have:=zc1 objs.toList .nil 0 life (cnd h).1;rw [Nat.zero_add] at this;exact (congrArg (Shared.mk · g d tk os) this).trans (congrArg (fun a=>Shared.mk (Heap.mk a life) g d tk os) (Array.empty_append (xs:=objs)))
theorem zjc{c:Code}(h:zmS c=true):c = .builtin "proto.exit.begin" ⟨[rawInt mainGlobals],[]⟩:=by
 induction c with
 | builtin id a=>
  obtain ⟨pos,kw⟩:=a;have q:=aI h;obtain rfl:id=_:=oD (aI q.1).1;obtain rfl:pos=_:=oD (aI q.1).2;obtain rfl:kw = []:=eI q.2
  rfl
 | _=>exact nb h
theorem zfy{N:Nat}{S0:SharedT}(h:zkZ (denote table) p w N=some S0):(∃s,AfterRun (opening p) w s)∧∀s,AfterRun (opening p) w s→fenceModules? p s=some S0.abs∧S0.abs.asleep:=by
 have wpb:W (model (opening p) w) (fun X=>true) zjB (boot (opening p)) default (zrO (opening p)) fun fin X S=>fin = .again (.builtin "proto.exit.begin" ⟨[rawInt mainGlobals], []⟩)∧(fenceModules? p S.abs).bind zkR=some S0:=W.ev () (fun X=>h) fun f X S z=>by
  have z:=z ();induction f with
  | done=>exact no z
  | again c=>exact ⟨congrArg _ (zjc (cnd z).1),(cnd z).2⟩
 have wpb:=W.use (Q:=fun fin X s'=>fin = .again (.builtin "proto.exit.begin" ⟨[rawInt mainGlobals], []⟩)∧(fenceModules? p s').bind zkR=some S0∧s'.gens = #[]) wpb fun fin q S K e=>⟨e.1,e.2,K.gens⟩;obtain ⟨⟨s,hs⟩,hall⟩:=AfterImport.of_wp wpb;refine ⟨⟨_,hs⟩,fun s' hs'=>?_⟩;obtain ⟨s2,hf,hr⟩:=bE (hall s' hs');rw [zil hr];exact ⟨hf,Shared.asleep_of_life (fence_lifeW hf) (AfterImport.life hs')⟩
def zr4{γ:Type}(den:Code→Sem PySem.Fin)(p:Program)(ok:Addr→Bool)(N i:Nat)(x:Pc)(k:SharedT→SharedT→γ)(w:World)(q:Pos):Option γ:=(zkZ den p w N).bind fun s0=>zsx den p w ok N i x (k s0) s0 q
theorem nbF{a b:Nat}(h:a≠b):Nat.beq a b=false:=Bool.eq_false_iff.mpr fun q=>h (qB q)
theorem zhg{n₀ ann N i:Nat}{x:Pc}{γ:Type}{k:SharedT→SharedT→γ}{y:γ}(hst:(behindTheImports p)[i]? = some x.st)(hi:∀env,(evalEachOpt x.ks env).zip ((evalEach x.vs env).map fun v=>do let y←v;standAt x.dpos;pure y)=x.kvs.map fun kv=>(some (zcG kv),zcp x.dpos kv))
  (ho:OkE [] (x.kvs.map (·.1))) (hz:x.kvs.length≤sizeLine) (hk:∀S0 S,k S0 S=y→(zuk p S0.abs.heap S.abs.heap).all id=true)
  (hn:∀S0,zkZ (denote table) p w N=some S0→S0.n=n₀∧S0.abs.heap.nsMap mainGlobals "__annotations__" =some (.ref ann)∧S0.abs.heap.isNs mainGlobals=true∧S0.gens = #[]) (h:∀q,zr4 (denote table) p (zl1 n₀ ann) N i x k w q=some y):
  (∃s,AfterRun (opening p) w s)∧∀s,AfterRun (opening p) w s→∃s₀,fenceModules? p s=some s₀∧s₀.gens = #[]∧∃S0 S:SharedT,s₀=S0.abs∧TopRan p w s₀ S.abs∧S.abs.asleep∧S.gens = #[]∧S.abs.heap.isNs mainGlobals=true∧k S0 S=y:=by
 obtain ⟨S0,hO,X⟩:=bE (h default);have h:∀q,zsx (denote table) p w (zl1 n₀ ann) N i x (k S0) S0 q=some y:=fun q=>(congrArg (Option.bind · _) hO).symm.trans (h q);obtain ⟨hn1,hn2,hn3,hn4⟩:=hn S0 hO;obtain ⟨hex,hall⟩:=zfy hO;refine ⟨hex,fun s hs=>?_⟩;obtain ⟨hf,hz0⟩:=hall s hs;refine ⟨S0.abs,hf,hn4,?_⟩;obtain ⟨s',n,τ,r1,r2,⟨S,rfl,K,P⟩,r4⟩:=zhs (P:=fun s'=>∃S:SharedT,s'=S.abs∧Kept (zl1 n₀ ann) S0 S∧k S0 S=y) hz0 (W.use (zsw hst hi ho hz h) fun fin q S K z=>⟨z.1,⟨S,rfl,K,z.2⟩,K.gens.trans hn4⟩);have e:=hk S0 S P;have hg:S.gens = #[]:=K.gens.trans hn4;have c6:S.abs.heap.isNs mainGlobals=true:=zaa 5 e;have c7:S.abs.heap.isNs builtinsNs=true:=zaa 6 e;refine ⟨S0,S,rfl,⟨⟨n,τ,r1,r2⟩,r4,Shared.rest_eq K.os,fun b o hb ht=>K.obj b o ?_ hb,Heap.accountedI_of_ok (zaa 4 e),statics_of_ok (zaa 1 e),Pin.keysAreStrs_of c6,fun x hx=>(Pin.builtinOf_eq c7 x).trans (Heap.of_bltView c7 (oD (zaa 8 e)) x hx),?_,
  fun g hg'=>(nomatch (hg▸hg':g∈(#[]:Array GenState))),names_of_bound (zaa 2 e),laid_of_kept (zaa 3 e)⟩,Shared.asleep_of_life r4 hz0,hg,c6,P⟩
 ·have lt:b<n₀:=hn1▸(absHeap_size .. :S0.abs.heap.objs.size=S0.n)▸hZ hb
  exact Bool.or_eq_false_iff.mpr ⟨Bool.eq_false_iff.mpr fun q=>nL lt (jL q),Bool.or_eq_false_iff.mpr ⟨nbF fun e=>ht (.inl e),Bool.or_eq_false_iff.mpr ⟨nbF fun e=>ht (.inr (.inl e)),nbF fun e=>ht (.inr (.inr ((Pin.globalOf_eq hn3 _).trans (hn2.trans (congrArg (fun a=>some (Value.ref a)) e.symm)))))⟩⟩⟩
 ·obtain ⟨bm,ob,a,X,c',d,f',Z⟩:=Heap.bmainOk_spec (zaa 7 e)
  exact ⟨bm,ob,(Pin.globalOf_eq c6 _).trans a,c',d,f'⟩
noncomputable abbrev zb7(vs:Array Value):Obj:={cls:= .type "list",data:= .seq vs}
theorem zgz(R:WRecords)(cl:Str→Option Addr)(P:Params)(ord:List DictEntry→List DictEntry):∀(is:List Int) (s:Shared),∃vs tk,layAllW R cl P ord (is.map .int) s=some (vs,{s with toks:=tk})∧PyProof.Rows.IntsAre vs is
 | [],s=>⟨[],s.toks,rfl, .nil⟩
 | i :: is,s=>by
  obtain ⟨vs,tk,h1,h2⟩:=zgz R cl P ord is {s with toks:=s.toks+1}
  refine ⟨.int i s.toks :: vs,tk,?_, .cons _ _ h2⟩;show (match layAllW R cl P ord (is.map .int) {s with toks:=s.toks+1} with | some r=>some (Value.int i s.toks :: r.1,r.2) | Option.none=>Option.none)=_
  rw [h1]
theorem zln(R:WRecords)(cl:Str→Option Addr)(P:Params)(ord:List DictEntry→List DictEntry)(is:List Int)(s:Shared):∃vs tk,layAllW R cl P ord [.list (is.map .int)] s=some ([.ref s.heap.objs.size],{s with heap:=s.heap.push (zb7 vs.toArray),toks:=tk})∧PyProof.Rows.IntsAre vs is:=by
 obtain ⟨vs,tk,h1,h2⟩:=zgz R cl P ord is s;refine ⟨vs,tk,?_,h2⟩;unfold layAllW layW;rw [h1]
 rfl
theorem ziE{l:OpenLaw}(a b:List WData):l.row.toRowW.claim.post a (.bool true) b=true:=by kernel_rfl
theorem zcI{R:WRecords}:∀{xs:List WData},WShape.hasItems R xs .int=true→∃is:List Int,xs=is.map .int
 | [],_=>⟨[],rfl⟩
 | x :: xs,h=>by
  unfold WShape.hasItems at h;obtain ⟨h1,h2⟩:=aI h;obtain ⟨i,rfl⟩:=hasW_int h1;obtain ⟨is,rfl⟩:=zcI h2;exact ⟨i :: is,rfl⟩
theorem zkT{l:OpenLaw}(hm:l.most=some 63){args:List WData}(h:l.row.toRowW.claim.pre args=true):∃is:List Int,args = [.list (is.map .int)]∧is.length≤63:=by
 obtain ⟨h1,h2⟩:=pre_splitW h;obtain ⟨d,r,rfl,h3,h4⟩:=hasAllW_cons h1;obtain ⟨xs,rfl,h5⟩:=hasW_list h3;obtain ⟨is,rfl⟩:=zcI h5;have hr:r = []:=by
  induction r using cL with
  | nil=>rfl
  | cons X Z=>simp [WShape.hasAll] at h4
 subst hr;refine ⟨is,rfl,Nat.le_of_not_lt fun q=>?_⟩;obtain ⟨pr,nm,ab,ft,mo,bd,wr⟩:=l;obtain rfl:mo=some 63:=hm;have key:∀B:WTm,(WTm.and (.not (.lt (.lit (.int 63)) (.len (.arg 0)))) B).holds [] {args:= [.list (is.map .int)]}=true→False:=fun B h=>by
  have h:(WTm.and (.not (.lit (.bool (decide ((63:Int)<((is.map WData.int).length:Int)))))) B).holds [] {args:= [.list (is.map .int)]}=true:=h;rw [dT (by rw [lM];exact Int.ofNat_lt.mpr q)] at h;exact Bool.false_ne_true h
 exact key _ h2
structure BehA(p:Program)(name:Str)(w:World)(s₀ s₁:Shared)(a:Addr):Prop where
 top:TopRan p w s₀ s₁
 sleep:s₁.asleep
 gens:s₁.gens = #[]
 ns:s₁.heap.isNs mainGlobals=true
 df:isTheDefsW p s₁.heap name
 at_:s₁.heap.nsMap mainGlobals name=some (.ref a)
 call:∀(is:List Int) (vs:List Value) (tk:Nat),is.length≤63→PyProof.Rows.IntsAre vs is→
  wpAny (model p w) callerA (call (.ref a) [.ref s₁.heap.objs.size]) (fun v s'=>v = .bool true∧OldK (s₁.heap.push (zb7 vs.toArray)) s'.heap∧s'.os=s₁.os∧s'.gens = #[]) (fun X X=>False) {s₁ with heap:=s₁.heap.push (zb7 vs.toArray),toks:=tk}
def Beh(p:Program)(name:Str)(w:World):Prop:=(∃s,AfterRun (opening p) w s)∧∀s,AfterRun (opening p) w s→∃s₀ s₁ a,fenceModules? p s=some s₀∧s₀.gens = #[]∧BehA p name w s₀ s₁ a
theorem zhE{l:OpenLaw}(k1:l.row.wellSaid=true)(hw:l.row.toRowW.promised)(hb:l.prog.bare)(ho:opensWell l.prog=true)(hwr:l.writes=false)(hfree:frees l.row.toRowW=true)
  (hpre:∀args,l.row.toRowW.claim.pre args=true→∃is:List Int,args = [.list (is.map .int)]∧is.length≤63)
  (beh:∀w,Beh l.prog l.name w):l.row.Holds:=by
 refine ⟨k1,hw,⟨hb,ho,rfl⟩,hw.witness,fun w=>⟨(beh w).1,fun s hs=>?_⟩⟩;obtain ⟨s₀,s₁,a,hf,hg0,H⟩:=(beh w).2 s hs;refine ⟨s₀,hf,hg0,s₁,H.top,fun n hn=>?_,fun x hx=>(nomatch hx),fun x hx=>(nomatch hx),?_⟩
 ·have hn:n∈ [l.name]:=hn
  rw [sM hn];exact H.df
 ·show ClaimW.CallFrom (fun vs=>⟨do match←nsGet mainNs l.name with
    | some f=>do ret (←PySem.call f vs)
    | none=>unsupported "claim.caller:no-such-global", .builtin "claim.caller" {},default, []⟩) _ _ _ _ _ _
  refine ClaimW.callFrom_of_specG (c:=l.row.toRowW.claim) H.sleep H.gens fun args hp hlay ord hord=>?_;obtain ⟨is,rfl,hlen⟩:=hpre args hp;obtain ⟨vs,tk,hlaid,hI⟩:=zln l.row.toRowW.claim.records (classAt s₁.heap) w.params ord is s₁;refine ⟨_,_,hlaid,?_⟩;have keeps:=layAllW_keeps _ _ _ hlaid;have hal:=layAllW_rest _ _ _ hlaid;obtain ⟨as,hrd,hin,hold⟩:=reads_layAllW hord _ _ _ hlaid hlay _ (fun X X e=>e);have L:Laid l.row.toRowW.claim.records w s₁ {s₁ with heap:=s₁.heap.push (zb7 vs.toArray),toks:=tk} [.list (is.map .int)] [.ref s₁.heap.objs.size] as:=⟨⟨ord,hord,hlaid⟩,hrd,hin,hold,keeps,hal.1.trans H.gens,hal.2.2.1⟩
  obtain ⟨hsame,hu,hafter,hap,hm⟩:=frees_parts hfree;have hi:=ident_freeW hu hafter hap;have hNs:=Heap.Ns.of_isNs H.ns;refine wB (wpAny_nsGet (hNs.keeps keeps) ?_);rw [H.at_];refine wB (wM (H.call is vs tk hlen hI) (fun v s' q=>wP ⟨_,rfl,?_⟩) fun X X q=>q.elim);obtain ⟨rfl,q1,q2,q3⟩:=q;have g:GoodWG l.row.toRowW.claim (classAt s₁.heap) (ExcName.means s₁.heap) [.list (is.map .int)] {s₁ with heap:=s₁.heap.push (zb7 vs.toArray),toks:=tk} (.ok (.ret (.bool true))) s':=
   ⟨.inl ⟨.bool true, .bool true, [],rfl,fun cls=>rfl, .bool _,ziE _ _,fun X=>⟨List.nodup_nil,fun X h=>(nomatch h)⟩⟩,q1,q2,PyProof.Rows.AllBare.of_eq q3⟩
  have z:=g.laid (c:=l.row.toRowW.claim) hsame rfl hi L;exact ⟨z.1,z.2.1,z.2.2,fun q=>by rw [show l.row.writes=l.writes from rfl,hwr] at q;cases q⟩
end Mn
end
section
open PySem PySem.W PyProof.Rows PySem.Calls PySem.SeqAt
namespace Mn
variable {T:Tabs} {W W₁:Wd} {h h₁:Hp} {s s₁:Shared} {A:Around} {E:Value→Shared→Prop} {env:Env} {fr:Fr} {fd:FDat} {cl:List (Str×Nat)} {dflt args:List AV} {kw:List (Str×AV)} {vals:List Value} {kvals:List (Str×Value)} {K:AV→Hp→Prop} {s':Shared} {a:Addr} {pos:Pos} {P:PM T}
theorem zei{a:Addr}{args:Args}{o:Obj}{fd:FuncData}{body:List Stmt}{R:Result→Shared→Prop}{cd:Addr}{oc:Obj}{vs:Array Value}{q:Str}{tq:Tok}(hroom:A.depth<recursionLimit)
  (ho:s.heap.get? a=some o) (hd':o.data = .func fd) (hco:fd.scope.isCoroutine=false) (hgen:fd.scope.isGenerator=false) (hbody:fd.body = .stmts body)
  (hc:fd.code = .ref cd) (hoc:s.heap.get? cd=some oc) (hdc:oc.data = .fields vs) (hq:vs[1]? = some (.str q tq))
  (h:wpAny (model P.c.prog P.c.w) A.in1 (bindArgs fd args) (fun binds s₁=>
   wpAny (model P.c.prog P.c.w) A.in1 (newFunctionEnv fd.scope fd.globals fd.closure binds (q++ ".<locals>.") (some a) fd.code none fd.builtins)
    (fun env s₂=>s₂.heap.NoLimit∧codeAny (model P.c.prog P.c.w) A (.func body env) R s₂) (fun e s'=>R (.error e) s') s₁) (fun e s'=>R (.error e) s') s):
  codeAny (model P.c.prog P.c.w) A (.call (.ref a) args) R s:=by
 refine codeAny_of_tree ?_;show wpAny _ A.in1 (callAny (.ref a) args) _ _ s;obtain ⟨c,d,dt,sl⟩:=o;obtain rfl:dt = .func fd:=hd';obtain ⟨nm,qn,pr,bd,sc,gl,cl,df,kd,dc,pm,an,co,ct,bu⟩:=fd;obtain rfl:bd = .stmts body:=hbody;obtain rfl:co = .ref cd:=hc;refine wB (wpAny_load ho ?_);refine wB (m:=field (.ref cd) 1) (wpAny_field hoc hdc hq (wB (wP ?_)));refine wB (wM h (fun binds s₁ h₁=>wB (wM h₁ (fun env s₂ h₂=>wB (wpAny_enterFrame h₂.1 hroom ?_)) fun X X h'=>h')) fun X X h'=>h');rw [show sc.isGenerator=false from hgen,show sc.isCoroutine=false from hco];exact wP (aO rfl h₂.2)
theorem zhP{q g:Addr}{sv:Value}{args:List Value}{kw:List (Str×Value)}{R:Result→Shared→Prop}(ho:s.heap.get? q=some {cls:= .type "method",data:= .fields #[.ref g,sv]})
  (h:codeAny (model P.c.prog P.c.w) A (.call (.ref g) ⟨sv :: args,kw⟩) R s):codeAny (model P.c.prog P.c.w) A (.call (.ref q) ⟨args,kw⟩) R s:=by
 refine codeAny_of_tree ?_;show wpAny _ A.in1 (callAny (.ref q) _) _ _ s;refine wB (wpAny_load ho ?_);refine Mine.wIfP (by kernel_rfl) ?_;exact wP (aO rfl h)
theorem RoomC.deeper{n:Nat}(h:RoomC A (n+1)):Room (A.deeper env) n:=⟨h.hand,by have:=h.depth;show A.depth+1+_+_<_;exact lz2 0xe1020a1907a018460000000013840828611c0a01180000041 this,by have:=h.units;show A.units+3+_+_<_;exact lz3 0x8841902087f010818c600000000122104608284703c042046000000041 this⟩
def zjV{β:Type}(p:Arguments)(dflt args:List AV)(kw:List (Str×AV))(h:Hp)(K:List (Str×AV)→Hp→Tr β):Tr β:= .rq (p.posonlyargs.isEmpty&&(p.vararg.isNone&&(p.kwarg.isNone&&(zrP (p.args.map (·.arg)) (p.kwonlyargs.map (·.arg)) dflt.length args.length (kw.map (·.1))).all id)))
 (K (zdD (p.args.map (·.arg)) (p.kwonlyargs.map (·.arg)) dflt args kw) h)
theorem KR.zip{n:Nat}:∀{names:List Str} {xs:List AV} {vs:List Value},Rs (VR W n) xs vs→KR W n (names.zip xs) (names.zip vs)
 | [],_,_,_=> .nil
 | _ :: _,_,_, .nil=> .nil
 | n :: ns,_,_, .cons h t=> .cons ⟨rfl,h⟩ (KR.zip t)
theorem Rs.drop{α β:Type}{R:α→β→Prop}{xs:List α}{ys:List β}(h:Rs R xs ys):∀k,Rs R (xs.drop k) (ys.drop k):=by
 induction h with
 | nil=>intro k;rw [List.drop_nil,List.drop_nil];exact .nil
 | cons h t ih=>intro k;induction k using Nat.casesOn with
  | zero=>exact .cons h t
  | succ k=>exact ih k
theorem KR.look{n:Nat}(m:Str)(k:KR W n kw kvals):(kw.lookup m=none∧kvals.lookup m=none)∨∃x v,kw.lookup m=some x∧kvals.lookup m=some v∧VR W n x v:=by
 induction k with
 | nil=>exact .inl ⟨rfl,rfl⟩
 | cons a X ih=>
  rw [List.lookup_cons,List.lookup_cons,a.1]
  split
  ·exact .inr ⟨_,_,rfl,rfl,a.2⟩
  ·exact ih
theorem KR.fold{n:Nat}{l:List (Str×AV)}{l':List (Str×Value)}(k:KR W n l l'):∀{kw kvals},KR W n kw kvals→KR W n (l.foldl znr kw) (l'.foldl znr kvals):=by
 induction k with
 | nil=>exact id
 | @cons e e' _ _ a _ ih=>
  refine fun q=>ih ?_;unfold znr;rw [a.1];exact (q.look e.1).elim (fun z=>by rw [z.1,z.2];exact q.app (.cons a .nil)) fun ⟨x,v,z,z',X⟩=>by rw [z,z'];exact q
theorem KR.binds{n:Nat}(q:KR W n kw kvals):∀ns:List Str,KR W n (ns.filterMap fun m=>(kw.lookup m).map (m,·)) (ns.filterMap fun m=>(kvals.lookup m).map (m,·))
 | []=> .nil
 | m :: ns=>by
  rw [List.filterMap_cons,List.filterMap_cons];exact (q.look m).elim (fun z=>by rw [z.1,z.2];exact q.binds ns) fun ⟨x,v,z,z',r⟩=>by rw [z,z'];exact .cons ⟨rfl,r⟩ (q.binds ns)
theorem KR.keys{n:Nat}(q:KR W n kw kvals):kvals.map (·.1)=kw.map (·.1):=by
 induction q with
 | nil=>rfl
 | cons a X ih=>rw [mC,mC,a.1,ih]
theorem zpr{fd':FuncData}{p:Arguments}{o:Option (Array Value)}{β:Type}{κ:List (Str×AV)→Hp→Tr β}{K:β→Hp→Prop}{Q:List (Str×Value)→Shared→Prop}(hp:fd'.params=p)(hD:zmp s fd'.defaults o)(hd:Rs (VR W h.nx) dflt (o.getD #[]).toList)
  (R:Rel P.c W h s) (hv:Rs (VR W h.nx) args vals) (hk:KR W h.nx kw kvals) (H:(zjV p dflt args kw h κ).sem K)
  (q:∀W' bs bv h' s',Step P.c h.nx W s W' h' s'→KR W' h'.nx bs bv→(κ bs h').sem K→Q bv s'):wpAny (model P.c.prog P.c.w) A (bindArgs fd' ⟨vals,kvals⟩) Q E s:=H.go fun g H=>by
 obtain ⟨po,ps,va,ko,kd,kwa,ds⟩:=p;obtain ⟨g1,g⟩:=aI g;obtain ⟨g2,g⟩:=aI g;obtain ⟨g3,g⟩:=aI g;obtain rfl:po = []:=eI g1;obtain rfl:va=none:=jN g2;obtain rfl:kwa=none:=jN g3;have base:KR W h.nx (zdD (ps.map (·.arg)) (ko.map (·.arg)) dflt args kw) (zdD (ps.map (·.arg)) (ko.map (·.arg)) (o.getD #[]).toList vals kvals):=by
  have D:Rs (VR W h.nx) (ddF (ps.map (·.arg)).length dflt) (ddF (ps.map (·.arg)).length (o.getD #[]).toList):=by
   unfold ddF;rw [←hd.len];exact Rs.drop hd _
  unfold zdD zmB;rw [←D.len];exact KR.binds (KR.fold (KR.zip D) ((KR.zip hv).app hk)) _
 exact ztE hD (by rw [←hd.len,←hv.len,hk.keys];exact g) (q _ _ _ _ _ (.refl R) base H) hp
def zaO{β:Type}(fr:Fr)(bs:List (Str×AV))(h:Hp)(k:Hp→Tr β):Tr β:=match bs with
 | []=>k h
 | e :: r=>zcs fr e.1 e.2 h fun h=>zaO fr r h k
theorem zct{β:Type}{κ:Hp→Tr β}{K:β→Hp→Prop}{Q:PUnit→Shared→Prop}:∀{bs:List (Str×AV)} {bv:List (Str×Value)} {W:Wd} {h:Hp} {s:Shared},Go P W h s A→FrAt P.c W h.nx env fr→KR W h.nx bs bv→(zaO fr bs h κ).sem K→
  (∀W' h' s',Step P.c h.nx W s W' h' s'→(κ h').sem K→Q ⟨⟩ s')→wpAny (model P.c.prog P.c.w) A (forIn bv PUnit.unit fun (x:Str×Value) (_:PUnit)=>(do storeName env x.1 x.2;pure (ForInStep.yield PUnit.unit):Sem (ForInStep PUnit))) Q E s
 | [],_,W,h,s,G,F, .nil,H,q=>by rw [List.forIn_nil];exact wP (q _ _ _ (.refl G.rel) H)
 | (x,v) :: r,_,W,h,s,G,F, .cons (y:=y) a t,H,q=>by
  rw [List.forIn_cons];obtain ⟨yx,yv⟩:=y;obtain ⟨rfl,a⟩:=a;exact wB (wB (zcg H A E _ s W (env,yv) G ⟨F,a⟩ fun X X X X X S X H=>wP (zct (G.on S) (F.up S.le) (KR.up S.le t) H fun X X X S' H=>q _ _ _ (S.trans S') H)))
section
variable {t:Addr} {l k:Nat} {c:Cx}
theorem Step.code{ob:Obj}(R:Rel c W h s)(ht:t∈c.tabs)(hx:Heap.ExtBut t s.heap s'.heap)(ha:s.heap.objs.size≤a)(hO:s'.heap.get? a=some ob)(hC:zfX ob)(hT:s'.heap.get? t=some {cls:= .none,data:= .fields #[rawInt (c.tinfo t).1,rawInt (c.tinfo t).2, .ref a]})(hz:s.heap.objs.size≤s'.heap.objs.size)(hg:s'.gens=s.gens)(ho:s'.os=s.os):
  ∃W',Step c h.nx W s W' h s'∧VR W' h.nx .cod (.ref a):=by
 have nB:∀b,c.B.get? b=none→b≠t:=fun b e q=>(R.amb.tab t ht).1 (q▸e);have hB:c.B.get? a=none:=R.outside ha;have nT:∀o,s.heap.get? t=some o→¬FrL o:=fun o e f=>by
  obtain ⟨es,k,d⟩:=f.1;rcases (R.amb.tab t ht).2 with q | ⟨_,_,q,_⟩ <;> (rw [q] at e;obtain rfl:=sI e;cases d)
 have fz:∀b o,W.fz b=some o→b≠a:=fun b o e q=>nL (hZ (R.fz b o e).2.1) (q▸ha);have L:Le h.nx W h.nx ⟨W.pl,upd W.fz a (some ob)⟩:=⟨rL _,fun X X=>rfl,fun b o e=>(za9 (fz b o e)).trans e⟩;refine ⟨⟨W.pl,upd W.fz a (some ob)⟩,⟨⟨fun j q u=>?_,R.apart,fun b o e=>?_,⟨fun b o e q=>hx b o (fun z=>q (z▸ht)) (R.amb.base b o e q),fun u hu=>⟨(R.amb.tab u hu).1,?_⟩,hg.trans R.amb.gens,ho.trans R.amb.os⟩,fun b o e=>?_⟩,L,hz,fun X a b=>absurd a (nL b),fun b o e=>?_,fun b o e X q=>⟨o,hx b o (fun z=>q (z▸ht)) e, .inl rfl⟩,fun b o e f=>⟨o,hx b o (fun z=>nT o (z▸e) f) e,f⟩⟩,⟨a,ob,rfl,upd_self,hC⟩⟩
 ·exact (R.at_ j q u).elim fun n ⟨o,h1,h2⟩=>⟨n,o,hx _ _ (nB _ n) h1,h2.up L⟩
 ·by_cases q:b=a
  ·subst q
   obtain rfl:ob=o:=sI (upd_self.symm.trans e);exact ⟨hB,hO,fun j q u e=>nL ((R.at_ j q u).2.elim fun X z=>hZ z.1) (e▸ha)⟩
  ·have e:W.fz b=some o:=(za9 q).symm.trans e
   exact ⟨(R.fz b o e).1,hx _ _ (nB _ (R.fz b o e).1) (R.fz b o e).2.1,(R.fz b o e).2.2⟩
 ·by_cases q:u=t
  ·subst q;exact .inr ⟨a,ob,hT,upd_self,hC⟩
  ·exact (R.amb.tab u hu).2.imp (hx u _ q) fun ⟨b,o,h1,h2,h3⟩=>⟨b,o,hx u _ q h1,L.fz _ _ h2,h3⟩
 ·by_cases q:b=a
  ·subst q
   obtain rfl:ob=o:=sI (upd_self.symm.trans e);obtain ⟨vs,X,Z,Y,d,J⟩:=hC;exact fun f=>by obtain ⟨X,Z,d'⟩:=f.1;rw [d] at d';cases d'
  ·exact R.fzn b o ((za9 q).symm.trans e)
 ·by_cases q:b=a
  ·exact .inr (.inl (q▸ha))
  ·exact .inl ((za9 q).symm.trans e)
theorem zcM{fl:Nat}{name q:Str}{ps:Arguments}{sc:Scope}{body:FuncBody}{Q:Value→Shared→Prop}(F:FrAt P.c W h.nx env fr)(R:Rel P.c W h s)(htab:fr.tab=some (t,l,k))(hl:pos.line=l)(hc:pos.col=k)
  (qq:∀W' a s',Step P.c h.nx W s W' h s'→VR W' h.nx .cod (.ref a)→Q (.ref a) s'):wpAny (model P.c.prog P.c.w) A (functionCode env pos fl name q ps sc body) Q E s:=by
 obtain ⟨ht,hi,cd,hcode,hcd,hT,hI⟩:=F.tab t l k htab;obtain ⟨⟨oc,vc,hoc,hcc,hdc,h11⟩,htB⟩:=hT;have hoc':s.heap.get? cd=some oc:=R.amb.base _ _ hoc hcd;obtain ⟨o,vs,file,tf,flags,tg,inF,text,tt,op,i1,i2,i3,i4,i5,i6,i7,i8,i9,i10,i11⟩:=hI;have i1':s.heap.get? cd=some o:=R.amb.base _ _ i1 hcd;rcases (R.amb.tab t ht).2 with hh | ⟨a,ob,h1,h2,h3⟩
 ·have hI':s.heap.IsCode cd t #[]:=⟨o,vs,file,tf,flags,tg,inF,text,tt,_,i1',i2,i3,i4,i5,i6,i7,hh,rfl,i10,i11⟩
  refine wpAny_sz (wpAny_functionCodeX hcode hI' ⟨⟨oc,vc,hoc',hcc,hdc,h11⟩,hh⟩ rfl fun c' h' tk hx hge hlt hok hrec htb hP hsz=>?_);obtain ⟨c₂,o₂,vs₂,t₂,e₂,g₂,r₂,r₃⟩:=hrec
  cases e₂
  obtain ⟨P',X,Z,⟨⟨oc',vc',q1,q2,q3,q4⟩,Y⟩⟩:=hP;rw [g₂] at q1;obtain rfl:=sI q1;obtain ⟨W',S,V⟩:=Step.code (s':={s with heap:=h',toks:=tk}) R ht hx hge g₂ ⟨vs₂,q,t₂,q2,r₂,r₃⟩ (by rw [hi,←hl,←hc];simpa using htb.2) hsz rfl rfl
  exact qq W' _ _ S V
 ·rw [hi] at h1
  have hI':s.heap.IsCode cd t #[rawInt l,rawInt k, .ref a]:=⟨o,vs,file,tf,flags,tg,inF,text,tt,_,i1',i2,i3,i4,i5,i6,i7,h1,rfl,by unfold rawInt;exact trivial,i11⟩;refine wpAny_functionCode_hit (c':= .ref a) hcode hI' ?_ (qq W a s (.refl R) ⟨a,ob,rfl,h2,h3⟩);simp [codeAmong,rawInt,hl,hc]
end
noncomputable def zeH(l:List Arg):Bool:=l.all fun a=>a.annotation.isNone
theorem zb0{env:Env}:∀{l:List Arg},zeH l=true→annotationsOf l env = []
 | [],_=>rfl
 | ⟨x,none,p⟩ :: r,h=>zb0 (l:=r) h
 | ⟨x,some a,p⟩ :: r,h=>nb h
noncomputable def zk4(a:Arguments):List Arg:=a.args++a.posonlyargs++a.vararg.toList++a.kwonlyargs++a.kwarg.toList
def zof(fr:Fr)(args:Arguments)(body:List Stmt)(scope:Scope)(pos:Pos)(p:Nat×Nat×Nat):Bool:=args.defaults.isEmpty&&args.kw_defaults.isEmpty&&zds fr.cel scope.names&&decide ((scope.names.map (·.1)).Nodup)&&Nat.beq pos.line p.2.1&&Nat.beq pos.col p.2.2&&(docOf body).isNone&&zeH (zk4 args)
section
variable {p:Nat×Nat×Nat}
theorem zsn{K:Fl→Hp→Prop}{name bind:Str}{args:Arguments}{body:List Stmt}{scope:Scope}(h4:fr.tab=some p)(ho:zof fr args body scope pos p=true)
  (H:zhl fr bind (.ref h.nx) (h.new (.clo ⟨name,args,body,scope,none⟩ (zbj fr.cel scope.names []))) fun X h=>K .next h):JS P fr (.FunctionDef name args body [] none [] scope none bind pos) h K:=fun A E Q s W env G F kn=>by
 obtain ⟨t,l,k⟩:=p;obtain ⟨po,a,va,ko,kd,kwa,d⟩:=args;simp only [zof,zk4,Bool.and_eq_true,decide_eq_true_eq] at ho;obtain ⟨⟨⟨⟨⟨⟨⟨h1,h2⟩,h3⟩,hd⟩,h5⟩,h6⟩,h7⟩,h8⟩:=ho;obtain rfl:d = []:=eI h1;obtain rfl:kd = []:=eI h2;have c1:=ze4 F.toFrAt h3 (acc:= []) (accA:= []) fun x t e=>no e;have c2:∀x,(x,NameKind.free)∈scope.names→∃a,env.cells.lookup x=some a:=fun x hx=>by
  have:=aT h3 _ hx;obtain ⟨t,et⟩:=iE (show (fr.cel.lookup x).isSome=true from this);exact ⟨_,(F.cells x t et).2⟩
 have hclos:closureFor scope env=Pure.pure (zce env scope.names []):=zbb c2;show wpAny _ A (exec (.FunctionDef name ⟨po,a,va,ko, [],kwa, []⟩ body [] none [] scope none bind pos) env) Q E s;rw [arm_exec_FunctionDef];unfold defStmt;simp only [List.isEmpty_nil,Bool.not_true,Bool.false_and,Bool.false_eq_true,if_false,List.map_nil];rw [show defaultsOf ⟨po,a,va,ko, [],kwa, []⟩ env=([], []) from rfl];refine wB (wP (wB (wS (wB (wH (wB (wP (wB (wH (wP (wH ?_)))))))))));rw [show (annotationsOf (a++po++va.toList++ko++kwa.toList) env++((evalOpt none env).map ((("return" :Str),·))).toList) = [] from by rw [zb0 h8];rfl];refine wB (wP ?_);unfold makeFunction;simp only [List.zip_nil_right,List.filterMap_nil,List.isEmpty_nil,if_true,pure_bind,hclos,Option.isNone_iff_eq_none.mp h7];have rest:∀(ct:Value) (h':Heap),(∀b o,s.heap.get? b=some o→h'.get? b=some o)→s.heap.objs.size≤h'.objs.size→wpAny (model P.c.prog P.c.w) A (do
   let cd←functionCode env pos pos.line name (qualnameIn env name bind) ⟨po,a,va,ko, [],kwa, []⟩ scope (.stmts body)
   let bs←builtinsFor env.globals env.builtins
   let pm←nsGet env.globals "__name__"
   newObj (.type "function") (.func {name:=name,qualname:=qualnameIn env name bind,params:=⟨po,a,va,ko, [],kwa, []⟩,body:= .stmts body,scope:=scope,globals:=env.globals,closure:=zce env scope.names [],defaults:= .none,kwdefaults:= .none,pyModule:=pm.getD .none,code:=cd,closureTuple:=ct,builtins:=bs}))
   (fun a s'=>wpAny (model P.c.prog P.c.w) A (do
     let f←decorate [].reverse a
     standAt pos
     bindName env bind f
     Pure.pure Flow.next) Q E s') E {s with heap:=h'}:=fun ct h' hk hz=>by
  have S₀:Step P.c h.nx W s W h {s with heap:=h'}:= .keeps G.rel hk rfl rfl hz
  refine wB (zcM F.toFrAt S₀.rel h4 (qB h5) (qB h6) fun W₁ ca s₁ S₁ V₁=>?_);have baseAt:∀b o,P.c.B.get? b=some o→b∉P.c.tabs→s₁.heap.get? b=some o:=S₁.rel.amb.base;rw [F.glob,F.blt];refine wB ((P.S.bf _ s₁.heap baseAt).here ?_);obtain ⟨mg,hmg,X⟩:=P.S.gl;refine wB (wpAny_nsGet (m:=mg) (zb4 hmg fun o e=>baseAt _ _ e P.S.gt) ?_);refine wpAny_newObj_type ?_
  dsimp only [List.reverse_nil,decorate]
  refine wB (wP (wB (wS (wB (wpAny_bindName ?_)))));refine ziS (P:=P) (Q:=fun v s'=>wpAny (model P.c.prog P.c.w) A (storeName env bind v) (fun X s=>wpAny (model P.c.prog P.c.w) A (Pure.pure Flow.next) Q E s) E s') (tk:=s₁.toks) (d:=s₁.drawn) S₁.rel rfl (o:= .clo ⟨name,⟨po,a,va,ko, [],kwa, []⟩,body,scope,none⟩ (zbj fr.cel scope.names [])) (fun W' L=>⟨_, .ref ca,rfl,rfl,VR.up L V₁,fun x k e=>?_,rfl,rfl,rfl,rfl,rfl,rfl,rfl⟩) fun W₂ s₂ val S₂ V₂=>?_
  ·have z:=c1 x k e
   exact ⟨Nat.lt_succ_of_lt z.1,z.2.trans (congrArg some (((L.pl k z.1).trans (S₁.le.pl k z.1)).symm))⟩
  ·have S:=(S₀.trans S₁).trans S₂
   exact zcg H A E _ s₂ W₂ (env,val) (G.on S) ⟨F.toFrAt.up S.le,V₂⟩ fun X X X X X S₃ X H=>wP (kn (v:= .next) (S.trans S₃) rfl H)
 by_cases q:(zce env scope.names []).isEmpty=true
 ·exact Mine.wIfP q (rest .none s.heap (fun X X e=>e) (rL _))
 ·exact Mine.wIfN q (wB (wpAny_newTextTuple (rest _ _ (fun X X e=>pS _ e) (by rw [Heap.size_push];exact Nat.le_succ _))))
end
set_option genCtorIdx false in
inductive Em where
 | L (elt:Expr) (a:Nat)
set_option genCtorIdx false in
inductive Wt:Type 1
 | lf (p:Prop)
 | en (v:AV) (h:Hp) (p:AV→Hp→Prop)
 | pu {β:Type} (t:Tr β) (k:β→Hp→Wt)
 | fz (v:AV) (h:Hp) (k:AV→Hp→Wt)
 | cl (f:AV) (as:List AV) (kw:List (Str×AV)) (h:Hp) (k:AV→Hp→Wt)
 | gj (fr:Fr) (t:Expr) (ifs:List Expr) (rest:List Comprehension) (em:Em) (it:Nat) (h:Hp) (k:Hp→Wt)
 | fj (wl:Bool) (fr:Fr) (t:Expr) (b:List Stmt) (it:Nat) (h:Hp) (k:Fl→Hp→Wt)
noncomputable def tgW(d:Wt)(f:Expr→Str→Pos→Wt)(g:Expr→Expr→Pos→Wt)(k:Str→Pos→Wt)(l:List Expr→Wt)(e:Expr):Wt:=Expr.casesOn (motive_1:=fun X=>Wt) e (fun X X X=>d) (fun X X X=>d) (fun X X X X=>d) (fun X X X=>d) (fun X X X X=>d) (fun X X X X=>d) (fun X X X=>d) (fun X X X=>d) (fun X X X X=>d) (fun X X X X=>d) (fun X X X X X=>d) (fun X X X X=>d) (fun X X=>d) (fun X X=>d) (fun X X=>d) (fun X X X X=>d) (fun X X X X=>d) (fun X X X X=>d) (fun X X=>d) (fun X X X=>d) f g (fun X X=>d) k (fun X X=>d) (fun x X X=>l x) (fun X X X X=>d)
noncomputable def lcW(d:Wt)(f:Expr→List Comprehension→Scope→Pos→Wt)(e:Expr):Wt:=Expr.casesOn (motive_1:=fun X=>Wt) e (fun X X X=>d) (fun X X X=>d) (fun X X X X=>d) (fun X X X=>d) (fun X X X X=>d) (fun X X X X=>d) (fun X X X=>d) (fun X X X=>d) f (fun X X X X=>d) (fun X X X X X=>d) (fun X X X X=>d) (fun X X=>d) (fun X X=>d) (fun X X=>d) (fun X X X X=>d) (fun X X X X=>d) (fun X X X X=>d) (fun X X=>d) (fun X X X=>d) (fun X X X=>d) (fun X X X=>d) (fun X X=>d) (fun X X=>d) (fun X X=>d) (fun X X X=>d) (fun X X X X=>d)
noncomputable def slW(d:Wt)(f:Option Expr→Option Expr→Option Expr→Wt)(e:Expr):Wt:=Expr.casesOn (motive_1:=fun X=>Wt) e (fun X X X=>d) (fun X X X=>d) (fun X X X X=>d) (fun X X X=>d) (fun X X X X=>d) (fun X X X X=>d) (fun X X X=>d) (fun X X X=>d) (fun X X X X=>d) (fun X X X X=>d) (fun X X X X X=>d) (fun X X X X=>d) (fun X X=>d) (fun X X=>d) (fun X X=>d) (fun X X X X=>d) (fun X X X X=>d) (fun X X X X=>d) (fun X X=>d) (fun X X X=>d) (fun X X X=>d) (fun X X X=>d) (fun X X=>d) (fun X X=>d) (fun X X=>d) (fun X X X=>d) (fun x y z X=>f x y z)
section
variable (P:PM T)
def emP(fr:Fr)(em:Em):Hp→(Hp→Prop)→Prop:=Em.casesOn (motive:=fun X=>Hp→(Hp→Prop)→Prop) em fun elt a=>zjo P elt fr a
structure WhJ(fr:Fr)(t:Expr)(b:List Stmt)(h:Hp)(K:Fl→Hp→Prop):Prop where
 go:∃(I:Nat→Hp→Prop) (k:Nat),I k h∧∀k h',I k h'→JT P fr t h' fun c h'=>Br c (JSs P fr b h' (turn (On I h.nx k) K)) (K .next h')
def LpJ(wl:Bool)(fr:Fr)(t:Expr)(b:List Stmt)(it:Nat)(h:Hp)(K:Fl→Hp→Prop):Prop:=cond wl (WhJ P fr t b h K) (ForJ P fr t b it h K)
def Wt.sem:Wt→Prop
 | .lf p=>p
 | .en v h p=>p v h
 | .pu t k=>t.sem fun a h=>(k a h).sem
 | .fz v h k=>frz v h fun a h=>(k a h).sem
 | .cl f as kw h k=>za3 P f as kw h fun a h=>(k a h).sem
 | .gj fr t ifs rest em it h k=>GJ P fr t ifs (zfN P fr (emP P fr em) rest) it h fun h=>(k h).sem
 | .fj wl fr t b it h k=>LpJ P wl fr t b it h fun x h=>(k x h).sem
end
noncomputable def rqW(b:Bool)(h:Hp)(X:Wt):Wt:= .pu (.rq b (.ret () h)) fun Z Z=>X
noncomputable def RqW(b:Bool)(h:Hp)(X:Wt):Wt:= .pu (.Rq b (.ret () h)) fun Z Z=>X
noncomputable def osW{α:Type}(o:Option α)(h:Hp)(k:α→Wt):Wt:= .pu (.os o fun a=> .ret a h) fun a X=>k a
noncomputable def bsW(b:Bool)(h:Hp)(X Y:Wt):Wt:= .pu (.bs b (.ret true h) (.ret false h)) fun b Z=>cond b X Y
noncomputable def BrW(b:Bool)(h:Hp)(X Y:Wt):Wt:= .pu (.Br b (.ret true h) (.ret false h)) fun b Z=>cond b X Y
set_option genCtorIdx false in
inductive Cd:Type 1
 | E (e:Expr) (K:AV→Hp→Wt)
 | T (e:Expr) (K:Bool→Hp→Wt)
 | Ts (op:BoolOp) (es:List Expr) (K:Bool→Hp→Wt)
 | B (op:BoolOp) (es:List Expr) (K:AV→Hp→Wt)
 | Es (es:List Expr) (K:List AV→Hp→Wt)
 | O (e:Option Expr) (K:AV→Hp→Wt)
 | Kw (ks:List Keyword) (K:List (Str×AV)→Hp→Wt)
 | S (s:Stmt) (K:Fl→Hp→Wt)
 | Ss (s:List Stmt) (K:Fl→Hp→Wt)
 | A (t:Expr) (v:AV) (K:Unit→Hp→Wt)
 | L (es:List Expr) (K:Bool→Hp→Wt)
section
variable (P:PM T) (fr:Fr)
def kS{β:Type}(K:β→Hp→Wt)(a:β)(h:Hp):Prop:=(K a h).sem P
def sem(c:Cd)(h:Hp):Prop:=Cd.casesOn (motive:=fun X=>Prop) c (fun e K=>JE P fr e h (kS P K)) (fun e K=>JT P fr e h (kS P K)) (fun op es K=>JTs P fr op es h (kS P K)) (fun op es K=>JB' P fr op es h (kS P K)) (fun es K=>JEs P fr es h (kS P K)) (fun e K=>JO P fr e h (kS P K)) (fun ks' K=>JK P fr ks' h (kS P K)) (fun s K=>JS P fr s h (kS P K)) (fun s K=>JSs P fr s h (kS P K)) (fun t v K=>JA' P fr t v h (kS P K)) (fun es K=>zpC P fr es h (kS P K))
variable (rec:Cd→Hp→Wt)
def zh4(f:AV)(as:List AV)(kw:List (Str×AV))(h:Hp)(K:AV→Hp→Wt):Wt:=Option.casesOn (motive:=fun X=>Wt) f.bi? (Option.casesOn (motive:=fun X=>Wt) f.ty? (.cl f as kw h K) fun m=> .pu (.rq kw.isEmpty (zni m as h)) K) fun m=> .pu (.rq kw.isEmpty (znl m as h)) K
def znk(m:MR)(as:List AV)(kw:List (Str×AV))(h:Hp)(K:AV→Hp→Wt):Wt:=MR.casesOn (motive:=fun X=>Wt) m (fun b self=> .pu (.rq kw.isEmpty (znm T b (self :: as) h)) K) fun f first=>zh4 f (first++as) kw h K
def zt4(K:AV→Hp→Wt)(v:AV)(L:Nat)(h:Hp):Wt:= .fz v h fun v h=> .pu (zu4 L h) fun X h=>K v h
def zrz(f:Expr)(as:List Expr)(ks:List Keyword)(pos:Pos)(h:Hp)(K:AV→Hp→Wt):Wt:=tgW (.lf (JE P fr (.Call f as ks pos) h (kS P K))) (fun o x p=>rqW (!zbB o&&zat as&&zb6 ks&&Nat.blt (as.length+ks.length) 29&&Nat.beq p.endLine pos.line) h (rec (.E o fun ov h=> .pu (zci T ov x h) fun m h=>rec (.Es as fun vs h=>rec (.Kw ks fun kw h=>znk (T:=T) m vs kw h K) h) h) h)) (fun X X X=> .lf (JE P fr (.Call f as ks pos) h (kS P K))) (fun x X=>rqW (zat as&&zb6 ks) h (.pu (zhz (T:=T) fr x h) fun f h=>rec (.Es as fun vs h=>rec (.Kw ks fun kw h=>zh4 f vs kw h K) h) h)) (fun X=> .lf (JE P fr (.Call f as ks pos) h (kS P K))) f
def zu0(o i:Expr)(pos:Pos)(h:Hp)(K:AV→Hp→Wt):Wt:=slW (rec (.E o fun a h=>rec (.E i fun b h=>(.pu (zoK a b h) K)) h) h) (fun lo hi st=>rec (.E o fun ov h=>rec (.O lo fun l h=>rec (.O hi fun u h=>rec (.O st fun k h=>(.pu (zur ov l u k h) K)) h) h) h) h) i
noncomputable def zna(c:Const)(k:Nat)(pos:Pos)(h:Hp)(K:AV→Hp→Wt):Wt:=match c with | .none=>K .none h | .bool b=>K (.bool b) h | .int i=>K (.int i) h | .str s=>K (.str s.cps.toList) h | c=> .lf (JE P fr (.Constant c k pos) h (kS P K))
def ztx(l:Expr)(ops:List CmpOp)(rs:List Expr)(pos:Pos)(h:Hp)(K:AV→Hp→Wt):Wt:=bif ops.tail.isEmpty&&rs.tail.isEmpty then Option.casesOn (motive:=fun X=>Wt) ops.head? (.lf (JE P fr (.Compare l ops rs pos) h (kS P K))) fun op=>Option.casesOn (motive:=fun X=>Wt) rs.head? (.lf (JE P fr (.Compare l ops rs pos) h (kS P K))) fun r=>rqW (!behindInMarks op r) h (rec (.E l fun a h=>rec (.E r fun b h=> .pu (ztw T op a b h) K) h) h) else .lf (JE P fr (.Compare l ops rs pos) h (kS P K))
def ztv(l:Expr)(ops:List CmpOp)(rs:List Expr)(pos:Pos)(h:Hp)(K:Bool→Hp→Wt):Wt:=bif ops.tail.isEmpty&&rs.tail.isEmpty then Option.casesOn (motive:=fun X=>Wt) ops.head? (.lf (JT P fr (.Compare l ops rs pos) h (kS P K))) fun op=>Option.casesOn (motive:=fun X=>Wt) rs.head? (.lf (JT P fr (.Compare l ops rs pos) h (kS P K))) fun r=>rqW (!behindInMarks op r) h (rec (.E l fun a h=>rec (.E r fun b h=> .pu (ztw T op a b h) fun c h=> .pu (zaN c h .ret) K) h) h) else .lf (JT P fr (.Compare l ops rs pos) h (kS P K))
def zph(e:Expr)(K:AV→Nat→Hp→Wt)(h:Hp):Wt:=lcW (.lf (JC P fr e h fun v L h=>(K v L h).sem P)) (fun elt gens sc pos=>List.casesOn (motive:=fun X=>Wt) gens (.lf (JC P fr (.ListComp elt gens sc pos) h fun v L h=>(K v L h).sem P)) fun g rest=>rqW (decide (g.is_async=0)&&ziN fr g.iter rest sc) h (rec (.E g.iter fun x h=> .pu (zlt x h) fun v h=>osW v.ref? h fun it=>rqW (zoM (h.at_ it)) h (.gj (zaF (h.new (.list false [])) sc (zbj fr.cel sc.names []) none) g.target g.ifs rest (.L elt h.nx) it (zb9 (h.new (.list false [])) sc) (K (.ref h.nx) (h.nx+1)))) h)) e
def zs5(es:List Expr)(k:Nat):Option Expr:=bif Nat.beq k 0&&es.tail.isEmpty&&(es.head?.any zte) then es.head? else none
def zsS(h:Hp)(K:AV→Hp→Wt)(v:AV)(h':Hp):Wt:=osW v.int? h' fun i=>osW (h'.at_ h.nx).set? h' fun xs=>rqW xs.isEmpty h' (K (.ref h.nx) (h'.set h.nx (.set [.int i])))
def zqm(e:Expr)(K:AV→Hp→Wt)(h:Hp):Wt:=Expr.casesOn (motive_1:=fun X=>Wt) e (fun op vs X=>rec (.B op vs K) h) (fun X X X=> .lf (JE P fr e h (kS P K))) (fun l op r X=>rec (.E l fun a h=>rec (.E r fun b h=> .pu (zux op a b h) K) h) h) (fun op x X=>rec (.E x fun a h=> .pu (unO op a h) K) h) (fun X X X X=> .lf (JE P fr e h (kS P K))) (fun t b d X=>rec (.T t fun c h=>BrW c h (rec (.E b K) h) (rec (.E d K) h)) h) (fun ks vs pos=>List.casesOn (motive:=fun X=>Wt) ks (List.casesOn (motive:=fun X=>Wt) vs (K (.ref h.nx) (h.new (.dict false []))) fun a r=> .lf (JE P fr (.Dict [] (a :: r) pos) h (kS P K))) fun a r=> .lf (JE P fr (.Dict (a :: r) vs pos) h (kS P K))) (fun es k pos=>Option.casesOn (motive:=fun X=>Wt) (zs5 es k) (.lf (JE P fr e h (kS P K))) fun x=>rqW fr.tab.isSome h (rec (.E x (zsS h K)) (h.new (.set [])))) (fun X X X X=>zph P fr rec e (zt4 K) h) (fun X X X X=> .lf (JE P fr e h (kS P K))) (fun X X X X X=> .lf (JE P fr e h (kS P K))) (fun X X X X=> .lf (JE P fr e h (kS P K))) (fun X X=> .lf (JE P fr e h (kS P K))) (fun X X=> .lf (JE P fr e h (kS P K))) (fun X X=> .lf (JE P fr e h (kS P K))) (fun l ops rs pos=>ztx P fr rec l ops rs pos h K) (fun f as ks pos=>zrz P fr rec f as ks pos h K) (fun X X X X=> .lf (JE P fr e h (kS P K))) (fun X X=> .lf (JE P fr e h (kS P K))) (fun c k pos=>zna P fr c k pos h K) (fun o x X=>rqW (!zbB o) h (rec (.E o fun ov h=> .pu (zoW T ov x.cps.toList h) K) h)) (fun o i pos=>zu0 rec o i pos h K) (fun X X=> .lf (JE P fr e h (kS P K))) (fun x X=> .pu (zhz (T:=T) fr x h) K) (fun es X=>rqW (zat es) h (rec (.Es es fun vs h=> .pu (zu7 vs h) K) h)) (fun es X X=>rqW (zat es) h (rec (.Es es fun vs h=>rqW (Nat.blt vs.length 1000) h (osW (svs vs) h fun xs=>K (.tup xs) h)) h)) (fun X X X X=> .lf (JE P fr e h (kS P K)))
def unT(op:UnaryOp)(x e:Expr)(h:Hp)(K:Bool→Hp→Wt):Wt:=UnaryOp.casesOn (motive:=fun X=>Wt) op (rec (.E e fun v h=> .pu (zaN v h .ret) K) h) (rec (.T x fun b h=>K (!b) h) h) (rec (.E e fun v h=> .pu (zaN v h .ret) K) h) (rec (.E e fun v h=> .pu (zaN v h .ret) K) h)
def zqi(e:Expr)(K:Bool→Hp→Wt)(h:Hp):Wt:=Expr.casesOn (motive_1:=fun X=>Wt) e (fun op vs X=>rec (.Ts op vs K) h) (fun X X X=> .lf (JT P fr e h (kS P K))) (fun X X X X=>rec (.E e fun v h=> .pu (zaN v h .ret) K) h) (fun op x X=>unT rec op x e h K) (fun X X X X=> .lf (JT P fr e h (kS P K))) (fun t b d X=>rec (.T t fun c h=>BrW c h (rec (.T b K) h) (rec (.T d K) h)) h) (fun X X X=> .lf (JT P fr e h (kS P K))) (fun X X X=> .lf (JT P fr e h (kS P K))) (fun X X X X=> .lf (JT P fr e h (kS P K))) (fun X X X X=> .lf (JT P fr e h (kS P K))) (fun X X X X X=> .lf (JT P fr e h (kS P K))) (fun X X X X=> .lf (JT P fr e h (kS P K))) (fun X X=> .lf (JT P fr e h (kS P K))) (fun X X=> .lf (JT P fr e h (kS P K))) (fun X X=> .lf (JT P fr e h (kS P K))) (fun l ops rs pos=>ztv P fr rec l ops rs pos h K) (fun X X X X=>rec (.E e fun v h=> .pu (zaN v h .ret) K) h) (fun X X X X=> .lf (JT P fr e h (kS P K))) (fun X X=> .lf (JT P fr e h (kS P K))) (fun X X X=>rec (.E e fun v h=> .pu (zaN v h .ret) K) h) (fun X X X=>rec (.E e fun v h=> .pu (zaN v h .ret) K) h) (fun X X X=> .lf (JT P fr e h (kS P K))) (fun X X=> .lf (JT P fr e h (kS P K))) (fun X X=>rec (.E e fun v h=> .pu (zaN v h .ret) K) h) (fun X X=> .lf (JT P fr e h (kS P K))) (fun X X X=> .lf (JT P fr e h (kS P K))) (fun X X X X=> .lf (JT P fr e h (kS P K)))
def zqh(op:BoolOp)(es:List Expr)(K:Bool→Hp→Wt)(h:Hp):Wt:=List.casesOn (motive:=fun X=>Wt) es (K (zr1 op) h) fun e r=>rec (.T e fun b h=>BoolOp.casesOn (motive:=fun X=>Wt) op (BrW b h (rec (.Ts op r K) h) (K false h)) (BrW b h (K true h) (rec (.Ts op r K) h))) h
def zsK(op:BoolOp)(es:List Expr)(K:AV→Hp→Wt)(h:Hp):Wt:=List.casesOn (motive:=fun X=>Wt) es (.lf (JB' P fr op [] h (kS P K))) fun e r=>List.casesOn (motive:=fun X=>Wt) r (rec (.E e K) h) fun l r=>BoolOp.casesOn (motive:=fun X=>Wt) op (rec (.E e fun v h=> .pu (zaN v h .ret) fun t h=>BrW t h (rec (.B .And (l :: r) K) h) (K v h)) h) (.lf (JB' P fr .Or (e :: l :: r) h (kS P K)))
noncomputable def zql(es:List Expr)(K:List AV→Hp→Wt)(h:Hp):Wt:=List.casesOn (motive:=fun X=>Wt) es (K [] h) fun e r=>rec (.E e fun v h=>rec (.Es r fun vs h=>K (v :: vs) h) h) h
noncomputable def zsI(e:Option Expr)(K:AV→Hp→Wt)(h:Hp):Wt:=Option.casesOn (motive:=fun X=>Wt) e (K .none h) fun e=>rec (.E e K) h
noncomputable def zqk(ks:List Keyword)(K:List (Str×AV)→Hp→Wt)(h:Hp):Wt:=List.casesOn (motive:=fun X=>Wt) ks (K [] h) fun k r=>Option.casesOn (motive:=fun X=>Wt) k.arg (.lf (JK P fr ks h (kS P K))) fun x=>rec (.E k.value fun v h=>rec (.Kw r fun vs h=>K ((x,v) :: vs) h) h) h
noncomputable def zgn(e:Expr):Option Str:=Expr.casesOn (motive_1:=fun X=>Option Str) e jF jF jS jF jS jS jF jF jS jS (fun X X X X X=>none) jS jC jC jC jS jS jS jC jF jF jF jC (fun x X=>some x) jC jF jS
def two(es:List Expr):Option (Str×Str):=List.casesOn (motive:=fun X=>Option (Str×Str)) es none fun a r=>bif r.tail.isEmpty then (zgn a).bind fun x=>r.head?.bind fun b=>(zgn b).map fun y=>(x,y) else none
def zqn(t:Expr)(v:AV)(K:Unit→Hp→Wt)(h:Hp):Wt:=tgW (.lf (JA' P fr t v h (kS P K))) (fun o x X=>rec (.E o fun ov h=> .pu (zo7 T ov x.cps.toList v h) K) h) (fun o i X=>rec (.E o fun ov h=>rec (.E i fun iv h=> .pu (zdO ov iv v h) K) h) h) (fun x X=> .pu (zcs fr x v h fun h=> .ret () h) K) (fun es=>Option.casesOn (motive:=fun X=>Wt) (two es) (.lf (JA' P fr t v h (kS P K))) fun p=> .pu (zbM fr p.1 p.2 v h) K) t
def zsJ(es:List Expr)(K:Bool→Hp→Wt)(h:Hp):Wt:=List.casesOn (motive:=fun X=>Wt) es (K true h) fun e r=>rec (.T e fun b h=>BrW b h (rec (.L r K) h) (K false h)) h
noncomputable def isLD(e:Expr):Bool:=Expr.casesOn (motive_1:=fun X=>Bool) e jP jP jQ jP jQ jQ jP jP jR jQ (fun X X X X X=>true) jQ jO jO jO jQ jQ jQ jO jP jP jP jO jO jO jP jQ
def zuz(t e:Expr)(pos:Pos)(h:Hp)(K:Fl→Hp→Wt):Wt:=let d:=rec (.E e fun v h=>rec (.A t v fun X h=>K .next h) h) h;tgW (.lf (JS P fr (.Assign [t] e pos) h (kS P K))) (fun X X X=>d) (fun X X X=>d) (fun X X=>d) (fun es=>Option.casesOn (motive:=fun X=>Wt) (two es) (.lf (JS P fr (.Assign [t] e pos) h (kS P K))) fun p=>rqW (zs6 e) h (rec (.E e fun v h=> .pu (zbM fr p.1 p.2 v h) fun X h=>K .next h) h)) t
def zuA(t e:Expr)(pos:Pos)(h:Hp)(K:Fl→Hp→Wt):Wt:=bsW (zaR e) h (bsW (isLD e) h (osW (zgn t) h fun x=>zph P fr rec e (zt4 fun v h=> .pu (zcs fr x v h fun h=> .ret () h) fun X h=>K .next h) h) (.lf (JS P fr (.Assign [t] e pos) h (kS P K)))) (zuz P fr rec t e pos h K)
def zuy(t:Expr)(op:Operator)(e:Expr)(pos:Pos)(h:Hp)(K:Fl→Hp→Wt):Wt:=tgW (.lf (JS P fr (.AugAssign t op e pos) h (kS P K))) (fun o x X=>rec (.E o fun ov h=> .pu (zoW T ov x.cps.toList h) fun a h=>rec (.E e fun b h=> .pu (zse op a b h) fun c h=> .pu (zo7 T ov x.cps.toList c h) fun X h=>K .next h) h) h) (fun o i X=>rqW (!zua i) h (rec (.E o fun ov h=>rec (.E i fun iv h=> .pu (zoK ov iv h) fun a h=>rec (.E e fun b h=> .pu (zse op a b h) fun c h=> .pu (zdO ov iv c h) fun X h=>K .next h) h) h) h)) (fun x X=> .pu (zhz (T:=T) fr x h) fun a h=>rec (.E e fun b h=> .pu (zse op a b h) fun c h=> .pu (zcs fr x c h fun h=> .ret () h) fun X h=>K .next h) h) (fun X=> .lf (JS P fr (.AugAssign t op e pos) h (kS P K))) t
def ztt(name:Str)(args:Arguments)(body:List Stmt)(decs:List Expr)(ret:Option Expr)(tps:List TypeParam)(scope:Scope)(doc:Option Scope)(bind:Str)(pos:Pos)(h:Hp)(K:Fl→Hp→Wt):Wt:=bif decs.isEmpty&&(ret.isNone&&(tps.isEmpty&&doc.isNone)) then Option.casesOn (motive:=fun X=>Wt) fr.tab (.lf (JS P fr (.FunctionDef name args body decs ret tps scope doc bind pos) h (kS P K))) fun p=>rqW (zof fr args body scope pos p) h (.pu (zcs fr bind (.ref h.nx) (h.new (.clo ⟨name,args,body,scope,none⟩ (zbj fr.cel scope.names []))) fun h=> .ret () h) fun X h=>K .next h) else .lf (JS P fr (.FunctionDef name args body decs ret tps scope doc bind pos) h (kS P K))
def zqj(s:Stmt)(K:Fl→Hp→Wt)(h:Hp):Wt:=Stmt.casesOn (motive_2:=fun X=>Wt) s (fun name args body decs ret tps scope doc bind pos=>ztt P fr name args body decs ret tps scope doc bind pos h K) (fun X X X X X X X X X X=> .lf (JS P fr s h (kS P K))) (fun X X X X X X X X X X X=> .lf (JS P fr s h (kS P K))) (fun e X=>Option.casesOn (motive:=fun X=>Wt) e (K (.ret .none) h) fun e=>rec (.E e fun v h=>K (.ret v) h) h) (fun X X=> .lf (JS P fr s h (kS P K))) (fun ts e pos=>List.casesOn (motive:=fun X=>Wt) ts (.lf (JS P fr (.Assign [] e pos) h (kS P K))) fun t r=>List.casesOn (motive:=fun X=>Wt) r (zuA P fr rec t e pos h K) fun t2 r=> .lf (JS P fr (.Assign (t :: t2 :: r) e pos) h (kS P K))) (fun X X X X X X X=> .lf (JS P fr s h (kS P K))) (fun t op e pos=>zuy P fr rec t op e pos h K) (fun X X X X X=> .lf (JS P fr s h (kS P K))) (fun t i b d pos=>List.casesOn (motive:=fun X=>Wt) d (rqW (!zfI i) h (rec (.E i fun x h=> .pu (zlt x h) fun v h=>osW v.ref? h fun it=>Wt.fj false fr t b it h K) h)) fun x r=> .lf (JS P fr (.For t i b (x :: r) pos) h (kS P K))) (fun X X X X X=> .lf (JS P fr s h (kS P K))) (fun t b d pos=>List.casesOn (motive:=fun X=>Wt) d (.fj true fr t b 0 h K) fun x r=> .lf (JS P fr (.While t b (x :: r) pos) h (kS P K))) (fun t b d X=>rec (.T t fun c h=>BrW c h (rec (.Ss b K) h) (rec (.Ss d K) h)) h) (fun X X X=> .lf (JS P fr s h (kS P K))) (fun X X X=> .lf (JS P fr s h (kS P K))) (fun X X X=> .lf (JS P fr s h (kS P K))) (fun X X X=> .lf (JS P fr s h (kS P K))) (fun X X X X X=> .lf (JS P fr s h (kS P K))) (fun X X X X X=> .lf (JS P fr s h (kS P K))) (fun t X X=>rec (.T t fun c h=>RqW c h (K .next h)) h) (fun X X=> .lf (JS P fr s h (kS P K))) (fun X X X X=> .lf (JS P fr s h (kS P K))) (fun X X=> .lf (JS P fr s h (kS P K))) (fun X X=> .lf (JS P fr s h (kS P K))) (fun e pos=>bsW (zaR e) h (.lf (JS P fr (.Expr e pos) h (kS P K))) (rec (.E e fun X h=>K .next h) h)) (fun X=>K .next h) (fun X=>K .brk h) (fun X=>K .cont h)
noncomputable def zmz(s:List Stmt)(K:Fl→Hp→Wt)(h:Hp):Wt:=List.rec (motive:=fun X=>Hp→Wt) (fun h=>K .next h) (fun s X q h=>rec (.S s fun x h=>Fl.casesOn (motive:=fun X=>Wt) x (q h) (K .brk h) (K .cont h) fun v=>K (.ret v) h) h) s h
def step(c:Cd)(h:Hp):Wt:=Cd.casesOn (motive:=fun X=>Wt) c (fun e K=>zqm P fr rec e K h) (fun e K=>zqi P fr rec e K h) (fun op es K=>zqh rec op es K h) (fun op es K=>zsK P fr rec op es K h) (fun es K=>zql rec es K h) (fun e K=>zsI rec e K h) (fun ks K=>zqk P fr rec ks K h) (fun s K=>zqj P fr rec s K h) (fun s K=>zmz rec s K h) (fun t v K=>zqn P fr rec t v K h) (fun es K=>zsJ rec es K h)
def v(n:Nat):Cd→Hp→Wt:=Nat.rec (motive:=fun X=>Cd→Hp→Wt) (fun c h=> .lf (sem P fr c h)) (fun X r=>step P fr r) n
end
theorem zdl{α:Type}{l:List α}{a:α}(e:l.head? = some a)(t:l.tail.isEmpty=true):l = [a]:=by
 induction l using cL with
 | nil=>exact no e
 | cons b r=>obtain rfl:=sI e;obtain rfl:r = []:=eI t;rfl
section
variable {rec:Cd→Hp→Wt} (ih:∀c h,(rec c h).sem P→sem P fr c h)
theorem nt{b:Bool}(h:(!b)=true):b=false:=(Bool.not_eq_true' _).mp h
theorem JI.mono{a b:AV}{K K':AV→Hp→Prop}(H:JI P a b h K)(i:∀v h,K v h→K' v h):JI P a b h K':=fun A E Q s W va vb G x y k=>H A E Q s W va vb G x y fun X X X X X S V q=>k S V (i _ _ q)
theorem JK.mono{ks:List Keyword}{K K':List (Str×AV)→Hp→Prop}(H:JK P fr ks h K)(i:∀v h,K v h→K' v h):JK P fr ks h K':=fun pos A E Q s W env G F k=>H pos A E Q s W env G F fun X X X X X S V q=>k _ _ _ _ _ S V (i _ _ q)
theorem zfi{f:AV}{as:List AV}{kw:List (Str×AV)}{K:AV→Hp→Wt}(H:(zh4 f as kw h K).sem P):zjN P f as kw h (kS P K):=by
 revert H;unfold zh4 zjN;induction f.bi? with
 | some m=>exact id
 | none=>induction f.ty? with
  | some m=>exact id
  | none=>exact id
theorem zjM{m:MR}{as:List AV}{kw:List (Str×AV)}{K:AV→Hp→Wt}(H:(znk (T:=T) m as kw h K).sem P):zpn P m as kw h (kS P K):=by
 induction m with
 | bm b self=>exact H
 | um f first=>exact zfi H
include ih
theorem zm6(B:Tbl T P.c){f:Expr}{as:List Expr}{ks:List Keyword}{pos:Pos}{K:AV→Hp→Wt}(H:(zrz P fr rec f as ks pos h K).sem P):JE P fr (.Call f as ks pos) h (kS P K):=by
 induction f using cE with
 | Name x p=>exact req.go H fun c H=>req.go (show load (T:=T) fr x h _ from H) fun hx X=>zp8 c hx ((zfC H).mono fun f h H=>(ih (.Es as _) h H).mono fun vs h H=>JK.mono (ih (.Kw ks _) h H) fun X X H=>zfi H)
 | Attribute o x p=>exact req.go H fun c H=>zp9 B c ((ih (.E o _) h H).mono fun ov h H pl=>(zdh B.b.1 B.b.2 H).mono fun m h H=>(ih (.Es as _) h H).mono fun vs h H=>JK.mono (ih (.Kw ks _) h H) fun X X H=>zjM H)
 | _=>exact H
theorem znK{o i:Expr}{pos:Pos}{K:AV→Hp→Wt}(H:(zu0 rec o i pos h K).sem P):JE P fr (.Subscript o i pos) h (kS P K):=by
 induction i using cE with
 | Slice lo hi st p=>exact zp6 ((ih (.E o _) h H).mono fun ov h H=>(ih (.O lo _) h H).mono fun l h H=>(ih (.O hi _) h H).mono fun u h H=>ih (.O st _) h H)
 | _=>exact zrf ((ih (.E o _) h H).mono fun a h H=>ih (.E _ _) h H)
omit ih in
theorem zjC{c:Const}{k:Nat}{pos:Pos}{K:AV→Hp→Wt}(H:(zna P fr c k pos h K).sem P):JE P fr (.Constant c k pos) h (kS P K):=by
 induction c with
 | none=>exact zrd H
 | bool b=>exact zrg H
 | int i=>exact ztq H
 | str s=>exact zp5 H
 | _=>exact H
theorem zpk{l:Expr}{ops:List CmpOp}{rs:List Expr}{pos:Pos}{K:AV→Hp→Wt}(H:(ztx P fr rec l ops rs pos h K).sem P):JE P fr (.Compare l ops rs pos) h (kS P K):=by
 revert H;unfold ztx;induction e:ops.tail.isEmpty&&rs.tail.isEmpty with
 | false=>exact id
 | true=>
  induction e1:ops.head? with
  | none=>exact id
  | some op=>
   induction e2:rs.head? with
   | none=>exact id
   | some r=>
    obtain rfl:=zdl e1 (aI e).1;obtain rfl:=zdl e2 (aI e).2;exact fun H=>H.go fun c H=>ztr (nt c) ((ih (.E l _) h H).mono fun a h H=>ih (.E _ _) h H)
theorem zpj{l:Expr}{ops:List CmpOp}{rs:List Expr}{pos:Pos}{K:Bool→Hp→Wt}(H:(ztv P fr rec l ops rs pos h K).sem P):JT P fr (.Compare l ops rs pos) h (kS P K):=by
 revert H;unfold ztv;induction e:ops.tail.isEmpty&&rs.tail.isEmpty with
 | false=>exact id
 | true=>
  induction e1:ops.head? with
  | none=>exact id
  | some op=>
   induction e2:rs.head? with
   | none=>exact id
   | some r=>
    obtain rfl:=zdl e1 (aI e).1;obtain rfl:=zdl e2 (aI e).2;exact fun H=>H.go fun c H=>zsF (nt c) ((ih (.E l _) h H).mono fun a h H=>ih (.E _ _) h H)
theorem zgX{e:Expr}{K:AV→Nat→Hp→Wt}(H:(zph P fr rec e K h).sem P):JC P fr e h (fun v L h=>(K v L h).sem P):=by
 have key:∀{g:Comprehension},decide (g.is_async=0)=true→g = ⟨g.target,g.iter,g.ifs,0⟩:=fun {g} e=>by
  obtain ⟨a,b,c,d⟩:=g;obtain rfl:d=0:=oD e
  rfl
 induction e using cE with
 | ListComp elt gens sc pos=>induction gens using cL with
  | nil=>exact H
  | cons g rest=>
   exact req.go H fun c H=>by
    obtain ⟨c1,c2⟩:=aI c;rw [key c1];exact zrG c2 (ih (.E g.iter _) h H)
 | _=>exact H
omit ih in
theorem zut{α:Type}{b:Bool}{x:Option α}{z:α}(h:cond b x none=some z):b=true∧x=some z:=by
 induction b with
 | false=>exact no h
 | true=>exact ⟨rfl,h⟩
omit ih in
theorem zcB{e:Expr}{x:Str}:zgn e=some x→∃p,e = .Name x p:=by
 induction e using cE with
 | Name y p=>exact fun e=>⟨p,congrArg (Expr.Name · p) (sI e)⟩
 | _=>exact no
omit ih in
theorem zoL{e:Expr}:zte e=true→∃x p,e = .Name x p:=by
 induction e using cE with
 | Name y p=>exact fun X=>⟨y,p,rfl⟩
 | _=>exact nb
omit ih in
theorem zod{es:List Expr}{k:Nat}{x:Expr}(e:zs5 es k=some x):∃n p,x = .Name n p∧es = [.Name n p]∧k=0:=by
 obtain ⟨c,e⟩:=zut e;obtain ⟨c,c3⟩:=aI c;obtain ⟨c1,c2⟩:=aI c;rw [e] at c3;obtain ⟨n,p,rfl⟩:=zoL c3;exact ⟨n,p,rfl,zdl e c2,qB c1⟩
theorem zkD(B:Tbl T P.c){e:Expr}{K:AV→Hp→Wt}(H:(zqm P fr rec e K h).sem P):JE P fr e h (kS P K):=by
 induction e using cE with
 | BoolOp op vs p=>exact e_op (ih (.B op vs K) h H)
 | BinOp l op r p=>exact zts ((ih (.E l _) h H).mono fun a h H=>ih (.E r _) h H)
 | UnaryOp op x p=>exact e_un (ih (.E x _) h H)
 | IfExp t b d p=>exact e_if ((ih (.T t _) h H).mono fun c h H=>Br.go H (fun e H=> .t e (ih (.E b K) h H)) fun e H=> .f e (ih (.E d K) h H))
 | Dict ks vs p=>induction ks using cL with
  | nil=>induction vs using cL with
   | nil=>exact zp7 H
   | cons X Z=>exact H
  | cons X Z=>exact H
 | ListComp elt gens sc p=>exact zn5 (zgX ih (e:= .ListComp elt gens sc p) (K:=zt4 K) H)
 | Set es k p=>
  have H:(Option.casesOn (motive:=fun X=>Wt) (zs5 es k) (.lf (JE P fr (.Set es k p) h (kS P K))) fun x=>rqW fr.tab.isSome h (rec (.E x (zsS h K)) (h.new (.set [])))).sem P:=H;revert H;induction e1:zs5 es k with
  | none=>exact id
  | some x=>
   exact fun H=>req.go H fun c H1=>by
    obtain ⟨n,q,rfl,rfl,rfl⟩:=zod e1;exact znU c ((ih (.E _ (zsS h K)) _ H1).mono fun v h' H=>H)
 | Compare l ops rs p=>exact zpk ih H
 | Call f as ks p=>exact zm6 ih B H
 | Constant c k p=>exact zjC H
 | Attribute o x p=>exact req.go H fun c H=>zrh (nt c) (ih (.E o _) h H)
 | Subscript o i p=>exact znK ih H
 | Name x p=>exact zn4 H
 | List es p=>exact req.go H fun c H=>zre c (ih (.Es es _) h H)
 | Tuple es k p=>exact req.go H fun c H=>zp4 c (ih (.Es es _) h H)
 | _=>exact H
theorem zkA{e:Expr}{K:Bool→Hp→Wt}(H:(zqi P fr rec e K h).sem P):JT P fr e h (kS P K):=by
 induction e using cE with
 | BoolOp op vs p=>exact t_op (ih (.Ts op vs K) h H)
 | UnaryOp op x p=>induction op with
  | Not=>exact zsD (ih (.T x _) h H)
  | _=>exact zhh (fun X X=>rfl) (ih (.E _ _) h H)
 | IfExp t b d p=>exact t_if ((ih (.T t _) h H).mono fun c h H=>Br.go H (fun e H=> .t e (ih (.T b K) h H)) fun e H=> .f e (ih (.T d K) h H))
 | Compare l ops rs p=>exact zpj ih H
 | Name x p=>exact zhh (fun X X=>rfl) (ih (.E _ _) h H)
 | BinOp l op r p=>exact zhh (fun X X=>rfl) (ih (.E _ _) h H)
 | Call f as ks p=>exact zhh (fun X X=>rfl) (ih (.E _ _) h H)
 | Attribute o x p=>exact zhh (fun X X=>rfl) (ih (.E _ _) h H)
 | Constant c k p=>exact zhh (fun X X=>rfl) (ih (.E _ _) h H)
 | _=>exact H
omit ih in
theorem zmu{es:List Expr}{p:Str×Str}(e:two es=some p):∃a b,es = [.Name p.1 a, .Name p.2 b]:=by
 induction es using cL with
 | nil=>exact no e
 | cons a r=>
  obtain ⟨c,e⟩:=zut e;obtain ⟨x,e1,e⟩:=bE e;obtain ⟨b,e2,e⟩:=bE e;obtain ⟨y,e3,rfl⟩:=jE e;obtain rfl:=zdl e2 c;exact (zcB e1).elim fun q z=>(zcB e3).elim fun q' z'=>⟨q,q',by rw [z,z']⟩
theorem zkE{t:Expr}{w:AV}{K:Unit→Hp→Wt}(H:(zqn P fr rec t w K h).sem P):JA' P fr t w h (kS P K):=by
 induction t using cE with
 | Name x p=>exact zk9 H
 | Attribute o x p=>exact zrU (ih (.E o _) h H)
 | Subscript o i p=>exact zrT ((ih (.E o _) h H).mono fun a h H=>ih (.E i _) h H)
 | Tuple es k p=>
  have H:(Option.casesOn (motive:=fun X=>Wt) (two es) (.lf (JA' P fr (.Tuple es k p) w h (kS P K))) fun p=> .pu (zbM fr p.1 p.2 w h) K).sem P:=H;revert H;induction e1:two es with
  | none=>exact id
  | some q=>
   obtain ⟨a,b,rfl⟩:=zmu e1;exact fun H=>zk0 H
 | _=>exact H
theorem zc0{t e:Expr}{pos:Pos}{K:Fl→Hp→Wt}(c:zaR e=false)(h1:∀env,swappedStores [t] e env=pure none)(h2:∀env,(assignEach [t] env).map (·.2) = [assign t env])(H:(rec (.E e fun v h=>rec (.A t v fun X h=>K .next h) h) h).sem P):JS P fr (.Assign [t] e pos) h (kS P K):=zko c h1 h2 ((ih (.E e _) h H).mono fun v h H=>ih (.A t v _) h H)
theorem zpy{e:Expr}{pos:Pos}{K:Fl→Hp→Wt}(c:zaR e=false)(t:Expr):(zuz P fr rec t e pos h K).sem P→JS P fr (.Assign [t] e pos) h (kS P K):=by
 induction t using cE with
 | Name x p=>exact zc0 ih c (fun X=>rfl) fun X=>rfl
 | Attribute o x p=>exact zc0 ih c (fun X=>rfl) fun X=>rfl
 | Subscript o i p=>exact zc0 ih c (fun X=>rfl) fun X=>rfl
 | Tuple es k p=>
  show (Option.casesOn (motive:=fun X=>Wt) (two es) (.lf (JS P fr (.Assign [.Tuple es k p] e pos) h (kS P K))) fun p=>rqW (zs6 e) h (rec (.E e fun v h=> .pu (zbM fr p.1 p.2 v h) fun X h=>K .next h) h)).sem P→_;induction e1:two es with
  | none=>exact id
  | some q=>
   exact fun H=>req.go H fun c2 H₂=>by
    obtain ⟨a,b,rfl⟩:=zmu e1;exact zhZ (Bool.and_eq_true_iff.mpr ⟨by rw [c];rfl,c2⟩) (ih (.E e _) h H₂)
 | _=>exact id
theorem zpz{t e:Expr}{pos:Pos}{K:Fl→Hp→Wt}(H:(zuA P fr rec t e pos h K).sem P):JS P fr (.Assign [t] e pos) h (kS P K):=H.go (fun c H=>H.go (fun d H=>opt.go H fun x e1 H=>by
  obtain ⟨q,rfl⟩:=zcB e1;refine zhY c (fun X X X X q=>?_) (fun X=>rfl) (zgX ih H);subst q;exact nomatch d) fun X H=>H) fun c H=>zpy ih c t H
theorem zpx{t e:Expr}{op:Operator}{pos:Pos}{K:Fl→Hp→Wt}(H:(zuy P fr rec t op e pos h K).sem P):JS P fr (.AugAssign t op e pos) h (kS P K):=by
 induction t using cE with
 | Name x p=>exact zpT ((zfC H).mono fun a h H=>ih (.E e _) h H)
 | Attribute o x p=>exact zpV ((ih (.E o _) h H).mono fun ov h H x=>(zji H x).mono fun a h H=>ih (.E e _) h H)
 | Subscript o i p=>exact req.go H fun c H=>zpU (nt c) ((ih (.E o _) h H).mono fun ov h H=>(ih (.E i _) h H).mono fun iv h H=>(zj8 H).mono fun a h H=>ih (.E e _) h H)
 | _=>exact H
omit ih in
theorem zpe{name:Str}{args:Arguments}{body:List Stmt}{decs:List Expr}{ret:Option Expr}{tps:List TypeParam}{scope:Scope}{doc:Option Scope}{bind:Str}{pos:Pos}{K:Fl→Hp→Wt}(H:(ztt P fr name args body decs ret tps scope doc bind pos h K).sem P):JS P fr (.FunctionDef name args body decs ret tps scope doc bind pos) h (kS P K):=by
 revert H;unfold ztt;induction e:decs.isEmpty&&(ret.isNone&&(tps.isEmpty&&doc.isNone)) with
 | false=>exact id
 | true=>
  induction e1:fr.tab with
  | none=>exact id
  | some p=>
   obtain ⟨a,e⟩:=aI e;obtain ⟨b,e⟩:=aI e;obtain ⟨c,d⟩:=aI e;obtain rfl:=eI a;obtain rfl:=jN b;obtain rfl:=eI c;obtain rfl:=jN d;exact fun H=>req.go H fun c H=>zsn e1 c H
theorem zkB{s:Stmt}{K:Fl→Hp→Wt}(H:(zqj P fr rec s K h).sem P):JS P fr s h (kS P K):=by
 induction s using Stmt.casesOn with
 | FunctionDef name args body decs ret tps scope doc bind pos=>exact zpe H
 | Return e p=>induction e with
  | none=>exact zpO H
  | some e=>exact zsk (ih (.E e _) h H)
 | Assign ts e p=>induction ts using cL with
  | nil=>exact H
  | cons t r=>induction r using cL with
   | nil=>exact zpz ih H
   | cons X Z=>exact H
 | AugAssign t op e p=>exact zpx ih H
 | For t i b d p=>induction d using cL with
  | nil=>exact req.go H fun c H=>zsm (nt c) (ih (.E i _) h H)
  | cons X Z=>exact H
 | While t b d p=>induction d using cL with
  | nil=>exact H.go.elim fun I H=>H.elim fun k H=>znv H.2 H.1
  | cons X Z=>exact H
 | If t b d p=>exact x_if ((ih (.T t _) h H).mono fun c h H=>Br.go H (fun e H=> .t e (ih (.Ss b K) h H)) fun e H=> .f e (ih (.Ss d K) h H))
 | Assert t m p=>exact zkp (ih (.T t _) h H)
 | Expr e p=>exact br.go H (fun X H=>H) fun c H=>zpQ c (ih (.E e _) h H)
 | Pass p=>exact zpP H
 | Break p=>exact zso H
 | Continue p=>exact zpR H
 | _=>exact H
theorem zey{K:Fl→Hp→Wt}:∀{s:List Stmt} {h:Hp},(zmz rec s K h).sem P→JSs P fr s h (kS P K)
 | [],_,H=>zsl H
 | s :: r,h,H=>zpS ((ih (.S s _) h H).mono fun x h H=>by
   induction x with
   | next=>exact zey H
   | _=>exact H)
theorem znM(B:Tbl T P.c){c:Cd}(H:(step P fr rec c h).sem P):sem P fr c h:=by
 induction c with
 | E e K=>exact zkD ih B H
 | T e K=>exact zkA ih H
 | Ts op es K=>induction es using cL with
  | nil=>exact zsE H
  | cons e r=>exact zqb ((ih (.T e _) h H).mono fun b h H=>by
   induction op with
   | And=>exact Br.go H (fun e H=> .t e (ih (.Ts .And r K) h H)) fun e H=> .f e H
   | Or=>exact Br.go H (fun e H=> .t e H) fun e H=> .f e (ih (.Ts .Or r K) h H))
 | B op es K=>induction es using cL with
  | nil=>exact H
  | cons e r=>induction r using cL with
   | nil=>exact ztF (ih (.E e K) h H)
   | cons l r=>induction op with
    | And=>exact ztG ((ih (.E e _) h H).mono fun v h H=>(zcf H).mono fun t h H=>Br.go H (fun e H=> .t e (ih (.B .And (l :: r) K) h H)) fun e H=> .f e H)
    | Or=>exact H
 | Es es K=>induction es using cL with
  | nil=>exact zf6 H
  | cons e r=>exact zcO ((ih (.E e _) h H).mono fun v h H=>ih (.Es r _) h H)
 | O e K=>induction e with
  | none=>exact zqE H
  | some e=>exact zqD (ih (.E e K) h H)
 | Kw ks K=>induction ks using cL with
  | nil=>exact zqY H
  | cons k r=>
   obtain ⟨x,e,p⟩:=k;induction x with
   | none=>exact H
   | some x=>exact zqZ ((ih (.E e _) h H).mono fun v h H=>ih (.Kw r _) h H)
 | S s K=>exact zkB ih H
 | Ss s K=>exact zey ih H
 | A t w K=>exact zkE ih H
 | L es K=>induction es using cL with
  | nil=>exact zpA H
  | cons e r=>exact zmm ((ih (.T e _) h H).mono fun b h H=>Br.go H (fun e H=> .t e (ih (.L r K) h H)) fun e H=> .f e H)
omit ih in
theorem zdG(B:Tbl T P.c):∀(n:Nat) {c:Cd} {h:Hp},(v P fr n c h).sem P→sem P fr c h
 | 0,_,_,H=>H
 | n+1,c,h,H=>znM (rec:=v P fr n) (fun c h H=>zdG B n H) B H
end
section
variable {r:Nat}
noncomputable def zsW(K:AV→Hp→Wt)(x:Fl)(h:Hp):Wt:=Fl.casesOn (motive:=fun X=>Wt) x (K .none h) (K .none h) (K .none h) fun v=> .fz v h K
def zmk(P:PM T)(fd:FDat)(cl:List (Str×Nat))(dflt args:List AV)(kw:List (Str×AV))(h:Hp)(K:AV→Hp→Wt):Wt:= .pu (zjV fd.params dflt args kw h fun bs h=>zaO (zaF h fd.scope cl fd.tab) bs (zb9 h fd.scope) fun h'=> .ret (zaF h fd.scope cl fd.tab) h') fun fr h'=>v P fr 40 (.Ss fd.body (zsW K)) h'
def zsV(P:PM T)(fd:FDat)(cl:List (Str×Nat))(dflt args:List AV)(kw:List (Str×AV))(h:Hp)(K:AV→Hp→Prop):Prop:=(zmk P fd cl dflt args kw h fun v h=> .en v h K).sem P
def zkj(fd:FDat):Bool:=!fd.scope.isCoroutine && !fd.scope.isGenerator&&zbQ fd.scope
noncomputable def PM.up(P:PM T):PM T:=⟨P.c,P.S,P.n+1⟩
def zkc(c:Cx)(W:Wd)(n:Nat)(s:Shared)(a:Addr)(fd:FDat)(cl:List (Str×Nat))(dflt:List AV):Prop:=∃o fd',s.heap.get? a=some o∧o.data = .func fd'∧fd'.params=fd.params∧fd'.body = .stmts fd.body∧fd'.scope=fd.scope∧fd'.globals=c.G∧fd'.builtins=0∧
  (∃cd oc vs q t,fd'.code = .ref cd∧s.heap.get? cd=some oc∧oc.data = .fields vs∧vs[1]? = some (.str q t)∧
   ∀t l k,fd.tab=some (t,l,k)→t∈c.tabs∧c.tinfo t=(l,k)∧cd∉c.tabs∧c.B.TableAt cd t #[]∧c.B.IsCode cd t #[])∧
  (∃o,zmp s fd'.defaults o∧Rs (VR W n) dflt (o.getD #[]).toList)∧∀x k,cl.lookup x=some k→k<n∧fd'.closure.lookup x=some (W.pl k)
theorem ze3(H:zkc P.c W h.nx s a fd cl dflt):zcZ P.c s (.ref a):=by
 obtain ⟨o,fd',h1,h2,X⟩:=H;exact ⟨.frame, .inl rfl,(Looks.ld (part:=none) h1).andThen (by rw [h2];exact .now)⟩
theorem zgb(ho:zkj fd=true)(hR:RoomF P.c A (P.n+1) s)(R:Rel P.c W h s)(hF:zkc P.c W h.nx s a fd cl dflt)(hv:Rs (VR W h.nx) args vals)(hk:KR W h.nx kw kvals){Kb:Fr→Hp→Prop}(H:(zjV fd.params dflt args kw h fun bs h=>zaO (zaF h fd.scope cl fd.tab) bs (zb9 h fd.scope) fun h'=> .ret (zaF h fd.scope cl fd.tab) h').sem Kb){Q:Value→Shared→Prop}
  (hb:∀W' env fr h' s',Step P.c h.nx W s W' h' s'→Go P W' h' s' (A.deeper env)→FI P fr (A.deeper env) W' h'.nx env→(∃l,(A.deeper env).frames=some (env :: l))→Kb fr h'→
   wpAny (model P.c.prog P.c.w) (A.deeper env) (execs fd.body env) (fun f s'=>zjX Q E (.ok (.ret (match f with | .ret v=>v | _=> .none))) s') (fun e s'=>wpAny (model P.c.prog P.c.w) (A.deeper env) (leaving env e) (fun X s''=>E e s'') (fun e' s''=>E e' s'') s') s'):
  codeAny (model P.c.prog P.c.w) A (.call (.ref a) ⟨vals,kvals⟩) (zjX Q E) s:=by
 simp only [zkj,Bool.and_eq_true,Bool.not_eq_true',decide_eq_true_eq] at ho
 obtain ⟨⟨o1,o2⟩,o3⟩:=ho;simp only [zbQ,Bool.and_eq_true,beq_iff_eq,decide_eq_true_eq] at o3;obtain ⟨o,fd',f1,f2,f3,f4,f5,f6,f7,⟨cd,oc,vs,q,tq,c1,c2,c3,c4,c5⟩,⟨dv,d1,d2⟩,f8⟩:=hF;refine zei (P:=P) (lE (rA _ _) (Nat.lt_trans hR.depth (by decide))) f1 f2 (by rw [f5];exact o1) (by rw [f5];exact o2) f4 c1 c2 c3 c4 ?_;refine zpr f3 d1 d2 R hv hk H fun W₁ bs bv h₁ s₁ S₁ V₁ H=>?_;rw [f5,f6,f7];obtain ⟨W₂,S₂,hF,hL⟩:=zgM (cls:= "frame") (sc:=fd.scope) (clA:=fd'.closure) (cl:=cl) S₁.rel fun x t e=>(f8 x t e).imp (fun q=>lL q S₁.le.le) fun z=>z.trans (congrArg some (S₁.le.pl t (f8 x t e).1).symm);refine zol fun env henv=>?_;have F:=hF env fd.tab (by rw [henv];exact o3.1) (fun x k e=> .inl (by rw [henv];exact e)) (by rw [henv]) (by rw [henv]) (by rw [henv]) (by rw [henv]) fun t l k ht=>by
  obtain ⟨t1,t2,t3,t4,t5⟩:=c5 t l k ht;exact ⟨t1,t2,cd,by rw [henv];exact c1,t3,t4,t5⟩
 obtain ⟨fo,fo1,fo2⟩:=hL (by decide);have FF:FFC P.c (A.deeper env) {s₁ with heap:=pushCells (s₁.heap.push {cls:= .type "frame",data:= .dict #[]}) fd.scope.names}:=by
  obtain ⟨l,z1,z2⟩:=hR.frs.step (S₁.trans S₂);refine ⟨env :: l,Around.frames_deeper z1,fun e m=>?_⟩;rcases cP m with q | m
  ·rw [q]
   exact ⟨fun q=>(nomatch q.symm.trans F.kind),_,fo,by rw [henv],S₁.rel.outside (rL _),fo1,fo2⟩
  ·exact z2 e m
 have hR1:Room A.in1 P.n:=⟨hR.hand,by have:=hR.depth;show A.depth+_+_<_;exact lz2 0xe1020a1907a011800000013840828611c0a01180000041 this,by have:=hR.units;show A.units+1+_+_<_;exact lz3 0x8841902087f0108184600000000122104608284703c042046000000041 this⟩;refine zct (P:=P) (A:=A.in1) ⟨hR1,S₂.rel,(show FFC P.c A.in1 s from hR.frs).step (S₁.trans S₂)⟩ F (KR.up S₂.le V₁) H fun W₃ h₃ s₃ S₃ H=>⟨?_,codeAny_func ?_⟩
 ·exact P.S.lim.elim fun mc z=>⟨mc,zb4 z.1 fun o e=>S₃.rel.amb.base _ _ e P.S.st,z.2⟩
 ·exact hb W₃ env _ h₃ s₃ ((S₁.trans S₂).trans S₃) ⟨hR.toRoomC.deeper,S₃.rel,FF.step S₃⟩ ⟨F.up S₃.le,hR.frs.elim fun l z=>⟨env,l,Around.frames_deeper z.1,rfl⟩⟩ (hR.frs.imp fun l z=>Around.frames_deeper z.1) H
theorem zgc(B:Tbl T P.c)(ho:zkj fd=true)(hR:RoomF P.c A (P.n+1) s)(R:Rel P.c W h s)(hF:zkc P.c W h.nx s a fd cl dflt)(hv:Rs (VR W h.nx) args vals)(hk:KR W h.nx kw kvals)(H:zsV P fd cl dflt args kw h K){Q:Value→Shared→Prop}(kn:Kn P VV K W h.nx s Q):
  codeAny (model P.c.prog P.c.w) A (.call (.ref a) ⟨vals,kvals⟩) (zjX Q E) s:=by
 refine zgb (P:=P) (Kb:=fun fr h'=>(v P fr 40 (.Ss fd.body (zsW fun v h=> .en v h K)) h').sem P) ho hR R hF hv hk H fun W' env fr h' s₃ S G F X H=>?_;refine (zdG B 40 H:JSs P _ _ _ _) (A.deeper env) _ _ s₃ W' env G F fun W₄ x f h₄ s₄ S₄ V H=>?_;induction x with
 | next=>obtain rfl:f = .next:=V;exact kn (v:= .none) (S.trans S₄) rfl H
 | brk=>obtain rfl:f = .brk:=V;exact kn (v:= .none) (S.trans S₄) rfl H
 | cont=>obtain rfl:f = .cont:=V;exact kn (v:= .none) (S.trans S₄) rfl H
 | ret v=>
  obtain ⟨u,rfl,V⟩:=V;obtain ⟨W₅,v',h₅,S₅,V₅,H⟩:=zgK H S₄.rel V;exact kn ((S.trans S₄).trans S₅) V₅ H
theorem zgO(R:Rel P.c W h s){d:FDat×List AV}(e:T.defs a=some d):zkc P.c W h.nx s a d.1 [] d.2:=by
 obtain ⟨t,o,fd',q1,q2,q3,q4,q5,q6,q7,⟨cd,oc,vs,q,tq,c1,c2,c3,c4,c5,c6⟩,hd⟩:=P.S.fn a d.1 d.2 e;refine ⟨o,fd',R.amb.base _ _ q1 t,q2,q3,q4,q5,q6,q7,⟨cd,oc,vs,q,tq,c1,R.amb.base _ _ c3 c2,c4,c5,fun t l k e=>(c6 t l k e).imp id (.imp id fun z=>⟨c2,z⟩)⟩,?_,fun x k e=>no e⟩;rcases hd with ⟨d1,d2⟩ | ⟨T',o',items,n,d1,d2,d3,d4,d5⟩
 ·exact ⟨none, .inl ⟨d1,rfl⟩,d2▸ .nil⟩
 ·exact ⟨some items, .inr ⟨T',o',items,n,d1,R.amb.base _ _ d3 d2,d4,rfl⟩,d5.imp fun X X=>VR0.up⟩
theorem znf(R:Rel P.c W h s)(hr:r<h.nx)(e:(h.at_ r).clo? = some (fd,cl))(ht:fd.tab=none):zkc P.c W h.nx s (W.pl r) fd cl []:=by
 obtain ⟨ob,k1,fd',v,rfl,e1,⟨ca,oc,rfl,e2,vs,q,t,e3,e4,e5⟩,e6,e7,e8,e9,e10,e11,e12,e13⟩:=R.obj hr (AO.clo?_is e) rfl;exact ⟨_,fd',k1,rfl,e7,e8,e9,e10,e11,⟨ca,oc,vs,q,t,e1,(R.fz _ _ e2).2.1,e4,e5,fun t l k h=>no (ht▸h)⟩,⟨none, .inl ⟨e12,rfl⟩, .nil⟩,e6⟩
theorem zfh(B:Tbl T P.c){d:FDat×List AV}(e:T.defs a=some d)(ho:zkj d.1=true)(H:zsV P d.1 [] d.2 args kw h K):za3 P.up (.glob a) args kw h K:=fun A E Q s W fv vs kv hR R Vf Va Vk kn=>by
 obtain rfl:fv = .ref a:=Vf;exact ⟨ze3 (P:=P) (zgO (P:=P) R e),zgc (P:=P) B ho hR R (zgO (P:=P) R e) Va Vk H kn⟩
theorem zm1(B:Tbl T P.c)(e:(h.at_ r).clo? = some (fd,cl))(ho:zkj fd=true)(ht:fd.tab=none)(H:zsV P fd cl [] args kw h K):za3 P.up (.ref r) args kw h K:=fun A E Q s W fv vs kv hR R Vf Va Vk kn=>by
 obtain ⟨hr,rfl⟩:=Vf;exact ⟨ze3 (P:=P) (znf (P:=P) R hr e ht),zgc (P:=P) B ho hR R (znf (P:=P) R hr e ht) Va Vk H kn⟩
end
section
variable {a m:Nat}
def zt7(h:Hp)(K:AV→Hp→Prop)(v:AV)(h':Hp):Prop:=req (isNone v) (K (.ref (h.nx+1)) h')
theorem zm0(e:zaY T a [95,95,105,110,105,116,95,95]=some m)(H:za3 P (.glob m) (.ref (h.nx+1) :: args) kw ((h.new (.dict true [])).new (.inst a h.nx)) (zt7 h K)):za3 P.up (.glob a) args kw h K:=fun A E Q s W fv vals kvals hR R hf hv hk kn=>by
 obtain rfl:fv = .ref a:=hf;obtain ⟨mk,m6⟩:=P.S.make a m e;obtain ⟨m1,m2,m3,m4,m5⟩:=P.S.meth a _ m e;rw [show za0 [95,95,105,110,105,116,95,95]=("__init__" :Str) from by decide +kernel] at m1;have X:=Stat.here R;refine ⟨(looks_keep m6 X).imp fun k q=>⟨q.1.elim .inl fun e=> .inr (.inl e),q.2⟩,?_⟩;obtain ⟨hh,g,d,tk,os⟩:=s;refine make_core (makes_of X mk) (looks_findIn X m1) (fun self=>bind_fn X self m3) (.inl rfl) ?_;have S₁:Step P.c h.nx W ⟨hh,g,d,tk,os⟩ (W.put h.nx hh.objs.size) (h.new (.dict true [])) ⟨hh.push emptyDict,g,d,tk,os⟩:= .new R (a:=hh.objs.size) (.dict true []) (fun Z=>⟨_,pZ _ rfl, #[],_,rfl, .nil,List.nodup_nil,fun Z=>rfl⟩) (rL _) (R.outside (rL _)) (fun Z Z e=>pS _ e) rfl rfl;have hsz:(hh.push emptyDict).objs.size=hh.objs.size+1:=Heap.size_push ..;have S₂:Step P.c (h.nx+1) (W.put h.nx hh.objs.size) ⟨hh.push emptyDict,g,d,tk,os⟩ ((W.put h.nx hh.objs.size).put (h.nx+1) (hh.push emptyDict).objs.size) ((h.new (.dict true [])).new (.inst a h.nx)) ⟨(hh.push emptyDict).push (instObj a hh.objs.size),g,d,tk,os⟩:=
  .new S₁.rel (a:=(hh.push emptyDict).objs.size) (.inst a h.nx) (fun Z=>⟨_,pZ _ rfl,Nat.lt_succ_of_lt (sS _),congrArg (instObj a) ((za9 (Nat.ne_of_lt (sS _))).trans upd_self).symm⟩) (rL _) (S₁.rel.outside (rL _)) (fun Z Z e=>pS _ e) rfl rfl
 have S:=S₁.trans S₂;have V:VR ((W.put h.nx hh.objs.size).put (h.nx+1) (hh.push emptyDict).objs.size) (h.nx+2) (.ref (h.nx+1)) (.ref (hh.objs.size+1)):=⟨sS _,congrArg Value.ref (hsz.symm.trans upd_self.symm)⟩;have hRc:RoomF P.c (A.under (.builtin "type.__call__" ⟨.ref a :: vals,kvals⟩)) P.n ⟨(hh.push emptyDict).push (instObj a hh.objs.size),g,d,tk,os⟩:=⟨⟨hR.hand,by have:A.depth+8*(P.n+1)<900:=hR.depth;show A.depth+1+_<_;exact lz2 0xe1020a11e80611800000013840828611c0a01180000041 this,by have w2:(Code.builtin "type.__call__" ⟨.ref a :: vals,kvals⟩).cUnits=1:=rfl;have:A.units+60*(P.n+1)+70<cLine:=hR.units;show A.units+(Code.builtin "type.__call__" ⟨.ref a :: vals,kvals⟩).cUnits+_+_<_;lia⟩,(show FFC P.c (A.under (.builtin "type.__call__" ⟨.ref a :: vals,kvals⟩)) _ from hR.frs).step S⟩;refine codeAny_mono (H _ E (fun v s'=>Q (.ref (hh.objs.size+1)) s'∧v = .none) _ _ (.ref m) (.ref (hh.objs.size+1) :: vals) kvals hRc S₂.rel rfl (.cons V (VR.ups S.le hv)) (KR.up S.le hk) fun W₃ v val h₃ s₃ S₃ V₃ H=>H.go fun c H=>⟨kn (S.trans S₃) (V.up S₃.le) H,(zcH c▸V₃:VR _ _ .none val)⟩).2 fun r s' z=>?_;rcases r with e | (x | _ | _ | _) <;> first | exact z | exact z.elim | exact ⟨z.2,z.1⟩
end
section
variable {σ:List Nat} {os:List AO} {f:AV} {as:List AV} {Kc:AV→Hp→Prop} {n:Nat}
theorem zq0{vs:List Value}:∀{as:List AV},as.all (AV.bd n)=true→Rs (VR W h.nx) (as.map (AV.ren (gl σ))) vs→Rs (VR (W.comp (gl σ)) n) as vs:=fun b r=>Rs.unmap (p:=AV.bd n) (fun X X b=>VR.cm b) b r
theorem ztb{kv:List (Str×Value)}:∀{kw:List (Str×AV)},(kw.all fun e=>e.2.bd n)=true→KR W h.nx (kw.map fun e=>(e.1,e.2.ren (gl σ))) kv→KR (W.comp (gl σ)) n kw kv:=fun b r=>Rs.unmap (p:=fun e:Str×AV=>e.2.bd n) (fun X X b=> .imp_right (VR.cm b)) b r
theorem zjL(V:Vw σ h os)(b:(f.bd os.length&&as.all (AV.bd os.length)&&kw.all fun e=>e.2.bd os.length)=true)(C:za3 P f as kw (Hp.of os) Kc)(k:∀v E,Kc v E→K (v.ren (g2 h σ)) (h.patch σ E)):za3 P (f.ren (gl σ)) (as.map (AV.ren (gl σ))) (kw.map fun e=>(e.1,e.2.ren (gl σ))) h K:=fun A E Q s W fv vs kv hR R Vf Va Vk kn=>by
 obtain ⟨b,b3⟩:=aI b;obtain ⟨b1,b2⟩:=aI b;exact C A E Q s (W.comp (gl σ)) fv vs kv hR (R.view V) (VR.cm b1 Vf) (zq0 b2 Va) (ztb b3 Vk) fun W₁ v val E₁ s₁ S Vv q=>kn (.patch R V S) (VR.mp (zdR V S) Vv) (k v E₁ q)
theorem zjK{f':AV}{as':List AV}{kw':List (Str×AV)}(V:Vw σ h os)(C:za3 P f as kw (Hp.of os) Kc)(b:(f.bd os.length&&as.all (AV.bd os.length)&&kw.all fun e=>e.2.bd os.length)=true)(e1:f'=f.ren (gl σ))(e2:as'=as.map (AV.ren (gl σ)))(e3:kw'=kw.map fun e=>(e.1,e.2.ren (gl σ)))
  (k:∀v E,Kc v E→K (v.ren (g2 h σ)) (h.patch σ E)):za3 P f' as' kw' h K:=by subst e1 e2 e3;exact zjL V b C k
inductive EndK(n:Nat)(K:AV→Hp→Prop)(v:AV)(h':Hp):Prop
 | mk (σ:List Nat) (os:List AO) (v':AV) (e:σ.map h'.at_=os.map (AO.ren (gl σ))) (b1:(os.all (AO.bd os.length)&&os.all (fun o=>(o.ren id).live)&&nd σ&&σ.all fun k=>Nat.blt k h'.nx)=true) (b:((List.range n).all (fun j=>Nat.beq (gl σ j) j)&&Nat.ble n os.length&&v'.bd os.length)=true) (ev:v=v'.ren (gl σ)) (H:K v' (Hp.of os))
theorem zh2(C:za3 P f as kw h (EndK h.nx K)):za3 P f as kw h K:=fun A E Q s W fv vs kv hR R Vf Va Vk kn=>C A E Q s W fv vs kv hR R Vf Va Vk fun W' v val h' s' S Vv q=>by
 obtain ⟨σ,os,v',e,b1,b,rfl,q⟩:=q;have V:Vw σ h' os:=⟨e,b1⟩;obtain ⟨b,b3⟩:=aI b;exact kn (S.view V b) (VR.cm b3 Vv) q
theorem AV.ren0{g:Nat→Nat}{x:AV}(b:x.bd 0=true):x.ren g=x:=by
 induction x with
 | ref k=>exact absurd (blt b) (Nat.not_lt_zero _)
 | _=>rfl
theorem AV.rens0{g:Nat→Nat}:∀{as:List AV},as.all (AV.bd 0)=true→as.map (AV.ren g)=as
 | [],_=>rfl
 | _ :: _,b=>by rw [mC,AV.ren0 (aI b).1,AV.rens0 (aI b).2]
theorem Wk.patch0:Wk (h.patch [] (Hp.of [])) h:=⟨rL _,fun k q l=>by
 have e:(h.patch [] (Hp.of [])).at_ k=h.at_ k:=by unfold Hp.patch;simp only [zhQ q,cond_true];rfl
 rw [e];exact ⟨l,fun X X X=>id⟩⟩
theorem VR.bd0{m:Nat}{x:AV}{v:Value}(b:x.bd 0=true)(h:VR W n x v):VR W m x v:=by
 induction x with
 | ref k=>exact absurd (blt b) (Nat.not_lt_zero _)
 | _=>exact h
theorem zjJ{r:AV}(b:(f.bd 0&&as.all (AV.bd 0)&&r.bd 0)=true)(C:za3 P f as [] (Hp.of []) fun v X=>v=r)(k:K r h):za3 P f as [] h K:=fun A E Q s W fv vs kv hR R Vf Va Vk kn=>by
 obtain ⟨b,b3⟩:=aI b;obtain ⟨b1,b2⟩:=aI b;have V:Vw [] h []:=⟨rfl,rfl⟩;exact C A E Q s (W.comp (gl [])) fv vs kv hR (R.view V) (VR.cm b1 (by rw [AV.ren0 b1];exact Vf)) (zq0 b2 (by rw [AV.rens0 b2];exact Va)) (by cases Vk;exact .nil) fun W₁ v val E₁ s₁ S Vv q=>by
  subst q;exact kn ((Step.patch R V (S.wk (h':=Hp.of []) (.cut rfl rfl) (rL _))).wk .patch0 (rL _)) (VR.bd0 b3 (AV.ren0 b3▸VR.mp (zdR V S) Vv)) k
end
end Mn
end
section
open PySem PySem.W
namespace Mn
section
variable {T:Tabs} {P:PM T} {fr:Fr} {t:Expr} {ifs:List Expr} {inner:Hp→(Hp→Prop)→Prop} {it:Nat} {h:Hp} {K:Hp→Prop}
theorem GJ.of{xs:List AV}{In:Nat→Hp→Prop}{adv:Nat→Hp→Hp}{fin:Hp→Hp}(mono:∀h (K K':Hp→Prop),(∀h,K h→K' h)→inner h K→inner h K')(D:Iter P t it xs In adv fin)(I:Nat→Hp→Prop)(h0:I 0 h)(hl:∀k h,I k h→it<h.nx∧In k h)
  (hb:∀k x h',xs[k]? = some x→I k h'→JA' P fr t x (adv k h') fun X h'=>zpC P fr ifs h' fun ok h'=>Br ok (inner h' (On1 I h.nx k)) (On1 I h.nx k h')) (he:∀h,I xs.length h→K (fin h)):GJ P fr t ifs inner it h K:=by
 refine ⟨fun m h'=>∃k,k+m=xs.length∧I k h',xs.length,⟨0,Nat.zero_add _,h0⟩,fun m h' z=>z.elim fun k z=>⟨(hl k h' z.2).1,?_⟩⟩;induction m using Nat.casesOn with
 | zero=>obtain rfl:k=xs.length:=z.1;exact D.stop _ _ (hl _ _ z.2).2 (he _ z.2)
 | succ m=>
  have hk:k<xs.length:=lz3 0x8846000048847006000041 (lzq z.1);have i:∀h'',On1 I h.nx k h''→On (fun m h'=>∃k,k+m=xs.length∧I k h') h.nx (m+1) h'':=fun h ⟨h',a,b,c⟩=>⟨h',m,a,b,sS _,k+1,by lia,c⟩;exact D.step k _ _ _ (gG hk) (hl _ _ z.2).2 ((hb k _ h' (gG hk) z.2).mono fun X X H=>J.mono H fun ok h H=>H.go (fun e H=> .t e (mono _ _ _ i H)) fun e H=> .f e (i _ H))
theorem zk5{a:Nat}{v:AV}{h:Hp}{K K':Hp→Prop}(i:∀h,K h→K' h)(H:ztM a v h K):ztM a v h K':=by
 have key:∀(v:AV) (h:Hp),(opt (h.at_ a).list? fun q=>Rq (Nat.ble q.2.length.succ sizeL&&(q.1 || tf v)) (K (h.set a (.list q.1 (q.2 ++ [v])))))→(opt (h.at_ a).list? fun q=>Rq (Nat.ble q.2.length.succ sizeL&&(q.1 || tf v)) (K' (h.set a (.list q.1 (q.2 ++ [v]))))):=fun v h H=>H.go fun q e H=>zcb e (H.go fun c H=> .t c (i _ H));exact H.casesOn (fun H=> .as (key _ _ H)) fun k xs e1 e2 H=> .fz k xs e1 e2 (key _ _ H)
theorem zhJ{elt:Expr}{a:Nat}(h:Hp)(K K':Hp→Prop)(i:∀h,K h→K' h)(H:zjo P elt fr a h K):zjo P elt fr a h K':=J.mono H fun X X H=>zk5 i H
end
namespace Tr
variable {β:Type}
noncomputable def run(t:Tr β):Tr β:=Tr.rec (motive:=fun X=>Tr β) .ret .no (fun b X q=>Bool.casesOn (motive:=fun X=>Tr β) b .no q) (fun b X X q r=>Bool.casesOn (motive:=fun X=>Tr β) b r q) (fun o X q=>Option.casesOn (motive:=fun X=>Tr β) o .no q) (fun o X X q r=>Option.casesOn (motive:=fun X=>Tr β) o r q) (fun b t X=> .Rq b t) (fun b t e X X=> .Br b t e) (fun d o k X=> .Op d o k) (fun d o k n X X=> .Al d o k n) (fun x b k X=> .rs x b k) (fun d f xs k X=> .mp d f xs k) (fun xs ys k X=> .eq xs ys k) t
def eqU(xs ys:List AV)(u:U):Prop:=U.casesOn (motive:=fun X=>Prop) u False (fun r=>zsi xs ys r) (fun X=>False) (fun X=>False) (fun X=>False) (fun X=>False) (fun X=>False) (fun X X=>False) (fun X X=>False) (fun X=>False) (fun X=>False) (fun X=>False) (Nat.beq xs.length ys.length=false) (fun a b=>xs=a.map .str∧ys=b.map .str∧(∀s∈a,zaS s)∧∀s∈b,zaS s) fun a b=>xs=a.map .int∧ys=b.map .int
noncomputable def eqV(u:U):Bool:=U.casesOn (motive:=fun X=>Bool) u false (fun r=>r) (fun X=>false) (fun X=>false) (fun X=>false) (fun X=>false) (fun X=>false) (fun X X=>false) (fun X X=>false) (fun X=>false) (fun X=>false) (fun X=>false) false (fun a b=>a==b) fun a b=>a==b
def oC{α:Type}(o:Option α)(k:α→Prop):Prop:=Option.casesOn (motive:=fun X=>Prop) o False k
noncomputable def oN{α:Type}(o:Option α)(k:α→Tr β)(n:Tr β):Tr β:=Option.casesOn (motive:=fun X=>Tr β) o n k
def cn(t:Tr β)(u:U):Prop:=Tr.casesOn (motive:=fun X=>Prop) t (fun X X=>False) False (fun X X=>False) (fun X X X=>False) (fun X X=>False) (fun X X X=>False) (fun b X=>b=true) (fun b X X=>oC u.b? fun i=>b=i) (fun d o X=>oC (d u) fun a=>o=some a) (fun d o X X=>o=d u) (fun x b X=>oC u.i? fun y=>x=y∧b=true) (fun d f xs X=>oC (d u) fun is=>xs=is.map f) fun xs ys X=>eqU xs ys u
def nx(t:Tr β)(u:U):Tr β:=Tr.casesOn (motive:=fun X=>Tr β) t (fun X X=> .no) .no (fun X X=> .no) (fun X X X=> .no) (fun X X=> .no) (fun X X X=> .no) (fun X t=>t) (fun X t e=>oN u.b? (fun i=>cond i t e) .no) (fun d X k=>oN (d u) k .no) (fun d X k n=>oN (d u) k n) (fun X X k=>oN u.i? k .no) (fun d X X k=>oN (d u) k .no) fun X X k=>k (eqV u)
theorem oC.go{α:Type}{o:Option α}{k:α→Prop}{j:α→Tr β}{K:β→Hp→Prop}{G:Prop}(e:oC o k)(H:(oN o j .no).sem K)(f:∀a,k a→(j a).sem K→G):G:=by
 induction o with
 | none=>exact e.elim
 | some a=>exact f a e H
theorem st{K:β→Hp→Prop}{t:Tr β}(u:U)(e:t.cn u)(H:(t.nx u).sem K):t.sem K:=by
 induction t using Tr.casesOn with
 | Rq=>exact .t e H
 | Br=>
  exact oC.go e H fun i e H=>by
   induction i with
   | true=>exact .t e H
   | false=>exact .f e H
 | Op=>exact oC.go e H fun a e H=> .s a e H
 | Al d o k n=>
  have H:(oN (d u) k n).sem K:=H;rw [←(show o=d u from e)] at H;induction o with
  | none=>exact .n rfl H
  | some a=>exact .s a rfl H
 | rs=>exact oC.go e H fun y e H=> .mk y e.1 e.2 H
 | mp=>exact oC.go e H fun is e H=> .mk is e H
 | eq=>induction u with
  | len=>exact .len e H
  | txt a b=>exact .strs a b e.1 e.2.1 e.2.2.1 e.2.2.2 H
  | num a b=>exact .ints a b e.1 e.2 H
  | b r=>exact .dat r e H
  | _=>exact False.elim e
 | _=>exact False.elim e
theorem run_ok{K:β→Hp→Prop}(t:Tr β)(H:t.run.sem K):t.sem K:=by
 induction t with
 | rq b t ih=>induction b with
  | false=>exact H
  | true=>exact ih H
 | bs b t e i1 i2=>induction b with
  | false=>exact i2 H
  | true=>exact i1 H
 | os o k ih=>induction o with
  | none=>exact H
  | some a=>exact ih a H
 | al o k n i1 i2=>induction o with
  | none=>exact i2 H
  | some a=>exact i1 a H
 | _=>exact H
end Tr
namespace Wt
noncomputable def nf(w:Wt):Wt:=Wt.rec (motive:=fun X=>Wt) .lf .en (fun t k q=>Tr.casesOn (motive:=fun X=>Wt) t.run q (.pu .no k) (fun X X=> .pu .no k) (fun X X X=> .pu .no k) (fun X X=> .pu .no k) (fun X X X=> .pu .no k) (fun b t=> .pu (.Rq b t) k) (fun b t e=> .pu (.Br b t e) k) (fun d o k'=> .pu (.Op d o k') k) (fun d o k' n=> .pu (.Al d o k' n) k) (fun x b k'=> .pu (.rs x b k') k) (fun d f xs k'=> .pu (.mp d f xs k') k) fun xs ys k'=> .pu (.eq xs ys k') k) (fun v h k X=> .fz v h k) (fun f as kw h k X=> .cl f as kw h k) (fun fr t ifs rest em it h k X=> .gj fr t ifs rest em it h k) (fun wl fr t b it h k X=> .fj wl fr t b it h k) w
noncomputable def cs{γ:Sort _}(w:Wt)(d:γ)(en:AV→Hp→(AV→Hp→Prop)→γ)(fz:AV→Hp→(AV→Hp→Wt)→γ)(cl:AV→List AV→List (Str×AV)→Hp→(AV→Hp→Wt)→γ)(gj:Fr→Expr→List Expr→List Comprehension→Em→Nat→Hp→(Hp→Wt)→γ)(fj:Bool→Fr→Expr→List Stmt→Nat→Hp→(Fl→Hp→Wt)→γ):γ:=Wt.casesOn (motive:=fun X=>γ) w.nf (fun X=>d) en (fun X X=>d) fz cl gj fj
def cn(w:Wt)(u:U):Prop:=Wt.casesOn (motive:=fun X=>Prop) w.nf (fun X=>False) (fun X X X=>False) (fun t X=>t.cn u) (fun X X X=>False) (fun X X X X X=>False) (fun X X X X X X X X=>False) fun X X X X X X X=>False
noncomputable def nx(w:Wt)(u:U):Wt:=Wt.casesOn (motive:=fun X=>Wt) w.nf (fun X=> .lf False) (fun X X X=> .lf False) (fun t k=> .pu (t.nx u) k) (fun X X X=> .lf False) (fun X X X X X=> .lf False) (fun X X X X X X X X=> .lf False) fun X X X X X X X=> .lf False
noncomputable def hp(w:Wt):Hp:=w.cs ⟨0,fun X=> .other⟩ (fun X h X=>h) (fun X h X=>h) (fun X X X h X=>h) (fun X X X X X X h X=>h) fun X X X X X h X=>h
noncomputable def vf(w:Wt):AV:=w.cs .none (fun v X X=>v) (fun v X X=>v) (fun X X X X X=> .none) (fun X X X X X X X X=> .none) fun X X X X X X X=> .none
noncomputable def kz(w:Wt):AV→Hp→Wt:=w.cs (fun X X=> .lf False) (fun X X X X X=> .lf False) (fun X X k=>k) (fun X X X X X X X=> .lf False) (fun X X X X X X X X X X=> .lf False) fun X X X X X X X X X=> .lf False
noncomputable def kc(w:Wt):AV→Hp→Wt:=w.cs (fun X X=> .lf False) (fun X X X X X=> .lf False) (fun X X X X X=> .lf False) (fun X X X X k=>k) (fun X X X X X X X X X X=> .lf False) fun X X X X X X X X X=> .lf False
noncomputable def clA(w:Wt):Option (AV×List AV×List (Str×AV)):=w.cs none (fun X X X=>none) (fun X X X=>none) (fun f as kw X X=>some (f,as,kw)) (fun X X X X X X X X=>none) fun X X X X X X X=>none
def lq(w:Wt):AV→Hp→Prop:=w.cs (fun X X=>False) (fun X X p=>p) (fun X X X X X=>False) (fun X X X X X X X=>False) (fun X X X X X X X X X X=>False) fun X X X X X X X X X=>False
def lp(w:Wt):Prop:=Wt.casesOn (motive:=fun X=>Prop) w.nf (fun p=>p) (fun X X X=>False) (fun X X=>False) (fun X X X=>False) (fun X X X X X=>False) (fun X X X X X X X X=>False) fun X X X X X X X=>False
section
variable {T:Tabs} {P:PM T}
theorem nf_ok(w:Wt)(H:w.nf.sem P):w.sem P:=by
 induction w with
 | pu t k ih=>
  refine t.run_ok ?_;have H:(Tr.casesOn (motive:=fun X=>Wt) t.run (fun a h=>(k a h).nf) (.pu .no k) (fun X X=> .pu .no k) (fun X X X=> .pu .no k) (fun X X=> .pu .no k) (fun X X X=> .pu .no k) (fun b t=> .pu (.Rq b t) k) (fun b t e=> .pu (.Br b t e) k) (fun d o k'=> .pu (.Op d o k') k) (fun d o k' n=> .pu (.Al d o k' n) k) (fun x b k'=> .pu (.rs x b k') k) (fun d f xs k'=> .pu (.mp d f xs k') k) fun xs ys k'=> .pu (.eq xs ys k') k:Wt).sem P:=H;revert H;induction t.run using Tr.casesOn with
  | ret a h=>exact ih a h
  | no | rq | bs | os | al=>exact False.elim
  | _=>exact id
 | _=>exact H
variable {w:Wt}
theorem st0(u:U)(e:w.cn u)(H:(w.nx u).sem P):w.nf.sem P:=by
 revert e H;unfold cn nx;induction w.nf using Wt.casesOn with
 | pu t k=>exact t.st u
 | _=>exact fun e X=>False.elim e
theorem asIs0(H:(w.kz w.vf w.hp).sem P):w.nf.sem P:=by
 revert H;unfold kz vf hp cs;induction w.nf using Wt.casesOn with
 | fz v h k=>exact fun H=>(frz.as H:frz v h fun a h=>(k a h).sem P)
 | _=>exact False.elim
theorem froz0(k:Nat)(xs:List SV)(H:(w.kz (.lst xs) (w.hp.set k .other)).sem P)(e:w.vf = .ref k)(e2:w.hp.at_ k = .list false (xs.map SV.av)):w.nf.sem P:=by
 revert H e e2;unfold kz vf hp cs;induction w.nf using Wt.casesOn with
 | fz v h k'=>exact fun H e e2=>(frz.fz k xs e e2 H:frz v h fun a h=>(k' a h).sem P)
 | _=>exact fun H=>False.elim H
theorem fin0(H:w.lq w.vf w.hp):w.nf.sem P:=by
 revert H;unfold lq vf hp cs;induction w.nf using Wt.casesOn with
 | en v h p=>exact id
 | _=>exact False.elim
theorem leaf0(H:w.lp):w.nf.sem P:=by
 revert H;unfold lp;induction w.nf using Wt.casesOn with
 | lf p=>exact id
 | _=>exact False.elim
theorem call0{f:AV}{as:List AV}{kw:List (Str×AV)}(e:w.clA=some (f,as,kw))(C:za3 P f as kw w.hp fun v h=>(w.kc v h).sem P):w.nf.sem P:=by
 revert e C;unfold clA kc hp cs;induction w.nf using Wt.casesOn with
 | cl f' as' kw' h k=>exact fun e C=>by obtain ⟨rfl,rfl,rfl⟩:=sI e;exact C
 | _=>exact fun e=>no e
noncomputable def nz(w:Wt):Wt:=w.kz w.vf w.hp
noncomputable def nl(w:Wt)(k:Nat)(xs:List SV):Wt:=w.kz (.lst xs) (w.hp.set k .other)
noncomputable def nc(w:Wt)(r:AV):Wt:=w.kc r w.hp
def nh(w:Wt)(σ:List Nat)(r:AV)(E:Hp):Wt:=w.kc (r.ren (g2 w.hp σ)) (w.hp.patch σ E)
end
end Wt
structure Sm{T:Tabs}(P:PM T)(w:Wt):Prop where
 go:w.nf.sem P
namespace Sm
variable {T:Tabs} {P:PM T} {w:Wt}
theorem sem(H:Sm P w):w.sem P:=w.nf_ok H.go
theorem st(u:U){p:Prop}(e:p)(H:Sm P (w.nx u))(q:autoParam (w.cn u=p) kr1):Sm P w:=⟨Wt.st0 u (q▸e) H.sem⟩
theorem tt(H:Sm P (w.nx (.b true)))(q:autoParam ((true=true)=w.cn (.b true)) kr1):Sm P w:=st _ rfl H q.symm
theorem ff(H:Sm P (w.nx (.b false)))(q:autoParam ((false=false)=w.cn (.b false)) kr1):Sm P w:=st _ rfl H q.symm
theorem ok(H:Sm P (w.nx .o))(q:autoParam ((true=true)=w.cn .o) kr1):Sm P w:=st _ rfl H q.symm
theorem rf(u:U){α:Sort _}(x:α)(H:Sm P (w.nx u))(q:autoParam (w.cn u=(x=x)) kr1):Sm P w:=st u rfl H q
theorem num(y:Int)(H:Sm P (w.nx (.i y)))(q:autoParam ((y=y∧true=true)=w.cn (.i y)) kr1):Sm P w:=st _ ⟨rfl,rfl⟩ H q.symm
theorem asIs(H:Sm P w.nz):Sm P w:=⟨Wt.asIs0 H.sem⟩
theorem froz(k:Nat)(xs:List SV)(H:Sm P (w.nl k xs))(e:autoParam (w.vf = .ref k) kr1)(e2:autoParam (w.hp.at_ k = .list false (xs.map SV.av)) kr1):Sm P w:=⟨Wt.froz0 k xs H.sem e e2⟩
theorem fin{p:Prop}(e:p)(q:autoParam (w.lq w.vf w.hp=p) kr1):Sm P w:=⟨Wt.fin0 (q▸e)⟩
theorem leaf{p:Prop}(e:p)(q:autoParam (w.lp=p) kr1):Sm P w:=⟨Wt.leaf0 (q▸e)⟩
theorem callP{f r:AV}{as:List AV}{kw:List (Str×AV)}(C:∀{h:Hp} {K:AV→Hp→Prop},K r h→za3 P f as kw h K)(H:Sm P (w.nc r))(e:autoParam (w.clA=some (f,as,kw)) kr1):Sm P w:=⟨Wt.call0 e (C H.sem)⟩
theorem ztz{f:AV}{as:List AV}{kw:List (Str×AV)}{os:List AO}{Kc:AV→Hp→Prop}(C:za3 P f as kw (Hp.of os) Kc)(σ:List Nat)(H:∀v E,Kc v E→Sm P (w.nh σ v E))(e:autoParam (w.clA=some (f.ren (gl σ),as.map (AV.ren (gl σ)),kw.map fun e=>(e.1,e.2.ren (gl σ)))) kr1)(e1:autoParam (σ.map w.hp.at_=os.map (AO.ren (gl σ))) kr1)
  (b:autoParam (((os.all (AO.bd os.length)&&os.all (fun o=>(o.ren id).live)&&nd σ&&σ.all fun k=>Nat.blt k w.hp.nx)&&(f.bd os.length&&as.all (AV.bd os.length)&&kw.all fun e=>e.2.bd os.length))=true) kr1):Sm P w:=
 ⟨Wt.call0 e (zjL ⟨e1,(aI b).1⟩ (aI b).2 C fun v E q=>(H v E q).sem)⟩
end Sm
theorem Tr.mono{β:Type}{K K':β→Hp→Prop}(i:∀a h,K a h→K' a h)(t:Tr β)(H:t.sem K):t.sem K':=by
 induction t with
 | ret a h=>exact i _ _ H
 | no=>exact H
 | rq b t ih=>exact req.go H fun e H=>zo3 e (ih H)
 | bs b t e i1 i2=>exact br.go H (fun e H=>br_t e (i1 H)) fun e H=>br_f e (i2 H)
 | os o k ih=>exact opt.go H fun a e H=>zcb e (ih a H)
 | al o k n i1 i2=>
  induction o with
  | none=>exact i2 H
  | some a=>exact i1 a H
 | Rq b t ih=>exact Rq.go H fun e H=> .t e (ih H)
 | Br b t e i1 i2=>exact Br.go H (fun e H=> .t e (i1 H)) fun e H=> .f e (i2 H)
 | Op d o k ih=>exact Op.go H fun a e H=> .s a e (ih a H)
 | Al d o k n i1 i2=>exact Al.go H (fun a e H=> .s a e (i1 a H)) fun e H=> .n e (i2 H)
 | rs x b k ih=>exact res.casesOn H fun y e c H=> .mk y e c (ih y H)
 | mp d f xs k ih=>exact mapK.casesOn H fun is e H=> .mk is e (ih is H)
 | eq xs ys k ih=>exact eqL.casesOn H (fun e H=> .len e (ih _ H)) (fun a b ea eb ca cb H=> .strs a b ea eb ca cb (ih _ H)) (fun a b ea eb H=> .ints a b ea eb (ih _ H)) fun r q H=> .dat r q (ih _ H)
section
variable {T:Tabs} {P:PM T} {fr:Fr} {t:Expr} {ifs:List Expr} {inner:Hp→(Hp→Prop)→Prop} {it a k:Nat} {h g:Hp} {xs:List AV} {In:Nat→Hp→Prop} {adv:Nat→Hp→Hp} {fin:Hp→Hp} {b:List Stmt} {em:Em}
theorem JN.wk{K:Option AV→Hp→Prop}(w:Wk h g)(e:g.nx=h.nx)(H:JN P t it g K):JN P t it h K:=fun A E Q s W G hr k1 k2=>H A E Q s W ⟨G.room,G.rel.wk w,G.frs⟩ (e▸hr) (e.symm▸k1) (e.symm▸k2)
theorem JN.mono{K K':Option AV→Hp→Prop}(H:JN P t it h K)(i:∀o h,K o h→K' o h):JN P t it h K':=fun A E Q s W G hr k1 k2=>H A E Q s W G hr (fun W' h' s' S q=>k1 W' h' s' S (i _ _ q)) fun v s' z=>k2 v s' (wM z (fun X X z=>z.imp fun X=> .imp fun x=> .imp fun X=> .imp_right (.imp_right (i _ _))) fun X X q=>q)
theorem GJ.mono{K K':Hp→Prop}(i:∀h,K h→K' h)(H:GJ P fr t ifs inner it h K):GJ P fr t ifs inner it h K':=H.go.elim fun I H=>H.elim fun k H=>⟨I,k,H.1,fun k h' z=>⟨(H.2 k h' z).1,JN.mono (H.2 k h' z).2 fun o h q=>by
 induction o with
 | none=>exact i _ q
 | some x=>exact q⟩⟩
theorem zeZ:∀(rest:List Comprehension) (h:Hp) (K K':Hp→Prop),(∀h,K h→K' h)→zfN P fr (emP P fr em) rest h K→zfN P fr (emP P fr em) rest h K'
 | [],h,K,K',i,H=>by
  induction em with
  | L elt a=>exact zhJ h K K' i H
 | g :: r,h,K,K',i,H=>J.mono H fun X X H=>Tr.mono (fun X X H=>opt.go H fun a e H=>zcb e (req.go H fun e H=>zo3 e (H.mono i))) _ H
def Ld(I:Nat→Hp→Prop)(k:Nat)(h:Hp):Prop:=∃g,Wk h g∧g.nx=h.nx∧I k g
theorem Ld.on{I:Nat→Hp→Prop}{a₁:Hp}(e:g.nx=h.nx)(H:On I g.nx k a₁):On (Ld I) h.nx k a₁:=⟨H.go.imp fun h'=> .imp fun j z=>⟨z.1,e▸z.2.1,z.2.2.1,h', .refl,rfl,z.2.2.2⟩⟩
theorem GJ.start{K:Hp→Prop}(mono:∀h (K K':Hp→Prop),(∀h,K h→K' h)→inner h K→inner h K')(w:Wk h g)(e:g.nx=h.nx)(H:GJ P fr t ifs inner it g K):GJ P fr t ifs inner it h K:=H.go.elim fun I H=>H.elim fun k H=>⟨Ld I,k,⟨g,w,e,H.1⟩,fun k h' z=>z.elim fun g' z=>⟨z.2.1▸(H.2 k g' z.2.2).1, .wk z.1 z.2.1 (JN.mono (H.2 k g' z.2.2).2 fun o h' q=>by
 induction o with
 | none=>exact q
 | some x=>exact J.mono q fun X X q=>J.mono q fun ok X q=>q.go (fun c q=> .t c (mono _ _ _ (fun X=>Ld.on e) q)) fun c q=> .f c (Ld.on e q))⟩⟩
theorem ForJ.start{K:Fl→Hp→Prop}(w:Wk h g)(e:g.nx=h.nx)(H:ForJ P fr t b it g K):ForJ P fr t b it h K:=H.go.elim fun I H=>H.elim fun k H=>⟨Ld I,k,⟨g,w,e,H.1⟩,fun k h' z=>z.elim fun g' z=>⟨z.2.1▸(H.2 k g' z.2.2).1, .wk z.1 z.2.1 (JN.mono (H.2 k g' z.2.2).2 fun o h' q=>by
 induction o with
 | none=>exact q
 | some x=>exact J.mono q fun X X q=>J.mono q fun X X q=>zeu (fun X=>Ld.on e) q)⟩⟩
end
section
variable {T:Tabs} (P:PM T)
def emW(fr:Fr)(em:Em)(N:Hp→Prop)(h:Hp):Wt:=Em.casesOn (motive:=fun X=>Wt) em fun elt a=>v P fr 40 (.E elt fun u h=> .fz u h fun u h=> .pu (zuB a u h) fun X h=> .en .none h fun X=>N) h
def zuf(fr:Fr)(em:Em)(rest:List Comprehension)(N:Hp→Prop)(h:Hp):Wt:=List.casesOn (motive:=fun X=>Wt) rest (emW P fr em N h) fun g r=>v P fr 40 (.E g.iter fun x h=> .pu (zlt x h) fun u h=>osW u.ref? h fun it=>rqW (zoM (h.at_ it)) h (.gj fr g.target g.ifs r em it h fun h=> .en .none h fun X=>N)) h
def zsu(fr:Fr)(t:Expr)(ifs:List Expr)(rest:List Comprehension)(em:Em)(N:Hp→Prop)(x:AV)(h:Hp):Wt:=v P fr 40 (.A t x fun X h=>v P fr 40 (.L ifs fun ok h=>cond ok (zuf P fr em rest N h) (.en .none h fun X=>N)) h) h
noncomputable def zd2(N:Hp→Prop)(K:Fl→Hp→Wt)(x:Fl)(h:Hp):Wt:=Fl.casesOn (motive:=fun X=>Wt) x (.en .none h fun X=>N) (K .next h) (.en .none h fun X=>N) fun v=>K (.ret v) h
def zst(fr:Fr)(t:Expr)(b:List Stmt)(N:Hp→Prop)(K:Fl→Hp→Wt)(h:Hp):Wt:=v P fr 40 (.T t fun c h=>BrW c h (v P fr 40 (.Ss b (zd2 N K)) h) (K .next h)) h
def zsv(fr:Fr)(t:Expr)(b:List Stmt)(N:Hp→Prop)(K:Fl→Hp→Wt)(x:AV)(h:Hp):Wt:=v P fr 40 (.A t x fun X h=>v P fr 40 (.Ss b (zd2 N K)) h) h
end
def Iv{ι:Type}(H:ι→Nat→Hp)(R:ι→Nat→Prop)(k:Nat)(h:Hp):Prop:=∃i,R i k∧h=H i k
namespace Wt
noncomputable def git(w:Wt):Nat:=w.cs 0 (fun X X X=>0) (fun X X X=>0) (fun X X X X X=>0) (fun X X X X X it X X=>it) fun X X X X it X X=>it
noncomputable def gt(w:Wt):Expr:=w.cs default (fun X X X=>default) (fun X X X=>default) (fun X X X X X=>default) (fun X t X X X X X X=>t) fun X X t X X X X=>t
noncomputable def isG(w:Wt):Bool:=w.cs false (fun X X X=>false) (fun X X X=>false) (fun X X X X X=>false) (fun X X X X X X X X=>true) fun wl X X X X X X=>!wl
noncomputable def isF(wl:Bool)(w:Wt):Bool:=w.cs false (fun X X X=>false) (fun X X X=>false) (fun X X X X X=>false) (fun X X X X X X X X=>false) fun wl' X X X X X X=>wl==wl'
def tw{T:Tabs}(P:PM T)(w:Wt)(N:Hp→Prop)(x:AV)(h:Hp):Wt:=w.cs (.lf False) (fun X X X=> .lf False) (fun X X X=> .lf False) (fun X X X X X=> .lf False) (fun fr t ifs rest em X X X=>zsu P fr t ifs rest em N x h) fun wl fr t b X X k=>cond wl (zst P fr t b N k h) (zsv P fr t b N k x h)
noncomputable def kf(w:Wt):Fl→Hp→Wt:=w.cs (fun X X=> .lf False) (fun X X X X X=> .lf False) (fun X X X X X=> .lf False) (fun X X X X X X X=> .lf False) (fun X X X X X X X X X X=> .lf False) fun X X X X X X k=>k
noncomputable def kh(w:Wt)(h:Hp):Wt:=w.cs (.lf False) (fun X X X=> .lf False) (fun X X X=> .lf False) (fun X X X X X=> .lf False) (fun X X X X X X X k=>k h) fun X X X X X X k=>k .next h
section
variable {T:Tabs} {P:PM T} {w:Wt} {xs:List AV} {In:Nat→Hp→Prop} {adv:Nat→Hp→Hp} {fin:Hp→Hp} {ι α:Type} {fr:Fr} {em:Em} {rest:List Comprehension} {N:Hp→Prop} {h:Hp} {k n:Nat} {H:ι→Nat→Hp} {R:ι→Nat→Prop}
theorem zrc(B:Tbl T P.c)(Q:(emW P fr em N h).sem P):emP P fr em h N:=by
 induction em with
 | L elt a=>exact zdG B 40 (fr:=fr) (c:= .E elt _) (h:=h) Q
theorem zoX(B:Tbl T P.c)(Q:(zuf P fr em rest N h).sem P):zfN P fr (emP P fr em) rest h N:=by
 induction rest using cL with
 | nil=>exact zrc B Q
 | cons g r=>exact zdG B 40 (fr:=fr) (c:= .E g.iter _) (h:=h) Q
theorem loop0(B:Tbl T P.c)(n:Nat)(D:Iter P w.gt w.git xs In adv fin)(H:ι→Nat→Hp)(R:ι→Nat→Prop)(i0:ι)(wk:Wk w.hp (H i0 0))(h0:R i0 0)(hl:∀i k,R i k→Nat.blt w.git (H i k).nx=true∧In k (H i k))
  (hb:∀i k x,xs[k]? = some x→R i k→(w.tw P (On1 (Iv H R) n k) x (adv k (H i k))).sem P) (he:∀i,R i xs.length→(w.kh (fin (H i xs.length))).sem P) (g0:autoParam ((w.isG,(H i0 0).nx,w.hp.nx)=(true,n,n)) kr1):w.nf.sem P:=by
 obtain ⟨g1,en,e⟩:w.isG=true∧(H i0 0).nx=n∧(H i0 0).nx=w.hp.nx:=⟨congrArg (·.1) g0,congrArg (·.2.1) g0,(congrArg (·.2.1) g0).trans (congrArg (·.2.2) g0).symm⟩;clear g0;subst en;revert D;revert wk;revert hl;revert hb;revert he;revert g1;revert e;unfold isG gt git hp tw kh cs;induction w.nf using Wt.casesOn with
 | gj fr t ifs rest em it h K=>exact fun e g1 he hb hl wk D=>GJ.start (zeZ rest) wk e (.of (zeZ rest) D (Iv H R) ⟨i0,h0,rfl⟩ (fun k h ⟨i,r,e⟩=>e▸(hl i k r).imp blt id) (fun k x h' ex ⟨i,r,e⟩=>e▸J.mono (zdG B 40 (hb i k x ex r):JA' ..) fun X X q=>J.mono (zdG B 40 q:zpC ..) fun ok X q=>by
   induction ok with
   | true=>exact .t rfl (zoX B q)
   | false=>exact .f rfl q) fun h ⟨i,r,e⟩=>e▸he i r)
 | fj wl fr t b it h K=>
  induction wl with
  | true=>exact fun X g1=>nb g1
  | false=>
  exact fun e g1 he hb hl wk D=>ForJ.start wk e (.of D (Iv H R) ⟨i0,h0,rfl⟩ (fun k h ⟨i,r,e⟩=>e▸(hl i k r).imp blt id) (fun k x h' ex ⟨i,r,e⟩=>e▸J.mono (zdG B 40 (fr:=fr) (c:= .A t x fun X h=>v P fr 40 (.Ss b (zd2 _ K)) h) (hb i k x ex r):JA' ..) fun X X q=>J.mono (zdG B 40 q:JSs ..) fun x X q=>by
   induction x with
   | _=>exact q) fun h ⟨i,r,e⟩=>e▸he i r)
 | _=>exact fun X g1=>nb g1
end
end Wt
theorem zox{α β:Type}{f:α→β}{z:List α}{x:β}{k:Nat}(e:(z.map f)[k]? = some x):∃c,z[k]? = some c∧x=f c:=(jE (gM▸e)).imp fun X=> .imp_right Eq.symm
namespace Sm
theorem via{T:Tabs}{P:PM T}{w:Wt}(w':Wt)(H:Sm P w')(q:autoParam (w.nf=w'.nf) kr1):Sm P w:=⟨q▸H.go⟩
theorem viaF{T:Tabs}{P:PM T}{w:Wt}(fr:Fr)(t:Expr)(b:List Stmt)(it:Nat)(H:Sm P (.fj false fr t b it w.hp w.kf))(q:autoParam (w.nf=(Wt.fj false fr t b it w.hp w.kf).nf) kr1):Sm P w:= .via _ H q
section
variable {T:Tabs} {P:PM T} {w:Wt} {In:Nat→Hp→Prop} {adv:Nat→Hp→Hp} {fin:Hp→Hp} {ι α:Type} {z:List α} {f:α→AV} {p c:Int} {m:Nat} {xs:List AV} {n k:Nat} {H:ι→Nat→Hp} {R:ι→Nat→Prop}
theorem next(n:Nat)(H:ι→Nat→Hp)(R:ι→Nat→Prop)(k:Nat)(i:ι)(wk:Wk w.hp (H i (k+1)))(r:R i (k+1))(q:autoParam (w.lq=fun X=>On1 (Iv H R) n k) kr1)(le:autoParam (Nat.ble n (H i (k+1)).nx=true) kr1):Sm P w:=⟨Wt.fin0 (q▸⟨_,wk,jL le,i,r,rfl⟩)⟩
theorem loop(B:Tbl T P.c)(n:Nat)(D:Iter P w.gt w.git xs In adv fin)(H:ι→Nat→Hp)(R:ι→Nat→Prop)(i0:ι)(wk:Wk w.hp (H i0 0))(h0:R i0 0)(hl:∀i k,R i k→Nat.blt w.git (H i k).nx=true∧In k (H i k))
  (hb:∀i k x,xs[k]? = some x→R i k→Sm P (w.tw P (On1 (Iv H R) n k) x (adv k (H i k)))) (he:∀i,R i xs.length→Sm P (w.kh (fin (H i xs.length)))) (g0:autoParam ((w.isG,(H i0 0).nx,w.hp.nx)=(true,n,n)) kr1):Sm P w:=
 ⟨Wt.loop0 B n D H R i0 wk h0 hl (fun i k x e r=>(hb i k x e r).sem) (fun i r=>(he i r).sem) g0⟩
theorem loopM(B:Tbl T P.c)(n:Nat)(D:Iter P w.gt w.git (z.map f) In adv fin)(H:ι→Nat→Hp)(R:ι→Nat→Prop)(i0:ι)(wk:Wk w.hp (H i0 0))(h0:R i0 0)(hl:∀i k,R i k→Nat.blt w.git (H i k).nx=true∧In k (H i k))
  (hb:∀i k c,z[k]? = some c→R i k→Sm P (w.tw P (On1 (Iv H R) n k) (f c) (adv k (H i k)))) (he:∀i,R i z.length→Sm P (w.kh (fin (H i z.length)))) (g0:autoParam ((w.isG,(H i0 0).nx,w.hp.nx)=(true,n,n)) kr1):Sm P w:=
 loop B n D H R i0 wk h0 hl (fun i k x e r=>(zox e).elim fun c q=>q.2▸hb i k c q.1 r) (fun i r=>by rw [lM] at r⊢;exact he i r) g0
theorem zt8(B:Tbl T P.c)(n:Nat)(D:Iter P w.gt w.git ((zc4 p c m).map .int) In adv fin)(H:ι→Nat→Hp)(R:ι→Nat→Prop)(i0:ι)(wk:Wk w.hp (H i0 0))(h0:R i0 0)(hl:∀i k,R i k→Nat.blt w.git (H i k).nx=true∧In k (H i k))
  (hb:∀i k,k<m→R i k→Sm P (w.tw P (On1 (Iv H R) n k) (.int (p+k*c)) (adv k (H i k)))) (he:∀i,R i m→Sm P (w.kh (fin (H i m)))) (g0:autoParam ((w.isG,(H i0 0).nx,w.hp.nx)=(true,n,n)) kr1):Sm P w:=
 loop B n D H R i0 wk h0 hl (fun i k x e r=>(zbO e).2▸hb i k (zbO e).1 r) (fun i r=>by rw [lM,zc4,lM,lR] at r⊢;exact he i r) g0
end
end Sm
section
variable {α:Type} {f:α→Option AV} {g:α→AV} {z:List α} {acc:List AV} {c:α} {d:AV} {n k:Nat}
def Fm(f:α→Option AV)(z:List α)(acc:List AV)(k:Nat):Prop:=acc=(z.take k).filterMap f
theorem Fm.one(r:Fm f z acc k)(e:z[k]? = some c)(q:f c=some d):Fm f z (acc ++ [d]) (k+1):=by unfold Fm at r⊢;rw [List.take_succ,e,List.filterMap_append,←r];simp [q]
theorem Fm.no(r:Fm f z acc k)(e:z[k]? = some c)(q:f c=none):Fm f z acc (k+1):=by unfold Fm at r⊢;rw [List.take_succ,e,List.filterMap_append,←r];simp [q]
theorem Fm.len(r:Fm f z acc k)(h:z.length<n):Nat.ble acc.length.succ n=true:=Nat.ble_eq_true_of_le (lE (r▸lT (List.length_filterMap_le ..) (List.length_take_le' ..)) h)
theorem Fm.all(r:Fm f z acc z.length):acc=z.filterMap f:=by unfold Fm at r;rwa [List.take_length] at r
def Mp1(f:α→AV)(z:List α)(acc:List AV)(k:Nat):Prop:=acc=(z.take k).map f
theorem Mp1.next(r:Mp1 g z acc k)(e:z[k]? = some c):Mp1 g z (acc ++ [g c]) (k+1):=by unfold Mp1 at r⊢;rw [List.take_succ,e,mA,←r];rfl
theorem Mp1.len(r:Mp1 g z acc k)(h:z.length<n):Nat.ble acc.length.succ n=true:=Nat.ble_eq_true_of_le (lE (by rw [r,lM];exact List.length_take_le' ..) h)
theorem Mp1.all(r:Mp1 g z acc z.length):acc=z.map g:=by unfold Mp1 at r;rwa [List.take_length] at r
end
theorem Wk.to{h g:Hp}(L:Nat)(l:List (Str×AV))(hf:autoParam ((h.at_ L).frame?.isSome=true) kr1)(e1:autoParam ((l.map fun p=>((h.at_ L).frame?.getD []).lookup p.1)=l.map fun p=>some p.2) kr1)(e2:autoParam ((List.range g.nx).map (h.set L (.frame l)).at_=(List.range g.nx).map g.at_) kr1)(b:autoParam ((Nat.ble g.nx h.nx&&(List.range g.nx).all fun k=>!(g.at_ k).live || (g.at_ k).bf g.nx)=true) kr1):Wk h g:=by
 obtain ⟨l',q⟩:=iE hf;exact (Wk.frm q (by rw [q] at e1;exact e1)).trans (.cut e2 b)
theorem Wk.ct{h g:Hp}(e:autoParam ((List.range g.nx).map h.at_=(List.range g.nx).map g.at_) kr1)(b:autoParam ((Nat.ble g.nx h.nx&&(List.range g.nx).all fun k=>!(g.at_ k).live || (g.at_ k).bf g.nx)=true) kr1):Wk h g:= .cut e b
section
variable {T:Tabs} {P:PM T} {K:AV→Hp→Prop} {h:Hp}
def pW(P:PM T)(d:FDat×List AV)(args:List AV)(r:AV):Wt:=zmk P d.1 [] d.2 args [] (Hp.of []) fun v h=> .en v h fun v X=>v=r
theorem zb1{a:Nat}{d:FDat×List AV}{args:List AV}{r:AV}(B:Tbl T P.c)(H:Sm P (pW P d args r))(k:K r h)(e:autoParam (T.defs a=some d) kr1)(ho:autoParam (zkj d.1=true) kr1)(b:autoParam (((AV.glob a).bd 0&&args.all (AV.bd 0)&&r.bd 0)=true) kr1):za3 P.up (.glob a) args [] h K:=zjJ b (zfh B e ho H.sem) k
def DK(r:AV)(os:List AO)(v:AV)(E:Hp):Prop:=v=r∧E=Hp.of os
def dW(P:PM T)(d:FDat×List AV)(args:List AV)(kw:List (Str×AV))(os:List AO)(r:AV)(os':List AO):Wt:=zmk P d.1 [] d.2 args kw (Hp.of os) fun v h=> .en v h (EndK os.length (DK r os'))
theorem zaW{a:Nat}{d:FDat×List AV}{args:List AV}{kw:List (Str×AV)}{os os':List AO}{r:AV}(B:Tbl T P.c)(H:Sm P (dW P d args kw os r os'))(e:autoParam (T.defs a=some d) kr1)(ho:autoParam (zkj d.1=true) kr1):za3 P.up (.glob a) args kw (Hp.of os) (DK r os'):=zh2 (zfh B e ho H.sem)
noncomputable def Wt.nd(w:Wt)(σ:List Nat)(r:AV)(os:List AO):Wt:=w.nh σ r (Hp.of os)
namespace Sm
theorem callD{w:Wt}{f r:AV}{as:List AV}{kw:List (Str×AV)}{os os':List AO}(C:za3 P f as kw (Hp.of os) (DK r os'))(σ:List Nat)(H:Sm P (w.nd σ r os'))(e:autoParam (w.clA=some (f.ren (gl σ),as.map (AV.ren (gl σ)),kw.map fun e=>(e.1,e.2.ren (gl σ)))) kr1)(e1:autoParam (σ.map w.hp.at_=os.map (AO.ren (gl σ))) kr1)
  (b:autoParam (((os.all (AO.bd os.length)&&os.all (fun o=>(o.ren id).live)&&nd σ&&σ.all fun k=>Nat.blt k w.hp.nx)&&(f.bd os.length&&as.all (AV.bd os.length)&&kw.all fun e=>e.2.bd os.length))=true) kr1):Sm P w:=
 ztz C σ (fun v E q=>by obtain ⟨rfl,rfl⟩:=q;exact H) e e1 b
theorem endD{w:Wt}(n:Nat)(r:AV)(os:List AO)(σ:List Nat)(q:autoParam (w.lq=EndK n (DK r os)) kr1)(e:autoParam (σ.map w.hp.at_=os.map (AO.ren (gl σ))) kr1)(b1:autoParam ((os.all (AO.bd os.length)&&os.all (fun o=>(o.ren id).live)&&nd σ&&σ.all fun k=>Nat.blt k w.hp.nx)=true) kr1)
  (b:autoParam (((List.range n).all (fun j=>Nat.beq (gl σ j) j)&&Nat.ble n os.length&&r.bd os.length)=true) kr1) (ev:autoParam (w.vf=r.ren (gl σ)) kr1):Sm P w:=⟨Wt.fin0 (q▸ .mk σ os r e b1 b ev ⟨rfl,rfl⟩)⟩
theorem endE{w:Wt}(n:Nat)(r:AV)(os:List AO)(σ:List Nat)(r':AV)(er:r=r')(q:autoParam (w.lq=EndK n (DK r os)) kr1)(e:autoParam (σ.map w.hp.at_=os.map (AO.ren (gl σ))) kr1)(b1:autoParam ((os.all (AO.bd os.length)&&os.all (fun o=>(o.ren id).live)&&nd σ&&σ.all fun k=>Nat.blt k w.hp.nx)=true) kr1)
  (b:autoParam (((List.range n).all (fun j=>Nat.beq (gl σ j) j)&&Nat.ble n os.length&&r'.bd os.length)=true) kr1) (ev:autoParam (w.vf=r'.ren (gl σ)) kr1):Sm P w:=by
 subst er;exact endD n r os σ q e b1 b ev
end Sm
end
theorem bt{a b:Nat}(h:a≤b):Nat.ble a b=true:=Nat.ble_eq_true_of_le h
theorem an{x y:Bool}(a:x=true)(b:y=true):(x&&y)=true:=Bool.and_eq_true_iff.mpr ⟨a,b⟩
section
variable {T:Tabs} {P:PM T} {h:Hp} {K:AV→Hp→Prop} {args:List AV} {kw:List (Str×AV)} {r:Nat}
theorem zm2{p:AV×Nat}{d:FDat×List AV}(e:(h.at_ r).bound? = some p)(ed:T.defs p.2=some d)(C:za3 P (.glob p.2) (p.1 :: args) kw h K):za3 P (.ref r) args kw h K:=fun A E Q s W fv vs kv hR R Vf Va Vk kn=>by
 obtain ⟨hr,rfl⟩:=Vf;obtain ⟨ob,k2,sv,rfl,k3⟩:=R.obj hr (AO.bound?_is e) rfl;obtain ⟨o,fd',f1,f2,X⟩:=zgO (P:=P) R ed;exact ⟨⟨.boundFrame, .inr (.inr rfl),(Looks.ld (part:=none) k2).andThen ((Looks.ld (part:=none) f1).andThen (by rw [f2];exact .now))⟩,zhP (P:=P) k2 (C A E Q s W (.ref p.2) (sv :: vs) kv hR R rfl (.cons k3 Va) Vk kn).2⟩
end
def OnI{ι:Type}(H:ι→Hp)(m:ι→Nat)(R:ι→Prop)(n k:Nat)(h:Hp):Prop:=∃j,Wk h (H j)∧n≤(H j).nx∧m j<k∧R j
namespace Wt
section
variable {T:Tabs} {P:PM T} {w:Wt} {ι:Type}
theorem loopX(B:Tbl T P.c)(n:Nat)(H:ι→Hp)(m:ι→Nat)(R:ι→Prop)(i0:ι)(wk:Wk w.hp (H i0))(h0:R i0)(g0:(w.isF false,(H i0).nx,w.hp.nx)=(true,n,n))
  (hs:∀i,R i→Nat.blt w.git (H i).nx=true∧JN P w.gt w.git (H i) fun o h'=>Option.casesOn (motive:=fun X=>Prop) o ((w.kh h').sem P) fun x=>(w.tw P (OnI H m R n (m i)) x h').sem P):w.nf.sem P:=by
 obtain ⟨g1,en,e⟩:w.isF false=true∧(H i0).nx=n∧(H i0).nx=w.hp.nx:=⟨congrArg (·.1) g0,congrArg (·.2.1) g0,(congrArg (·.2.1) g0).trans (congrArg (·.2.2) g0).symm⟩;clear g0;subst en;revert wk;revert hs;revert g1;revert e;unfold isF gt git hp tw kh cs;induction w.nf using Wt.casesOn with
 | fj wl fr t b it h K=>
  induction wl with
  | true=>exact fun X g1=>nb g1
  | false=>
  exact fun e X hs wk=>ForJ.start wk e ⟨fun k h=>∃j,m j=k∧R j∧h=H j,m i0,⟨i0,rfl,h0,rfl⟩,fun k h ⟨j,ek,r,eh⟩=>by
   subst ek eh;exact ⟨blt (hs j r).1,JN.mono (hs j r).2 fun o h q=>by
    induction o with
    | none=>exact q
    | some x=>
     exact J.mono (zdG B 40 (fr:=fr) (c:= .A t x fun X h=>v P fr 40 (.Ss b (zd2 _ K)) h) q:JA' ..) fun X X q=>J.mono (zdG B 40 q:JSs ..) fun x h q=>by
      have on:OnI H m R (H i0).nx (m j) h→On (fun k h=>∃j,m j=k∧R j∧h=H j) (H i0).nx (m j) h:=fun ⟨i,a,b,c,d⟩=>⟨H i,m i,a,b,c,i,rfl,d,rfl⟩;induction x with
      | next | cont=>exact on q
      | _=>exact q⟩⟩
 | _=>exact fun X g1=>nb g1
theorem J.wk{ι α β:Type}{RI:Around→Wd→Nat→ι→Prop}{RR:Wd→Nat→α→β→Prop}{t:ι→Sem β}{h g:Hp}{K:α→Hp→Prop}(w:Wk h g)(e:g.nx=h.nx)(H:J P RI RR t g K):J P RI RR t h K:=fun A E Q s W i G I k=>H A E Q s W i ⟨G.room,G.rel.wk w,G.frs⟩ (e▸I) (e.symm▸k)
theorem loopW(B:Tbl T P.c)(n:Nat)(H:ι→Hp)(m:ι→Nat)(R:ι→Prop)(i0:ι)(wk:Wk w.hp (H i0))(h0:R i0)(g0:(w.isF true,(H i0).nx,w.hp.nx)=(true,n,n))(hs:∀i,R i→(w.tw P (OnI H m R n (m i)) .none (H i)).sem P):w.nf.sem P:=by
 obtain ⟨g1,en,e⟩:w.isF true=true∧(H i0).nx=n∧(H i0).nx=w.hp.nx:=⟨congrArg (·.1) g0,congrArg (·.2.1) g0,(congrArg (·.2.1) g0).trans (congrArg (·.2.2) g0).symm⟩;clear g0;subst en;revert wk;revert hs;revert g1;revert e;unfold isF hp tw cs;induction w.nf using Wt.casesOn with
 | fj wl fr t b it h K=>
  induction wl with
  | false=>exact fun X g1=>nb g1
  | true=>
  exact fun e X hs wk=>⟨fun k h'=>∃j,m j=k∧R j∧Wk h' (H j)∧(H j).nx=h'.nx,m i0,⟨i0,rfl,h0,wk,e⟩,fun k h' ⟨j,ek,r,w',e'⟩=>by
   subst ek;exact J.wk w' e' (J.mono (zdG B 40 (fr:=fr) (c:= .T t fun c h=>BrW c h (v P fr 40 (.Ss b (zd2 _ K)) h) (K .next h)) (hs j r):JT ..) fun c X q=>Br.go q (fun z q=> .t z (J.mono (zdG B 40 (fr:=fr) (c:= .Ss b (zd2 _ K)) q:JSs ..) fun x h q=>by
    have on:OnI H m R (H i0).nx (m j) h→On (fun k h'=>∃j,m j=k∧R j∧Wk h' (H j)∧(H j).nx=h'.nx) _ (m j) h:=fun ⟨i,a,b,c,d⟩=>⟨H i,m i,a,e▸b,c,i,rfl,d, .refl,rfl⟩;induction x with
    | next | cont=>exact on q
    | _=>exact q)) fun z q=> .f z q)⟩
 | _=>exact fun X g1=>nb g1
end
end Wt
namespace Sm
section
variable {T:Tabs} {P:PM T} {w:Wt} {ι κ:Type}
theorem whl{T:Tabs}{P:PM T}{w:Wt}{ι:Type}(B:Tbl T P.c)(n:Nat)(H:ι→Hp)(m:ι→Nat)(R:ι→Prop)(i0:ι)(wk:Wk w.hp (H i0))(h0:R i0)(hs:∀i,R i→Sm P (w.tw P (OnI H m R n (m i)) .none (H i)))(g0:autoParam ((w.isF true,(H i0).nx,w.hp.nx)=(true,n,n)) kr1):Sm P w:=⟨Wt.loopW B n H m R i0 wk h0 g0 fun i r=>(hs i r).sem⟩
theorem nextI(n:Nat)(H:ι→Hp)(m:ι→Nat)(R:ι→Prop)(k:Nat)(j:ι)(wk:Wk w.hp (H j))(hm:m j<k)(r:R j)(q:autoParam (w.lq=fun X=>OnI H m R n k) kr1)(le:autoParam (Nat.ble n (H j).nx=true) kr1):Sm P w:=⟨Wt.fin0 (q▸⟨j,wk,jL le,hm,r⟩)⟩
end
end Sm
def Wt.nn(w:Wt)(σ:List Nat)(os:List AO)(a:Nat):Wt:=w.kc (.ref (w.hp.nx+1)) (((w.hp.new (.dict true [])).new (.inst a w.hp.nx)).patch σ (Hp.of os))
section
variable {T:Tabs} {P:PM T} {w:Wt} {K:AV→Hp→Prop} {h:Hp}
theorem Sm.newD{a m:Nat}{as args:List AV}{os os':List AO}(C:za3 P (.glob m) as [] (Hp.of os) (DK .none os'))(σ:List Nat)(H:Sm P.up (w.nn σ os' a))(e:autoParam (w.clA=some (.glob a,args,[])) kr1)(em:autoParam (zaY T a [95,95,105,110,105,116,95,95]=some m) kr1)(e2:autoParam (AV.ref (w.hp.nx+1) :: args=as.map (AV.ren (gl σ))) kr1)
  (e1:autoParam (σ.map ((w.hp.new (.dict true [])).new (.inst a w.hp.nx)).at_=os.map (AO.ren (gl σ))) kr1)
  (b:autoParam (((os.all (AO.bd os.length)&&os.all (fun o=>(o.ren id).live)&&nd σ&&σ.all fun k=>Nat.blt k ((w.hp.new (.dict true [])).new (.inst a w.hp.nx)).nx)&&((AV.glob m).bd os.length&&as.all (AV.bd os.length)&&([]:List (Str×AV)).all fun e=>e.2.bd os.length))=true) kr1):Sm P.up w:=
 ⟨Wt.call0 e (zm0 em (zjK ⟨e1,(aI b).1⟩ C (aI b).2 rfl e2 rfl fun v E q=>by
  obtain ⟨rfl,rfl⟩:=q;exact H.sem))⟩
def kW(P:PM T)(fd:FDat)(cl:List (Str×Nat))(args:List AV)(os:List AO)(r:AV)(os':List AO):Wt:=zmk P fd cl [] args [] (Hp.of os) fun v h=> .en v h (EndK os.length (DK r os'))
theorem zpM{fd:FDat}{cl:List (Str×Nat)}{k:Nat}{args:List AV}{os os':List AO}{r:AV}(B:Tbl T P.c)(H:Sm P (kW P fd cl args os r os'))(e:autoParam (((Hp.of os).at_ k).clo? = some (fd,cl)) kr1)(ho:autoParam (zkj fd=true) kr1)(ht:autoParam (fd.tab=none) kr1):za3 P.up (.ref k) args [] (Hp.of os) (DK r os'):=zh2 (zm1 B e ho ht H.sem)
theorem zlZ{f:AV}{kw:List (Str×AV)}{k:Nat}{xs:List SV}:∀{as as':List AV},h.at_ k = .list false (xs.map SV.av)→Rs (fun a b=>b=a∨(a = .ref k∧b = .lst xs)) as as'→za3 P f as' kw (h.set k .other) K→za3 P f as kw h K:=fun {as as'} e r C A E Q s W fv vs kv hR R Vf Va Vk kn=>by
 by_cases hk:k<h.nx
 ·obtain ⟨W',S,ws,m,z,rs⟩:=Step.frzL R hk e
  refine C A E Q s W' fv vs kv hR S.rel (VR.up S.le Vf) ?_ (KR.up S.le Vk) (kn.after S);clear C Vk Vf kn;induction r generalizing vs with
  | nil=>cases Va;exact .nil
  | @cons a b _ _ q _ ih=>
   cases Va with
   | cons u t=>
    refine .cons (q.elim (fun q=>q▸VR.up S.le u) fun q=>?_) (ih _ t);rw [q.1] at u;rw [q.2];exact ⟨_,ws,m,u.2,z,rs⟩
 ·refine C A E Q s W fv vs kv hR (R.wk (.drop k)) Vf ?_ Vk kn
  clear C Vk Vf kn;induction r generalizing vs with
  | nil=>cases Va;exact .nil
  | @cons a b _ _ q _ ih=>
   cases Va with
   | cons u t=>
    refine .cons (q.elim (fun q=>q▸u) fun q=>?_) (ih _ t);rw [q.1] at u;exact absurd u.1 hk
def zug(k:Nat)(xs:List SV)(as:List AV):List AV:=as.map fun a=>cond (a.ref? == some k) (.lst xs) a
theorem zjj{k:Nat}{xs:List SV}:∀as:List AV,Rs (fun a b=>b=a∨(a = .ref k∧b = .lst xs)) as (zug k xs as)
 | []=> .nil
 | a :: r=> .cons (by
   induction e:a.ref? == some k with
   | true=>exact .inr ⟨AV.ref?_is (eq_of_beq e),congrArg (cond · _ _) e⟩
   | false=>exact .inl (congrArg (cond · _ _) e)) (zjj r)
def Wt.na(w:Wt)(k:Nat)(xs:List SV):Wt:=w.cs (.lf False) (fun X X X=> .lf False) (fun X X X=> .lf False) (fun f as kw h kk=> .cl f (zug k xs as) kw (h.set k .other) kk) (fun X X X X X X X X=> .lf False) fun X X X X X X X=> .lf False
theorem Sm.frzA(k:Nat)(xs:List SV)(H:Sm P (w.na k xs))(e:autoParam (w.hp.at_ k = .list false (xs.map SV.av)) kr1):Sm P w:=⟨by
 have H:=H.sem;revert e H;unfold Wt.na Wt.hp Wt.cs;induction w.nf using Wt.casesOn with
 | cl f as kw h kk=>exact fun e H=>zlZ e (zjj as) H
 | _=>exact fun X=>False.elim⟩
noncomputable def PM.lv(P:PM T)(j:Nat):PM T:=Nat.rec (motive:=fun X=>PM T) P (fun X q=>q.up) j
theorem PM.lv_c(P:PM T):∀j,(P.lv j).c=P.c
 | 0=>rfl
 | j+1=>PM.lv_c P j
end
structure TabsL where
 gl:List (Str×AV)
 fns:List (Nat×FDat×List AV)
 meth:List (Nat×List (Str×Nat))
 attrs:List (Nat×List (List Nat))
 sets:List (Nat×List Int)
 maps:List (Nat×List (Int×List Nat))
 rxs:List (Nat×List Nat)
 tabs:List (Nat×Nat×Nat)
noncomputable def bltT:List (Str×AV):=[("len",AV.bi .len),("ord", .bi .ord),("chr", .bi .chr),("divmod", .bi .divmod),("sum", .bi .sum),("min", .bi .min),("max", .bi .max),("sorted", .bi .sorted),("iter", .bi .iter),
  ("int", .ty .int),("str", .ty .str),("range", .ty .range),("list", .ty .list),("set", .ty .set),("enumerate", .ty .enumerate),("reversed", .ty .reversed),("type", .ty .type)]
def TabsL.to(T:TabsL):Tabs where
 glob:=fun x=>T.gl.lookup x
 blt:=fun x=>bltT.lookup x
 meth:=fun a=>(T.meth.lookup a).getD []
 attrs:=fun a=>(T.attrs.lookup a).getD []
 defs:=fun a=>T.fns.lookup a
 intSet:=fun a=>T.sets.lookup a
 intTab:=fun a=>T.maps.lookup a
 rx:=fun a=>(T.rxs.lookup a).map fun code=>fun s=>s.any (Mine.rxHit code.toArray)
structure StP where
 s:Str
 a:Arguments
 b:List Stmt
 o:List Stmt
 sc:Scope
 t:Expr
 e:Expr
 es:List Expr
 p:Pos
structure ExP where
 ks:List (Option Expr)
 vs:List Expr
 sc:Scope
 c:Const
 p:Pos
noncomputable def dS:StP:=⟨Str.ofString "",default,[],[],default,default,default,[],default⟩
noncomputable def dE:ExP:=⟨[],[],default, .none,default⟩
noncomputable def stP(st:Option Stmt):StP:=Option.casesOn (motive:=fun X=>StP) st dS fun st=>Stmt.casesOn (motive_2:=fun X=>StP) st (fun n a b X X X sc X X X=>⟨n,a,b,[],sc,default,default,[],default⟩) (fun X X X X X X X X X X=>dS) (fun X X X b X X X X X X X=>⟨Str.ofString "",default,b,[],default,default,default,[],default⟩) (fun X X=>dS) (fun X X=>dS) (fun ts e p=>⟨Str.ofString "",default,[],[],default,default,e,ts,p⟩) (fun X X X X X X X=>dS) (fun X X X X=>dS) (fun X X X X X=>dS) (fun t X b X X=>⟨Str.ofString "",default,b,[],default,t,default,[],default⟩) (fun X X X X X=>dS) (fun X X X X=>dS) (fun X b o X=>⟨Str.ofString "",default,b,o,default,default,default,[],default⟩) (fun X X X=>dS) (fun X X X=>dS) (fun X X X=>dS) (fun X X X=>dS) (fun X X X X X=>dS) (fun X X X X X=>dS) (fun X X X=>dS) (fun X X=>dS) (fun X X X X=>dS) (fun X X=>dS) (fun X X=>dS) (fun X X=>dS) (fun X=>dS) (fun X=>dS) (fun X=>dS)
noncomputable def exP(e:Expr):ExP:=Expr.casesOn (motive_1:=fun X=>ExP) e (fun X X X=>dE) (fun X X X=>dE) (fun X X X X=>dE) (fun X X X=>dE) (fun X X X X=>dE) (fun X X X X=>dE) (fun ks vs p=>⟨ks,vs,default, .none,p⟩) (fun X X X=>dE) (fun X X sc X=>⟨[],[],sc, .none,default⟩) (fun X X X X=>dE) (fun X X X sc X=>⟨[],[],sc, .none,default⟩) (fun X X X X=>dE) (fun X X=>dE) (fun X X=>dE) (fun X X=>dE) (fun X X X X=>dE) (fun X X X X=>dE) (fun X X X X=>dE) (fun X X=>dE) (fun c X X=>⟨[],[],default,c,default⟩) (fun X X X=>dE) (fun X X X=>dE) (fun X X=>dE) (fun X X=>dE) (fun X X=>dE) (fun X X X=>dE) (fun X X X X=>dE)
noncomputable def cI(c:Const):Int:=Const.casesOn (motive:=fun X=>Int) c 0 (fun X=>0) (fun i=>i) (fun X=>0) (fun X X=>0) (fun X=>0) (fun X=>0) 0
noncomputable def cS(c:Const):List Nat:=Const.casesOn (motive:=fun X=>List Nat) c [] (fun X=> []) (fun X=> []) (fun X=> []) (fun X X=> []) (fun s=>s.cps.toList) (fun X=> []) []
def zpJ(tab:Option (Nat×Nat×Nat))(st:Option Stmt):FDat:=⟨(stP st).s,(stP st).a,(stP st).b,(stP st).sc,tab⟩
def zaf(p:Program)(i:Nat)(tab:Option (Nat×Nat×Nat)):FDat:=zpJ tab p.main.body[i]?
def zhW(p:Program)(i j:Nat):FDat:=zpJ none (stP p.main.body[i]?).b[j]?
def zoa(ks:List (Option Expr)):List Expr→List (Int×List Nat):=List.rec (motive:=fun X=>List Expr→List (Int×List Nat)) (fun X=> []) (fun k X q vs=>List.casesOn (motive:=fun X=>List (Int×List Nat)) vs [] fun v r=>(cI (exP (k.getD default)).c,cS (exP v).c) :: q r) ks
def zgv(p:Program)(i:Nat):List (Int×List Nat):=zoa (exP (stP p.main.body[i]?).e).ks (exP (stP p.main.body[i]?).e).vs
def zmY(st:Option Stmt):List Stmt:=(stP st).b
def ifO(st:Option Stmt):List Stmt:=(stP st).o
def zr8(st:Option Stmt):Expr:=(stP st).t
end Mn
end
section
open PySem PySem.W PyProof.Rows PySem.Calls PySem.SeqAt PySem.Builtin.Re
namespace Mn
variable {T:TabsL} {p:Program} {w:World} {S:SharedT}
noncomputable section
noncomputable def gB{α:Type}(o:Option α)(k:α→Bool):Bool:=Option.casesOn (motive:=fun X=>Bool) o false k
theorem gB.ex{α:Type}{o:Option α}{k:α→Bool}(h:gB o k=true):∃a,o=some a∧k a=true:=by
 induction o with
 | none=>exact nb h
 | some a=>exact ⟨a,rfl,h⟩
theorem zuu{α:Type}{b:Bool}{x:Option α}{z:α}(h:cond b none x=some z):b=false∧x=some z:=by
 induction b with
 | true=>exact no h
 | false=>exact ⟨rfl,h⟩
theorem zas{a b:Bool}(h:(a&&b)=true):a=true∧b=true:=aI h
noncomputable def i?(v:Value):Option Int:=Value.casesOn (motive:=fun X=>Option Int) v none none none jA (fun i X=>some i) jC jC jC jA jA fun X=>none
noncomputable def r?(v:Value):Option Addr:=Value.casesOn (motive:=fun X=>Option Addr) v none none none jA jC jC jC jC jA jA fun a=>some a
noncomputable def s?(v:Value):Option Str:=Value.casesOn (motive:=fun X=>Option Str) v none none none jA jC jC (fun s X=>some s) jC jA jA fun X=>none
noncomputable def b?(v:Value):Option Bool:=Value.casesOn (motive:=fun X=>Option Bool) v none none none (fun b=>some b) jC jC jC jC jA jA fun X=>none
theorem i?_is{v:Value}{i:Int}:i? v=some i→∃t,v = .int i t:=by induction v with
 | int j t=>exact fun e=>⟨t,congrArg (Value.int · t) (sI e)⟩
 | _=>exact no
theorem zkS{v:Value}{a:Addr}:r? v=some a→v = .ref a:=by induction v with
 | ref b=>exact fun e=>congrArg _ (sI e)
 | _=>exact no
theorem zqv{v:Value}{s:Str}:s? v=some s→∃t,v = .str s t:=by induction v with
 | str j t=>exact fun e=>⟨t,congrArg (Value.str · t) (sI e)⟩
 | _=>exact no
theorem ztH{v:Value}{b:Bool}:b? v=some b→v = .bool b:=by induction v with
 | bool b=>exact fun e=>congrArg _ (sI e)
 | _=>exact no
noncomputable def fl?(d:Data):Option (Array Value):=Data.casesOn (motive:=fun X=>Option (Array Value)) d none jA jC jC jF jC jA jA jA (fun v=>some v) none
noncomputable def sq?(d:Data):Option (Array Value×Nat):=Data.casesOn (motive:=fun X=>Option (Array Value×Nat)) d none jA (fun v n=>some (v,n)) jC jF jC jA jA jA jA none
noncomputable def di?(d:Data):Option (Array DictEntry×Nat):=Data.casesOn (motive:=fun X=>Option (Array DictEntry×Nat)) d none jA jC (fun v n=>some (v,n)) jF jC jA jA jA jA none
noncomputable def se?(d:Data):Option (Array (Int×Value)×Nat×SetTable):=Data.casesOn (motive:=fun X=>Option (Array (Int×Value)×Nat×SetTable)) d none jA jC jC (fun v n t=>some (v,n,t)) jC jA jA jA jA none
noncomputable def fu?(d:Data):Option FuncData:=Data.casesOn (motive:=fun X=>Option FuncData) d none jA jC jC jF jC jA (fun f=>some f) jA jA none
theorem zgQ{d:Data}{x:Array Value}:fl? d=some x→d = .fields x:=by induction d with
 | fields v=>exact fun e=>congrArg _ (sI e)
 | _=>exact no
theorem zqr{d:Data}{x:Array Value×Nat}:sq? d=some x→d = .seq x.1 x.2:=by induction d with
 | seq v n=>exact fun e=>sI e▸rfl
 | _=>exact no
theorem zrk{d:Data}{x:Array DictEntry×Nat}:di? d=some x→d = .dict x.1 x.2:=by induction d with
 | dict v n=>exact fun e=>sI e▸rfl
 | _=>exact no
theorem zqu{d:Data}{x:Array (Int×Value)×Nat×SetTable}:se? d=some x→d = .set x.1 x.2.1 x.2.2:=by induction d with
 | set v n t=>exact fun e=>sI e▸rfl
 | _=>exact no
theorem zr5{d:Data}{x:FuncData}:fu? d=some x→d = .func x:=by induction d with
 | func v=>exact fun e=>congrArg _ (sI e)
 | _=>exact no
noncomputable def TabsL.tA(T:TabsL):List Addr:=T.tabs.map (·.1)
noncomputable def ob?(S:SharedT)(a:Nat):Option Obj:=cond (Nat.blt a S.n) ((S.tree.get a).bind alive) none
theorem zdm{S:SharedT}{a:Nat}{o:Obj}(h:ob? S a=some o):S.abs.heap.get? a=some o:=(bE (cnd h).2).elim fun X q=>(abs_get (jL (cnd h).1) q.1).trans q.2
def zpH(S:SharedT)(bad:List Addr):Frag:=(List.range S.n).filterMap fun a=>cond (bad.contains a) none ((ob? S a).map fun o=>(a,o))
theorem zae{α β:Type}[BEq α][LawfulBEq α]{a:α}{b:β}:∀{l:List (α×β)},l.lookup a=some b→(a,b)∈l
 | (x,y) :: l,h=>by
  rw [List.lookup_cons] at h;revert h;induction q:a==x with
  | true=>exact fun h=>eq_of_beq q▸sI h▸mS
  | false=>exact fun h=>mM _ (zae h)
theorem ze5{S:SharedT}{bad:List Addr}{a:Addr}{o:Obj}(h:(zpH S bad).lookup a=some o):S.abs.heap.get? a=some o∧a∉bad:=(List.mem_filterMap.mp (zae h)).elim fun X q=>(jE (zuu q.2).2).elim fun X z=>(Prod.mk.inj z.2).1▸(Prod.mk.inj z.2).2▸⟨zdm z.1,fun m=>nb ((zuu q.2).1.symm.trans (List.contains_iff_mem.mpr m))⟩
noncomputable def tok(v:Value):Tok:=Value.casesOn (motive:=fun X=>Tok) v 0 0 0 (fun X=>0) (fun X t=>t) (fun X X=>0) (fun X X=>0) (fun X X=>0) (fun X=>0) (fun X=>0) fun X=>0
def zs1(x:AV)(v:Value):Bool:=AV.casesOn (motive:=fun X=>Bool) x (decide (v = .none)) (fun b=>decide (v = .bool b)) (fun i=>decide (v = .int i (tok v))) jM jM (fun a=>decide (v = .ref a)) (fun m=>decide (v = .builtin m.id)) (fun m=>decide (v = .type m.id)) jM jM false
theorem zfq{x:AV}{v:Value}(h:zs1 x v=true):VR0 x v:=by
 induction x with
 | none=>exact oD (p:=v=_) h
 | bool=>exact oD (p:=v=_) h
 | glob=>exact oD (p:=v=_) h
 | bi=>exact oD (p:=v=_) h
 | ty=>exact oD (p:=v=_) h
 | int i=>exact ⟨_,oD h⟩
 | _=>exact nb h
def znB(xs:List AV):List Value→Bool:=List.rec (motive:=fun X=>List Value→Bool) (fun l=>List.casesOn (motive:=fun X=>Bool) l true fun X X=>false) (fun x X ih l=>List.casesOn (motive:=fun X=>Bool) l false fun v r=>zs1 x v&&ih r) xs
theorem zkr{xs:List AV}:∀{vs:List Value},znB xs vs=true→Rs VR0 xs vs:=by
 induction xs with
 | nil=>exact fun {vs}=>by induction vs using cL with
  | nil=>exact fun X=> .nil
  | cons=>exact fun h=>nb h
 | cons x xs ih=>exact fun {vs}=>by induction vs using cL with
  | nil=>exact fun h=>nb h
  | cons=>exact fun h=> .cons (zfq (zas h).1) (ih (zas h).2)
def ba?(S:SharedT)(a:Nat):Option (Value×Data):=(ob? S a).bind fun o=>cond (o.dict.isNone&&o.slots.isEmpty) (some (o.cls,o.data)) none
theorem zdE{S:SharedT}{a:Nat}{x:Value×Data}(h:ba? S a=some x):S.abs.heap.get? a=some {cls:=x.1,data:=x.2}:=(bE h).elim fun o q=>by
 obtain ⟨cl,d,dt,sl⟩:=o;obtain ⟨e,q2⟩:=cnd q.2;obtain rfl:=sI q2;obtain rfl:=jN (zas e).1;obtain rfl:=Array.isEmpty_iff.mp (zas e).2;exact zdm q.1
def fs?(S:SharedT)(a:Nat):Option (Value×Array Value):=(ob? S a).bind fun o=>(fl? o.data).map (o.cls,·)
theorem zr6{S:SharedT}{a:Nat}{x:Value×Array Value}(h:fs? S a=some x):∃o,S.abs.heap.get? a=some o∧o.cls=x.1∧o.data = .fields x.2:=(bE h).elim fun o q=>(jE q.2).elim fun v z=>z.2▸⟨o,zdm q.1,rfl,zgQ z.1⟩
def it?(S:SharedT)(a:Nat):Option (Array Value×Nat):=(ob? S a).bind fun o=>sq? o.data
theorem zja{S:SharedT}{a:Nat}{x:Array Value×Nat}(h:it? S a=some x):∃o,S.abs.heap.get? a=some o∧o.data = .seq x.1 x.2:=(bE h).imp fun X q=>⟨zdm q.1,zqr q.2⟩
def fn?(S:SharedT)(a:Nat):Option FuncData:=(ob? S a).bind fun o=>fu? o.data
theorem zn0{S:SharedT}{a:Nat}{x:FuncData}(h:fn? S a=some x):∃o,S.abs.heap.get? a=some o∧o.data = .func x:=(bE h).imp fun X q=>⟨zdm q.1,zr5 q.2⟩
section
variable (T:TabsL) (S:SharedT)
noncomputable def out(a:Nat):Bool:=!T.tA.contains a
theorem zaX{T:TabsL}{a:Nat}(h:out T a=true):a∉T.tA:=fun q=>nb ((congrArg not (List.contains_iff_mem.mpr q)).symm.trans h)
def bare(t:Addr):Bool:=gB (ba? S t) fun x=>decide (x.1 = .none)&&gB (fl? x.2) fun ps=>ps.isEmpty
theorem zfV{S:SharedT}{t:Addr}(h:bare S t=true):S.abs.heap.get? t=some {cls:= .none,data:= .fields #[]}:=(gB.ex h).elim fun x q=>(gB.ex (zas q.2).2).elim fun ps z=>(zdE q.1).trans (by rw [oD (zas q.2).1,zgQ z.1,Array.isEmpty_iff.mp z.2])
theorem zqw{v:Value}(h:(s? v).isSome=true):∃s t,v = .str s t:=(iE h).imp fun X=>zqv
theorem zr2{v:Value}(h:(i? v).isSome=true):∃s t,v = .int s t:=(iE h).imp fun X=>i?_is
theorem ztI{v:Value}(h:(b? v).isSome=true):∃b,v = .bool b:=(iE h).imp fun X=>ztH
def tcL(c:Addr)(x:Value×Array Value)(t:Nat×Nat×Nat):List Bool:=[T.tA.contains t.1,decide (T.tabs.lookup t.1=some t.2),decide (x.1 = .type "code"),decide (x.2[11]? = some (.ref t.1)),decide (x.2.getD 11 .none = .ref t.1),decide (c≠t.1),
 (s? (x.2.getD 18 .none)).isSome,(i? (x.2.getD 7 .none)).isSome,(b? (x.2.getD 9 .none)).isSome,(i? (x.2.getD 10 .none)).isSome,bare S t.1]
def znb(cd:Value)(tab:Option (Nat×Nat×Nat)):Bool:=gB (r? cd) fun c=>out T c&&gB (fs? S c) fun x=>gB (x.2[1]?) fun v=>(s? v).isSome&&Option.casesOn (motive:=fun X=>Bool) tab true fun t=>(tcL T S c x t).all id
theorem zq7{T:TabsL}{S:SharedT}{c:Addr}{x:Value×Array Value}{t l k:Nat}{o:Obj}(e:S.abs.heap.get? c=some o∧o.cls=x.1∧o.data = .fields x.2)(h:(tcL T S c x (t,l,k)).all id=true):
  t∈T.tA∧(T.tabs.lookup t).getD (0,0)=(l,k)∧S.abs.heap.TableAt c t #[]∧S.abs.heap.IsCode c t #[]:=by
 have b:=zfV (zaa 10 h);refine (zqw (zaa 6 h)).elim fun f z=>z.elim fun u1 e6=>(zr2 (zaa 7 h)).elim fun g z=>z.elim fun u2 e7=>(ztI (zaa 8 h)).elim fun n e8=>(zr2 (zaa 9 h)).elim fun m z=>z.elim fun u3 e9=>?_;exact ⟨List.contains_iff_mem.mp (zaa 0 h),congrArg (·.getD (0,0)) (oD (zaa 1 h)),⟨⟨o,x.2,e.1,e.2.1.trans (oD (zaa 2 h)),e.2.2,oD (zaa 3 h)⟩,b⟩,
  o,x.2,f,u1,g,u2,n,m,u3,_,e.1,e.2.2,oD (zaa 4 h),e6,e7,e8,e9,b,rfl,trivial,oD (zaa 5 h)⟩
theorem zff{T:TabsL}{S:SharedT}{v:Value}{tab:Option (Nat×Nat×Nat)}(h:znb T S v tab=true):∃cd oc vs q t,v = .ref cd∧cd∉T.tA∧S.abs.heap.get? cd=some oc∧oc.data = .fields vs∧vs[1]? = some (.str q t)∧
  ∀t l k,tab=some (t,l,k)→t∈T.tA∧(T.tabs.lookup t).getD (0,0)=(l,k)∧S.abs.heap.TableAt cd t #[]∧S.abs.heap.IsCode cd t #[]:=
 (gB.ex h).elim fun c q=>(gB.ex (zas q.2).2).elim fun x z=>(zr6 z.1).elim fun o e=>(gB.ex z.2).elim fun X y=>(zqw (zas y.2).1).elim fun s k=>k.elim fun u es=>
  ⟨c,o,x.2,s,u,zkS q.1,zaX (zas q.2).1,e.1,e.2.2,es▸y.1,fun t l k et=>by subst et;exact zq7 e (zas y.2).2⟩
def zsa(x:Nat×FDat×List AV):Option (Arguments×FuncBody×Scope×Addr×Addr×List Bool):=(fn? S x.1).map fun f=>(f.params,f.body,f.scope,f.globals,f.builtins,[out T x.1,znb T S f.code x.2.1.tab,Option.casesOn (motive:=fun X=>Bool) (r? f.defaults) (decide (f.defaults = .none)&&x.2.2.isEmpty) fun a=>out T a&&gB (it? S a) fun y=>znB x.2.2 y.1.toList])
noncomputable def zsb(x:Nat×FDat×List AV):Option (Arguments×FuncBody×Scope×Addr×Addr×List Bool):=some (x.2.1.params, .stmts x.2.1.body,x.2.1.scope,mainNs,0,[true,true,true])
def zpf(p:Program)(w:World):Cx:={prog:=p,w,B:=S.abs.heap,K:=zpH S T.tA,tabs:=T.tA,tinfo:=fun t=>(T.tabs.lookup t).getD (0,0),G:=mainNs,os:=S.os}
end
theorem ztj{x:Nat×FDat×List AV}(h:zsa T S x=zsb x):FnB (zpf T S p w) x.1 x.2.1 x.2.2:=(jE h).elim fun f q=>(zn0 q.1).elim fun o z=>by
 have e:=q.2;have b:=congrArg (·.2.2.2.2.2) e;refine ⟨zaX (congrArg (·.getD 0 true) b),o,f,z.1,z.2,congrArg (·.1) e,congrArg (·.2.1) e,congrArg (·.2.2.1) e,congrArg (·.2.2.2.1) e,congrArg (·.2.2.2.2.1) e,zff (congrArg (·.getD 1 true) b),?_⟩;have k:Option.casesOn (motive:=fun X=>Bool) (r? f.defaults) (decide (f.defaults = .none)&&x.2.2.isEmpty) (fun a=>out T a&&gB (it? S a) fun y=>znB x.2.2 y.1.toList)=true:=congrArg (·.getD 2 true) b;revert k;induction er:r? f.defaults with
 | none=>exact fun k=> .inl ⟨oD (zas k).1,eI (zas k).2⟩
 | some a=>exact fun k=>(gB.ex (zas k).2).elim fun y u=>(zja u.1).elim fun o q=> .inr ⟨a,o,y.1,y.2,zkS er,zaX (zas k).1,q.1,q.2,zkr u.2⟩
section
variable (T:TabsL) (S:SharedT)
def nsL:List Bool:=[S.abs.heap.isNs mainNs,S.abs.heap.isNs 0,S.abs.heap.isNs cStatics,out T mainNs,out T 0,out T cStatics,(S.abs.heap.nsMap cStatics "sys.recursionlimit").isNone,T.gl.all fun p=>gB (S.abs.heap.nsMap mainNs p.1) (zs1 p.2),
 bltT.all fun p=>gB (S.abs.heap.nsMap 0 p.1) (zs1 p.2)&&((T.gl.lookup p.1).isSome || (S.abs.heap.nsMap mainNs p.1).isNone),T.tA.all (bare S),(ob? S sysModules).isSome]
noncomputable def zty(K:Frag)(C:Nat):List Bool:=[decide (findIn K (.ref C) "__getattribute__" =some (some (.builtin "object.__getattribute__"))),decide (findIn K (.ref C) "__setattr__" =some (some (.builtin "object.__setattr__"))),plainOver K C,(clsIn K C).any (·.hasDict),decide (findIn K (.ref C) "__getattr__" =some none)]
noncomputable def metL(K:Frag)(C:Nat)(m:Str×Nat):List Bool:=[decide (findIn K (.ref C) m.1=some (some (.ref m.2))),decide (specialIn K (.ref m.2) "__get__" =some (some (.builtin "function.__get__"))),decide (typeIn K (.ref m.2)=some (.type "function")),decide (takesIn K (.ref m.2)=some false),!copiedNames.contains m.1]
def zqt(p:Nat×List Int):Bool:=out T p.1&&gB (ba? S p.1) fun x=>decide (x.1 = .type "set")&&gB (se? x.2) fun y=> [y.2.2.fits y.1.size,Nat.blt y.1.size scanBound,decide (y.1.toList.map (fun e=>(e.1,i? e.2))=p.2.map fun i=>(hashInt i,some i))].all id
def zqR(p:Nat×List (Int×List Nat)):Bool:=out T p.1&&decide (p.1≠sysModules)&&gB (ba? S p.1) fun x=>decide (x.1 = .type "dict")&&gB (di? x.2) fun y=>decide (y.1.toList.map (fun e=>(e.hash,i? e.key,(s? e.val).map fun s=>s.cps.toList))=p.2.map fun q=>(hashInt q.1,some q.1,some q.2))
def zsU(p:Nat×List Nat):Bool:=out T p.1&&gB (ba? S p.1) fun x=>decide (x.1 = .type "re.Pattern")&&gB (fl? x.2) fun v=>decide (i? (v.getD 6 .none)=some 0)&&gB (r? (v.getD 5 .none)) fun a=>out T a&&gB (it? S a) fun y=>
 let c:=(y.1.map reRawOf).map (·.toNat)
 [decide (c.toList=p.2),decide (c.getD 0 0=14),decide (c.getD 2 0=4),decide (reRawNat (v.getD 2 .none)=0)].all id
def stL:List Bool:=
 let K:=zpH S T.tA
 [(nsL T S).all id,T.attrs.all fun p=>(zty K p.1).all id&&p.2.all fun n=>decide (findIn K (.ref p.1) (za0 n)=some none),T.meth.all fun p=>((zty K p.1).all id&&(makesIn K p.1&&keepIn K (.ref p.1)))&&p.2.all fun m=>(metL K p.1 m).all id,T.sets.all (zqt T S),T.maps.all (zqR T S),T.rxs.all (zsU T S),decide (S.abs.heap.nsMap mainNs "ValueError" =none),decide (S.abs.heap.nsMap 0 "ValueError" =some (.type "ValueError"))]
end
theorem zel{α:Type}{l:List α}{f:α→Bool}(h:l.all f=true){a:α}(m:a∈l):f a=true:=aT h a m
theorem ziU{α β:Type}[BEq α][LawfulBEq α]{l:List (α×List β)}{a:α}(h:(l.lookup a).getD []≠[]):∃x,(a,x)∈l:=by
 induction e:l.lookup a with
 | none=>exact absurd (congrArg (·.getD []) e) h
 | some x=>exact ⟨x,zae e⟩
theorem zgu{α β:Type}[BEq α][LawfulBEq α]{l:List (α×List β)}{a:α}{b:β}(h:b∈(l.lookup a).getD []):∃x,(a,x)∈l∧b∈x:=by
 induction e:l.lookup a with
 | none=>exact (nomatch (e▸h:b∈(none:Option (List β)).getD []))
 | some x=>exact ⟨x,zae e,(e▸h:b∈(some x).getD [])⟩
theorem znd{K:Frag}{C:Nat}(h:(zty K C).all id=true):findIn K (.ref C) "__getattribute__" =some (some (.builtin "object.__getattribute__"))∧findIn K (.ref C) "__setattr__" =some (some (.builtin "object.__setattr__"))∧plainOver K C=true∧(clsIn K C).any (·.hasDict)=true∧findIn K (.ref C) "__getattr__" =some none:=
 ⟨oD (zaa 0 h),oD (zaa 1 h),zaa 2 h,zaa 3 h,oD (zaa 4 h)⟩
theorem zgt{C:Nat}{n:List Nat}{f:Nat}(h:zaY T.to C n=some f):∃ms,(C,ms)∈T.meth∧(za0 n,f)∈ms:=(jE h).elim fun m q=>(zgu (List.mem_of_find?_eq_some q.1)).imp fun X z=>⟨z.1,by
 have e:za0 n=m.1:=(congrArg za0 (eq_of_beq (List.find?_some (p:=fun m:Str×Nat=>m.1.cps.toList==n) q.1))).symm;exact (Prod.ext e q.2.symm:(za0 n,f)=m)▸z.2⟩
theorem zqs{a:Nat}{is:List Int}(h:zqt T S (a,is)=true):a∉T.tA∧∃n,S.abs.heap.SetOf (PySem.intKind p w) a (fun k=>is.contains k) n:=⟨zaX (zas h).1,(gB.ex (zas h).2).elim fun x q=>(gB.ex (zas q.2).2).elim fun y z=>by
 obtain ⟨cl,dt⟩:=x;obtain ⟨es,ep,t⟩:=y;obtain rfl:cl = .type "set" :=oD (zas q.2).1;obtain rfl:dt = .set es ep t:=zqu z.1;have q3:es.toList.map (fun e=>(e.1,i? e.2))=is.map fun i=>(hashInt i,some i):=oD (zaa 2 z.2);have el:∀x∈es.toList,∃i u,i∈is∧x=(hashInt i, .int i u):=fun x hx=>(mP (q3▸List.mem_map.mpr ⟨x,hx,rfl⟩)).elim fun i e=>(i?_is (Prod.mk.inj e.2).2.symm).elim fun u eu=>⟨i,u,e.1,Prod.ext (Prod.mk.inj e.2).1.symm eu⟩;refine ⟨es.size,_,es,ep,t,zdE q.1,⟨rfl,rfl,rfl⟩,rfl,fun x hx=>?_,fun k=>⟨fun hk=>?_,fun ⟨x,hx,hk⟩=>?_⟩,jL (zaa 1 z.2),zaa 0 z.2,rfl⟩
 ·obtain ⟨i,u,X,rfl⟩:=el x hx
  exact ⟨⟨i,(bS i:(i==i)=true),rfl⟩,rfl⟩
 ·obtain ⟨x,hx,e⟩:=mP (q3▸List.mem_map.mpr ⟨k,List.contains_iff_mem.mp hk,rfl⟩:(hashInt k,some k)∈es.toList.map fun e=>(e.1,i? e.2))
  obtain ⟨u,eu⟩:=i?_is (Prod.mk.inj e).2;exact ⟨x,hx,eu▸(bS k:(k==k)=true)⟩
 ·obtain ⟨i,u,hi,rfl⟩:=el x hx
  exact (eq_of_beq (hk:(i==k)=true))▸List.contains_iff_mem.mpr hi⟩
def ztd(t:List (Int×List Nat))(v:Option Value)(i:Int):Prop:=match t.find? (fun e=>e.1==i) with | some e=>∃u,v=some (.str (za0 e.2) u) | none=>v=none
theorem zdU:∀{ds:List DictEntry} {t:List (Int×List Nat)},ds.map (fun e=>(e.hash,i? e.key,(s? e.val).map fun s=>s.cps.toList))=t.map (fun q=>(hashInt q.1,some q.1,some q.2))→
  (∀i,ztd t ((ds.find? fun e=>Value.isInt i e.key).map (·.val)) i)∧∀e∈ds,∃k u,e.key = .int k u∧e.hash=hashInt k
 | [], [],_=>⟨fun X=>rfl,fun X h=>nomatch h⟩
 | ⟨dh,dk,dv⟩ :: ds,(k,z) :: t,h=>by
  obtain ⟨h1,h2⟩:=List.cons.inj h;obtain ⟨u,rfl⟩:=i?_is (congrArg (·.2.1) h1);obtain ⟨s,e1,e2⟩:=jE (congrArg (·.2.2) h1);obtain ⟨u',rfl⟩:=zqv e1;obtain rfl:s.cps.toList=z:=e2;refine ⟨fun i=>?_,fun e he=>(cP he).elim (fun q=>q▸⟨k,u,rfl,congrArg (·.1) h1⟩) ((zdU h2).2 e)⟩;have ih:=(zdU h2).1 i;unfold ztd at ih⊢;rw [List.find?_cons,List.find?_cons,show Value.isInt i (.int k u)=(k==i) from rfl];induction k==i with
  | true=>exact ⟨u',rfl⟩
  | false=>exact ih
theorem zt0:Sre.ops[14]? = some .INFO:=by rfl
theorem zqQ{a:Nat}{t:List (Int×List Nat)}(h:zqR T S (a,t)=true):a∉T.tA∧a≠sysModules∧(∃es k,S.abs.heap.get? a=some {cls:= .type "dict",data:= .dict es k})∧∃f,S.abs.heap.MapOf (PySem.intKind p w) a f∧∀i,ztd t (f i) i:=
 ⟨zaX (zas (zas h).1).1,oD (zas (zas h).1).2,(gB.ex (zas h).2).elim fun x q=>(gB.ex (zas q.2).2).elim fun y z=>by
 obtain ⟨cl,dt⟩:=x;obtain ⟨es,ep⟩:=y;obtain rfl:cl = .type "dict" :=oD (zas q.2).1;obtain rfl:dt = .dict es ep:=zrk z.1;have F:=zdU (oD z.2);refine ⟨⟨es,ep,zdE q.1⟩,fun i=>findBy Value.isInt es i,⟨_,es,ep,zdE q.1,⟨rfl,rfl,rfl⟩,rfl,fun x hx=>?_,fun X=>rfl⟩,fun i=>?_⟩
 ·obtain ⟨j,u,q1,q2⟩:=F.2 x (Array.mem_toList_iff.mpr hx)
  exact ⟨j,q1▸(bS j:(j==j)=true),q2⟩
 ·have:=F.1 i
  unfold findBy;rwa [Array.find?_toList] at this⟩
theorem zsT{a:Nat}{c:List Nat}(h:zsU T S (a,c)=true):a∉T.tA∧∃vs t items n o,S.abs.heap.get? a=some {cls:= .type "re.Pattern",data:= .fields vs}∧(∃u,vs.getD 6 .none = .int 0 u)∧vs.getD 5 .none = .ref t∧t∉T.tA∧S.abs.heap.get? t=some o∧o.data = .seq items n∧
  Sre.ops[((items.map reRawOf).map (·.toNat)).getD 0 0]? = some .INFO∧((items.map reRawOf).map (·.toNat)).getD 2 0=4∧(fun s:List Nat=>s.any (Mine.rxHit c.toArray))=fun s=>s.any (Mine.rxHit ((items.map reRawOf).map (·.toNat))):=
 ⟨zaX (zas h).1,(gB.ex (zas h).2).elim fun x q=>(gB.ex (zas q.2).2).elim fun v z=>(gB.ex (zas z.2).2).elim fun t u=>(gB.ex (zas u.2).2).elim fun y k=>(zja k.1).elim fun o e=>by
 obtain ⟨cl,dt⟩:=x;obtain rfl:cl = .type "re.Pattern" :=oD (zas q.2).1;obtain rfl:dt = .fields v:=zgQ z.1;exact ⟨v,t,y.1,y.2,o,zdE q.1,i?_is (oD (zas z.2).1),zkS u.1,zaX (zas u.2).1,e.1,e.2,by rw [oD (zaa 1 k.2)];exact zt0,oD (zaa 2 k.2),congrArg (fun l:List Nat=>fun s:List Nat=>s.any (Mine.rxHit l.toArray)) (oD (zaa 0 k.2)).symm⟩⟩
theorem znO(h:(stL T S).all id=true)(hb:(fun st=>peek (zpH S T.tA) st (builtinsFor mainNs 0))=fun X=>some 0)(hF:T.fns.map (zsa T S)=T.fns.map zsb):Stat T.to (zpf T S p w) where
 gl:=⟨_,Heap.Ns.of_isNs (zaa 0 (zaa 0 h)),fun x v e=>(gB.ex (zel (zaa 7 (zaa 0 h)) (zae e))).imp fun X q=>⟨q.1,zfq q.2⟩,fun x e b=>(iE b).elim fun v e2=>(Bool.or_eq_true_iff.mp (zas (zel (zaa 8 (zaa 0 h)) (zae e2))).2).elim (fun q=>(iE q).elim fun X z=>no (e.symm.trans z)) jN⟩
 bl:=⟨_,Heap.Ns.of_isNs (zaa 1 (zaa 0 h)),fun x v e=>(gB.ex (zas (zel (zaa 8 (zaa 0 h)) (zae e))).1).imp fun X q=>⟨q.1,zfq q.2⟩⟩
 gt:=zaX (zaa 3 (zaa 0 h))
 bt:=zaX (zaa 4 (zaa 0 h))
 st:=zaX (zaa 5 (zaa 0 h))
 lim:=⟨_,Heap.Ns.of_isNs (zaa 2 (zaa 0 h)),jN (zaa 6 (zaa 0 h))⟩
 bf:=fun M hh k=>Looks.of_peek (K:=zpH S T.tA) (fun a o e=>k a o (ze5 e).1 (ze5 e).2) (congrFun hb _)
 fn:=fun a fd dflt e=>ztj (List.map_inj_left.mp hF (a,fd,dflt) (zae e))
 set_:=fun a is e=>zqs (zel (zaa 3 h) (zae e))
 inB:=fun a o e=>(ze5 e).1
 tabs:=fun a o e=>(ze5 e).2
 cls:=fun C hC=>hC.elim (fun q=>(ziU q).elim fun x m=>znd (zas (zel (zaa 1 h) m)).1) fun q=>(ziU q).elim fun x m=>znd (zas (zas (zel (zaa 2 h) m)).1).1
 attr:=fun C n q=>(zgu q).elim fun x m=>oD (zel (zas (zel (zaa 1 h) m.1)).2 m.2)
 meth:=fun C n f q=>(zgt q).elim fun x m=>
  have z:=zel (zas (zel (zaa 2 h) m.1)).2 m.2
  ⟨oD (zaa 0 z),oD (zaa 1 z),oD (zaa 2 z),oD (zaa 3 z),(Bool.not_eq_true' _).mp (zaa 4 z)⟩
 make:=fun C m q=>(zgt q).elim fun x m=>zas (zas (zas (zel (zaa 2 h) m.1)).1).2
theorem zq8(h:(stL T S).all id=true):Tbl T.to (zpf T S p w) where
 sys:=(iE (zaa 10 (zaa 0 h))).imp fun X=>zdm
 tab:=fun a t e=>zqQ (zel (zaa 4 h) (zae e))
 rx:=fun a f e=>(jE e).elim fun c q=>q.2▸zsT (zel (zaa 5 h) (zae q.1))
end
end Mn
end
section
open PySem PySem.W
namespace Mn
noncomputable abbrev pw3:=PySem.Challenge.pw_we0036_02
def T3r:TabsL where
 gl:= [("_name_disallowed_re", .glob 43),("_value_disallowed_re", .glob 48),("Headers", .glob 171),("compute_powers", .glob 183),("_str_to_int_inner", .glob 190),("int_from_string", .glob 197),("_div2n1n", .glob 204),("_div3n2n", .glob 211),("_int2digits", .glob 218),("_digits2int", .glob 225),("_divmod_pos", .glob 232),("int_divmod", .glob 239),("_netrclex", .glob 277),("b1_set", .glob 289),("in_table_b1", .glob 299),("b3_exceptions", .glob 300),("map_table_b3", .glob 345),("_law_lexer", .glob 352),("_law_prepared", .glob 357),("_law_written", .glob 362),("_law_coin", .glob 369),("_law_paid", .glob 376),("_law_kept", .glob 383),("_law_least", .glob 390),("_law_best", .glob 397),("_law_greedy", .glob 404),("law", .glob 409),("_DIV_LIMIT", .int 4000)]
 fns:= [(183,zaf pw3 7 (some (178,0,0)), [.bool false]),(190,zaf pw3 8 (some (185,128,4)), []),(197,zaf pw3 9 none, []),(204,zaf pw3 11 none, []),(211,zaf pw3 12 none, []),(218,zaf pw3 13 (some (213,168,4)), []),(225,zaf pw3 14 (some (220,183,4)), []),(232,zaf pw3 15 none, []),(239,zaf pw3 16 none, []),(299,zaf pw3 21 none, []),(345,zaf pw3 23 none, []),(352,zaf pw3 25 (some (347,270,4)), []),(357,zaf pw3 26 none, []),(362,zaf pw3 27 none, []),(369,zaf pw3 28 none, []),(376,zaf pw3 29 none, []),(383,zaf pw3 30 none, []),(390,zaf pw3 31 none, []),(397,zaf pw3 32 none, []),(404,zaf pw3 33 none, []),(409,zaf pw3 34 none, []),(253,zhW pw3 18 0, []),(260,zhW pw3 18 1, []),(267,zhW pw3 18 2, []),(274,zhW pw3 18 3, []),(63,zhW pw3 5 0, [.none]),(70,zhW pw3 5 1, []),(118,zhW pw3 5 8, [.none]),(123,zhW pw3 5 9, []),(135,zhW pw3 5 11, []),(161,zhW pw3 5 15, [])]
 meth:= [(277, [("__init__",253),("_read_char",260),("get_token",267),("push_token",274)]),(171, [("__init__",63),("_convert_string_type",70),("get",118),("keys",123),("items",135),("setdefault",161)])]
 attrs:= [(277, ["lineno".toList.map Char.toNat, "instream".toList.map Char.toNat, "whitespace".toList.map Char.toNat, "pushback".toList.map Char.toNat, "read".toList.map Char.toNat]),(171, ["_headers".toList.map Char.toNat])]
 sets:= [(289, [65024,65025,65026,65027,65028,65029,6150,65030,65031,65032,65033,6155,6156,6157,8203,8204,8205,65034,65035,65036,65037,65038,65039,173,847,8288,65279])]
 maps:= [(300,zgv pw3 22)]
 rxs:= [(43, [14,10,4,1,1,22,0,31,16,127,0,13,7,22,0,31,16,127,0,1]),(48, [14,14,4,1,1,9,4294966783,0,0,2147483648,0,0,0,0,0,13,11,9,4294966783,0,0,2147483648,0,0,0,0,0,1])]
 tabs:= [(178,0,0),(185,128,4),(213,168,4),(220,183,4),(347,270,4)]
def T3:Tabs:=T3r.to
end Mn
end
section
open PySem PySem.W
set_option maxHeartbeats 0
namespace Mn
def zj2(S:SharedT):Option (Str×Str×List Bool):=(fn? S 409).map fun fd=>(fd.name,fd.qualname,[fd.closure.isEmpty,decide (fd.defaults = .none),decide (fd.kwdefaults = .none)])
noncomputable abbrev Seen3:=Bool×Option (Str×Str×List Bool)×(Setting→Option Addr)×List (Option (Arguments×FuncBody×Scope×Addr×Addr×List Bool))
def znX(S:SharedT):Seen3:=((stL T3r S).all id,zj2 S,fun st=>peek (zpH S T3r.tA) st (builtinsFor mainNs 0),T3r.fns.map (zsa T3r S))
def zjg:Seen3:=(true,some ("law", "law",[true,true,true]),fun X=>some 0,T3r.fns.map zsb)
def pcOf(st:Option Stmt)(kvs:List (Int×Str)):Pc:=⟨(stP st).es,(exP (stP st).e).ks,(exP (stP st).e).vs,(exP (stP st).e).p,(stP st).p,kvs⟩
def kvs3:List (Int×Str):=(zgv pw3 22).map fun q=>(q.1,za0 q.2)
def pc3:Pc:=pcOf (behindTheImports pw3)[21]? kvs3
def zuv(S0 S:SharedT):Bool×Seen3:=((zuk pw3 S0.abs.heap S.abs.heap).all id,znX S)
def headG{γ:Type}(p:Program)(ok:Addr→Bool)(N i:Nat)(x:Pc)(k:SharedT→SharedT→γ)(w:World)(q:Pos):Option γ:=zr4 (denote treeTable) p ok N i x k w q
def openG{γ:Type}(p:Program)(w:World)(N:Nat)(k:SharedT→γ):Option γ:=(zkZ (denote treeTable) p w N).map k
def head3(w:World)(q:Pos):Option (Bool×Seen3):=headG pw3 (zl1 28 6) 100000 21 pc3 zuv w q
def open3(w:World):Option (Nat×Option Value×Bool×Nat):=openG pw3 w 100000 fun S0=>(S0.n,S0.abs.heap.nsMap mainGlobals "__annotations__",S0.abs.heap.isNs mainGlobals,S0.gens.size)
end Mn
lay_quick Mn.headG
lay_quick Mn.openG
namespace Mn
theorem zl0(w:World):open3 w=some (28,some (.ref 6),true,0):=by
 unfold open3;rw [PySem.W.Fast.te7547173423337557763]
 kernel_rfl!
theorem zfK(b:Bool)(w:World)(q:Pos):head3 (w.withFollow "special-get-raises" b) q=some (true,zjg):=by
 unfold head3;induction b
 ·rw [PySem.W.Fast.te16251508014339835220]
  kernel_rfl!
 ·rw [PySem.W.Fast.te16251508014339835220]
  kernel_rfl!
end Mn
end
section
open PySem PySem.W
namespace Mn
variable {P:PM T3} {h:Hp} {K:AV→Hp→Prop}
noncomputable def b1L:List Int:=(T3.intSet 289).getD []
def fd(i:Nat):FDat:=zaf pw3 i none
def zmV(c:Nat):Bool:=b1L.contains (c:Int)
def w16(P:PM T3)(c:Nat):Wt:=pW P (fd 21,[]) [.str [c]] (.bool (zmV c))
theorem c_b1(B:Tbl T3 P.c)(c:Nat)(k:K (.bool (zmV c)) h):za3 P.up (.glob 299) [.str [c]] [] h K:=
 zb1 B (.asIs (.fin (p:=AV.bool (zmV c) = .bool (zmV c)) rfl):Sm P (w16 P c)) k
noncomputable def b3T:List (Int×List Nat):=(T3.intTab 300).getD []
def zf3(c:Nat):List Nat:=Option.casesOn (motive:=fun X=>List Nat) (b3T.find? fun e=>e.1==(c:Int)) (za8 [c]) fun e=>e.2
noncomputable def w18(P:PM T3)(c:Nat)(s:List Nat):Wt:=pW P (fd 23,[]) [.str [c]] (.str s)
theorem c_b3(B:Tbl T3 P.c)(c:Nat)(hl:Nat.ble (za8 [c]).length sizeL=true)(k:K (.str (zf3 c)) h):za3 P.up (.glob 345) [.str [c]] [] h K:=by
 refine zb1 B (?_:Sm P (w18 P c (zf3 c))) k;unfold zf3;induction e:b3T.find? (fun e=>e.1==(c:Int)) with
 | none=>exact .st .o e (.ff (.st .o hl (.asIs (.fin (p:=AV.str (za8 [c]) = .str (za8 [c])) rfl))))
 | some p=>exact .st (.en p.1 p.2) e (.tt (.asIs (.fin (p:=AV.str p.2 = .str p.2) rfl)))
theorem zaC:∀l:List (List Nat),zaM [] l=l.flatten
 | []=>rfl
 | [x]=>(aL x).symm
 | x :: y :: l=>by rw [zr0,zaC (y :: l),aL];rfl
def zd7(c:Nat):List Nat:=bif zmV c then [] else zf3 c
def zfv(c:Nat):Option AV:=bif zmV c then none else some (.str (zf3 c))
def okP(c:Nat):Prop:=(za8 [c]).length≤sizeL∧(zd7 c).length≤8
theorem zeG:∀z:List Nat,(∀c∈z,okP c)→∃ss:List (List Nat),z.filterMap zfv=ss.map .str∧zaM [] ss=z.flatMap zd7∧(ss.map List.length).sum≤8*z.length
 | [],_=>⟨[],rfl,rfl,rL _⟩
 | c :: z,h=>by
  obtain ⟨ss,e1,e2,e3⟩:=zeG z fun c q=>h c (mM _ q);have k:=(h c mS).2;rw [zaC] at e2;rw [List.flatMap_cons,←e2,List.filterMap_cons];unfold zfv zd7 at*;induction q:zmV c with
  | true=>exact ⟨ss,e1,zaC _,by rw [List.length_cons];exact lz2 0x211c0a01180047a01180041 e3⟩
  | false=>
   rw [q] at k;refine ⟨zf3 c :: ss,by rw [mC,←e1];rfl,zaC _,?_⟩;rw [mC,List.sum_cons,List.length_cons];have k:(zf3 c).length≤8:=k;exact lz3 0x211c0a01188000068200047a01180042 e3 k
noncomputable def H27(z:List Nat)(acc:List AV)(k:Nat):Hp:= .of [.frame [("typed", .str z)], .siter z k, .list false acc, .frame []]
def w27(P:PM T3)(z:List Nat):Wt:=pW P (fd 26,[]) [.str z] (.str (z.flatMap zd7))
theorem zrD(B:Tbl T3 P.c)(z:List Nat)(hz:z.length<10000)(hs:∀c∈z,okP c)(k:K (.str (z.flatMap zd7)) h):za3 P.up.up (.glob 357) [.str z] [] h K:=by
 refine zb1 B (?_:Sm P.up (w27 P.up z)) k;refine .loopM B 4 (zbV (z:=z)) (H27 z) (Fm zfv z) [] .ct rfl (fun X X X=>⟨by kernel_rfl,by kernel_rfl⟩) ?_ ?_
 ·intro acc k c e r
  refine .callP (c_b1 B c) ?_;induction q:zmV c with
  | true=>exact .ff (.next 4 (H27 z) (Fm zfv z) k acc (.to 3 []) (r.no e (by rw [zfv,q];rfl)))
  | false=>exact .tt (.callP (c_b3 B c (bt (hs c (mG e)).1)) (.asIs (.st .o (an (r.len (n:=sizeL) (Nat.lt_trans hz (by decide))) (rfl:(false || true)=true)) (.next 4 (H27 z) (Fm zfv z) k (acc ++ [.str (zf3 c)]) (.to 3 []) (r.one e (by rw [zfv,q];rfl))))))
 ·intro acc r
  obtain ⟨ss,e1,e2,e3⟩:=zeG z hs;exact .asIs (.st (.ls ss) (r.all.trans e1) (.st .o (bt (b:=sizeL) (lT e3 (lT (Nat.mul_le_mul_left 8 (lO hz)) (by decide)))) (.asIs (.fin (congrArg AV.str e2)))))
noncomputable def esc(all:Bool)(set:List Nat)(c:Nat):List Nat:=bif all || decide (c∈set) then [92,c] else [c]
def zhH(all:Bool)(set:List Nat)(c:Nat):AV:= .str (esc all set c)
theorem zp2(all:Bool)(set:List Nat)(c:Nat):(esc all set c).length≤2:=by unfold esc;induction all || decide (c∈set) <;> simp
theorem zcl(all:Bool)(set w:List Nat):w.map (zhH all set)=(w.map (esc all set)).map .str∧zaM [] (w.map (esc all set))=w.flatMap (esc all set)∧((w.map (esc all set)).map List.length).sum≤2*w.length:=by
 refine ⟨by rw [mN];rfl,by rw [zaC,List.flatMap_def],?_⟩;induction w with
 | nil=>exact rL _
 | cons c w ih=>have:=zp2 all set c;simp only [List.map_cons,List.sum_cons,List.length_cons];exact lz3 0x211c0881188000062200047881180042 ih this
theorem zgP(all:Bool)(set w:List Nat):(w.flatMap (esc all set)).length≤2*w.length:=by
 rw [List.flatMap_def,List.length_flatten];exact (zcl all set w).2.2
theorem zlL{all:Bool}{set:List Nat}{c:Nat}(h:(all || decide (c∈set))=true):zhH all set c = .str [92,c]:=by unfold zhH esc;rw [h];rfl
theorem zr9{all:Bool}{set:List Nat}{c:Nat}(h:(all || decide (c∈set))=false):zhH all set c = .str [c]:=by unfold zhH esc;rw [h];rfl
noncomputable def q03(way:Int):Bool:=[0,3].any (· == way)
def wrQ(way:Int)(w white:List Nat):List Nat:=white ++ [34]++w.flatMap (esc (way==3) [34,92]) ++ [34]
def wrB(way:Int)(w white:List Nat):List Nat:=w.flatMap (esc (way==1) [92,32])++white
def wr(way:Int)(w white:List Nat):List Nat:=bif q03 way then wrQ way w white else (bif way==2&&w.head? == some 34 then [92] else [])++wrB way w white
noncomputable def H28(way:Int)(w white:List Nat)(acc:List AV)(k:Nat):Hp:= .of [.frame [("white", .str white),("word", .str w)], .cell (some (.int way)), .siter w k, .list false acc, .frame []]
noncomputable def w28(P:PM T3)(w:List Nat)(way:Int)(white r:List Nat):Wt:=pW P (fd 27,[]) [.str w, .int way, .str white] (.str r)
theorem zbH(B:Tbl T3 P.c)(w white:List Nat)(way:Int)(hl:w.length≤1000)(hl2:white.length≤1000)(hne:w≠[])(k:K (.str (wr way w white)) h):za3 P.up (.glob 362) [.str w, .int way, .str white] [] h K:=by
 refine zb1 B (?_:Sm P (w28 P w way white (wr way w white))) k;have l0:w.length<sizeL:=lE hl (by decide);have lj:∀all set,((w.map (esc all set)).map List.length).sum≤2000:=fun all set=>lT (zcl all set w).2.2 (Nat.mul_le_mul_left 2 hl);have lf:∀all set,(w.flatMap (esc all set)).length≤2000:=fun all set=>lT (zgP all set w) (Nat.mul_le_mul_left 2 hl);refine (let ww:Wt:=_;(?_:Sm _ ww));refine .rf (.li [0,3]) [AV.int 0, .int 3] ?_;induction q:q03 way with
 | true=>
  refine .st (.b true) q (.st .o (bt (b:=sizeL) (?_:white.length + [34].length≤sizeL)) ?_)
  ·exact lT (Nat.add_le_add_right hl2 _) (by decide)
  refine .loopM B 5 (zbV (z:=w)) (H28 way w white) (Mp1 (zhH (way==3) [34,92]) w) [] .ct rfl (fun X X X=>⟨by kernel_rfl,by kernel_rfl⟩) ?_ ?_
  ·intro acc k c e r
   have nx:=r.next e;have z:=an (r.len (n:=sizeL) l0) (rfl:(false || true)=true);rcases fT ((way==3)) with q1 | q1
   ·refine .st (.b true) q1 (.tt (.ok (.asIs (.st .o z (.next 5 (H28 way w white) (Mp1 (zhH (way==3) [34,92]) w) k (acc ++ [.str [92,c]]) (.to 4 []) ?_)))))
    rw [zlL (by rw [q1];rfl)] at nx;exact nx
   ·refine .st (.b false) q1 ?_
    rcases fT (decide (c∈ [34,92])) with q2 | q2
    ·refine .st (.b true) q2 (.tt (.ok (.asIs (.st .o z (.next 5 (H28 way w white) (Mp1 (zhH (way==3) [34,92]) w) k (acc ++ [.str [92,c]]) (.to 4 []) ?_)))))
     rw [zlL (by rw [q1,q2];rfl)] at nx;exact nx
    ·refine .st (.b false) q2 (.ff (.asIs (.st .o z (.next 5 (H28 way w white) (Mp1 (zhH (way==3) [34,92]) w) k (acc ++ [.str [c]]) (.to 4 []) ?_))))
     rw [zr9 (by rw [q1,q2];rfl)] at nx;exact nx
  ·intro acc r
   have ej:=zcl (way==3) [34,92] w;have f1:=lf (way==3) [34,92];refine (let ww:Wt:=_;(?_:Sm _ ww));refine .asIs (.st (.ls (w.map (esc (way==3) [34,92]))) (r.all.trans ej.1) (.st .o (bt (b:=sizeL) (lT (lj (way==3) [34,92]) (by decide))) ?_));have j0:=ej.2.1;refine (let ww:Wt:=_;(?_:Sm _ ww));refine .st .o (bt (b:=sizeL) (?_:(white ++ [34]).length+(zaM [] (w.map (esc (way==3) [34,92]))).length≤sizeL)) (.st .o (bt (b:=sizeL) (?_:(white ++ [34]++zaM [] (w.map (esc (way==3) [34,92]))).length + [34].length≤sizeL)) (.asIs (.fin (congrArg AV.str (?_:white ++ [34]++zaM [] (w.map (esc (way==3) [34,92])) ++ [34]=wr way w white)))))
   ·rw [j0,lA];exact lT (jD (jD hl2 (rL 1)) (lf _ _)) (by decide)
   ·rw [j0,lA,lA];exact lT (jD (jD (jD hl2 (rL 1)) (lf _ _)) (rL 1)) (by decide)
   ·rw [j0];unfold wr;rw [q];rfl
 | false=>
  refine .st (.b false) q ?_;refine .loopM B 5 (zbV (z:=w)) (H28 way w white) (Mp1 (zhH (way==1) [92,32]) w) [] .ct rfl (fun X X X=>⟨by kernel_rfl,by kernel_rfl⟩) ?_ ?_
  ·intro acc k c e r
   have nx:=r.next e;have z:=an (r.len (n:=sizeL) l0) (rfl:(false || true)=true);rcases fT ((way==1)) with q1 | q1
   ·refine .st (.b true) q1 (.tt (.ok (.asIs (.st .o z (.next 5 (H28 way w white) (Mp1 (zhH (way==1) [92,32]) w) k (acc ++ [.str [92,c]]) (.to 4 []) ?_)))))
    rw [zlL (by rw [q1];rfl)] at nx;exact nx
   ·refine .st (.b false) q1 ?_
    rcases fT (decide (c∈ [92,32])) with q2 | q2
    ·refine .st (.b true) q2 (.tt (.ok (.asIs (.st .o z (.next 5 (H28 way w white) (Mp1 (zhH (way==1) [92,32]) w) k (acc ++ [.str [92,c]]) (.to 4 []) ?_)))))
     rw [zlL (by rw [q1,q2];rfl)] at nx;exact nx
    ·refine .st (.b false) q2 (.ff (.asIs (.st .o z (.next 5 (H28 way w white) (Mp1 (zhH (way==1) [92,32]) w) k (acc ++ [.str [c]]) (.to 4 []) ?_))))
     rw [zr9 (by rw [q1,q2];rfl)] at nx;exact nx
  ·intro acc r
   have ej:=zcl (way==1) [92,32] w;have f1:=lf (way==1) [92,32];refine (let ww:Wt:=_;(?_:Sm _ ww));refine .asIs (.st (.ls (w.map (esc (way==1) [92,32]))) (r.all.trans ej.1) (.st .o (bt (b:=sizeL) (lT (lj (way==1) [92,32]) (by decide))) ?_));have j0:=ej.2.1;induction q2:way==2 with
   | false=>
    refine (let ww:Wt:=_;(?_:Sm _ ww));refine .st (.b false) q2 (.ff (.st .o (bt (b:=sizeL) (?_:(zaM [] (w.map (esc (way==1) [92,32]))).length+white.length≤sizeL)) (.asIs (.fin (congrArg AV.str (?_:zaM [] (w.map (esc (way==1) [92,32]))++white=wr way w white))))))
    ·rw [j0];exact lT (jD (lf _ _) hl2) (by decide)
    ·rw [j0];unfold wr;rw [q,q2];rfl
   | true=>
    obtain ⟨c0,w',rfl⟩:=List.exists_cons_of_ne_nil hne;refine (let ww:Wt:=_;(?_:Sm _ ww));refine .st (.b true) q2 (.st (.n c0) (zbr (i:=0) rfl (bt (lO l0))) ?_);induction q3: [c0] == [34] with
    | false=>
     refine (let ww:Wt:=_;(?_:Sm _ ww));refine .st (.b false) q3 (.ff (.st .o (bt (b:=sizeL) (?_:(zaM [] ((c0 :: w').map (esc (way==1) [92,32]))).length+white.length≤sizeL)) (.asIs (.fin (congrArg AV.str (?_:zaM [] ((c0 :: w').map (esc (way==1) [92,32]))++white=wr way (c0 :: w') white))))))
     ·rw [j0];exact lT (jD (lf _ _) hl2) (by decide)
     ·rw [j0];unfold wr;rw [q,q2,show ((c0 :: w').head? == some 34)=false by simpa using q3];rfl
    | true=>
     refine .st (.b true) q3 (.tt (.st .o (bt (b:=sizeL) (?_: [92].length+(zaM [] ((c0 :: w').map (esc (way==1) [92,32]))).length≤sizeL)) (.st .o (bt (b:=sizeL) (?_:([92]++zaM [] ((c0 :: w').map (esc (way==1) [92,32]))).length+white.length≤sizeL)) (.asIs (.fin (congrArg AV.str (?_: [92]++zaM [] ((c0 :: w').map (esc (way==1) [92,32]))++white=wr way (c0 :: w') white)))))))
     ·rw [j0];exact lT (jD (rL 1) (lf _ _)) (by decide)
     ·rw [j0,lA];exact lT (jD (jD (rL 1) (lf _ _)) hl2) (by decide)
     ·rw [j0];unfold wr;rw [q,q2,show ((c0 :: w').head? == some 34)=true by simpa using q3,List.append_assoc];rfl
def fdH(j:Nat):FDat:=zhW pw3 5 j
noncomputable def hk:List Nat:=[95,104,101,97,100,101,114,115]
noncomputable def pA(p:List Nat×List Nat):AV:= .tup [.str p.1, .str p.2]
noncomputable def hO(xs:List AV):List AO:=[.inst 171 1, .dict true [(hk, .ref 2)], .list false xs]
def w240(P:PM T3):Wt:=dW P (fdH 0,[.none]) [.ref 1] [] [.dict true [], .inst 171 0] .none [.dict true [(hk, .ref 2)], .inst 171 0, .list false []]
theorem zpp(B:Tbl T3 P.c):za3 P.up (.glob 63) [.ref 1] [] (Hp.of [.dict true [], .inst 171 0]) (DK .none [.dict true [(hk, .ref 2)], .inst 171 0, .list false []]):=by
 refine zaW B (.ff (.tt (.ff (.tt ?_))):Sm P (w240 P));exact .loop (xs:= []) B 5 (zan (q:=(false, [])) (v:= .ref 3)) (fun (_:Unit) k=> .of [.dict true [(hk, .ref 3)], .inst 171 0, .frame [], .list false [], .liter (.ref 3) k]) (fun X X=>True) () (.to 2 []) trivial (fun X X X=>⟨by kernel_rfl,by kernel_rfl,by kernel_rfl⟩) (fun X X X e=>no e) fun X X=> .endD 2 .none [.dict true [(hk, .ref 2)], .inst 171 0, .list false []] [0,1,3]
noncomputable def rxB(b:Bool)(s:List Nat):Bool:=((T3.rx (cond b 43 48)).getD fun X=>true) s
def w241(P:PM T3)(xs:List AV)(s:List Nat)(b:Bool):Wt:=dW P (fdH 1,[]) [.ref 0, .str s] [("name", .bool b)] (hO xs) (.str s) (hO xs)
theorem zdC(B:Tbl T3 P.c)(xs:List AV)(s:List Nat)(b:Bool)(hr:rxB b s=false)(hs:s.length≤sizeL):za3 P.up (.glob 70) [.ref 0, .str s] [("name", .bool b)] (Hp.of (hO xs)) (DK (.str s) (hO xs)):=by
 refine zaW B (?_:Sm P (w241 P xs s b));induction b with
 | true=>exact .tt (.tt (.st .o (an (by rw [hr];rfl) (bt hs):(!rxB true s&&Nat.ble s.length sizeL)=true) (.ff (.asIs (.endD 3 (.str s) (hO xs) [0,1,2])))))
 | false=>exact .tt (.ff (.st .o (an (by rw [hr];rfl) (bt hs):(!rxB false s&&Nat.ble s.length sizeL)=true) (.ff (.asIs (.endD 3 (.str s) (hO xs) [0,1,2])))))
def zaL(s:List Nat)(p:List Nat×List Nat):Bool:=za8 p.1==za8 s
def okN(s:List Nat):Prop:=s.length≤sizeL∧(za8 s).length≤sizeL∧rxB true s=false∧rxB true (za8 s)=false
def okV(s:List Nat):Prop:=s.length≤100000∧rxB false s=false
def okH(ps:List (List Nat×List Nat)):Prop:=(∀p∈ps,(za8 p.1).length≤sizeL)∧ps.length<80000
def zgH(ps:List (List Nat×List Nat))(s:List Nat):AV:=Option.casesOn (motive:=fun X=>AV) (ps.find? (zaL s)) .none fun p=> .str p.2
theorem zf4{α:Type}{f:α→Bool}{z:List α}{k:Nat}{c:α}(e:z[k]? = some c)(h:(z.take k).find? f=none):(f c=true→z.find? f=some c)∧(f c=false→(z.take (k+1)).find? f=none):=by
 have tk:z.take (k+1)=z.take k ++ [c]:=by rw [List.take_succ,e];rfl
 refine ⟨fun q=>?_,fun q=>by rw [tk,List.find?_append,h,List.find?_cons_of_neg (by rw [q];exact Bool.false_ne_true)];rfl⟩;rw [←List.take_append_drop (k+1) z,List.find?_append,tk,List.find?_append,h,List.find?_cons_of_pos q];rfl
def zuL(ps:List (List Nat×List Nat))(s:List Nat)(_:Unit)(k:Nat):Hp:= .of [.inst 171 1, .dict true [(hk, .ref 2)], .list false (ps.map pA), .frame [("name", .str (za8 s)),("default", .none)], .liter (.ref 2) k]
def w248(P:PM T3)(ps:List (List Nat×List Nat))(s:List Nat):Wt:=dW P (fdH 8,[.none]) [.ref 0, .str s] [] (hO (ps.map pA)) (zgH ps s) (hO (ps.map pA))
def ztO(ps:List (List Nat×List Nat))(s:List Nat)(_:Unit)(k:Nat):Prop:=(ps.take k).find? (zaL s)=none
theorem zmf(B:Tbl T3 P.c)(ps:List (List Nat×List Nat))(s:List Nat)(hs:okN s)(hp:okH ps):za3 P.up.up (.glob 118) [.ref 0, .str s] [] (Hp.of (hO (ps.map pA))) (DK (zgH ps s) (hO (ps.map pA))):=by
 refine zaW B (?_:Sm P.up (w248 P.up ps s));refine .st .o (bt (b:=sizeL) hs.2.1) (.callD (zdC B (ps.map pA) (za8 s) true hs.2.2.2 hs.2.1) [0,1,2] ?_);refine .loopM B 5 (zan (q:=(false,ps.map pA)) (v:= .ref 2)) (zuL ps s) (ztO ps s) () (.to 3 [("name", .str (za8 s)),("default", .none)]) rfl (fun X X X=>⟨by kernel_rfl,by kernel_rfl,by kernel_rfl⟩) ?_ ?_
 ·intro X k p e r
  refine (let ww:Wt:=_;(?_:Sm _ ww));refine .st .o (bt (b:=sizeL) (hp.1 p (mG e))) ?_;rcases fT (zaL s p) with q | q
  ·exact .st (.b true) q (.asIs (.endE 3 (zgH ps s) (hO (ps.map pA)) [0,1,2] (.str p.2) (by unfold zgH;rw [(zf4 e r).1 q])))
  ·exact .st (.b false) q (.next 5 (zuL ps s) (ztO ps s) k () (.to 3 [("name", .str (za8 s)),("default", .none)]) ((zf4 e r).2 q))
 ·intro X r
  refine (let ww:Wt:=_;(?_:Sm _ ww));exact .asIs (.endE 3 (zgH ps s) (hO (ps.map pA)) [0,1,2] .none (by unfold zgH;rw [show ps.find? (zaL s)=none by simpa only [ztO,List.take_length] using r]))
def ztX(P:PM T3)(ps:List (List Nat×List Nat))(s v:List Nat)(r:AV)(os:List AO):Wt:=dW P (fdH 15,[]) [.ref 0, .str s, .str v] [] (hO (ps.map pA)) r os
theorem zaK(B:Tbl T3 P.c)(ps:List (List Nat×List Nat))(s v:List Nat)(p:List Nat×List Nat)(hs:okN s)(hp:okH ps)(hf:ps.find? (zaL s)=some p):za3 P.up.up.up (.glob 161) [.ref 0, .str s, .str v] [] (Hp.of (hO (ps.map pA))) (DK (.str p.2) (hO (ps.map pA))):=by
 refine zaW B (.callD (zmf B ps s hs hp) [0,1,2] ?_:Sm P.up.up (ztX P.up.up ps s v (.str p.2) (hO (ps.map pA))));have e:zgH ps s = .str p.2:=by unfold zgH;rw [hf]
 rw [e];exact .ff (.asIs (.endD 3 (.str p.2) (hO (ps.map pA)) [0,1,2]))
theorem zar(B:Tbl T3 P.c)(ps:List (List Nat×List Nat))(s v:List Nat)(hs:okN s)(hv:okV v)(hp:okH ps)(hf:ps.find? (zaL s)=none):za3 P.up.up.up (.glob 161) [.ref 0, .str s, .str v] [] (Hp.of (hO (ps.map pA))) (DK (.str v) (hO (ps.map pA ++ [pA (s,v)]))):=by
 refine zaW B (.callD (zmf B ps s hs hp) [0,1,2] ?_:Sm P.up.up (ztX P.up.up ps s v (.str v) (hO (ps.map pA ++ [pA (s,v)]))));have e:zgH ps s = .none:=by unfold zgH;rw [hf]
 rw [e];refine .tt (.callD (zdC (P:=P.up) B (ps.map pA) s true hs.2.2.1 hs.1) [0,1,2] (.callD (zdC (P:=P.up) B (ps.map pA) v false hv.2 (lT hv.1 (by decide))) [0,1,2] (.st .o (an (bt (b:=sizeL) ?_:Nat.ble (ps.map pA).length.succ sizeL=true) (rfl:(false || true)=true)) (.asIs (.endD 3 (.str v) (hO (ps.map pA ++ [pA (s,v)])) [0,1,2])))));rw [lM];exact Nat.lt_trans hp.2 (by decide)
theorem ziw{α:Type}(x:List α)(s c:Nat):((List.range c).map fun (k:Nat)=>((s:Int)+1*(k:Int)).toNat).filterMap (x[·]?)=(x.drop s).take c:=by
 induction c with
 | zero=>simp
 | succ c ih=>
  rw [List.range_succ,mA,List.filterMap_append,ih,List.take_add_one,List.getElem?_drop]
  congr 1
  have e:((s:Int)+1*(c:Int)).toNat=s+c:=by lia
  simp only [List.map_cons,List.map_nil,List.filterMap_cons,List.filterMap_nil,e]
  induction x[s+c]? <;> rfl
theorem zbl{α:Type}(x:List α)(s e:Nat):(sliceRange (s:Int) (e:Int) 1).filterMap (x[·]?)=(x.drop s).take (e-s):=by
 unfold sliceRange;have h1:(1:Int)>0:=by decide
 simp only [if_pos h1]
 by_cases h:(s:Int)<e
 ·rw [if_pos h]
  have:(((e:Int)-s+1-1)/1).toNat=e-s:=by lia
  rw [this];exact ziw x s (e-s)
 ·rw [if_neg h]
  have:e-s=0:=by lia
  rw [this];simp
theorem zoi(a:Nat):¬(a:Int)<0:=Int.not_lt.mpr (cN a)
theorem zfQ(a n:Nat):max 0 (min (a:Int) (n:Int))=((min a n:Nat):Int):=by
 have e:min (a:Int) (n:Int)=((min a n:Nat):Int):=(Nat.le_total a n).elim (fun h=>(Int.min_eq_left (Int.ofNat_le.mpr h)).trans (congrArg Nat.cast (Nat.min_eq_left h).symm)) fun h=>(Int.min_eq_right (Int.ofNat_le.mpr h)).trans (congrArg Nat.cast (Nat.min_eq_right h).symm);rw [e];exact Int.max_eq_right (cN _)
theorem zky{p q n:Nat}(h:p-q=n)(l:p≤n):q=0∧p=n∨n=0:=by
 obtain rfl:p=n:=Nat.le_antisymm l (h▸Nat.sub_le p q)
 cases p with
 | zero=>exact .inr rfl
 | succ p=>cases q with
  | zero=>exact .inl ⟨rfl,rfl⟩
  | succ q=>exact absurd (Nat.sub_le p q) (Nat.succ_sub_succ p q▸h▸Nat.not_succ_le_self p)
theorem ziv(s e:Nat):(sliceRange (s:Int) (e:Int) 1).length=e-s:=by
 unfold sliceRange;have h1:(1:Int)>0:=by decide
 simp only [if_pos h1,List.length_map,List.length_range]
 by_cases h:(s:Int)<e
 ·rw [if_pos h];lia
 ·rw [if_neg h];lia
theorem ze9{α:Type}(x:List α)(a:Nat):x.drop (min a x.length)=x.drop a:=by
 rcases Nat.le_total a x.length with h | h
 ·rw [Nat.min_eq_left h]
 ·rw [Nat.min_eq_right h,List.drop_of_length_le h,List.drop_length]
theorem zcq{α:Type}(x:List α)(a b:Nat):(x.drop a).take (min b x.length-min a x.length)=(x.drop a).take (b-a):=by
 rcases Nat.le_total a x.length with h | h
 ·rcases Nat.le_total b x.length with h2 | h2
  ·rw [Nat.min_eq_left h,Nat.min_eq_left h2]
  ·rw [Nat.min_eq_left h,Nat.min_eq_right h2,List.take_of_length_le (by simp),List.take_of_length_le (by simp;exact lz4 0x92001800492001c0047180042 h2 (lzs _ _))]
 ·rw [List.drop_of_length_le h];simp
theorem zdf(x:List Nat)(a b:Nat):zc2 x (some (a:Int)) (some (b:Int)) none=(x.drop a).take (b-a):=by
 unfold zc2 Builtin.Str.strSliceIndices;have h1:(1:Int)>0:=by decide
 have ha:=zoi a;have hb:=zoi b;have e1:=zfQ a x.length;have e2:=zfQ b x.length;simp only [Option.getD_none,if_pos h1,if_neg ha,if_neg hb,e1,e2]
 split
 ·rename_i h
  simp only [beq_self_eq_true,Bool.true_and,beq_iff_eq,ziv] at h
  have h3:=zky h (Nat.min_le_right _ _);rcases h3 with ⟨h3,h4⟩ | h3
  ·have:=zcq x a b
   rw [h3,h4] at this;rw [←this,←ze9,h3];simp
  ·have:x = []:=List.length_eq_zero_iff.mp h3
   subst this;simp
 ·rw [zbl,ze9,zcq]
theorem zdg{α:Type}(x:List α)(a b:Nat):za7 x (some (a:Int)) (some (b:Int)) none=(x.drop a).take (b-a):=by
 unfold za7 sliceBounds;have h1:(1:Int)>0:=by decide
 have ha:=zoi a;have hb:=zoi b;have e1:=zfQ a x.length;have e2:=zfQ b x.length;simp only [Option.getD_none,if_pos h1,if_neg ha,if_neg hb,e1,e2];rw [zbl,ze9,zcq]
theorem zam{α:Type}(x:List α)(a:Nat):za7 x (some (a:Int)) none none=x.drop a:=by
 have h:=zdg x a x.length;have e:(x.drop a).take (x.length-a)=x.drop a:=List.take_of_length_le (by simp);rw [e] at h;rw [←h];unfold za7 sliceBounds;have h1:(1:Int)>0:=by decide
 have h2:=zoi x.length;have h3:=(zfQ x.length x.length).trans (congrArg Nat.cast (Nat.min_self _));simp only [Option.getD_none,if_pos h1,if_neg h2,h3]
def fdN(j:Nat):FDat:=zhW pw3 18 j
noncomputable def kLn:List Nat:=[108,105,110,101,110,111]
noncomputable def kIn:List Nat:=[105,110,115,116,114,101,97,109]
noncomputable def kWs:List Nat:=[119,104,105,116,101,115,112,97,99,101]
noncomputable def kPb:List Nat:=[112,117,115,104,98,97,99,107]
noncomputable def kRd:List Nat:=[114,101,97,100]
noncomputable def wsL:List Nat:=[10,9,13,32]
def zdr:FDat:=zpJ none (zaf pw3 25 none).body[1]?
def zsG(T:List Nat)(p:Int):List AO:=[.inst 277 3, .dict true [(kLn, .int 1),(kIn, .none),(kWs, .str wsL),(kPb, .ref 4),(kRd, .ref 5)], .list false [], .clo zdr [("page",6)], .cell (some (.ref 7)), .list false [.str T, .int p]]
def zaH(T:List Nat)(p ln:Int)(pb:List AV):List AO:= .dict true [(kLn, .int ln),(kIn, .ref 2),(kWs, .str wsL),(kPb, .ref 8)] :: .inst 277 0 :: (zsG T p ++ [.list false pb])
def w130(P:PM T3):Wt:=dW P (fdN 0,[]) [.ref 1, .none] [] [.dict true [], .inst 277 0] .none [.dict true [(kLn, .int 1),(kIn, .none),(kWs, .str wsL),(kPb, .ref 2)], .inst 277 0, .list false []]
theorem zma(B:Tbl T3 P.c):za3 P.up (.glob 253) [.ref 1, .none] [] (Hp.of [.dict true [], .inst 277 0]) (DK .none [.dict true [(kLn, .int 1),(kIn, .none),(kWs, .str wsL),(kPb, .ref 2)], .inst 277 0, .list false []]):=
 zaW B (.tt (.endD 2 .none [.dict true [(kLn, .int 1),(kIn, .none),(kWs, .str wsL),(kPb, .ref 2)], .inst 277 0, .list false []] [0,1,3]):Sm P (w130 P))
def w131(P:PM T3)(T:List Nat):Wt:=dW P (fdN 0,[]) [.ref 1, .ref 2] [] (.dict true [] :: .inst 277 0 :: zsG T 0) .none (zaH T 0 1 [])
theorem zm9(B:Tbl T3 P.c)(T:List Nat):za3 P.up (.glob 253) [.ref 1, .ref 2] [] (Hp.of (.dict true [] :: .inst 277 0 :: zsG T 0)) (DK .none (zaH T 0 1 [])):=
 zaW B (.tt (.endD 8 .none (zaH T 0 1 []) [0,1,2,3,4,5,6,7,9]):Sm P (w131 P T))
def rdC(T:List Nat)(p:Nat):List Nat:=zc2 T (some (p:Int)) (some ((p:Int)+1)) none
theorem zit(T:List Nat)(p:Nat):rdC T p=(T.drop p).take 1:=by
 have:=zdf T p (p+1);rw [show p+1-p=1 by lia] at this;exact this
theorem zis(T:List Nat)(p:Nat):(rdC T p).length≤1:=by rw [zit,List.length_take];lia
def gvO(T:List Nat)(p:Int):List AO:=[.clo zdr [("page",1)], .cell (some (.ref 2)), .list false [.str T, .int p]]
def w26(P:PM T3)(T:List Nat)(p:Nat):Wt:=kW P zdr [("page",1)] [.int 1] (gvO T p) (.str (rdC T p)) (gvO T ((p:Int)+(rdC T p).length))
theorem zrJ(B:Tbl T3 P.c)(T:List Nat)(p:Nat)(hT:T.length≤1000000):za3 P.up (.ref 0) [.int 1] [] (Hp.of (gvO T p)) (DK (.str (rdC T p)) (gvO T ((p:Int)+(rdC T p).length))):=
 zpM B (.rf (.a (.str T)) (some (AV.str T)) (.rf (.a (.int p)) (some (AV.int p)) (.rf (.a (.int p)) (some (AV.int p)) (.ok (.st .o (bt (b:=sizeL) (lT hT (by decide))) (.rf (.a (.int p)) (some (AV.int p)) (.st .o (bt (b:=sizeL) (lT (zis T p) (by decide))) (.ok (.asIs (.endD 3 (.str (rdC T p)) (gvO T ((p:Int)+(rdC T p).length)) [0,1,2]))))))))):Sm P (w26 P T p))
def rdP(T:List Nat)(p:Nat):Nat:=p+(rdC T p).length
def rdL(T:List Nat)(p ln:Nat):Nat:=bif rdC T p == [10] then ln+1 else ln
def w132(P:PM T3)(T:List Nat)(p ln ln':Nat)(pb:List AV):Wt:=dW P (fdN 1,[]) [.ref 1] [] (zaH T p ln pb) (.str (rdC T p)) (zaH T (rdP T p) ln' pb)
theorem zh5(B:Tbl T3 P.c)(T:List Nat)(p ln:Nat)(pb:List AV)(hT:T.length≤1000000):za3 P.up.up (.glob 260) [.ref 1] [] (Hp.of (zaH T p ln pb)) (DK (.str (rdC T p)) (zaH T (rdP T p) (rdL T p ln) pb)):=by
 generalize e:rdL T p ln=ln';refine zaW B (.callD (zrJ B T p hT) [5,6,7] ?_:Sm P.up (w132 P.up T p ln ln' pb));unfold rdL at e;induction q:rdC T p == [10] with
 | true=>rw [q] at e;subst e;exact .st (.b true) q (.asIs (.endD 9 (.str (rdC T p)) (zaH T (rdP T p) ((ln+1:Nat):Int) pb) [0,1,2,3,4,5,6,7,8]))
 | false=>rw [q] at e;subst e;exact .st (.b false) q (.asIs (.endD 9 (.str (rdC T p)) (zaH T (rdP T p) (ln:Int) pb) [0,1,2,3,4,5,6,7,8]))
def w133(P:PM T3)(T:List Nat)(p ln:Int)(ws:List AV)(s:List Nat):Wt:=dW P (fdN 3,[]) [.ref 1, .str s] [] (zaH T p ln ws) .none (zaH T p ln (ws ++ [.str s]))
theorem znn(B:Tbl T3 P.c)(T:List Nat)(p ln:Int)(ws:List AV)(s:List Nat)(hn:ws.length<sizeL):za3 P.up (.glob 274) [.ref 1, .str s] [] (Hp.of (zaH T p ln ws)) (DK .none (zaH T p ln (ws ++ [.str s]))):=
 zaW B (.st .o (an (bt (b:=sizeL) hn:Nat.ble ws.length.succ sizeL=true) (rfl:(false || true)=true)) (.endD 9 .none (zaH T p ln (ws ++ [.str s])) [0,1,2,3,4,5,6,7,8]):Sm P (w133 P T p ln ws s))
def w134(P:PM T3)(T:List Nat)(p ln:Int)(w:List Nat)(ws:List AV):Wt:=dW P (fdN 2,[]) [.ref 1] [] (zaH T p ln (.str w :: ws)) (.str w) (zaH T p ln ws)
theorem zdA(B:Tbl T3 P.c)(T:List Nat)(p ln:Int)(w:List Nat)(ws:List AV)(hn:ws.length<1000):za3 P.up (.glob 267) [.ref 1] [] (Hp.of (zaH T p ln (.str w :: ws))) (DK (.str w) (zaH T p ln ws)):=
 zaW B (.st .o (bt (b:=sizeL) (Nat.lt_trans hn (by decide)):Nat.ble (ws.length+1) sizeL=true) (.tt (.rf (.ht (.str w) ws) (some (AV.str w,ws)) (.st .o (an (rfl:((0:Int)==0)=true) (bt (b:=sizeL) (Nat.lt_trans hn (by decide)):Nat.ble (ws.length+1) sizeL=true)) (.asIs (.endD 9 (.str w) (zaH T p ln ws) [0,1,2,3,4,5,6,7,8]))))):Sm P (w134 P T p ln w ws))
theorem JN.post{T:Tabs}{P:PM T}{t:Expr}{it:Nat}{h:Hp}{K:Option AV→Hp→Prop}(H:JN P t it h fun o h'=>∃g,Wk h' g∧h.nx≤g.nx∧(∀x,o=some x→x.bd 0=true)∧K o g):JN P t it h K:=fun A E Q s W G hr k1 k2=>H A E Q s W G hr (fun W' h' s' S ⟨g,w,l,X,q⟩=>k1 _ _ _ (S.wk w l) q) fun v s' z=>k2 v s' (wM z (fun X Z ⟨W',x,h',S,V,g,w,l,b,q⟩=>⟨W',x,g,S.wk w l,VR.bd0 (b x rfl) V,q⟩) fun X X q=>q)
theorem zbq{T r:List Nat}{p c:Nat}(h:T.drop p=c :: r):rdC T p = [c]∧rdP T p=p+1∧(∀ln,rdL T p ln=bif c==10 then ln+1 else ln)∧T.drop (p+1)=r∧p+1≤T.length:=by
 have e:rdC T p = [c]:=by rw [zit,h];rfl
 refine ⟨e,by unfold rdP;rw [e];rfl,fun ln=>by unfold rdL;rw [e];simp,by rw [←List.drop_drop,h];rfl,?_⟩;have:(T.drop p).length=r.length+1:=by rw [h];rfl
 rw [List.length_drop] at this;omega
theorem zge{T:List Nat}{p:Nat}(h:T.drop p = []):rdC T p = []∧rdP T p=p∧∀ln,rdL T p ln=ln:=by
 have e:rdC T p = []:=by rw [zit,h];rfl
 exact ⟨e,by unfold rdP;rw [e];rfl,fun ln=>by unfold rdL;rw [e];rfl⟩
section
variable {w:Wt} {ξ:Type}
noncomputable def lv:AO:= .citer (.ref 10) (.str []) false
noncomputable def dd:AO:= .citer .none .none true
noncomputable def lxH(HX:AO→Nat→Nat→ξ→Hp)(j:Bool×Nat×Nat×ξ):Hp:=HX (bif j.1 then dd else lv) j.2.1 j.2.2.1 j.2.2.2
noncomputable def lxM(T:List Nat)(j:Bool×Nat×Nat×ξ):Nat:=bif j.1 then 0 else T.length-j.2.1+1
def lxR(R RD:Nat→Nat→ξ→Prop)(j:Bool×Nat×Nat×ξ):Prop:=bif j.1 then RD j.2.1 j.2.2.1 j.2.2.2 else R j.2.1 j.2.2.1 j.2.2.2
noncomputable def lnN(c ln:Nat):Nat:=bif c==10 then ln+1 else ln
theorem zoB(B:Tbl T3 P.c)(T:List Nat)(hT:T.length≤1000000)(n:Nat)(HX:AO→Nat→Nat→ξ→Hp)(R RD:Nat→Nat→ξ→Prop)(p0 ln0:Nat)(x0:ξ)(wk:Wk w.hp (HX lv p0 ln0 x0))(h0:R p0 ln0 x0)
  (ht:∀p ln x c r,T.drop p=c :: r→R p ln x→Sm P.up.up (w.tw P.up.up (OnI (lxH HX) (lxM T) (lxR R RD) n (T.length-p+1)) (.str [c]) (HX lv (p+1) (lnN c ln) x)))
  (he:∀p ln x,T.drop p = []→R p ln x→Sm P.up.up (w.kh (HX dd p ln x))) (hd:∀p ln x,RD p ln x→Sm P.up.up (w.kh (HX dd p ln x)))
  (wp:∀p ln p' ln' x,Wk ((HX lv p ln x).patch [0,1,2,3,4,5,6,7,8] (Hp.of (zaH T (p':Nat) (ln':Nat) []))) (HX lv p' ln' x)) (wd:∀p ln x,Wk (((HX lv p ln x).patch [0,1,2,3,4,5,6,7,8] (Hp.of (zaH T (p:Nat) (ln:Nat) []))).set 11 dd) (HX dd p ln x))
  (g0:autoParam ((w.isF false,w.git,(HX lv p0 ln0 x0).nx,w.hp.nx)=(true,11,n,n)) kr1)
  (l1:∀p ln x,(Nat.blt 11 (HX lv p ln x).nx,(HX lv p ln x).at_ 11,((HX lv p ln x).at_ 10).bound?, [0,1,2,3,4,5,6,7,8].map (HX lv p ln x).at_, [0,1,2,3,4,5,6,7,8].all fun k=>Nat.blt k (HX lv p ln x).nx)=(true,lv,some (AV.ref 1,260),(zaH T p ln []).map (AO.ren (gl [0,1,2,3,4,5,6,7,8])),true):=by intros;kernel_rfl)
  (l2:∀p ln p' ln' x,(((HX lv p ln x).patch [0,1,2,3,4,5,6,7,8] (Hp.of (zaH T (p':Nat) (ln':Nat) []))).at_ 11,(((HX lv p ln x).patch [0,1,2,3,4,5,6,7,8] (Hp.of (zaH T (p':Nat) (ln':Nat) []))).at_ 10).bound?,(HX lv p' ln' x).nx,(HX dd p' ln' x).nx,Nat.blt 11 (HX dd p' ln' x).nx,(HX dd p' ln' x).at_ 11)=(lv,some (AV.ref 1,260),n,n,true,dd):=by intros;kernel_rfl):Sm P.up.up w:=by
 have eg:w.git=11:=congrArg (·.2.1) g0;refine ⟨Wt.loopX B n (lxH HX) (lxM T) (lxR R RD) (false,p0,ln0,x0) wk h0 (Prod.ext (congrArg (·.1) g0) (congrArg (·.2.2) g0)) fun i r=>?_⟩;rw [eg];obtain ⟨b,p,ln,x⟩:=i;have e2:=fun p' ln'=>l2 p ln p' ln' x;induction b with
 | true=>exact ⟨congrArg (·.2.2.2.2.1) (e2 p ln),zlc (congrArg (·.2.2.2.2.2) (e2 p ln)) (hd p ln x r).sem⟩
 | false=>
  have e:=l1 p ln x;refine ⟨congrArg (·.1) e,JN.post (zot (p:=(AV.ref 1,260)) (d:=(fdN 1, [])) (congrArg (·.2.1) e) (congrArg (·.2.2.1) e) (by kernel_rfl) (zm2 (d:=(fdN 1, [])) (congrArg (·.2.2.1) e) (by kernel_rfl) (zjK (h:=HX lv p ln x) (σ:= [0,1,2,3,4,5,6,7,8]) ⟨congrArg (·.2.2.2.1) e,?_⟩ (zh5 B T p ln [] hT) rfl rfl rfl rfl fun v E q=>?_)))⟩
  ·show (_&&_&&_&&_)=true
   exact an (by kernel_rfl) (congrArg (·.2.2.2.2) e)
  ·obtain ⟨rfl,rfl⟩:=q
   have f:=e2 (rdP T p) (rdL T p ln);have hn:(HX lv p ln x).nx=n:=congrArg (·.2.2.1) (e2 p ln);refine zcb rfl ⟨congrArg (·.1) f,congrArg (·.2.1) f,?_⟩;induction er:T.drop p using cL with
   | nil=>
    have tm50:=zge er;have e1:=tm50.1;have e3:=tm50.2.1;have e4:=tm50.2.2;rw [e1,e3,e4];exact .t rfl ⟨_,wd p ln x,eL (hn.trans (congrArg (·.2.2.2.1) (e2 p ln)).symm),nofun,(he p ln x er r).sem⟩
   | cons c r'=>
    have tm54:=zbq er;have e1:=tm54.1;have e3:=tm54.2.1;have e4:=tm54.2.2.1;have e5:=tm54.2.2.2.1;have e6:=tm54.2.2.2.2;rw [e1,e3,e4];exact .f rfl ⟨_,wp p ln (p+1) (lnN c ln) x,eL (hn.trans (congrArg (·.2.2.1) (e2 (p+1) (lnN c ln))).symm),fun x q=>sI q▸rfl,(ht p ln x c r' er r).sem⟩
end
def zq5:List Stmt:=zmY (fdN 2).body[3]?
def zs2:Option Stmt:=(zmY zq5[1]?)[0]?
def zpF:Option Stmt:=(ifO zq5[1]?)[2]?
def qF(b:Bool)(ln:Nat)(tok l:List Nat):List Nat×List Nat×Bool×Nat:=List.rec (motive:=fun X=>Bool→Nat→List Nat→List Nat×List Nat×Bool×Nat) (fun X ln tok=>(tok,[],false,ln))
 (fun c r f b ln tok=>bif b then f false (lnN c ln) (tok ++ [c]) else if c=34 then (tok,r,true,ln) else if c=92 then f true ln tok else f false (lnN c ln) (tok ++ [c])) l b ln tok
theorem qFn{b:Bool}{ln:Nat}{tok:List Nat}:qF b ln tok []=(tok,[],false,ln):=rfl
theorem qFt{ln c:Nat}{tok r:List Nat}:qF true ln tok (c :: r)=qF false (lnN c ln) (tok ++ [c]) r:=rfl
theorem qFf{ln c:Nat}{tok r:List Nat}:qF false ln tok (c :: r)=if c=34 then (tok,r,true,ln) else if c=92 then qF true ln tok r else qF false (lnN c ln) (tok ++ [c]) r:=rfl
def bF(b:Bool)(ln:Nat)(tok l:List Nat):List Nat×List Nat×Bool×Nat:=List.rec (motive:=fun X=>Bool→Nat→List Nat→List Nat×List Nat×Bool×Nat) (fun X ln tok=>(tok,[],false,ln))
 (fun c r f b ln tok=>bif b then f false (lnN c ln) (tok ++ [c]) else if c∈wsL then (tok,r,true,lnN c ln) else if c=92 then f true ln tok else f false ln (tok ++ [c])) l b ln tok
theorem bFn{b:Bool}{ln:Nat}{tok:List Nat}:bF b ln tok []=(tok,[],false,ln):=rfl
theorem bFt{ln c:Nat}{tok r:List Nat}:bF true ln tok (c :: r)=bF false (lnN c ln) (tok ++ [c]) r:=rfl
theorem bFf{ln c:Nat}{tok r:List Nat}:bF false ln tok (c :: r)=if c∈wsL then (tok,r,true,lnN c ln) else if c=92 then bF true ln tok r else bF false ln (tok ++ [c]) r:=rfl
def zfD(ln:Nat)(l:List Nat):List Nat×List Nat×Nat:=List.rec (motive:=fun X=>Nat→List Nat×List Nat×Nat) (fun ln=>([],[],ln))
 (fun c r f ln=>if c∈wsL then f (lnN c ln) else
  if c=34 then ((qF false ln [] r).1,(qF false ln [] r).2.1,(qF false ln [] r).2.2.2) else
  if c=92 then ((bF true ln [] r).1,(bF true ln [] r).2.1,(bF true ln [] r).2.2.2) else ((bF false ln [c] r).1,(bF false ln [c] r).2.1,(bF false ln [c] r).2.2.2)) l ln
theorem lxn{ln:Nat}:zfD ln []=([],[],ln):=rfl
theorem lxc{ln c:Nat}{r:List Nat}:zfD ln (c :: r)=if c∈wsL then zfD (lnN c ln) r else
  if c=34 then ((qF false ln [] r).1,(qF false ln [] r).2.1,(qF false ln [] r).2.2.2) else
  if c=92 then ((bF true ln [] r).1,(bF true ln [] r).2.1,(bF true ln [] r).2.2.2) else ((bF false ln [c] r).1,(bF false ln [c] r).2.1,(bF false ln [c] r).2.2.2):=rfl
theorem ar1{a n p r d:Nat}(hl:a+(n-p)≤1000000)(hp:p+1≤n)(h:d+(n-r)=n-(p+1)):a+d≤sizeL∧a+d+(n-r)≤1000000:=
 have e:d+(n-r)≤n-p:=h▸Nat.sub_le_sub_left (Nat.le_succ p) n;have k:a+d+(n-r)≤1000000:=Nat.add_assoc a d _▸lT (Nat.add_le_add_left e a) hl
 ⟨lT (lT (rA _ _) k) (by decide),k⟩
theorem ar2{n p r:Nat}(h:p+1≤r)(hr:r≤n):n-r+1<n-p+1:=Nat.succ_lt_succ (Nat.sub_lt_sub_left (lL h hr) h)
theorem ar3{n p:Nat}(h:p+1≤n):1+(n-(p+1))=n-p:=by rw [Nat.add_comm,Nat.sub_add_eq];exact Nat.sub_add_cancel (Nat.sub_pos_of_lt h)
theorem ar4{a n p:Nat}(hl:a+(n-p)≤1000000)(hp:p+1≤n):a+1≤sizeL∧a+1+(n-(p+1))≤1000000:=
 have k:a+1+(n-(p+1))≤1000000:=Nat.add_assoc a 1 _▸(ar3 hp).symm▸hl
 ⟨lT (lT (rA _ _) k) (by decide),k⟩
theorem ztl(T:List Nat)(p ln:Nat)(tok:List Nat):qF true ln tok (T.drop p)=qF false (rdL T p ln) (tok++rdC T p) (T.drop (rdP T p)):=by
 induction e:T.drop p using cL with
 | nil=>obtain ⟨e1,e2,e3⟩:=zge e;rw [e1,e2,e3,e,aL,qFn,qFn]
 | cons c r=>obtain ⟨e1,e2,e3,e4,X⟩:=zbq e;rw [e1,e2,e3,e4,qFt];rfl
theorem zra(T:List Nat)(p ln:Nat)(tok:List Nat):bF true ln tok (T.drop p)=bF false (rdL T p ln) (tok++rdC T p) (T.drop (rdP T p)):=by
 induction e:T.drop p using cL with
 | nil=>obtain ⟨e1,e2,e3⟩:=zge e;rw [e1,e2,e3,e,aL,bFn,bFn]
 | cons c r=>obtain ⟨e1,e2,e3,e4,X⟩:=zbq e;rw [e1,e2,e3,e4,bFt];rfl
theorem zir{T:List Nat}{p:Nat}(h:p≤T.length):p≤rdP T p∧rdP T p≤T.length∧(rdC T p).length+(T.length-rdP T p)=T.length-p:=by
 induction e:T.drop p using cL with
 | nil=>
  have tm58:=zge e;have e1:=tm58.1;have e2:=tm58.2.1;rw [e1,e2];exact ⟨rL _,h,Nat.zero_add _⟩
 | cons c r=>
  have tm61:=zbq e;have e1:=tm61.1;have e2:=tm61.2.1;have e5:=tm61.2.2.2.2;rw [e1,e2];exact ⟨Nat.le_succ p,e5,ar3 e5⟩
theorem zfl{T r:List Nat}{p:Nat}(h:p≤T.length)(e:T.drop p=r):p=T.length-r.length:=by
 rw [←congrArg List.length e,List.length_drop,Nat.sub_sub_self h]
def frT:Fr:=⟨(fdN 2).scope,9,[],none⟩
noncomputable def frL(tok:List Nat):List (Str×AV):=[("fiter", .ref 11),("token", .str tok),("self", .ref 1)]
def HXt(T:List Nat)(o:AO)(p ln:Nat)(tok:List Nat):Hp:= .of (zaH T p ln [] ++ [.frame (frL tok), .bound (.ref 1) 260,o])
def HXc(T:List Nat)(p ln:Nat)(tok:List Nat)(c:Nat):Hp:=(HXt T lv p ln tok).set 9 (.frame (("ch", .str [c]) :: frL tok))
noncomputable abbrev Rz:=List Nat×List Nat×Bool×Nat
def Rt(F:Bool→Nat→List Nat→List Nat→Rz)(T:List Nat)(Z:Rz)(p ln:Nat)(tok:List Nat):Prop:=F false ln tok (T.drop p)=Z∧p≤T.length∧tok.length+(T.length-p)≤1000000
def Rno{ξ:Type}(_ _:Nat)(_:ξ):Prop:=False
theorem zsy(B:Tbl T3 P.c)(T:List Nat)(hT:T.length≤1000000)(h:Hp)(k:Fl→Hp→Wt)(Z:Rz)(p0 ln0:Nat)(tok0:List Nat)(wk:Wk h (HXt T lv p0 ln0 tok0))(hn:h.nx=12)(h0:Rt qF T Z p0 ln0 tok0)
  (hr:Z.2.2.1=true→∀p c,p=T.length-Z.2.1.length→Sm P.up.up (k (.ret (.str Z.1)) (HXc T p Z.2.2.2 Z.1 c))) (he:Z.2.2.1=false→∀p,p=T.length-Z.2.1.length→Sm P.up.up (k .next (HXt T dd p Z.2.2.2 Z.1))):Sm P.up.up (.fj false frT (zr8 zs2) (zmY zs2) 11 h k):=by
 refine zoB B T hT 12 (HXt T) (Rt qF T Z) Rno p0 ln0 tok0 wk h0 ?_ ?_ (fun X X X z=>z.elim) (fun X X X X X=> .ct) (fun X X X=> .ct) (congrArg (fun m=>(true,11,12,m)) hn)
 ·rintro p ln tok c r er ⟨hz,hp,hl⟩
  obtain ⟨e1,e2,e3,e4,e5⟩:=zbq er;rcases fT ([c] == [34]) with q | q
  ·obtain rfl:c=34:=by simpa using q
   obtain rfl:(tok,r,true,ln)=Z:=by rw [←hz,er,qFf,if_pos rfl]
   refine (let ww:Wt:=_;(?_:Sm _ ww));exact .tt (.via (k (.ret (.str tok)) (HXc T (p+1) ln tok 34)) (hr rfl (p+1) 34 (zfl e5 e4)))
  ·have c1:c≠34:=by simpa using q
   refine (let ww:Wt:=_;(?_:Sm _ ww));refine .st (.b false) q ?_;rcases fT ([c] == [92]) with q | q
   ·obtain rfl:c=92:=by simpa using q
    obtain ⟨f1,f2,f3⟩:=zir e5;refine (let ww:Wt:=_;(?_:Sm _ ww));refine .tt (.callD (zh5 B T (p+1) ln [] hT) [0,1,2,3,4,5,6,7,8] (.st .o (bt (b:=sizeL) (?_:tok.length+(rdC T (p+1)).length≤sizeL)) (.nextI 12 (lxH (HXt T)) (lxM T) (lxR (Rt qF T Z) Rno) (T.length-p+1) (false,rdP T (p+1),rdL T (p+1) ln,tok++rdC T (p+1)) (.to 9 (frL (tok++rdC T (p+1)))) ?_ ⟨?_,f2,?_⟩)))
    ·exact (ar1 hl e5 f3).1
    ·exact ar2 f1 f2
    ·rw [←hz,er,qFf,if_neg (by decide),if_pos rfl,←e4];exact (ztl T (p+1) ln tok).symm
    ·exact lA▸(ar1 hl e5 f3).2
   ·have c2:c≠92:=by simpa using q
    refine (let ww:Wt:=_;(?_:Sm _ ww));refine .st (.b false) q (.st .o (bt (b:=sizeL) (?_:tok.length + [c].length≤sizeL)) (.nextI 12 (lxH (HXt T)) (lxM T) (lxR (Rt qF T Z) Rno) (T.length-p+1) (false,p+1,lnN c ln,tok ++ [c]) (.to 9 (frL (tok ++ [c]))) ?_ ⟨?_,e5,?_⟩))
    ·exact (ar4 hl e5).1
    ·exact ar2 (rL _) e5
    ·rw [←hz,er,qFf,if_neg c1,if_neg c2];exact congrArg _ e4
    ·exact lA▸(ar4 hl e5).2
 ·rintro p ln tok er ⟨hz,hp,hl⟩
  obtain rfl:(tok, [],false,ln)=Z:=by rw [←hz,er,qFn]
  refine (let ww:Wt:=_;(?_:Sm _ ww));exact .via (k .next (HXt T dd p ln tok)) (he rfl p (zfl hp er))
theorem zq4(B:Tbl T3 P.c)(T:List Nat)(hT:T.length≤1000000)(h:Hp)(k:Fl→Hp→Wt)(Z:Rz)(p0 ln0:Nat)(tok0:List Nat)(wk:Wk h (HXt T lv p0 ln0 tok0))(hn:h.nx=12)(h0:Rt bF T Z p0 ln0 tok0)
  (hr:Z.2.2.1=true→∀p c,p=T.length-Z.2.1.length→Sm P.up.up (k (.ret (.str Z.1)) (HXc T p Z.2.2.2 Z.1 c))) (he:Z.2.2.1=false→∀p,p=T.length-Z.2.1.length→Sm P.up.up (k .next (HXt T dd p Z.2.2.2 Z.1))):Sm P.up.up (.fj false frT (zr8 zpF) (zmY zpF) 11 h k):=by
 refine zoB B T hT 12 (HXt T) (Rt bF T Z) Rno p0 ln0 tok0 wk h0 ?_ ?_ (fun X X X z=>z.elim) (fun X X X X X=> .ct) (fun X X X=> .ct) (congrArg (fun m=>(true,11,12,m)) hn)
 ·rintro p ln tok c r er ⟨hz,hp,hl⟩
  have tm111:=zbq er;have e1:=tm111.1;have e2:=tm111.2.1;have e3:=tm111.2.2.1;have e4:=tm111.2.2.2.1;have e5:=tm111.2.2.2.2;rcases fT (decide (c∈wsL)) with q | q
  ·obtain rfl:(tok,r,true,lnN c ln)=Z:=by rw [←hz,er,bFf,if_pos (oD q)]
   exact .st (.b true) q (.via (k (.ret (.str tok)) (HXc T (p+1) (lnN c ln) tok c)) (hr rfl (p+1) c (zfl e5 e4)))
  ·have c1:=of_decide_eq_false q
   have el:lnN c ln=ln:=by
    unfold lnN;rw [show (c==10)=false from beq_eq_false_iff_ne.mpr fun e=>c1 (e▸by decide)];rfl
   refine .st (.b false) q ?_;rcases fT ([c] == [92]) with q | q
   ·obtain rfl:c=92:=by simpa using q
    have tm122:=zir e5;have f1:=tm122.1;have f2:=tm122.2.1;have f3:=tm122.2.2;refine .tt (.callD (zh5 B T (p+1) ln [] hT) [0,1,2,3,4,5,6,7,8] (.st .o (bt (b:=sizeL) (?_:tok.length+(rdC T (p+1)).length≤sizeL)) (.nextI 12 (lxH (HXt T)) (lxM T) (lxR (Rt bF T Z) Rno) (T.length-p+1) (false,rdP T (p+1),rdL T (p+1) ln,tok++rdC T (p+1)) (.to 9 (frL (tok++rdC T (p+1)))) ?_ ⟨?_,f2,?_⟩)))
    ·exact (ar1 hl e5 f3).1
    ·exact ar2 f1 f2
    ·rw [←hz,er,bFf,if_neg c1,if_pos rfl,←e4];exact (zra T (p+1) ln tok).symm
    ·exact lA▸(ar1 hl e5 f3).2
   ·have c2:c≠92:=by simpa using q
    refine .st (.b false) q (.st .o (bt (b:=sizeL) (?_:tok.length + [c].length≤sizeL)) (.nextI 12 (lxH (HXt T)) (lxM T) (lxR (Rt bF T Z) Rno) (T.length-p+1) (false,p+1,lnN c ln,tok ++ [c]) (.to 9 (frL (tok ++ [c]))) ?_ ⟨?_,e5,?_⟩))
    ·exact (ar4 hl e5).1
    ·exact ar2 (rL _) e5
    ·show bF false (lnN c ln) (tok ++ [c]) (T.drop (p+1))=Z
     rw [←hz,er,bFf,if_neg c1,if_neg c2,e4,el]
    ·exact lA▸(ar4 hl e5).2
 ·rintro p ln tok er ⟨hz,hp,hl⟩
  obtain rfl:(tok, [],false,ln)=Z:=by rw [←hz,er,bFn]
  exact .via (k .next (HXt T dd p ln tok)) (he rfl p (zfl hp er))
def Rl(T:List Nat)(L:List Nat×List Nat×Nat)(p ln:Nat)(tok:List Nat):Prop:=tok = []∧zfD ln (T.drop p)=L∧p≤T.length
def Rd(T:List Nat)(L:List Nat×List Nat×Nat)(p ln:Nat)(tok:List Nat):Prop:=tok=L.1∧p=T.length-L.2.1.length∧ln=L.2.2
def w135(P:PM T3)(T:List Nat)(p ln:Nat)(L:List Nat×List Nat×Nat):Wt:=dW P (fdN 2,[]) [.ref 1] [] (zaH T p ln []) (.str L.1) (zaH T (T.length-L.2.1.length:Nat) L.2.2 [])
theorem zej(B:Tbl T3 P.c)(T:List Nat)(hT:T.length≤90000)(p ln:Nat)(hp:p≤T.length)(L:List Nat×List Nat×Nat)(hL:zfD ln (T.drop p)=L):za3 P.up.up.up (.glob 267) [.ref 1] [] (Hp.of (zaH T p ln [])) (DK (.str L.1) (zaH T (T.length-L.2.1.length:Nat) L.2.2 [])):=by
 have hT':T.length≤1000000:=lT hT (by decide);refine zaW B (.ok (.ff ?_):Sm P.up.up (w135 P.up.up T p ln L));refine zoB B T hT' 12 (HXt T) (Rl T L) (Rd T L) p ln [] .ct ⟨rfl,hL,hp⟩ ?_ ?_ ?_ (fun X X X X X=> .ct) (fun X X X=> .ct)
 ·rintro p ln tok c r er ⟨rfl,hL,hp⟩
  obtain ⟨e1,e2,e3,e4,e5⟩:=zbq er;rw [er] at hL;rcases fT (decide (c∈wsL)) with q | q
  ·rw [lxc,if_pos (oD q)] at hL
   refine (let ww:Wt:=_;(?_:Sm _ ww));exact .st (.b true) q (.nextI 12 (lxH (HXt T)) (lxM T) (lxR (Rl T L) (Rd T L)) (T.length-p+1) (false,p+1,lnN c ln, []) (.to 9 (frL [])) (ar2 (rL _) e5) ⟨rfl,e4▸hL,e5⟩)
  ·have c1:=of_decide_eq_false q
   rw [lxc,if_neg c1] at hL;refine (let ww:Wt:=_;(?_:Sm _ ww));refine .st (.b false) q ?_;rcases fT ([c] == [34]) with q | q
   ·obtain rfl:c=34:=by simpa using q
    rw [if_pos rfl] at hL;generalize hz:qF false ln [] r=Z at hL;obtain ⟨z1,z2,z3,z4⟩:=Z;subst hL;refine (let ww:Wt:=_;(?_:Sm _ ww));refine .tt (.viaF frT (zr8 zs2) (zmY zs2) 11 (zsy B T hT' _ _ (z1,z2,z3,z4) (p+1) ln [] (.to 9 (frL [])) (by kernel_rfl) ⟨e4▸hz,e5,(Nat.zero_add _).symm▸lT (Nat.sub_le _ _) hT'⟩ ?_ ?_))
    ·rintro _ _ c' rfl
     exact .asIs (.endD 9 (.str z1) (zaH T (T.length-z2.length:Nat) z4 []) [0,1,2,3,4,5,6,7,8])
    ·rintro _ _ rfl
     exact .nextI 12 (lxH (HXt T)) (lxM T) (lxR (Rl T (z1,z2,z4)) (Rd T (z1,z2,z4))) (T.length-p+1) (true,T.length-z2.length,z4,z1) .ct (Nat.succ_pos _) ⟨rfl,rfl,rfl⟩
   ·have c2:c≠34:=by simpa using q
    rw [if_neg c2] at hL;refine (let ww:Wt:=_;(?_:Sm _ ww));refine .st (.b false) q ?_;rcases fT ([c] == [92]) with q | q
    ·obtain rfl:c=92:=by simpa using q
     obtain ⟨f1,f2,f3⟩:=zir e5;rw [if_pos rfl,←e4,zra] at hL;generalize hz:bF false (rdL T (p+1) ln) ([]++rdC T (p+1)) (T.drop (rdP T (p+1)))=Z at hL;obtain ⟨z1,z2,z3,z4⟩:=Z;subst hL;have f4:=zis T (p+1);refine (let ww:Wt:=_;(?_:Sm _ ww));refine .tt (.callD (zh5 B T (p+1) ln [] hT') [0,1,2,3,4,5,6,7,8] (.st .o (bt (b:=sizeL) (?_:0+(rdC T (p+1)).length≤sizeL)) (.viaF frT (zr8 zpF) (zmY zpF) 11 (zq4 B T hT' _ _ (z1,z2,z3,z4) (rdP T (p+1)) (rdL T (p+1) ln) ([]++rdC T (p+1)) (.to 9 (frL ([]++rdC T (p+1)))) (by kernel_rfl) ⟨hz,f2,?_⟩ ?_ ?_))))
     ·exact Nat.zero_add _▸lT f4 (by decide)
     ·exact f3▸lT (Nat.sub_le _ _) hT'
     ·rintro _ _ c' rfl
      exact .asIs (.endD 9 (.str z1) (zaH T (T.length-z2.length:Nat) z4 []) [0,1,2,3,4,5,6,7,8])
     ·rintro _ _ rfl
      exact .nextI 12 (lxH (HXt T)) (lxM T) (lxR (Rl T (z1,z2,z4)) (Rd T (z1,z2,z4))) (T.length-p+1) (true,T.length-z2.length,z4,z1) .ct (Nat.succ_pos _) ⟨rfl,rfl,rfl⟩
    ·have c3:c≠92:=by simpa using q
     rw [if_neg c3] at hL;generalize hz:bF false ln [c] r=Z at hL;obtain ⟨z1,z2,z3,z4⟩:=Z;subst hL;have el:lnN c ln=ln:=by
      unfold lnN;rw [show (c==10)=false from beq_eq_false_iff_ne.mpr fun e=>c1 (e▸by decide)];rfl
     refine (let ww:Wt:=_;(?_:Sm _ ww));refine .st (.b false) q (.ok (.viaF frT (zr8 zpF) (zmY zpF) 11 (zq4 B T hT' _ _ (z1,z2,z3,z4) (p+1) (lnN c ln) [c] (.to 9 (frL [c])) (by kernel_rfl) ⟨by rw [el,e4,hz],e5,ar3 e5▸lT (Nat.sub_le _ _) hT'⟩ ?_ ?_)))
     ·rintro _ _ c' rfl
      refine (let ww:Wt:=_;(?_:Sm _ ww));exact .asIs (.endD 9 (.str z1) (zaH T (T.length-z2.length:Nat) z4 []) [0,1,2,3,4,5,6,7,8])
     ·rintro _ _ rfl
      exact .nextI 12 (lxH (HXt T)) (lxM T) (lxR (Rl T (z1,z2,z4)) (Rd T (z1,z2,z4))) (T.length-p+1) (true,T.length-z2.length,z4,z1) .ct (Nat.succ_pos _) ⟨rfl,rfl,rfl⟩
 ·rintro p ln tok er ⟨rfl,hL,hp⟩
  rw [er,lxn] at hL;subst hL;obtain rfl:p=T.length-0:=zfl hp er;refine (let ww:Wt:=_;(?_:Sm _ ww));exact .asIs (.endD 9 (.str []) (zaH T (T.length-0:Nat) ln []) [0,1,2,3,4,5,6,7,8])
 ·rintro p ln tok ⟨rfl,rfl,rfl⟩
  exact .asIs (.endD 9 (.str L.1) (zaH T (T.length-L.2.1.length:Nat) L.2.2 []) [0,1,2,3,4,5,6,7,8])
def zt9(T:List Nat):List AO:=[.list false [.str T, .int 0], .dict true [(kLn, .int 1),(kIn, .ref 3),(kWs, .str wsL),(kPb, .ref 8)], .inst 277 1, .inst 277 4, .dict true [(kLn, .int 1),(kIn, .none),(kWs, .str wsL),(kPb, .ref 5),(kRd, .ref 6)], .list false [], .clo zdr [("page",7)], .cell (some (.ref 0)), .list false []]
def w26L(P:PM T3)(T:List Nat):Wt:=dW P (zaf pw3 25 (some (347,270,4)),[]) [.ref 0] [] [.list false [.str T, .int 0]] (.ref 2) (zt9 T)
theorem zjP(B:Tbl T3 P.c)(T:List Nat):za3 P.up.up.up (.glob 352) [.ref 0] [] (Hp.of [.list false [.str T, .int 0]]) (DK (.ref 2) (zt9 T)):=by
 refine zaW B (.newD (a:=277) (args:= [.none]) (zma B) [3,4] (.newD (a:=277) (args:= [.ref 4]) (zm9 B T) [7,8,4,3,5,6,2,0] ?_):Sm P.up.up (w26L P.up.up T));exact .asIs (.endD 1 (.ref 2) (zt9 T) [0,7,8,4,3,5,6,2,9])
noncomputable def H2(w:Int)(i:Nat):Hp:= .of [.frame [("ws", .ref 3),("need", .ref 2),("seen", .ref 1),("w", .int w),("more_than", .int 2048)], .set [], .set [], .set (Nat.rec (motive:=fun X=>List SV) [.int w] (fun X X=> []) i)]
def w2(P:PM T3)(w:Int):Wt:=dW P (zaf pw3 7 (some (178,0,0)),[.bool false]) [.int w, .int 5, .int 2048] [] [] (.ref 0) [.dict false []]
theorem zm8(B:Tbl T3 P.c)(w:Int)(hw:w≤2048):za3 P.up (.glob 183) [.int w, .int 5, .int 2048] [] (Hp.of []) (DK (.ref 0) [.dict false []]):=by
 refine zaW B (?_:Sm P (w2 P w));refine .whl B 4 (H2 w) (fun i=>1-i) (fun i=>i<2) 0 (.to 0 [("ws", .ref 3),("need", .ref 2),("seen", .ref 1),("w", .int w),("more_than", .int 2048)]) (by decide) fun i hi=>?_
 match i,hi with
 | 0,_=>exact .ok (.tt (.ff (.st (.b true) (dT hw) (.tt (.nextI 4 (H2 w) (fun i=>1-i) (fun i=>i<2) 1 1 (.to 0 [("ws", .ref 3),("need", .ref 2),("seen", .ref 1),("w", .int w),("more_than", .int 2048)]) (by decide) (by decide))))))
 | 1,_=>exact .ok (.ff (.ok (.tt (.asIs (.endD 0 (.ref 0) [.dict false []] [4])))))
def zi7:FDat:=zpJ none (zaf pw3 8 (some (185,128,4))).body[1]?
def inO(s:List Nat):List AO:=[.clo zi7 [("w5pow",1),("s",2),("inner",3),("DIGLIM",4)], .cell (some (.ref 5)), .cell (some (.str s)), .cell (some (.ref 0)), .cell (some (.int 2048)), .dict false []]
def w3i(P:PM T3)(s:List Nat)(i:Int):Wt:=kW P zi7 [("w5pow",1),("s",2),("inner",3),("DIGLIM",4)] [.int 0, .int s.length] (inO s) (.int i) (inO s)
theorem zmb(B:Tbl T3 P.c)(s:List Nat)(i:Int)(hl:s.length≤640)(e:zbn s=some i):za3 P.up (.ref 0) [.int 0, .int s.length] [] (Hp.of (inO s)) (DK (.int i) (inO s)):=by
 have es:zc2 s (some (0:Int)) (some (s.length:Int)) none=s:=by
  have:=zdf s 0 s.length;rwa [List.drop_zero,Nat.sub_zero,List.take_length] at this
 exact zpM B (.st (.b true) (dT (Int.le_trans (Int.sub_le_self _ (by decide)) (Int.le_trans (Int.ofNat_le.mpr hl) (by decide))):decide ((s.length:Int)-0≤2048)=true) (.ok (.st .o (bt (b:=sizeL) (lT hl (by decide))) (.st (.i i) (es.symm▸e:zbn (zc2 s (some (0:Int)) (some (s.length:Int)) none)=some i) (.asIs (.endD 6 (.int i) (inO s) [0,1,2,3,4,5]))))):Sm P (w3i P s i))
def w3(P:PM T3)(s:List Nat)(i:Int):Wt:=pW P (zaf pw3 8 (some (185,128,4)),[]) [.str s] (.int i)
theorem ztA(B:Tbl T3 P.c)(s:List Nat)(i:Int)(hl:s.length≤640)(e:zbn s=some i)(k:K (.int i) h):za3 P.up.up (.glob 190) [.str s] [] h K:=by
 have l:Nat.ble s.length sizeL=true:=bt (lT hl (by decide));exact zb1 B (.st .o l (.callD (zm8 B s.length (Int.le_trans (Int.ofNat_le.mpr hl) (by decide))) [] (.st .o l (.callD (zmb B s i hl e) [5,4,1,3,2,6] (.asIs (.fin (rfl:AV.int i = .int i)))))):Sm P.up (w3 P.up s i)) k
noncomputable def w4(P:PM T3)(s:List Nat)(i:Int):Wt:=pW P (fd 9,[]) [.str s] (.int i)
theorem zdB(B:Tbl T3 P.c)(s:List Nat)(i:Int)(hl:s.length≤640)(hr:zaV s=s)(h0:(Builtin.Str.occurrences (za0 s) (za0 [95]) 0 s.length (s.length+1)).isEmpty=true)(e:zbn s=some i)(k:K (.int i) h):za3 P.up.up.up (.glob 197) [.str s] [] h K:=by
 refine zb1 B (.st .o (bt (b:=sizeL) (lT hl (by decide))) (.st .o (hr.symm▸h0:(Builtin.Str.occurrences (za0 (zaV s)) (za0 [95]) 0 (zaV s).length ((zaV s).length+1)).isEmpty=true) (.callP (ztA B (zaV s) i (hr.symm▸hl) (hr.symm▸e)) (.asIs (.fin (rfl:AV.int i = .int i))))):Sm P.up.up (w4 P.up.up s i)) k
noncomputable def zdx(n:Nat)(l:List Int):Int:=List.rec (motive:=fun X=>Int) 0 (fun d X v=>d+2^n*v) l
theorem dvc{n:Nat}{d:Int}{r:List Int}:zdx n (d :: r)=d+2^n*zdx n r:=rfl
theorem dvn{n:Nat}:zdx n []=0:=rfl
theorem zcS(n:Nat):∀xs ys:List Int,zdx n (xs++ys)=zdx n xs+2^(n*xs.length)*zdx n ys
 | [],ys=>by rw [dvn,List.length_nil,Nat.mul_zero,Int.pow_zero,Int.one_mul,Int.zero_add];rfl
 | x :: xs,ys=>by
  rw [List.cons_append,dvc,zcS n xs ys,dvc,List.length_cons,Nat.mul_add,Nat.mul_one,Int.pow_add];generalize zdx n xs=a;generalize zdx n ys=b;generalize (2:Int)^n=c;generalize (2:Int)^(n*xs.length)=d;rw [Int.mul_add,Int.add_assoc,←Int.mul_assoc,Int.mul_comm c d]
theorem zdw(n M:Nat)(hn:1≤n):∀xs:List Int,(∀d∈xs,d.natAbs≤2^M)→(zdx n xs).natAbs+2^M≤2^M*2^(n*xs.length)
 | [],_=>by rw [List.length_nil,Nat.mul_zero,Nat.pow_zero,Nat.mul_one];exact eL (Nat.zero_add _)
 | x :: xs,h=>by
  have h1:=h x mS;have h2:=zdw n M hn xs fun d hd=>h d (mM _ hd);rw [dvc,List.length_cons,Nat.mul_add,Nat.mul_one,Nat.pow_add];have h3:(x+2^n*zdx n xs).natAbs≤x.natAbs+2^n*(zdx n xs).natAbs:=by
   refine lT (Int.natAbs_add_le _ _) ?_;rw [Int.natAbs_mul,Int.natAbs_pow];exact rL _
  have h4:2≤2^n:=pR (by decide:1≤2) hn;generalize (zdx n xs).natAbs=a at*;generalize 2^(n*xs.length)=d at*;generalize 2^n=c at*;generalize 2^M=m at*;have h5:c*a+c*m≤c*(m*d):=by rw [←Nat.mul_add];exact Nat.mul_le_mul_left _ h2
  have h6:2*m≤c*m:=Nat.mul_le_mul_right _ h4;have h7:m*(d*c)=c*(m*d):=by rw [←Nat.mul_assoc,Nat.mul_comm]
  exact lz7 0xc24600004c2c004a26204004b2880000491c00481c0180045 h3 h1 h5 h6 (lzr h7)
theorem zap{x:Int}{k:Nat}(h:x.natAbs<2^k)(hk:k≤1000000):za1 x=true:=by
 unfold za1;refine dT ?_;rcases Nat.eq_zero_or_pos x.natAbs with h0 | h0
 ·rw [h0];decide
 ·exact lL ((Nat.log2_lt (by lia)).mpr h) hk
theorem zhK{n M:Nat}(hn:1≤n){xs:List Int}(h:∀d∈xs,d.natAbs≤2^M)(hk:M+n*xs.length≤900000):za1 (zdx n xs)=true:=by
 have h1:=zdw n M hn xs h;rw [←Nat.pow_add] at h1;have h2:0<2^M:=Nat.pow_pos (by decide);exact zap (k:=M+n*xs.length+1) (by rw [Nat.pow_succ];exact lz3 0x222018460000478600000481c6000042 h1 h2) (lz2 0x3d090040a11c60000010dbba01021c6000041 hk)
noncomputable def dig(n:Nat)(x m:Nat):List Int:=Nat.rec (motive:=fun X=>Nat→List Int) (fun X=> []) (fun X f x=>(x%2^n:Nat) :: f (x/2^n)) m x
theorem dgs{n x m:Nat}:dig n x (m+1)=((x%2^n:Nat):Int) :: dig n (x/2^n) m:=rfl
theorem zea(n:Nat):∀(m x:Nat),(dig n x m).length=m
 | 0,_=>rfl
 | m+1,x=>by rw [dgs,List.length_cons,zea n m]
theorem zfa(n:Nat):∀(m k x:Nat),dig n x (m+k)=dig n (x%2^(n*m)) m++dig n (x/2^(n*m)) k
 | 0,k,x=>by rw [Nat.mul_zero,Nat.pow_zero,Nat.div_one,Nat.zero_add];rfl
 | m+1,k,x=>by
  rw [Nat.add_right_comm,dgs,zfa n m k,dgs,List.cons_append];have e:2^(n*(m+1))=2^n*2^(n*m):=by rw [Nat.mul_add,Nat.mul_one,Nat.add_comm,Nat.pow_add]
  rw [e,Nat.mod_mul_right_mod,Nat.mod_mul_right_div_self,Nat.div_div_eq_div_mul]
theorem zjw{n x:Nat}(h:x<2^n):dig n x 1 = [(x:Int)]:=by
 show [((x%2^n:Nat):Int)]=_;rw [Nat.mod_eq_of_lt h]
theorem zgU(n:Nat):∀(m x:Nat),x<2^(n*m)→zdx n (dig n x m)=x
 | 0,x,h=>by simp at h;subst h;rfl
 | m+1,x,h=>by
  have h2:x/2^n<2^(n*m):=by
   rw [Nat.div_lt_iff_lt_mul (Nat.pow_pos (by decide)),←Nat.pow_add,Nat.add_comm];rwa [Nat.mul_add,Nat.mul_one,Nat.add_comm] at h
  rw [dgs,dvc,zgU n m _ h2];have:=Nat.mod_add_div x (2^n);have e:((x%2^n+2^n*(x/2^n):Nat):Int)=x:=by rw [this]
  rw [←e];push_cast;rfl
theorem zbY(x y:Nat):Builtin.bitAnd (x:Int) (y:Int)=((x &&& y:Nat):Int):=by
 unfold Builtin.bitAnd;rw [dT (cN x),dT (cN y)]
 rfl
theorem zfk(x y:Nat):Builtin.bitOr (x:Int) (y:Int)=((x ||| y:Nat):Int):=by
 unfold Builtin.bitOr Builtin.bitAnd;have nx:Builtin.bitNot (x:Int) = -(x:Int)-1:=rfl;have ny:Builtin.bitNot (y:Int) = -(y:Int)-1:=rfl;rw [nx,ny,dF (by exact fun zz=>lzn (lz1 0x20840021185103801041 zz):¬(0:Int)≤ -(x:Int)-1),dF (by lia:¬(0:Int)≤ -(y:Int)-1)]
 dsimp only
 have n2:∀z:Int,Builtin.bitNot (Builtin.bitNot z)=z:=fun z=>by unfold Builtin.bitNot;lia
 have e1:(Builtin.bitNot (-(x:Int)-1)).toNat=x:=by unfold Builtin.bitNot;lia
 have e2:(Builtin.bitNot (-(y:Int)-1)).toNat=y:=by unfold Builtin.bitNot;lia
 rw [e1,e2,n2]
theorem znu(x s:Nat):Builtin.bitXor (x:Int) (((x/2^s*2^s:Nat)):Int)=((x%2^s:Nat):Int):=by
 have hor:x ||| (x/2^s*2^s)=x:=by
  apply Nat.eq_of_testBit_eq
  intro i;rw [Nat.testBit_or,Nat.testBit_mul_two_pow,Nat.testBit_div_two_pow];by_cases h:s≤i
  ·have:i-s+s=i:=Nat.sub_add_cancel h
   simp [h,this]
  ·simp [h]
 have hand:x &&& (x/2^s*2^s)=x/2^s*2^s:=by
  apply Nat.eq_of_testBit_eq
  intro i;rw [Nat.testBit_and,Nat.testBit_mul_two_pow,Nat.testBit_div_two_pow];by_cases h:s≤i
  ·have:i-s+s=i:=Nat.sub_add_cancel h
   simp [h,this]
  ·simp [h]
 unfold Builtin.bitXor;rw [zfk,zbY,hor,hand];have:=Nat.mod_add_div x (2^s);have e:x/2^s*2^s=2^s*(x/2^s):=Nat.mul_comm _ _;exact Int.le_antisymm (lz4 0x1c52451850c10492000481c0180042 (lzr this) (lzr e)) (lz4 0x2452050c61410472400481c6000042 (lzq this) (lzq e))
noncomputable def zc3(zs:List Int)(L:Nat)(ds:List Int):List Int:=zs.take L++ds++zs.drop (L+ds.length)
theorem zkL{zs:List Int}{L:Nat}{ds:List Int}(h:L+ds.length≤zs.length):(zc3 zs L ds).length=zs.length:=by
 unfold zc3;simp only [List.length_append,List.length_take,List.length_drop];lia
theorem zie{zs:List Int}{L:Nat}{d e:List Int}(h:L+d.length+e.length≤zs.length):zc3 (zc3 zs L d) (L+d.length) e=zc3 zs L (d++e):=by
 unfold zc3;have le:L≤zs.length:=lT (lT (rA ..) (rA ..)) h;have e1:(zs.take L++d).length=L+d.length:=by rw [lA,List.length_take,Nat.min_eq_left le]
 rw [List.take_append_of_le_length (eL e1.symm),List.take_of_length_le (eL e1),List.drop_append,List.drop_of_length_le (lT (eL e1) (rA ..):(zs.take L++d).length≤L+d.length+e.length),e1,List.nil_append,List.drop_drop,lA];have e2:L+d.length+(L+d.length+e.length-(L+d.length))=L+(d.length+e.length):=by rw [Nat.add_sub_cancel_left,Nat.add_assoc]
 rw [e2,aA,aA,aA,aA]
theorem zkK{zs:List Int}{L:Nat}{d:Int}(h:L<zs.length):zs.set L d=zc3 zs L [d]:=by
 unfold zc3;rw [List.set_eq_take_append_cons_drop,if_pos h,aA];rfl
theorem zkM{zs ds:List Int}(h:ds.length=zs.length):zc3 zs 0 ds=ds:=by
 unfold zc3;simp [h]
theorem zf0{x y:Int}(h:y.natAbs<2^64):Builtin.divisionGoesByPylong x y=false:=by
 unfold Builtin.divisionGoesByPylong
 dsimp only
 have h1:(if (y==0)=true then 0 else y.natAbs.log2/30+1)≤3:=by
  split
  ·decide
  ·rcases Nat.eq_zero_or_pos y.natAbs with h0 | h0
   ·rw [h0];decide
   ·exact uL (lT (Nat.div_le_div_right (Nat.le_of_lt_succ ((Nat.log2_lt (Nat.ne_of_gt h0)).mpr h))) (by decide:63/30≤2))
 have h2:decide ((if (y==0)=true then 0 else y.natAbs.log2/30+1)>300)=false:=dF (Nat.not_lt.mpr (lT h1 (by decide)));rw [h2];rfl
noncomputable def zaj(x:Nat):Nat:=if x=0 then 0 else x.log2+1
theorem zbh(x:Nat):zak (x:Int)=(zaj x:Int):=by
 unfold zak zaj;by_cases h:x=0
 ·subst h;rfl
 ·rw [if_neg h,if_neg (by lia),Int.natAbs_natCast];push_cast;rfl
theorem zbX(x:Nat):x<2^zaj x:=by
 unfold zaj;by_cases h:x=0
 ·subst h;decide
 ·rw [if_neg h];exact Nat.lt_log2_self
theorem zbs{x k:Nat}(h:x<2^k):zaj x≤k:=by
 unfold zaj;by_cases h0:x=0
 ·rw [if_pos h0];lia
 ·rw [if_neg h0];exact (Nat.log2_lt h0).mpr h
theorem zdp{x:Nat}(h:0<x):2^(zaj x-1)≤x:=by
 unfold zaj;rw [if_neg (by lia),Nat.add_sub_cancel];exact Nat.log2_self_le (by lia)
theorem zd5(k:Nat):(List.replicate k [AV.int 0]).flatten=(List.replicate k (0:Int)).map AV.int:=by
 induction k with
 | zero=>rfl
 | succ k ih=>rw [List.replicate_succ,List.flatten_cons,ih,List.replicate_succ];rfl
def zd0(w x:Nat):Nat:=(zaj x+w-1)/w
theorem zfB{w x:Nat}(hw:1≤w):x<2^(w*zd0 w x):=by
 refine lL (zbX x) (pR (by decide) ?_);unfold zd0;have:=Nat.lt_mul_div_succ (zaj x+w-1) (lz1 0x6860000046840041 hw:0<w);rw [Nat.mul_add] at this;exact lz4 0x72400611802090000612011c0846000042 this (lzs _ _)
theorem ziV{w x:Nat}:w*zd0 w x≤zaj x+w:=by
 unfold zd0;have:=Nat.mul_div_le (zaj x+w-1) w;exact lz4 0x92001800492001c0047180042 this (Nat.sub_le _ _)
theorem divU{A b:Nat}{q r:Int}(h:q*b+r=A)(h0:0≤r)(h1:r<b):q=((A/b:Nat):Int)∧r=((A%b:Nat):Int):=by
 have:=(Int.ediv_emod_unique (a:=(A:Int)) (b:=(b:Int)) (q:=q) (r:=r) (li [_] [_] 0x6161800041185846001046801042 h0 h1)).mpr ⟨by rw [Int.mul_comm] at h;lia,h0,h1⟩;rw [Int.natCast_ediv,Int.natCast_emod];exact ⟨this.1.symm,this.2.symm⟩
theorem zb2(x s:Nat):(x:Int).fdiv (2^(s:Int).toNat)=((x/2^s:Nat):Int):=by
 rw [Int.toNat_natCast,Int.fdiv_eq_ediv_of_nonneg _ (Int.pow_nonneg (by decide))];push_cast;rfl
theorem zbo(x s:Nat):(x:Int)*2^(s:Int).toNat=((x*2^s:Nat):Int):=by
 rw [Int.toNat_natCast];push_cast;rfl
theorem zlf(x h:Nat):Builtin.bitAnd (x:Int) ((2^h-1:Nat):Int)=((x%2^h:Nat):Int):=by
 rw [zbY,Nat.and_two_pow_sub_one_eq_mod]
theorem zgj{y h:Nat}(x:Nat)(hy:y<2^h):Builtin.bitOr ((x*2^h:Nat):Int) (y:Int)=((x*2^h+y:Nat):Int):=by
 rw [zfk,Nat.mul_comm,←Nat.two_pow_add_eq_or_of_lt hy]
theorem zgJ{a b n:Nat}(hb:2^(n-1)≤b)(hn:0<n)(ha:(zaj a:Int)-n≤4000):Builtin.divisionGoesByPylong (a:Int) (b:Int)=false:=by
 unfold Builtin.divisionGoesByPylong
 dsimp only
 have hb0:b≠0:=by have:=Nat.pow_pos (n:=n-1) (by decide:0<2);lia
 have hb1:((b:Int)==0)=false:=by simpa using hb0
 have lb:n-1≤b.log2:=(Nat.le_log2 hb0).mpr hb;have lb':(if ((b:Int)==0)=true then 0 else (b:Int).natAbs.log2/30+1)=b.log2/30+1:=by
  rw [hb1];simp
 have la:(if ((a:Int)==0)=true then 0 else (a:Int).natAbs.log2/30+1)≤b.log2/30+1+150:=by
  split
  ·exact lz1 0x96082846000800040
  ·rename_i q
   have ha0:a≠0:=by simpa using q
   have e:zaj a=a.log2+1:=by unfold zaj;rw [if_neg ha0]
   rw [Int.natAbs_natCast]
   lia
 refine Bool.and_eq_false_iff.mpr (.inr (dF ?_));rw [lb'];exact fun zz=>lzn (lz2 0x208400068425820a11c0000001096082847000180042 la zz)
theorem ze7(a b:Nat):(a:Int).fdiv b=((a/b:Nat):Int):=by
 rw [Int.fdiv_eq_ediv_of_nonneg _ (cN b),Int.natCast_ediv]
theorem zbE(a b:Nat):(a:Int).fmod b=((a%b:Nat):Int):=by
 rw [Int.fmod_eq_emod_of_nonneg _ (cN b),Int.natCast_emod]
theorem zju(a b h:Nat):a/2^h/b*2^h+(a/2^h%b*2^h+a%2^h)/b=a/b∧(a/2^h%b*2^h+a%2^h)%b=a%b:=by
 have e1:=Nat.div_add_mod a (2^h);have e2:=Nat.div_add_mod (a/2^h) b;have e3:a=a/2^h%b*2^h+a%2^h+b*(a/2^h/b*2^h):=by
  have:2^h*(a/2^h)=b*(a/2^h/b*2^h)+a/2^h%b*2^h:=by
   rw [←Nat.mul_assoc,←Nat.add_mul,e2,Nat.mul_comm]
  exact Nat.le_antisymm (lz5 0x920a00018004a2401c00481c0180042 (lzr e1) (lzq this)) (lz5 0x82472800000462890000481c6000042 (lzq e1) (lzr this))
 rcases Nat.eq_zero_or_pos b with rfl | hb
 ·refine ⟨by simp,?_⟩
  rw [Nat.mod_zero,Nat.mod_zero,Nat.mod_zero,Nat.mul_comm];exact e1
 ·constructor
  ·conv=>rhs;rw [e3]
   rw [Nat.add_mul_div_left _ _ hb,Nat.add_comm]
  ·conv=>rhs;rw [e3]
   rw [Nat.add_mul_mod_self_left]
theorem zg9(a h:Nat):a/2^(h+h)*2^h+a/2^h%2^h=a/2^h:=by
 rw [Nat.pow_add,←Nat.div_div_eq_div_mul,Nat.mul_comm];exact Nat.div_add_mod (a/2^h) (2^h)
def zrp:FDat:=zpJ none (zaf pw3 14 (some (220,183,4))).body[0]?
noncomputable def zuq:List (Str×Nat):=[("n",1),("inner",2),("digits",3)]
def zn8(ds:List Int)(w:Nat):List AO:=[.clo zrp zuq, .cell (some (.int w)), .cell (some (.ref 0)), .cell (some (.lst (ds.map .int)))]
def zep(w:Nat)(ds:List Int)(L R:Nat):Int:=zdx w ((ds.drop L).take (R-L))
def w9i(P:PM T3)(ds:List Int)(w L R:Nat)(r:AV):Wt:=kW P zrp zuq [.int L, .int R] (zn8 ds w) r (zn8 ds w)
theorem zmN(L R:Nat):((L:Int)+R).fdiv (2^(1:Int).toNat)=(((L+R)/2:Nat):Int):=by
 rw [show (2:Int)^(1:Int).toNat=2 from rfl,Int.fdiv_eq_ediv_of_nonneg _ (by decide)];rfl
theorem zlz{ds:List Int}{L:Nat}{d:Int}(hz:ds.length≤sizeL)(e:ds[L]? = some d):nth ((ds.map SV.int).map SV.av) (L:Int)=some (.int d):=
 zbr (by rw [gM,gM,e];rfl) (bt (by rw [lM,lM];exact hz))
theorem zmW{L R j:Nat}(h1:L+1<R)(h3:R-L≤2^(j+1)):L<(L+R)/2∧(L+R)/2<R∧(L+R)/2-L≤2^j∧R-(L+R)/2≤2^j:=by
 obtain ⟨d,rfl⟩:=Nat.exists_eq_add_of_lt (Nat.lt_of_succ_lt h1);have d1:0<d:=Nat.lt_of_add_lt_add_left (n:=L+1) (Nat.add_right_comm L d 1▸h1);have e:(L+(L+d+1))/2=L+(d+1)/2:=by rw [Nat.add_assoc L d 1,←Nat.add_assoc,←Nat.mul_two,Nat.mul_comm,Nat.mul_add_div (by decide)]
 rw [Nat.add_assoc L d 1,Nat.add_sub_cancel_left,Nat.pow_succ] at h3;rw [e,Nat.add_sub_cancel_left,Nat.add_assoc L d 1,Nat.add_sub_add_left];have q:(d+1)/2≤2^j:=Nat.div_le_of_le_mul (Nat.mul_comm 2 _▸h3);refine ⟨Nat.lt_add_of_pos_right (Nat.div_pos (uL d1) (by decide)),Nat.add_lt_add_left (Nat.div_lt_self (Nat.succ_pos d) (by decide)) L,q,?_⟩;clear h1 e
 omega
theorem zaz{n:Nat}(h:n≤900000):za1 (n:Int)=true:=zap (k:=20) (by rw [Int.natAbs_natCast];exact lE h (by decide)) (by decide)
theorem zbz(n:Nat):(n:Int).toNat=n:=Int.toNat_natCast n
theorem zjz{w L m R:Nat}{ds:List Int}(m1:L<m)(m2:m<R)(h2:R≤ds.length):zep w ds m R*2^(((m-L)*w:Nat):Int).toNat+zep w ds L m=zep w ds L R:=by
 unfold zep;have e3:(ds.drop L).take (R-L)=(ds.drop L).take (m-L)++(ds.drop m).take (R-m):=by
  have:R-L=(m-L)+(R-m):=by rw [Nat.add_comm,Nat.sub_add_sub_cancel (lO m2) (lO m1)]
  rw [this,List.take_add,List.drop_drop,Nat.add_sub_cancel' (lO m1)]
 rw [e3,zcS,List.length_take,List.length_drop,Nat.min_eq_left (Nat.sub_le_sub_right (lT (lO m2) h2) L),zbz,Nat.mul_comm (m-L) w,Int.add_comm,Int.mul_comm]
theorem zjA{w M L R:Nat}{ds:List Int}(hw:1≤w)(hM:∀d∈ds,d.natAbs≤2^M)(hs:M+w*ds.length≤900000):za1 (zep w ds L R)=true:=
 zhK hw (M:=M) (fun d hd=>hM d (List.mem_of_mem_drop (List.mem_of_mem_take hd))) (lT (Nat.add_le_add_left (Nat.mul_le_mul_left w (by rw [List.length_take,List.length_drop];exact lT (Nat.min_le_right _ _) (Nat.sub_le _ _))) M) hs)
theorem zdH{m L:Nat}(h:L<m):(m:Int)-L=((m-L:Nat):Int):=(Int.ofNat_sub (lO h)).symm
theorem zmj(B:Tbl T3 P.c)(ds:List Int)(w M:Nat)(hw:1≤w)(hM:∀d∈ds,d.natAbs≤2^M)(hs:M+w*ds.length≤900000):
  ∀(j L R:Nat),L<R→R≤ds.length→R-L≤2^j→za3 (P.lv j).up (.ref 0) [.int L, .int R] [] (Hp.of (zn8 ds w)) (DK (.int (zep w ds L R)) (zn8 ds w)):=by
 have hwd:w*ds.length≤900000:=lT (Nat.le_add_left _ _) hs;have dl:ds.length≤900000:=lT (Nat.le_mul_of_pos_left _ hw) hwd;have base:∀(Q:PM T3),Tbl T3 Q.c→∀L,L+1≤ds.length→za3 Q.up (.ref 0) [.int L, .int (L+1:Nat)] [] (Hp.of (zn8 ds w)) (DK (.int (zep w ds L (L+1))) (zn8 ds w)):=fun Q B L hl=>by
  have e:zep w ds L (L+1)=ds[L]:=by
   unfold zep;rw [Nat.add_sub_cancel_left,show (ds.drop L).take 1 = [ds[L]] by rw [List.drop_eq_getElem_cons hl];rfl,dvc,dvn];simp
  rw [e];exact zpM B (.st (.b true) (bS ((L:Int)+1)) (.st (.a (.int ds[L])) (zlz (lT dl (by decide)) (gG hl)) (.asIs (.endD 4 (.int ds[L]) (zn8 ds w) [0,1,2,3]))):Sm Q (w9i Q ds w L (L+1) (.int ds[L])))
 intro j;induction j with
 | zero=>
  intro L R h1 h2 h3;obtain rfl:R=L+1:=by rw [Nat.pow_zero] at h3;exact Nat.le_antisymm (lz3 0x212001c00481801c0061180042 h3 (lzs _ _)) (lz2 0x7846000047846000041 h1)
  exact base P B L h2
 | succ j ih=>
  intro L R h1 h2 h3;by_cases e:R=L+1
  ·subst e;exact base (P.lv (j+1)) (P.lv_c (j+1)▸B) L h2
  have h1':L+1<R:=Nat.lt_of_le_of_ne h1 (Ne.symm e);have tm54:=zmW h1' h3;have m1:=tm54.1;have m2:=tm54.2.1;have l1:=tm54.2.2.1;have l2:=tm54.2.2.2;have em:=zmN L R;generalize (L+R)/2=m at*;have mb:m-L≤ds.length:=lT (Nat.sub_le _ _) (lT (lO m2) h2);have sb:(m-L)*w≤900000:=lT (Nat.mul_comm w _▸Nat.mul_le_mul_left w mb) hwd;have wb:w≤900000:=lT (Nat.le_mul_of_pos_right w (lL (Nat.zero_lt_of_lt h1) h2)) hwd;have B':Tbl T3 (P.lv (j+1)).c:=P.lv_c (j+1)▸B;exact zpM B' (.st (.b false) (beq_eq_false_iff_ne.mpr fun q=>e (Int.ofNat_inj.mp q).symm:((L:Int)+1==R)=false) (.st (.i m) (aO em (rfl:decide (0≤(1:Int))=true)) (.st (.i ((m-L)*w:Nat)) (aO (by rw [zdH m1];rfl:((m:Int)-L)*w=(((m-L)*w:Nat):Int)) (an (zdH m1▸zaz (lT mb dl):za1 ((m:Int)-L)=true) (zaz wb))) (.callD (ih m R m2 h2 l2) [0,1,2,3] (.st (.i (zep w ds m R*2^(((m-L)*w:Nat):Int).toNat)) (aO (rfl:zep w ds m R*2^(((m-L)*w:Nat):Int).toNat=zep w ds m R*2^(((m-L)*w:Nat):Int).toNat) (an (an (dT (cN _)) (dT (Int.ofNat_le.mpr (lT sb (by decide:900000≤1000000)))):(decide (0≤(((m-L)*w:Nat):Int))&&decide ((((m-L)*w:Nat):Int)≤1000000))=true) (zjA (L:=m) (R:=R) hw hM hs))) (.callD (ih L m m1 (lT (lO m2) h2) l1) [0,1,2,3] (.asIs (.endE 4 (.int (zep w ds L R)) (zn8 ds w) [0,1,2,3] (.int (zep w ds m R*2^(((m-L)*w:Nat):Int).toNat+zep w ds L m)) (congrArg AV.int (zjz m1 m2 h2).symm)))))))):Sm (P.lv (j+1)) (w9i (P.lv (j+1)) ds w L R (.int (zep w ds L R))))
def w9(P:PM T3)(ds:List Int)(w:Nat)(r:AV):Wt:=pW P (zaf pw3 14 (some (220,183,4)),[]) [.lst (ds.map .int), .int w] r
theorem ztD(B:Tbl T3 P.c)(j:Nat)(ds:List Int)(w M:Nat)(hw:1≤w)(hj:ds.length≤2^j)(hM:∀d∈ds,d.natAbs≤2^M)(hs:M+w*ds.length≤900000)(k:K (.int (zdx w ds)) h):za3 (P.lv j).up.up (.glob 225) [.lst (ds.map .int), .int w] [] h K:=by
 have dl:(ds.map SV.int).length≤sizeL:=by rw [lM];exact lT (Nat.le_mul_of_pos_left _ hw) (lT (lT (Nat.le_add_left _ _) hs) (by decide))
 have C:=zmj B ds w M hw hM hs j 0 ds.length;refine zb1 (P:=(P.lv j).up) (P.lv_c j▸B) (?_:Sm (P.lv j).up (w9 (P.lv j).up ds w (.int (zdx w ds)))) k;induction ds using cL with
 | nil=>exact .ok (.ff (.asIs (.fin (rfl:AV.int 0 = .int 0))))
 | cons d r=>
  have e:((r.map SV.int).map SV.av).length=r.length:=by rw [lM,lM]
  have e2:((((r.map SV.int).map SV.av).length+1:Nat):Int)=((d :: r).length:Nat):=by rw [e];rfl
  refine .st .o (bt (b:=sizeL) (dl:(r.map SV.int).length+1≤sizeL)) (.tt (.st .o (bt (b:=sizeL) (e▸lM (as:=r) SV.int▸dl:((r.map SV.int).map SV.av).length+1≤sizeL)) (.callD (f:= .ref 0) (as:= [.int (0:Nat), .int ((d :: r).length:Nat)]) (kw:= []) (C (Nat.succ_pos _) (rL _) hj) [4,2,3,1] (.asIs (.fin (congrArg AV.int (?_:zep w (d :: r) 0 (d :: r).length=zdx w (d :: r))))) ?_)))
  ·unfold zep;rw [Nat.sub_zero,List.drop_zero,List.take_length]
  ·rw [show (AV.int ((d :: r).length:Nat)) = .int ((((r.map SV.int).map SV.av).length+1:Nat):Int) from congrArg AV.int e2.symm]
   kernel_rfl
def zoR:FDat:=zpJ none (zaf pw3 13 (some (213,168,4))).body[1]?
noncomputable def zub:List (Str×Nat):=[("n",1),("inner",2),("a_digits",3)]
def zlE(zs:List Int)(w:Nat):List AO:=[.clo zoR zub, .cell (some (.int w)), .cell (some (.ref 0)), .cell (some (.ref 4)), .list false (zs.map .int)]
def w8i(P:PM T3)(zs zs':List Int)(w:Nat)(x:Int)(L R:Nat):Wt:=kW P zoR zub [.int x, .int L, .int R] (zlE zs w) .none (zlE zs' w)
theorem zkJ{zs:List Int}{L:Nat}{x:Int}(h:L<zs.length):(zs.map AV.int).set (L:Int).toNat (.int x)=(zc3 zs L [x]).map AV.int:=by rw [←zkK h,List.map_set];rfl
theorem zrr{w L m R x:Nat}(m1:L<m)(m2:m<R)(hx:x<2^(w*(R-L))):x%2^(w*(m-L))<2^(w*(m-L))∧x/2^(w*(m-L))<2^(w*(R-m)):=by
 refine ⟨mT _ (Nat.pow_pos (by decide)),?_⟩;rw [Nat.div_lt_iff_lt_mul (Nat.pow_pos (by decide)),←Nat.pow_add,←Nat.mul_add,Nat.sub_add_sub_cancel (lO m2) (lO m1)];exact hx
theorem zlR{w L m R x:Nat}{zs:List Int}(m1:L<m)(m2:m<R)(h2:R≤zs.length):zc3 (zc3 zs L (dig w (x%2^(w*(m-L))) (m-L))) m (dig w (x/2^(w*(m-L))) (R-m))=zc3 zs L (dig w x (R-L))∧(zc3 zs L (dig w (x%2^(w*(m-L))) (m-L))).length=zs.length:=by
 have el:L+(dig w (x%2^(w*(m-L))) (m-L)).length=m:=by rw [zea,Nat.add_sub_cancel' (lO m1)]
 have:=zie (zs:=zs) (L:=L) (d:=dig w (x%2^(w*(m-L))) (m-L)) (e:=dig w (x/2^(w*(m-L))) (R-m)) (by rw [el,zea,Nat.add_sub_cancel' (lO m2)];exact h2);rw [el] at this;rw [this,←zfa,zkL (by rw [el];exact lT (lO m2) h2)];exact ⟨by congr 2;rw [Nat.add_comm,Nat.sub_add_sub_cancel (lO m2) (lO m1)],rfl⟩
theorem zmc(B:Tbl T3 P.c)(w:Nat)(hw:1≤w):
  ∀(j L R x:Nat) (zs:List Int),L<R→R≤zs.length→w*zs.length≤900000→R-L≤2^j→x<2^(w*(R-L))→za3 (P.lv j).up (.ref 0) [.int x, .int L, .int R] [] (Hp.of (zlE zs w)) (DK .none (zlE (zc3 zs L (dig w x (R-L))) w)):=by
 have base:∀(Q:PM T3),Tbl T3 Q.c→∀(L x:Nat) (zs:List Int),L+1≤zs.length→w*zs.length≤900000→x<2^w→za3 Q.up (.ref 0) [.int x, .int L, .int (L+1:Nat)] [] (Hp.of (zlE zs w)) (DK .none (zlE (zc3 zs L [(x:Int)]) w)):=fun Q B L x zs hl hz hx=>by
  have dl:zs.length≤900000:=lT (Nat.le_mul_of_pos_left _ hw) hz;have lz:((zs.map AV.int).length)=zs.length:=lM ..;refine zpM B (.st (.b true) (bS ((L:Int)+1)) (.st .o (?_:(decide (0≤(L:Int))&&decide ((L:Int)<(zs.map AV.int).length)&&Nat.ble (zs.map AV.int).length sizeL&&(false || true))=true) (.asIs (.endD 5 .none (zlE (zc3 zs L [(x:Int)]) w) [0,1,2,3,4] (e:=?_)))):Sm Q (w8i Q zs (zc3 zs L [(x:Int)]) w x L (L+1)))
  ·rw [lz];exact an (an (an (dT (cN L)) (dT (Int.ofNat_lt.mpr hl))) (bt (lT dl (by decide)))) rfl
  ·unfold zlE;rw [←zkJ hl];kernel_rfl
 intro j;induction j with
 | zero=>
  intro L R x zs h1 h2 hz h3 hx;obtain rfl:R=L+1:=by rw [Nat.pow_zero] at h3;lia
  rw [Nat.add_sub_cancel_left,Nat.mul_one] at hx;rw [Nat.add_sub_cancel_left,zjw hx];exact base P B L x zs h2 hz hx
 | succ j ih=>
  intro L R x zs h1 h2 hz h3 hx;have B':Tbl T3 (P.lv (j+1)).c:=P.lv_c (j+1)▸B;by_cases e:R=L+1
  ·subst e
   rw [Nat.add_sub_cancel_left,Nat.mul_one] at hx;rw [Nat.add_sub_cancel_left,zjw hx];exact base (P.lv (j+1)) B' L x zs h2 hz hx
  have tm49:=zmW (Nat.lt_of_le_of_ne h1 (Ne.symm e)) h3;have m1:=tm49.1;have m2:=tm49.2.1;have l1:=tm49.2.2.1;have l2:=tm49.2.2.2;have em:=zmN L R;generalize (L+R)/2=m at*;have dl:zs.length≤900000:=lT (Nat.le_mul_of_pos_left _ hw) hz;have mb:m-L≤zs.length:=lT (Nat.sub_le _ _) (lT (lO m2) h2);have sb:w*(m-L)≤900000:=lT (Nat.mul_le_mul_left w mb) hz;have wb:w≤900000:=lT (Nat.le_mul_of_pos_right w (lL (Nat.zero_lt_of_lt h1) h2)) hz;have xb:x/2^(w*(m-L))<2^(w*zs.length):=lE (Nat.div_le_self _ _) (lL hx (pR (by decide) (Nat.mul_le_mul_left _ (lT (Nat.sub_le _ _) h2))));have tm57:=zrr m1 m2 hx;have x1:=tm57.1;have x2:=tm57.2;have tm58:=zlR (w:=w) (x:=x) m1 m2 h2;have j1:=tm58.1;have j2:=tm58.2;rw [←j1];have c1:=ih L m _ zs m1 (lT (lO m2) h2) hz l1 x1;have c2:=ih m R _ (zc3 zs L (dig w (x%2^(w*(m-L))) (m-L))) m2 (j2.symm▸h2) (j2.symm▸hz) l2 x2;clear j1 j2 x1 x2 ih base;generalize hs:w*(m-L)=s at*;exact zpM B' (.st (.b false) (beq_eq_false_iff_ne.mpr fun q=>e (Int.ofNat_inj.mp q).symm:((L:Int)+1==R)=false) (.st (.i m) (aO em (rfl:decide (0≤(1:Int))=true)) (.st (.i s) (aO (by rw [zdH m1,←hs,Nat.mul_comm];rfl:((m:Int)-L)*w=(s:Int)) (an (zdH m1▸zaz (lT mb dl):za1 ((m:Int)-L)=true) (zaz wb)))
   (.st (.i (x/2^s:Nat)) (aO (zb2 x s) (dT (cN s))) (.st (.i (x/2^s*2^s:Nat)) (aO (zbo (x/2^s) s) (an (an (dT (cN s)) (dT (Int.ofNat_le.mpr (lT sb (by decide:900000≤1000000)))):(decide (0≤(s:Int))&&decide ((s:Int)≤1000000))=true) (zap (k:=w*zs.length) (by rw [Int.natAbs_natCast];exact xb) (lT hz (by decide))))) (.st (.i (x%2^s:Nat)) (aO (znu x s) (rfl:true=true))
   (.callD c1 [0,1,2,3,4] (.callD c2 [0,1,2,3,4] (.endD 5 .none (zlE (zc3 (zc3 zs L (dig w (x%2^s) (m-L))) m (dig w (x/2^s) (R-m))) w) [0,1,2,3,4])))))))):Sm (P.lv (j+1)) (w8i (P.lv (j+1)) zs (zc3 (zc3 zs L (dig w (x%2^s) (m-L))) m (dig w (x/2^s) (R-m))) w x L R))
noncomputable def zqy(N:Nat):List AV:=(List.replicate (N:Int).toNat [AV.int 0]).flatten
theorem zik(N:Nat):zqy N=(List.replicate N (0:Int)).map AV.int:=zd5 N
theorem zgd(N:Nat):(zqy N).length=N:=by rw [zik,lM,List.length_replicate]
def w8(P:PM T3)(x:Int)(w:Nat)(r:List Int):Wt:=dW P (zaf pw3 13 (some (213,168,4)),[]) [.int x, .int w] [] [] (.ref 0) [.list false (r.map .int)]
theorem zgm{w x:Nat}(hw:1≤w):(zak (x:Int)+w-1).fdiv w=((zd0 w x:Nat):Int):=by
 rw [zbh,Int.fdiv_eq_ediv_of_nonneg _ (cN w)];unfold zd0;rw [Int.natCast_ediv];congr 1;lia
theorem zrS(l:List Int):(l.map SV.int).map SV.av=l.map AV.int:=by rw [mN];rfl
theorem ztB(B:Tbl T3 P.c)(j:Nat)(x w:Nat)(hw:1≤w)(hj:zd0 w x≤2^j)(hs:zaj x+w≤900000):za3 (P.lv j).up.up (.glob 218) [.int x, .int w] [] (Hp.of []) (DK (.ref 0) [.list false ((dig w x (zd0 w x)).map .int)]):=by
 have hz:w*zd0 w x≤900000:=lT ziV hs;have hm:zd0 w x≤900000:=lT (Nat.le_mul_of_pos_left _ hw) hz;have g0:((w:Int) != 0 && !Builtin.divisionGoesByPylong (zak (x:Int)+w-1) w)=true:=by
  rw [zf0 (by rw [Int.natAbs_natCast];exact lE (lT (Nat.le_add_left _ _) hs) (by decide))];exact an (bne_iff_ne.mpr fun q=>absurd (Int.ofNat_inj.mp q) (Nat.ne_of_gt hw)) rfl
 have B':Tbl T3 (P.lv j).up.c:=P.lv_c j▸B;refine zaW (P:=(P.lv j).up) B' (?_:Sm (P.lv j).up (w8 (P.lv j).up x w (dig w x (zd0 w x))));by_cases h0:x=0
 ·subst h0
  have e0:zd0 w 0=0:=by
   unfold zd0 zaj;rw [if_pos rfl];exact Nat.div_eq_of_lt (lz2 0x7846000047800846000041 (lzc (lz1 0x6800840046840041 hw)))
  have em:=zgm (x:=0) hw;rw [e0] at em⊢;exact .tt (.st (.i (0:Nat)) (aO em g0) (.ok (.ff (.asIs (.endD 0 (.ref 0) [.list false []] [5])))))
 ·have hC:=fun hnd=>zmc B w hw j 0 (zd0 w x) x (List.replicate (zd0 w x) 0) hnd (by rw [List.length_replicate];exact rL _) (by rw [List.length_replicate];exact hz) hj (zfB hw)
  have em:=zgm (x:=x) hw;have hi:=zfB (w:=w) (x:=x) hw;generalize zd0 w x=N at*;have hnd:0<N:=Nat.pos_of_ne_zero fun q=>h0 (by subst q;simpa using hi);have eS:zc3 (List.replicate N 0) 0 (dig w x (N-0))=dig w x N:=zkM (by rw [Nat.sub_zero,zea,List.length_replicate]);have lz:(zqy N).length≤sizeL:=by rw [zgd];exact lT hm (by decide)
  refine .tt (.st (.i N) (aO em g0) (.st .o (an (bt (?_:1*(N:Int).toNat≤sizeL)) (dT (?_:(N:Int).natAbs<2^62))) (.st (.b true) (bne_iff_ne.mpr fun q=>h0 (Int.ofNat_inj.mp q):((x:Int) != 0)=true) (.st .o (bt (b:=sizeL) lz) (.callD (hC hnd) [6,1,3,2,5] (.asIs (.endD 0 (.ref 0) [.list false ((dig w x N).map .int)] [5] (e:=?_))) (e:=?_) (e1:=?_))))))
  ·rw [Nat.one_mul,zbz];exact lT hm (by decide)
  ·rw [Int.natAbs_natCast];exact lE hm (by decide)
  ·refine Eq.trans (b:= [AO.list false ((zc3 (List.replicate N 0) 0 (dig w x (N-0))).map .int)]) (by kernel_rfl) ?_
   rw [eS];rfl
  ·refine Eq.trans (b:=some (AV.ref 6, [AV.int x, .int (0:Nat), .int ((zqy N).length:Nat)], [])) (by kernel_rfl) ?_
   rw [zgd];rfl
  ·refine Eq.trans (b:= [AO.clo zoR [("n",1),("inner",3),("a_digits",2)], .cell (some (.int w)), .cell (some (.ref 6)), .cell (some (.ref 5)), .list false (zqy N)]) (by kernel_rfl) ?_
   rw [zik];rfl
noncomputable def zbt(q r:Int):AV:= .tup [.int q, .int r]
theorem zul{A b:Nat}{q r:Int}(hq:q*b+r=A)(h0:0≤r)(h1:r<b):zbt q r=zbt ((A/b:Nat):Int) ((A%b:Nat):Int):=by
 obtain ⟨e1,e2⟩:=divU hq h0 h1;rw [e1,e2]
noncomputable def H7(b:Nat)(s:Int×Int):Hp:= .of [.frame [("q", .int s.1),("r", .int s.2),("b", .int b)]]
def R7(A b:Nat)(s:Int×Int):Prop:=s.1*b+s.2=A∧s.2<b
noncomputable def m7(s:Int×Int):Nat:=(-s.2).toNat
noncomputable def w7(P:PM T3)(a12 a3 b B1 B2 n:Nat)(r:AV):Wt:=pW P (fd 12,[]) [.int a12, .int a3, .int b, .int B1, .int B2, .int n] r
def zkf(P:PM T3)(j:Nat):Prop:=∀(n a b:Nat) {h:Hp} {K:AV→Hp→Prop},2^(n-1)≤b→b<2^n→0<n→a<b*2^n→n≤4000*2^j→n≤300000→K (zbt (a/b:Nat) (a%b:Nat)) h→za3 (P.lv (2*j)).up (.glob 204) [.int a, .int b, .int n] [] h K
theorem zuo{b:Nat}{s:Int×Int}(hb:0<b)(c:s.2<0):m7 (s.1-1,s.2+b)<m7 s:=by
 show (-(s.2+b)).toNat<(-s.2).toNat;exact (Int.toNat_lt_toNat (Int.neg_pos.mpr c)).mpr (Int.neg_lt_neg (Int.lt_add_of_pos_right _ (Int.natCast_pos.mpr hb)))
theorem zup{A b:Nat}{s:Int×Int}(z:R7 A b s)(c:s.2<0):R7 A b (s.1-1,s.2+b):=by
 refine ⟨?_,(Int.lt_of_lt_of_le (Int.add_lt_add_right c b) (Int.le_of_eq (Int.zero_add (b:Int))):s.2+b<b)⟩;show (s.1-1)*b+(s.2+b)=A;rw [←z.1,Int.sub_mul,Int.one_mul];lia
theorem zro{a12 q r B1 B2 p b a3:Nat}(h:a12=q*B1+r)(eb:B1*p+B2=b):(q:Int)*b+(((r*p+a3:Nat):Int)-q*B2)=((a12*p+a3:Nat):Int):=by
 subst h eb
 push_cast
 rw [Int.mul_add,Int.add_mul,Int.mul_assoc];lia
theorem zrm{a12 a3 b B1 B2 p:Nat}(hp:0<p)(c:a12/p=B1)(h12:a12<b)(eb:B1*p+B2=b)(hB2:B2<p)(hA:a12*p+a3<b*p):a12=(p-1)*B1+(a12-B1*p+B1)∧((p:Int)-1=((p-1:Nat):Int))∧(a12:Int)-((B1*p:Nat):Int)+B1=((a12-B1*p+B1:Nat):Int)∧(((a12-B1*p+B1)*p+a3:Nat):Int)-((p:Int)-1)*B2<b:=by
 have hX:B1*p≤a12:=by rw [←c];exact Nat.div_mul_le_self a12 p
 have h5:B1≤B1*p:=Nat.le_mul_of_pos_right _ hp;have e1:a12=(p-1)*B1+(a12-B1*p+B1):=by
  rw [Nat.sub_mul,Nat.one_mul,Nat.mul_comm p B1,Nat.add_comm (a12-_) B1,←Nat.add_assoc,Nat.sub_add_cancel h5,Nat.add_sub_cancel' hX]
 have e6:(p:Int)-1=((p-1:Nat):Int):=(Int.ofNat_sub hp).symm;refine ⟨e1,e6,by rw [Int.natCast_add,Int.ofNat_sub hX],?_⟩;clear hX h5 c h12;generalize a12-B1*p+B1=r at*;have hA':((a12*p+a3:Nat):Int)<((b*p:Nat):Int):=Int.ofNat_lt.mpr hA;rw [e1,←eb] at hA'
 push_cast at hA'⊢
 rw [←e6] at hA';rw [←eb]
 push_cast
 generalize (p:Int)=Q at*;have h9:((Q-1)*B1+r)*Q+a3=Q*(B1*Q)-B1*Q+r*Q+a3:=by
  rw [Int.add_mul,Int.sub_mul,Int.sub_mul,Int.one_mul,Int.mul_assoc]
 have h10:(B1*Q+B2)*Q=Q*(B1*Q)+Q*B2:=by rw [Int.mul_comm,Int.mul_add]
 rw [h9,h10] at hA';rw [Int.sub_mul,Int.one_mul];exact li [_,_] [_,_,_,_] 0x71470211c52431852000c0041246021185207183000001041 hA'
theorem zrn{a12 a3 b B1 B2 p:Nat}(hp:0<p)(h3:a3<p)(c:a12/p≤B1)(c2:a12/p≠B1)(eb:B1*p+B2=b):a12<B1*p∧a12=a12/B1*B1+a12%B1∧a12/B1<p∧a12%B1<B1∧((a12%B1*p+a3:Nat):Int)-(a12/B1:Nat)*B2<b:=by
 have q3:a12<B1*p:=by rw [←Nat.div_lt_iff_lt_mul hp];exact Nat.lt_of_le_of_ne c c2
 have pB:0<B1:=Nat.pos_of_ne_zero fun z=>by subst z;rw [Nat.zero_mul] at q3;exact absurd q3 (Nat.not_lt_zero _)
 have h8:a12%B1<B1:=mT _ pB;refine ⟨q3,by rw [Nat.mul_comm];exact (Nat.div_add_mod a12 B1).symm,by rw [Nat.div_lt_iff_lt_mul pB,Nat.mul_comm];exact q3,h8,?_⟩;have h9:(a12%B1+1)*p≤B1*p:=Nat.mul_le_mul_right _ h8;rw [Nat.add_mul,Nat.one_mul] at h9;have h10:(0:Int)≤((a12/B1:Nat):Int)*B2:=Int.mul_nonneg (cN _) (cN _);exact li [_,_,_,_,_,_] [_] 0xa1611862c01430010468010481cb00004a248000047846000044 h3 (lzq eb) h9 h10
theorem zno(B:Tbl T3 P.c){j:Nat}(ih:zkf P j)(n a12 a3 b:Nat)(hn:0<n)(hb1:2^(n-1)≤b/2^n)(hb2:b<2^(n+n))(h3:a3<2^n)(hA:a12*2^n+a3<b*2^n)(hj:n≤4000*2^j)(hl:n≤300000)
  (k:K (zbt ((a12*2^n+a3)/b:Nat) ((a12*2^n+a3)%b:Nat)) h):za3 (P.lv (2*j+1)).up (.glob 211) [.int a12, .int a3, .int b, .int (b/2^n:Nat), .int (b%2^n:Nat), .int n] [] h K:=by
 have pn:0<2^n:=Nat.pow_pos (by decide);have a12b:a12<b:=by
  rcases Nat.lt_or_ge a12 b with q | q
  ·exact q
  ·exact absurd hA (Nat.not_lt_of_le (lT (Nat.mul_le_mul_right (2^n) q) (rA _ _)))
 have hbb:b/2^n<2^n:=by rw [Nat.div_lt_iff_lt_mul pn,←Nat.pow_add];exact hb2
 have sm:∀x:Nat,x<2^(n+n)→za1 (x:Int)=true:=fun x hx=>zap (k:=n+n) (by rw [Int.natAbs_natCast];exact hx) (lT (jD hl hl) (by decide));have eb:b/2^n*2^n+b%2^n=b:=by rw [Nat.mul_comm];exact Nat.div_add_mod b (2^n)
 have hdiv:a12/2^n≤b/2^n:=Nat.div_le_div_right (lO a12b);generalize hB1:b/2^n=B1 at*;generalize hB2:b%2^n=B2 at*;have hB2l:B2<2^n:=by rw [←hB2];exact mT _ pn
 have hb0:0<b:=lE (oL _) a12b;have nn:(decide (0≤(n:Int))&&decide ((n:Int)≤1000000))=true:=an (dT (cN n)) (dT (Int.ofNat_le.mpr (lT hl (by decide:300000≤1000000))));generalize hAe:a12*2^n+a3=A at*;have B':Tbl T3 (P.lv (2*j+1)).c:=P.lv_c (2*j+1)▸B;have pl:2^n<2^(n+n):=Nat.pow_lt_pow_right (by decide) (Nat.lt_add_of_pos_left hn);have sB2:B2<2^(n+n):=Nat.lt_trans hB2l pl;have hA':a12*2^n+a3<b*2^n:=hAe.symm▸hA;refine zb1 (P:=P.lv (2*j+1)) B' (?_:Sm (P.lv (2*j+1)) (w7 (P.lv (2*j+1)) a12 a3 b B1 B2 n (zbt (A/b:Nat) (A%b:Nat)))) k;refine (let ww:Wt:=_;(?_:Sm _ ww));refine .st (.i (a12/2^n:Nat)) (aO (zb2 a12 n) (dT (cN n))) ?_;rcases fT (((a12/2^n:Nat):Int)==(B1:Int)) with c | c
 ·have tm86:=zrm pn (Int.ofNat_inj.mp (eq_of_beq c)) a12b eb hB2l hA'
  have f1:=tm86.1;have f2:=tm86.2.1;have f3:=tm86.2.2.1;have f4:=tm86.2.2.2;have fr:a12-B1*2^n+B1<2^(n+n):=lE (lT (Nat.le_add_left _ _) (eL f1.symm)) (Nat.lt_trans a12b hb2);refine (let ww:Wt:=_;(?_:Sm _ ww));exact .st (.b true) c (.st (.i (2^n:Nat)) (aO (by rw [Int.one_mul,zbz];push_cast;rfl:(1:Int)*2^(n:Int).toNat=((2^n:Nat):Int)) (an nn (rfl:za1 1=true))) (.st (.i (B1*2^n:Nat)) (aO (zbo B1 n) (an nn (sm B1 (Nat.lt_trans hbb pl)))) (.st (.i ((a12-B1*2^n+B1)*2^n:Nat)) (aO (by rw [f3];exact zbo (a12-B1*2^n+B1) n:((a12:Int)-((B1*2^n:Nat):Int)+B1)*2^(n:Int).toNat=(((a12-B1*2^n+B1)*2^n:Nat):Int)) (an nn (by rw [f3];exact sm (a12-B1*2^n+B1) fr:za1 ((a12:Int)-((B1*2^n:Nat):Int)+B1)=true))) (.st (.i ((a12-B1*2^n+B1)*2^n+a3:Nat)) (aO (zgj (a12-B1*2^n+B1) h3) (rfl:true=true)) (.st (.i ((((2^n:Nat):Int)-1)*(B2:Int))) (aO (rfl:(((2^n:Nat):Int)-1)*(B2:Int)=(((2^n:Nat):Int)-1)*(B2:Int)) (an (by rw [f2];exact sm (2^n-1) (lE (Nat.sub_le _ _) pl):za1 (((2^n:Nat):Int)-1)=true) (sm B2 sB2)))
   (.whl B' 1 (H7 b) m7 (R7 A b) ((((2^n:Nat):Int)-1),(((a12-B1*2^n+B1)*2^n+a3:Nat):Int)-(((2^n:Nat):Int)-1)*(B2:Int)) (.to 0 [("q", .int (((2^n:Nat):Int)-1)),("r", .int ((((a12-B1*2^n+B1)*2^n+a3:Nat):Int)-(((2^n:Nat):Int)-1)*(B2:Int))),("b", .int b)]) ⟨(hAe▸f2.symm▸zro f1 eb),f4⟩ fun s z=>(fT (decide (s.2<0))).elim
    (fun c=> .st (.b true) c (.nextI 1 (H7 b) m7 (R7 A b) (m7 s) (s.1-1,s.2+b) (.to 0 [("q", .int (s.1-1)),("r", .int (s.2+b)),("b", .int b)]) (zuo hb0 (oD c)) (zup z (oD c))))
    fun c=> .st (.b false) c (.asIs (.fin (zul z.1 (Int.not_lt.mp (of_decide_eq_false c)) z.2)))))))))
 ·have tm93:=zrn pn h3 hdiv (fun e=>by rw [e,bS] at c;cases c) eb
  have f1:=tm93.1;have f2:=tm93.2.1;have f3:=tm93.2.2.1;have f4:=tm93.2.2.2.1;have f5:=tm93.2.2.2.2;refine (let ww:Wt:=_;(?_:Sm _ ww));exact .st (.b false) c (.callP (ih n a12 B1 hb1 hbb hn f1 hj hl) (.st (.i ((a12%B1)*2^n:Nat)) (aO (zbo (a12%B1) n:((a12%B1:Nat):Int)*2^(n:Int).toNat=(((a12%B1)*2^n:Nat):Int)) (an nn (sm (a12%B1) (Nat.lt_trans (Nat.lt_trans f4 hbb) pl):za1 ((a12%B1:Nat):Int)=true))) (.st (.i ((a12%B1)*2^n+a3:Nat)) (aO (zgj (a12%B1) h3) (rfl:true=true)) (.st (.i (((a12/B1:Nat):Int)*(B2:Int))) (aO (rfl:((a12/B1:Nat):Int)*(B2:Int)=((a12/B1:Nat):Int)*(B2:Int)) (an (sm (a12/B1) (Nat.lt_trans f3 pl):za1 ((a12/B1:Nat):Int)=true) (sm B2 sB2)))
   (.whl B' 1 (H7 b) m7 (R7 A b) (((a12/B1:Nat):Int),(((a12%B1)*2^n+a3:Nat):Int)-((a12/B1:Nat):Int)*(B2:Int)) (.to 0 [("q", .int ((a12/B1:Nat):Int)),("r", .int ((((a12%B1)*2^n+a3:Nat):Int)-((a12/B1:Nat):Int)*(B2:Int))),("b", .int b)]) ⟨(hAe▸zro f2 eb),f5⟩ fun s z=>(fT (decide (s.2<0))).elim
    (fun c=> .st (.b true) c (.nextI 1 (H7 b) m7 (R7 A b) (m7 s) (s.1-1,s.2+b) (.to 0 [("q", .int (s.1-1)),("r", .int (s.2+b)),("b", .int b)]) (zuo hb0 (oD c)) (zup z (oD c))))
    fun c=> .st (.b false) c (.asIs (.fin (zul z.1 (Int.not_lt.mp (of_decide_eq_false c)) z.2))))))))
noncomputable def w6(P:PM T3)(a b n:Nat)(r:AV):Wt:=pW P (fd 11,[]) [.int a, .int b, .int n] r
theorem zaQ(x h:Nat):Builtin.bitAnd (x:Int) (((2^h:Nat):Int)-1)=((x%2^h:Nat):Int):=by
 rw [←zlf,Int.ofNat_sub (Nat.pow_pos (by decide))];rfl
theorem ze2(n:Nat):(n:Int).fdiv (2^(1:Int).toNat)=((n/2:Nat):Int):=by
 rw [show (2:Int)^(1:Int).toNat=2 from rfl,Int.fdiv_eq_ediv_of_nonneg _ (by decide)];rfl
theorem zi1(x:Nat):(x:Int)*2^(1:Int).toNat=((x*2:Nat):Int):=by
 rw [show (2:Int)^(1:Int).toNat=2 from rfl];push_cast;rfl
theorem zhb{n e:Nat}(h:n%2=e):Builtin.bitAnd (n:Int) 1=(e:Int):=by
 have:=zbY n 1;rw [Nat.and_one_is_mod,h] at this;exact this
theorem dvm(a b:Nat):AV.tup [.int ((a:Int).fdiv b), .int ((a:Int).fmod b)]=zbt (a/b:Nat) (a%b:Nat):=by rw [ze7,zbE];rfl
structure Half(h a b:Nat):Prop where
 k1:2^(h-1)≤b/2^h
 k2:a/2^(h+h)*2^h+a/2^h%2^h<b*2^h
 k3:a/2^h%b*2^h+a%2^h<b*2^h
 m1:a/2^h%2^h<2^h
 m2:a%2^h<2^h
 q1:a/2^h/b<2^h
 q2:(a/2^h%b*2^h+a%2^h)/b<2^h
theorem zje{h a b:Nat}(hb:2^(h+h-1)≤b)(ha:a<b*2^(h+h))(hh:0<h):Half h a b:=by
 have p2:0<2^h:=Nat.pow_pos (by decide);have pb:0<b:=lL (Nat.pow_pos (by decide)) hb;have k2:a/2^h<b*2^h:=by rw [Nat.div_lt_iff_lt_mul p2,Nat.mul_assoc,←Nat.pow_add];exact ha
 have k3:a/2^h%b*2^h+a%2^h<b*2^h:=by
  have h2:(a/2^h%b+1)*2^h≤b*2^h:=Nat.mul_le_mul_right _ (mT _ pb);rw [Nat.add_mul,Nat.one_mul] at h2;exact lL (Nat.add_lt_add_left (mT _ p2) _) h2
 exact ⟨by rw [Nat.le_div_iff_mul_le p2,←Nat.pow_add,←Nat.sub_add_comm hh];exact hb,by rw [zg9];exact k2,k3,mT _ p2,mT _ p2,by rw [Nat.div_lt_iff_lt_mul pb,Nat.mul_comm (2^h) b];exact k2,by rw [Nat.div_lt_iff_lt_mul pb,Nat.mul_comm (2^h) b];exact k3⟩
theorem ziJ(k:Nat):(1:Int)*2^(k:Int).toNat=((2^k:Nat):Int):=by rw [Int.one_mul,zbz];push_cast;rfl
theorem zjv(B:Tbl T3 P.c){j k A D:Nat}(ih:zkf P j)(hk:0<k)(hb:2^(k+k-1)≤D)(hb2:D<2^(k+k))(f:Half k A D)(hj:k≤4000*2^j)(hl:k≤200000):
  (∀{h:Hp} {K:AV→Hp→Prop},K (zbt (A/2^k/D:Nat) (A/2^k%D:Nat)) h→za3 (P.lv (2*j+1)).up (.glob 211) [.int (A/2^(k+k):Nat), .int (A/2^k%2^k:Nat), .int D, .int (D/2^k:Nat), .int (D%2^k:Nat), .int k] [] h K)∧
  (∀{h:Hp} {K:AV→Hp→Prop},K (zbt ((A/2^k%D*2^k+A%2^k)/D:Nat) ((A/2^k%D*2^k+A%2^k)%D:Nat)) h→za3 (P.lv (2*j+1)).up (.glob 211) [.int (A/2^k%D:Nat), .int (A%2^k:Nat), .int D, .int (D/2^k:Nat), .int (D%2^k:Nat), .int k] [] h K):=by
 refine ⟨fun {h K} g=>?_,fun {h K} g=>zno B ih k (A/2^k%D) (A%2^k) D hk f.k1 hb2 f.m2 f.k3 hj (lT hl (by decide)) g⟩;refine zno B ih k (A/2^(k+k)) (A/2^k%2^k) D hk f.k1 hb2 f.m1 f.k2 hj (lT hl (by decide)) ?_;rw [zg9];exact g
theorem ziH{n a b k:Nat}(e:n+1=k+k)(hn:0<n)(hb1:2^(n-1)≤b)(hb2:b<2^n)(ha:a<b*2^n):2^(k+k-1)≤b*2∧b*2<2^(k+k)∧a*2<b*2*2^(k+k):=by
 have p1:2^(k+k)=2^n*2:=by rw [←e,Nat.pow_succ]
 have p2:2^(k+k-1)=2^(n-1)*2:=by rw [←Nat.pow_succ,←e];congr 1;exact Nat.le_antisymm (lz3 0x212001800612001c00611c0846000042 (lzc (lz1 2274193834048)) (lzs _ _)) (lz3 0x78480000468480000611c0846000042 (lzs _ _) (lzc (lz1 0x6840046860000041 hn)))
 rw [p1,p2];refine ⟨Nat.mul_le_mul_right 2 hb1,Nat.mul_lt_mul_of_pos_right hb2 (by decide),?_⟩;rw [Nat.mul_right_comm,←Nat.mul_assoc];exact lL (Nat.mul_lt_mul_of_pos_right ha (by decide)) (Nat.le_mul_of_pos_right _ (by decide))
theorem zp1{n:Nat}(e:n%2=0):n=n/2+n/2:=by omega
theorem zoh{n:Nat}(e:n%2=1):n+1=(n+1)/2+(n+1)/2:=by omega
theorem hf_z{l n:Nat}(h:l≤n+n)(hj:n≤4000*1):(l:Int)-n≤4000:=lz2 0x3e802087146143041fa00821c00471c0180042 h hj
theorem zuc{k:Nat}(h:0<k+k):0<k:=Nat.pos_of_ne_zero fun z=>by subst z;exact absurd h (Nat.lt_irrefl 0)
theorem zs8{k X:Nat}(h:k+k≤X+X+1):k≤X:=lz2 0x71800a11c7000186000041 h
theorem zrL(B:Tbl T3 P.c):∀j,zkf P j:=by
 have main:∀j,(∀j',j=j'+1→zkf P j')→zkf P j:=by
  intro j ihj n a b h K hb1 hb2 hn ha hj hl k0;refine zb1 (P:=P.lv (2*j)) (P.lv_c (2*j)▸B) (?_:Sm (P.lv (2*j)) (w6 (P.lv (2*j)) a b n (zbt (a/b:Nat) (a%b:Nat)))) k0;have pb:0<b:=lL (Nat.pow_pos (by decide)) hb1;rcases fT (decide (zak (a:Int)-(n:Int)≤4000)) with c | c
  ·exact .st (.b true) c (.st .o (an (bne_iff_ne.mpr fun q=>absurd (Int.ofNat_inj.mp q) (Nat.ne_of_gt pb)) (Bool.not_eq_true' _▸zgJ hb1 hn (by have c:=oD c;rwa [zbh] at c)):((b:Int) != 0 && !Builtin.divisionGoesByPylong (a:Int) (b:Int))=true) (.asIs (.fin (dvm a b))))
  refine (let ww:Wt:=_;(?_:Sm _ ww));refine .st (.b false) c ?_;induction j using Nat.casesOn with
  | zero=>
   have bl:zaj a≤n+n:=zbs (lL ha (by rw [Nat.pow_add];exact Nat.mul_le_mul_right _ (lO hb2)));have c:=of_decide_eq_false c;rw [zbh] at c;rw [Nat.pow_zero] at hj;exact absurd (hf_z bl hj) c
  | succ j=>
   have ih:=ihj j rfl;have hj2:n≤4000*2^j+4000*2^j:=by rwa [Nat.pow_succ,←Nat.mul_assoc,Nat.mul_two] at hj
   rcases Nat.mod_two_eq_zero_or_one n with e0 | e0
   ·obtain ⟨k,hk⟩:∃k,n=k+k:=⟨n/2,zp1 e0⟩
    have ep:=zhb e0;subst hk;have kp:=zuc hn;have kl:k≤200000:=zs8 (lT hl (by decide));have f:=zje hb1 ha kp;obtain ⟨C1,C2⟩:=zjv B ih kp hb1 hb2 f (zs8 (Nat.le_succ_of_le hj2)) kl;obtain ⟨s1,s2⟩:=zju a b k;have nn:(decide (0≤(k:Int))&&decide ((k:Int)≤1000000))=true:=an (dT (cN k)) (dT (Int.ofNat_le.mpr (lT kl (by decide:200000≤1000000))));have k0:=dT (cN k);have e2:zbt ((a/2^k/b*2^k+(a/2^k%b*2^k+a%2^k)/b:Nat)) ((a/2^k%b*2^k+a%2^k)%b:Nat)=zbt (a/b:Nat) (a%b:Nat):=by rw [s1,s2]
    have hh:((k+k:Nat):Int).fdiv (2^(1:Int).toNat)=(k:Int):=by rw [ze2,←Nat.two_mul,Nat.mul_div_cancel_left _ (by decide)]
    have kl:=lT kl (by decide:200000≤1000000);refine (let ww:Wt:=_;(?_:Sm _ ww));exact .st (.i (0:Nat)) (aO ep (rfl:true=true)) (.ff (.st (.i (k:Nat)) (aO hh (rfl:decide (0≤(1:Int))=true)) (.st (.i (2^k:Nat)) (aO (ziJ k) (an nn (rfl:za1 1=true))) (.st (.i (b/2^k:Nat)) (aO (zb2 b k) k0) (.st (.i (b%2^k:Nat)) (aO (zaQ b k) (rfl:true=true)) (.st (.i (a/2^(k+k):Nat)) (aO (zb2 a (k+k)) (dT (cN (k+k)))) (.st (.i (a/2^k:Nat)) (aO (zb2 a k) k0) (.st (.i (a/2^k%2^k:Nat)) (aO (zaQ (a/2^k) k) (rfl:true=true))
   (.callP C1 (.st (.i (a%2^k:Nat)) (aO (zaQ a k) (rfl:true=true)) (.callP C2 (.ff (.st (.i (a/2^k/b*2^k:Nat)) (aO (zbo (a/2^k/b) k) (an nn (zap (k:=k) (by rw [Int.natAbs_natCast];exact f.q1) kl))) (.st (.i (a/2^k/b*2^k+(a/2^k%b*2^k+a%2^k)/b:Nat)) (aO (zgj (a/2^k/b) f.q2) (rfl:true=true)) (.asIs (.fin e2))))))))))))))))
   ·obtain ⟨k,hk⟩:∃k,n+1=k+k:=⟨(n+1)/2,zoh e0⟩
    have ep:=zhb e0;obtain ⟨g1,g2,g3⟩:=ziH hk hn hb1 hb2 ha;have kp:=zuc (hk▸Nat.succ_pos n:0<k+k);have kl:k≤200000:=zs8 (hk▸uL (lT hl (by decide)):k+k≤200000+200000+1);have f:=zje g1 g3 kp;obtain ⟨C1,C2⟩:=zjv B ih kp g1 g2 f (zs8 (hk▸uL hj2:k+k≤4000*2^j+4000*2^j+1)) kl;obtain ⟨s1,s2⟩:=zju (a*2) (b*2) k;have nn:(decide (0≤(k:Int))&&decide ((k:Int)≤1000000))=true:=an (dT (cN k)) (dT (Int.ofNat_le.mpr (lT kl (by decide:200000≤1000000))));have k0:=dT (cN k);have e2:zbt ((a*2/2^k/(b*2)*2^k+(a*2/2^k%(b*2)*2^k+a*2%2^k)/(b*2):Nat)) ((a*2/2^k%(b*2)*2^k+a*2%2^k)%(b*2)/2:Nat)=zbt (a/b:Nat) (a%b:Nat):=by
     rw [s1,s2,Nat.mul_div_mul_right _ _ (by decide),Nat.mul_mod_mul_right,Nat.mul_div_cancel _ (by decide)]
    have en:(n:Int)+1=((k+k:Nat):Int):=congrArg Nat.cast hk;have hh:((n:Int)+1).fdiv (2^(1:Int).toNat)=(k:Int):=by rw [en,ze2,←Nat.two_mul,Nat.mul_div_cancel_left _ (by decide)]
    have hs:((a*2:Nat):Int).fdiv (2^((n:Int)+1).toNat)=((a*2/2^(k+k):Nat):Int):=by rw [en];exact zb2 (a*2) (k+k)
    have hn':decide (0≤(n:Int)+1)=true:=by rw [en];exact dT (cN (k+k))
    have kl:=lT kl (by decide:200000≤1000000);have sm:∀x:Nat,x<2^(n+n)→za1 (x:Int)=true:=fun x hx=>zap (k:=n+n) (by rw [Int.natAbs_natCast];exact hx) (lT (jD hl hl) (by decide));have sb:b<2^(n+n):=lL hb2 (pR (by decide) (Nat.le_add_left n n));have sa:a<2^(n+n):=lL ha (by rw [Nat.pow_add];exact Nat.mul_le_mul_right _ (lO hb2));have n1:(decide (0≤(1:Int))&&decide ((1:Int)≤1000000))=true:=rfl;refine (let ww:Wt:=_;(?_:Sm _ ww));exact .st (.i (1:Nat)) (aO ep (rfl:true=true)) (.tt (.st (.i (a*2:Nat)) (aO (zi1 a) (an n1 (sm a sa))) (.st (.i (b*2:Nat)) (aO (zi1 b) (an n1 (sm b sb))) (.st (.i (k:Nat)) (aO hh (rfl:decide (0≤(1:Int))=true)) (.st (.i (2^k:Nat)) (aO (ziJ k) (an nn (rfl:za1 1=true))) (.st (.i ((b*2)/2^k:Nat)) (aO (zb2 (b*2) k) k0) (.st (.i ((b*2)%2^k:Nat)) (aO (zaQ (b*2) k) (rfl:true=true)) (.st (.i ((a*2)/2^(k+k):Nat)) (aO hs hn') (.st (.i ((a*2)/2^k:Nat)) (aO (zb2 (a*2) k) k0) (.st (.i ((a*2)/2^k%2^k:Nat)) (aO (zaQ ((a*2)/2^k) k) (rfl:true=true))
   (.callP C1 (.st (.i ((a*2)%2^k:Nat)) (aO (zaQ (a*2) k) (rfl:true=true)) (.callP C2 (.tt (.st (.i (((a*2)/2^k%(b*2)*2^k+(a*2)%2^k)%(b*2)/2:Nat)) (aO (ze2 (((a*2)/2^k%(b*2)*2^k+(a*2)%2^k)%(b*2))) (rfl:decide (0≤(1:Int))=true)) (.st (.i ((a*2)/2^k/(b*2)*2^k:Nat)) (aO (zbo ((a*2)/2^k/(b*2)) k) (an nn (zap (k:=k) (by rw [Int.natAbs_natCast];exact f.q1) kl))) (.st (.i ((a*2)/2^k/(b*2)*2^k+((a*2)/2^k%(b*2)*2^k+(a*2)%2^k)/(b*2):Nat)) (aO (zgj ((a*2)/2^k/(b*2)) f.q2) (rfl:true=true)) (.asIs (.fin e2)))))))))))))))))))
 intro j;induction j with
 | zero=>exact main 0 (fun X h=>by cases h)
 | succ j ih=>exact main (j+1) fun j' e=>Nat.succ.inj e▸ih
noncomputable def zl3(n:Nat)(l:List Nat):Nat:=List.rec (motive:=fun X=>Nat) 0 (fun d X v=>d+2^n*v) l
noncomputable def nI(l:List Nat):List Int:=l.map fun (x:Nat)=>(x:Int)
theorem ze8(n:Nat):∀l:List Nat,zdx n (nI l)=(zl3 n l:Int)
 | []=>rfl
 | d :: r=>by unfold nI;rw [mC,dvc];have:=ze8 n r;unfold nI at this;rw [this];show _=((d+2^n*zl3 n r:Nat):Int);push_cast;rfl
theorem zgV(n:Nat):∀(m x:Nat),∃l:List Nat,dig n x m=nI l∧(∀d∈l,d<2^n)∧l.length=m
 | 0,x=>⟨[],rfl,fun X h=>(nomatch h),rfl⟩
 | m+1,x=>by
  obtain ⟨l,h1,h2,h3⟩:=zgV n m (x/2^n);refine ⟨x%2^n :: l,by rw [dgs,h1];rfl,fun d hd=>?_,congrArg Nat.succ h3⟩;rcases cP hd with rfl | hd
  ·exact mT _ (Nat.pow_pos (by decide))
  ·exact h2 d hd
theorem znN(b n d V:Nat)(hb:0<b):(d+2^n*V)/b=(V%b*2^n+d)/b+2^n*(V/b)∧(d+2^n*V)%b=(V%b*2^n+d)%b:=by
 have e3:d+2^n*V=V%b*2^n+d+b*(2^n*(V/b)):=by
  have:2^n*V=b*(2^n*(V/b))+V%b*2^n:=by
   conv=>lhs;rw [←Nat.div_add_mod V b]
   rw [Nat.mul_add,Nat.mul_left_comm,Nat.mul_comm (2^n) (V%b)]
  rw [this,Nat.add_comm d,Nat.add_assoc,Nat.add_comm]
 rw [e3];exact ⟨Nat.add_mul_div_left _ _ hb,Nat.add_mul_mod_self_left _ _ _⟩
noncomputable def zqx(n:Nat)(k:Nat):Int:=Nat.casesOn (motive:=fun X=>Int) k ((n:Int)-1) fun k=>(n:Int)-1-(k+1:Nat)
theorem zo1(n k:Nat):zqx n k=(n:Int)-1-k:=by
 induction k using Nat.casesOn with
 | zero=>exact (Int.sub_zero _).symm
 | succ k=>rfl
theorem zj6{α:Type}{z:List α}{f:α→AV}{t:Expr}{it l:Nat}{q:Bool×List AV}(e:q.2.reverse=z.map f):Iter P t it (z.map f) (fun k h=>h.at_ it = .revit l (zqx q.2.length k)∧(h.at_ l).list? = some q) (fun k h=>h.set it (.revit l (zqx q.2.length (k+1)))) fun h=>h.set it .other:=by
 have:=zhD (P:=P) (t:=t) (it:=it) (l:=l) (q:=q);simp only [←zo1] at this;exact e▸this
noncomputable def X10(l:List Nat):List AV:=(nI l).map AV.int
theorem zns(l:List Nat):X10 l=l.map fun (x:Nat)=>AV.int x:=by unfold X10 nI;rw [mN];rfl
def H10(b:Nat)(l:List Nat)(s:List Nat×Nat)(k:Nat):Hp:= .of [.frame [("b", .int b),("n", .int (zak b)),("r", .int s.2),("q_digits", .ref 2)], .list false (X10 l), .list false (s.1.map fun (x:Nat)=>AV.int x), .revit 1 (zqx (X10 l).length k)]
theorem Wk.eq{h g g':Hp}(e:g=g')(H:Wk h g'):Wk h g:=e▸H
theorem zmo{b:Nat}{l s:List Nat}{x y k:Nat}:H10 b l (s ++ [x],y) k = .of [.frame [("b", .int b),("n", .int (zak b)),("r", .int y),("q_digits", .ref 2)], .list false (X10 l), .list false (s.map (fun (x:Nat)=>AV.int x) ++ [.int x]), .revit 1 (zqx (X10 l).length k)]:=by
 unfold H10;rw [mA];rfl
structure R10(b w:Nat)(l:List Nat)(s:List Nat×Nat)(k:Nat):Prop where
 len:s.1.length=k
 lt:∀q∈s.1,q<2^w
 val:zl3 w s.1.reverse=zl3 w (l.reverse.take k).reverse/b
 rem:s.2=zl3 w (l.reverse.take k).reverse%b
theorem R10.next{b w k d:Nat}{l:List Nat}{s:List Nat×Nat}(r:R10 b w l s k)(hb:0<b)(e:l.reverse[k]? = some d)(hd:d<2^w):s.2*2^w+d<b*2^w∧R10 b w l (s.1 ++ [(s.2*2^w+d)/b],(s.2*2^w+d)%b) (k+1):=by
 have eV:zl3 w (l.reverse.take (k+1)).reverse=d+2^w*zl3 w (l.reverse.take k).reverse:=by
  rw [List.take_succ,e,List.reverse_append];rfl
 have hr:s.2<b:=r.rem▸mT _ hb;obtain ⟨s1,s2⟩:=znN b w d (zl3 w (l.reverse.take k).reverse) hb;have hlt:s.2*2^w+d<b*2^w:=by
  have h2:(s.2+1)*2^w≤b*2^w:=Nat.mul_le_mul_right _ hr;rw [Nat.add_mul,Nat.one_mul] at h2;exact lL (Nat.add_lt_add_left hd _) h2
 rw [←r.rem,←r.val] at s1;rw [←r.rem] at s2;refine ⟨hlt,⟨by rw [lA,r.len];rfl,fun q hq=>?_,by rw [eV,s1,List.reverse_append];rfl,by rw [eV,s2]⟩⟩;rcases List.mem_append.mp hq with hq | hq
 ·exact r.lt q hq
 ·rw [sM hq,Nat.div_lt_iff_lt_mul hb,Nat.mul_comm (2^w)];exact hlt
def w10(P:PM T3)(a b:Nat):Wt:=pW P (fd 15,[]) [.int a, .int b] (zbt (a/b:Nat) (a%b:Nat))
theorem zmg(B:Tbl T3 P.c)(a b:Nat)(hb:0<b)(hbl:zaj b≤120000)(hal:zaj a≤400000)(hnd:zd0 (zaj b) a≤1000)(k0:K (zbt (a/b:Nat) (a%b:Nat)) h):za3 (P.lv 12).up (.glob 232) [.int a, .int b] [] h K:=by
 have hlo:=zdp hb;have hhi:=zbX b;have hN:=zbh b;have hw:1≤zaj b:=by unfold zaj;rw [if_neg (Nat.ne_of_gt hb)];exact Nat.succ_pos _
 obtain ⟨l,hl1,hl2,hl3⟩:=zgV (zaj b) (zd0 (zaj b) a) a;have hva:zl3 (zaj b) l=a:=by
  have:=zgU (zaj b) (zd0 (zaj b) a) a (zfB hw);rw [hl1,ze8] at this;exact Int.ofNat_inj.mp this
 have hz:zaj b*zd0 (zaj b) a≤520000:=lT ziV (jD hal hbl);have hll:l.length≤1000:=hl3▸hnd;have B':Tbl T3 (P.lv 12).c:=P.lv_c 12▸B;have C1:za3 (P.lv 12) (.glob 218) [.int a, .int (zaj b)] [] (Hp.of []) (DK (.ref 0) [.list false (X10 l)]):=by
  have:=ztB B 10 a (zaj b) hw (lT hnd (by decide)) (lT (jD hal hbl) (by decide));rwa [hl1] at this
 have C3:=fun (ds:List Int) (e:ds.length≤1000) (f:∀d∈ds,d.natAbs≤2^zaj b) (g:zaj b+zaj b*ds.length≤900000) {h:Hp} {K:AV→Hp→Prop}=> @ztD P h K B 10 ds (zaj b) (zaj b) hw (lT e (by decide)) f g;have C2:=zrL (P:=P.up) B 5 (zaj b);generalize zaj b=w at*;have nn:(decide (0≤zak (b:Int))&&decide (zak (b:Int)≤1000000))=true:=by
  rw [hN];exact an (dT (cN w)) (dT (Int.ofNat_le.mpr (lT hbl (by decide:120000≤1000000))))
 have lX:∀{n:Nat},n≤1000→n≤sizeL:=fun h=>lT h (by decide);have er:(X10 l).reverse=l.reverse.map fun (x:Nat)=>AV.int x:=by rw [zns,List.map_reverse]
 refine zb1 (P:=P.lv 12) B' (?_:Sm (P.lv 12) (w10 (P.lv 12) a b)) k0;refine (let ww:Wt:=_;(?_:Sm _ ww));refine .callD C1 [] ?_ (e:=Eq.trans (b:=some (.glob 218, [.int a, .int (zak (b:Int))], [])) (by kernel_rfl) (by rw [hN];rfl));refine .tt (.loopM B' 4 (zj6 (q:=(false,X10 l)) (l:=1) er) (H10 b l) (R10 b w l) ([],0) (.to 0 [("b", .int b),("n", .int (zak b)),("r", .int (0:Nat)),("q_digits", .ref 2)]) ⟨rfl,fun X h=>(nomatch h),(Nat.zero_div b).symm,(Nat.zero_mod b).symm⟩ (fun X X X=>⟨by kernel_rfl,by kernel_rfl,by kernel_rfl⟩) ?_ ?_)
 ·intro s k d e r
  have hd:d<2^w:=hl2 d (List.mem_reverse.mp (mG e));obtain ⟨g1,g2⟩:=r.next hb e hd;have hk:k<1000:=lL (List.length_reverse▸(gE e).1) hll;have sr:za1 (s.2:Int)=true:=zap (k:=w) (by rw [Int.natAbs_natCast,r.rem];exact Nat.lt_trans (mT _ hb) hhi) (lT hbl (by decide));refine (let ww:Wt:=_;(?_:Sm _ ww));refine .st (.i (s.2*2^w:Nat)) (aO (by rw [hN];exact zbo s.2 w:(s.2:Int)*2^(zak (b:Int)).toNat=((s.2*2^w:Nat):Int)) (an nn sr)) ?_;refine .callP (C2 (s.2*2^w+d) b hlo hhi hw g1 (lT hbl (by decide)) (lT hbl (by decide))) ?_ (e:=Eq.trans (b:=some (.glob 204, [.int ((s.2*2^w:Nat)+(d:Int)), .int b, .int (zak (b:Int))], [])) (by kernel_rfl) (by rw [hN];rfl));exact .st .o (an (bt (b:=sizeL) (by rw [lM,r.len];exact lX hk:(s.1.map fun (x:Nat)=>AV.int x).length.succ≤sizeL)) (rfl:(false || true)=true)) (.next 4 (H10 b l) (R10 b w l) k (s.1 ++ [(s.2*2^w+d)/b],(s.2*2^w+d)%b) (.eq zmo (.to 0 [("b", .int b),("n", .int (zak b)),("r", .int ((s.2*2^w+d)%b:Nat)),("q_digits", .ref 2)])) g2)
 ·intro s r
  have sl:s.1.length≤1000:=by rw [r.len,List.length_reverse];exact hll
  have ev:=r.val;have em:=r.rem;rw [List.take_length,List.reverse_reverse,hva] at ev em;have eq:((s.1.map fun (x:Nat)=>AV.int x).reverse)=(((nI s.1.reverse).map SV.int).map SV.av):=by rw [zrS,←List.map_reverse];exact (zns _).symm
  refine (let ww:Wt:=_;(?_:Sm _ ww));refine .st .o (bt (b:=sizeL) (by rw [lM];exact lX sl:(s.1.map fun (x:Nat)=>AV.int x).length≤sizeL)) (.frzA 2 ((nI s.1.reverse).map SV.int) (.callP (C3 (nI s.1.reverse) ?_ ?_ ?_) (.asIs (.fin (by rw [ze8,ev,em]:zbt (zdx w (nI s.1.reverse)) s.2=zbt ((a/b:Nat):Int) ((a%b:Nat):Int)))) (e:=Eq.trans (b:=some (.glob 225, [.lst ((nI s.1.reverse).map SV.int), .int (zak (b:Int))], [])) (by kernel_rfl) (by rw [hN]))) (e:=Eq.trans (b:= .list false (s.1.map fun (x:Nat)=>AV.int x).reverse) (by kernel_rfl) (by rw [eq])))
  ·unfold nI;rw [lM,List.length_reverse];exact sl
  ·intro d hd
   obtain ⟨q,hq,rfl⟩:=mP hd;rw [Int.natAbs_natCast];exact lO (r.lt q (List.mem_reverse.mp hq))
  ·unfold nI;rw [lM,List.length_reverse,r.len,List.length_reverse,hl3];lia
def w11(P:PM T3)(a:Int)(b:Nat):Wt:=pW P (fd 16,[]) [.int a, .int b] (zbt (a/b) (a%b))
def okD(b:Nat)(x:Nat):Prop:=zaj x≤400000∧zd0 (zaj b) x≤1000
theorem zcW(B:Tbl T3 P.c)(a b:Nat)(hb:0<b)(hbl:zaj b≤120000)(ha:okD b a)(k0:K (zbt ((a:Int)/b) ((a:Int)%b)) h):za3 (P.lv 13).up (.glob 239) [.int a, .int b] [] h K:=by
 have B':Tbl T3 (P.lv 13).c:=P.lv_c 13▸B;exact zb1 (P:=P.lv 13) B' (.st (.b false) (beq_eq_false_iff_ne.mpr (fun q=>absurd (Int.ofNat_inj.mp q) (Nat.ne_of_gt hb)):((b:Int)==0)=false) (.st (.b false) (dF (Int.not_lt.mpr (cN b)):decide ((b:Int)<0)=false) (.st (.b false) (dF (Int.not_lt.mpr (cN a)):decide ((a:Int)<0)=false)
  (.callP (zmg B a b hb hbl ha.1 ha.2) (.asIs (.fin (rfl:zbt (a/b:Nat) (a%b:Nat)=zbt ((a:Int)/b) ((a:Int)%b))))))):Sm (P.lv 13) (w11 (P.lv 13) a b)) k0
theorem dn1{X m x a b:Int}(e:X+m=x)(hx:x = -a-1):b+(-m-1)+(-X-b)=a:=by exact Int.le_antisymm (li [] [_,_,_,_,_] 0x24a1c40e12040ca0000411a12440c10481c0181042 (lir e) (lir hx)) (li [] [_,_,_,_,_] 0x2861038471032800090418491032010481c6001042 (liq e) (liq hx))
theorem dn2{m b:Int}(h:m<b):0≤b+(-m-1):=li [] [_,_] 0x8461031c0801047846001041 h
theorem dn3{m b:Int}(h:0≤m):b+(-m-1)<b:=li [] [_,_] 0x1e18461031c0001046801041 h
theorem zpd{a:Int}{b x:Nat}(hb:0<b)(hx:(x:Int) = -a-1):zbt (-((x:Int)/b)-1) (b+(-((x:Int)%b)-1))=zbt (a/b) (a%b):=by
 have hm:x%b<b:=mT _ hb;have hd:=Nat.div_add_mod x b;have u:=(Int.ediv_emod_unique (a:=a) (b:=(b:Int)) (q:=-((x/b:Nat):Int)-1) (r:=(b:Int)+(-((x%b:Nat):Int)-1)) (Int.natCast_pos.mpr hb)).mpr ⟨by
  have e:((b*(x/b)+x%b:Nat):Int)=(x:Int):=by rw [hd]
  rw [Int.natCast_add,Int.natCast_mul] at e;rw [Int.mul_sub,Int.mul_neg,Int.mul_one];exact dn1 e hx,dn2 (Int.ofNat_lt.mpr hm),dn3 (cN _)⟩
 rw [u.1,u.2];rfl
theorem zmi(B:Tbl T3 P.c)(a:Int)(b:Nat)(hb:0<b)(hbl:zaj b≤120000)(hal:∀x:Nat,(x:Int)=a∨(x:Int) = -a-1→okD b x)(k0:K (zbt (a/b) (a%b)) h):za3 (P.lv 14).up (.glob 239) [.int a, .int b] [] h K:=by
 rcases Int.lt_or_le a 0 with ha | ha
 ·obtain ⟨x,hx⟩:∃x:Nat,(x:Int) = -a-1:=⟨(-a-1).toNat,by lia⟩
  have B':Tbl T3 (P.lv 14).c:=P.lv_c 14▸B;exact zb1 (P:=P.lv 14) B' (.st (.b false) (beq_eq_false_iff_ne.mpr (fun q=>absurd (Int.ofNat_inj.mp q) (Nat.ne_of_gt hb)):((b:Int)==0)=false) (.st (.b false) (dF (Int.not_lt.mpr (cN b)):decide ((b:Int)<0)=false) (.st (.b true) (dT ha)
   (.callP (zcW B x b hb hbl (hal x (.inr hx))) (.asIs (.fin (zpd hb hx))) (e:=Eq.trans (b:=some (.glob 239, [.int (-a-1), .int b], [])) (by kernel_rfl) (by rw [←hx]))))):Sm (P.lv 14) (w11 (P.lv 14) a b)) k0
 ·obtain ⟨x,rfl⟩:∃x:Nat,a=x:=⟨a.toNat,by lia⟩
  exact zcW (P:=P.up) B x b hb hbl (hal x (.inl rfl)) k0
theorem zlI{α:Type}(L:List α)(d:α)(k i:Nat)(f:α→AV)(h:L.length=k)(hk:Nat.blt 0 k=true):(L.map f)[i%k]? = some (f (L.getD (i%k) d)):=by
 have h0:0<k:=jL hk;have h1:i%k<L.length:=by rw [h];exact mT _ h0
 rw [gM,gG h1,gD,gG h1];rfl
theorem zlJ{L:List Nat}{p:Nat→Prop}{d:Nat}(i:Nat)(h:∀x∈L,p x)(hd:p d):p (L.getD i d):=by
 rw [gD];induction e:L[i]? with
 | none=>exact hd
 | some x=>exact h x (mG e)
theorem dvE(x:Nat){k:Nat}(hk:(Nat.blt 0 k&&Nat.blt k 18446744073709551616)=true):(x:Int).fdiv (k:Int)=((x/k:Nat):Int)∧((k:Int) != 0 && !Builtin.divisionGoesByPylong (x:Int) (k:Int))=true:=by
 obtain ⟨h0,h1⟩:=aI hk;refine ⟨ze7 x k,?_⟩;rw [zf0 (by rw [Int.natAbs_natCast];exact jL h1)];exact an (bne_iff_ne.mpr fun q=>absurd (Int.ofNat_inj.mp q) (Nat.ne_of_gt (jL h0))) rfl
theorem mdE(x:Nat){k:Nat}(hk:Nat.blt 0 k=true):(x:Int).fmod (k:Int)=((x%k:Nat):Int)∧((k:Int) != 0)=true:=⟨zbE x k,bne_iff_ne.mpr fun q=>absurd (Int.ofNat_inj.mp q) (Nat.ne_of_gt (jL hk))⟩
theorem Sm.dv{T:Tabs}{P:PM T}{w:Wt}(x k:Nat)(H:Sm P (w.nx (.i (x/k:Nat))))(hk:(Nat.blt 0 k&&Nat.blt k 18446744073709551616)=true:=by rfl)(q:autoParam (w.cn (.i (x/k:Nat))=((x:Int).fdiv (k:Int)=((x/k:Nat):Int)∧((k:Int) != 0 && !Builtin.divisionGoesByPylong (x:Int) (k:Int))=true)) kr1):Sm P w:= .st _ (dvE x hk) H q
theorem Sm.md{T:Tabs}{P:PM T}{w:Wt}(x k:Nat)(H:Sm P (w.nx (.i (x%k:Nat))))(hk:Nat.blt 0 k=true:=by rfl)(q:autoParam (w.cn (.i (x%k:Nat))=((x:Int).fmod (k:Int)=((x%k:Nat):Int)∧((k:Int) != 0)=true)) kr1):Sm P w:= .st _ (mdE x hk) H q
theorem zt5{α:Type}(L:List α)(d:α)(k i:Nat)(f:α→AV)(h:L.length=k:=by rfl)(hk:(Nat.blt 0 k&&Nat.ble k sizeL)=true:=by rfl):nth (L.map f) ((i%k:Nat):Int)=some (f (L.getD (i%k) d)):=
 (aI hk).elim fun h0 h1=>zbr (zlI L d k i f h h0) (by rw [lM,h];exact h1)
theorem chrE(x:Nat)(h:x≤1114111):(decide (0≤(x:Int))&&decide ((x:Int)≤1114111))=true:=an (dT (cN x)) (dT (Int.ofNat_le.mpr h))
theorem zfZ(way:Int)(w white:List Nat):(wr way w white).length≤2*w.length+white.length+2:=by
 have h:=fun a s=>zgP a s w;have h1:=h (way==3) [34,92];have h2:=h (way==1) [92,32];unfold wr;induction q03 way with
 | true=>unfold wrQ;simp only [cond_true,List.length_append,List.length_cons,List.length_nil];exact lz3 0x22207881000860006860008000000047881180041 h1
 | false=>
  unfold wrB;induction way==2&&w.head? == some 34 <;> simp only [cond_true,cond_false,List.length_append,List.length_cons,List.length_nil] <;> lia
theorem Sm.loopN{T:Tabs}{P:PM T}{w:Wt}{ι:Type}(B:Tbl T P.c)(n m:Nat)(H:ι→Nat→Hp)(R:ι→Nat→Prop)(i0:ι)(wk:Wk w.hp (H i0 0))(h0:R i0 0)(hl:∀i k,R i k→Nat.blt w.git (H i k).nx=true∧(H i k).at_ w.git = .riter (0+(k:Int)*1) ((m:Int)-k) 1)
  (hb:∀i (k:Nat),k<m→R i k→Sm P (w.tw P (On1 (Iv H R) n k) (.int k) ((H i k).set w.git (.riter (0+((k+1:Nat):Int)*1) ((m:Int)-(k+1:Nat)) 1)))) (he:∀i,R i m→Sm P (w.kh ((H i m).set w.git .other))) (g0:autoParam ((w.isG,(H i0 0).nx,w.hp.nx)=(true,n,n)) kr1):Sm P w:=
 zt8 (p:=0) (c:=1) (m:=m) B n zhC H R i0 wk h0 hl (fun i k e r=>by rw [Int.mul_one,Int.zero_add];exact hb i k e r) he g0
theorem znZ(N:Nat):Builtin.Range.rangeSize 0 N 1=(N:Int):=by rw [PyProof.Rows.rangeSize_nat];lia
noncomputable def zeS(n:Int)(m k:Nat):Int:=Nat.casesOn (motive:=fun X=>Int) k (Builtin.Range.rangeSize 0 n 1) fun k=>(m:Int)-(k+1:Nat)
theorem zlm{n:Int}{m:Nat}(hn:n=m)(k:Nat):zeS n m k=(m:Int)-k:=by
 subst hn;induction k using Nat.casesOn with
 | zero=>exact (znZ m).trans (Int.sub_zero _).symm
 | succ k=>rfl
def zfE(m k:Nat):Int:=zeS m m k
theorem Sm.loopS{T:Tabs}{P:PM T}{w:Wt}{ι:Type}(B:Tbl T P.c)(n m:Nat)(H:ι→Nat→Hp)(R:ι→Nat→Prop)(i0:ι)(wk:Wk w.hp (H i0 0))(h0:R i0 0){N:Int}(hn:N=(m:Nat))(hl:∀i k,R i k→Nat.blt w.git (H i k).nx=true∧(H i k).at_ w.git = .riter (0+(k:Int)*1) (zeS N m k) 1)
  (hb:∀i (k:Nat),k<m→R i k→Sm P (w.tw P (On1 (Iv H R) n k) (.int k) ((H i k).set w.git (.riter (0+((k+1:Nat):Int)*1) (zeS N m (k+1)) 1)))) (he:∀i,R i m→Sm P (w.kh ((H i m).set w.git .other))) (g0:autoParam ((w.isG,(H i0 0).nx,w.hp.nx)=(true,n,n)) kr1):Sm P w:=
 loopN B n m H R i0 wk h0 (fun i k r=>zlm hn k▸hl i k r) hb he g0
theorem zaw{N:Nat}(h:N≤1000000):Builtin.Range.small 0 N 1=true:=PySem.small_one (by decide) (by decide) (by lia) (by lia)
noncomputable def unL:List Nat:=[173,847,6150,6155,6156,6157,8203,8204,8205,8288,65279,65024,65025,65026,65027,65028,65029,65030,65031,65032,65033,65034,65035,65036,65037,65038,65039]
theorem Wk.msk{h g:Hp}(L:Nat)(l:List (Str×AV))(hf:autoParam ((h.at_ L).frame?.isSome=true) kr1)(e1:autoParam ((l.map fun p=>((h.at_ L).frame?.getD []).lookup p.1)=l.map fun p=>some p.2) kr1)(e2:autoParam (((List.range g.nx).map fun k=>cond (g.at_ k).live ((h.set L (.frame l)).at_ k) .other)=(List.range g.nx).map g.at_) kr1)(b:autoParam ((Nat.ble g.nx h.nx&&(List.range g.nx).all fun k=>!(g.at_ k).live || (g.at_ k).bf g.nx)=true) kr1):Wk h g:=by
 have z:Wk (h.set L (.frame l)) ⟨h.nx,fun k=>cond (g.at_ k).live ((h.set L (.frame l)).at_ k) .other⟩:=⟨rL _,fun k X=>by
  show (cond (g.at_ k).live ((h.set L (.frame l)).at_ k) .other:AO).live=true→((h.set L (.frame l)).at_ k).live=true∧∀c W ob,ObjIs c W h.nx ob ((h.set L (.frame l)).at_ k)→ObjIs c W h.nx ob (cond (g.at_ k).live ((h.set L (.frame l)).at_ k) .other);induction (g.at_ k).live with
  | true=>exact fun l=>⟨l,fun X X X i=>i⟩
  | false=>exact fun l=>nomatch l⟩
 obtain ⟨l',q⟩:=iE hf;exact (Wk.frm q (by rw [q] at e1;exact e1)).trans (z.trans (.cut e2 b))
noncomputable def zhG(c k:Nat):Nat:=c/10^k%10
noncomputable def zbA(c:Nat):Nat:=c/10000000000%100%13
def zcL(c:Nat):Nat:=(119826+52*(zbA c:Int)).toNat
def zeo(c:Nat):Nat:=unL.getD (c/100000000%100%27) 0
def zag(c k:Nat)(l:Int):List Nat:=[[115],[83],[383],bif decide (1<l) then [223] else [115],[zcL c]].getD (zhG c k%5) []
def zhN(c k:Nat)(l:Int):Int:=bif zag c k l == [223] then 2 else 1
def zbR(c k:Nat):List Nat:=bif decide ((4:Int)<(zhG c k:Nat)) then [zeo c] else []
def zfe(c k:Nat)(i:Int×List Nat):Int×List Nat:=bif decide (0<i.1) then (i.1-zhN c k i.1,i.2++zag c k i.1++zbR c k) else i
def zcU(c x:Nat)(k:Nat):Int×List Nat:=Nat.rec (motive:=fun X=>Int×List Nat) ((x:Int),[]) (fun k i=>zfe c k i) k
def zed(c x:Nat):List Nat:=(zcU c x x).2
def unA:List AV:=unL.map fun (k:Nat)=>AV.int k
theorem zeI(c k:Nat)(l:Int):(zag c k l).length≤1:=by
 have h:∀x∈ [[115], [83], [383],bif decide (1<l) then [223] else [115], [zcL c]],x.length≤1:=by
  intro x hx;simp only [List.mem_cons,List.not_mem_nil,or_false] at hx;rcases hx with rfl | rfl | rfl | rfl | rfl <;> first | exact rL 1 | (induction decide (1<l) <;> exact rL 1)
 unfold zag;rw [gD];induction e:([[115], [83], [383],bif decide (1<l) then [223] else [115], [zcL c]]:List (List Nat))[zhG c k%5]? with
 | none=>exact oL _
 | some x=>exact h x (mG e)
theorem zgr(c k:Nat):(zbR c k).length≤1:=by
 unfold zbR;induction decide ((4:Int)<(zhG c k:Nat)) <;> first | exact rL 1 | exact oL 1
theorem zgY(c x:Nat):∀k,(zcU c x k).2.length≤2*k
 | 0=>rL _
 | k+1=>by
  have h:=zgY c x k;show (zfe c k (zcU c x k)).2.length≤_;unfold zfe;induction decide (0<(zcU c x k).1) with
  | false=>exact lT h (by lia)
  | true=>
   show ((zcU c x k).2++zag c k (zcU c x k).1++zbR c k).length≤_;rw [lA,lA];have h1:=zeI c k (zcU c x k).1;have h2:=zgr c k;exact lz4 0x211c0881248180000061240061200047881180043 h h1 h2
noncomputable def w28c(P:PM T3)(x c:Nat)(s:List Nat):Wt:=pW P (fd 28,[]) [.int x, .int c] (.str s)
def zkn(x c:Nat)(i:Int×List Nat)(k:Nat):Hp:= .of [.frame [("left", .int i.1),("typed", .str i.2),("unseen", .ref 4),("cell", .int c)], .other, .other, .other, .list false unA, .range 0 x 1, .riter (0+(k:Int)*1) (zfE x k) 1]
def zkm(x c:Nat)(i:Int×List Nat)(k:Nat):Prop:=i=zcU c x k
theorem zrM(B:Tbl T3 P.c)(x c:Nat)(hx:x≤8)(k:K (.str (zed c x)) h):za3 P.up (.glob 369) [.int x, .int c] [] h K:=by
 refine zb1 B (?_:Sm P (w28c P x c (zed c x))) k;refine .tt (.ok (.ok (.st .o (zaw (lT hx (by decide)):Builtin.Range.small 0 (x:Int) 1=true) ?_)));refine .loopS B 7 x (zkn x c) (zkm x c) (x, []) (.msk 0 [("left", .int (x:Nat)),("typed", .str []),("unseen", .ref 4),("cell", .int c)]) rfl rfl (fun X X X=>⟨by kernel_rfl,by kernel_rfl⟩) ?_ ?_
 ·intro i k hk r
  have k8:k<8:=lL hk hx;have tl:i.2.length+2≤sizeL:=by
   rw [r];exact lT (Nat.add_le_add_right (lT (zgY c x k) (Nat.mul_le_mul_left 2 (lO k8))) 2) (by decide)
  have r':zcU c x (k+1)=zfe c k i:=congrArg (zfe c k) r.symm;clear r;have p1:(10:Int)^(k:Int).toNat=((10^k:Nat):Int):=by rw [Int.toNat_natCast];push_cast;rfl
  have p2:(decide (0≤(k:Int))&&decide ((k:Int)≤100000)&&decide (Int.natAbs 10<2^64))=true:=an (an (dT (cN k)) (dT (Int.ofNat_le.mpr (lO (Nat.lt_trans k8 (by decide))):(k:Int)≤((100000:Nat):Int)))) (by decide);have p3:(Nat.blt 0 (10^k)&&Nat.blt (10^k) 18446744073709551616)=true:=(by decide:∀k,k<8→(Nat.blt 0 (10^k)&&Nat.blt (10^k) 18446744073709551616)=true) k k8;unfold zfe at r';rcases fT (decide (0<i.1)) with q | q
  ·rw [q] at r'
   refine (let ww:Wt:=_;(?_:Sm _ ww));refine .st (.b true) q (.st (.i (10^k:Nat)) (aO p1 p2) (.dv c (10^k) (.md (c/10^k) 10 ?_) p3));refine .num 10000000000 (.dv c 10000000000 (.md (c/10000000000) 100 (.md (c/10000000000%100) 13 ?_)));refine .st (.i (52*(zbA c:Int))) (aO rfl (an (rfl:za1 52=true) (zaz (lT (lO (mT _ (by decide)):zbA c≤13) (by decide)))):52*(zbA c:Int)=52*(zbA c:Int)∧(za1 52&&za1 (zbA c:Nat))=true) ?_;have m13:zbA c<13:=mT _ (by decide);have gr:(decide (0≤119826+52*(zbA c:Int))&&decide (119826+52*(zbA c:Int)≤1114111))=true:=an (dT (by lia)) (dT (by lia));refine (let ww:Wt:=_;(?_:Sm _ ww));refine .st .o gr ?_;have ep:nth ([[115], [83], [383],bif decide (1<i.1) then [223] else [115], [zcL c]].map AV.str) ((zhG c k%5:Nat):Int)=some (.str (zag c k i.1)):=zt5 [[115], [83], [383],bif decide (1<i.1) then [223] else [115], [zcL c]] [] 5 (zhG c k) AV.str;have pl:=zeI c k i.1;have e1:zcU c x (k+1)=(i.1-zhN c k i.1,i.2++zag c k i.1++zbR c k):=r';unfold zhN at e1;have hh:nth unA ((c/100000000%100%27:Nat):Int)=some (.int (zeo c)):=zt5 unL 0 27 (c/100000000%100) (fun (k:Nat)=>AV.int k);have hc:=chrE (zeo c) (zlJ (p:=fun x=>x≤1114111) _ (by decide) (by decide));rcases fT (decide (1<i.1)) with q2 | q2
   ·rw [q2] at ep
    refine (let ww:Wt:=_;(?_:Sm _ ww));refine .st (.b true) q2 (.tt (.md (c/10^k%10) 5 (.st (.a (.str (zag c k i.1))) ep ?_)));generalize zag c k i.1=pc at*;have l1:i.2.length+pc.length≤sizeL:=lT (Nat.add_le_add_left (Nat.le_succ_of_le pl) _) tl;have l2:(i.2++pc).length+1≤sizeL:=by rw [lA];exact lT (Nat.add_le_add_right (Nat.add_le_add_left pl _) 1) tl
    unfold zbR at e1;rcases fT (pc == [223]) with q3 | q3
    ·rw [q3] at e1
     refine (let ww:Wt:=_;(?_:Sm _ ww));refine .st (.b true) q3 (.st .o (bt (b:=sizeL) l1) ?_);rcases fT (decide ((4:Int)<(zhG c k:Nat))) with q4 | q4
     ·rw [q4] at e1
      refine (let ww:Wt:=_;(?_:Sm _ ww));exact .st (.b true) q4 (.num 100000000 (.dv c 100000000 (.md (c/100000000) 100 (.md (c/100000000%100) 27 (.st (.a (.int (zeo c))) hh (.st .o hc (.st .o (bt (b:=sizeL) l2) (.next 7 (zkn x c) (zkm x c) k (i.1-2,i.2++pc ++ [zeo c]) (.msk 0 [("left", .int (i.1-2)),("typed", .str (i.2++pc ++ [zeo c])),("unseen", .ref 4),("cell", .int c)]) e1.symm))))))))
     ·rw [q4] at e1
      refine (let ww:Wt:=_;(?_:Sm _ ww));exact .st (.b false) q4 (.next 7 (zkn x c) (zkm x c) k (i.1-2,i.2++pc) (.msk 0 [("left", .int (i.1-2)),("typed", .str (i.2++pc)),("unseen", .ref 4),("cell", .int c)]) (e1.trans (congrArg (Prod.mk (i.1-2)) (aL _))).symm)
    ·rw [q3] at e1
     refine (let ww:Wt:=_;(?_:Sm _ ww));refine .st (.b false) q3 (.st .o (bt (b:=sizeL) l1) ?_);rcases fT (decide ((4:Int)<(zhG c k:Nat))) with q4 | q4
     ·rw [q4] at e1
      refine (let ww:Wt:=_;(?_:Sm _ ww));exact .st (.b true) q4 (.num 100000000 (.dv c 100000000 (.md (c/100000000) 100 (.md (c/100000000%100) 27 (.st (.a (.int (zeo c))) hh (.st .o hc (.st .o (bt (b:=sizeL) l2) (.next 7 (zkn x c) (zkm x c) k (i.1-1,i.2++pc ++ [zeo c]) (.msk 0 [("left", .int (i.1-1)),("typed", .str (i.2++pc ++ [zeo c])),("unseen", .ref 4),("cell", .int c)]) e1.symm))))))))
     ·rw [q4] at e1
      refine (let ww:Wt:=_;(?_:Sm _ ww));exact .st (.b false) q4 (.next 7 (zkn x c) (zkm x c) k (i.1-1,i.2++pc) (.msk 0 [("left", .int (i.1-1)),("typed", .str (i.2++pc)),("unseen", .ref 4),("cell", .int c)]) (e1.trans (congrArg (Prod.mk (i.1-1)) (aL _))).symm)
   ·rw [q2] at ep
    refine (let ww:Wt:=_;(?_:Sm _ ww));refine .st (.b false) q2 (.tt (.md (c/10^k%10) 5 (.st (.a (.str (zag c k i.1))) ep ?_)));generalize zag c k i.1=pc at*;have l1:i.2.length+pc.length≤sizeL:=lT (Nat.add_le_add_left (Nat.le_succ_of_le pl) _) tl;have l2:(i.2++pc).length+1≤sizeL:=by rw [lA];exact lT (Nat.add_le_add_right (Nat.add_le_add_left pl _) 1) tl
    unfold zbR at e1;rcases fT (pc == [223]) with q3 | q3
    ·rw [q3] at e1
     refine (let ww:Wt:=_;(?_:Sm _ ww));refine .st (.b true) q3 (.st .o (bt (b:=sizeL) l1) ?_);rcases fT (decide ((4:Int)<(zhG c k:Nat))) with q4 | q4
     ·rw [q4] at e1
      refine (let ww:Wt:=_;(?_:Sm _ ww));exact .st (.b true) q4 (.num 100000000 (.dv c 100000000 (.md (c/100000000) 100 (.md (c/100000000%100) 27 (.st (.a (.int (zeo c))) hh (.st .o hc (.st .o (bt (b:=sizeL) l2) (.next 7 (zkn x c) (zkm x c) k (i.1-2,i.2++pc ++ [zeo c]) (.msk 0 [("left", .int (i.1-2)),("typed", .str (i.2++pc ++ [zeo c])),("unseen", .ref 4),("cell", .int c)]) e1.symm))))))))
     ·rw [q4] at e1
      refine (let ww:Wt:=_;(?_:Sm _ ww));exact .st (.b false) q4 (.next 7 (zkn x c) (zkm x c) k (i.1-2,i.2++pc) (.msk 0 [("left", .int (i.1-2)),("typed", .str (i.2++pc)),("unseen", .ref 4),("cell", .int c)]) (e1.trans (congrArg (Prod.mk (i.1-2)) (aL _))).symm)
    ·rw [q3] at e1
     refine (let ww:Wt:=_;(?_:Sm _ ww));refine .st (.b false) q3 (.st .o (bt (b:=sizeL) l1) ?_);rcases fT (decide ((4:Int)<(zhG c k:Nat))) with q4 | q4
     ·rw [q4] at e1
      refine (let ww:Wt:=_;(?_:Sm _ ww));exact .st (.b true) q4 (.num 100000000 (.dv c 100000000 (.md (c/100000000) 100 (.md (c/100000000%100) 27 (.st (.a (.int (zeo c))) hh (.st .o hc (.st .o (bt (b:=sizeL) l2) (.next 7 (zkn x c) (zkm x c) k (i.1-1,i.2++pc ++ [zeo c]) (.msk 0 [("left", .int (i.1-1)),("typed", .str (i.2++pc ++ [zeo c])),("unseen", .ref 4),("cell", .int c)]) e1.symm))))))))
     ·rw [q4] at e1
      refine (let ww:Wt:=_;(?_:Sm _ ww));exact .st (.b false) q4 (.next 7 (zkn x c) (zkm x c) k (i.1-1,i.2++pc) (.msk 0 [("left", .int (i.1-1)),("typed", .str (i.2++pc)),("unseen", .ref 4),("cell", .int c)]) (e1.trans (congrArg (Prod.mk (i.1-1)) (aL _))).symm)
  ·rw [q] at r'
   refine (let ww:Wt:=_;(?_:Sm _ ww));exact .st (.b false) q (.next 7 (zkn x c) (zkm x c) k i (.msk 0 [("left", .int i.1),("typed", .str i.2),("unseen", .ref 4),("cell", .int c)]) r'.symm)
 ·intro i r
  refine (let ww:Wt:=_;(?_:Sm _ ww));exact .asIs (.fin (congrArg (fun i:Int×List Nat=>AV.str i.2) r:AV.str i.2 = .str (zed c x)))
noncomputable def zpZ(t l d k j:Nat):Int:=(k:Int)+j+t-(k*d:Nat)-(j*l:Nat)
noncomputable def zlV(t l d k:Nat):Nat:=(t-k*d)/l+1
def zu2(t l d k:Nat):List Int:=(List.range (zlV t l d k)).map (zpZ t l d k)
def zco(t l d k:Nat):List Int:=(List.range k).flatMap (zu2 t l d)
def zab(t l d:Nat):Int:=(zpG (zco t l d (t/d+1))).getD 0
theorem zjF{t l d k:Nat}(ht:t≤12):zlV t l d k≤13:=uL (lT (Nat.div_le_self _ _) (lT (Nat.sub_le _ _) ht))
theorem zdc(t l d k:Nat):zco t l d (k+1)=zco t l d k++(List.range (zlV t l d k)).map (zpZ t l d k):=by
 unfold zco;rw [List.range_succ,List.flatMap_append,List.flatMap_singleton];rfl
theorem zes{t l d:Nat}(ht:t≤12):∀k,(zco t l d k).length≤13*k
 | 0=>rL _
 | k+1=>by
  rw [zdc,lA,lM,lR,Nat.mul_add];exact jD (zes ht k) (zjF ht)
theorem zkq(t l d:Nat):∃x r,zco t l d (t/d+1)=x :: r:=by
 unfold zco;rw [List.range_succ_eq_map,List.flatMap_cons];unfold zu2;rw [show zlV t l d 0=_+1 from rfl,List.range_succ_eq_map,mC];exact ⟨_,_,rfl⟩
theorem zj1(t l d:Nat):zpG (zco t l d (t/d+1))=some (zab t l d):=by
 obtain ⟨x,r,e⟩:=zkq t l d;unfold zab;rw [e];rfl
noncomputable def w31l(P:PM T3)(t l d:Nat)(s:Int):Wt:=pW P (fd 31,[]) [.int t, .int l, .int d] (.int s)
noncomputable def zpI(t l d:Nat)(r:List (Str×AV)):List (Str×AV):=("ways", .ref 1) :: ("high", .int d) :: ("low", .int l) :: ("total", .int t) :: r
def zuH(t l d:Nat)(acc:List AV)(k:Nat):Hp:= .of [.frame (zpI t l d []), .list false acc, .range 0 (t/d+1:Nat) 1, .riter (0+(k:Int)*1) (zfE (t/d+1) k) 1]
def zuC(t l d:Nat)(acc:List AV)(k:Nat):Prop:=acc=(zco t l d k).map .int
def zuI(t l d m k:Nat)(acc:List AV)(j:Nat):Hp:= .of [.frame (zpI t l d [("dear", .int k)]), .list false acc, .range 0 (t/d+1:Nat) 1, .riter (0+((k+1:Nat):Int)*1) (zfE (t/d+1) (k+1)) 1, .range 0 m 1, .riter (0+(j:Int)*1) (zfE m j) 1]
def zuD(t l d k:Nat)(acc:List AV)(j:Nat):Prop:=acc=(zco t l d k++(List.range j).map (zpZ t l d k)).map .int
theorem zpo(B:Tbl T3 P.c)(t l d:Nat)(ht:t≤12)(hl:0<l)(hl2:l≤8)(hd:0<d)(hd2:d≤8)(k:K (.int (zab t l d)) h):za3 P.up (.glob 390) [.int t, .int l, .int d] [] h K:=by
 refine zb1 B (?_:Sm P (w31l P t l d (zab t l d))) k;have bl:∀{x:Nat},0<x→x≤8→(Nat.blt 0 x&&Nat.blt x 18446744073709551616)=true:=fun a b=>an (bt a) (bt (lE b (by decide)));have td:t/d≤12:=lT (Nat.div_le_self _ _) ht;refine .tt (.dv t d ?_ (bl hd hd2));refine .st .o (zaw (N:=t/d+1) (lT (uL td) (by decide)):Builtin.Range.small 0 (((t/d:Nat):Int)+1) 1=true) ?_;refine .loopS B 4 (t/d+1) (zuH t l d) (zuC t l d) [] (.msk 0 (zpI t l d [])) rfl rfl (fun X X X=>⟨by kernel_rfl,by kernel_rfl⟩) ?_ ?_
 ·intro acc k hk r
  have k12:k≤12:=lT (Nat.le_of_lt_succ hk) td;have kd:k*d≤t:=lT (Nat.mul_le_mul_right d (Nat.le_of_lt_succ hk)) (Nat.div_mul_le_self t d);have sm:∀{x:Nat},x≤100→za1 (x:Int)=true:=fun h=>zaz (lT h (by decide));have e1:(k:Int)*(d:Int)=((k*d:Nat):Int)∧(za1 (k:Int)&&za1 (d:Int))=true:=⟨(Int.natCast_mul k d).symm,an (sm (lT k12 (by decide))) (sm (lT hd2 (by decide)))⟩;have e2:((t:Int)-(k*d:Nat)).fdiv (l:Int)=(((t-k*d)/l:Nat):Int)∧((l:Int) != 0 && !Builtin.divisionGoesByPylong ((t:Int)-(k*d:Nat)) (l:Int))=true:=by
   rw [←Int.ofNat_sub kd];exact dvE (t-k*d) (bl hl hl2)
  have cl:zlV t l d k≤13:=zjF ht;refine .st (.i (k*d:Nat)) e1 (.st (.i ((t-k*d)/l:Nat)) e2 (.st .o (zaw (N:=zlV t l d k) (lT cl (by decide)):Builtin.Range.small 0 ((((t-k*d)/l:Nat):Int)+1) 1=true) ?_));refine .loopS B 6 (zlV t l d k) (zuI t l d (zlV t l d k) k) (zuD t l d k) acc (.msk 0 (zpI t l d [("dear", .int k)])) (r.trans (congrArg (List.map AV.int) (aL _)).symm) rfl (fun X X X=>⟨by kernel_rfl,by kernel_rfl⟩) ?_ ?_
  ·intro acc j hj r
   have e3:(j:Int)*(l:Int)=((j*l:Nat):Int)∧(za1 (j:Int)&&za1 (l:Int))=true:=⟨(Int.natCast_mul j l).symm,an (sm (lT (lO hj) (lT cl (by decide)))) (sm (lT hl2 (by decide)))⟩;have la:acc.length+1≤sizeL:=by
    rw [r,lM,lA,lM,lR];exact lT (Nat.add_le_add_right (jD (lT (zes ht k) (Nat.mul_le_mul_left 13 k12)) (lT (lO hj) cl)) 1) (by decide)
   refine .st (.i (k*d:Nat)) e1 (.st (.i (j*l:Nat)) e3 (.st .o (an (bt (b:=sizeL) la) (rfl:(false || true)=true)) (.next 6 (zuI t l d (zlV t l d k) k) (zuD t l d k) j (acc ++ [.int (zpZ t l d k j)]) (.msk 0 (zpI t l d [("dear", .int k)])) ?_)));show acc ++ [AV.int (zpZ t l d k j)]=_;rw [r,List.range_succ,mA (l₁:=List.range j),←aA,mA (l₂:= [j].map _)];rfl
  ·intro acc r
   exact .next 4 (zuH t l d) (zuC t l d) k acc (.msk 0 (zpI t l d [])) (r.trans (congrArg (List.map AV.int) (zdc t l d k).symm))
 ·intro acc r
  exact .st (.li (zco t l d (t/d+1))) r (.st (.i (zab t l d)) (zj1 t l d) (.asIs (.fin (rfl:AV.int (zab t l d) = .int (zab t l d)))))
noncomputable def zml(t l d f:Nat):Int:=((t/d:Nat):Int)-f+((((t%d:Nat):Int)+(f*d:Nat)).fdiv l+(((t%d:Nat):Int)+(f*d:Nat)).fmod l)
def zfT(t l d f:Nat):Option Int:=bif decide ((f:Int)≤(t/d:Nat)) then some (zml t l d f) else none
def zbk(t l d k:Nat):List Int:=(List.range k).filterMap (zfT t l d)
def zbI(t l d:Nat):Int:=(zpG (zbk t l d l)).getD 0
theorem zhR(t l d k:Nat):zbk t l d (k+1)=zbk t l d k++(zfT t l d k).toList:=by
 unfold zbk;rw [List.range_succ,List.filterMap_append];rfl
theorem zjW(t l d:Nat)(k:Nat):(zbk t l d k).length≤k:=lT (List.length_filterMap_le _ _) (eL lR)
theorem zha(t d:Nat){l:Nat}(hl:0<l):zpG (zbk t l d l)=some (zbI t l d):=by
 have:∃x r,zbk t l d l=x :: r:=by
  obtain ⟨l,rfl⟩:∃m,l=m+1:=⟨l-1,(Nat.sub_add_cancel hl).symm⟩;unfold zbk;rw [List.range_succ_eq_map,List.filterMap_cons];unfold zfT;rw [show decide (((0:Nat):Int)≤(t/d:Nat))=true from dT (cN _)];exact ⟨_,_,rfl⟩
 obtain ⟨x,r,e⟩:=this;unfold zbI;rw [e];rfl
noncomputable def w32l(P:PM T3)(t l d:Nat)(s:Int):Wt:=pW P (fd 32,[]) [.int t, .int l, .int d] (.int s)
noncomputable def zs9(t l d:Nat):List (Str×AV):=[("ways", .ref 1),("high", .int d),("low", .int l),("total", .int t)]
def H32(t l d:Nat)(acc:List AV)(k:Nat):Hp:= .of [.frame (zs9 t l d), .list false acc, .range 0 l 1, .riter (0+(k:Int)*1) (zfE l k) 1]
def R32(t l d:Nat)(acc:List AV)(k:Nat):Prop:=acc=(zbk t l d k).map .int
theorem zrN(B:Tbl T3 P.c)(t l d:Nat)(hl:0<l)(hl2:l≤1000)(hd:0<d)(hd2:d≤1000)(k:K (.int (zbI t l d)) h):za3 P.up (.glob 397) [.int t, .int l, .int d] [] h K:=by
 refine zb1 B (?_:Sm P (w32l P t l d (zbI t l d))) k;have bl:∀{x:Nat},0<x→x≤1000→(Nat.blt 0 x&&Nat.blt x 18446744073709551616)=true:=fun a b=>an (bt a) (bt (lE b (by decide)));have sm:∀{x:Nat},x≤1000→za1 (x:Int)=true:=fun h=>zaz (lT h (by decide));refine .tt (.st .o (zaw (lT hl2 (by decide)):Builtin.Range.small 0 (l:Int) 1=true) ?_);refine .loopS B 4 l (H32 t l d) (R32 t l d) [] (.msk 0 (zs9 t l d)) rfl rfl (fun X X X=>⟨by kernel_rfl,by kernel_rfl⟩) ?_ ?_
 ·intro acc k hk r
  refine .dv t d ?_ (bl hd hd2);have nx:(zbk t l d (k+1)).map AV.int=acc++((zfT t l d k).toList.map .int):=by rw [zhR,mA,←r]
  unfold zfT at nx;rcases fT (decide ((k:Int)≤(t/d:Nat))) with q | q
  ·rw [q] at nx
   have la:acc.length+1≤sizeL:=by
    rw [r,lM];exact lT (Nat.add_le_add_right (lT (zjW t l d k) (lT (lO hk) hl2)) 1) (by decide)
   refine .st (.b true) q (.dv t d (.md t d ?_ (bt hd)) (bl hd hd2));have e1:(k:Int)*(d:Int)=((k*d:Nat):Int)∧(za1 (k:Int)&&za1 (d:Int))=true:=⟨(Int.natCast_mul k d).symm,an (sm (lT (lO hk) hl2)) (sm hd2)⟩;have e2:((l:Int) != 0 && !Builtin.divisionGoesByPylong (((t%d:Nat):Int)+(k*d:Nat)) (l:Int))=true:=by
    rw [←Int.natCast_add];exact (dvE (t%d+k*d) (bl hl hl2)).2
   refine .st (.i (k*d:Nat)) e1 (.st .o e2 (.st .o (an (bt (b:=sizeL) la) (rfl:(false || true)=true)) (.next 4 (H32 t l d) (R32 t l d) k (acc ++ [AV.int (zml t l d k)]) (.msk 0 (zs9 t l d)) ?_)));exact nx.symm
  ·rw [q] at nx
   exact .st (.b false) q (.next 4 (H32 t l d) (R32 t l d) k acc (.msk 0 (zs9 t l d)) (nx.trans (aL _)).symm)
 ·intro acc r
  exact .st (.li (zbk t l d l)) r (.st (.i (zbI t l d)) (zha t d hl) (.asIs (.fin (rfl:AV.int (zbI t l d) = .int (zbI t l d)))))
noncomputable def grT(i:Int×Nat)(w:Nat):Int×Nat:=(i.1+(i.2/w:Nat),i.2%w)
def grI(t l d k:Nat):Int×Nat:=([d,l].take k).foldl grT (0,t)
noncomputable def dvA(x w u:Nat):Nat:=(x+w*u)*u+u/3
theorem zpb{x w u:Nat}(hw:0<w)(hu:0<u):dvA x w u/(w*u)=u+x/w∧dvA x w u%(w*u)=x%w*u+u/3:=by
 have h3:u/3<u:=Nat.div_lt_self hu (by decide);have hx:w*(x/w)+x%w=x:=Nat.div_add_mod x w;have hm:x%w<w:=mT _ hw;have hr:x%w*u+u/3<w*u:=by
  have:(x%w+1)*u≤w*u:=Nat.mul_le_mul_right u hm;rw [Nat.add_mul,Nat.one_mul] at this;exact lz4 0x98462000000491c8000047846000042 h3 this
 have e:dvA x w u=(w*u)*(u+x/w)+(x%w*u+u/3):=by
  unfold dvA;generalize x/w=q at*;generalize x%w=r at*;subst hx;simp only [Nat.add_mul,Nat.mul_add];have e1:w*q*u=w*u*q:=by rw [Nat.mul_assoc,Nat.mul_comm q u,←Nat.mul_assoc]
  exact Nat.le_antisymm (lz5 0xa2001c9000289206000000047180041 (lzq e1)) (lz5 0xa2091c0000289006200000047180041 (lzr e1))
 rw [e,Nat.mul_add_div (Nat.mul_pos hw hu),Nat.mul_add_mod,Nat.div_eq_of_lt hr,Nat.mod_eq_of_lt hr];exact ⟨rfl,rfl⟩
theorem dvR{r u:Nat}(hu:0<u):(r*u+u/3)%u=u/3∧(r*u+u/3)/u=r:=by
 have h3:u/3<u:=Nat.div_lt_self hu (by decide);rw [Nat.mul_comm,Nat.mul_add_mod,Nat.mul_add_div hu,Nat.mod_eq_of_lt h3,Nat.div_eq_of_lt h3];exact ⟨rfl,rfl⟩
theorem zmI{b A:Nat}(h:A<2^(110+2*zaj b))(hb:0<zaj b)(hb2:zaj b≤20000):okD b A:=by
 have h1:=zbs h;refine ⟨lT h1 (lz1 0x186a00408688106e082000044e200c2180081 hb2),?_⟩;unfold zd0;refine lT (Nat.div_le_div_right (Nat.sub_le_sub_right (Nat.add_le_add_right h1 _) 1)) ?_;refine Nat.le_of_lt_succ ((Nat.div_lt_iff_lt_mul hb).mpr ?_)
 omega
theorem zt2{x w u:Nat}(hw:0<w)(hu:0<u)(hx:x<2^100)(hb:zaj (w*u)≤20000):okD (w*u) (dvA x w u):=by
 have m:=zbX (w*u);have b0:0<zaj (w*u):=by
  rcases Nat.eq_zero_or_pos (zaj (w*u)) with z | z
  ·rw [z] at m
   exact absurd (Nat.mul_pos hw hu) (by exact fun zz=>lzn (lz1 0x20840006860000061846000042 m zz))
  ·exact z
 refine zmI ?_ b0 hb;have u1:u≤w*u:=Nat.le_mul_of_pos_left u hw;have m2:2≤2^zaj (w*u):=pR (n:=2) (i:=1) (by decide) b0;rw [Nat.pow_add,Nat.two_mul,Nat.pow_add];generalize 2^zaj (w*u)=M at*;have u3:u/3≤u:=Nat.div_le_self _ _;have h1:x+w*u≤2^100*M:=by
  have:2^100*2≤2^100*M:=Nat.mul_le_mul_left _ m2;have:2*M≤2^100*M:=Nat.mul_le_mul_right _ (by decide)
  omega
 have h2:(x+w*u)*u≤2^100*M*M:=Nat.mul_le_mul h1 (lz3 0x8180048847000047180042 u1 m);have h3:M≤2^100*M*M:=by
  rw [Nat.mul_assoc];exact lT (Nat.le_mul_of_pos_left M (lz1 0x6860000046880041 m2:0<M)) (Nat.le_mul_of_pos_left _ (by decide))
 rw [show 2^110=2^100*1024 from rfl,show 2^100*1024*(M*M)=1024*(2^100*M*M) by rw [Nat.mul_comm (2^100) 1024,Nat.mul_assoc,Nat.mul_assoc (2^100)]];unfold dvA;exact lz6 0x2d000208184928000004b20004b280046240048847000047180045 u1 m u3 h2 h3
theorem zh6{u:Nat}(hu:0<u):0<zaj u:=by
 rcases Nat.eq_zero_or_pos (zaj u) with z | z
 ·have:=zbX u
  rw [z] at this;exact absurd hu (by exact fun zz=>lzn (lz1 0x20840021846000046860000042 hu this))
 ·exact z
theorem zkP{x w u:Nat}(hw0:0<w)(hu:0<u)(hw:w<2^10):(zaj (x%w*u+u/3):Int)-zaj u≤4000:=by
 have m:=zbX u;have u3:u/3<u:=Nat.div_lt_self hu (by decide);have h:x%w*u+u/3<2^(11+zaj u):=by
  have h1:x%w≤2^10:=lO (Nat.lt_trans (mT _ hw0) hw);have h2:x%w*u≤2^10*u:=Nat.mul_le_mul_right u h1;rw [Nat.pow_add];generalize 2^zaj u=M at*
  omega
 have:=zbs h;exact lz2 0xfa00821c51850c1047ac0180041 this
theorem c_dm(B:Tbl T3 P.c)(a b q r:Nat)(hb:0<b)(hbl:zaj b≤120000)(ha:okD b a)(e:a/b=q∧a%b=r)(k0:K (zbt q r) h):za3 (P.lv 13).up (.glob 239) [.int a, .int b] [] h K:=by
 obtain ⟨rfl,rfl⟩:=e;exact zcW B a b hb hbl ha k0
noncomputable def w33l(P:PM T3)(t l d u:Nat)(s:Int):Wt:=pW P (fd 33,[]) [.int t, .int l, .int d, .int u] (.int s)
noncomputable def zb8(t l d:Nat):Int:=((t/d:Nat):Int)+(t%d/l:Nat)+(t%d%l:Nat)
noncomputable def zti(t l d u:Nat)(i:Int×Nat):List (Str×AV):=[("left", .int i.2),("count", .int i.1),("unit", .int u),("high", .int d),("low", .int l),("total", .int t)]
def H33(t l d u:Nat)(i:Int×Nat)(k:Nat):Hp:= .of [.frame (zti t l d u i), .list false ([d,l].map fun w=> .int (w:Nat)), .liter (.ref 1) k]
structure R33(t l d:Nat)(i:Int×Nat)(k:Nat):Prop where
 le:i.2≤t
 eq:i=grI t l d k
theorem R33.fin{t l d:Nat}{i:Int×Nat}(r:R33 t l d i [d,l].length):i.1+(i.2:Int)=zb8 t l d:=by
 rw [r.eq];show (0:Int)+(t/d:Nat)+(t%d/l:Nat)+(t%d%l:Nat)=_;rw [Int.zero_add];rfl
theorem zme(B:Tbl T3 P.c)(t l d u:Nat)(ht:t<2^100)(hl:0<l)(hl2:l≤1000)(hd:0<d)(hd2:d≤1000)(hu:0<u)(n:Nat)(hn:n≤7000)(hu2:u<2^n)(k:K (.int (zb8 t l d)) h):za3 (P.lv 14).up (.glob 404) [.int t, .int l, .int d, .int u] [] h K:=by
 have B':Tbl T3 (P.lv 14).c:=P.lv_c 14▸B;refine zb1 (P:=P.lv 14) B' (?_:Sm (P.lv 14) (w33l (P.lv 14) t l d u (zb8 t l d))) k;refine (let ww:Wt:=_;(?_:Sm _ ww));refine .tt ?_;refine .loopM (z:= [d,l]) (f:=fun w=> .int (w:Nat)) B' 3 (zan (q:=(false, [d,l].map fun w=> .int (w:Nat))) (v:= .ref 1)) (H33 t l d u) (R33 t l d) (0,t) (.msk 0 (zti t l d u (0,t))) ⟨rL _,rfl⟩ (fun X X X=>⟨by kernel_rfl,by kernel_rfl,by kernel_rfl⟩) ?_ ?_
 ·intro i k w e r
  have hw:0<w∧w≤1000:=by
   have:=mG e;simp only [List.mem_cons,List.not_mem_nil,or_false] at this;rcases this with rfl | rfl
   ·exact ⟨hd,hd2⟩
   ·exact ⟨hl,hl2⟩
  obtain ⟨hw0,hw1⟩:=hw;have x100:i.2<2^100:=lE r.le ht;have w10:w<2^10:=lE hw1 (by decide);have wu:w*u<2^(10+n):=by
   rw [Nat.pow_add];exact Nat.mul_lt_mul'' w10 hu2
  have wu0:0<w*u:=Nat.mul_pos hw0 hu;have sm:∀{n k:Nat},n<2^k→k≤80000→za1 (n:Int)=true:=fun h hk=>zap (by rw [Int.natAbs_natCast];exact h) (lT hk (by decide));have su:=sm hu2 (lT hn (by decide));have e1:(w:Int)*(u:Int)=((w*u:Nat):Int)∧(za1 (w:Int)&&za1 (u:Int))=true:=⟨(Int.natCast_mul w u).symm,an (sm w10 (by decide)) su⟩;have xw:i.2+w*u<2^(110+n):=by
   have h1:2^(10+n)≤2^(109+n):=pR (by decide) (lz1 0x181b420801aa000040);have h2:2^100≤2^(109+n):=pR (by decide) (lz1 0x606d082001902080040);rw [show 110+n=109+n+1 by exact Nat.le_antisymm (lz1 0x21181b4208000606e082000040) (lz1 0x606e082021181b42080000040),Nat.pow_succ]
   omega
  have e2:((i.2:Int)+(w*u:Nat))*(u:Int)=(((i.2+w*u)*u:Nat):Int)∧(za1 ((i.2:Int)+(w*u:Nat))&&za1 (u:Int))=true:=by
   rw [←Int.natCast_add];exact ⟨(Int.natCast_mul _ _).symm,an (sm xw (lz1 0x4e200308606e082000041b580c2180041 hn)) su⟩
  have ok:okD (w*u) (dvA i.2 w u):=zt2 hw0 hu x100 (lT (zbs wu) (lz1 0x4e200c21aa000041b580c2180041 hn));have bl:zaj (w*u)≤120000:=lT (zbs wu) (lz1 0x1d4c00c21aa000041b580c2180041 hn);obtain ⟨d1,d2⟩:=zpb (x:=i.2) hw0 hu;obtain ⟨r1,r2⟩:=dvR (r:=i.2%w) hu;refine (let ww:Wt:=_;(?_:Sm _ ww));refine .st (.i (w*u:Nat)) e1 (.st (.i ((i.2+w*u)*u:Nat)) e2 (.dv u 3 (.st (.i (w*u:Nat)) e1 (.callP (c_dm B (dvA i.2 w u) (w*u) (u+i.2/w) (i.2%w*u+u/3) wu0 bl ok ⟨d1,d2⟩) ?_))));have e3:((((i.2%w*u+u/3)%u:Nat):Int)==((u/3:Nat):Int))=true:=by rw [r1];exact bS _
  have e4:(!((((i.2%w*u+u/3)%u:Nat):Int)==((u/3:Nat):Int)))=false:=by rw [e3];rfl
  have e5:((i.2%w*u+u/3:Nat):Int).fdiv (u:Int)=((i.2%w:Nat):Int)∧((u:Int) != 0 && !Builtin.divisionGoesByPylong ((i.2%w*u+u/3:Nat):Int) (u:Int))=true:=by
   refine ⟨by rw [ze7,r2],an (bne_iff_ne.mpr fun q=>absurd (Int.ofNat_inj.mp q) (Nat.ne_of_gt hu)) ?_⟩;rw [zgJ (n:=zaj u) (zdp hu) (zh6 hu) (zkP hw0 hu w10)];rfl
  refine (let ww:Wt:=_;(?_:Sm _ ww));refine .md (i.2%w*u+u/3) u (.dv u 3 (.st (.b false) e4 (.st (.i (i.2%w:Nat)) e5 (.next 3 (H33 t l d u) (R33 t l d) k (i.1+(((u+i.2/w:Nat):Int)-u),i.2%w) (.msk 0 (zti t l d u (i.1+(((u+i.2/w:Nat):Int)-u),i.2%w))) ⟨lT (Nat.mod_le _ _) r.le,?_⟩)))) (bt hu);have g:grI t l d (k+1)=grT (grI t l d k) w:=by
   unfold grI;rw [List.take_succ,e,List.foldl_append];rfl
  rw [g,←r.eq];refine Prod.ext ?_ rfl;show i.1+(((u+i.2/w:Nat):Int)-u)=i.1+(i.2/w:Nat);rw [Int.natCast_add];exact Int.le_antisymm (li [_,_] [_] 0x71460061471461400c6001040) (li [_,_] [_] 0x71461471400c6006146001040)
 ·intro i r
  refine (let ww:Wt:=_;(?_:Sm _ ww));exact .asIs (.fin (congrArg AV.int (r.fin:i.1+(i.2:Int)=zb8 t l d)))
noncomputable def kS'(p:List Nat×List Nat):AV:= .str p.1
def w123(P:PM T3)(ps:List (List Nat×List Nat)):Wt:=dW P (fdH 9,[]) [.ref 0] [] (hO (ps.map pA)) (.ref 3) (hO (ps.map pA) ++ [.list false (ps.map kS')])
noncomputable def zuM(ps:List (List Nat×List Nat))(acc:List AV)(k:Nat):Hp:= .of (hO (ps.map pA) ++ [.frame [], .liter (.ref 2) k, .list false acc, .frame []])
theorem zfj(B:Tbl T3 P.c)(ps:List (List Nat×List Nat))(hp:okH ps):za3 P.up (.glob 123) [.ref 0] [] (Hp.of (hO (ps.map pA))) (DK (.ref 3) (hO (ps.map pA) ++ [.list false (ps.map kS')])):=by
 refine zaW B (?_:Sm P (w123 P ps));refine .loopM B 7 (zan (q:=(false,ps.map pA)) (v:= .ref 2)) (zuM ps) (Mp1 kS' ps) [] (.msk 3 []) rfl (fun X X X=>⟨by kernel_rfl,by kernel_rfl,by kernel_rfl⟩) ?_ ?_
 ·intro acc k p e r
  have nx:=r.next e;exact .asIs (.st .o (an (r.len (n:=sizeL) (Nat.lt_trans hp.2 (by decide))) (rfl:(false || true)=true)) (.next 7 (zuM ps) (Mp1 kS' ps) k (acc ++ [kS' p]) (.msk 6 []) nx))
 ·intro acc r
  obtain rfl:=r.all;exact .asIs (.asIs (.endD 3 (.ref 3) (hO (ps.map pA) ++ [.list false (ps.map kS')]) [0,1,2,5]))
theorem zhq{α:Type}(x:List α):za7 x none none none=x:=by
 have h:=zam x 0;rw [List.drop_zero] at h;refine Eq.trans ?_ h;unfold za7 sliceBounds;have h1:(1:Int)>0:=by decide
 have h2:=zoi 0;have h3:=zfQ 0 x.length;rw [Nat.zero_min] at h3;simp only [Option.getD_none,if_pos h1,if_neg h2,h3]
 rfl
def zsq(P:PM T3)(xs ys:List AV):Wt:=dW P (fdH 11,[]) [.ref 0] [] (hO xs) (.ref 3) (hO xs ++ [.list false ys])
theorem zjR(B:Tbl T3 P.c)(xs:List AV)(hl:xs.length≤sizeL):za3 P.up (.glob 135) [.ref 0] [] (Hp.of (hO xs)) (DK (.ref 3) (hO xs ++ [.list false xs])):=by
 have C:za3 P.up (.glob 135) [.ref 0] [] (Hp.of (hO xs)) (DK (.ref 3) (hO xs ++ [.list false (za7 xs none none none)])):=
  zaW B (.ok (.st .o (bt hl) (.asIs (.endD 3 (.ref 3) (hO xs ++ [.list false (za7 xs none none none)]) [0,1,2,4]))):Sm P (zsq P xs (za7 xs none none none)))
 rw [zhq] at C;exact C
def w63(P:PM T3)(ps:List (List Nat×List Nat)):Wt:=dW P (fdH 0,[.none]) [.ref 1, .ref 2] [] [.dict true [], .inst 171 0, .list false (ps.map pA)] .none [.dict true [(hk, .ref 2)], .inst 171 0, .list false (ps.map pA)]
noncomputable def H63(ps:List (List Nat×List Nat))(_:Unit)(k:Nat):Hp:= .of [.dict true [(hk, .ref 2)], .inst 171 0, .list false (ps.map pA), .frame [("self", .ref 1)], .liter (.ref 2) k]
theorem zmd(B:Tbl T3 P.c)(ps:List (List Nat×List Nat))(hp:∀p∈ps,rxB true p.1=false∧p.1.length≤sizeL∧rxB false p.2=false∧p.2.length≤sizeL):za3 P.up.up (.glob 63) [.ref 1, .ref 2] [] (Hp.of [.dict true [], .inst 171 0, .list false (ps.map pA)]) (DK .none [.dict true [(hk, .ref 2)], .inst 171 0, .list false (ps.map pA)]):=by
 refine zaW B (.tt (.ff (.tt ?_)):Sm P.up (w63 P.up ps));refine .loopM B 5 (zan (q:=(false,ps.map pA)) (v:= .ref 2)) (H63 ps) (fun X X=>True) () (.msk 3 [("self", .ref 1)]) trivial (fun X X X=>⟨by kernel_rfl,by kernel_rfl,by kernel_rfl⟩) ?_ ?_
 ·intro X k p e Z
  obtain ⟨h1,h2,h3,h4⟩:=hp p (mG e);exact .callD (zdC B (ps.map pA) p.1 true h1 h2) [1,0,2] (.callD (zdC B (ps.map pA) p.2 false h3 h4) [1,0,2] (.next 5 (H63 ps) (fun X X=>True) k () (.msk 3 [("self", .ref 1)]) trivial))
 ·intro X Z
  exact .endD 3 .none [.dict true [(hk, .ref 2)], .inst 171 0, .list false (ps.map pA)] [0,1,2]
noncomputable def zj0(h:Heap)(F:List Addr):Heap:=⟨h.objs.mapIdx fun i o=>if i∈F then {o with data:= .freed} else o,h.life⟩
theorem zbU{h:Heap}{F:List Addr}{b:Addr}(q:b∈F):(zj0 h F).get? b=none:=by
 induction e:(zj0 h F).get? b with
 | none=>rfl
 | some o=>
  obtain ⟨e1,e2⟩:=Heap.get?_some_iff.mp e;obtain ⟨o',X,e3⟩:=jE (Array.getElem?_mapIdx.symm.trans e1);rw [if_pos q] at e3;subst e3;exact nomatch e2
theorem zdX{h:Heap}{F:List Addr}{b:Addr}(q:b∉F):(zj0 h F).get? b=h.get? b:=by
 have e:(zj0 h F).objs[b]? = h.objs[b]?:=by
  refine Array.getElem?_mapIdx.trans ?_;induction h.objs[b]? with
  | none=>rfl
  | some o=>exact congrArg some (if_neg q)
 exact Option.ext fun o=>⟨fun z=>Heap.get?_some_iff.mpr ((Heap.get?_some_iff.mp z).imp e.symm.trans id),fun z=>Heap.get?_some_iff.mpr ((Heap.get?_some_iff.mp z).imp e.trans id)⟩
section
variable {T:Tabs} {P:PM T} {W W₁ W₀:Wd} {h₁:Hp} {s s₁ s₀:Shared} {A:Around} {E:Value→Shared→Prop} {env:Env} {l:List Env} {n:Nat} {e:Addr}
structure Loose(c:Cx)(n:Nat)(W₀:Wd)(s₀:Shared)(W:Wd)(h:Hp)(a:Addr):Prop where
 nb:c.B.get? a=none
 nf:∀ob,W.fz a≠some ob
 np:∀k,k<h.nx→(h.at_ k).live=true→W.pl k≠a
 ge:∀b o,s₀.heap.get? b=some o→((∀k,k<n→W₀.pl k≠b)∧b∉c.tabs)∨FrL o→b≠a
theorem Loose.new{c:Cx}(S:Step c n W₀ s₀ W h s){a:Addr}(q:s.heap.get? a=none):Loose c n W₀ s₀ W h a where
 nb:=by
  induction e:c.B.get? a with
  | none=>rfl
  | some o=>
   by_cases ht:a∈c.tabs
   ·rcases (S.rel.amb.tab _ ht).2 with z | ⟨_,_,z,_⟩ <;> exact nomatch q.symm.trans z
   ·exact nomatch q.symm.trans (S.rel.amb.base _ _ e ht)
 nf:=fun ob z=>nomatch q.symm.trans (S.rel.fz a ob z).2.1
 np:=fun k z l e=>(S.rel.at_ k z l).2.elim fun ob y=>nomatch (q.symm.trans (show s.heap.get? a=some ob from e▸y.1))
 ge:=fun b o g z e=>by
  subst e;rcases z with z | f
  ·obtain ⟨o',g',X⟩:=S.kept b o g z.1 z.2
   exact nomatch q.symm.trans g'
  ·obtain ⟨o',g',X⟩:=S.frm b o g f
   exact nomatch q.symm.trans g'
theorem Loose.after{c:Cx}{m:Nat}{W₁:Wd}{s₁:Shared}{h₁:Hp}(S:Step c n W₀ s₀ W₁ h₁ s₁){a:Addr}(L:Loose c h₁.nx W₁ s₁ W h a):Loose c n W₀ s₀ W h a where
 nb:=L.nb
 nf:=L.nf
 np:=L.np
 ge:=fun b o g z=>by
  rcases z with z | f
  ·obtain ⟨o',g',X⟩:=S.kept b o g z.1 z.2
   exact L.ge b o' g' (.inl ⟨fun k q=>(Nat.lt_or_ge k n).elim (fun y e=>z.1 k y ((S.le.pl k y).symm.trans e)) fun y e=>nL (hZ g) (e▸S.fresh k y q),z.2⟩)
  ·obtain ⟨o',g',f'⟩:=S.frm b o g f
   exact L.ge b o' g' (.inr f')
def ExcAt(c:Cx)(n:Nat)(W₀:Wd)(s₀:Shared)(W:Wd)(h:Hp)(s:Shared)(e:Addr):Prop:=Loose c n W₀ s₀ W h e∧∃oe vs v,s.heap.get? e=some oe∧oe.cls = .type "ValueError" ∧oe.data = .fields vs∧vs[1]? = some v∧
 (v = .none∨∃t ot ts,v = .ref t∧t≠e∧Loose c n W₀ s₀ W h t∧s.heap.get? t=some ot∧ot.data = .fields ts∧ts[3]? = some .none)
def ExcT(c:Cx)(n:Nat)(W₀:Wd)(s₀:Shared)(W:Wd)(h:Hp)(s:Shared)(e:Addr):Prop:=Loose c n W₀ s₀ W h e∧∃oe vs t ot ts,s.heap.get? e=some oe∧oe.cls = .type "ValueError" ∧oe.data = .fields vs∧vs[1]? = some (.ref t)∧
 t≠e∧Loose c n W₀ s₀ W h t∧s.heap.get? t=some ot∧ot.data = .fields ts∧ts[3]? = some .none
theorem ExcT.at{c:Cx}(X:ExcT c n W₀ s₀ W h s e):ExcAt c n W₀ s₀ W h s e:=⟨X.1,X.2.imp fun Z=> .imp fun Z ⟨t,ot,ts,z⟩=>⟨_,z.1,z.2.1,z.2.2.1,z.2.2.2.1, .inr ⟨t,ot,ts,rfl,z.2.2.2.2⟩⟩⟩
theorem FFC.frames(F:FFC P.c A s)(hA:A.frames=some l){base:Heap}(hb:∀L,L∈l.filterMap (·.frame)→base.get? L=none):s.heap.FunFrames base l:=by
 obtain ⟨l',e1,F⟩:=F;obtain rfl:=sI (hA.symm.trans e1);clear e1 hA;induction l with
 | nil=>trivial
 | cons a l ih=>
  obtain ⟨k,L,o,q1,q2,q3,q4⟩:=F a mS;refine ⟨k,⟨L,o,q1,hb L (by rw [List.filterMap_cons,q1];exact mS),q3,fun vs d=>?_⟩,ih (fun L m=>hb L ?_) fun env m=>F env (mM _ m)⟩
  ·obtain ⟨X,Z,d'⟩:=q4.1
   rw [d] at d';cases d'
  ·rw [List.filterMap_cons,q1];exact mM _ m
theorem FFC.mem(F:FFC P.c A s)(hA:A.frames=some l){L:Addr}(m:L∈l.filterMap (·.frame)):P.c.B.get? L=none∧∃o,s.heap.get? L=some o∧FrL o:=by
 obtain ⟨l',e1,F⟩:=F;obtain rfl:=sI (hA.symm.trans e1);obtain ⟨a,m,q⟩:=List.mem_filterMap.mp m;obtain ⟨k,L',o,q1,q2,q3,q4⟩:=F a m;obtain rfl:=sI (q1.symm.trans q);exact ⟨q2,o,q3,q4⟩
theorem zdn(S:Step P.c n W₀ s₀ W h s)(F:FFC P.c A s)(hA:A.frames=some l){ts:List Addr}{h':Heap}(lt:∀t,t∈ts→Loose P.c n W₀ s₀ W h t)
  (keep:∀b o,s.heap.get? b=some o→b∉ts→b∉l.filterMap (·.frame)→h'.get? b=some o) (x4:∀b o,s.heap.get? b=some o→b∈l.filterMap (·.frame)→FrL o→∃sl,h'.get? b=some {o with slots:=sl})
  (hz:s.heap.objs.size≤h'.objs.size):Step P.c n W₀ s₀ W h {s with heap:=h'}:=by
 have R:=S.rel;have slot:∀b o,s.heap.get? b=some o→b∉ts→∃o',h'.get? b=some o'∧SlotEq o o':=fun b o g h2=>by
  by_cases m:b∈l.filterMap (·.frame)
  ·obtain ⟨X,o',g',f⟩:=F.mem (P:=P) hA m
   obtain rfl:=sI (g.symm.trans g');obtain ⟨sl,y⟩:=x4 b o g m f;exact ⟨_,y, .inr ⟨f,sl,rfl⟩⟩
  ·exact ⟨o,keep b o g h2 m, .inl rfl⟩
 have base:∀b o,P.c.B.get? b≠none→s.heap.get? b=some o→h'.get? b=some o:=fun b o nb g=>keep b o g (fun m=>nb (lt b m).nb) fun m=>nb (F.mem (P:=P) hA m).1;have R':Rel P.c W h {s with heap:=h'}:=⟨fun k q u=>(R.at_ k q u).imp id fun ⟨o,h1,h2⟩=>(slot _ o h1 fun m=>(lt _ m).np k q u rfl).imp fun o' z=>⟨z.1,h2.slot u z.2⟩,R.apart,
  fun a ob w=>⟨(R.fz a ob w).1,keep a ob (R.fz a ob w).2.1 (fun m=>(lt a m).nf ob w) (fun m=>by
   obtain ⟨X,o',g',f⟩:=F.mem (P:=P) hA m;obtain rfl:=sI ((R.fz a ob w).2.1.symm.trans g');exact R.fzn a ob w f),(R.fz a ob w).2.2⟩,R.amb.step base (fun X X e=>e) rfl rfl,R.fzn⟩
 refine ⟨R',S.le,lT S.size hz,S.fresh,S.freshF,fun b o g hp ht=>?_,fun b o g f=>?_⟩
 ·obtain ⟨o',g',z⟩:=S.kept b o g hp ht
  exact (slot b o' g' fun m=>(lt b m).ge b o g (.inl ⟨hp,ht⟩) rfl).imp fun X y=>⟨y.1,z.trans y.2⟩
 ·obtain ⟨o',g',z⟩:=S.frm b o g f
  exact (slot b o' g' fun m=>(lt b m).ge b o g (.inr f) rfl).imp fun X y=>⟨y.1,y.2.frl z⟩
theorem zgL{o:Obj}(f:FrL o)(vs:Array Value):o.data≠ .fields vs:=fun d=>by
 obtain ⟨X,Z,d'⟩:=f.1;rw [d] at d';cases d'
theorem zmR(S:Step P.c n W₀ s₀ W h s)(F:FFC P.c A s)(hA:A.frames=some (env :: l))(X:ExcAt P.c n W₀ s₀ W h s e){Q:Unit→Shared→Prop}
  (q:∀s',Step P.c n W₀ s₀ W h s'→ExcT P.c n W₀ s₀ W h s' e→Q () s'):wpAny (model P.c.prog P.c.w) A (noteFrame (.ref e) env) (fun Z s'=>wpAny (model P.c.prog P.c.w) A (setFlight (.ref e) none) Q E s') E s:=by
 obtain ⟨Le,oe,vs,v,e1,e2,e3,e4,hv⟩:=X;have stay:∀F b o,(zj0 s.heap F).get? b=some o→s.heap.get? b=some o:=fun F b o g=>by
  by_cases m:b∈F
  ·exact nomatch (zbU m).symm.trans g
  ·exact (zdX m).symm.trans g
 obtain ⟨L,hL⟩:∃L,env.frame=some L:=by
  obtain ⟨l',e1,F⟩:=F;obtain rfl:=sI (hA.symm.trans e1);obtain ⟨Z,L,Y,q,J⟩:=F env mS;exact ⟨L,q⟩
 have fin:∀(ts:List Addr) (h':Heap),(∀t,t∈ts→Loose P.c n W₀ s₀ W h t)→Heap.Left (zj0 s.heap (e :: (ts++(env :: l).filterMap (·.frame)))) (env :: l) e oe.cls s.heap h'→s.heap.objs.size≤h'.objs.size→Q () {s with heap:=h'}:=fun ts h' lt ⟨x1,x2,x3,x4⟩ hz=>by
  have out:∀b,b∉e :: ts→b∉(env :: l).filterMap (·.frame)→b∉e :: (ts++(env :: l).filterMap (·.frame)):=fun b h1 h3 m=>by
   rcases cP m with q | m
   ·exact h1 (q▸mS)
   ·exact (List.mem_append.mp m).elim (fun m=>h1 (mM _ m)) h3
  refine q _ (zdn (ts:=e :: ts) S F hA (fun t m=>(cP m).elim (fun z=>z▸Le) (lt t)) (fun b o g h1 h2=>x1 b o ((zdX (out b h1 h2)).trans g)) (fun b o g Z f=>x4 b o g (zgL f)) hz) ⟨Le,?_⟩;obtain ⟨oe',vs',t,ot,us,y1,y2,y3,y4,y5,y6,y7,y8,y9⟩:=x3;refine ⟨oe',vs',t,ot,us,y1,y2.trans e2,y3,y4,y6,?_,y7,y8,y9⟩;by_cases m:t∈ts
  ·exact lt t m
  ·by_cases m':t∈(env :: l).filterMap (·.frame)
   ·obtain ⟨Z,o',g',f⟩:=F.mem (P:=P) hA m'
    obtain ⟨sl,y⟩:=x4 t o' g' (zgL f);rw [y7] at y;obtain rfl:=sI y;exact absurd y8 (zgL f us)
   ·exact .new S ((zdX (out t (fun z=>(cP z).elim y6 m) m')).symm.trans y5)
 refine Mine.wpAny_sz (wM (?_:wpAny _ A (noteFrame (.ref e) env) (fun Z s'=>wpAny (model P.c.prog P.c.w) A (setFlight (.ref e) none) (fun Z s''=>s.heap.objs.size≤s''.heap.objs.size→Q () s'') E s') E s) (fun Z s' z hz=>Mine.wpAny_sz (wM z (fun Z s'' y hz'=>y (lT hz hz')) fun Z Z x=>x)) fun Z Z x=>x);rcases hv with rfl | ⟨t,ot,us,rfl,t1,Lt,t2,t3,t4⟩
 ·have hen:(zj0 s.heap (e :: ([]++(env :: l).filterMap (·.frame)))).get? e=none:=zbU mS
  unfold noteFrame;rw [hL];refine wB (wpAny_field e1 e3 e4 ?_);refine Mine.wIfN (by decide) ?_;exact wpAny_newEntry (base:=zj0 s.heap (e :: ([]++(env :: l).filterMap (·.frame)))) hA (F.frames (P:=P) hA fun L m=>zbU (mM _ m)) hL e1 (stay _) hen e3 (Array.getElem?_eq_some_iff.mp e4).1 fun h' z hz=>fin [] h' (fun Z m=>nomatch m) z hz
 ·have hen:(zj0 s.heap (e :: ([t]++(env :: l).filterMap (·.frame)))).get? e=none:=zbU mS
  have het:(zj0 s.heap (e :: ([t]++(env :: l).filterMap (·.frame)))).get? t=none:=zbU (mM _ mS);unfold noteFrame;rw [hL];refine wB (wpAny_field e1 e3 e4 ?_);refine Mine.wIfP (by simp) ?_;refine wB (wpAny_field t2 t3 t4 ?_);refine Mine.wIfN (by simp [rawInt]) ?_;refine wB (wpAny_setField t2 t3 (Array.getElem?_eq_some_iff.mp t4).1 ?_);have oth:∀b,b≠t→(s.heap.update t (Obj.mapFields (·.setIfInBounds 3 Value.none))).get? b=s.heap.get? b:=fun b hb=>Heap.get?_update_other _ _ (Ne.symm hb);have nt:∀b o,s.heap.get? b=some o→(∀vs,o.data≠ .fields vs)→b≠t:=fun b o g nf z=>by
   rw [z,t2] at g;exact nf us (sI g▸t3)
  refine wpAny_newEntry (base:=zj0 s.heap (e :: ([t]++(env :: l).filterMap (·.frame)))) hA ((F.frames (P:=P) hA fun L m=>zbU (mM _ (List.mem_append_right _ m))).of_keeps fun b o g nf=>⟨o,(oth b (nt b o g nf)).trans g,rfl⟩) hL ((oth e (Ne.symm t1)).trans e1)
   (fun b o g=>(oth b fun z=>by rw [z,het] at g;cases g).trans (stay _ b o g)) hen e3 (Array.getElem?_eq_some_iff.mp e4).1 fun h' ⟨x1,x2,x3,x4⟩ hz=>fin [t] h' (fun Z m=>sM m▸Lt) ⟨x1,x2,x3,fun b o g nf=>x4 b o ((oth b (nt b o g nf)).trans g) nf⟩ hz
theorem zta(S:Step P.c n W₀ s₀ W h s)(F:FFC P.c A s)(hA:A.frames=some (env :: l))(X:ExcAt P.c n W₀ s₀ W h s e){Q:Unit→Shared→Prop}
  (q:∀s',Step P.c n W₀ s₀ W h s'→ExcT P.c n W₀ s₀ W h s' e→Q () s'):wpAny (model P.c.prog P.c.w) A (leaving env (.ref e)) Q E s:=by
 unfold leaving;exact wB (zmR S F hA X q)
theorem ExcAt.after{c:Cx}{m:Nat}(S:Step c n W₀ s₀ W₁ h₁ s₁)(X:ExcAt c h₁.nx W₁ s₁ W h s e):ExcAt c n W₀ s₀ W h s e:=
 ⟨X.1.after (m:=m) S,X.2.imp fun Z=> .imp fun Z=> .imp fun Z z=>⟨z.1,z.2.1,z.2.2.1,z.2.2.2.1,z.2.2.2.2.imp id fun ⟨t,ot,ts,a,b,L,r⟩=>⟨t,ot,ts,a,b,L.after (m:=m) S,r⟩⟩⟩
def KX(P:PM T)(X:Hp→Prop)(n:Nat)(W:Wd)(s:Shared)(E:Value→Shared→Prop):Prop:=∀⦃W' h' s' e⦄,Step P.c n W s W' h' s'→ExcAt P.c n W s W' h' s' e→X h'→E (.ref e) s'
theorem KX.after{X:Hp→Prop}(k:KX P X n W s E)(S:Step P.c n W s W₁ h₁ s₁):KX P X h₁.nx W₁ s₁ E:=fun Z Z Z Z S' x q=>k (S.trans S') (x.after (m:=n) S) q
def JX(P:PM T){ι β:Type}(RI:Around→Wd→Nat→ι→Prop)(t:ι→Sem β)(h:Hp)(X:Hp→Prop):Prop:=
 ∀(A:Around) (E:Value→Shared→Prop) (Q:β→Shared→Prop) (s:Shared) (W:Wd) (i:ι),Go P W h s A→RI A W h.nx i→KX P X h.nx W s E→wpAny (model P.c.prog P.c.w) A (t i) Q E s
def JEX(P:PM T)(fr:Fr)(e:Expr)(h:Hp)(X:Hp→Prop):Prop:=JX P (FI P fr) (fun env=>eval e env) h X
def zrV(P:PM T)(fr:Fr)(es:List Expr)(h:Hp)(X:Hp→Prop):Prop:=JX P (FI P fr) (fun env=>spliced (es.map fun e=>(false,eval e env))) h X
def JSX(P:PM T)(fr:Fr)(st:Stmt)(h:Hp)(X:Hp→Prop):Prop:=JX P (FI P fr) (fun env=>exec st env) h X
def JSsX(P:PM T)(fr:Fr)(st:List Stmt)(h:Hp)(X:Hp→Prop):Prop:=JX P (FI P fr) (fun env=>execs st env) h X
variable {fr:Fr} {X:Hp→Prop} {x:Str} {a o r t:Expr} {pos pos':Pos} {es:List Expr} {ks:List Keyword}
theorem zcm(H:JEX P fr a h X):zrV P fr (a :: es) h X:=fun A E Q s W env G F k=>wB (H A E _ s W env G F k)
theorem zlM(H:JE P fr a h fun Z h=>zrV P fr es h X):zrV P fr (a :: es) h X:=fun A E Q s W env G F k=>
 wB (H A E _ s W env G F fun Z Z Z Z Z S₁ V₁ H=>wB (wP (wB (wH (H A E _ _ _ env (G.on S₁) (F.up S₁.le) (k.after S₁))))))
theorem zlO{m:Nat}(hs:zat es=true)(H:zrV P fr es h X):JEX P fr (.Tuple es m pos) h X:=fun A E Q s W env G F k=>by
 show wpAny _ A (eval (.Tuple es m pos) env) Q E s;rw [arm_eval_Tuple,za5 hs];exact wB (wS (wB (H A E _ s W env G F k)))
theorem zao{st:Stmt}{b:List Stmt}(H:JSX P fr st h X):JSsX P fr (st :: b) h X:=fun A E Q s W env G F k=>by
 show wpAny _ A (execs (st :: b) env) Q E s;rw [arm_execs_cons];exact wB (H A E _ s W env G F k)
theorem zkF{st:Stmt}{b:List Stmt}(H:JS P fr st h fun f h=>Fl.casesOn (motive:=fun Z=>Prop) f (JSsX P fr b h X) False False fun Z=>False):JSsX P fr (st :: b) h X:=fun A E Q s W env G F k=>by
 show wpAny _ A (execs (st :: b) env) Q E s;rw [arm_execs_cons];refine wB (H A E _ s W env G F fun Z x f Z Z S V H=>?_);induction x with
 | next=>obtain rfl:f = .next:=V;exact H A E Q _ _ env (G.on S) (F.up S.le) (k.after S)
 | _=>exact H.elim
theorem znw{b d:List Stmt}(H:JT P fr t h fun c h=>cond c (JSsX P fr b h X) (JSsX P fr d h X)):JSX P fr (.If t b d pos) h X:=fun A E Q s W env G F k=>
 wpAny_If (H A E _ s W env G F fun Z c b Z Z S V H=>by
  obtain rfl:b=c:=V;induction b with
  | true=>exact H A E Q _ _ env (G.on S) (F.up S.le) (k.after S)
  | false=>exact H A E Q _ _ env (G.on S) (F.up S.le) (k.after S))
theorem zfp(hc:zaR a=false)(H:JEX P fr a h X):JSX P fr (.Expr a pos) h X:=fun A E Q s W env G F k=>by
 show wpAny _ A (exec (.Expr a pos) env) Q E s;rw [exec_Expr env a pos (by unfold interactive;rw [F.kind];rfl) (zbe hc)];exact wB (wS (wB (H A E _ s W env G F k)))
theorem zeq(hc:zaR a=false)(H:JEX P fr a h X):JSX P fr (.Assign [t] a pos) h X:=fun A E Q s W env G F k=>by
 show wpAny _ A (exec (.Assign [t] a pos) env) Q E s;rw [exec_Assign_arm];refine wB (wS ?_);rw [show swapsWithSole [t] a pos.line env=Pure.pure false from zbe hc];refine wB (wP ?_);refine Mine.wIfN (by decide) ?_;exact wB (H A E _ s W env G F k)
def zhT(P:PM T)(f:AV)(as:List AV)(kw:List (Str×AV))(h:Hp)(X:Hp→Prop):Prop:=∀(A:Around) (E:Value→Shared→Prop) (Q:Value→Shared→Prop) (s:Shared) (W:Wd) (fv:Value) (vs:List Value) (kv:List (Str×Value)),
 RoomF P.c A P.n s→Rel P.c W h s→VR W h.nx f fv→Rs (VR W h.nx) as vs→KR W h.nx kw kv→KX P X h.nx W s E→zcZ P.c s fv∧codeAny (model P.c.prog P.c.w) A (.call fv ⟨vs,kv⟩) (zjX Q E) s
def znj(P:PM T)(m:MR)(as:List AV)(kw:List (Str×AV))(h:Hp)(X:Hp→Prop):Prop:=MR.casesOn (motive:=fun Z=>Prop) m (fun Z Z=>False) fun f first=>zhT P f (first++as) kw h X
theorem zcR{mn:Str}(ho:(!zbB o&&zat es&&zb6 ks&&Nat.blt (es.length+ks.length) 29&&Nat.beq pos'.endLine pos.line)=true)
  (H:JE P fr o h fun ov h=>(∀pl,J P (V1 ov) GR (fun v=>getMethod v mn pl) h fun m h=>JEs P fr es h fun vs h=>JK P fr ks h fun kw h=>znj P m vs kw h X)):JEX P fr (.Call (.Attribute o mn pos') es ks pos) h X:=fun A E Q s W env G F kx=>by
 simp only [Bool.and_eq_true] at ho
 obtain ⟨⟨⟨⟨h1,h2⟩,h3⟩,h4⟩,hp⟩:=ho;have hl:=blt h4;show wpAny _ A (eval (.Call (.Attribute o mn pos') es ks pos) env) Q E s;rw [arm_eval_Call,zax ((Bool.not_eq_true' _).mp h1),za5 h2];refine wB (H A E _ s W env G F fun W₁ Z vo h₁ s₁ S₁ V₁ H=>wB (wS ?_));have form:methodCallForm (es.length+ks.length) (es.map fun e=>(false,eval e env)) (backToKw pos (keywordEach ks env))=true:=by
  unfold methodCallForm;rw [zai h3,zbd];simp only [Bool.true_and,decide_eq_true_eq]
  split <;> lia
 unfold methodCall;rw [form];refine wB (wH (H _ A E _ _ _ vo (G.on S₁) V₁ fun Z m r Z Z S V H=>?_));rw [show methodCallPos true o env pos' pos=Pure.pure pos by unfold methodCallPos;simp [Nat.eq_of_beq_eq_true hp]];refine wB (wP (zbu h3 H ((G.on S₁).on S) (F.up (S₁.trans S).le) fun W₂ s₂ Z vals Z Z h₂ S₂ V₂ K₂ H=>?_));induction m with
 | bm b self=>exact H.elim
 | um f first=>
  have G₂:=(((G.on S₁).on S).on S₂);exact (H A E _ s₂ W₂ r.1 (r.2++vals) _ G₂.rc G₂.rel (V.1.up S₂.le) ((VR.ups S₂.le V.2).app V₂) K₂ (((kx.after S₁).after S).after S₂)).imp id wpAny_call
theorem zjp{mn:Str}(ho:(!zbB o&&zat es&&Nat.blt es.length 29&&Nat.beq pos'.endLine pos.line)=true)
  (H:JE P fr o h fun ov h=>(∀pl,J P (V1 ov) GR (fun v=>getMethod v mn pl) h fun Z h=>zrV P fr es h X)):JEX P fr (.Call (.Attribute o mn pos') es [] pos) h X:=fun A E Q s W env G F kx=>by
 simp only [Bool.and_eq_true] at ho
 obtain ⟨⟨⟨h1,h2⟩,h4⟩,hp⟩:=ho;have hl:=blt h4;show wpAny _ A (eval (.Call (.Attribute o mn pos') es [] pos) env) Q E s;rw [arm_eval_Call,zax ((Bool.not_eq_true' _).mp h1),za5 h2];refine wB (H A E _ s W env G F fun W₁ Z vo h₁ s₁ S₁ V₁ H=>wB (wS ?_));have form:methodCallForm (es.length+([]:List Keyword).length) (es.map fun e=>(false,eval e env)) (backToKw pos (keywordEach [] env))=true:=by
  unfold methodCallForm;rw [zai (ks:= []) rfl,zbd];simp only [Bool.true_and,decide_eq_true_eq]
  split <;> simp <;> lia
 unfold methodCall;rw [form];refine wB (wH (H _ A E _ _ _ vo (G.on S₁) V₁ fun Z m r Z s₂ S V H=>?_));rw [show methodCallPos true o env pos' pos=Pure.pure pos by unfold methodCallPos;simp [Nat.eq_of_beq_eq_true hp]];exact wB (wP (callWith_of (P:=fun h=>zcZ P.c {s₂ with heap:=h} r.1) (zcy (zai (ks:= []) rfl)) (fun h q=>q) (zaJ (zai (ks:= []) rfl) (H A E _ s₂ _ env ((G.on S₁).on S) (F.up (S₁.trans S).le) ((kx.after S₁).after S)))))
def zu1(P:PM T)(fd:FDat)(cl:List (Str×Nat))(dflt args:List AV)(kw:List (Str×AV))(h:Hp)(X:Hp→Prop):Prop:=(zjV fd.params dflt args kw h fun bs h=>zaO (zaF h fd.scope cl fd.tab) bs (zb9 h fd.scope) fun h'=> .ret (zaF h fd.scope cl fd.tab) h').sem fun fr h'=>JSsX P fr fd.body h' X
theorem zhO{m:Nat}{args:List AV}{kw:List (Str×AV)}{d:FDat×List AV}(ed:T.defs m=some d)(ho:zkj d.1=true)(H:zu1 P d.1 [] d.2 args kw h X):zhT P.up (.glob m) args kw h X:=fun A E Q s W fv vs kv hR R Vf Va Vk kx=>by
 obtain rfl:fv = .ref m:=Vf;have hF:=zgO (P:=P) R ed;refine ⟨ze3 (P:=P) hF,zgb (P:=P) ho hR R hF Va Vk H fun W' env fr h' s' S G F hl H=>?_⟩;obtain ⟨l,hl⟩:=hl;exact H (A.deeper env) _ _ s' W' env G F fun W'' h'' s'' e S' X' q=>zta (S.trans S') (G.frs.step S') hl (X'.after (m:=0) S) fun s₃ S₃ X₃=>kx S₃ X₃.at q
theorem Step.ext{c:Cx}{s':Shared}(S:Step c n W₀ s₀ W h s)(hk:∀b o,s.heap.get? b=some o→s'.heap.get? b=some o)(hg:s'.gens=s.gens)(ho:s'.os=s.os)(hz:s₀.heap.objs.size≤s'.heap.objs.size):Step c n W₀ s₀ W h s':=
 have R:=S.rel
 ⟨⟨fun k q=>fun l=>(R.at_ k q l).imp id fun ⟨ob,h1,h2⟩=>⟨ob,hk _ _ h1,h2⟩,R.apart,fun a ob e=>⟨(R.fz a ob e).1,hk _ _ (R.fz a ob e).2.1,(R.fz a ob e).2.2⟩,R.amb.step (fun b o X=>hk b o) (fun X X e=>e) hg ho,R.fzn⟩,
  S.le,hz,S.fresh,S.freshF,fun b o g hp ht=>(S.kept b o g hp ht).imp fun o' z=>⟨hk _ _ z.1,z.2⟩,fun b o g f=>(S.frm b o g f).imp fun o' z=>⟨hk _ _ z.1,z.2⟩⟩
def VeB(c:Cx):Prop:=(∃m,c.B.Ns c.G m∧m "ValueError" =none)∧∃m,c.B.Ns 0 m∧m "ValueError" =some (.type "ValueError")
theorem zhX{np cpos:Pos}(hv:VeB P.c)(hn:fr.sc.names.lookup (Str.ofString "ValueError")=some .globalImplicit)(hs:zat [a]=true)(H:JEs P fr [a] h fun vs h=>Nat.blt vs.length 1000=true∧X h):JSX P fr (.Raise (some (.Call (.Name "ValueError" np) [a] [] cpos)) none pos) h X:=fun A E Q s W env G F kx=>by
 obtain ⟨⟨g,g1,g2⟩,b,b1,b2⟩:=hv;have g1:s.heap.Ns env.globals g:=F.glob▸zb4 g1 fun o q=>G.rel.amb.base _ _ q P.S.gt;have b1:s.heap.Ns env.builtins b:=F.blt▸zb4 b1 fun o q=>G.rel.amb.base _ _ q P.S.bt;have kd:env.kindOf "ValueError" =some .globalImplicit:=(F.kinds _ _ hn).elim id fun q=>nomatch q.1
 have pl:backTo cpos (starEach [a] env) = [a].map fun e=>(false,eval e env):=za5 hs;refine Mine.wpAny_szE ?_;refine wpAny_Raise_call PySem.F.excCall_ValueError PySem.F.excRaise_ValueError G.room.hand (by rw [pl];rfl) ?_;refine wpAny_Name ?_ (by decide);rw [PyProof.Rows.loadName_read F.kind kd];refine wB (wpAny_nsGet g1 ?_);rw [g2];refine wB (wpAny_nsGet b1 ?_);rw [b2];refine wP ⟨rfl,?_⟩;rw [pl];refine zaJ (kws:= []) rfl (H A _ _ s W env G F fun W₁ vs vals h₁ s₁ S₁ V₁ H=>wP ⟨rfl,few (α:=AV) V₁ H.1,fun h' e M hz=>?_⟩);obtain ⟨t,ht,Z⟩:=M.there;exact kx (S₁.ext (s':={s₁ with heap:=h'}) M.keeps rfl rfl hz) ⟨.new S₁ M.new,_,_,_,ht,rfl,rfl,rfl, .inl rfl⟩ H.2
theorem ziP{e0:Env}{v:Value}(q:e0.frame=env.frame):noteFrame v env=noteFrame v e0:=by
 unfold noteFrame frameOf;rw [q]
theorem rest(S:Step P.c n W₀ s₀ W h s)(F:FFC P.c A s)(hA:A.frames=some l)(X:ExcT P.c n W₀ s₀ W h s e){A':Around}{Q:Unit→Shared→Prop}
  (q:∀s',Step P.c n W₀ s₀ W h s'→Q () s'):wpAny (model P.c.prog P.c.w) A' (setFlight (.ref e) none) Q E s:=by
 obtain ⟨Le,oe,vs,t,ot,us,e1,e2,e3,e4,t1,Lt,t2,t3,t4⟩:=X;have hs:3<us.size:=(Array.getElem?_eq_some_iff.mp t4).1;refine wpAny_setFlight_none e1 e3 e4 t2 t3 hs (q _ (zdn (ts:= [t]) S F hA (fun Z m=>sM m▸Lt) (fun b o g h1 Z=>(Heap.get?_update_other _ _ fun z:t=b=>h1 (List.mem_singleton.mpr z.symm)).trans g) (fun b o g m f=>⟨o.slots,?_⟩) (eL (Mine.upd_size ..).symm)));have ne:t≠b:=fun z=>by
  rw [←z,t2] at g;exact zgL f us (sI g▸t3)
 exact (Heap.get?_update_other _ _ ne).trans g
def JM(P:PM T)(fr:Fr)(b:List Stmt)(h:Hp)(K:Fl→Hp→Prop):Prop:=∀(A:Around) (e:Value) (E:Value→Shared→Prop) (Q:Flow→Shared→Prop) (s:Shared) (W:Wd) (env:Env),Go P W h s A→FI P fr A W h.nx env→Kn P FF K W h.nx s Q→wpAny (model P.c.prog P.c.w) (A.mark (some e)) (execs b env) Q E s
theorem zpN{body:List Stmt}{h0:ExceptHandler}{hs:List ExceptHandler}{K:Fl→Hp→Prop}(H:JSs P fr body h K):JS P fr (.Try body (h0 :: hs) [] [] pos) h K:=fun A E Q s W env G F kn=>
 wpAny_Try_except (H A _ _ s W env G F fun W' f v h' s' S V H=>by
  induction f with
  | next=>obtain rfl:v = .next:=V;exact wpAny_execs_nil (kn (v:= .next) S rfl H)
  | brk=>obtain rfl:v = .brk:=V;exact kn (v:= .brk) S rfl H
  | cont=>obtain rfl:v = .cont:=V;exact kn (v:= .cont) S rfl H
  | ret u=>obtain ⟨w,rfl,V⟩:=V;exact kn (v:= .ret u) S ⟨w,rfl,V⟩ H)
theorem zmq{np hp:Pos}{body orelse b:List Stmt}{b0:Stmt}{K:Fl→Hp→Prop}(hv:VeB P.c)(hn:fr.sc.names.lookup (Str.ofString "ValueError")=some .globalImplicit)(H:JSsX P fr body h X)
  (HS:∀h',X h'→JM P fr (b0 :: b) h' K):JS P fr (.Try body [.ExceptHandler (some (.Name "ValueError" np)) none (b0 :: b) hp] orelse [] pos) h K:=fun A E Q s W env G F kn=>by
 refine wpAny_Try_except (H A _ _ s W env G F fun W' h' s' e S X' q=>?_);obtain ⟨e0,l,hA,e00⟩:=F.head;rw [ziP e00];refine zmR S (G.frs.step S) hA X' fun s₂ S₂ X₂=>?_;have hl:=HS h' q;obtain ⟨Z,oe,vs,t,ot,us,x1,x2,Y⟩:=id X₂;refine wpAny_handleBy_builtin (X:= "ValueError") (T:= "ValueError") (b:=true) (by rw [isSubtype_type];kernel_rfl) (by rw [isSubtype_type];kernel_rfl) (by rw [isSubtype_type];kernel_rfl) ?_;obtain ⟨⟨g,g1,g2⟩,b,b1,b2⟩:=hv;have g1:s₂.heap.Ns env.globals g:=F.glob▸zb4 g1 fun o q=>S₂.rel.amb.base _ _ q P.S.gt;have b1:s₂.heap.Ns env.builtins b:=F.blt▸zb4 b1 fun o q=>S₂.rel.amb.base _ _ q P.S.bt;have kd:env.kindOf "ValueError" =some .globalImplicit:=(F.kinds _ _ hn).elim id fun q=>nomatch q.1
 refine wpAny_Name ?_ (by decide);rw [PyProof.Rows.loadName_read F.kind kd];refine wB (wpAny_nsGet g1 ?_);rw [g2];refine wB (wpAny_nsGet b1 ?_);rw [b2];refine wP ⟨rfl,⟨oe,x1,x2⟩,?_⟩;show wpAny _ _ _ _ _ _;refine rest S₂ (G.frs.step S₂) hA X₂ fun s₃ S₃=>?_;exact hl A (.ref e) _ _ s₃ W' env (G.on S₃) (F.up S₃.le) (kn.after S₃)
end
end Mn
end
section
open PySem PySem.W PyProof.Rows PySem.Calls PySem.Builtin.Re
namespace Mn
variable {A:Around} {E:Value→Shared→Prop} {s:Shared}
section
variable {prog:Program} {w:World}
def zfo(m:Sre.M):Prop:=(m.runFor 4).outcome=some .matched
theorem zeC{m:Sre.M}(hm:zfo m){Q:Option Sre.M→Shared→Prop}(h:Q (some (m.runFor 4)) s):wpAny (model prog w) A (reRunToEnd m) Q E s:=by
 unfold reRunToEnd;rw [show (2:Nat)^64=18446744073709551615+1 from rfl];have e:reDrive (18446744073709551615+1) m=pure (m.runFor 4):=by
  unfold reDrive
  dsimp only
  rw [show reTurnSteps=4 from rfl,hm];rfl
 rw [e];refine wB (wP ?_);refine wB (Mine.rules_only (fun i Q s q=>?_) ?_)
 ·split
  ·exact wB (wpAny_rule (wP q))
  ·exact wP q
 ·rw [hm]
  exact wP h
theorem ziT(p s:Value)(pos lim:Nat)(m:Sre.M):reNewMatch p s 0 pos lim m=(do newFields "re.Match" [s,p,rawInt pos,rawInt lim,rawInt m.lastindex,←newTuple [rawInt m.start,rawInt m.handed]]):=by kernel_rfl
theorem zhr{a T:Addr}{vs items:Array Value}{o:Obj}{n:Nat}{x:Str}{t:Tok}{Q:Value→Shared→Prop}{code:Array Nat}(ho:s.heap.get? a=some {cls:= .type "re.Pattern",data:= .fields vs})(h6:∃u,vs.getD 6 .none = .int 0 u)(h5:vs.getD 5 .none = .ref T)(h2:reRawNat (vs.getD 2 .none)=0)(hT:s.heap.get? T=some o)(hd:o.data = .seq items n)
  (hc:(items.map reRawOf).map (·.toNat)=code) (hf:zfo (Sre.forSearch code x.cps 0 0 x.cps.size false)) (hz:x.cps.size<2^62)
  (h:∀h' l,(∀b o,s.heap.get? b=some o→h'.get? b=some o)→s.heap.objs.size≤h'.objs.size→(∃o,h'.get? l=some o∧o.cls = .type "re.Match")→Q (.ref l) {s with heap:=h'}):
  wpAny (model prog w) A (call (.builtin "re.Pattern.search") [.ref a, .str x t]) Q E s:=by
 refine wpAny_call_entry zaA ⟨_,ho,rfl⟩ Mine.entry_pattern_search ?_ (Mine.args_pattern_search _ _);unfold Builtin.«re.Pattern.search»;refine wB ?_;unfold reTarget
 dsimp only
 rw [Mine.reNamed_one];refine wB (wP ?_)
 dsimp only
 refine wB (wP (wB (wP ?_)));refine wB (wpAny_fieldsOf ho rfl ?_);refine wB (m:=reTextOf _) ?_;unfold reTextOf;refine wB (m:=asStr? (.str x t)) (wP ?_);refine wP ?_
 dsimp only
 obtain ⟨u,h6⟩:=h6;rw [h6,h5];show wpAny _ _ (do
  reNoCollectionInside (.str x t) 0
  let items←reRawItems (.ref T)
  pure (ReTarget.mk (.ref a) (.str x t) (items.map (·.toNat)) x.cps 0 (reRawNat (vs.getD 2 .none)) (min (0:Int).toNat x.cps.size) (min (2^63-1:Int).toNat x.cps.size))) _ _ _
 refine wB (m:=reNoCollectionInside _ _) (wP ?_);refine wB ?_;unfold reRawItems;refine wB (wpAny_seqItems hT hd (wP (wP ?_)));unfold reAnswer
 dsimp only [Option.getD]
 have e1:min (0:Int).toNat x.cps.size=0:=by simp
 have e2:min (2^63-1:Int).toNat x.cps.size=x.cps.size:=by
  have:(2^63-1:Int).toNat=9223372036854775807:=by decide
  rw [this];lia
 rw [e1,e2,h2,hc];refine wB (zeC hf ?_)
 dsimp only
 refine wB ?_;rw [ziT];refine wB (wpAny_newTuple ?_);refine wpAny_newObj_type (wP ⟨_,rfl,?_⟩);refine h _ _ (fun b o q=>pS _ (pS _ q)) ?_ ⟨_,pZ _ rfl,rfl⟩;show s.heap.objs.size≤((s.heap.push _).push _).objs.size;rw [Heap.size_push,Heap.size_push];exact lT (Nat.le_succ _) (Nat.le_succ _)
theorem zcE:typeLookup (.type "re.Match") "__bool__" =pure none:=by rw [typeLookup_type,builtinLookup_eq_fast];kernel_rfl
theorem zda:typeLookup (.type "re.Match") "__len__" =pure none:=by rw [typeLookup_type,builtinLookup_eq_fast];kernel_rfl
theorem zev{l:Addr}{Q:Bool→Shared→Prop}(hl:∃o,s.heap.get? l=some o∧o.cls = .type "re.Match")(h:Q true s):wpAny (model prog w) A (truthy (.ref l)) Q E s:=by
 have hT:s.TypeIs (.ref l) "re.Match" :=hl;unfold truthy;refine wB (wpAny_callSpecial?_none hT zcE ?_);refine wB (wpAny_specialOf hT zda ?_);exact wP h
end
section
variable {T:Tabs} {P:PM T} {W W₁:Wd} {h h₁:Hp} {s₁:Shared} {env:Env} {n:Nat} {fr:Fr} {pos p1 p2 p3 p4:Pos}
def zrW(c:Cx)(l:Nat)(z:List Nat):Prop:=l∉c.tabs∧∃vs t items n o code,c.B.get? l=some {cls:= .type "re.Pattern",data:= .fields vs}∧(∃u,vs.getD 6 .none = .int 0 u)∧vs.getD 5 .none = .ref t∧reRawNat (vs.getD 2 .none)=0∧t∉c.tabs∧c.B.get? t=some o∧o.data = .seq items n∧
 (items.map reRawOf).map (·.toNat)=code∧zfo (Sre.forSearch code z.toArray 0 0 z.length false)∧z.length<2^62
theorem zqa{o:Expr}{es:List Expr}{x:Str}{K:Bool→Hp→Prop}(ho:(!zbB o&&zat es&&Nat.blt es.length 29&&Nat.beq p1.endLine pos.line)=true)
  (H:JE P fr o h fun ov h=>(∀pl,J P (V1 ov) GR (fun v=>getMethod v x pl) h fun m h=>JEs P fr es h fun vs h=>∃l z,m = .bm .rSearch (.glob l)∧vs = [.str z]∧zrW P.c l z∧K true h)):JT P fr (.Call (.Attribute o x p1) es [] pos) h K:=fun A E Q s W env G F kn=>by
 simp only [Bool.and_eq_true] at ho
 obtain ⟨⟨⟨h1,h2⟩,h4⟩,hp⟩:=ho;have hl:=blt h4;refine wpAny_isTrue_value ?_ rfl;rw [arm_eval_Call,zax ((Bool.not_eq_true' _).mp h1),za5 h2];refine wB (H A E _ s W env G F fun W₁ X vo h₁ s₁ S₁ V₁ H=>wB (wS ?_));have form:methodCallForm (es.length+([]:List Keyword).length) (es.map fun e=>(false,eval e env)) (backToKw pos (keywordEach [] env))=true:=by
  unfold methodCallForm;rw [zai (ks:= []) rfl,zbd];simp only [Bool.true_and,decide_eq_true_eq]
  split <;> simp <;> lia
 unfold methodCall;rw [form];refine wB (wH (H _ A E _ _ _ vo (G.on S₁) V₁ fun X m r X s₂ S V H=>?_));rw [show methodCallPos true o env p1 pos=Pure.pure pos by unfold methodCallPos;simp [Nat.eq_of_beq_eq_true hp]];refine wB (wP (zbu (ks:= []) rfl (KK:=fun vs kw h=>kw = []∧∃l z,m = .bm .rSearch (.glob l)∧vs = [.str z]∧zrW P.c l z∧K true h) (J.mono H fun X X H=>zqY ⟨rfl,H⟩) ((G.on S₁).on S) (F.up (S₁.trans S).le) fun W₂ s₃ vs vals kw kv h₂ S₂ V₂ K₂ H=>?_));obtain ⟨rfl,l,z,rfl,rfl,D,H⟩:=H;obtain ⟨v,rfl,Vv⟩:=V;obtain rfl:v = .ref l:=Vv
 cases K₂
 cases V₂ with
 | cons a b=>
  cases b
  obtain ⟨t,rfl⟩:=a;obtain ⟨d1,vs,ta,items,n,o',code,d2,d3,d4,d5,d6,d7,d8,d9,d10,d11⟩:=D;have R:=S₂.rel;refine ⟨zck,zhr (x:=za0 z) (R.amb.base _ _ d2 d1) d3 d4 d5 (R.amb.base _ _ d7 d6) d8 d9 d10 d11 fun h' l' q1 q2 q3=>?_⟩;exact zev q3 (kn (v:=true) (((S₁.trans S).trans S₂).ext (s':={s₃ with heap:=h'}) q1 rfl rfl (lT ((S₁.trans S).trans S₂).size q2)) rfl H)
theorem zeV{x:Str}{v:Str}{k r:Nat}{l:List (Str×AV)}{q:Bool×List AV}{K:Fl→Hp→Prop}(hx:zgk x=true)(hn:fr.sc.names.lookup x=some .local)(e1:(h.at_ fr.L).frame? = some l)(e2:l.lookup x=some (.ref r))(e3:(h.at_ r).list? = some q)(hc:Nat.ble q.2.length.succ sizeL=true)(hp:Nat.beq p1.endLine pos.line=true)
  (H:K .next (h.set r (.list q.1 (q.2 ++ [.str v.cps.toList])))):JM P fr [.Expr (.Call (.Attribute (.Name x p2) (Str.ofString "append") p1) [.Constant (.str v) k p3] [] pos) p4] h K:=fun A e E Q s W env G F kn=>by
 rw [arm_execs_cons];refine wB ?_;rw [exec_Expr env _ p4 (by unfold interactive;rw [F.kind];rfl) (zbe rfl)];refine wB (wS (wB ?_));rw [arm_eval_Call,zax rfl,za5 rfl];obtain ⟨m,f1,f2⟩:=FrAt.frame F.toFrAt G.rel e1;obtain ⟨u,f3,f4⟩:=f2 x _ e2;obtain ⟨hr,rfl⟩:=(f4:VR W h.nx (.ref r) u);obtain ⟨vs,ep,z1,z2⟩:=zbT G.rel hr e3;refine wB (wpAny_Name (wpAny_loadName_local F.kind ((F.kinds x _ hn).elim id fun q=>nomatch q.1) f1 f3 ?_) (zb3 hx).1);refine wB (wS ?_);have form:methodCallForm ([Expr.Constant (.str v) k p3].length+([]:List Keyword).length) ([Expr.Constant (.str v) k p3].map fun e=>(false,eval e env)) (backToKw pos (keywordEach [] env))=true:=by
  unfold methodCallForm;rw [zai (ks:= []) rfl,zbd]
  rfl
 unfold methodCall;rw [form];refine wB (wH (getMethod_builtin (s:=s) ⟨_,z1,rfl⟩ PySem.F.plainAttrs_list PySem.F.slot_list_append PySem.F.type_list_append (zbg z1 rfl) ?_));rw [show methodCallPos true (Expr.Name x p2) env p1 pos=Pure.pure pos by unfold methodCallPos;simp [Nat.eq_of_beq_eq_true hp]];refine wB (wP (callWith_of (P:=fun h=>zcZ P.c {s with heap:=h} (.builtin "list.append")) (zcy (zai (ks:= []) rfl)) (fun h q=>q) (zaJ (zai (ks:= []) rfl) (wB ?_))))
 rw [eval_Constant];refine wpAny_mkText (wB (wP (wB (wH (wP (wP (wP ⟨zck,?_⟩)))))));refine call_meets slot_list_append ⟨_,z1,rfl⟩ entry_list_append (args_list_append _ _) (AutoListH.list_append_list_val_0 _ vs ep _ (lO (z2.size▸ble hc))) ⟨z1,zjq (P:=P) (wpAny_execs_nil ?_)⟩;exact kn (v:= .next) (.seq G.rel hr e3 z1 (Array.toList_push▸z2.app (.cons ⟨_,rfl⟩ .nil))) rfl H
end
end Mn
end
section
open PySem PySem.W
namespace Mn
variable {h:Hp} {P:PM T3} {K:AV→Hp→Prop}
noncomputable def Tr.rh{β:Type}(t:Tr β):Hp:=Tr.casesOn (motive:=fun X=>Hp) t.run (fun X h=>h) ⟨0,fun X=> .other⟩ (fun X X=>⟨0,fun X=> .other⟩) (fun X X X=>⟨0,fun X=> .other⟩) (fun X X=>⟨0,fun X=> .other⟩) (fun X X X=>⟨0,fun X=> .other⟩) (fun X X=>⟨0,fun X=> .other⟩) (fun X X X=>⟨0,fun X=> .other⟩) (fun X X X=>⟨0,fun X=> .other⟩) (fun X X X X=>⟨0,fun X=> .other⟩) (fun X X X=>⟨0,fun X=> .other⟩) (fun X X X X=>⟨0,fun X=> .other⟩) fun X X X=>⟨0,fun X=> .other⟩
noncomputable def Tr.rv{β:Type}(d:β)(t:Tr β):β:=Tr.casesOn (motive:=fun X=>β) t.run (fun a X=>a) d (fun X X=>d) (fun X X X=>d) (fun X X=>d) (fun X X X=>d) (fun X X=>d) (fun X X X=>d) (fun X X X=>d) (fun X X X X=>d) (fun X X X=>d) (fun X X X X=>d) fun X X X=>d
section
variable {T:Tabs} {P:PM T} {fr:Fr} {w:Wt}
theorem zlj{x:Str}{pos:Pos}{v:AV}{K:AV→Hp→Prop}(H:K v h)(q:autoParam ((zhz (T:=T) fr x h).run = .ret v h) kr1):JE P fr (.Name x pos) h K:=zn4 ((zhz (T:=T) fr x h).run_ok (q▸H))
theorem zd9(B:Tbl T P.c){x:Str}{o:AV}{m:MR}{K:MR→Hp→Prop}(H:K m h)(q:autoParam ((zci T o x h).run = .ret m h) kr1)(pl:Sem Bool):J P (V1 o) GR (fun v=>getMethod v x pl) h K:=zdh B.b.1 B.b.2 ((zci T o x h).run_ok (q▸H))
def zcX(fd:FDat)(cl:List (Str×Nat))(dflt args:List AV)(kw:List (Str×AV))(h:Hp):Tr Fr:=zjV fd.params dflt args kw h fun bs h=>zaO (zaF h fd.scope cl fd.tab) bs (zb9 h fd.scope) fun h'=> .ret (zaF h fd.scope cl fd.tab) h'
noncomputable def dFr:Fr:=⟨default,0,[],none⟩
theorem znY{fd:FDat}{cl:List (Str×Nat)}{dflt args:List AV}{kw:List (Str×AV)}{X:Hp→Prop}(H:JSsX P ((zcX fd cl dflt args kw h).rv dFr) fd.body (zcX fd cl dflt args kw h).rh X)(q:autoParam ((zcX fd cl dflt args kw h).run = .ret ((zcX fd cl dflt args kw h).rv dFr) (zcX fd cl dflt args kw h).rh) kr1):zu1 P fd cl dflt args kw h X:=(zcX fd cl dflt args kw h).run_ok (q▸H)
noncomputable def zen(P:PM T)(fr:Fr)(b:List Stmt)(X:Hp→Prop)(f:Fl)(h:Hp):Wt:= .en .none h fun Z h=>Fl.casesOn (motive:=fun Z=>Prop) f (JSsX P fr b h X) False False fun Z=>False
theorem zdI(B:Tbl T P.c){st:Stmt}{b:List Stmt}{X:Hp→Prop}(H:Sm P (v P fr 40 (.S st (zen P fr b X)) h)):JSsX P fr (st :: b) h X:=zkF (zdG B 40 (fr:=fr) (c:= .S st (zen P fr b X)) H.sem)
noncomputable def ifX(P:PM T)(fr:Fr)(b d:List Stmt)(X:Hp→Prop)(c:Bool)(h:Hp):Wt:= .en .none h fun Z h=>cond c (JSsX P fr b h X) (JSsX P fr d h X)
theorem zlD(B:Tbl T P.c){t:Expr}{pos:Pos}{b d r:List Stmt}{X:Hp→Prop}(H:Sm P (v P fr 40 (.T t (ifX P fr b d X)) h)):JSsX P fr (.If t b d pos :: r) h X:=zao (znw (zdG B 40 (fr:=fr) (c:= .T t (ifX P fr b d X)) H.sem))
noncomputable def eX(p:AV→Hp→Prop)(v:AV)(h:Hp):Wt:= .en v h p
theorem zn3(B:Tbl T P.c){e:Expr}{p:AV→Hp→Prop}(H:Sm P (v P fr 40 (.E e (eX p)) h)):JE P fr e h p:=zdG B 40 (fr:=fr) (c:= .E e (eX p)) H.sem
def zt1(P:PM T)(N:Hp→Prop)(K0:Fl→Hp→Wt):Fl→Hp→Prop:=kS P fun x h=>Fl.casesOn (motive:=fun X=>Wt) x (zd2 N K0 .next h) (zd2 N K0 .brk h) (zd2 N K0 .cont h) fun v=>zd2 N K0 (.ret v) h
theorem zfJ(B:Tbl T P.c){t:Expr}{pos:Pos}{b d r:List Stmt}{X:Hp→Prop}(H:JSsX P fr b h X)(q:autoParam ((v P fr 40 (.T t (ifX P fr b d X)) h).nf=ifX P fr b d X true h) kr1):JSsX P fr (.If t b d pos :: r) h X:=zlD B ⟨q▸H⟩
noncomputable def W1S(P:PM T)(fr:Fr)(st:Stmt)(h:Hp):Wt:=v P fr 40 (.S st fun X h=> .en .none h fun X X=>True) h
noncomputable def W1E(P:PM T)(fr:Fr)(e:Expr)(h:Hp):Wt:=v P fr 40 (.E e fun x h=> .en x h fun X X=>True) h
theorem Sm.nxt{st:Stmt}{b:List Stmt}{X:Hp→Prop}(f:Wt→Wt)(s:Sm P (f (v P fr 40 (.S st (zen P fr b X)) h))→Sm P (v P fr 40 (.S st (zen P fr b X)) h)){h':Hp}(H:JSsX P fr b h' X)(q:(f (v P fr 40 (.S st (zen P fr b X)) h)).nf=zen P fr b X .next h'):Sm P (v P fr 40 (.S st (zen P fr b X)) h):=s ⟨q▸H⟩
theorem zqo(B:Tbl T P.c){st:Stmt}{b:List Stmt}{X:Hp→Prop}(H:JSsX P fr b ((W1S P fr st h).nx (.b true)).hp X)(q1:autoParam ((true=true)=(v P fr 40 (.S st (zen P fr b X)) h).cn (.b true)) kr1)(q:autoParam (((v P fr 40 (.S st (zen P fr b X)) h).nx (.b true)).nf=zen P fr b X .next ((W1S P fr st h).nx (.b true)).hp) kr1):JSsX P fr (st :: b) h X:=zdI B (.nxt (fun w=>w.nx (.b true)) (fun H=> .tt H q1) H q)
theorem zqp(B:Tbl T P.c){st:Stmt}{b:List Stmt}{X:Hp→Prop}(H:JSsX P fr b ((W1S P fr st h).nx (.b false)).hp X)(q1:autoParam ((false=false)=(v P fr 40 (.S st (zen P fr b X)) h).cn (.b false)) kr1)(q:autoParam (((v P fr 40 (.S st (zen P fr b X)) h).nx (.b false)).nf=zen P fr b X .next ((W1S P fr st h).nx (.b false)).hp) kr1):JSsX P fr (st :: b) h X:=zdI B (.nxt (fun w=>w.nx (.b false)) (fun H=> .ff H q1) H q)
theorem zf9(B:Tbl T P.c){e:Expr}{p:AV→Hp→Prop}(x:AV)(H:p x h)(q:autoParam ((v P fr 40 (.E e (eX p)) h).nf = .en x h p) kr1):JE P fr e h p:=zn3 B ⟨q▸H⟩
noncomputable def lX{α:Type}(p:α→Hp→Prop)(x:α)(h:Hp):Wt:= .en .none h fun X h=>p x h
theorem zgS(B:Tbl T P.c){es:List Expr}{p:List AV→Hp→Prop}(xs:List AV)(H:p xs h)(q:autoParam ((v P fr 40 (.Es es (lX p)) h).nf=lX p xs h) kr1):JEs P fr es h p:=zdG B 40 (fr:=fr) (c:= .Es es (lX p)) (show Sm P _ from ⟨q▸H⟩).sem
theorem ztm(B:Tbl T P.c){es:List Expr}{p:List AV→Hp→Prop}(xs:List AV)(H:p xs h)(q1:autoParam ((true=true)=(v P fr 40 (.Es es (lX p)) h).cn .o) kr1)(q:autoParam (((v P fr 40 (.Es es (lX p)) h).nx .o).nf=lX p xs h) kr1):JEs P fr es h p:=zdG B 40 (fr:=fr) (c:= .Es es (lX p)) (.ok (show Sm P _ from ⟨q▸H⟩) q1:Sm P _).sem
theorem zeU(B:Tbl T P.c){ks:List Keyword}{p:List (Str×AV)→Hp→Prop}(xs:List (Str×AV))(H:p xs h)(q:autoParam ((v P fr 40 (.Kw ks (lX p)) h).nf=lX p xs h) kr1):JK P fr ks h p:=zdG B 40 (fr:=fr) (c:= .Kw ks (lX p)) (show Sm P _ from ⟨q▸H⟩).sem
theorem zkG(B:Tbl T P.c){st:Stmt}{b:List Stmt}{X:Hp→Prop}{f r:AV}{as:List AV}{kw:List (Str×AV)}{os os':List AO}(C:za3 P f as kw (Hp.of os) (DK r os'))(σ:List Nat)(H:JSsX P fr b ((W1S P fr st h).nd σ r os').hp X)
  (e:autoParam ((v P fr 40 (.S st (zen P fr b X)) h).clA=some (f.ren (gl σ),as.map (AV.ren (gl σ)),kw.map fun e=>(e.1,e.2.ren (gl σ)))) kr1) (e1:autoParam (σ.map (v P fr 40 (.S st (zen P fr b X)) h).hp.at_=os.map (AO.ren (gl σ))) kr1)
  (bb:autoParam (((os.all (AO.bd os.length)&&os.all (fun o=>(o.ren id).live)&&nd σ&&σ.all fun k=>Nat.blt k (v P fr 40 (.S st (zen P fr b X)) h).hp.nx)&&(f.bd os.length&&as.all (AV.bd os.length)&&kw.all fun e=>e.2.bd os.length))=true) kr1)
  (q:autoParam (((v P fr 40 (.S st (zen P fr b X)) h).nd σ r os').nf=zen P fr b X .next ((W1S P fr st h).nd σ r os').hp) kr1):JSsX P fr (st :: b) h X:=zdI B (.nxt (fun w=>w.nd σ r os') (fun H=> .callD C σ H e e1 bb) H q)
theorem zpa(B:Tbl T P.c){ex:Expr}{p:AV→Hp→Prop}{f r:AV}{as:List AV}{kw:List (Str×AV)}{os os':List AO}(C:za3 P f as kw (Hp.of os) (DK r os'))(σ:List Nat)(H:p (r.ren (g2 (W1E P fr ex h).hp σ)) ((W1E P fr ex h).nd σ r os').hp)
  (e:autoParam ((v P fr 40 (.E ex (eX p)) h).clA=some (f.ren (gl σ),as.map (AV.ren (gl σ)),kw.map fun e=>(e.1,e.2.ren (gl σ)))) kr1) (e1:autoParam (σ.map (v P fr 40 (.E ex (eX p)) h).hp.at_=os.map (AO.ren (gl σ))) kr1)
  (bb:autoParam (((os.all (AO.bd os.length)&&os.all (fun o=>(o.ren id).live)&&nd σ&&σ.all fun k=>Nat.blt k (v P fr 40 (.E ex (eX p)) h).hp.nx)&&(f.bd os.length&&as.all (AV.bd os.length)&&kw.all fun e=>e.2.bd os.length))=true) kr1)
  (q:autoParam (((v P fr 40 (.E ex (eX p)) h).nd σ r os').nf = .en (r.ren (g2 (W1E P fr ex h).hp σ)) ((W1E P fr ex h).nd σ r os').hp p) kr1):JE P fr ex h p:=zn3 B (.callD C σ ⟨q▸H⟩ e e1 bb)
theorem Sm.oneT{w0:Wt}{N:Hp→Prop}{x:AV}(fr:Fr)(st:Stmt)(h1:Hp)(H:JS P fr st h1 (zt1 P N w0.kf))(q:autoParam ((w0.tw P N x h).lp=JS P fr st h1 (zt1 P N w0.kf)) kr1):Sm P (w0.tw P N x h):= .leaf H q
theorem zdT{ι:Type}{H:ι→Nat→Hp}{R:ι→Nat→Prop}{n k:Nat}{K0:Fl→Hp→Wt}(i:ι)(wk:Wk h (H i (k+1)))(r:R i (k+1))(le:autoParam (Nat.ble n (H i (k+1)).nx=true) kr1):zt1 P (On1 (Iv H R) n k) K0 .next h:=
 (show On1 (Iv H R) n k h from ⟨_,wk,jL le,i,r,rfl⟩)
theorem zbc{f:AV}{first vs:List AV}{kw:List (Str×AV)}{X:Hp→Prop}(H:zhT P f (first++vs) kw h X):znj P (.um f first) vs kw h X:=H
theorem zez{b b':List Stmt}{X:Hp→Prop}(e:b=b')(H:JSsX P fr b' h X):JSsX P fr b h X:=e▸H
theorem zbG{m:Nat}{args:List AV}{kw:List (Str×AV)}{X:Hp→Prop}(d:FDat×List AV)(H:JSsX P ((zcX d.1 [] d.2 args kw h).rv dFr) d.1.body (zcX d.1 [] d.2 args kw h).rh X)(ed:autoParam (T.defs m=some d) kr1)(ho:autoParam (zkj d.1=true) kr1)(q:autoParam ((zcX d.1 [] d.2 args kw h).run = .ret ((zcX d.1 [] d.2 args kw h).rv dFr) (zcX d.1 [] d.2 args kw h).rh) kr1):zhT P.up (.glob m) args kw h X:=zhO ed ho (znY H q)
theorem Loose.wk{c:Cx}{n:Nat}{W₀ W:Wd}{s₀:Shared}{a:Addr}{g:Hp}(L:Loose c n W₀ s₀ W h a)(w:Wk h g):Loose c n W₀ s₀ W g a:=⟨L.nb,L.nf,fun k q l=>L.np k (lL q w.1) (w.2 k q l).1,L.ge⟩
theorem ExcAt.wk{c:Cx}{n:Nat}{W₀ W:Wd}{s₀ s:Shared}{e:Addr}{g:Hp}(X:ExcAt c n W₀ s₀ W h s e)(w:Wk h g):ExcAt c n W₀ s₀ W g s e:=⟨X.1.wk w,X.2.imp fun Z=> .imp fun Z=> .imp fun Z z=>⟨z.1,z.2.1,z.2.2.1,z.2.2.2.1,z.2.2.2.2.imp id fun ⟨t,ot,ts,a,b,L,r⟩=>⟨t,ot,ts,a,b,L.wk w,r⟩⟩⟩
theorem JSsX.wk{b:List Stmt}{g:Hp}(le:h.nx≤g.nx)(H:JSsX P fr b h fun h'=>Wk h' g):JSsX P fr b h fun h'=>h'=g:=fun A E Q s W i G I k=>H A E Q s W i G I fun W' h' s' e S x q=>k (S.wk q le) (x.wk q) rfl
noncomputable def kK(K:Fl→Hp→Prop)(x:Fl)(h:Hp):Wt:= .en .none h fun X h=>K x h
noncomputable def W1B(P:PM T)(fr:Fr)(b:List Stmt)(h:Hp):Wt:=v P fr 40 (.Ss b (kK fun X X=>True)) h
theorem ssN(B:Tbl T P.c){b:List Stmt}{K:Fl→Hp→Prop}{f r:AV}{as:List AV}{kw:List (Str×AV)}{os os':List AO}(C:za3 P f as kw (Hp.of os) (DK r os'))(σ:List Nat)(H:K .next (((W1B P fr b h).nd σ r os').nx .o).hp)
  (e:autoParam ((v P fr 40 (.Ss b (kK K)) h).clA=some (f.ren (gl σ),as.map (AV.ren (gl σ)),kw.map fun e=>(e.1,e.2.ren (gl σ)))) kr1) (e1:autoParam (σ.map (v P fr 40 (.Ss b (kK K)) h).hp.at_=os.map (AO.ren (gl σ))) kr1)
  (bb:autoParam (((os.all (AO.bd os.length)&&os.all (fun o=>(o.ren id).live)&&nd σ&&σ.all fun k=>Nat.blt k (v P fr 40 (.Ss b (kK K)) h).hp.nx)&&(f.bd os.length&&as.all (AV.bd os.length)&&kw.all fun e=>e.2.bd os.length))=true) kr1)
  (q1:autoParam ((true=true)=((v P fr 40 (.Ss b (kK K)) h).nd σ r os').cn .o) kr1) (q:autoParam ((((v P fr 40 (.Ss b (kK K)) h).nd σ r os').nx .o).nf=kK K .next (((W1B P fr b h).nd σ r os').nx .o).hp) kr1):JSs P fr b h K:=zdG B 40 (fr:=fr) (c:= .Ss b (kK K)) (.callD C σ (.ok ⟨q▸H⟩ q1) e e1 bb:Sm P _).sem
end
structure Hits(c:Cx):Prop where
 ve:VeB c
 nm:zrW c 43 [122,10]
 vl:zrW c 48 [10]
noncomputable def sAt(l:List Stmt)(i:Nat):Stmt:=l[i]?.getD (.Pass default)
noncomputable def eAt(l:List Expr)(i:Nat):Expr:=l[i]?.getD default
noncomputable def tIf:Stmt→Expr
 | .If t _ _ _=>t
 | _=>default
noncomputable def bIf:Stmt→List Stmt
 | .If _ b _ _=>b
 | .Try b _ _ _ _=>b
 | _=> []
noncomputable def eIf:Stmt→List Stmt
 | .If _ _ b _=>b
 | _=> []
noncomputable def xF:Expr→Expr
 | .Call f _ _ _=>f
 | .Attribute o _ _=>o
 | _=>default
noncomputable def xA:Expr→List Expr
 | .Call _ as _ _=>as
 | .Tuple es _ _=>es
 | _=> []
noncomputable def xK:Expr→List Keyword
 | .Call _ _ ks _=>ks
 | _=> []
noncomputable def xS:Stmt→Expr
 | .Expr e _=>e
 | .Assign _ e _=>e
 | _=>default
def cv0:Stmt:=sAt (fdH 1).body 0
theorem zfd:∃p p0 a b c d e f g h' ea k,(fdH 1).body = [.If (tIf cv0) [sAt (bIf cv0) 0, .If (.Call (.Attribute (.Name (Str.ofString "regex") a) (Str.ofString "search") b) [.Name (Str.ofString "value") c] [] d) [.Raise (some (.Call (.Name "ValueError" e) [.Constant (.str ea) k f] [] g)) none h'] [] p0,sAt (bIf cv0) 2] [] p,sAt (fdH 1).body 1]∧Nat.beq b.endLine d.line=true:=⟨_,_,_,_,_,_,_,_,_,_,_,_,rfl,by kernel_rfl⟩
def sd0:Stmt:=sAt (fdH 15).body 0
def sd1:Stmt:=sAt (fdH 15).body 1
def sdE:Expr:=xS (sAt (bIf sd1) 0)
def sdT:Expr:=eAt (xA sdE) 0
def sdC:Expr:=eAt (xA sdT) 1
theorem zkO:∃a b c d e f g i m,(fdH 15).body = [sd0, .If (tIf sd1) (.Expr (.Call (.Attribute (xF (xF sdE)) (Str.ofString "append") a) [.Tuple [eAt (xA sdT) 0, .Call (.Attribute (xF (xF sdC)) (Str.ofString "_convert_string_type") b) (xA sdC) (xK sdC) c] m d] [] e) f :: (bIf sd1).tail) (eIf sd1) g]∧Nat.beq a.endLine e.line=true∧Nat.beq b.endLine c.line=true∧i=():=⟨_,_,_,_,_,_,_,(),_,rfl,by kernel_rfl,by kernel_rfl,rfl⟩
theorem zkN:∃t a b c,(fdH 15).body = [.Assign [t] (.Call (.Attribute (xF (xF (xS sd0))) (Str.ofString "get") a) (xA (xS sd0)) [] b) c,sd1]∧Nat.beq a.endLine b.line=true:=⟨_,_,_,_,rfl,by kernel_rfl⟩
def gt0:Expr:=xS (sAt (fdH 8).body 0)
theorem zoU:∃t a b c,(fdH 8).body = .Assign [t] (.Call (.Attribute (xF (xF gt0)) (Str.ofString "_convert_string_type") a) (xA gt0) (xK gt0) b) c :: (fdH 8).body.tail∧Nat.beq a.endLine b.line=true:=⟨_,_,_,_,rfl,by kernel_rfl⟩
def kpT:Stmt:=sAt (zmY (fd 30).body[2]?) 0
def kpE:Expr:=xS (sAt (bIf kpT) 0)
def kpC:Expr:=eAt (xA kpE) 0
theorem zj5:∃a b c d e np hp a2 b2 c2 d2 e2 kk v p,kpT = .Try [.Expr (.Call (.Attribute (xF (xF kpE)) (Str.ofString "append") a) [.Call (.Attribute (xF (xF kpC)) (Str.ofString "setdefault") b) (xA kpC) [] c] [] d) e] [.ExceptHandler (some (.Name "ValueError" np)) none [.Expr (.Call (.Attribute (.Name (Str.ofString "told") a2) (Str.ofString "append") b2) [.Constant (.str v) kk c2] [] d2) e2] hp] [] [] p∧
  v.cps.toList = [114,101,102,117,115,101,100]∧Nat.beq a.endLine d.line=true∧Nat.beq b.endLine c.line=true∧Nat.beq b2.endLine d2.line=true:=⟨_,_,_,_,_,_,_,_,_,_,_,_,_,_,_,rfl,by kernel_rfl,by kernel_rfl,by kernel_rfl,by kernel_rfl⟩
theorem zlp:∃h0 hs p,kpT = .Try (bIf kpT) (h0 :: hs) [] [] p:=⟨_,_,_,rfl⟩
noncomputable def kX:List AV:=[.tup [.str [122], .str [10]], .tup [.str [122,10], .str [122]], .tup [.str [122], .str [9]]]
noncomputable def zs4:List Nat:=[114,101,102,117,115,101,100]
noncomputable def kp1(m:List Nat):List (List Nat×List Nat):=[(m ++ [115],[49]),(m ++ [83],[50]),(m,[])]
def zkv(k:Nat):List AV:=[[49],[],[]].map AV.str ++ [AV.str zs4, .str zs4, .str [9]].take k
def zs3(m:List Nat)(k:Nat):List (List Nat×List Nat):=bif Nat.blt 2 k then kp1 m ++ [([122],[9])] else kp1 m
def zuJ(m:List Nat)(k:Nat):Hp:= .of [.frame [("told", .ref 4),("table", .ref 3),("mark", .str m)], .list false ((zs3 m k).map pA), .dict true [(hk, .ref 1)], .inst 171 2, .list false (zkv k), .list false kX, .liter (.ref 5) k]
def zr7:Fr:=zaF (Hp.of []) (fd 30).scope [] (fd 30).tab
def zkk(m:List Nat)(k:Nat)(x:AV):Hp:=(zbM zr7 (Str.ofString "name") (Str.ofString "value") x ((zuJ m k).set 6 (.liter (.ref 5) (k+1)))).rh
def X30(m:List Nat)(k:Nat)(x:AV)(h':Hp):Prop:=Wk h' (zkk m k x)
theorem zsj:okN [122]:=⟨by decide,by decide +kernel,by kernel_rfl,by kernel_rfl⟩
theorem zoI(B:Tbl T3 P.c)(m:List Nat)(H1:okH (kp1 m))(f:(kp1 m).find? (zaL [122])=none):za3 P.up.up (.glob 118) [.ref 0, .str [122]] [] (Hp.of (hO ((kp1 m).map pA))) (DK .none (hO ((kp1 m).map pA))):=by
 have C:=zmf B (kp1 m) [122] zsj H1;have e:zgH (kp1 m) [122] = .none:=by unfold zgH;rw [f]
 rwa [e] at C
theorem zqX(B:Tbl T3 P.c)(Z:Hits P.c)(m:List Nat)(H1:okH (kp1 m))(f:(kp1 m).find? (zaL [122])=none):zhT P.up.up.up (.glob 161) [.ref 3, .str [122], .str [10]] [] (zkk m 0 (.tup [.str [122], .str [10]])) (X30 m 0 (.tup [.str [122], .str [10]])):=by
 refine zbG (fdH 15, []) ?_;obtain ⟨a,b,c,d,e,f',g,i,mm,ea,b1,b2,X⟩:=zkO;refine zez ea ?_;have B2:Tbl T3 P.up.up.c:=B;refine zkG B2 (zoI (P:=P) B m H1 f) [3,2,1] (zfJ B2 (zao (zfp rfl (zjp ?_ (zf9 B2 (.ref 1) (zd9 B2 (m:= .bm .lAppend (.ref 1)) (zcm (zlO rfl (zlM (zpa B2 (zdC (P:=P.up) B ((kp1 m).map pA) [122] true zsj.2.2.1 (by decide)) [3,2,1] (zcm (zcR ?_ (zf9 B2 (.ref 3) (zd9 B2 (m:= .um (.glob 70) [.ref 3]) (zgS B2 [.str [10]] (zeU B2 [("name", .bool false)] ?_))))))))))))))))
 ·rw [b1];kernel_rfl
 ·rw [b2];kernel_rfl
 ·have B1:Tbl T3 (P.up).c:=B
  refine zbc (zbG (fdH 1, []) ?_);obtain ⟨p,p0,a,b,c,d,e,f,g,h',ea,k,eb,hb⟩:=zfd;refine zez eb ?_;refine zfJ B1 (zqp B1 (zao (znw (zqa ?_ (zlj (v:= .glob 48) (zd9 B1 (m:= .bm .rSearch (.glob 48)) (zcO (zlj (v:= .str [10]) (zf6 ⟨48, [10],rfl,rfl,Z.vl,?_⟩)))))))))
  ·rw [hb];rfl
  ·refine zao (zhX Z.ve (by kernel_rfl) rfl (zcO (zp5 (zf6 ⟨rfl,?_⟩))))
   exact .ct
theorem zqW(B:Tbl T3 P.c)(Z:Hits P.c)(m:List Nat):zhT P.up.up.up (.glob 161) [.ref 3, .str [122,10], .str [122]] [] (zkk m 1 (.tup [.str [122,10], .str [122]])) (X30 m 1 (.tup [.str [122,10], .str [122]])):=by
 refine zbG (fdH 15, []) ?_;obtain ⟨tt,a,b,c,ea,b1⟩:=zkN;refine zez ea ?_;have B2:Tbl T3 P.up.up.c:=B;refine zao (zeq rfl (zcR ?_ (zf9 B2 (.ref 3) (zd9 B2 (m:= .um (.glob 118) [.ref 3]) (zgS B2 [.str [122,10]] (zeU B2 [] ?_))))))
 ·rw [b1];kernel_rfl
 ·refine zbc (zbG (fdH 8, [.none]) ?_)
  obtain ⟨tt,a,b,c,ea,b1⟩:=zoU;refine zez ea ?_;have B1:Tbl T3 P.up.c:=B;refine zao (zeq rfl (zcR ?_ (zf9 B1 (.ref 3) (zd9 B1 (m:= .um (.glob 70) [.ref 3]) (ztm B1 [.str [122,10]] (zeU B1 [("name", .bool true)] ?_))))))
  ·rw [b1];kernel_rfl
  ·have B1:Tbl T3 (P).c:=B
   refine zbc (zbG (fdH 1, []) ?_);obtain ⟨p,p0,a,b,c,d,e,f,g,h',ea,k,eb,hb⟩:=zfd;refine zez eb ?_;refine zfJ B1 (zqo B1 (zao (znw (zqa ?_ (zlj (v:= .glob 43) (zd9 B1 (m:= .bm .rSearch (.glob 43)) (zcO (zlj (v:= .str [122,10]) (zf6 ⟨43, [122,10],rfl,rfl,Z.nm,?_⟩)))))))))
   ·rw [hb];rfl
   ·refine zao (zhX Z.ve (by kernel_rfl) rfl (zcO (zp5 (zf6 ⟨rfl,?_⟩))))
    exact .ct
theorem ztc(B:Tbl T3 P.c)(m:List Nat)(H1:okH (kp1 m))(f:(kp1 m).find? (zaL [122])=none){K:Fl→Hp→Prop}(H:∀h',Wk h' ((zkk m 3 (.tup [.str [122], .str [9]])).set 6 (.liter (.ref 5) 3))→K .next h'):JSs P.up.up.up zr7 (bIf kpT) (zkk m 2 (.tup [.str [122], .str [9]])) K:=
 have B3:Tbl T3 P.up.up.up.c:=B
 ssN B3 (zar B (kp1 m) [122] [9] zsj ⟨by decide,by kernel_rfl⟩ H1 f) [3,2,1] (H _ .ct)
structure MkOk(m:List Nat):Prop where
 len:m.length=1
 n0:okN m
 ns:okN (m ++ [115])
 nS:okN (m ++ [83])
 l0:za8 m=m
 ls:za8 (m ++ [115])=m ++ [115]
 lS:za8 (m ++ [83])=m ++ [115]
 nz:m≠ [122]
 ch:zaS m
theorem zmP{s:List Nat}{p:List Nat×List Nat}(h:za8 p.1=za8 s):zaL s p=true:=by unfold zaL;rw [h];exact bS _
theorem zeR{s:List Nat}{p:List Nat×List Nat}(h:za8 p.1≠za8 s):zaL s p=false:=beq_eq_false_iff_ne.mpr h
theorem znq{m:List Nat}{c:Nat}:m ++ [c]≠m:=fun e=>by have:=congrArg List.length e;simp at this
theorem zk2{m:List Nat}(h:m.length=1){c d:Nat}:m ++ [c]≠[d]:=fun e=>by have:=congrArg List.length e;simp [h] at this
theorem zoA:za8 [122] = [122]:=by decide +kernel
theorem zn1{α:Type}{f:α→Bool}{x:α}{r:List α}(h:f x=true):(x :: r).find? f=some x:=List.find?_cons_of_pos h
theorem zcN{α:Type}{f:α→Bool}{x:α}{r:List α}(h:f x=false):(x :: r).find? f=r.find? f:=List.find?_cons_of_neg (by rw [h];exact Bool.false_ne_true)
theorem zng{a b:List Nat}(h:zaS a)(k:zaS b):zaS (a++b):=fun c m=>(List.mem_append.mp m).elim (h c) (k c)
noncomputable def kp0(m:List Nat):List (List Nat×List Nat):=[(m ++ [115],[49]),(m ++ [83],[50])]
noncomputable def w30k(P:PM T3)(m:List Nat):Wt:=pW P (fd 30,[]) [.str m, .str [10]] (.bool true)
theorem zcP(ps:List (List Nat×List Nat))(h:∀p∈ps,zaS p.1∧zaS p.2):zsi (ps.map pA) (ps.map pA) true:=by
 have e:(ps.map pA).map pdA=(ps.map fun p=>PyData.tuple [.str (za0 p.1), .str (za0 p.2)]).map some:=by
  rw [mN,mN];rfl
 have c:PyData.canLayAll0 (ps.map fun p=>PyData.tuple [.str (za0 p.1), .str (za0 p.2)])=true:=by
  clear e;induction ps with
  | nil=>rfl
  | cons p ps ih=>
   obtain ⟨h1,h2⟩:=h p mS;have s:∀{l:List Nat},zaS l→PyData.strOk (za0 l)=true:=fun {l} h=>by
    unfold PyData.strOk za0;rw [←Array.all_toList];exact List.all_eq_true.mpr fun c m=>dT (h c m)
   show ((PyData.strOk (za0 p.1)&&(PyData.strOk (za0 p.2)&&true))&&PyData.canLayAll0 (ps.map _))=true;rw [s h1,s h2];exact ih fun q m=>h q (mM _ m)
 exact ⟨_,_,e,e,c,c,SeqAt.eqvAll_refl _ c⟩
def toldL:List (List Nat):=[[49],[],[],zs4,zs4,[9]]
noncomputable def chB(l:List Nat):Bool:=l.all fun c=>Nat.blt c 1114112
theorem zc7{l:List Nat}(h:chB l=true):zaS l:=fun c m=>blt (aT h c m)
theorem ch6:∀s∈toldL,zaS s:=fun s m=>zc7 (aT (rfl:toldL.all chB=true) s m)
theorem zrI(B:Tbl T3 P.c)(Z:Hits P.c)(m:List Nat)(M:MkOk m)(k:K (.bool true) h):za3 P.up.up.up.up (.glob 383) [.str m, .str [10]] [] h K:=by
 refine zb1 B (?_:Sm P.up.up.up (w30k P.up.up.up m)) k;have B3:Tbl T3 P.up.up.up.c:=B;have l1:m.length+1≤sizeL:=by rw [M.len];decide
 have h0:∀p∈kp0 m,rxB true p.1=false∧p.1.length≤sizeL∧rxB false p.2=false∧p.2.length≤sizeL:=by
  intro p hp;rcases cP hp with rfl | hp
  ·exact ⟨M.ns.2.2.1,M.ns.1,by kernel_rfl,(by decide:1≤sizeL)⟩
  ·obtain rfl:=sM hp
   exact ⟨M.nS.2.2.1,M.nS.1,by kernel_rfl,(by decide:1≤sizeL)⟩
 have H1:okH (kp1 m):=by
  refine ⟨fun p hp=>?_,(by decide:3<80000)⟩;rcases cP hp with rfl | hp
  ·exact M.ns.2.1
  ·rcases cP hp with rfl | hp
   ·exact M.nS.2.1
   ·obtain rfl:=sM hp
    exact M.n0.2.1
 have H0:okH (kp0 m):=⟨fun p hp=>H1.1 p (List.mem_append_left [(m, [])] hp),(by decide:2<80000)⟩;have f0:(kp0 m).find? (zaL (m ++ [83]))=some (m ++ [115], [49]):=zn1 (zmP (M.ls.trans M.lS.symm));have g1:zaL m (m ++ [115], [49])=false:=zeR (by rw [M.l0];exact fun e=>znq (M.ls.symm.trans e));have g2:zaL m (m ++ [83], [50])=false:=zeR (by rw [M.l0];exact fun e=>znq (M.lS.symm.trans e));have f1:(kp0 m).find? (zaL m)=none:=(zcN g1).trans (zcN g2);have f2:(kp1 m).find? (zaL m)=some (m, []):=(zcN g1).trans ((zcN g2).trans (zn1 (zmP rfl)));have f3:(kp1 m).find? (zaL [122])=none:=(zcN (zeR (by rw [zoA];exact fun e=>zk2 M.len (M.ls.symm.trans e)))).trans ((zcN (zeR (by rw [zoA];exact fun e=>zk2 M.len (M.lS.symm.trans e)))).trans ((zcN (zeR (by rw [zoA,M.l0];exact M.nz))).trans rfl));have tch:∀p∈zs3 m 3,zaS p.1∧zaS p.2:=by
  intro p hp;rcases cP hp with rfl | hp
  ·exact ⟨zng M.ch (zc7 rfl),zc7 rfl⟩
  ·rcases cP hp with rfl | hp
   ·exact ⟨zng M.ch (zc7 rfl),zc7 rfl⟩
   ·rcases cP hp with rfl | hp
    ·exact ⟨M.ch,zc7 rfl⟩
    ·obtain rfl:=sM hp
     exact ⟨zc7 rfl,zc7 rfl⟩
 refine .st .o (bt (b:=sizeL) l1) (.st .o (bt (b:=sizeL) l1) (.tt (.newD (a:=171) (args:= [.ref 1]) (zmd B (kp0 m) h0) [2,3,1] (.st .o (bt (b:=sizeL) l1) ?_))));refine .callD (zaK B (kp0 m) (m ++ [83]) [10] _ M.nS H0 f0) [3,2,1] ?_;refine .callD (zar B (kp0 m) m [] M.n0 ⟨oL _,by kernel_rfl⟩ H0 f1) [3,2,1] ?_;refine .callD (zaK B (kp1 m) m [10] _ M.n0 H1 f2) [3,2,1] (.tt (.ok (.tt ?_)));refine .loop B3 7 (xs:=kX) (zan (q:=(false,kX)) (v:= .ref 5)) (fun (_:Unit)=>zuJ m) (fun Y Y=>True) () (.msk 0 [("told", .ref 4),("table", .ref 3),("mark", .str m)]) trivial (fun Y Y Y=>⟨by kernel_rfl,by kernel_rfl,by kernel_rfl⟩) ?_ ?_
 ·intro Y k x e J
  match k with
  | 0=>
   obtain rfl:=sI e;refine .oneT zr7 kpT (zkk m 0 (.tup [.str [122], .str [10]])) ?_;obtain ⟨a,b,c,d,e',np,hp,a2,b2,c2,d2,e2,kk,v,p,ek,ev,g1,g2,g3⟩:=zj5;rw [ek];refine zmq Z.ve (by kernel_rfl) (X:=fun h'=>h'=zkk m 0 (.tup [.str [122], .str [10]])) (.wk (rL _) (zao (zfp rfl (zjp ?_ (zf9 B3 (.ref 4) (zd9 B3 (m:= .bm .lAppend (.ref 4)) (zcm (zcR ?_ (zf9 B3 (.ref 3) (zd9 B3 (m:= .um (.glob 161) [.ref 3]) (zgS B3 [.str [122], .str [10]] (zeU B3 [] (zbc (zqX B Z m H1 f3)))))))))))))) ?_
   ·rw [g1];kernel_rfl
   ·rw [g2];kernel_rfl
   ·rintro _ rfl
    exact zeV (r:=4) (by rfl) (by kernel_rfl) (l:= [(Str.ofString "value", .str [10]),(Str.ofString "name", .str [122]),("told", .ref 4),("table", .ref 3),("mark", .str m)]) (by kernel_rfl) (by kernel_rfl) (q:=(false,zkv 0)) (by kernel_rfl) (by kernel_rfl) g3 (by rw [ev];exact zdT () (.msk 0 [("told", .ref 4),("table", .ref 3),("mark", .str m)]) trivial)
  | 1=>
   obtain rfl:=sI e;refine .oneT zr7 kpT (zkk m 1 (.tup [.str [122,10], .str [122]])) ?_;obtain ⟨a,b,c,d,e',np,hp,a2,b2,c2,d2,e2,kk,v,p,ek,ev,g1,g2,g3⟩:=zj5;rw [ek];refine zmq Z.ve (by kernel_rfl) (X:=fun h'=>h'=zkk m 1 (.tup [.str [122,10], .str [122]])) (.wk (rL _) (zao (zfp rfl (zjp ?_ (zf9 B3 (.ref 4) (zd9 B3 (m:= .bm .lAppend (.ref 4)) (zcm (zcR ?_ (zf9 B3 (.ref 3) (zd9 B3 (m:= .um (.glob 161) [.ref 3]) (zgS B3 [.str [122,10], .str [122]] (zeU B3 [] (zbc (zqW B Z m)))))))))))))) ?_
   ·rw [g1];kernel_rfl
   ·rw [g2];kernel_rfl
   ·rintro _ rfl
    exact zeV (r:=4) (by rfl) (by kernel_rfl) (l:= [(Str.ofString "value", .str [122]),(Str.ofString "name", .str [122,10]),("told", .ref 4),("table", .ref 3),("mark", .str m)]) (by kernel_rfl) (by kernel_rfl) (q:=(false,zkv 1)) (by kernel_rfl) (by kernel_rfl) g3 (by rw [ev];exact zdT () (.msk 0 [("told", .ref 4),("table", .ref 3),("mark", .str m)]) trivial)
  | 2=>
   obtain rfl:=sI e;refine .oneT zr7 kpT (zkk m 2 (.tup [.str [122], .str [9]])) ?_;obtain ⟨h0,hs,p,ek⟩:=zlp;rw [ek];exact zpN (ztc B m H1 f3 fun h' w=>zdT () (w.trans (.msk 0 [("told", .ref 4),("table", .ref 3),("mark", .str m)])) trivial)
  | k+3=>exact no e
 ·intro Y J
  refine .tt (.st (.txt toldL toldL) (aO rfl (aO rfl (aO ch6 ch6)):zkv 3=toldL.map AV.str∧toldL.map AV.str=toldL.map AV.str∧(∀s∈toldL,zaS s)∧∀s∈toldL,zaS s) (.ff ?_));refine .callD (zjR (P:=P.up.up) B ((zs3 m 3).map pA) (by decide:4≤sizeL)) [3,2,1] ?_;refine .st .o (bt (b:=sizeL) l1) (.st .o (bt (b:=sizeL) l1) (.tt ?_));refine .st (.b true) (zcP (zs3 m 3) tch) ?_;exact .asIs (.fin (rfl:AV.bool true = .bool true))
theorem zgx{c ln:Nat}(h:c≠10):lnN c ln=ln:=by unfold lnN;rw [beq_eq_false_iff_ne.mpr h];rfl
theorem zgR(all:Bool)(set:List Nat)(c:Nat):esc all set c = [92,c]∨esc all set c = [c]∧c∉set:=by
 unfold esc;induction e:all || decide (c∈set) with
 | true=>exact .inl rfl
 | false=>exact .inr ⟨rfl,of_decide_eq_false (Bool.or_eq_false_iff.mp e).2⟩
theorem zsf{tok w:List Nat}{c:Nat}:tok ++ [c]++w=tok++c :: w:=by rw [aA];rfl
theorem ziA{all:Bool}(r:List Nat)(ln:Nat):∀(w tok:List Nat),(∀x∈w,x≠10)→qF false ln tok (w.flatMap (esc all [34,92])++34 :: r)=(tok++w,r,true,ln)
 | [],tok,_=>by rw [aL];rfl
 | c :: w,tok,h=>by
  have h1:=h c mS;have ih:=ziA (all:=all) r ln w (tok ++ [c]) fun x hx=>h x (mM _ hx);rw [List.flatMap_cons];rcases zgR all [34,92] c with e | ⟨e,q⟩
  ·rw [e]
   show qF false ln tok (92 :: c :: (w.flatMap (esc all [34,92])++34 :: r))=_;rw [qFf,if_neg (by decide),if_pos rfl,qFt,zgx h1,ih,zsf]
  ·rw [e]
   show qF false ln tok (c :: (w.flatMap (esc all [34,92])++34 :: r))=_;rw [qFf,if_neg (fun e:c=34=>q (e▸mS)),if_neg (fun e:c=92=>q (e▸mM _ mS)),zgx h1,ih,zsf]
theorem zmr{c:Nat}(h:c≠10∧c≠13∧c≠9)(q:c∉[92,32]):c∉wsL∧c≠92:=by
 refine ⟨fun e=>?_,fun e=>q (e▸mS)⟩;simp only [wsL,List.mem_cons,List.not_mem_nil,or_false] at e q
 lia
theorem zjY{all:Bool}{wh:Nat}(hwh:wh∈wsL)(r:List Nat)(ln:Nat):∀(w tok:List Nat),(∀x∈w,x≠10∧x≠13∧x≠9)→bF false ln tok (w.flatMap (esc all [92,32])++wh :: r)=(tok++w,r,true,lnN wh ln)
 | [],tok,_=>by
  show bF false ln tok (wh :: r)=_;rw [bFf,if_pos hwh,aL]
 | c :: w,tok,h=>by
  have h1:=h c mS;have ih:=zjY (all:=all) hwh r ln w (tok ++ [c]) fun x hx=>h x (mM _ hx);rw [List.flatMap_cons];rcases zgR all [92,32] c with e | ⟨e,q⟩
  ·rw [e]
   show bF false ln tok (92 :: c :: (w.flatMap (esc all [92,32])++wh :: r))=_;rw [bFf,if_neg (by decide),if_pos rfl,bFt,zgx h1.1,ih,zsf]
  ·rw [e]
   show bF false ln tok (c :: (w.flatMap (esc all [92,32])++wh :: r))=_;obtain ⟨q3,q4⟩:=zmr h1 q;rw [bFf,if_neg q3,if_neg q4,ih,zsf]
theorem zqT{all:Bool}{w:List Nat}{wh:Nat}(h:∀x∈w,x≠10∧x≠13∧x≠9)(hwh:wh∈wsL)(ln:Nat)(r:List Nat):zfD ln ([wh] ++ [34]++w.flatMap (esc all [34,92]) ++ [34]++r)=(w,r,lnN wh ln):=by
 have e: [wh] ++ [34]++w.flatMap (esc all [34,92]) ++ [34]++r=wh :: 34 :: (w.flatMap (esc all [34,92])++34 :: r):=by rw [aA];rfl
 rw [e,lxc,if_pos hwh,lxc,if_neg (by decide),if_pos rfl,ziA r _ w [] (fun x hx=>(h x hx).1)]
 rfl
theorem zoE{all:Bool}{c:Nat}{w:List Nat}{wh:Nat}(h1:c≠10)(h:∀x∈w,x≠10∧x≠13∧x≠9)(hwh:wh∈wsL)(ln:Nat)(r:List Nat):zfD ln (92 :: c :: (w.flatMap (esc all [92,32])++wh :: r))=(c :: w,r,lnN wh ln):=by
 rw [lxc,if_neg (by decide),if_neg (by decide),if_pos rfl,bFt,zgx h1,zjY hwh r ln w _ h]
 rfl
theorem zmQ{way:Nat}{w:List Nat}{wh:Nat}(hw:way<4)(hne:w≠[])(h:∀x∈w,x≠10∧x≠13∧x≠9)(hwh:wh∈wsL)(ln:Nat)(r:List Nat):
  zfD ln (wr way w [wh]++r)=(w,r,lnN wh ln):=by
 obtain ⟨c,w',rfl⟩:=List.exists_cons_of_ne_nil hne;have h1:=h c mS;have h2:=fun x hx=>h x (mM _ hx)
 match way,hw with
 | 0,_=>exact zqT h hwh ln r
 | 3,_=>exact zqT h hwh ln r
 | 1,_=>
  have e:wr (1:Nat) (c :: w') [wh]++r=92 :: c :: (w'.flatMap (esc true [92,32])++wh :: r):=by
   show ((c :: w').flatMap (esc true [92,32]) ++ [wh])++r=_;rw [aA];rfl
  rw [e];exact zoE h1.1 h2 hwh ln r
 | 2,_=>
  have e0:wr (2:Nat) (c :: w') [wh]++r=((bif c==34 then [92] else [])++esc false [92,32] c)++(w'.flatMap (esc false [92,32])++wh :: r):=by
   show ((bif some c==some 34 then [92] else [])++((esc false [92,32] c++w'.flatMap (esc false [92,32])) ++ [wh]))++r=_;rw [show (some c==some 34)=(c==34) from rfl];simp only [List.append_assoc];rfl
  rw [e0];rcases zgR false [92,32] c with e | ⟨e,q⟩
  ·induction q:c==34 with
   | true=>rw [eq_of_beq q] at e;exact absurd e (by decide)
   | false=>rw [e];exact zoE h1.1 h2 hwh ln r
  ·rw [e]
   induction q2:c==34 with
   | true=>exact zoE h1.1 h2 hwh ln r
   | false=>
    obtain ⟨q3,q4⟩:=zmr h1 q;show zfD ln (c :: (w'.flatMap (esc false [92,32])++wh :: r))=_;rw [lxc,if_neg q3,if_neg (beq_eq_false_iff_ne.mp q2),if_neg q4,zjY hwh r ln w' _ h2]
    rfl
noncomputable def zqK(wh:Nat):Nat:=bif wh==10 then 1 else 0
theorem zmL(wh ln:Nat):lnN wh ln=ln+zqK wh:=by unfold zqK lnN;induction wh==10 <;> rfl
theorem zew(s:List Nat)(a:Nat):Builtin.Str.subAt (za0 s) (za0 [10]) a=true↔s[a]? = some 10:=by
 unfold Builtin.Str.subAt za0;rw [beq_iff_eq,←Array.toList_inj];simp only [Array.toList_extract,List.extract_eq_take_drop,Str.length,List.size_toArray,List.length_cons,List.length_nil];have e:a+(0+1)-a=1:=by lia
 rw [e];induction h:s[a]? with
 | none=>
  rw [List.drop_of_length_le (List.getElem?_eq_none_iff.mp h)];simp
 | some x=>
  have hl:=(gE h).1;rw [List.drop_eq_getElem_cons hl,(List.getElem?_eq_some_iff.mp h).2];simp
theorem zcA(s:List Nat):∀(m a:Nat) (st:Array Nat×Nat),a+m=s.length+1→st.2≤a→st.1.size+m≤s.length+1→
  (forIn (m:=Id) (List.range' a m) st (StrLaws.occBody (za0 s) (za0 [10]) s.length (s.length+1))).run.fst.size=st.1.size+(s.drop a).count 10
 | 0,a,st,h1,h2,h3=>by
  rw [List.drop_of_length_le (Nat.le_of_succ_le (eL h1.symm:s.length+1≤a))];rfl
 | m+1,a,st,h1,h2,h3=>by
  rw [List.range'_succ,List.forIn_cons];unfold StrLaws.occBody;have l1:(za0 [10]).length=1:=rfl;have h4:a+1+m=s.length+1:=(Nat.succ_add_eq_add_succ a m).trans h1;by_cases q:s[a]? = some 10
  ·have hl:=(gE q).1
   rw [if_pos ⟨⟨⟨lz3 0x21200846000061200847006000041 h3,h2⟩,by rw [l1];exact lz2 0x7846000047846000041 hl⟩,(zew s a).mpr q⟩];have:=zcA s m (a+1) (st.1.push a,a+(za0 [10]).length) h4 (by rw [l1];exact Nat.le_refl _) (by simp only [Array.size_push];exact Nat.le_trans (Nat.le_of_eq (Nat.succ_add_eq_add_succ _ m)) h3);refine Eq.trans this ?_;rw [List.drop_eq_getElem_cons hl,(gE q).2,List.count_cons];simp only [Array.size_push,beq_self_eq_true,if_true];lia
  ·rw [if_neg (fun h=>q ((zew s a).mp h.2))]
   have:=zcA s m (a+1) st h4 (Nat.le_succ_of_le h2) (Nat.le_of_succ_le h3);refine Eq.trans this ?_
   congr 1
   induction h:s[a]? with
   | none=>
    have hl:=List.getElem?_eq_none_iff.mp h;rw [List.drop_of_length_le (Nat.le_succ_of_le hl),List.drop_of_length_le hl]
   | some x=>
    obtain ⟨hl,hx⟩:=gE h;rw [h] at q;rw [List.drop_eq_getElem_cons hl,hx,List.count_cons];have:(x==10)=false:=beq_eq_false_iff_ne.mpr fun e=>q (by rw [e]);rw [this];simp
theorem zfc(s:List Nat):zdy s [10]=s.count 10:=by
 unfold zdy;have el:(za0 s).length=s.length:=by simp [za0,Str.length]
 rw [StrLaws.occ_eq,Array.length_toList];have:=zcA s (s.length+1) 0 (#[],0) (by lia) (by lia) (by simp)
 simpa using this
theorem zbF(all:Bool)(set:List Nat):∀w:List Nat,(∀x∈w,x≠10)→(w.flatMap (esc all set)).count 10=0
 | [],_=>rfl
 | c :: w,h=>by
  have h1:=h c mS;rw [List.flatMap_cons,List.count_append,zbF all set w fun x hx=>h x (mM _ hx)];rcases zgR all set c with e | ⟨e,_⟩ <;> rw [e] <;> simp [List.count_cons,h1]
theorem zg0{way:Int}{w:List Nat}{wh:Nat}(h:∀x∈w,x≠10):(wr way w [wh]).count 10=zqK wh:=by
 have hs: [wh].count 10=zqK wh:=by
  unfold zqK;rw [List.count_cons];induction wh==10 <;> rfl
 unfold wr wrQ wrB;induction q03 way with
 | true=>simp only [cond_true,List.count_append,zbF _ _ w h,hs];rfl
 | false=>induction way==2&&w.head? == some 34 <;> simp only [cond_true,cond_false,List.count_append,zbF _ _ w h,hs,Nat.zero_add] <;> exact Nat.zero_add _
noncomputable def tailT:List Nat:=[34,10,34,34,34,122,92,10,32,34,122,92]
structure Ent where
 t:Nat
 c:Nat
 w:List Nat
noncomputable def rep(t:Nat):List Nat:=List.replicate t 115
noncomputable def whP(k:Nat):Nat:=[32,10,9,13].getD k 0
def wrE(e:Ent):List Nat:=wr ((1+e.t)%3:Nat) e.w [whP ((1+e.t)%4)]
structure PS where
 R:List Ent
 tl:List (Nat×Nat)
noncomputable def zsc(m:List Nat):Ent:=⟨0,0,m⟩
def PS.L(m:List Nat)(i:PS):List Ent:=zsc m :: i.R
noncomputable def fdE(L:List Ent)(t:Nat):Option Ent:=L.find? fun e=>Nat.beq e.t t
def zaG(top:Nat)(m:List Nat)(t c:Nat)(w:List Nat)(i:PS)(x:Nat×List Nat):PS:=
 bif Nat.ble (t+x.1) top then Option.casesOn (motive:=fun X=>PS) (fdE (i.L m) (t+x.1)) ⟨i.R ++ [⟨t+x.1,c,w++x.2⟩],i.tl ++ [(t+x.1,c)]⟩ fun e=>⟨i.R,i.tl ++ [(t+x.1,e.c)]⟩ else i
def zfP(m:List Nat)(i:PS)(k:Nat):Ent:=(i.L m).getD k (zsc m)
def zef(m:List Nat)(i:PS)(t:Nat):Nat:=Option.casesOn (motive:=fun X=>Nat) (fdE (i.L m) t) 0 fun e=>e.c
def zus(m:List Nat)(i:PS)(k:Nat):Nat:=1+zef m i (zfP m i k).t
def zlK(top:Nat)(m:List Nat)(k:Nat)(i0:PS)(xs:List (Nat×List Nat)):PS:=xs.foldl (zaG top m (zfP m i0 k).t (zus m i0 k) (zfP m i0 k).w) i0
def zbK(top:Nat)(m:List Nat)(cs:List (Nat×List Nat))(k:Nat):PS:=Nat.rec (motive:=fun X=>PS) ⟨[],[(0,0)]⟩ (fun k i=>zlK top m k i cs) k
def okC(x:Nat):Prop:=okP x∧(x≠10∧x≠13∧x≠9)∧x<1114112
structure EntOk(m:List Nat)(e:Ent):Prop where
 t:e.t≤11
 c:e.c≤9
 pr:e.w.flatMap zd7=m++rep e.t
 ok:∀x∈e.w,okC x
 ne:e.w≠ []
 len:e.w.length≤1+2*e.t
structure CoinOk(x:Nat×List Nat):Prop where
 v:x.1≤8
 pr:x.2.flatMap zd7=rep x.1
 ok:∀z∈x.2,okC z
 len:x.2.length≤2*x.1
 ne:x.2≠ []
structure PSOk(m:List Nat)(n:Nat)(i:PS):Prop where
 L:∀e∈i.L m,EntOk m e
 tl:∀x∈i.tl,x.2≤9
 rl:i.R.length≤n
 tn:i.tl.length≤n+1
theorem zft(a b:Nat):rep a++rep b=rep (a+b):=List.replicate_append_replicate
theorem zkC{top:Nat}{m:List Nat}{n t c:Nat}{w:List Nat}{i:PS}{x:Nat×List Nat}(h:PSOk m n i)(ht:top≤11)(hc:c≤9)(hx:CoinOk x)(hp:w.flatMap zd7=m++rep t)(ho:∀z∈w,okC z)(hne:w≠[])(hl:w.length≤1+2*t):PSOk m (n+1) (zaG top m t c w i x):=by
 unfold zaG;rcases fT (Nat.ble (t+x.1) top) with q | q
 ·rw [q]
  have q:=jL q;induction e:fdE (i.L m) (t+x.1) with
  | none=>
   refine ⟨fun z hz=>?_,fun z hz=>?_,?_,?_⟩
   ·have hz:z∈i.L m ++ [⟨t+x.1,c,w++x.2⟩]:=hz
    rcases List.mem_append.mp hz with hz | hz
    ·exact h.L z hz
    ·obtain rfl:=sM hz
     refine ⟨lT q ht,hc,?_,fun y hy=>(List.mem_append.mp hy).elim (ho y) (hx.ok y),fun e=>hne (List.append_eq_nil_iff.mp e).1,?_⟩
     ·rw [List.flatMap_append,hp,hx.pr,aA,zft]
     ·have:=hx.len
      show (w++x.2).length≤1+2*(t+x.1);rw [lA];exact lz4 0x91c0881840206000049881200047881840180042 hl this
   ·rcases List.mem_append.mp hz with hz | hz
    ·exact h.tl z hz
    ·obtain rfl:=sM hz;exact hc
   ·show (i.R ++ [_]).length≤_
    rw [lA];exact uL h.rl
   ·show (i.tl ++ [_]).length≤_
    rw [lA];exact uL h.tn
  | some e'=>
   refine ⟨h.L,fun z hz=>?_,Nat.le_succ_of_le h.rl,?_⟩
   ·rcases List.mem_append.mp hz with hz | hz
    ·exact h.tl z hz
    ·obtain rfl:=sM hz
     exact (h.L e' (List.mem_of_find?_eq_some e)).c
   ·show (i.tl ++ [_]).length≤_
    rw [lA];exact uL h.tn
 ·rw [q];exact ⟨h.L,h.tl,Nat.le_succ_of_le h.rl,Nat.le_succ_of_le h.tn⟩
def nmE(m:List Nat)(t c:Nat):List Nat:=bif Nat.beq (c%2) 0 then m++rep t else za6 (m++rep t)
noncomputable def dcE(c:Nat):List Nat:=[48+c]
def prE(m:List Nat)(e:Ent):List Nat×List Nat:=(nmE m e.t e.c,dcE e.c)
def zal(m:List Nat)(L:List Ent):List (List Nat×List Nat):=L.map (prE m)
def tlA(x:Nat×Nat):AV:= .tup [.int x.1, .str (dcE x.2)]
structure NmOk(m:List Nat):Prop where
 len:m.length=1
 up:∀t,t≤19→okN (za6 (m++rep t))∧okN (m++rep t)∧za8 (za6 (m++rep t))=m++rep t∧za8 (m++rep t)=m++rep t∧zaS (za6 (m++rep t))∧zaS (m++rep t)
 ok:∀x∈m,okC x
 pr:m.flatMap zd7=m
section
variable {m:List Nat} (N:NmOk m)
include N
theorem zmK{t:Nat}(c:Nat)(h:t≤19):za8 (nmE m t c)=m++rep t:=by
 unfold nmE;induction Nat.beq (c%2) 0 with
 | true=>exact (N.up t h).2.2.2.1
 | false=>exact (N.up t h).2.2.1
theorem zqH{t:Nat}(c:Nat)(h:t≤19):okN (nmE m t c):=by
 unfold nmE;induction Nat.beq (c%2) 0 with
 | true=>exact (N.up t h).2.1
 | false=>exact (N.up t h).1
theorem zqI{t:Nat}(c:Nat)(h:t≤19):zaS (nmE m t c):=by
 unfold nmE;induction Nat.beq (c%2) 0 with
 | true=>exact (N.up t h).2.2.2.2.2
 | false=>exact (N.up t h).2.2.2.2.1
theorem zoC{s:List Nat}{t:Nat}(hs:za8 s=m++rep t){e:Ent}(he:e.t≤19):zaL s (prE m e)=Nat.beq e.t t:=by
 unfold zaL prE;rw [hs,zmK N e.c he];induction q:Nat.beq e.t t with
 | true=>rw [qB q];exact bS _
 | false=>
  refine beq_eq_false_iff_ne.mpr fun z=>?_;have:=congrArg List.length z;rw [lA,lA] at this;unfold rep at this;rw [List.length_replicate,List.length_replicate] at this;rw [Nat.add_left_cancel this,Nat.beq_refl] at q
  cases q
theorem ze6{s:List Nat}{t:Nat}(hs:za8 s=m++rep t):∀{L:List Ent},(∀e∈L,e.t≤19)→(zal m L).find? (zaL s)=(fdE L t).map (prE m)
 | [],_=>rfl
 | e :: L,h=>by
  have k:=zoC N hs (h e mS);unfold zal fdE;rw [mC,List.find?_cons,List.find?_cons,k];induction Nat.beq e.t t with
  | true=>rfl
  | false=>exact ze6 hs fun e he=>h e (mM _ he)
end
theorem zi5{m:List Nat}(N:NmOk m){n:Nat}{i:PS}(h:PSOk m n i)(hn:n<1000):okH (zal m (i.L m)):=by
 refine ⟨fun p hp=>?_,?_⟩
 ·obtain ⟨e,he,rfl⟩:=mP hp
  exact (zqH N e.c (lT (h.L e he).t (by decide))).2.1
 ·show ((zsc m :: i.R).map _).length<80000
  rw [lM,List.length_cons];have:=h.rl;exact lz2 0x4e20030a18470000011870013e8082846000042 hn this
theorem zfb:∀c,c≤9→zaV (dcE c)=dcE c∧(Builtin.Str.occurrences (za0 (dcE c)) (za0 [95]) 0 (dcE c).length ((dcE c).length+1)).isEmpty=true∧zbn (dcE c)=some (c:Int)∧zdY (c:Int)=some (dcE c)∧okV (dcE c):=by unfold okV;decide +kernel
def zca(m:List Nat)(R:List Ent)(k:Nat):List Nat:=Nat.casesOn (motive:=fun X=>List Nat) k [] fun k=>wr 0 m []++(R.take k).flatMap wrE
def zc5(m:List Nat)(R:List Ent)(k:Nat):List Nat:=Nat.casesOn (motive:=fun X=>List Nat) k (wr 0 m []++R.flatMap wrE) fun k=>(R.drop k).flatMap wrE
def pgT(m:List Nat)(R:List Ent):List Nat:=wr 0 m []++R.flatMap wrE
theorem zgg(m:List Nat)(R:List Ent)(k:Nat):pgT m R=zca m R k++zc5 m R k:=by
 induction k using Nat.casesOn with
 | zero=>rfl
 | succ k=>
  show wr 0 m []++R.flatMap wrE=(wr 0 m []++(R.take k).flatMap wrE)++(R.drop k).flatMap wrE;rw [aA,←List.flatMap_append,List.take_append_drop]
theorem zgh(m:List Nat)(R:List Ent)(e:Ent):pgT m (R ++ [e])=pgT m R++wrE e:=by
 unfold pgT;rw [List.flatMap_append,List.flatMap_singleton,aA]
theorem zdk{m:List Nat}{R:List Ent}{k:Nat}(h:k≤R.length+1)(S:List Ent):zca m (R++S) k=zca m R k:=by
 induction k using Nat.casesOn with
 | zero=>rfl
 | succ k=>
  show wr 0 m []++((R++S).take k).flatMap wrE=wr 0 m []++(R.take k).flatMap wrE;rw [List.take_append_of_le_length (Nat.le_of_succ_le_succ h)]
theorem zeJ(m:List Nat)(R:List Ent):zca m R (R.length+1)=pgT m R∧zc5 m R (R.length+1) = []:=by
 refine ⟨?_,?_⟩
 ·show wr 0 m []++(R.take R.length).flatMap wrE=_
  rw [List.take_length];rfl
 ·show (R.drop R.length).flatMap wrE=_
  rw [List.drop_length];rfl
theorem zpX{k:Nat}:whP (k%4)∈wsL:=by
 have h:∀k,k<4→whP k∈wsL:=by decide
 exact h _ (mT _ (by decide))
theorem zqU{m:List Nat}{n:Nat}{i:PS}(h:PSOk m n i){k:Nat}(hk:k<i.R.length+1)(ln:Nat):
  ∃T,zc5 m i.R k=T++zc5 m i.R (k+1)∧zca m i.R (k+1)=zca m i.R k++T∧zfD ln (zc5 m i.R k)=((zfP m i k).w,zc5 m i.R (k+1),ln+T.count 10):=by
 induction k using Nat.casesOn with
 | zero=>
  have e0:=h.L (zsc m) mS;have h1:=fun x hx=>(e0.ok x hx).2.1;refine ⟨wr 0 m [],rfl,?_,?_⟩
  ·show wr 0 m []++(i.R.take 0).flatMap wrE = []++wr 0 m []
   rw [List.take_zero,List.flatMap_nil,aL,List.nil_append]
  ·show zfD ln (wr 0 m []++i.R.flatMap wrE)=(m,i.R.flatMap wrE,_)
   have e:wr 0 m []++i.R.flatMap wrE=34 :: (m.flatMap (esc false [34,92])++34 :: i.R.flatMap wrE):=by
    show (([] ++ [34])++m.flatMap (esc false [34,92]) ++ [34])++_=_;rw [aA];rfl
   have c:(wr 0 m []).count 10=0:=by
    show ((([]:List Nat) ++ [34])++m.flatMap (esc false [34,92]) ++ [34]).count 10=0;rw [List.count_append,List.count_append,zbF _ _ m fun x hx=>(h1 x hx).1];rfl
   rw [e,lxc,if_neg (by decide),if_pos rfl,ziA _ _ m [] fun x hx=>(h1 x hx).1,c]
   rfl
 | succ k=>
  have hk:k<i.R.length:=Nat.lt_of_succ_lt_succ hk;have eK:zfP m i (k+1)=i.R[k]:=by
   unfold zfP PS.L;rw [gD,List.getElem?_cons_succ,gG hk];rfl
  have ok:=h.L i.R[k] (mM _ (List.getElem_mem hk));have h1:=fun x hx=>(ok.ok x hx).2.1;have d:i.R.drop k=i.R[k] :: i.R.drop (k+1):=List.drop_eq_getElem_cons hk;refine ⟨wrE i.R[k],?_,?_,?_⟩
  ·show (i.R.drop k).flatMap wrE=_++(i.R.drop (k+1)).flatMap wrE
   rw [d];rfl
  ·show wr 0 m []++(i.R.take (k+1)).flatMap wrE=(wr 0 m []++(i.R.take k).flatMap wrE)++_
   rw [List.take_succ,gG hk,List.flatMap_append,aA];simp
  ·show zfD ln ((i.R.drop k).flatMap wrE)=(_,(i.R.drop (k+1)).flatMap wrE,_)
   rw [d,List.flatMap_cons,eK];unfold wrE;rw [zmQ (Nat.lt_trans (mT _ (by decide)) (by decide)) ok.ne h1 zpX,zmL,zg0 fun x hx=>(h1 x hx).1]
theorem znx{m:List Nat}{e:Ent}(h:EntOk m e):(wrE e).length≤60:=by
 have h1:=zfZ ((1+e.t)%3:Nat) e.w [whP ((1+e.t)%4)];have h2:=h.len;have h3:=h.t;show (wr _ _ _).length≤_;rw [List.length_singleton] at h1;exact lz3 0x3c04218006b2001088818401c00a2847881000180043 h1 h2 h3
theorem zdQ{m:List Nat}{n:Nat}{i:PS}(h:PSOk m n i)(hm:m.length=1)(hn:n≤40):(pgT m i.R).length≤3000:=by
 have a:∀R:List Ent,(∀e∈R,EntOk m e)→(R.flatMap wrE).length≤60*R.length:=fun R h=>by
  induction R with
  | nil=>exact oL _
  | cons e R ih=>
   rw [List.flatMap_cons,lA,List.length_cons];have:=znx (h e mS);have:=ih fun e he=>h e (mM _ he)
   omega
 have h1:=a i.R fun e he=>h.L e (mM _ he);have h2:=zfZ 0 m [];have h3:=h.rl;unfold pgT;rw [lA];rw [hm,List.length_nil] at h2;exact lz4 0xbb80821c9000046200f22822000240048f010811c0068042180f04 hn h1 h2 h3
def zaB(m:List Nat)(R:List Ent)(k:Nat):Nat:=(zca m R k).length
def zd1(m:List Nat)(R:List Ent)(k:Nat):Nat:=1+(zca m R k).count 10
def pO(m:List Nat)(R:List Ent)(k:Nat):List AO:=zaH (pgT m R) (zaB m R k:Nat) (zd1 m R k:Nat) []
theorem zrC(B:Tbl T3 P.c){m:List Nat}{n:Nat}{i:PS}(h:PSOk m n i)(hm:m.length=1)(hn:n≤40){k:Nat}(hk:k<i.R.length+1):za3 P.up.up.up (.glob 267) [.ref 1] [] (Hp.of (pO m i.R k)) (DK (.str (zfP m i k).w) (pO m i.R (k+1))):=by
 obtain ⟨T,e1,e2,e3⟩:=zqU h hk (zd1 m i.R k);have sp:=zgg m i.R k;have dr:(pgT m i.R).drop (zaB m i.R k)=zc5 m i.R k:=by rw [sp];exact List.drop_left
 have C:=zej B (pgT m i.R) (lT (zdQ h hm hn) (by decide)) (zaB m i.R k) (zd1 m i.R k) (by rw [sp,lA];exact rA _ _) _ (dr.symm▸e3);have p1:(pgT m i.R).length-(zc5 m i.R (k+1)).length=zaB m i.R (k+1):=by
  rw [zgg m i.R (k+1),lA,Nat.add_sub_cancel];rfl
 have p2:zd1 m i.R k+T.count 10=zd1 m i.R (k+1):=by
  unfold zd1;rw [e2,List.count_append,Nat.add_assoc]
 dsimp only at C
 rw [p1,p2] at C;exact C
theorem zrE(B:Tbl T3 P.c){m:List Nat}{n:Nat}{i:PS}(h:PSOk m n i)(hm:m.length=1)(hn:n≤40):za3 P.up.up.up (.glob 267) [.ref 1] [] (Hp.of (pO m i.R (i.R.length+1))) (DK (.str []) (pO m i.R (i.R.length+1))):=by
 have e:=zeJ m i.R;have p0:zaB m i.R (i.R.length+1)=(pgT m i.R).length:=congrArg List.length e.1;have C:=zej B (pgT m i.R) (lT (zdQ h hm hn) (by decide)) (pgT m i.R).length (zd1 m i.R (i.R.length+1)) (rL _) ([], [],zd1 m i.R (i.R.length+1)) (by rw [List.drop_length];rfl);unfold pO;rw [p0];exact C
structure S29 where
 i:PS
 q:List AV
 tb:List AV
 tl:List AV
 pg:List Nat
 po:Nat
 ln:Nat
 ld:Int
noncomputable def qA(x:Nat×List Nat):AV:= .str x.2
structure R29(m:List Nat)(cs:List (Nat×List Nat))(k j n:Nat)(i:PS)(s:S29):Prop where
 ei:s.i=i
 ok:PSOk m n i
 q:s.q=(cs.drop j++cs.take j).map qA
 tb:s.tb=(zal m (i.L m)).map pA
 tl:s.tl=i.tl.map tlA
 pg:s.pg=pgT m i.R
 po:s.po=zaB m i.R k
 ln:s.ln=zd1 m i.R k
 ld:s.ld=(i.R.length+1:Nat)
 gr:k≤i.R.length+1
noncomputable def zkl(top:Nat)(ld:Int)(r:List (Str×AV)):List (Str×AV):=("laid", .int ld) :: ("tells", .ref 22) :: ("table", .ref 20) :: ("purse", .ref 12) :: ("page", .ref 10) :: ("top", .int top) :: ("ring", .ref 1) :: r
def b29(T:List Nat)(p ln:Int)(top k:Nat)(s:S29)(r:List (Str×AV)):List AO:=
 zaH T p ln s.q ++ [.frame (zkl top s.ld r), .list false [.str s.pg, .int s.po], .dict true [(kLn, .int s.ln),(kIn, .ref 13),(kWs, .str wsL),(kPb, .ref 18)], .inst 277 11, .inst 277 14, .dict true [(kLn, .int 1),(kIn, .none),(kWs, .str wsL),(kPb, .ref 15),(kRd, .ref 16)], .list false [], .clo zdr [("page",17)], .cell (some (.ref 10)), .list false [],
  .dict true [(hk, .ref 21)], .inst 171 19, .list false s.tb, .list false s.tl, .range 0 (top+1:Nat) 1, .riter (0+(k:Int)*1) (zfE (top+1) k) 1]
def zuK(T:List Nat)(p ln:Int)(top:Nat)(s:S29)(k:Nat):Hp:= .of (b29 T p ln top k s [])
def zpE(T:List Nat)(p ln:Int)(top k:Nat)(w nm:List Nat)(c:Nat)(s:S29)(j:Nat):Hp:= .of (b29 T p ln top (k+1) s [("word", .str w),("count", .int c),("name", .str nm)] ++ [.range 0 3 1, .riter (0+(j:Int)*1) (zfE 3 j) 1])
theorem zjO(B:Tbl T3 P.c)(z s:List Nat)(hz:z.length<10000)(hs:∀c∈z,okP c)(e:z.flatMap zd7=s)(k:K (.str s) h):za3 P.up.up (.glob 357) [.str z] [] h K:=zrD B z hz hs (e▸k)
theorem zgT{m:List Nat}{i:PS}{k:Nat}(h:k<i.R.length+1):zfP m i k∈i.L m:=by
 unfold zfP;rw [gD,gG (show k<(i.L m).length from h)];exact List.getElem_mem _
theorem zjm{L:List Ent}{e:Ent}(h:e∈L):∃e',fdE L e.t=some e':=by
 unfold fdE;induction q:L.find? fun x=>Nat.beq x.t e.t with
 | some e'=>exact ⟨e',rfl⟩
 | none=>exact absurd (Nat.beq_refl e.t) (List.find?_eq_none.mp q e h)
theorem zrK(B:Tbl T3 P.c){m:List Nat}(N:NmOk m){n:Nat}{i:PS}(h:PSOk m n i)(hn:n<1000){e:Ent}(he:e∈i.L m):
  za3 P.up.up (.glob 118) [.ref 0, .str (za6 (m++rep e.t))] [] (Hp.of (hO ((zal m (i.L m)).map pA))) (DK (.str (dcE (zef m i e.t))) (hO ((zal m (i.L m)).map pA))):=by
 have t19:e.t≤19:=lT (h.L e he).t (by decide);have C:=zmf B (zal m (i.L m)) (za6 (m++rep e.t)) (N.up e.t t19).1 (zi5 N h hn);have f:=ze6 N (N.up e.t t19).2.2.1 (L:=i.L m) fun x hx=>lT (h.L x hx).t (by decide);obtain ⟨e',q⟩:=zjm he;have g:zgH (zal m (i.L m)) (za6 (m++rep e.t)) = .str (dcE (zef m i e.t)):=by
  unfold zgH zef;rw [f,q];rfl
 rwa [g] at C
theorem znz(k:Nat):nth [32,10,9,13] ((k%4:Nat):Int)=some (whP (k%4)):=
 zbr ((by decide:∀i,i<4→ [32,10,9,13][i]? = some (whP i)) _ (mT _ (by decide))) rfl
theorem ziL{ps:List (List Nat×List Nat)}{p:List Nat×List Nat}(h:okH ps)(hp:(za8 p.1).length≤sizeL)(hl:ps.length<70000):okH (ps ++ [p]):=by
 refine ⟨fun q hq=>(List.mem_append.mp hq).elim (h.1 q) fun m=>sM m▸hp,?_⟩;rw [lA];exact lL (Nat.succ_lt_succ hl) (by decide)
theorem zjQ(B:Tbl T3 P.c)(ps:List (List Nat×List Nat))(p:List Nat×List Nat)(hp:okH (ps ++ [p])):za3 P.up (.glob 123) [.ref 0] [] (Hp.of (hO (ps.map pA ++ [pA p]))) (DK (.ref 3) (hO (ps.map pA ++ [pA p]) ++ [.list false (ps.map kS' ++ [.str p.1])])):=by
 have C:=zfj B (ps ++ [p]) hp;rw [mA,mA] at C;exact C
theorem znP{m:List Nat}(N:NmOk m)(m0:m≠[]){cs:List (Nat×List Nat)}(h3:cs.length=3):R29 m cs 0 0 (3*0) ⟨[],[(0,0)]⟩ ⟨⟨[],[(0,0)]⟩,cs.map qA,[pA (m,[48])],[tlA (0,0)],wr 0 m [],0,1,1⟩ where
 ei:=rfl
 ok:=⟨fun e he=>by
  obtain rfl:=sM he;exact ⟨oL _,oL _,N.pr.trans (aL m).symm,N.ok,m0,eL N.len⟩,fun x hx=>by
  obtain rfl:=sM hx;exact oL _,rL _,rL _⟩
 q:=congrArg (List.map qA) (aL cs).symm
 tb:=by
  show [pA (m, [48])] = [pA (m ++ [], [48])];rw [aL]
 tl:=rfl
 pg:=(aL _).symm
 po:=rfl
 ln:=rfl
 ld:=rfl
 gr:=oL _
def w29p(P:PM T3)(T:List Nat)(p ln:Int)(pb:List AV)(m:List Nat)(top:Nat)(sums tells:List AV):Wt:=dW P (fd 29,[]) [.ref 1, .str m, .int top] [] (zaH T p ln pb) (.ref 9) (zaH T p ln pb ++ [.list true [.ref 10, .ref 11], .list false sums, .list false tells])
theorem zrF(B:Tbl T3 P.c)(T:List Nat)(p ln:Int)(cs:List (Nat×List Nat))(m:List Nat)(top:Nat)(N:NmOk m)(h3:cs.length=3)(hc:∀x∈cs,CoinOk x)(ht:top≤11)
  (hs:∀k,k≤top→k<(zbK top m cs k).R.length+1∧zef m (zbK top m cs k) (zfP m (zbK top m cs k) k).t≤8) (hn:(zbK top m cs (top+1)).R.length=top):
  za3 P.up.up.up.up.up (.glob 376) [.ref 1, .str m, .int top] [] (Hp.of (zaH T p ln (cs.map qA))) (DK (.ref 9) (zaH T p ln (cs.map qA) ++ [.list true [.ref 10, .ref 11], .list false ((zal m ((zbK top m cs (top+1)).L m)).map pA), .list false ((zbK top m cs (top+1)).tl.map tlA)])):=by
 refine zaW B (?_:Sm P.up.up.up.up (w29p P.up.up.up.up T p ln (cs.map qA) m top ((zal m ((zbK top m cs (top+1)).L m)).map pA) ((zbK top m cs (top+1)).tl.map tlA)));have B4:Tbl T3 P.up.up.up.up.c:=B;have m0:m≠ []:=fun e=>by have:=N.len;rw [e] at this;cases this
 have n0:okN m:=by
  have:=(N.up 0 (oL _)).2.1;rwa [show m++rep 0=m from aL m] at this
 refine .callP (zbH (P:=P.up.up.up) B m [] 0 (by rw [N.len];decide) (by decide) m0) ?_;refine .tt (.callD (zjP (P:=P.up) B (wr 0 m [])) [10] ?_);refine .newD (a:=171) (args:= []) (zpp (P:=P.up.up) B) [19,20] ?_;refine .callD (zar (P:=P.up) B [] m [48] n0 ⟨by decide,by kernel_rfl⟩ ⟨fun X h=>(nomatch h),by decide⟩ rfl) [20,19,21] ?_;refine .tt (.st .o (zaw (N:=top+1) (lT (uL ht) (by decide)):Builtin.Range.small 0 ((top:Int)+1) 1=true) ?_);refine .loopS B4 25 (top+1) (zuK T p ln top) (fun s k=>R29 m cs k 0 (3*k) (zbK top m cs k) s) ⟨⟨[], [(0,0)]⟩,cs.map qA, [pA (m, [48])], [tlA (0,0)],wr 0 m [],0,1,1⟩ (.msk 9 (zkl top 1 [])) ?_ rfl (fun X X X=>⟨by kernel_rfl,by kernel_rfl⟩) ?_ ?_
 ·exact znP N m0 h3
 ·intro s k hk r
  have hk':k≤top:=Nat.le_of_lt_succ hk;obtain ⟨hk1,hk2⟩:=hs k hk';have er:R29 m cs (k+1) 3 (3*k+3) (zlK top m k (zbK top m cs k) (cs.take 3))=R29 m cs (k+1) 3 (3*(k+1)) (zbK top m cs (k+1)):=by
   rw [List.take_of_length_le (eL h3)];rfl
  have n36:3*k+3≤40:=by exact lz2 0x280428c78c10000611808470000eb1800c2 ht hk
  generalize zbK top m cs k=i0 at*;obtain ⟨i,q,tb,tl,pg,po,ln',ld⟩:=s;obtain ⟨e1,ok,e2,e3,e4,e5,e6,e7,e8,X⟩:=r
  dsimp only at e1 e2 e3 e4 e5 e6 e7 e8
  subst e1 e2 e3 e4 e5 e6 e7 e8;have tok:=zrC (P:=P.up) B ok N.len (lT (rA _ 3) n36) hk1;have eok:=ok.L _ (zgT hk1);have get:=zrK (P:=P.up.up) B N ok (lE (lT (rA _ 3) n36) (by decide)) (zgT hk1);unfold zlK zus at er;refine (let ww:Wt:=_;(?_:Sm _ ww));refine .callD tok [11,12,13,14,15,16,17,10,18] ?_;generalize zef m i (zfP m i k).t=c0 at*;generalize zfP m i k=e at*;have c9:1+c0≤9:=by exact lz1 0x291a1000068180041 hk2
  have d1:=zfb (1+c0) c9;have d0:=zfb c0 (lT hk2 (by decide));have up:=N.up e.t (lT eok.t (by decide));refine .callP (zjO (P:=P.up.up) B e.w (m++rep e.t) (lE eok.len (by have:=eok.t;exact lz1 0x27100c284688184000006b180081 this)) (fun x hx=>(eok.ok x hx).1) eok.pr) (.st .o (bt (b:=sizeL) up.1.1) (.callD get [20,19,21] (.callP (zdB (P:=P.up) B (dcE c0) c0 (show 1≤640 by decide) d0.1 d0.2.1 d0.2.2.1) ?_)));refine (let ww:Wt:=_;(?_:Sm _ ww));refine .ok (.loopS B4 27 3 (zpE T p ln top k e.w (m++rep e.t) (1+c0)) (fun s j=>R29 m cs (k+1) j (3*k+j) (((cs.take j)).foldl (zaG top m e.t (1+c0) e.w) i) s) ⟨i,(cs.drop 0++cs.take 0).map qA,(zal m (i.L m)).map pA,i.tl.map tlA,pgT m i.R,zaB m i.R (k+1),zd1 m i.R (k+1),(i.R.length+1:Nat)⟩ (.msk 9 (zkl top (i.R.length+1:Nat) [("word", .str e.w),("count", .int (1+c0:Nat)),("name", .str (m++rep e.t))])) ?_ rfl (fun X X X=>⟨by kernel_rfl,by kernel_rfl⟩) ?_ ?_)
  ·exact ⟨rfl,ok,rfl,rfl,rfl,rfl,rfl,rfl,rfl,hk1⟩
  ·intro s j hj r
   obtain ⟨x,ex⟩:∃x,cs[j]? = some x:=⟨_,gG (h3.symm▸hj)⟩;have hx:=hc x (mG ex);have ei:(cs.take (j+1)).foldl (zaG top m e.t (1+c0) e.w) i=zaG top m e.t (1+c0) e.w ((cs.take j).foldl (zaG top m e.t (1+c0) e.w) i) x:=by
    rw [List.take_succ,ex,List.foldl_append];rfl
   have fin:∀s',R29 m cs (k+1) (j+1) (3*k+(j+1)) (zaG top m e.t (1+c0) e.w ((cs.take j).foldl (zaG top m e.t (1+c0) e.w) i) x) s'→R29 m cs (k+1) (j+1) (3*k+(j+1)) ((cs.take (j+1)).foldl (zaG top m e.t (1+c0) e.w) i) s':=fun s' r=>ei▸r;clear ei;have n40:3*k+j≤40:=by exact lz2 0x280421c68c10000638470000680428c68c1000042 n36 hj
   have q1:(cs.drop j++cs.take j).map qA = .str x.2 :: ((cs.drop (j+1)++cs.take j).map qA):=by
    rw [List.drop_eq_getElem_cons (gE ex).1,(gE ex).2];rfl
   have q2:((cs.drop (j+1)++cs.take j).map qA) ++ [.str x.2]=(cs.drop (j+1)++cs.take (j+1)).map qA:=by
    rw [List.take_succ,ex,←aA,mA (l₂:=(some x).toList)];rfl
   have ql:((cs.drop (j+1)++cs.take j).map qA).length<1000:=by
    rw [lM,lA,List.length_drop,List.length_take];omega
   generalize (cs.drop (j+1)++cs.take j).map qA=ws at*;generalize (cs.take j).foldl (zaG top m e.t (1+c0) e.w) i=i1 at*;obtain ⟨i2,q,tb,tl,pg,po,ln',ld⟩:=s;obtain ⟨e1,ok1,e2,e3,e4,e5,e6,e7,e8,e9⟩:=r
   dsimp only at e1 e2 e3 e4 e5 e6 e7 e8
   rw [q1] at e2;subst e1 e2 e3 e4 e5 e6 e7 e8;refine .callD (zdA (P:=P.up.up.up) B T p ln x.2 ws ql) [0,1,2,3,4,5,6,7,8] ?_;refine .callD (znn (P:=P.up.up.up) B T p ln ws x.2 (Nat.lt_trans ql (by decide))) [0,1,2,3,4,5,6,7,8] ?_;refine (let ww:Wt:=_;(?_:Sm _ ww));refine .callP (zjO (P:=P.up.up) B x.2 (rep x.1) (by have:=hx.len;have:=hx.v;omega) (fun z hz=>(hx.ok z hz).1) hx.pr) ?_;have et:=eok.t;have xv:=hx.v;have em:(m++rep e.t)++rep x.1=m++rep (e.t+x.1):=by rw [aA,zft]
   have up2:=N.up (e.t+x.1) (by exact lz2 0x331c60000681c006b180042 et xv);have ml:(m++rep (e.t+x.1)).length=1+(e.t+x.1):=by rw [lA,N.len];unfold rep;rw [List.length_replicate]
   have nml:=zmK N (t:=e.t+x.1) (1+c0) (by exact lz2 0x331c60000681c006b180042 et xv);have nmo:=zqH N (t:=e.t+x.1) (1+c0) (by exact lz2 0x331c60000681c006b180042 et xv);have nmc:=zqI N (t:=e.t+x.1) (1+c0) (by exact lz2 0x331c60000681c006b180042 et xv);unfold nmE at nml nmo nmc;rw [←em] at up2 ml nml nmo nmc;have l1:(m++rep e.t).length+(rep x.1).length≤sizeL:=by
    rw [←lA,ml];exact lT (show 1+(e.t+x.1)≤20 by exact lz2 0x341c60210000681c006b180042 et xv) (by decide)
   refine .st .o (bt (b:=sizeL) l1) (.md (1+c0) 2 ?_);have hp1:=zi5 N ok1 (lE n40 (by decide));have kl:((zal m (i2.L m)).map kS').length=i2.R.length+1:=by rw [lM];unfold zal;rw [lM];rfl
   have r40':=ok1.rl;have tl70:(zal m (i2.L m)).length<70000:=by rw [lM] at kl;rw [kl];exact lz3 0x111700c28612000000471a30402000680421c68c1000042 n40 r40'
   have r40:i2.R.length≤40:=lT ok1.rl n40;have tll:(i2.tl.map tlA).length+1≤sizeL:=by
    rw [lM];exact lT (uL (lT ok1.tn (uL n40))) (by decide)
   have kd:za7 ((zal m (i2.L m)).map kS') (some ((i2.R.length+1:Nat):Int)) none none = []:=by
    rw [zam];exact List.drop_of_length_le (eL kl)
   have sl:((zal m (i2.L m)).map kS').length≤sizeL:=by rw [kl];exact lT (uL r40) (by decide)
   have ll:(m++rep e.t++rep x.1).length≤sizeL:=by rw [ml];exact lT (show 1+(e.t+x.1)≤20 by exact lz2 0x341c60210000681c006b180042 et xv) (by decide)
   have q6:Nat.ble (e.t+x.1) top=decide ((((m++rep e.t++rep x.1).length:Nat):Int)≤1+(top:Int)):=by
    rw [ml];by_cases z:e.t+x.1≤top
    ·rw [Nat.ble_eq_true_of_le z];exact (dT (by exact lz3 0x81610071808401410481c6000041 z)).symm
    ·rw [show Nat.ble (e.t+x.1) top=false from Bool.eq_false_iff.mpr fun y=>z (jL y)];exact (dF (by exact fun zz=>lzn (lz3 0x208400061610081c08401410481c0846000042 (Nat.lt_of_not_le z) zz))).symm
   have sl2:∀{a:AV},((zal m (i2.L m)).map kS' ++ [a]).length≤sizeL:=fun {a}=>by rw [lA,kl];exact lT (uL (uL r40)) (by decide)
   have wl:e.w.length+x.2.length≤sizeL:=lT (show e.w.length+x.2.length≤100 by have:=eok.len;have:=hx.len;omega) (by decide);have wht:nth [32,10,9,13] (((m++rep e.t++rep x.1).length%4:Nat):Int)=some (whP ((m++rep e.t++rep x.1).length%4)):=znz _;have pl:(pgT m i2.R).length+(wr ((m++rep e.t++rep x.1).length%3:Nat) (e.w++x.2) [whP ((m++rep e.t++rep x.1).length%4)]).length≤sizeL:=by
    have h1:=zdQ ok1 N.len n40;have h2:=zfZ ((m++rep e.t++rep x.1).length%3:Nat) (e.w++x.2) [whP ((m++rep e.t++rep x.1).length%4)];have h3:=eok.len;have h4:=hx.len;have h5:(e.w++x.2).length=e.w.length+x.2.length:=lA;have h6: [whP ((m++rep e.t++rep x.1).length%4)].length=1:=rfl;exact lT (show _≤4000 by exact lz [_,_,_,_,_,_,_,_] 0x3e80208920000184b00134c00a0021e204d0021a206100c00288b2a2040009001bb80822000681c012b180108 et xv h1 h2 h3 h4 (lzq h5) (lzq h6)) (by decide)
   have tle:∀c,i2.tl.map tlA ++ [AV.tup [.int ((((m++rep e.t++rep x.1).length:Nat):Int)-1), .str (dcE c)]]=(i2.tl ++ [(e.t+x.1,c)]).map tlA:=fun c=>by
    rw [ml,mA,show (((1+(e.t+x.1):Nat):Int)-1)=((e.t+x.1:Nat):Int) by exact Int.le_antisymm (lz2 0x71801611c60210050c1040) (lz2 0x211c60210050c7180141040)];rfl
   have ok3:=zkC (x:=x) (c:=1+c0) ok1 ht c9 hx eok.pr eok.ok eok.ne eok.len;rcases fT (Nat.beq ((1+c0)%2) 0) with qe | qe
   ·rw [qe] at nml nmo nmc
    have off:nmE m (e.t+x.1) (1+c0)=(m++rep e.t++rep x.1):=by unfold nmE;rw [qe,←em];rfl
    have nm1:za8 (m++rep e.t++rep x.1)=m++rep (e.t+x.1):=nml.trans em;have nm2:okN (m++rep e.t++rep x.1):=nmo;have nm3:zaS (m++rep e.t++rep x.1):=nmc;have qz:(((((1+c0)%2:Nat):Int)) != 0)=false:=by rw [qB qe];rfl
    refine .st (.b false) qz (.st .o (bt (b:=sizeL) ll) ?_);unfold zaG at fin ok3;rcases fT (Nat.ble (e.t+x.1) top) with q5 | q5
    ·rw [q5] at fin ok3
     refine .st (.b true) (q6▸q5:decide ((((m++rep e.t++rep x.1).length:Nat):Int)≤1+(top:Int))=true) (.st .o (bt (b:=sizeL) ll) (.st (.s (dcE (1+c0))) d1.2.2.2.1 ?_));have fn:=ze6 N nm1 (L:=i2.L m) fun e he=>lT (ok1.L e he).t (by decide);induction q7:fdE (i2.L m) (e.t+x.1) with
     | some e'=>
      rw [q7] at fin fn ok3;refine .callD (zaK (P:=P.up) B (zal m (i2.L m)) (m++rep e.t++rep x.1) (dcE (1+c0)) (prE m e') nm2 hp1 fn) [20,19,21] (.st .o (an (bt (b:=sizeL) tll) (rfl:(false || true)=true)) ?_);refine .callD (zfj (P:=P.up.up.up) B (zal m (i2.L m)) hp1) [20,19,21] (.ok (.st .o (bt (b:=sizeL) sl) (.tt (.st .len (by rw [kd];rfl:Nat.beq (za7 ((zal m (i2.L m)).map kS') (some ((i2.R.length+1:Nat):Int)) none none).length [AV.str (m++rep e.t++rep x.1)].length=false) (.ff ?_)))));exact .next 27 (zpE T p ln top k e.w (m++rep e.t) (1+c0)) (fun s j=>R29 m cs (k+1) j (3*k+j) (((cs.take j)).foldl (zaG top m e.t (1+c0) e.w) i) s) j ⟨_,ws ++ [.str x.2],(zal m (i2.L m)).map pA,i2.tl.map tlA ++ [.tup [.int ((((m++rep e.t++rep x.1).length:Nat):Int)-1), .str (dcE e'.c)]],pgT m i2.R,zaB m i2.R (k+1),zd1 m i2.R (k+1),(i2.R.length+1:Nat)⟩ (.msk 9 (zkl top (i2.R.length+1:Nat) [("word", .str e.w),("count", .int (1+c0:Nat)),("name", .str (m++rep e.t))])) (fin _ ⟨rfl,ok3,q2,rfl,tle e'.c,rfl,rfl,rfl,rfl,e9⟩)
     | none=>
      rw [q7] at fin fn ok3;refine .callD (zar (P:=P.up) B (zal m (i2.L m)) (m++rep e.t++rep x.1) (dcE (1+c0)) nm2 d1.2.2.2.2 hp1 fn) [20,19,21] (.st .o (an (bt (b:=sizeL) tll) (rfl:(false || true)=true)) ?_);have ck:=zjQ (P:=P.up.up.up) B (zal m (i2.L m)) ((m++rep e.t++rep x.1),dcE (1+c0)) (ziL hp1 nm2.2.1 tl70);have kd2:za7 ((zal m (i2.L m)).map kS' ++ [.str (m++rep e.t++rep x.1)]) (some ((i2.R.length+1:Nat):Int)) none none = [(m++rep e.t++rep x.1)].map AV.str:=by
       rw [zam,←kl,List.drop_left];rfl
      have ch1:∀s∈ [(m++rep e.t++rep x.1)],zaS s:=fun s h=>sM h▸nm3;refine .callD ck [20,19,21] (.ok (.st .o (bt (b:=sizeL) (sl2 (a:= .str (m++rep e.t++rep x.1)))) (.tt (.st (.txt [(m++rep e.t++rep x.1)] [(m++rep e.t++rep x.1)]) (aO kd2 (aO rfl (aO ch1 ch1)):za7 ((zal m (i2.L m)).map kS' ++ [.str (m++rep e.t++rep x.1)]) (some ((i2.R.length+1:Nat):Int)) none none = [(m++rep e.t++rep x.1)].map AV.str∧ [AV.str (m++rep e.t++rep x.1)] = [(m++rep e.t++rep x.1)].map AV.str∧(∀s∈ [(m++rep e.t++rep x.1)],zaS s)∧∀s∈ [(m++rep e.t++rep x.1)],zaS s) (.st (.b true) (bS [(m++rep e.t++rep x.1)]) ?_)))));refine .rf (.a (.str (pgT m i2.R))) (some (AV.str (pgT m i2.R))) (.st .o (bt (b:=sizeL) wl) (.st .o (bt (b:=sizeL) ll) (.md (m++rep e.t++rep x.1).length 3 (.st .o (bt (b:=sizeL) ll) (.md (m++rep e.t++rep x.1).length 4 (.st (.n (whP ((m++rep e.t++rep x.1).length%4))) wht ?_))))));refine .callP (zbH (P:=P.up.up.up) B (e.w++x.2) [whP ((m++rep e.t++rep x.1).length%4)] ((m++rep e.t++rep x.1).length%3:Nat) (lT (eL lA) (by have:=eok.len;have:=hx.len;omega)) (show 1≤1000 by decide) (fun z=>eok.ne (List.append_eq_nil_iff.mp z).1)) (.st .o (bt (b:=sizeL) pl) (.ok ?_));have tbe:(zal m (i2.L m)).map pA ++ [pA ((m++rep e.t++rep x.1),dcE (1+c0))]=(zal m (i2.L m ++ [⟨e.t+x.1,1+c0,e.w++x.2⟩])).map pA:=by
       unfold zal;rw [mA,mA,List.map_singleton,List.map_singleton];unfold prE;rw [off]
      have pge:pgT m i2.R++wr ((m++rep e.t++rep x.1).length%3:Nat) (e.w++x.2) [whP ((m++rep e.t++rep x.1).length%4)]=pgT m (i2.R ++ [⟨e.t+x.1,1+c0,e.w++x.2⟩]):=by
       rw [zgh,ml];rfl
      have ppe:∀E,zca m (i2.R ++ [E]) (k+1)=zca m i2.R (k+1):=fun E=>zdk e9 [E];have poe:zaB m i2.R (k+1)=zaB m (i2.R ++ [⟨e.t+x.1,1+c0,e.w++x.2⟩]) (k+1):=congrArg List.length (ppe _).symm;have lne:zd1 m i2.R (k+1)=zd1 m (i2.R ++ [⟨e.t+x.1,1+c0,e.w++x.2⟩]) (k+1):=congrArg (fun l:List Nat=>1+l.count 10) (ppe _).symm;have rle:(i2.R ++ [(⟨e.t+x.1,1+c0,e.w++x.2⟩:Ent)]).length=i2.R.length+1:=lA;have lde:((i2.R.length+1:Nat):Int)+1=(((i2.R ++ [(⟨e.t+x.1,1+c0,e.w++x.2⟩:Ent)]).length+1:Nat):Int):=by rw [rle];rfl
      have gre:k+1≤(i2.R ++ [(⟨e.t+x.1,1+c0,e.w++x.2⟩:Ent)]).length+1:=by rw [rle];exact Nat.le_succ_of_le e9
      exact .next 27 (zpE T p ln top k e.w (m++rep e.t) (1+c0)) (fun s j=>R29 m cs (k+1) j (3*k+j) (((cs.take j)).foldl (zaG top m e.t (1+c0) e.w) i) s) j ⟨_,ws ++ [.str x.2],(zal m (i2.L m)).map pA ++ [pA ((m++rep e.t++rep x.1),dcE (1+c0))],i2.tl.map tlA ++ [.tup [.int ((((m++rep e.t++rep x.1).length:Nat):Int)-1), .str (dcE (1+c0))]],pgT m i2.R++wr ((m++rep e.t++rep x.1).length%3:Nat) (e.w++x.2) [whP ((m++rep e.t++rep x.1).length%4)],zaB m i2.R (k+1),zd1 m i2.R (k+1),((i2.R.length+1:Nat):Int)+1⟩ (.msk 9 (zkl top (((i2.R.length+1:Nat):Int)+1) [("word", .str e.w),("count", .int (1+c0:Nat)),("name", .str (m++rep e.t))])) (fin _ ⟨rfl,ok3,q2,tbe,tle (1+c0),pge,poe,lne,lde,gre⟩)
    ·rw [q5] at fin ok3
     refine .st (.b false) (q6▸q5:decide ((((m++rep e.t++rep x.1).length:Nat):Int)≤1+(top:Int))=false) (.callD (zfj (P:=P.up.up.up) B (zal m (i2.L m)) hp1) [20,19,21] (.ok (.st .o (bt (b:=sizeL) sl) (.tt (.st .len (by rw [kd];rfl:Nat.beq (za7 ((zal m (i2.L m)).map kS') (some ((i2.R.length+1:Nat):Int)) none none).length [AV.str (m++rep e.t++rep x.1)].length=false) (.ff ?_))))));exact .next 27 (zpE T p ln top k e.w (m++rep e.t) (1+c0)) (fun s j=>R29 m cs (k+1) j (3*k+j) (((cs.take j)).foldl (zaG top m e.t (1+c0) e.w) i) s) j ⟨i2,ws ++ [.str x.2],(zal m (i2.L m)).map pA,i2.tl.map tlA,pgT m i2.R,zaB m i2.R (k+1),zd1 m i2.R (k+1),(i2.R.length+1:Nat)⟩ (.msk 9 (zkl top (i2.R.length+1:Nat) [("word", .str e.w),("count", .int (1+c0:Nat)),("name", .str (m++rep e.t))])) (fin _ ⟨rfl,ok3,q2,rfl,rfl,rfl,rfl,rfl,rfl,e9⟩)
   ·rw [qe] at nml nmo nmc
    have off:nmE m (e.t+x.1) (1+c0)=(za6 (m++rep e.t++rep x.1)):=by unfold nmE;rw [qe,←em];rfl
    have nm1:za8 (za6 (m++rep e.t++rep x.1))=m++rep (e.t+x.1):=nml.trans em;have nm2:okN (za6 (m++rep e.t++rep x.1)):=nmo;have nm3:zaS (za6 (m++rep e.t++rep x.1)):=nmc;have qz:(((((1+c0)%2:Nat):Int)) != 0)=true:=bne_iff_ne.mpr fun z=>by rw [Int.ofNat_eq_zero.mp z,Nat.beq_refl] at qe;cases qe
    refine .st (.b true) qz (.st .o (bt (b:=sizeL) up2.1.1) (.st .o (bt (b:=sizeL) ll) ?_));unfold zaG at fin ok3;rcases fT (Nat.ble (e.t+x.1) top) with q5 | q5
    ·rw [q5] at fin ok3
     refine .st (.b true) (q6▸q5:decide ((((m++rep e.t++rep x.1).length:Nat):Int)≤1+(top:Int))=true) (.st .o (bt (b:=sizeL) ll) (.st (.s (dcE (1+c0))) d1.2.2.2.1 ?_));have fn:=ze6 N nm1 (L:=i2.L m) fun e he=>lT (ok1.L e he).t (by decide);induction q7:fdE (i2.L m) (e.t+x.1) with
     | some e'=>
      rw [q7] at fin fn ok3;refine .callD (zaK (P:=P.up) B (zal m (i2.L m)) (za6 (m++rep e.t++rep x.1)) (dcE (1+c0)) (prE m e') nm2 hp1 fn) [20,19,21] (.st .o (an (bt (b:=sizeL) tll) (rfl:(false || true)=true)) ?_);refine .callD (zfj (P:=P.up.up.up) B (zal m (i2.L m)) hp1) [20,19,21] (.ok (.st .o (bt (b:=sizeL) sl) (.tt (.st .len (by rw [kd];rfl:Nat.beq (za7 ((zal m (i2.L m)).map kS') (some ((i2.R.length+1:Nat):Int)) none none).length [AV.str (za6 (m++rep e.t++rep x.1))].length=false) (.ff ?_)))));exact .next 27 (zpE T p ln top k e.w (m++rep e.t) (1+c0)) (fun s j=>R29 m cs (k+1) j (3*k+j) (((cs.take j)).foldl (zaG top m e.t (1+c0) e.w) i) s) j ⟨_,ws ++ [.str x.2],(zal m (i2.L m)).map pA,i2.tl.map tlA ++ [.tup [.int ((((m++rep e.t++rep x.1).length:Nat):Int)-1), .str (dcE e'.c)]],pgT m i2.R,zaB m i2.R (k+1),zd1 m i2.R (k+1),(i2.R.length+1:Nat)⟩ (.msk 9 (zkl top (i2.R.length+1:Nat) [("word", .str e.w),("count", .int (1+c0:Nat)),("name", .str (m++rep e.t))])) (fin _ ⟨rfl,ok3,q2,rfl,tle e'.c,rfl,rfl,rfl,rfl,e9⟩)
     | none=>
      rw [q7] at fin fn ok3;refine .callD (zar (P:=P.up) B (zal m (i2.L m)) (za6 (m++rep e.t++rep x.1)) (dcE (1+c0)) nm2 d1.2.2.2.2 hp1 fn) [20,19,21] (.st .o (an (bt (b:=sizeL) tll) (rfl:(false || true)=true)) ?_);have ck:=zjQ (P:=P.up.up.up) B (zal m (i2.L m)) ((za6 (m++rep e.t++rep x.1)),dcE (1+c0)) (ziL hp1 nm2.2.1 tl70);have kd2:za7 ((zal m (i2.L m)).map kS' ++ [.str (za6 (m++rep e.t++rep x.1))]) (some ((i2.R.length+1:Nat):Int)) none none = [(za6 (m++rep e.t++rep x.1))].map AV.str:=by
       rw [zam,←kl,List.drop_left];rfl
      have ch1:∀s∈ [(za6 (m++rep e.t++rep x.1))],zaS s:=fun s h=>sM h▸nm3;refine .callD ck [20,19,21] (.ok (.st .o (bt (b:=sizeL) (sl2 (a:= .str (za6 (m++rep e.t++rep x.1))))) (.tt (.st (.txt [(za6 (m++rep e.t++rep x.1))] [(za6 (m++rep e.t++rep x.1))]) (aO kd2 (aO rfl (aO ch1 ch1)):za7 ((zal m (i2.L m)).map kS' ++ [.str (za6 (m++rep e.t++rep x.1))]) (some ((i2.R.length+1:Nat):Int)) none none = [(za6 (m++rep e.t++rep x.1))].map AV.str∧ [AV.str (za6 (m++rep e.t++rep x.1))] = [(za6 (m++rep e.t++rep x.1))].map AV.str∧(∀s∈ [(za6 (m++rep e.t++rep x.1))],zaS s)∧∀s∈ [(za6 (m++rep e.t++rep x.1))],zaS s) (.st (.b true) (bS [(za6 (m++rep e.t++rep x.1))]) ?_)))));refine .rf (.a (.str (pgT m i2.R))) (some (AV.str (pgT m i2.R))) (.st .o (bt (b:=sizeL) wl) (.st .o (bt (b:=sizeL) ll) (.md (m++rep e.t++rep x.1).length 3 (.st .o (bt (b:=sizeL) ll) (.md (m++rep e.t++rep x.1).length 4 (.st (.n (whP ((m++rep e.t++rep x.1).length%4))) wht ?_))))));refine .callP (zbH (P:=P.up.up.up) B (e.w++x.2) [whP ((m++rep e.t++rep x.1).length%4)] ((m++rep e.t++rep x.1).length%3:Nat) (lT (eL lA) (by have:=eok.len;have:=hx.len;omega)) (show 1≤1000 by decide) (fun z=>eok.ne (List.append_eq_nil_iff.mp z).1)) (.st .o (bt (b:=sizeL) pl) (.ok ?_));have tbe:(zal m (i2.L m)).map pA ++ [pA ((za6 (m++rep e.t++rep x.1)),dcE (1+c0))]=(zal m (i2.L m ++ [⟨e.t+x.1,1+c0,e.w++x.2⟩])).map pA:=by
       unfold zal;rw [mA,mA,List.map_singleton,List.map_singleton];unfold prE;rw [off]
      have pge:pgT m i2.R++wr ((m++rep e.t++rep x.1).length%3:Nat) (e.w++x.2) [whP ((m++rep e.t++rep x.1).length%4)]=pgT m (i2.R ++ [⟨e.t+x.1,1+c0,e.w++x.2⟩]):=by
       rw [zgh,ml];rfl
      have ppe:∀E,zca m (i2.R ++ [E]) (k+1)=zca m i2.R (k+1):=fun E=>zdk e9 [E];have poe:zaB m i2.R (k+1)=zaB m (i2.R ++ [⟨e.t+x.1,1+c0,e.w++x.2⟩]) (k+1):=congrArg List.length (ppe _).symm;have lne:zd1 m i2.R (k+1)=zd1 m (i2.R ++ [⟨e.t+x.1,1+c0,e.w++x.2⟩]) (k+1):=congrArg (fun l:List Nat=>1+l.count 10) (ppe _).symm;have rle:(i2.R ++ [(⟨e.t+x.1,1+c0,e.w++x.2⟩:Ent)]).length=i2.R.length+1:=lA;have lde:((i2.R.length+1:Nat):Int)+1=(((i2.R ++ [(⟨e.t+x.1,1+c0,e.w++x.2⟩:Ent)]).length+1:Nat):Int):=by rw [rle];rfl
      have gre:k+1≤(i2.R ++ [(⟨e.t+x.1,1+c0,e.w++x.2⟩:Ent)]).length+1:=by rw [rle];exact Nat.le_succ_of_le e9
      exact .next 27 (zpE T p ln top k e.w (m++rep e.t) (1+c0)) (fun s j=>R29 m cs (k+1) j (3*k+j) (((cs.take j)).foldl (zaG top m e.t (1+c0) e.w) i) s) j ⟨_,ws ++ [.str x.2],(zal m (i2.L m)).map pA ++ [pA ((za6 (m++rep e.t++rep x.1)),dcE (1+c0))],i2.tl.map tlA ++ [.tup [.int ((((m++rep e.t++rep x.1).length:Nat):Int)-1), .str (dcE (1+c0))]],pgT m i2.R++wr ((m++rep e.t++rep x.1).length%3:Nat) (e.w++x.2) [whP ((m++rep e.t++rep x.1).length%4)],zaB m i2.R (k+1),zd1 m i2.R (k+1),((i2.R.length+1:Nat):Int)+1⟩ (.msk 9 (zkl top (((i2.R.length+1:Nat):Int)+1) [("word", .str e.w),("count", .int (1+c0:Nat)),("name", .str (m++rep e.t))])) (fin _ ⟨rfl,ok3,q2,tbe,tle (1+c0),pge,poe,lne,lde,gre⟩)
    ·rw [q5] at fin ok3
     refine .st (.b false) (q6▸q5:decide ((((m++rep e.t++rep x.1).length:Nat):Int)≤1+(top:Int))=false) (.callD (zfj (P:=P.up.up.up) B (zal m (i2.L m)) hp1) [20,19,21] (.ok (.st .o (bt (b:=sizeL) sl) (.tt (.st .len (by rw [kd];rfl:Nat.beq (za7 ((zal m (i2.L m)).map kS') (some ((i2.R.length+1:Nat):Int)) none none).length [AV.str (za6 (m++rep e.t++rep x.1))].length=false) (.ff ?_))))));exact .next 27 (zpE T p ln top k e.w (m++rep e.t) (1+c0)) (fun s j=>R29 m cs (k+1) j (3*k+j) (((cs.take j)).foldl (zaG top m e.t (1+c0) e.w) i) s) j ⟨i2,ws ++ [.str x.2],(zal m (i2.L m)).map pA,i2.tl.map tlA,pgT m i2.R,zaB m i2.R (k+1),zd1 m i2.R (k+1),(i2.R.length+1:Nat)⟩ (.msk 9 (zkl top (i2.R.length+1:Nat) [("word", .str e.w),("count", .int (1+c0:Nat)),("name", .str (m++rep e.t))])) (fin _ ⟨rfl,ok3,q2,rfl,rfl,rfl,rfl,rfl,rfl,e9⟩)
  ·intro s r
   have r:=(er▸r:R29 m cs (k+1) 3 (3*(k+1)) (zbK top m cs (k+1)) s);exact .next 25 (zuK T p ln top) (fun s k=>R29 m cs k 0 (3*k) (zbK top m cs k) s) k s (.msk 9 (zkl top s.ld [])) ⟨r.ei,r.ok,by rw [r.q,List.drop_of_length_le (eL h3),List.take_of_length_le (eL h3)];exact congrArg (List.map qA) (aL cs).symm,r.tb,r.tl,r.pg,r.po,r.ln,r.ld,r.gr⟩
 ·intro s r
  have tok:=zrE (P:=P.up) B r.ok N.len (show 3*(top+1)≤40 by exact lz1 0x2804284602304006b1800c1 ht);rw [hn] at tok;have hl:=zdQ r.ok N.len (show 3*(top+1)≤40 by exact lz1 0x2804284602304006b1800c1 ht);have pa:=zeJ m (zbK top m cs (top+1)).R;rw [hn] at pa;have qe:(cs.drop 0++cs.take 0).map qA=cs.map qA:=congrArg (List.map qA) (aL cs);have po:zaB m (zbK top m cs (top+1)).R (top+1)=(pgT m (zbK top m cs (top+1)).R).length:=congrArg List.length pa.1;have lo:zd1 m (zbK top m cs (top+1)).R (top+1)=1+(pgT m (zbK top m cs (top+1)).R).count 10:=congrArg (fun l:List Nat=>1+l.count 10) pa.1;have okn:=r.ok;generalize zbK top m cs (top+1)=i0 at*;obtain ⟨i,q,tb,tl,pg,po',ln',ld⟩:=s;obtain ⟨e1,ok,e2,e3,e4,e5,e6,e7,e8,X⟩:=r
  dsimp only at e1 e2 e3 e4 e5 e6 e7 e8
  rw [qe] at e2;subst e1 e2 e3 e4 e5 e6 e7 e8;have ip:(AV.int (zaB m i.R (top+1):Nat)) = .int (zaB m i.R (top+1):Nat):=rfl;have c1:(!(((zaB m i.R (top+1):Nat):Int)==((pgT m i.R).length:Nat)))=false:=by rw [po,bS];rfl
  have c2:(!(((zd1 m i.R (top+1):Nat):Int)==1+zdy (pgT m i.R) [10]))=false:=by rw [lo,zfc,Int.natCast_add,show ((1:Nat):Int)=1 from rfl,bS];rfl
  refine .callD tok [11,12,13,14,15,16,17,10,18] (.ff ?_);refine .rf (.a (.int (zaB m i.R (top+1):Nat))) (some (AV.int (zaB m i.R (top+1):Nat))) (.rf (.a (.str (pgT m i.R))) (some (AV.str (pgT m i.R))) (.st .o (bt (b:=sizeL) (lT hl (by decide))) (.st (.b false) c1 ?_)));refine .rf (.a (.str (pgT m i.R))) (some (AV.str (pgT m i.R))) (.st (.b false) c2 (.ff ?_));refine .callD (zjR (P:=P.up.up.up) B ((zal m (i.L m)).map pA) (by rw [lM];unfold zal;rw [lM];have:=okn.rl;show i.R.length+1≤sizeL;exact lT (show i.R.length+1≤100 by exact lz2 0x640828470000461c006b180042 ht (lzq hn)) (by decide))) [20,19,21] ?_;exact .ff (.asIs (.endD 9 (.ref 9) (zaH T p ln (cs.map qA) ++ [.list true [.ref 10, .ref 11], .list false ((zal m (i.L m)).map pA), .list false (i.tl.map tlA)]) [0,1,2,3,4,5,6,7,8,26,25,22]))
end Mn
end
section
open PySem PySem.W
set_option synthInstance.maxHeartbeats 400000
set_option synthInstance.maxSize 4000
namespace Mn
noncomputable def pcs(b:Bool)(m:Nat):List (List Nat):=[[115],[83],[383],bif b then [223] else [115],[119826+52*m]]
noncomputable def cst(p:List Nat):Nat:=bif p == [223] then 2 else 1
theorem zqA:∀m,m<13→(∀p∈pcs true m,(p.flatMap zd7=rep (cst p)∧p.length≤1)∧∀z∈p,okC z)∧∀p∈pcs false m,(p.flatMap zd7=rep (cst p)∧p.length≤1∧cst p=1)∧∀z∈p,okC z:=by unfold okC okP;decide +kernel
theorem zqB(b:Bool)(m:Nat)(hm:m<13):∀p∈pcs b m,(p.flatMap zd7=rep (cst p)∧p.length≤1∧(b=false→cst p=1))∧∀z∈p,okC z:=by
 have h:=zqA m hm;induction b with
 | true=>exact fun p hp=>⟨⟨(h.1 p hp).1.1,(h.1 p hp).1.2,nofun⟩,(h.1 p hp).2⟩
 | false=>exact fun p hp=>⟨⟨(h.2 p hp).1.1,(h.2 p hp).1.2.1,fun X=>(h.2 p hp).1.2.2⟩,(h.2 p hp).2⟩
theorem zoT:∀h∈unL,zd7 h = []∧okC h:=by unfold okC okP;decide +kernel
structure CoI(x:Nat)(i:Int×List Nat)(k r:Nat):Prop where
 l:i.1=r
 rx:r≤x
 le:r+k≤x∨r=0
 len:i.2.length≤2*(x-r)
 pr:i.2.flatMap zd7=rep (x-r)
 ok:∀z∈i.2,okC z
theorem zr3(c:Nat):zeo c∈unL:=by
 unfold zeo;have h:c/100000000%100%27<unL.length:=mT _ (by decide);rw [gD,gG h];exact List.getElem_mem h
theorem zow(c k:Nat):(zbR c k).flatMap zd7 = []∧∀z∈zbR c k,okC z:=by
 have:=zoT _ (zr3 c);unfold zbR;induction decide ((4:Int)<(zhG c k:Nat)) with
 | true=>exact ⟨by show zd7 (zeo c) ++ [] = [];rw [this.1];rfl,fun z hz=>by obtain rfl:=sM hz;exact this.2⟩
 | false=>exact ⟨rfl,fun z hz=>nomatch hz⟩
theorem zkX(c k:Nat)(l:Int):zag c k l∈pcs (decide (1<l)) (zbA c):=by
 have e:zcL c=119826+52*zbA c:=by unfold zcL;omega
 unfold zag;rw [e];have h:zhG c k%5<(pcs (decide (1<l)) (zbA c)).length:=mT _ (by decide);show (pcs (decide (1<l)) (zbA c)).getD (zhG c k%5) []∈_;rw [gD,gG h];exact List.getElem_mem h
theorem zjE(c x k:Nat)(i:Int×List Nat)(r:Nat)(h:CoI x i k r):∃r',CoI x (zfe c k i) (k+1) r':=by
 unfold zfe;by_cases q:0<i.1
 ·rw [dT q]
  have rl:=h.l;have pm:=zqB (decide (1<i.1)) (zbA c) (mT _ (by decide)) _ (zkX c k i.1);have mo:=zow c k;have ml:=zgr c k;have cs:zhN c k i.1=cst (zag c k i.1):=by
   unfold zhN cst;induction zag c k i.1 == [223] <;> rfl
  have cl:cst (zag c k i.1)≤r∧1≤cst (zag c k i.1):=by
   have h2:cst (zag c k i.1)≤2∧1≤cst (zag c k i.1):=by
    unfold cst;induction zag c k i.1 == [223] <;> decide
   refine ⟨?_,h2.2⟩;by_cases q1:1<i.1
   ·exact li [_,_] [_] 0x1870011a1840041887001185181043 (liq rl) h2.1 q1
   ·have:=pm.1.2.2 (dF q1)
    exact li [_,_] [_] 0x187001847001185181046860001043 q (liq rl) (lzq this)
  refine ⟨r-cst (zag c k i.1),?_,?_,?_,?_,?_,?_⟩
  ·show i.1-zhN c k i.1=_
   rw [cs];exact Int.le_antisymm (li [_,_,_] [_] 0x1c5205183041207006001185181042 (liq rl) (lzs _ _)) (li [_,_,_] [_] 0x2051831c50411881c0001186141042 (lir rl) (lzc (lz2 0x7180047180041 cl.1)))
  ·have:=h.rx;exact lz3 0x7200046200047180042 this (Nat.sub_le _ _)
  ·have:=h.le;omega
  ·show (i.2++zag c k i.1++zbR c k).length≤_
   rw [lA,lA];have h1:=h.len;have h2:=pm.1.2.1;have h3:=h.rx;exact lz [_,_,_,_,_,_,_,_,_] 0xd8811c624000004b20e00008e34030008c2ca00008a8812400488400a11c0061180047 pm.1.2.1 ml cl.2 h1 (lzc (lz2 0x7180047180041 h3)) (lzs _ _) (lzc (lz2 0x7180047180041 cl.1))
  ·show (i.2++zag c k i.1++zbR c k).flatMap zd7=_
   rw [List.flatMap_append,List.flatMap_append,h.pr,pm.1.1,mo.1,aL,zft];have h3:=h.rx;exact congrArg rep (by omega)
  ·intro z hz
   have hz:z∈i.2++zag c k i.1++zbR c k:=hz;rcases List.mem_append.mp hz with hz | hz
   ·rcases List.mem_append.mp hz with hz | hz
    ·exact h.ok z hz
    ·exact pm.2 z hz
   ·exact mo.2 z hz
 ·rw [dF q]
  have:=h.l;exact ⟨r,h.l,h.rx, .inr (by exact Nat.le_antisymm (li [_] [_] 0x806001186141060181042 (Int.not_lt.mp q) (lir this)) (lz1 109051968)),h.len,h.pr,h.ok⟩
theorem zec(c x:Nat):(zed c x).flatMap zd7=rep x∧(∀z∈zed c x,okC z)∧(zed c x).length≤2*x∧(0<x→zed c x≠[]):=by
 have h:∀k,∃r,CoI x (zcU c x k) k r:=fun k=>by
  induction k with
  | zero=>exact ⟨x,rfl,rL _, .inl (rL _),oL _,by rw [Nat.sub_self];rfl,fun z hz=>nomatch hz⟩
  | succ k ih=>exact ih.elim fun r h=>zjE c x k _ r h
 obtain ⟨r,h⟩:=h x;have r0:r=0:=by have:=h.le;omega
 subst r0;have pr:(zed c x).flatMap zd7=rep x:=h.pr;exact ⟨pr,h.ok,h.len,fun hx e=>by
  rw [e] at pr;have:=congrArg List.length pr;unfold rep at this;rw [List.length_replicate] at this;rw [←this] at hx;exact absurd hx (Nat.lt_irrefl _)⟩
end Mn
end
section
open PySem PySem.W
namespace Mn
variable {P:PM T3}
theorem lvB{T:Tabs}{P:PM T}(B:Tbl T P.c):∀j,Tbl T (P.lv j).c:=fun j=>P.lv_c j▸B
noncomputable def baL:List Nat:=[503031001,1001500000006,3000300000073,2072600000084,100]
def zfR(is:List Int)(k b:Nat):Nat:=(((b:Int)+(za7 is (some (k:Int)) none (some 5)).sum)%10000000000000000).toNat
def zlX(is:List Int)(j:Nat):AV:= .int (zfR is j (baL.getD j 0):Nat)
theorem zlW(is:List Int)(k b:Nat):((b:Int)+(za7 is (some (k:Int)) none (some 5)).sum).fmod 10000000000000000=(zfR is k b:Nat):=by
 rw [Int.fmod_eq_emod_of_nonneg _ (by decide)];exact (Int.toNat_of_nonneg (Int.emod_nonneg _ (by decide))).symm
theorem zpl(is:List Int)(k b:Nat):zfR is k b<10000000000000000:=by
 unfold zfR;have h1:=Int.emod_nonneg ((b:Int)+(za7 is (some (k:Int)) none (some 5)).sum) (by decide:(10000000000000000:Int)≠0);have h2:=Int.emod_lt_of_pos ((b:Int)+(za7 is (some (k:Int)) none (some 5)).sum) (by decide:(0:Int)<10000000000000000)
 omega
theorem zhp{α β:Type}(f:α→β)(xs:List α)(lo hi st:Option Int):za7 (xs.map f) lo hi st=(za7 xs lo hi st).map f:=by
 unfold za7;simp only [List.length_map];generalize PySem.sliceBounds lo hi st xs.length=z;simp [List.map_filterMap]
theorem zaD{α:Type}{z:List α}{f:α→AV}{t:Expr}{it:Nat}{v:AV}{q:Bool×List AV}(e:q.2=z.map f):Iter P t it (z.map f) (fun k h=>h.at_ it = .liter v k∧zaT h v=some q) (fun k h=>h.set it (.liter v (k+1))) fun h=>h.set it .other:=e▸zan
def zuG(vs:Array Value)(is:List Int)(acc:List AV)(k:Nat):Hp:= .of (.flist vs 0 is :: .frame [] :: .cell (some (.ref 0)) :: List.replicate 8 (.cell none) ++ [.list false (baL.map fun b=> .int (b:Nat)), .liter (.ref 11) k, .enumr 12 k, .list false acc, .frame []])
noncomputable def zad(c0:Nat):Nat:=2+c0%10%3
def za4(c0:Nat):Nat:=zad c0+1+c0/10%10%4
noncomputable def mkN(c0:Nat):List Nat:=[[34],[92],[32],[35]].getD (c0/100%10%4) []
noncomputable def zah(c0:Nat):Nat:=c0/1000%10%3
noncomputable def zhc(c0:Nat):Nat:=2+c0/10000%100%11
def zer(c0:Nat):Nat:=zhc c0+1+c0/1000000%100
noncomputable def zmE(c0:Nat):Nat:=c0/100000000%12000
def unN(c0:Nat):Nat:=2^(1+zmE c0/2)-zmE c0%2
theorem zo8(n:Nat):(2:Int)^(1+(n:Int)).toNat=(2^(1+n):Nat):=by
 rw [show (1:Int)+(n:Int)=((1+n:Nat):Int) from rfl,Int.toNat_natCast];push_cast;rfl
theorem zqz{n:Nat}(h:n≤12000):(decide (0≤1+(n:Int))&&decide (1+(n:Int)≤100000)&&decide ((2:Int).natAbs<2^64))=true:=an (an (dT (lz1 26767318323264)) (dT (by exact lz1 0x61a803086161001042ee00c2180041 h))) (by decide)
def unI(c0:Nat):Int:=((2^(1+zmE c0/2):Nat):Int)-(zmE c0%2:Nat)
def wtN(c0 k:Nat):Nat:=[1,zad c0,za4 c0].getD k 0
noncomputable def ceN(c1 c2 c3 k:Nat):Nat:=[c1,c2,c3].getD k 0
def coN(c0 c1 c2 c3 k:Nat):List Nat:=zed (ceN c1 c2 c3 k) (wtN c0 k)
theorem zcc(c0:Nat):2≤zad c0∧zad c0≤4∧zad c0<za4 c0∧za4 c0≤zad c0+4:=by
 unfold za4 zad;exact ⟨lz1 448832995392,⟨lz1 0x241a2000063846000041 (lzm _ _),⟨lz2 0x7846880000846880000040,lz2 0x241e20001a11e2000000064846000041 (lzm _ _)⟩⟩⟩
theorem zi0(c0 k:Nat):wtN c0 k≤8:=by
 have:=zcc c0;unfold wtN
 match k with
 | 0=>exact (by decide:1≤8)
 | 1=>show zad c0≤8;exact lz1 0x28180064180041 this.2.1
 | 2=>show za4 c0≤8;exact lz2 0x281c00641801c0064180042 this.2.1 this.2.2.2
 | k+3=>exact oL _
theorem zeA{α:Type}(x:List α)(b:Nat):za7 x none (some (b:Int)) none=x.take b:=by
 have:=zdg x 0 b;rw [List.drop_zero] at this;have e:x.take b=x.take (b-0):=rfl;rw [e,←this];unfold za7 sliceBounds;have h1:(1:Int)>0:=by decide
 have h2:=zoi 0;have h3:max 0 (min ((0:Nat):Int) (x.length:Int))=0:=(zfQ 0 x.length).trans (congrArg Nat.cast (Nat.zero_min _));simp only [Option.getD_none,if_pos h1,if_neg h2,h3]
noncomputable def csV(c0 c1 c2 c3 c4:Nat):List SV:=[.int c0, .int c1, .int c2, .int c3, .int c4]
theorem znh(c0 c1 c2 c3 c4:Nat){k:Nat}(hk:k<3):nth ((csV c0 c1 c2 c3 c4).map SV.av) (1+(k:Int))=some (.int (ceN c1 c2 c3 k:Nat)):=by
 match k,hk with
 | 0,_=>kernel_rfl
 | 1,_=>kernel_rfl
 | 2,_=>kernel_rfl
def zhU{α:Type}(f:Nat)(l:List α):List α:=za7 l (some (f:Int)) none none++za7 l none (some (f:Int)) none
theorem zij{α:Type}(f:Nat)(l:List α):zhU f l=l.drop f++l.take f:=by unfold zhU;rw [zam,zeA]
noncomputable def zaP(f:Nat):List Nat:=[0,1,2].drop f ++ [0,1,2].take f
theorem zdM{β:Type}(f:Nat)(g:Nat→β):zhU f [g 0,g 1,g 2]=(zaP f).map g:=by
 rw [zij];unfold zaP;rw [mA,List.map_drop,List.map_take];rfl
def f34(c0:Nat):List (Str×AV):=[("unit", .int (unI c0)),("wider", .int (zer c0:Nat)),("wide", .int (zhc c0:Nat)),("first", .int (zah c0:Nat))]
def b34(vs:Array Value)(is:List Int)(c0 c1 c2 c3 c4:Nat)(fr:List (Str×AV))(a b c d:Option AV):List AO:=[.flist vs 0 is, .frame (f34 c0++fr), .cell (some (.ref 0)), .cell (some (.lst (csV c0 c1 c2 c3 c4))), .cell (some (.int (zad c0:Nat))), .cell (some (.int (za4 c0:Nat))), .cell (some (.str (mkN c0))), .cell a, .cell b, .cell c, .cell d]
def wyJ(c1 c2 c3 k:Nat):Nat:=ceN c1 c2 c3 k/1000000000000%10%4
noncomputable def whJ(k:Nat):Nat:=[10,9,13].getD k 0
def txJ(c0 c1 c2 c3 k:Nat):List Nat:=wr (wyJ c1 c2 c3 k:Nat) (coN c0 c1 c2 c3 k) [whJ k]
def coL(c0 c1 c2 c3:Nat):List AV:=[.str (coN c0 c1 c2 c3 0), .str (coN c0 c1 c2 c3 1), .str (coN c0 c1 c2 c3 2)]
def ztQ(vs:Array Value)(is:List Int)(c0 c1 c2 c3 c4:Nat)(acc:List AV)(k:Nat):Hp:= .of (b34 vs is c0 c1 c2 c3 c4 [("words", .ref 23)] (some (.ref 19)) none none none++List.replicate 8 .other ++ [.list false (coL c0 c1 c2 c3), .other, .other, .other, .list false (zhU (zah c0) (coL c0 c1 c2 c3)), .range 0 3 1, .riter (0+(k:Int)*1) ((3:Nat)-(k:Int)) 1, .list false acc, .frame []])
def zuF(vs:Array Value)(is:List Int)(c0 c1 c2 c3 c4:Nat)(acc:List AV)(k:Nat):Hp:= .of (b34 vs is c0 c1 c2 c3 c4 [] none none none none ++ [.other, .other, .other, .other, .other, .other, .range 0 3 1, .riter (0+(k:Int)*1) ((3:Nat)-(k:Int)) 1, .list false acc, .frame []])
def fd34:FDat:=zaf pw3 34 none
def w34(P:PM T3)(vs:Array Value)(is:List Int):Wt:=dW P (fd34,[]) [.ref 0] [] [.flist vs 0 is] (.bool true) [.flist vs 0 is]
def fr34(vs:Array Value)(is:List Int):Fr:=zaF (Hp.of [.flist vs 0 is]) fd34.scope [] fd34.tab
noncomputable def K34(vs:Array Value)(is:List Int)(v:AV)(h:Hp):Wt:= .en v h (EndK 1 (DK (.bool true) [.flist vs 0 is]))
def r34(P:PM T3)(vs:Array Value)(is:List Int)(n:Nat)(h:Hp):Wt:=v P (fr34 vs is) 40 (.Ss (fd34.body.drop n) (zsW (K34 vs is))) h
def txL(c0 c1 c2 c3:Nat):List AV:=[.str (txJ c0 c1 c2 c3 0), .str (txJ c0 c1 c2 c3 1), .str (txJ c0 c1 c2 c3 2)]
def hA(vs:Array Value)(is:List Int)(c0 c1 c2 c3 c4:Nat):Hp:=(((ztQ vs is c0 c1 c2 c3 c4 (txL c0 c1 c2 c3) 3).set 25 .other).set 27 .other).set 1 (.frame (("written", .ref 26) :: (f34 c0 ++ [(("words" :Str),AV.ref 23)])))
theorem zrt(c0 c1 c2 c3:Nat){k:Nat}(hk:k<3):nth (coL c0 c1 c2 c3) (k:Int)=some (.str (coN c0 c1 c2 c3 k)):=by
 match k,hk with
 | 0,_=>kernel_rfl
 | 1,_=>kernel_rfl
 | 2,_=>kernel_rfl
theorem zpW{k:Nat}(hk:k<3):nth [10,9,13] (k:Int)=some (whJ k):=by
 match k,hk with
 | 0,_=>kernel_rfl
 | 1,_=>kernel_rfl
 | 2,_=>kernel_rfl
theorem zlU(c0 c1 c2 c3:Nat){k:Nat}(hk:k<3):(coN c0 c1 c2 c3 k).length≤16∧coN c0 c1 c2 c3 k≠[]:=by
 have h:=zec (ceN c1 c2 c3 k) (wtN c0 k);have:=zi0 c0 k;refine ⟨lT h.2.2.1 (lz1 0x301a2040068180081 this),h.2.2.2 ?_⟩;have:=zcc c0;unfold wtN
 match k,hk with
 | 0,_=>exact Nat.one_pos
 | 1,_=>show 0<zad c0;omega
 | 2,_=>show 0<za4 c0;omega
def Bds(c0 c1 c2 c3 c4:Nat):Prop:=c0<10000000000000000∧c1<10000000000000000∧c2<10000000000000000∧c3<10000000000000000∧c4<10000000000000000
theorem lawA(B:Tbl T3 P.c)(vs:Array Value)(is:List Int)(hl:is.length≤63)(HB:∀c0 c1 c2 c3 c4,Bds c0 c1 c2 c3 c4→Sm (P.lv 19) (r34 (P.lv 19) vs is 13 (hA vs is c0 c1 c2 c3 c4))):za3 (P.lv 19).up (.glob 409) [.ref 0] [] (Hp.of [.flist vs 0 is]) (DK (.bool true) [.flist vs 0 is]):=by
 refine zaW (P:=P.lv 19) (lvB B 19) (?_:Sm (P.lv 19) (w34 (P.lv 19) vs is));have BL:=lvB B;have B':=lvB B 19;refine (let ww:Wt:=_;(?_:Sm _ ww));refine .tt (.loop B' 16 (zj7 (q:=(false,baL.map fun b=>AV.int (b:Nat))) (v:= .ref 11) (j:=12) (ys:=baL.map fun b=>SV.int (b:Nat)) rfl) (zuG vs is) (fun acc k=>acc=(List.range k).map (zlX is)) [] (.msk 1 []) rfl (fun X X X=>⟨by kernel_rfl,by kernel_rfl,by kernel_rfl,by kernel_rfl⟩) ?_ ?_)
 ·intro acc k x ex rk
  obtain ⟨b,hb,rfl⟩:∃b:Nat,baL[k]? = some b∧x=zu6 k (.int (b:Nat)):=by
   rw [List.getElem?_mapIdx,gM] at ex;induction q:baL[k]? with
   | none=>rw [q] at ex;exact nomatch ex
   | some b=>rw [q] at ex;exact ⟨b,rfl,(sI ex).symm⟩
  have k8:k<5:=(gE hb).1;have eb:zlX is k = .int (zfR is k b:Nat):=by unfold zlX;rw [gD,hb];rfl
  refine (let ww:Wt:=_;(?_:Sm _ ww));refine .ok (.st .o (bt (b:=sizeL) (lT hl (by decide))) (.st (.li (za7 is (some (k:Int)) none (some 5))) (zhp AV.int is (some (k:Int)) none (some 5)) (.num 10000000000000000 (.st (.i (zfR is k b:Nat)) (aO (zlW is k b) (rfl:((10000000000000000:Int) != 0)=true)) (.asIs (.st .o (an (bt (by rw [rk,lM,lR];exact lT k8 (by decide)):Nat.ble acc.length.succ sizeL=true) (rfl:(false || true)=true)) (.next 16 (zuG vs is) (fun acc k=>acc=(List.range k).map (zlX is)) k (acc ++ [.int (zfR is k b:Nat)]) (.to 15 []) (by rw [rk,List.range_succ,mA,←eb];rfl))))))))
 intro acc rk;have cl:=zpl is;obtain ⟨c0,c1,c2,c3,c4,hc,rfl⟩:∃c0 c1 c2 c3 c4:Nat,Bds c0 c1 c2 c3 c4∧acc = [.int c0, .int c1, .int c2, .int c3, .int c4]:=⟨_,_,_,_,_,⟨cl _ _,cl _ _,cl _ _,cl _ _,cl _ _⟩,rk⟩;clear rk;refine (let ww:Wt:=_;(?_:Sm _ ww));refine .froz 14 [.int c0, .int c1, .int c2, .int c3, .int c4] ?_;refine .rf (.a (.int (c0:Nat))) (some (AV.int (c0:Nat))) (.md c0 10 (.md (c0%10) 3 ?_));refine .rf (.a (.int (c0:Nat))) (some (AV.int (c0:Nat))) (.dv c0 10 (.md (c0/10) 10 (.md (c0/10%10) 4 ?_)));refine .tt (.rf (.a (.int (c0:Nat))) (some (AV.int (c0:Nat))) (.dv c0 100 (.md (c0/100) 10 (.md (c0/100%10) 4 ?_))));refine .st (.a (.str (mkN c0))) (zt5 [[34], [92], [32], [35]] [] 4 (c0/100%10) AV.str:nth ([[34], [92], [32], [35]].map AV.str) ((c0/100%10%4:Nat):Int)=some (.str (mkN c0))) ?_;refine .rf (.a (.int (c0:Nat))) (some (AV.int (c0:Nat))) (.dv c0 1000 (.md (c0/1000) 10 (.md (c0/1000%10) 3 ?_)));refine .rf (.a (.int (c0:Nat))) (some (AV.int (c0:Nat))) (.num 10000 (.dv c0 10000 (.md (c0/10000) 100 (.md (c0/10000%100) 11 ?_))));refine .rf (.a (.int (c0:Nat))) (some (AV.int (c0:Nat))) (.num 1000000 (.dv c0 1000000 (.md (c0/1000000) 100 ?_)));refine .rf (.a (.int (c0:Nat))) (some (AV.int (c0:Nat))) (.num 100000000 (.dv c0 100000000 (.md (c0/100000000) 12000 ?_)));have pwl:c0/100000000%12000<12000:=mT _ (by decide);refine (let ww:Wt:=_;(?_:Sm _ ww))
 refine .dv (c0/100000000%12000) 2 (.st (.i (2^(1+c0/100000000%12000/2):Nat)) (aO (zo8 (c0/100000000%12000/2)) (zqz (lT (Nat.div_le_self _ 2) (lO pwl)))) (.md (c0/100000000%12000) 2 ?_));refine .ok (.loopN B' 21 3 (zuF vs is c0 c1 c2 c3 c4) (fun acc k=>acc=(List.range k).map fun j=>AV.str (coN c0 c1 c2 c3 j)) [] (.msk 1 (f34 c0)) rfl (fun X X X=>⟨by kernel_rfl,by kernel_rfl⟩) ?_ ?_)
 ·intro acc k hk r
  have g1:nth (([1,zad c0,za4 c0]:List Nat).map fun (x:Nat)=>AV.int x) (k:Int)=some (.int (wtN c0 k:Nat)):=zbr (by
   unfold wtN;rw [gM,gD,gG hk];rfl) rfl
  have g2:=znh c0 c1 c2 c3 c4 hk;refine (let ww:Wt:=_;(?_:Sm _ ww));refine .tt (.st (.a (.int (wtN c0 k:Nat))) g1 (.st (.a (.int (ceN c1 c2 c3 k:Nat))) g2 ?_));refine .callP (zrM (P:=P.lv 18) (BL 18) (wtN c0 k) (ceN c1 c2 c3 k) (zi0 c0 k)) ?_;exact .asIs (.st .o (an (bt (by rw [r,lM,lR];exact lT hk (by decide)):Nat.ble acc.length.succ sizeL=true) (rfl:(false || true)=true)) (.next 21 (zuF vs is c0 c1 c2 c3 c4) (fun acc k=>acc=(List.range k).map fun j=>AV.str (coN c0 c1 c2 c3 j)) k (acc ++ [.str (coN c0 c1 c2 c3 k)]) (.msk 20 []) (by rw [r,List.range_succ,mA];rfl)))
 intro acc r;obtain rfl:acc = [.str (coN c0 c1 c2 c3 0), .str (coN c0 c1 c2 c3 1), .str (coN c0 c1 c2 c3 2)]:=r;have f3:zah c0<3:=mT _ (by decide);have rl:∀{α:Type} (l:List α),(za7 l (some (zah c0:Int)) none none).length+(za7 l none (some (zah c0:Int)) none).length≤l.length+l.length:=fun l=>by
  rw [zam,zeA,List.length_drop,List.length_take];exact jD (Nat.sub_le _ _) (Nat.min_le_right _ _)
 have co:coN c0 c1 c2 c3=coN c0 c1 c2 c3:=rfl;refine (let ww:Wt:=_;(?_:Sm _ ww));refine .asIs (.ok (.ok (.ok (.ok (.st .o (bt (b:=sizeL) (lT (rl [AV.str (coN c0 c1 c2 c3 0), .str (coN c0 c1 c2 c3 1), .str (coN c0 c1 c2 c3 2)]) (lT (eL rfl:_≤6) (by decide)))) (.ok ?_))))));refine .loopN B' 28 3 (ztQ vs is c0 c1 c2 c3 c4) (fun acc k=>acc=(List.range k).map fun j=>AV.str (txJ c0 c1 c2 c3 j)) [] (.msk 1 (f34 c0 ++ [(("words" :Str),AV.ref 23)])) rfl (fun X X X=>⟨by kernel_rfl,by kernel_rfl⟩) ?_ ?_
 ·intro acc k hk r
  have g1:nth (coL c0 c1 c2 c3) (k:Int)=some (.str (coN c0 c1 c2 c3 k)):=zrt c0 c1 c2 c3 hk;have g2:=znh c0 c1 c2 c3 c4 hk;have g3:nth [10,9,13] (k:Int)=some (whJ k):=zpW hk;have co:=zlU c0 c1 c2 c3 hk;refine (let ww:Wt:=_;(?_:Sm _ ww));refine .st (.a (.str (coN c0 c1 c2 c3 k))) g1 (.st (.a (.int (ceN c1 c2 c3 k:Nat))) g2 (.num 1000000000000 (.dv (ceN c1 c2 c3 k) 1000000000000 (.md (ceN c1 c2 c3 k/1000000000000) 10 (.md (ceN c1 c2 c3 k/1000000000000%10) 4 (.st (.n (whJ k)) g3 ?_))))));refine .callP (zbH (P:=P.lv 18) (BL 18) (coN c0 c1 c2 c3 k) [whJ k] (wyJ c1 c2 c3 k:Nat) (lT co.1 (by decide)) (show 1≤1000 by decide) co.2) ?_;exact .asIs (.st .o (an (bt (by rw [r,lM,lR];exact lT hk (by decide)):Nat.ble acc.length.succ sizeL=true) (rfl:(false || true)=true)) (.next 28 (ztQ vs is c0 c1 c2 c3 c4) (fun acc k=>acc=(List.range k).map fun j=>AV.str (txJ c0 c1 c2 c3 j)) k (acc ++ [.str (txJ c0 c1 c2 c3 k)]) (.msk 27 []) (by rw [r,List.range_succ,mA];rfl)))
 intro acc r;obtain rfl:acc=txL c0 c1 c2 c3:=r;refine (let ww:Wt:=_;(?_:Sm _ ww));exact .asIs (.via (r34 (P.lv 19) vs is 13 (hA vs is c0 c1 c2 c3 c4)) (HB c0 c1 c2 c3 c4 hc))
def tT(c0 c1 c2 c3:Nat):List Nat:=zaM [] ((zaP (zah c0)).map (txJ c0 c1 c2 c3))
theorem zcw(f:Nat):∀j∈zaP f,j<3:=fun j h=>by
 have h':j∈ [0,1,2]:=(List.mem_append.mp h).elim List.mem_of_mem_drop List.mem_of_mem_take;simp only [List.mem_cons,List.not_mem_nil,or_false] at h'
 omega
theorem zbf(f:Nat)(hf:f<3):(zaP f).length=3:=by
 unfold zaP;rw [lA,List.length_drop,List.length_take];show 3-f+min f 3=3
 omega
theorem znE(c0 c1 c2 c3:Nat){k:Nat}(hk:k<3):(txJ c0 c1 c2 c3 k).length≤35:=by
 have:=zfZ (wyJ c1 c2 c3 k:Nat) (coN c0 c1 c2 c3 k) [whJ k];have h:=(zlU c0 c1 c2 c3 hk).1;show (wr _ _ _).length≤_;rw [List.length_singleton] at this;exact lz2 0x230421800701c00a2847881000180042 this h
theorem zqf{l:List Nat}{f:Nat→List Nat}{b:Nat}(h:∀j∈l,(f j).length≤b):((l.map f).map List.length).sum≤b*l.length:=by
 induction l with
 | nil=>exact oL _
 | cons j l ih=>
  rw [mC,mC,List.sum_cons,List.length_cons];have:=h j mS;have:=ih fun j m=>h j (mM _ m);rw [Nat.mul_succ]
  omega
theorem zet(c0 c1 c2 c3:Nat):(((zaP (zah c0)).map (txJ c0 c1 c2 c3)).map List.length).sum+((zaP (zah c0)).map (txJ c0 c1 c2 c3)).length*([]:List Nat).length≤sizeL∧(tT c0 c1 c2 c3).length+tailT.length≤sizeL∧(tT c0 c1 c2 c3).length≤105:=by
 have l3:=zbf (zah c0) (mT _ (by decide));have h:=zqf (l:=zaP (zah c0)) (f:=txJ c0 c1 c2 c3) (b:=35) fun j m=>znE c0 c1 c2 c3 (zcw _ j m);rw [l3] at h;have e:(tT c0 c1 c2 c3).length=(((zaP (zah c0)).map (txJ c0 c1 c2 c3)).map List.length).sum:=by
  unfold tT;rw [zaC,List.length_flatten]
 refine ⟨lT (Nat.add_le_add_right h _) (by rw [List.length_nil,Nat.mul_zero];decide),?_,e▸h⟩;rw [e];exact lT (Nat.add_le_add_right h _) (by decide)
def zkh(c0 c1 c2 c3 k:Nat):List Nat:=((zaP (zah c0)).take k).flatMap (txJ c0 c1 c2 c3)
def zhV(c0 c1 c2 c3 k:Nat):Nat:=(zkh c0 c1 c2 c3 k).length
def lnT(c0 c1 c2 c3 k:Nat):Nat:=1+(zkh c0 c1 c2 c3 k).count 10
def TT(c0 c1 c2 c3:Nat):List Nat:=tT c0 c1 c2 c3++tailT
theorem zlT(c0 c1 c2 c3:Nat){k:Nat}(hk:k<3):∀x∈coN c0 c1 c2 c3 k,okC x:=(zec (ceN c1 c2 c3 k) (wtN c0 k)).2.1
theorem zpY{k:Nat}(hk:k<3):whJ k∈wsL:=(by decide:∀k,k<3→whJ k∈wsL) k hk
theorem znI(c0 c1 c2 c3:Nat):tT c0 c1 c2 c3=(zaP (zah c0)).flatMap (txJ c0 c1 c2 c3):=by
 unfold tT;rw [zaC,List.flatMap_def]
theorem zrB(B:Tbl T3 P.c)(c0 c1 c2 c3:Nat){k j:Nat}(e:(zaP (zah c0))[k]? = some j):za3 P.up.up.up (.glob 267) [.ref 1] [] (Hp.of (zaH (TT c0 c1 c2 c3) (zhV c0 c1 c2 c3 k:Nat) (lnT c0 c1 c2 c3 k:Nat) [])) (DK (.str (coN c0 c1 c2 c3 j)) (zaH (TT c0 c1 c2 c3) (zhV c0 c1 c2 c3 (k+1):Nat) (lnT c0 c1 c2 c3 (k+1):Nat) [])):=by
 have j3:=zcw _ j (mG e);have hk:=(gE e).1;have hj:=(gE e).2;have nx:zkh c0 c1 c2 c3 (k+1)=zkh c0 c1 c2 c3 k++txJ c0 c1 c2 c3 j:=by
  unfold zkh;rw [List.take_succ,e,List.flatMap_append];simp
 have sp:TT c0 c1 c2 c3=zkh c0 c1 c2 c3 k++(txJ c0 c1 c2 c3 j++(((zaP (zah c0)).drop (k+1)).flatMap (txJ c0 c1 c2 c3)++tailT)):=by
  unfold TT zkh;rw [znI]
  conv=>lhs;rw [←List.take_append_drop k (zaP (zah c0)),List.drop_eq_getElem_cons hk,hj]
  rw [List.flatMap_append,List.flatMap_cons];simp only [List.append_assoc]
 generalize (((zaP (zah c0)).drop (k+1)).flatMap (txJ c0 c1 c2 c3)++tailT)=rest at sp;have dr:(TT c0 c1 c2 c3).drop (zhV c0 c1 c2 c3 k)=txJ c0 c1 c2 c3 j++rest:=by rw [sp];exact List.drop_left
 have lx:zfD (lnT c0 c1 c2 c3 k) (txJ c0 c1 c2 c3 j++rest)=(coN c0 c1 c2 c3 j,rest,lnN (whJ j) (lnT c0 c1 c2 c3 k)):=zmQ (mT _ (by decide)) (zlU c0 c1 c2 c3 j3).2 (fun x hx=>(zlT c0 c1 c2 c3 j3 x hx).2.1) (zpY j3) _ _;have tl:=(zet c0 c1 c2 c3).2.2;have C:=zej B (TT c0 c1 c2 c3) (by unfold TT;rw [lA];exact lT (Nat.add_le_add_right tl _) (by decide)) (zhV c0 c1 c2 c3 k) (lnT c0 c1 c2 c3 k) (by rw [sp,lA];exact rA _ _) _ (dr.symm▸lx);have p1:(TT c0 c1 c2 c3).length-rest.length=zhV c0 c1 c2 c3 (k+1):=by
  unfold zhV;rw [sp,nx,←aA,lA (bs:=rest),Nat.add_sub_cancel]
 have p2:lnN (whJ j) (lnT c0 c1 c2 c3 k)=lnT c0 c1 c2 c3 (k+1):=by
  unfold lnT;rw [nx,List.count_append,zmL,Nat.add_assoc];unfold txJ;rw [zg0 fun x hx=>(zlT c0 c1 c2 c3 j3 x hx).2.1.1]
 dsimp only at C
 rw [p1,p2] at C;exact C
def l40(c0 c1 c2 c3:Nat)(fr:List (Str×AV)):List (Str×AV):=("page", .ref 31) :: ("text", .str (tT c0 c1 c2 c3)) :: ("words", .ref 23) :: ("unit", .int (unI c0)) :: ("wider", .int (zer c0:Nat)) :: ("wide", .int (zhc c0:Nat)) :: fr
def c40(vs:Array Value)(is:List Int)(c0 c1 c2 c3 c4:Nat)(fr:List (Str×AV))(a b:Option AV)(p ln:Int)(pb:List AV):List AO:=[.flist vs 0 is, .frame (l40 c0 c1 c2 c3 fr), .other, .cell (some (.lst (csV c0 c1 c2 c3 c4))), .cell (some (.int (zad c0:Nat))), .cell (some (.int (za4 c0:Nat))), .cell (some (.str (mkN c0))), .other, .cell (some (.ref 33)), .cell a, .cell b]++List.replicate 12 .other ++ [.list false (zhU (zah c0) (coL c0 c1 c2 c3))]++List.replicate 7 .other++
 [.list false [.str (TT c0 c1 c2 c3), .int p], .dict true [(kLn, .int ln),(kIn, .ref 34),(kWs, .str wsL),(kPb, .ref 39)], .inst 277 32, .inst 277 35, .dict true [(kLn, .int 1),(kIn, .none),(kWs, .str wsL),(kPb, .ref 36),(kRd, .ref 37)], .list false [], .clo zdr [("page",38)], .cell (some (.ref 31)), .list false pb]
def zuE(vs:Array Value)(is:List Int)(c0 c1 c2 c3 c4:Nat)(acc:List AV)(k:Nat):Hp:= .of (c40 vs is c0 c1 c2 c3 c4 [] none none (zhV c0 c1 c2 c3 k:Nat) (lnT c0 c1 c2 c3 k:Nat) [] ++ [.liter (.ref 23) k, .list false acc, .frame []])
def ztR(vs:Array Value)(is:List Int)(c0 c1 c2 c3 c4:Nat)(acc:List AV)(k:Nat):Hp:= .of (c40 vs is c0 c1 c2 c3 c4 [] none none (zhV c0 c1 c2 c3 3:Nat) (lnT c0 c1 c2 c3 3:Nat) acc ++ [.other, .other, .other, .liter (.ref 23) k])
def pbL(c0 c1 c2 c3:Nat):List AV:=(zaP (zah c0)).map fun j=>AV.str (coN c0 c1 c2 c3 j)
def hB(vs:Array Value)(is:List Int)(c0 c1 c2 c3 c4:Nat):Hp:=(ztR vs is c0 c1 c2 c3 c4 (pbL c0 c1 c2 c3) 3).set 43 .other
theorem lawB(B:Tbl T3 P.c)(vs:Array Value)(is:List Int)(c0 c1 c2 c3 c4:Nat)(HC:Sm (P.lv 19) (r34 (P.lv 19) vs is 18 (hB vs is c0 c1 c2 c3 c4))):Sm (P.lv 19) (r34 (P.lv 19) vs is 13 (hA vs is c0 c1 c2 c3 c4)):=by
 have BL:=lvB B;have B':=lvB B 19;have f3:zah c0<3:=mT _ (by decide);have rl:(zhU (zah c0) (txL c0 c1 c2 c3)).length≤6:=by
  rw [zij,lA,List.length_drop,List.length_take];exact jD (Nat.sub_le _ _) (Nat.min_le_right _ _)
 refine (let ww:Wt:=_;(?_:Sm _ ww));refine .ok (.ok (.ok (.ok (.st .o (bt (b:=sizeL) (?_:(za7 (txL c0 c1 c2 c3) (some (zah c0:Int)) none none).length+(za7 (txL c0 c1 c2 c3) none (some (zah c0:Int)) none).length≤sizeL)) ?_))))
 ·rw [←lA];exact lT rl (by decide)
 have ej:=zdM (zah c0) fun j=>AV.str (txJ c0 c1 c2 c3 j);have el:zhU (zah c0) (txL c0 c1 c2 c3)=((zaP (zah c0)).map (txJ c0 c1 c2 c3)).map AV.str:=by rw [mN];exact ej
 have tl:=zet c0 c1 c2 c3;refine (let ww:Wt:=_;(?_:Sm _ ww));refine .st (.ls ((zaP (zah c0)).map (txJ c0 c1 c2 c3))) (el:za7 (txL c0 c1 c2 c3) (some (zah c0:Int)) none none++za7 (txL c0 c1 c2 c3) none (some (zah c0:Int)) none=((zaP (zah c0)).map (txJ c0 c1 c2 c3)).map AV.str) (.st .o (bt (b:=sizeL) tl.1) (.st .o (bt (b:=sizeL) tl.2.1) (.tt ?_)));refine .callD (zjP (P:=P.lv 16) (BL 16) (tT c0 c1 c2 c3++tailT)) [31] ?_;have ew:=zdM (zah c0) fun j=>AV.str (coN c0 c1 c2 c3 j);have l3:=zbf (zah c0) f3;refine (let ww:Wt:=_;(?_:Sm _ ww));refine .loopM B' 43 (zaD (q:=(false,zhU (zah c0) (coL c0 c1 c2 c3))) (v:= .ref 23) ew) (zuE vs is c0 c1 c2 c3 c4) (Mp1 (fun j=>AV.str (coN c0 c1 c2 c3 j)) (zaP (zah c0))) [] (.msk 1 (l40 c0 c1 c2 c3 [])) rfl (fun X X X=>⟨by kernel_rfl,by kernel_rfl,by kernel_rfl⟩) ?_ ?_
 ·intro acc k j e r
  refine (let ww:Wt:=_;(?_:Sm _ ww));refine .callD (zrB (P:=P.lv 16) (BL 16) c0 c1 c2 c3 e) [32,33,34,35,36,37,38,31,39] ?_;exact .asIs (.st .o (an (r.len (n:=sizeL) (l3▸(by decide))) (rfl:(false || true)=true)) (.next 43 (zuE vs is c0 c1 c2 c3 c4) (Mp1 (fun j=>AV.str (coN c0 c1 c2 c3 j)) (zaP (zah c0))) k (acc ++ [.str (coN c0 c1 c2 c3 j)]) (.msk 42 []) (r.next e)))
 intro acc r;rw [l3];have ch:∀s∈(zaP (zah c0)).map (coN c0 c1 c2 c3),zaS s:=fun s m=>by
  obtain ⟨j,hj,rfl⟩:=mP m;exact fun x hx=>(zlT c0 c1 c2 c3 (zcw _ j hj) x hx).2.2
 have ew2:zhU (zah c0) (coL c0 c1 c2 c3)=((zaP (zah c0)).map (coN c0 c1 c2 c3)).map AV.str:=by rw [mN];exact ew
 have ew1:acc=((zaP (zah c0)).map (coN c0 c1 c2 c3)).map AV.str:=by rw [mN];exact r.all
 have e3:(!((zaP (zah c0)).map (coN c0 c1 c2 c3)==(zaP (zah c0)).map (coN c0 c1 c2 c3)))=false:=by rw [bS];rfl
 refine (let ww:Wt:=_;(?_:Sm _ ww));refine .asIs (.st (.txt ((zaP (zah c0)).map (coN c0 c1 c2 c3)) ((zaP (zah c0)).map (coN c0 c1 c2 c3))) (aO ew1 (aO ew2 (aO ch ch))) (.st (.b false) e3 ?_));refine .loopM B' 44 (zaD (q:=(false,zhU (zah c0) (coL c0 c1 c2 c3))) (v:= .ref 23) ew) (ztR vs is c0 c1 c2 c3 c4) (Mp1 (fun j=>AV.str (coN c0 c1 c2 c3 j)) (zaP (zah c0))) [] (.msk 1 (l40 c0 c1 c2 c3 [])) rfl (fun X X X=>⟨by kernel_rfl,by kernel_rfl,by kernel_rfl⟩) ?_ ?_
 ·intro acc k j e r
  refine (let ww:Wt:=_;(?_:Sm _ ww));refine .callD (znn (P:=P.lv 18) (BL 18) (TT c0 c1 c2 c3) (zhV c0 c1 c2 c3 3:Nat) (lnT c0 c1 c2 c3 3:Nat) acc (coN c0 c1 c2 c3 j) (by rw [r,lM];exact lE (List.length_take_le' ..) (l3▸(by decide)))) [32,33,34,35,36,37,38,31,39] ?_;exact .ff (.next 44 (ztR vs is c0 c1 c2 c3 c4) (Mp1 (fun j=>AV.str (coN c0 c1 c2 c3 j)) (zaP (zah c0))) k (acc ++ [.str (coN c0 c1 c2 c3 j)]) (.msk 1 (l40 c0 c1 c2 c3 [])) (r.next e))
 intro acc r;obtain rfl:=r.all;rw [l3];refine (let ww:Wt:=_;(?_:Sm _ ww));exact .via (r34 (P.lv 19) vs is 18 (hB vs is c0 c1 c2 c3 c4)) HC
end Mn
end
section
open PySem PySem.W
set_option synthInstance.maxHeartbeats 400000
set_option synthInstance.maxSize 4000
namespace Mn
noncomputable def teE(e:Ent):Nat×Nat:=(e.t,e.c)
def PS.E(i:PS):List (Nat×Nat)×List (Nat×Nat):=(i.R.map teE,i.tl)
noncomputable def fdZ(L:List (Nat×Nat))(t:Nat):Option (Nat×Nat):=L.find? fun e=>Nat.beq e.1 t
def stN(top t c:Nat)(i:List (Nat×Nat)×List (Nat×Nat))(x:Nat):List (Nat×Nat)×List (Nat×Nat):=
 bif Nat.ble (t+x) top then Option.casesOn (motive:=fun X=>List (Nat×Nat)×List (Nat×Nat)) (fdZ ((0,0) :: i.1) (t+x)) (i.1 ++ [(t+x,c)],i.2 ++ [(t+x,c)]) fun e=>(i.1,i.2 ++ [(t+x,e.2)]) else i
noncomputable def etN(i:List (Nat×Nat)×List (Nat×Nat))(k:Nat):Nat×Nat:=((0,0) :: i.1).getD k (0,0)
def cfN(i:List (Nat×Nat)×List (Nat×Nat))(t:Nat):Nat:=Option.casesOn (motive:=fun X=>Nat) (fdZ ((0,0) :: i.1) t) 0 fun e=>e.2
def siN(top:Nat)(xs:List Nat)(k:Nat):List (Nat×Nat)×List (Nat×Nat):=Nat.rec (motive:=fun X=>List (Nat×Nat)×List (Nat×Nat)) ([],[(0,0)]) (fun k i=>xs.foldl (stN top (etN i k).1 (1+cfN i (etN i k).1)) i) k
theorem zuh(L:List Ent)(t:Nat):fdZ (L.map teE) t=(fdE L t).map teE:=by
 unfold fdZ fdE;rw [List.find?_map];rfl
theorem zui(m:List Nat)(i:PS)(k:Nat):etN i.E k=teE (zfP m i k):=by
 unfold etN zfP;have:(0,0) :: i.E.1=(i.L m).map teE:=rfl;rw [this,gD,gD,gM];induction (i.L m)[k]? <;> rfl
theorem zuw(m:List Nat)(i:PS)(t:Nat):cfN i.E t=zef m i t:=by
 unfold cfN zef;rw [show (0,0) :: i.E.1=(i.L m).map teE from rfl,zuh];induction fdE (i.L m) t <;> rfl
theorem st_E(top:Nat)(m:List Nat)(t c:Nat)(w:List Nat)(i:PS)(x:Nat×List Nat):(zaG top m t c w i x).E=stN top t c i.E x.1:=by
 unfold zaG stN;rw [show (0,0) :: i.E.1=(i.L m).map teE from rfl,zuh];induction Nat.ble (t+x.1) top with
 | false=>rfl
 | true=>
  induction fdE (i.L m) (t+x.1) with
  | none=>
   show (List.map teE (i.R ++ [_]),_)=(List.map teE i.R ++ [_],_);rw [mA];rfl
  | some e=>rfl
theorem zmZ(top:Nat)(m:List Nat)(t c:Nat)(w:List Nat):∀(xs:List (Nat×List Nat)) (i:PS),(xs.foldl (zaG top m t c w) i).E=(xs.map Prod.fst).foldl (stN top t c) i.E
 | [],_=>rfl
 | x :: xs,i=>by rw [List.foldl_cons,mC,List.foldl_cons,zmZ top m t c w xs,st_E]
theorem zsR(top:Nat)(m:List Nat)(cs:List (Nat×List Nat)):∀k,(zbK top m cs k).E=siN top (cs.map Prod.fst) k
 | 0=>rfl
 | k+1=>by
  have h:=zsR top m cs k;show (zlK top m k (zbK top m cs k) cs).E=(cs.map Prod.fst).foldl (stN top (etN (siN top (cs.map Prod.fst) k) k).1 (1+cfN (siN top (cs.map Prod.fst) k) (etN (siN top (cs.map Prod.fst) k) k).1)) (siN top (cs.map Prod.fst) k);rw [←h,zui m,zuw m];exact zmZ _ _ _ _ _ _ _
noncomputable def gdN(l d t:Nat):Int:=((t/d+(t%d/l+t%d%l):Nat):Int)
def zu3(l d f:Nat):Bool:=
 let top:=l+d-1
 let xs:=([0,1,2].drop f ++ [0,1,2].take f).map fun k=> [1,l,d].getD k 0
 let z:=siN top xs (top+1)
 (List.range (top+1)).all (fun k=>let i:=siN top xs k;Nat.blt k (i.1.length+1)&&Nat.ble (cfN i (etN i k).1) 8)
 &&Nat.beq z.1.length top
 &&z.2.all (fun x=>Nat.blt x.1 (l+d)&&decide (zab x.1 l d=(x.2:Int))&&Nat.ble x.2 9)&&Nat.ble z.2.length 100
 &&((0,0) :: z.1).isPerm ((List.range (l+d)).map fun t=>(t,(zab t l d).toNat))
 &&(List.range (l+d)).all (fun t=>decide (0≤zab t l d)&&decide (zab t l d≤9))
 &&decide (((0,0) :: z.1).Pairwise fun a b=>a.2≤b.2)
 &&(((List.range (l+d)).map fun t=>gdN l d t)==(List.range (l+d)).map fun t=>zab t l d)==decide ((-(d:Int)).fdiv l+(-(d:Int)).fmod l<0)
theorem zoe:∀l,l<5→∀d,d<9→∀f,f<3→2≤l→l<d→d≤l+4→zu3 l d f=true:=by decide +kernel
def csP(c0 c1 c2 c3:Nat):List (Nat×List Nat):=(zaP (zah c0)).map fun j=>(wtN c0 j,coN c0 c1 c2 c3 j)
def zd4(c0:Nat):Nat:=zad c0+za4 c0-1
def zbL(c0 c1 c2 c3:Nat):PS:=zbK (zd4 c0) (mkN c0) (csP c0 c1 c2 c3) (zd4 c0+1)
theorem zqJ:∀m∈[[34],[92],[32],[35]],(m.length=1∧(∀x∈m,okC x)∧m.flatMap zd7=m)∧∀t,t≤19→okN (za6 (m++rep t))∧okN (m++rep t)∧za8 (za6 (m++rep t))=m++rep t∧za8 (m++rep t)=m++rep t∧zaS (za6 (m++rep t))∧zaS (m++rep t):=by unfold okC okP okN zaS;decide +kernel
theorem zl4(c0:Nat):mkN c0∈[[34],[92],[32],[35]]:=by
 unfold mkN;have h:c0/100%10%4<([[34], [92], [32], [35]]:List (List Nat)).length:=mT _ (by decide);rw [gD,gG h];exact List.getElem_mem h
theorem zoj(c0:Nat):NmOk (mkN c0):=by
 have h:=zqJ _ (zl4 c0);exact ⟨h.1.1,h.2,h.1.2.1,h.1.2.2⟩
theorem ztu(c0 c1 c2 c3:Nat):∀x∈csP c0 c1 c2 c3,CoinOk x:=fun x hx=>by
 obtain ⟨j,hj,rfl⟩:=mP hx;have j3:=zcw _ j hj;have h:=zec (ceN c1 c2 c3 j) (wtN c0 j);exact ⟨zi0 c0 j,h.1,h.2.1,h.2.2.1,(zlU c0 c1 c2 c3 j3).2⟩
theorem ok_N(c0:Nat):zu3 (zad c0) (za4 c0) (zah c0)=true:=by
 have:=zcc c0;exact zoe _ (lz1 0x25846000064180041 this.2.1) _ (lz2 0x298470000641801c0064180042 this.2.1 this.2.2.2) _ (mT _ (by decide)) this.1 this.2.2.1 this.2.2.2
def xsN(c0:Nat):List Nat:=([0,1,2].drop (zah c0) ++ [0,1,2].take (zah c0)).map fun k=> [1,zad c0,za4 c0].getD k 0
theorem zn9(c0 c1 c2 c3:Nat):(csP c0 c1 c2 c3).map Prod.fst=xsN c0:=by unfold csP;rw [mN];rfl
def zN(c0:Nat):List (Nat×Nat)×List (Nat×Nat):=siN (zd4 c0) (xsN c0) (zd4 c0+1)
theorem zhF(c0 c1 c2 c3:Nat):(zbL c0 c1 c2 c3).E=zN c0:=by
 unfold zbL zN;rw [zsR,zn9]
theorem zfz(c0:Nat):(((((((List.range (zd4 c0+1)).all (fun k=>Nat.blt k ((siN (zd4 c0) (xsN c0) k).1.length+1)&&Nat.ble (cfN (siN (zd4 c0) (xsN c0) k) (etN (siN (zd4 c0) (xsN c0) k) k).1) 8)
 &&Nat.beq (zN c0).1.length (zd4 c0)
 &&(zN c0).2.all (fun x=>Nat.blt x.1 (zad c0+za4 c0)&&decide (zab x.1 (zad c0) (za4 c0)=(x.2:Int))&&Nat.ble x.2 9))&&Nat.ble (zN c0).2.length 100)
 &&((0,0) :: (zN c0).1).isPerm ((List.range (zad c0+za4 c0)).map fun t=>(t,(zab t (zad c0) (za4 c0)).toNat)))
 &&(List.range (zad c0+za4 c0)).all (fun t=>decide (0≤zab t (zad c0) (za4 c0))&&decide (zab t (zad c0) (za4 c0)≤9)))
 &&decide (((0,0) :: (zN c0).1).Pairwise fun a b=>a.2≤b.2))
 &&((((List.range (zad c0+za4 c0)).map fun t=>gdN (zad c0) (za4 c0) t)==(List.range (zad c0+za4 c0)).map fun t=>zab t (zad c0) (za4 c0))==decide ((-(za4 c0:Int)).fdiv (zad c0)+(-(za4 c0:Int)).fmod (zad c0)<0)))=true:=ok_N c0
theorem zsP(c0 c1 c2 c3:Nat):∀k,k≤zd4 c0→k<(zbK (zd4 c0) (mkN c0) (csP c0 c1 c2 c3) k).R.length+1∧zef (mkN c0) (zbK (zd4 c0) (mkN c0) (csP c0 c1 c2 c3) k) (zfP (mkN c0) (zbK (zd4 c0) (mkN c0) (csP c0 c1 c2 c3) k) k).t≤8:=fun k hk=>by
 have h:=zfz c0;simp only [Bool.and_eq_true,List.all_eq_true] at h;have h:=h.1.1.1.1.1.1.1 k (List.mem_range.mpr (Nat.lt_succ_of_le hk));have e:=zsR (zd4 c0) (mkN c0) (csP c0 c1 c2 c3) k;rw [zn9] at e;rw [←e,zui (mkN c0),zuw (mkN c0)] at h;have l:(zbK (zd4 c0) (mkN c0) (csP c0 c1 c2 c3) k).E.1.length=(zbK (zd4 c0) (mkN c0) (csP c0 c1 c2 c3) k).R.length:=lM ..;rw [l] at h;exact ⟨jL h.1,jL h.2⟩
theorem zsQ(c0 c1 c2 c3:Nat):(zbL c0 c1 c2 c3).R.length=zd4 c0:=by
 have h:=zfz c0;simp only [Bool.and_eq_true] at h;have h:=h.1.1.1.1.1.1.2;rw [←zhF c0 c1 c2 c3] at h;have l:(zbL c0 c1 c2 c3).E.1.length=(zbL c0 c1 c2 c3).R.length:=lM ..;rw [l] at h;exact qB h
theorem zsA(c0 c1 c2 c3:Nat):(zbL c0 c1 c2 c3).tl=(zN c0).2:=congrArg Prod.snd (zhF c0 c1 c2 c3)
theorem zsz(c0 c1 c2 c3:Nat):∀x∈(zbL c0 c1 c2 c3).tl,x.1<zad c0+za4 c0∧zab x.1 (zad c0) (za4 c0)=(x.2:Int)∧x.2≤9:=fun x hx=>by
 have h:=zfz c0;simp only [Bool.and_eq_true,List.all_eq_true] at h;rw [zsA] at hx;have h:=h.1.1.1.1.1.2 x hx;exact ⟨jL h.1.1,oD h.1.2,jL h.2⟩
def teL(c0:Nat):List (Nat×Nat):=(List.range (zad c0+za4 c0)).map fun t=>(t,(zab t (zad c0) (za4 c0)).toNat)
theorem zfr(c0 c1 c2 c3:Nat):(((zbL c0 c1 c2 c3).L (mkN c0)).map teE).Perm (teL c0):=by
 have h:=zfz c0;simp only [Bool.and_eq_true] at h;have h:=h.1.1.1.2;have e:((zbL c0 c1 c2 c3).L (mkN c0)).map teE=(0,0) :: (zN c0).1:=by rw [←zhF c0 c1 c2 c3];rfl
 rw [e];exact List.isPerm_iff.mp h
theorem zfF(c0:Nat){t:Nat}(h:t<zad c0+za4 c0):0≤zab t (zad c0) (za4 c0)∧zab t (zad c0) (za4 c0)≤9:=by
 have h':=zfz c0;simp only [Bool.and_eq_true,List.all_eq_true] at h';have h:=h'.1.1.2 t (List.mem_range.mpr h);exact ⟨oD h.1,oD h.2⟩
theorem zsC(c0 c1 c2 c3:Nat):(((zbL c0 c1 c2 c3).L (mkN c0)).map teE).Pairwise fun a b=>a.2≤b.2:=by
 have h:=zfz c0;simp only [Bool.and_eq_true] at h;have e:((zbL c0 c1 c2 c3).L (mkN c0)).map teE=(0,0) :: (zN c0).1:=by rw [←zhF c0 c1 c2 c3];rfl
 rw [e];exact oD h.1.2
theorem ztg(c0:Nat):(((List.range (zad c0+za4 c0)).map fun t=>gdN (zad c0) (za4 c0) t)==(List.range (zad c0+za4 c0)).map fun t=>zab t (zad c0) (za4 c0))=decide ((-(za4 c0:Int)).fdiv (zad c0)+(-(za4 c0:Int)).fmod (zad c0)<0):=by
 have h:=zfz c0;simp only [Bool.and_eq_true] at h;exact eq_of_beq h.2
end Mn
end
section
open PySem PySem.W
namespace Mn
variable {P:PM T3}
def zbi(c0 c1 c2 c3:Nat):List (List Nat×List Nat):=zal (mkN c0) ((zbL c0 c1 c2 c3).L (mkN c0))
def znH(c0 c1 c2 c3:Nat):List (Nat×Nat):=(zbL c0 c1 c2 c3).tl
def zki(c0 c1 c2 c3:Nat):Int:=(zhV c0 c1 c2 c3 3:Nat)
def lnE(c0 c1 c2 c3:Nat):Int:=(lnT c0 c1 c2 c3 3:Nat)
def nJ(c0:Nat):Nat:=zad c0+za4 c0
def nI'(c0:Nat):Int:=(zad c0:Int)+(za4 c0:Nat)
def leF(c0 t:Nat):Int:=zab t (zad c0) (za4 c0)
def leA(c0 t:Nat):AV:= .int (leF c0 t)
noncomputable def frS:List (Str×AV):=[("sums", .ref 45),("tells", .ref 46)]
def c47(vs:Array Value)(is:List Int)(c0 c1 c2 c3 c4:Nat)(fr:List (Str×AV))(a b:Option AV):List AO:=c40 vs is c0 c1 c2 c3 c4 fr a b (zki c0 c1 c2 c3) (lnE c0 c1 c2 c3) (pbL c0 c1 c2 c3)++List.replicate 5 .other ++ [.list false ((zbi c0 c1 c2 c3).map pA), .list false ((znH c0 c1 c2 c3).map tlA)]
def ztU(vs:Array Value)(is:List Int)(c0 c1 c2 c3 c4:Nat)(acc:List AV)(k:Nat):Hp:= .of (c47 vs is c0 c1 c2 c3 c4 frS none none ++ [.other, .riter (0+(k:Int)*1) (zeS (nI' c0) (nJ c0) k) 1, .list false acc, .frame []])
def leL(c0:Nat):List AV:=(List.range (nJ c0)).map (leA c0)
def h20(vs:Array Value)(is:List Int)(c0 c1 c2 c3 c4:Nat):Hp:=(((ztU vs is c0 c1 c2 c3 c4 (leL c0) (nJ c0)).set 48 .other).set 50 .other).set 9 (.cell (some (.ref 49)))
theorem lawC(B:Tbl T3 P.c)(vs:Array Value)(is:List Int)(c0 c1 c2 c3 c4:Nat)(HC:Sm (P.lv 19) (r34 (P.lv 19) vs is 20 (h20 vs is c0 c1 c2 c3 c4))):Sm (P.lv 19) (r34 (P.lv 19) vs is 18 (hB vs is c0 c1 c2 c3 c4)):=by
 have BL:=lvB B;have B':=lvB B 19;have lb:=zcc c0;have l3:=zbf (zah c0) (mT _ (by decide));have C:=zrF (P:=P.lv 14) (BL 14) (TT c0 c1 c2 c3) (zhV c0 c1 c2 c3 3:Nat) (lnT c0 c1 c2 c3 3:Nat) (csP c0 c1 c2 c3) (mkN c0) (zd4 c0) (zoj c0) (by unfold csP;rw [lM];exact l3) (ztu c0 c1 c2 c3) (by unfold zd4;exact lz3 0x2b2000471808480000641801c0064180083 lb.2.1 lb.2.2.2 (lzc (lz2 0x7180840047846000041 lb.2.2.1))) (zsP c0 c1 c2 c3) (zsQ c0 c1 c2 c3);have eq:(csP c0 c1 c2 c3).map qA=pbL c0 c1 c2 c3:=by unfold csP;rw [mN];rfl
 rw [eq] at C;have ti:((zad c0:Int)+(za4 c0:Nat)-1)=(zd4 c0:Nat):=by unfold zd4;exact Int.le_antisymm (lz3 0x2058471461400c10612001c6000041 (lzs _ _)) (lz3 0x8481471400c61410481c0846000041 (lzc (lz2 0x7180840047846000041 lb.2.2.1)))
 refine (let ww:Wt:=_;(?_:Sm _ ww));refine .callD C [32,33,34,35,36,37,38,31,39] ?_ (e:=Eq.trans (b:=some (.glob 376, [.ref 33, .str (mkN c0), .int ((zad c0:Int)+(za4 c0:Nat)-1)], [])) (by kernel_rfl) (by rw [ti];rfl));have nn:zad c0+za4 c0≤12:=lz2 0x2c1c60000641801c0064180082 lb.2.1 lb.2.2.2;refine (let ww:Wt:=_;(?_:Sm _ ww));refine .st .o (zaw (N:=zad c0+za4 c0) (lT nn (by decide))) ?_;refine .loopS B' 51 (nJ c0) (ztU vs is c0 c1 c2 c3 c4) (fun acc k=>acc=(List.range k).map (leA c0)) [] (.msk 1 (l40 c0 c1 c2 c3 frS)) rfl (rfl:(zad c0:Int)+(za4 c0:Nat)=(nJ c0:Nat)) (fun X X X=>⟨by kernel_rfl,by kernel_rfl⟩) ?_ ?_
 ·intro acc k hk r
  refine (let ww:Wt:=_;(?_:Sm _ ww));refine .callP (zpo (P:=P.lv 18) (BL 18) k (zad c0) (za4 c0) (by unfold nJ at hk;exact lz3 0x2c20004718084800006c1c6000042 nn hk) (lz1 0x6860000046880041 lb.1) (lz1 0x28180064180041 lb.2.1) (lz2 0x7860000047846000041 lb.2.2.1) (lz2 0x281c00641801c0064180042 lb.2.1 lb.2.2.2)) ?_;exact .asIs (.st .o (an (bt (by rw [r,lM,lR];exact lT hk (lT nn (by decide))):Nat.ble acc.length.succ sizeL=true) (rfl:(false || true)=true)) (.next 51 (ztU vs is c0 c1 c2 c3 c4) (fun acc k=>acc=(List.range k).map (leA c0)) k (acc ++ [.int (zab k (zad c0) (za4 c0))]) (.msk 50 []) (by rw [r,List.range_succ,mA];rfl)))
 intro acc r;obtain rfl:acc=leL c0:=r;refine (let ww:Wt:=_;(?_:Sm _ ww));exact .asIs (.via (r34 (P.lv 19) vs is 20 (h20 vs is c0 c1 c2 c3 c4)) HC)
def c50(vs:Array Value)(is:List Int)(c0 c1 c2 c3 c4:Nat)(fr:List (Str×AV))(b:Option AV):List AO:=c47 vs is c0 c1 c2 c3 c4 fr (some (.ref 49)) b ++ [.other, .other, .list false (leL c0)]
def zs0(vs:Array Value)(is:List Int)(c0 c1 c2 c3 c4:Nat)(acc:List AV)(k:Nat):Hp:= .of (c50 vs is c0 c1 c2 c3 c4 frS none ++ [.other, .liter (.ref 46) k, .list false acc, .frame []])
theorem zgy{c0 t:Nat}(h:t<nJ c0):nth (leL c0) (t:Int)=some (leA c0 t):=zbr (by
 unfold leL;rw [gM,List.getElem?_range h];rfl) (bt (by
 have:=zcc c0;unfold leL nJ;rw [lM,lR];exact lT (by exact lz2 0x2c1c60000641801c0064180082 this.2.1 this.2.2.2:_≤12) (by decide)))
def naF(c0 t:Nat):List Nat:=mkN c0++rep t
def naA(c0 t:Nat):AV:= .str (naF c0 t)
def naL(c0:Nat):List AV:=(List.range (nJ c0)).map (naA c0)
def ztT(vs:Array Value)(is:List Int)(c0 c1 c2 c3 c4:Nat)(acc:List AV)(k:Nat):Hp:= .of (c50 vs is c0 c1 c2 c3 c4 frS none ++ [.other, .other, .other, .other, .other, .other, .riter (0+(k:Int)*1) (zeS (nI' c0) (nJ c0) k) 1, .list false acc, .frame []])
def h22(vs:Array Value)(is:List Int)(c0 c1 c2 c3 c4:Nat):Hp:=(((ztT vs is c0 c1 c2 c3 c4 (naL c0) (nJ c0)).set 56 .other).set 58 .other).set 10 (.cell (some (.ref 57)))
theorem zgq(k:Nat):zld [115] (k:Int)=rep k:=by
 unfold zld rep;rw [Int.toNat_natCast];induction k with
 | zero=>rfl
 | succ k ih=>rw [List.replicate_succ,List.flatten_cons,ih];rfl
theorem lawD(B:Tbl T3 P.c)(vs:Array Value)(is:List Int)(c0 c1 c2 c3 c4:Nat)(HC:Sm (P.lv 19) (r34 (P.lv 19) vs is 22 (h22 vs is c0 c1 c2 c3 c4))):Sm (P.lv 19) (r34 (P.lv 19) vs is 20 (h20 vs is c0 c1 c2 c3 c4)):=by
 have BL:=lvB B;have B':=lvB B 19;have lb:=zcc c0;refine .loopM B' 54 (zaD (z:=znH c0 c1 c2 c3) (f:=tlA) (q:=(false,(znH c0 c1 c2 c3).map tlA)) (v:= .ref 46) rfl) (zs0 vs is c0 c1 c2 c3 c4) (fun acc k=>acc = []) [] (.msk 1 (l40 c0 c1 c2 c3 frS)) rfl (fun X X X=>⟨by kernel_rfl,by kernel_rfl,by kernel_rfl⟩) ?_ ?_
 ·intro acc k x e r
  obtain ⟨t,c⟩:=x;have T:=zsz c0 c1 c2 c3 _ (mG e);refine .st (.x (.str (dcE c))) (rfl:nth [SV.int (t:Nat),SV.str (dcE c)] 1=some (.str (dcE c))) (.st (.x (.int (t:Nat))) (rfl:nth [SV.int (t:Nat),SV.str (dcE c)] 0=some (.int (t:Nat))) (.st (.a (leA c0 t)) (zgy T.1) ?_));have it:zdY (leF c0 t)=some (dcE c):=by
   unfold leF;rw [T.2.1];exact (zfb c T.2.2).2.2.2.1
  obtain rfl:acc = []:=r;exact .st (.s (dcE c)) it (.st (.b false) (by rw [bS];rfl:(!(dcE c==dcE c))=false) (.next 54 (zs0 vs is c0 c1 c2 c3 c4) (fun acc k=>acc = []) k [] (.msk 53 []) rfl))
 intro acc r;obtain rfl:acc = []:=r;refine .froz 52 [] ?_;have nn:zad c0+za4 c0≤12:=lz2 0x2c1c60000641801c0064180082 lb.2.1 lb.2.2.2;have ml:=(zoj c0).len;refine .tt (.st (.b true) (zcP [] fun X h=>nomatch h) (.ff ?_));refine .st .o (zaw (N:=zad c0+za4 c0) (lT nn (by decide))) ?_;refine .loopS B' 59 (nJ c0) (ztT vs is c0 c1 c2 c3 c4) (fun acc k=>acc=(List.range k).map (naA c0)) [] (.msk 1 (l40 c0 c1 c2 c3 frS)) rfl (rfl:(zad c0:Int)+(za4 c0:Nat)=(nJ c0:Nat)) (fun X X X=>⟨by kernel_rfl,by kernel_rfl⟩) ?_ ?_
 ·intro acc k hk r
  have k12:k≤12:=by unfold nJ at hk;exact lz3 0x2c20004718084800006c1c6000042 nn hk
  have kl:(zld [115] (k:Int)).length=k:=by rw [zgq];exact List.length_replicate ..
  refine .st .o (an (bt (lT (show 1*(k:Int).toNat≤12 by omega) (by decide:12≤sizeL))) (dT (by omega:(k:Int).natAbs<2^62))) (.st .o (bt (b:=sizeL) (?_:(mkN c0).length+(zld [115] (k:Int)).length≤sizeL)) ?_)
  ·rw [kl,ml];exact lT (Nat.add_le_add_left k12 1) (by decide)
  exact .asIs (.st .o (an (bt (by rw [r,lM,lR];exact lT hk (lT nn (by decide))):Nat.ble acc.length.succ sizeL=true) (rfl:(false || true)=true)) (.next 59 (ztT vs is c0 c1 c2 c3 c4) (fun acc k=>acc=(List.range k).map (naA c0)) k (acc ++ [.str (mkN c0++zld [115] (k:Int))]) (.msk 58 []) (by rw [r,List.range_succ,mA,zgq];rfl)))
 intro acc r;obtain rfl:acc=naL c0:=r;exact .asIs (.via (r34 (P.lv 19) vs is 22 (h22 vs is c0 c1 c2 c3 c4)) HC)
end Mn
end
section
open PySem PySem.W PyProof.Rows
set_option synthInstance.maxHeartbeats 400000
set_option synthInstance.maxSize 4000
namespace Mn
open Srt
def gN(m:List Nat)(p:Nat×Nat):List Nat×List Nat:=(nmE m p.1 p.2,dcE p.2)
def ltN(p q:Nat×Nat):Bool:=zoz (gN [] p) (gN [] q)
def orN(E:List (Nat×Nat)):Array Nat:=run (fun i j=>ltN (E.getD i (0,0)) (E.getD j (0,0))) (kas_sort E.length)
def srN(E:List (Nat×Nat)):List (Nat×Nat):=(orN E).toList.map fun i=>E.getD i (0,0)
theorem zeB{α:Type}{N:Nat}{R:α→Prop}{lt lt':Nat→Nat→Bool}(h:∀i j,i<N→j<N→lt i j=lt' i j):∀t:KasT α,In N R t→run lt t=run lt' t
 | .ret _,_=>rfl
 | .ask i j k,q=>by
  show run lt (k (lt i j))=run lt' (k (lt' i j));rw [h i j q.1 q.2.1];exact zeB h _ (q.2.2 _)
theorem znD:∀m∈[[34],[92],[32],[35]],∀t,t≤19→za6 (m++rep t)=m++za6 ([]++rep t):=by decide +kernel
theorem ziQ{m:List Nat}(h:m∈[[34],[92],[32],[35]]){t:Nat}(c:Nat)(ht:t≤19):nmE m t c=m++nmE [] t c:=by
 unfold nmE;induction Nat.beq (c%2) 0 with
 | true=>rfl
 | false=>exact znD m h t ht
theorem zoy{x:Nat}{a b c d:List Nat}:zoz ([x]++a,c) ([x]++b,d)=zoz (a,c) (b,d):=by
 have e:zpK (x :: a) (x :: b)=zpK a b:=Bool.eq_iff_iff.mpr ⟨fun h=>(List.cons.inj (linT.qe _ _ h)).2▸linT.refl _,fun h=>linT.qe _ _ h▸linT.refl _⟩;have l:ltT (x :: a) (x :: b)=ltT a b:=decide_eq_decide.mpr ⟨fun h=>(List.cons_lt_cons_iff.mp h).elim (fun h=>absurd h (Nat.lt_irrefl _)) (·.2),fun h=>List.cons_lt_cons_iff.mpr (.inr ⟨rfl,h⟩)⟩;show (bif zpK (x :: a) (x :: b) then _ else ltT (x :: a) (x :: b))=_;rw [e,l];rfl
theorem zgI{α β:Type}(f:α→β)(d:α)(d':β):∀(l:List α) (i:Nat),i<l.length→(l.map f).getD i d'=f (l.getD i d)
 | [],_,h=>absurd h (Nat.not_lt_zero _)
 | _ :: _,0,_=>rfl
 | _ :: l,i+1,h=>zgI f d d' l i (Nat.lt_of_succ_lt_succ h)
theorem zg8{m:List Nat}(h:m∈[[34],[92],[32],[35]]){E:List (Nat×Nat)}(hE:∀p∈E,p.1≤19)(h1:1≤E.length):zc9 (E.map (gN m))=(srN E).map (gN m):=by
 have A:∀i,i<E.length→(E.map (gN m)).getD i ([], [])=gN m (E.getD i (0,0)):=zgI (gN m) (0,0) ([], []) E;have L:∀i,i<E.length→(E.getD i (0,0)).1≤19:=fun i hi=>hE _ (by rw [gD,gG hi];exact List.getElem_mem hi);have M:∀p q:Nat×Nat,p.1≤19→q.1≤19→zoz (gN m p) (gN m q)=ltN p q:=fun p q hp hq=>by
  show zoz (nmE m p.1 p.2,_) (nmE m q.1 q.2,_)=zoz (nmE [] p.1 p.2,_) (nmE [] q.1 q.2,_);rw [ziQ h p.2 hp,ziQ h q.2 hq];have:∃x,m = [x]:=by
   simp only [List.mem_cons,List.not_mem_nil,or_false] at h
   rcases h with h | h | h | h <;> exact ⟨_,h⟩
  obtain ⟨x,rfl⟩:=this;exact zoy
 have O:zkY (E.map (gN m))=orN E:=by
  unfold zkY orN;rw [lM];exact zeB (fun i j hi hj=>by rw [A i hi,A j hj];exact M _ _ (L i hi) (L j hj)) _ (zdJ h1)
 have B:∀i∈(orN E).toList,i<E.length:=by rw [←O];exact fun i hi=>(lM (as:=E) (gN m))▸zfx (by rw [lM];exact h1) i hi
 unfold zc9 srN;rw [O,mN];exact List.map_congr_left fun i hi=>A i (B i hi)
noncomputable def xsF(l d f:Nat):List Nat:=([0,1,2].drop f ++ [0,1,2].take f).map fun k=> [1,l,d].getD k 0
def teF(l d:Nat):List (Nat×Nat):=(List.range (l+d)).map fun t=>(t,(zab t l d).toNat)
def okS(l d f:Nat):Bool:=srN ((0,0) :: (siN (l+d-1) (xsF l d f) (l+d-1+1)).1)==srN (teF l d)
theorem zsO:∀d,d<7→∀f,f<3→2<d→okS 2 d f=true:=by decide +kernel
theorem zsN:∀d,d<8→∀f,f<3→3<d→okS 3 d f=true:=by decide +kernel
theorem zsM:∀d,d<9→∀f,f<3→4<d→okS 4 d f=true:=by decide +kernel
theorem znS{l d f:Nat}(hf:f<3)(h2:2≤l)(h4:l<5)(hl:l<d)(hd:d≤l+4):okS l d f=true:=by
 match l with
 | 2=>exact zsO d (Nat.lt_succ_of_le hd) f hf hl
 | 3=>exact zsN d (Nat.lt_succ_of_le hd) f hf hl
 | 4=>exact zsM d (Nat.lt_succ_of_le hd) f hf hl
 | 0=>exact absurd h2 (Nat.not_succ_le_zero _)
 | 1=>exact absurd (Nat.le_of_succ_le_succ h2) (Nat.not_succ_le_zero _)
 | n+5=>exact absurd h4 (Nat.not_lt.mpr (Nat.le_add_left 5 n))
theorem zqe(c0 c1 c2 c3:Nat):zal (mkN c0) ((zbL c0 c1 c2 c3).L (mkN c0))=((0,0) :: (zN c0).1).map (gN (mkN c0)):=by
 have e:((zbL c0 c1 c2 c3).L (mkN c0)).map teE=(0,0) :: (zN c0).1:=by rw [←zhF c0 c1 c2 c3];rfl
 rw [←e,mN];rfl
theorem zqq(c0 c1 c2 c3:Nat):zc9 (zal (mkN c0) ((zbL c0 c1 c2 c3).L (mkN c0)))=zc9 ((teL c0).map (gN (mkN c0))):=by
 have lb:=zcc c0;have b:∀p∈teL c0,p.1≤19:=fun p hp=>by
  obtain ⟨t,ht,rfl⟩:=mP hp;have:=List.mem_range.mp ht;exact lT (lO this) (lz2 0x331c60000641801c0064180082 lb.2.1 lb.2.2.2)
 have e:((zbL c0 c1 c2 c3).L (mkN c0)).map teE=(0,0) :: (zN c0).1:=by rw [←zhF c0 c1 c2 c3];rfl
 have p:=e▸zfr c0 c1 c2 c3;rw [zqe,zg8 (zl4 c0) (fun x hx=>b x (p.mem_iff.mp hx)) (Nat.succ_pos _),zg8 (zl4 c0) b (by rw [←p.length_eq];exact Nat.succ_pos _)];exact congrArg _ (eq_of_beq (znS (f:=zah c0) (mT _ (by decide)) lb.1 (lz1 0x25846000064180041 lb.2.1) lb.2.2.1 lb.2.2.2))
end Mn
end
section
open PySem PySem.W
namespace Mn
variable {P:PM T3}
def c58(vs:Array Value)(is:List Int)(c0 c1 c2 c3 c4:Nat)(fr:List (Str×AV)):List AO:=c50 vs is c0 c1 c2 c3 c4 fr (some (.ref 57))++List.replicate 7 .other ++ [.list false (naL c0), .other]
def leN(c0 t:Nat):Nat:=(leF c0 t).toNat
def duE(c0 t:Nat):List Nat×List Nat:=(nmE (mkN c0) t (leN c0 t),dcE (leN c0 t))
def duA(c0 t:Nat):AV:=pA (duE c0 t)
def duL(c0:Nat):List AV:=(List.range (nJ c0)).map (duA c0)
def ztW(vs:Array Value)(is:List Int)(c0 c1 c2 c3 c4:Nat)(acc:List AV)(k:Nat):Hp:= .of (c58 vs is c0 c1 c2 c3 c4 frS ++ [.other, .riter (0+(k:Int)*1) (zeS (nI' c0) (nJ c0) k) 1, .list false acc, .frame []])
theorem zmM{c0 t:Nat}(h:t<nJ c0):nth (naL c0) (t:Int)=some (naA c0 t):=zbr (by
 unfold naL;rw [gM,List.getElem?_range h];rfl) (bt (by
 have:=zcc c0;unfold naL nJ;rw [lM,lR];exact lT (by exact lz2 0x2c1c60000641801c0064180082 this.2.1 this.2.2.2:_≤12) (by decide)))
def duP(c0:Nat):List (List Nat×List Nat):=(List.range (nJ c0)).map (duE c0)
theorem zg6(c0 c1 c2 c3:Nat):(zbi c0 c1 c2 c3).length=nJ c0:=by
 have:=(zfr c0 c1 c2 c3).length_eq;unfold zbi zal;rw [lM] at this⊢;rw [this];unfold teL;rw [lM,lR];rfl
theorem ziF(c0 c1 c2 c3:Nat):zki c0 c1 c2 c3=((tT c0 c1 c2 c3).length:Int):=by
 unfold zki zhV zkh;rw [znI,List.take_of_length_le (eL (zbf (zah c0) (mT _ (by decide))))]
theorem zqV(c0 c1 c2 c3:Nat):((zbL c0 c1 c2 c3).L (mkN c0)).length=nJ c0:=by
 have:=zg6 c0 c1 c2 c3;unfold zbi zal at this;rwa [lM] at this
def zpD(vs:Array Value)(is:List Int)(c0 c1 c2 c3 c4:Nat)(acc:List AV)(k:Nat):Hp:= .of (c58 vs is c0 c1 c2 c3 c4 []++List.replicate 6 .other ++ [.liter (.ref 45) k, .list false acc, .frame []])
def coI(c0 c1 c2 c3:Nat):List Int:=((zbL c0 c1 c2 c3).L (mkN c0)).map fun e=>(e.c:Int)
theorem zpi(c0 c1 c2 c3:Nat):(coI c0 c1 c2 c3).length=nJ c0:=by
 unfold coI;rw [lM,zqV]
theorem zru(c0 c1 c2 c3:Nat):zdK (coI c0 c1 c2 c3)=coI c0 c1 c2 c3:=by
 refine (zga Srt.linI (.refl _) ?_).symm;have h:=zsC c0 c1 c2 c3;rw [List.pairwise_map] at h;unfold coI;rw [List.pairwise_map];exact h.imp fun {a b} h=>dF (by have h:a.c≤b.c:=h;exact fun zz=>lzn (lz2 0x208400061611c5001047180042 h zz))
def h26(vs:Array Value)(is:List Int)(c0 c1 c2 c3 c4:Nat):Hp:=((((zpD vs is c0 c1 c2 c3 c4 (((zbL c0 c1 c2 c3).L (mkN c0)).map fun e=> .int (e.c:Nat)) ((zbL c0 c1 c2 c3).L (mkN c0)).length).set 65 .other).set 67 .other).set 1 (.frame (("counts", .ref 66) :: l40 c0 c1 c2 c3 []))).new (.list false ((zdK (coI c0 c1 c2 c3)).map AV.int))
theorem lawE(B:Tbl T3 P.c)(vs:Array Value)(is:List Int)(c0 c1 c2 c3 c4:Nat)(HC:Sm (P.lv 19) (r34 (P.lv 19) vs is 26 (h26 vs is c0 c1 c2 c3 c4))):Sm (P.lv 19) (r34 (P.lv 19) vs is 22 (h22 vs is c0 c1 c2 c3 c4)):=by
 have BL:=lvB B;have B':=lvB B 19;have lb:=zcc c0;have nn:zad c0+za4 c0≤12:=lz2 0x2c1c60000641801c0064180082 lb.2.1 lb.2.2.2;have N:=zoj c0;refine (let ww:Wt:=_;(?_:Sm _ ww));refine .st .o (zaw (N:=zad c0+za4 c0) (lT nn (by decide))) ?_;refine .loopS B' 63 (nJ c0) (ztW vs is c0 c1 c2 c3 c4) (fun acc k=>acc=(List.range k).map (duA c0)) [] (.msk 1 (l40 c0 c1 c2 c3 frS)) rfl (rfl:(zad c0:Int)+(za4 c0:Nat)=(nJ c0:Nat)) (fun X X X=>⟨by kernel_rfl,by kernel_rfl⟩) ?_ ?_
 ·intro acc k hk r
  have lf:=zfF c0 hk;have le:leF c0 k=(leN c0 k:Nat):=(Int.toNat_of_nonneg lf.1).symm;have dc:=(zfb (leN c0 k) (by unfold leN leF;omega)).2.2.2.1;rw [←le] at dc;have md:(leF c0 k).fmod 2=(leN c0 k%2:Nat):=by rw [le,Int.fmod_eq_emod_of_nonneg _ (by decide)];rfl
  refine (let ww:Wt:=_;(?_:Sm _ ww));refine .st (.a (leA c0 k)) (zgy hk) (.st (.i (leN c0 k%2:Nat)) (aO md (rfl:((2:Int) != 0)=true)) ?_);have k19:k≤19:=by unfold nJ at hk;exact lz3 0x3320004718084800006c1c6000042 nn hk
  rcases Nat.mod_two_eq_zero_or_one (leN c0 k) with q | q
  ·refine .st (.b false) (by rw [q];rfl:(((leN c0 k%2:Nat):Int) != 0)=false) (.st (.a (naA c0 k)) (zmM hk) (.st (.a (leA c0 k)) (zgy hk) (.st (.s (dcE (leN c0 k))) dc ?_)))
   exact .asIs (.st .o (an (bt (by rw [r,lM,lR];exact lT hk (lT nn (by decide))):Nat.ble acc.length.succ sizeL=true) (rfl:(false || true)=true)) (.next 63 (ztW vs is c0 c1 c2 c3 c4) (fun acc k=>acc=(List.range k).map (duA c0)) k (acc ++ [pA (naF c0 k,dcE (leN c0 k))]) (.msk 62 []) (by rw [r,List.range_succ,mA,List.map_singleton];unfold duA duE nmE;rw [q];rfl)))
  ·refine .st (.b true) (by rw [q];rfl:(((leN c0 k%2:Nat):Int) != 0)=true) (.st (.a (naA c0 k)) (zmM hk) (.st .o (bt (N.up k k19).1.1) (.st (.a (leA c0 k)) (zgy hk) (.st (.s (dcE (leN c0 k))) dc ?_))))
   exact .asIs (.st .o (an (bt (by rw [r,lM,lR];exact lT hk (lT nn (by decide))):Nat.ble acc.length.succ sizeL=true) (rfl:(false || true)=true)) (.next 63 (ztW vs is c0 c1 c2 c3 c4) (fun acc k=>acc=(List.range k).map (duA c0)) k (acc ++ [pA (za6 (naF c0 k),dcE (leN c0 k))]) (.msk 62 []) (by rw [r,List.range_succ,mA,List.map_singleton];unfold duA duE nmE;rw [q];rfl)))
 intro acc r;obtain rfl:acc=duL c0:=r;have zp:∀l:List (List Nat×List Nat),(l.map Prod.fst).zip (l.map Prod.snd)=l:=fun l=>by
  induction l with
  | nil=>rfl
  | cons x l ih=>rw [mC,mC,List.zip_cons_cons,ih]
 have zo:∀l:List (List Nat×List Nat),2≤l.length→l.length<64→(Nat.ble 2 ((l.map Prod.fst).zip (l.map Prod.snd)).length&&Nat.blt ((l.map Prod.fst).zip (l.map Prod.snd)).length 64)=true:=fun l a b=>by rw [zp];exact an (bt a) (bt b)
 refine (let ww:Wt:=_;(?_:Sm _ ww));refine .asIs (.ff (.st (.txt ((zbi c0 c1 c2 c3).map Prod.fst) ((zbi c0 c1 c2 c3).map Prod.snd)) (by rw [zp];rfl:(zbi c0 c1 c2 c3).map pA=(((zbi c0 c1 c2 c3).map Prod.fst).zip ((zbi c0 c1 c2 c3).map Prod.snd)).map prT) ?_));have sl:=zg6 c0 c1 c2 c3;refine (let ww:Wt:=_;(?_:Sm _ ww));refine .st .o (zo (zbi c0 c1 c2 c3) (by rw [sl];unfold nJ;exact lz2 0x7180880046880041 lb.1) (by rw [sl];unfold nJ;exact lz2 0x4008284718000006c1c6000041 nn)) ?_;have d0:(duL c0).all (fun x=>x.int?.isSome)=false:=List.all_eq_false.mpr ⟨duA c0 0,List.mem_map.mpr ⟨0,List.mem_range.mpr (by unfold nJ;exact lz2 0x7180860000047846000041 lb.2.2.1),rfl⟩,nofun⟩;have dm:duL c0=(duP c0).map prT:=by unfold duL duP;rw [mN];rfl
 have dl:(duP c0).length=nJ c0:=by unfold duP;rw [lM,lR]
 refine (let ww:Wt:=_;(?_:Sm _ ww));refine .st (.b false) d0 (.st (.txt ((duP c0).map Prod.fst) ((duP c0).map Prod.snd)) (by rw [zp];exact dm:duL c0=(((duP c0).map Prod.fst).zip ((duP c0).map Prod.snd)).map prT) (.st .o (zo (duP c0) (by rw [dl];unfold nJ;exact lz2 0x7180880046880041 lb.1) (by rw [dl];unfold nJ;exact lz2 0x4008284718000006c1c6000041 nn)) ?_));have ze:zc9 (((zbi c0 c1 c2 c3).map Prod.fst).zip ((zbi c0 c1 c2 c3).map Prod.snd))=zc9 (((duP c0).map Prod.fst).zip ((duP c0).map Prod.snd)):=by
  rw [zp,zp,show duP c0=(teL c0).map (gN (mkN c0)) from (by unfold duP teL;rw [mN];rfl)];exact zqq c0 c1 c2 c3
 have ch:∀p∈zc9 (((duP c0).map Prod.fst).zip ((duP c0).map Prod.snd)),zaS p.1∧zaS p.2:=fun p hp=>by
  rw [zp] at hp;obtain ⟨t,ht,rfl⟩:=mP (zib (l:=duP c0) (dl▸(by unfold nJ;exact lz2 0x7180840047846000041 lb.2.2.1:1≤nJ c0)) hp);have ht:=List.mem_range.mp ht;have lf:=zfF c0 ht;refine ⟨zqI N _ (by unfold nJ at ht;exact lz3 0x3320004718084800006c1c6000042 nn ht),fun x hx=>?_⟩;obtain rfl:=sM hx;have:leN c0 t≤9:=by unfold leN leF;omega
  exact lz1 0x110000102846c01080000069180041 this
 have eq:=zcP _ ch;refine (let ww:Wt:=_;(?_:Sm _ ww));refine .st (.b true) (by rw [ze];exact eq:zsi ((zc9 (((zbi c0 c1 c2 c3).map Prod.fst).zip ((zbi c0 c1 c2 c3).map Prod.snd))).map prT) ((zc9 (((duP c0).map Prod.fst).zip ((duP c0).map Prod.snd))).map prT) true) ?_;refine .ff (.st (.a (.int (zki c0 c1 c2 c3))) (rfl:nth [AV.str (TT c0 c1 c2 c3),AV.int (zki c0 c1 c2 c3)] 1=some (.int (zki c0 c1 c2 c3))) (.st .o (bt (b:=sizeL) (lT (zet c0 c1 c2 c3).2.2 (by decide))) (.st (.b false) (by rw [ziF,bne_self_eq_false]:(zki c0 c1 c2 c3 != ((tT c0 c1 c2 c3).length:Int))=false) (.ff ?_))));have cb:∀e∈(zbL c0 c1 c2 c3).L (mkN c0),e.c≤9:=fun e he=>by
  have h:=(zfr c0 c1 c2 c3).mem_iff.mp (List.mem_map_of_mem (f:=teE) he);obtain ⟨t,ht,h⟩:=mP h;have h:=congrArg Prod.snd h;have lf:=zfF c0 (List.mem_range.mp ht);have:e.c=(zab t (zad c0) (za4 c0)).toNat:=h.symm
  omega
 refine (let ww:Wt:=_;(?_:Sm _ ww));refine .loopM B' 68 (zaD (z:=(zbL c0 c1 c2 c3).L (mkN c0)) (f:=fun e=>pA (prE (mkN c0) e)) (q:=(false,(zbi c0 c1 c2 c3).map pA)) (v:= .ref 45) (by unfold zbi zal;rw [mN];rfl)) (zpD vs is c0 c1 c2 c3 c4) (Mp1 (fun e=> .int (e.c:Nat)) ((zbL c0 c1 c2 c3).L (mkN c0))) [] (.msk 1 (l40 c0 c1 c2 c3 [])) rfl (fun X X X=>⟨by kernel_rfl,by kernel_rfl,by kernel_rfl⟩) ?_ ?_
 ·intro acc k e ex r
  have c9:=cb e (mG ex);have d0:=zfb e.c c9;refine (let ww:Wt:=_;(?_:Sm _ ww));refine .st (.x (.str (dcE e.c))) (rfl:nth [SV.str (nmE (mkN c0) e.t e.c),SV.str (dcE e.c)] 1=some (.str (dcE e.c))) (.callP (zdB (P:=P.lv 16) (BL 16) (dcE e.c) e.c (show 1≤640 by decide) d0.1 d0.2.1 d0.2.2.1) ?_);exact .asIs (.st .o (an (r.len (n:=sizeL) (by rw [zqV];unfold nJ;exact lE nn (by decide:12<sizeL))) (rfl:(false || true)=true)) (.next 68 (zpD vs is c0 c1 c2 c3 c4) (Mp1 (fun e=> .int (e.c:Nat)) ((zbL c0 c1 c2 c3).L (mkN c0))) k (acc ++ [.int (e.c:Nat)]) (.msk 67 []) (r.next ex)))
 intro acc r;obtain rfl:=r.all;have ia:(((zbL c0 c1 c2 c3).L (mkN c0)).map fun e=>AV.int (e.c:Nat)).all (fun x=>x.int?.isSome)=true:=List.all_eq_true.mpr fun x hx=>(mP hx).elim fun e q=>q.2▸rfl;refine (let ww:Wt:=_;(?_:Sm _ ww));refine .asIs (.st (.b true) ia (.st (.li (coI c0 c1 c2 c3)) (by unfold coI;rw [mN];rfl:(((zbL c0 c1 c2 c3).L (mkN c0)).map fun e=>AV.int (e.c:Nat))=(coI c0 c1 c2 c3).map AV.int) (.st .o (bt (by rw [zpi];unfold nJ;exact lz2 0x4008284718000006c1c6000041 nn):Nat.blt (coI c0 c1 c2 c3).length 64=true) ?_)));have ci:((zbL c0 c1 c2 c3).L (mkN c0)).map (fun e=>AV.int (e.c:Nat))=(coI c0 c1 c2 c3).map AV.int:=by unfold coI;rw [mN];rfl
 refine (let ww:Wt:=_;(?_:Sm _ ww));refine .st (.num (zdK (coI c0 c1 c2 c3)) (coI c0 c1 c2 c3)) (aO (rfl:(zdK (coI c0 c1 c2 c3)).map AV.int=(zdK (coI c0 c1 c2 c3)).map AV.int) ci) ?_;exact .st (.b false) (by rw [zru];exact congrArg (!·) (bS (coI c0 c1 c2 c3)):(!(zdK (coI c0 c1 c2 c3)==coI c0 c1 c2 c3))=false) (.via (r34 (P.lv 19) vs is 26 (h26 vs is c0 c1 c2 c3 c4)) HC)
def gdA(c0 t:Nat):AV:= .int (gdN (zad c0) (za4 c0) t)
def ztV(vs:Array Value)(is:List Int)(c0 c1 c2 c3 c4:Nat)(acc:List AV)(k:Nat):Hp:= .of (c58 vs is c0 c1 c2 c3 c4 []++List.replicate 11 .other ++ [.riter (0+(k:Int)*1) (zeS (nI' c0) (nJ c0) k) 1, .list false acc, .frame []])
theorem zth(c0 k:Nat):((k/za4 c0:Nat):Int)+(((k%za4 c0:Nat):Int).fdiv (zad c0:Nat)+((k%za4 c0:Nat):Int).fmod (zad c0:Nat))=gdN (zad c0) (za4 c0) k:=by
 have lb:=zcc c0;rw [(dvE (k%za4 c0) (an (bt (lz1 0x6860000046880041 lb.1)) (bt (lz1 0x100000000000000002c2846000064180041 lb.2.1)):(Nat.blt 0 (zad c0)&&Nat.blt (zad c0) 18446744073709551616)=true)).1,zbE];rfl
def gdI(c0:Nat):List Int:=(List.range (zad c0+za4 c0)).map fun t=>gdN (zad c0) (za4 c0) t
def leI(c0:Nat):List Int:=(List.range (zad c0+za4 c0)).map fun t=>zab t (zad c0) (za4 c0)
theorem zt3{b x:Nat}(hb:0<b)(hb2:b≤1000)(hx:x≤1000):okD b x:=by
 have m:=zbX b;have b0:=zh6 hb;refine zmI (lE hx ?_) b0 (lT (zbs (k:=10) (lz1 0x100020a11800013e8082180041 hb2)) (by decide));exact lL (by decide:1000<2^110) (pR (by decide) (rA _ _))
theorem zjS(B:Tbl T3 P.c)(d l:Nat)(hl:0<l)(hl2:l≤1000)(hd:d≤1000){K:AV→Hp→Prop}{h:Hp}(k:K (zbt ((-(d:Int))/l) ((-(d:Int))%l)) h):za3 (P.lv 14).up (.glob 239) [.int (-(d:Int)), .int l] [] h K:=
 zmi B (-(d:Int)) l hl (lT (zbs (k:=10) (lz1 0x100020a11800013e8082180041 hl2)) (by decide)) (fun x hx=>zt3 hl hl2 (by omega)) k
theorem zrl(c0:Nat):(!((gdI c0==leI c0)==decide (-(za4 c0:Int)/(zad c0:Nat) + -(za4 c0:Int)%(zad c0:Nat)<0)))=false:=by
 have h:=ztg c0;rw [Int.fdiv_eq_ediv_of_nonneg _ (cN _),Int.fmod_eq_emod_of_nonneg _ (cN _)] at h;unfold gdI leI;rw [h,bS];rfl
def h28(vs:Array Value)(is:List Int)(c0 c1 c2 c3 c4:Nat):Hp:=(((ztV vs is c0 c1 c2 c3 c4 ((List.range (nJ c0)).map (gdA c0)) (nJ c0)).set 70 .other).set 72 .other).set 1 (.frame (("greed", .ref 71) :: l40 c0 c1 c2 c3 []))
theorem lawF(B:Tbl T3 P.c)(vs:Array Value)(is:List Int)(c0 c1 c2 c3 c4:Nat)(HC:Sm (P.lv 19) (r34 (P.lv 19) vs is 28 (h28 vs is c0 c1 c2 c3 c4))):Sm (P.lv 19) (r34 (P.lv 19) vs is 26 (h26 vs is c0 c1 c2 c3 c4)):=by
 have BL:=lvB B;have B':=lvB B 19;have lb:=zcc c0;have nn:zad c0+za4 c0≤12:=lz2 0x2c1c60000641801c0064180082 lb.2.1 lb.2.2.2;have bl:∀{x:Nat},0<x→x≤1000→(Nat.blt 0 x&&Nat.blt x 18446744073709551616)=true:=fun a b=>an (bt a) (bt (lE b (by decide)));refine .st .o (zaw (N:=zad c0+za4 c0) (lT nn (by decide))) ?_;refine .loopS B' 73 (nJ c0) (ztV vs is c0 c1 c2 c3 c4) (fun acc k=>acc=(List.range k).map (gdA c0)) [] (.msk 1 (l40 c0 c1 c2 c3 [])) rfl (rfl:(zad c0:Int)+(za4 c0:Nat)=(nJ c0:Nat)) (fun X X X=>⟨by kernel_rfl,by kernel_rfl⟩) ?_ ?_
 ·intro acc k hk r
  refine .dv k (za4 c0) (.md k (za4 c0) ?_ (bt (lz2 0x7860000047846000041 lb.2.2.1))) (bl (lz2 0x7860000047846000041 lb.2.2.1) (lz2 0x3e80821c006c1c6000041 nn));exact .st .o (dvE (k%za4 c0) (bl (x:=zad c0) (lz1 0x6860000046880041 lb.1) (lz1 0x3e8082180064180041 lb.2.1))).2 (.asIs (.st .o (an (bt (by rw [r,lM,lR];exact lL hk (lT nn (by decide))):Nat.ble acc.length.succ sizeL=true) (rfl:(false || true)=true)) (.next 73 (ztV vs is c0 c1 c2 c3 c4) (fun acc k=>acc=(List.range k).map (gdA c0)) k (acc ++ [.int (((k/za4 c0:Nat):Int)+(((k%za4 c0:Nat):Int).fdiv (zad c0:Nat)+((k%za4 c0:Nat):Int).fmod (zad c0:Nat)))]) (.msk 72 []) (by rw [r,List.range_succ,mA,zth c0 k];rfl))))
 intro acc r;obtain rfl:acc=(List.range (nJ c0)).map (gdA c0):=r;have e1:(List.range (nJ c0)).map (gdA c0)=(gdI c0).map AV.int:=by unfold gdI;rw [mN];rfl
 have e2:leL c0=(leI c0).map AV.int:=by unfold leI leL;rw [mN];rfl
 refine .asIs (.st (.num (gdI c0) (leI c0)) (aO e1 e2) (.callP (zjS (P:=P.lv 4) (BL 4) (za4 c0) (zad c0) (lz1 0x6860000046880041 lb.1) (lz1 0x3e8082180064180041 lb.2.1) (lz2 0x3e80821c006c1c6000041 nn)) (.st (.b false) (zrl c0) (.via (r34 (P.lv 19) vs is 28 (h28 vs is c0 c1 c2 c3 c4)) HC))))
open Mine.P2
theorem zeY(t l d:Nat):zb8 t l d=(zfL l d t:Nat):=by
 unfold zb8 zfL gr;exact Int.le_antisymm (lz3 0x81c0180148147146140001040) (lz3 0x81471461400081c0180141040)
theorem zcK(t l d:Nat):((t/d:Nat):Int)+(((t%d:Nat):Int).fdiv (l:Int)+((t%d:Nat):Int).fmod (l:Int))=zb8 t l d:=by
 have h:((t%d:Nat):Int).fdiv (l:Int)=((t%d/l:Nat):Int):=by rw [Int.fdiv_eq_ediv_of_nonneg _ (cN _)];rfl
 rw [h,zbE];unfold zb8;exact Int.le_antisymm (lz3 0x8147146140008147140185001040) (lz3 0x8147140185008147146140001040)
theorem zh9{t l d f:Nat}(hf:f≤t/d):zml t l d f=((t/d-f+gr l (t%d+f*d):Nat):Int):=by
 have e:((t%d:Nat):Int)+(f*d:Nat)=((t%d+f*d:Nat):Int):=rfl;have h:((t%d+f*d:Nat):Int).fdiv (l:Int)=(((t%d+f*d)/l:Nat):Int):=by rw [Int.fdiv_eq_ediv_of_nonneg _ (cN _)];rfl
 unfold zml gr;rw [e,h,zbE];exact Int.le_antisymm (lz5 0x2890070052852450081461430010481c0180041 (lzs _ _)) (lz5 0x28524500714814300a2401801410481c6000041 (lzc (lz2 0x7180047180041 hf)))
theorem zfS(t l d:Nat)(y:Int):y∈zbk t l d l↔∃w∈znA l d t,y=(w:Nat):=by
 unfold zbk znA;rw [List.mem_filterMap]
 constructor
 ·rintro ⟨f,hf,e⟩
  unfold zfT at e;rcases fT (decide ((f:Int)≤(t/d:Nat))) with q | q
  ·rw [q] at e
   have q:=oD q;have q':f≤t/d:=lz2 0x7180047146141041 q;exact ⟨_,List.mem_map.mpr ⟨f,List.mem_filter.mpr ⟨hf,dT q'⟩,rfl⟩,(sI e).symm.trans (zh9 q')⟩
  ·rw [q] at e;exact nomatch e
 ·rintro ⟨w,hw,rfl⟩
  obtain ⟨f,hf,rfl⟩:=mP hw;have hf:=List.mem_filter.mp hf;have q':f≤t/d:=oD hf.2;refine ⟨f,hf.1,?_⟩;unfold zfT;rw [dT (by exact lz2 0x7146141047180041 q':(f:Int)≤(t/d:Nat))];exact congrArg some (zh9 q')
theorem zh8(t d:Nat){l:Nat}(hl:0<l):zbI t l d∈zbk t l d l∧∀y∈zbk t l d l,zbI t l d≤y:=by
 have h:=zha t d hl;induction e:zbk t l d l with
 | nil=>rw [e] at h;exact nomatch h
 | cons x r=>
  rw [e] at h;have:=zgs x r;rw [show r.foldl min x=zbI t l d from sI h] at this;exact this
theorem zpw{t l d k r:Nat}(hl:0<l)(he:k*l=d+r)(hr:r<l)(hk:r<k):zbI t l d=zb8 t l d:=by
 have h:=zh8 t d hl;rw [zeY];have h2:=h.2 _ ((zfS t l d _).mpr ⟨_,zjf hl,rfl⟩);obtain ⟨w,hw,e⟩:=(zfS t l d _).mp h.1;have:=zlH he hr hk w hw;exact Int.le_antisymm (li [_] [_] 0x6146041185181041 h2) (li [_,_] [_] 0x61c5041187001186141042 (lir e) this)
theorem zpu{N l d k r:Nat}(h2:2≤l)(hd:l<d)(he:k*l=d+r)(hr:r<l)(hk:k≤r):zbI (N*d+k*l) l d<zb8 (N*d+k*l) l d:=by
 have h:=zh8 (N*d+k*l) d (lz1 0x6860000046880041 h2:0<l);have m:=zll he hr hd h2 N;rw [zeY,m.2];have:=h.2 _ ((zfS _ l d _).mpr ⟨_,m.1,rfl⟩);exact li [_,_,_] [_] 0x7848000161180041188005181047180042 hk this
def w11n(P:PM T3)(d l:Nat)(q r:Int):Wt:=pW P (fd 16,[]) [.int d, .int (-(l:Int))] (zbt q (-r))
theorem zmh(B:Tbl T3 P.c)(d l:Nat)(hl:0<l)(hl2:l≤1000)(hd:d≤1000){K:AV→Hp→Prop}{h:Hp}(k0:K (zbt ((-(d:Int))/l) (-((-(d:Int))%l))) h):za3 (P.lv 15).up (.glob 239) [.int d, .int (-(l:Int))] [] h K:=by
 have B':Tbl T3 (P.lv 15).c:=P.lv_c 15▸B;refine zb1 (P:=P.lv 15) B' (?_:Sm (P.lv 15) (w11n (P.lv 15) d l ((-(d:Int))/l) ((-(d:Int))%l))) k0;refine .st (.b false) (beq_eq_false_iff_ne.mpr (by exact fun zz=>lzn (lz1 0x20840006144801046860000042 hl (lir zz))):(-(l:Int)==0)=false) (.st (.b true) (dT (by exact lz1 0x20846144001046860000041 hl):decide (-(l:Int)<0)=true) ?_);refine .callP (zjS B d l hl hl2 hd) ?_ (e:=Eq.trans (b:=some (.glob 239, [.int (-(d:Int)), .int (-(-(l:Int)))], [])) (by kernel_rfl) (by rw [Int.neg_neg]));exact .asIs (.fin (rfl:zbt ((-(d:Int))/l) (-((-(d:Int))%l))=zbt ((-(d:Int))/l) (-((-(d:Int))%l))))
noncomputable def prA(p:Nat×Nat):AV:= .tup [.int p.1, .int p.2]
def prL(c0:Nat):List (Nat×Nat):=[(zad c0,za4 c0),(zhc c0,zer c0)]
def ztS(vs:Array Value)(is:List Int)(c0 c1 c2 c3 c4:Nat)(_:Unit)(k:Nat):Hp:= .of (c58 vs is c0 c1 c2 c3 c4 []++List.replicate 14 .other ++ [.list false ((prL c0).map prA), .liter (.ref 73) k])
noncomputable def frQ(l d k r:Nat):List (Str×AV):=[("cheap", .int l),("dear", .int d),("quotient", .int (-(k:Int))),("rest", .int r)]
noncomputable def tI2(c4 d k l:Nat):Int:=((c4*d:Nat):Int) - -((k*l:Nat):Int)
def zsh(vs:Array Value)(is:List Int)(c0 c1 c2 c3 c4 l d k r n:Nat)(_:Unit)(j:Nat):Hp:= .of (c58 vs is c0 c1 c2 c3 c4 (frQ l d k r)++List.replicate 14 .other ++ [.list false ((prL c0).map prA), .liter (.ref 73) n, .list false [.int (c4:Nat), .int (tI2 c4 d k l)], .liter (.ref 75) j])
theorem zch{x:Nat}(h:x≤10000000000000000):za1 (x:Int)=true:=zap (k:=60) (by rw [Int.natAbs_natCast];exact lE h (by decide)) (by decide)
theorem zsX{l d:Nat}{q r:Int}(hl:0<l)(hd:0<d)(eq:(-(d:Int))/(l:Int)=q)(er:(-(d:Int))%(l:Int)=r):∃k r':Nat,q = -(k:Int)∧r=(r':Int)∧k*l=d+r'∧r'<l:=by
 have l0:(l:Int)≠0:=by exact fun zz=>lzn (lz1 0x821000806141046860000042 hl (liq zz))
 have h:=Int.mul_ediv_add_emod (-(d:Int)) l;have h1:=Int.emod_nonneg (-(d:Int)) l0;have h2:=Int.emod_lt_of_pos (-(d:Int)) (by exact lz1 0x185860001046860000041 hl:(0:Int)<l);rw [eq,er] at h;rw [er] at h1 h2;have q0:q<0:=by
  rcases Int.lt_or_le q 0 with z | z
  ·exact z
  ·have:=Int.mul_nonneg (by exact lz1 6534729792:(0:Int)≤l) z
   exact li [_] [_,_,_] 0x208480010068010478010461441c6001046860000044 hd (liq h) h1 this
 refine ⟨(-q).toNat,r.toNat,by omega,by omega,?_,by omega⟩;have e1:(((-q).toNat*l:Nat):Int) = -(l*q):=by
  rw [Int.natCast_mul,Int.toNat_of_nonneg (by exact li [] [_] 0x184801060846001041 q0),Int.neg_mul,Int.mul_comm]
 omega
theorem un_b(c0:Nat):0<unN c0∧unN c0<2^7000∧unI c0=(unN c0:Nat):=by
 have p1:zmE c0%2<2:=mT _ (by decide);have p2:zmE c0<12000:=mT _ (by decide);have h1:2≤2^(1+zmE c0/2):=pR (n:=2) (i:=1) (by decide) (rA _ _);have h2:2^(1+zmE c0/2)<2^7000:=Nat.pow_lt_pow_right (by decide) (by omega);unfold unN unI;refine ⟨by exact lz3 0x88600000462001c0047880062846000043 p1 h1 (lzs _ _),lE (Nat.sub_le _ _) h2,?_⟩;rw [Int.natCast_sub (by exact lz2 0x7180047880062846000042 p1 h1)]
def h29(vs:Array Value)(is:List Int)(c0 c1 c2 c3 c4:Nat):Hp:=(ztS vs is c0 c1 c2 c3 c4 () (prL c0).length).set 74 .other
theorem lawG(B:Tbl T3 P.c)(vs:Array Value)(is:List Int)(c0 c1 c2 c3 c4:Nat)(hc4:c4<10000000000000000)(HC:Sm (P.lv 19) (r34 (P.lv 19) vs is 29 (h29 vs is c0 c1 c2 c3 c4))):Sm (P.lv 19) (r34 (P.lv 19) vs is 28 (h28 vs is c0 c1 c2 c3 c4)):=by
 have BL:=lvB B;have B':=lvB B 19;have lb:=zcc c0;have bl:∀{x:Nat},0<x→x≤1000→(Nat.blt 0 x&&Nat.blt x 18446744073709551616)=true:=fun a b=>an (bt a) (bt (lE b (by decide)));refine (let ww:Wt:=_;(?_:Sm _ ww));refine .tt ?_;refine .loopM B' 75 (zaD (z:=prL c0) (f:=prA) (q:=(false,(prL c0).map prA)) (v:= .ref 73) rfl) (ztS vs is c0 c1 c2 c3 c4) (fun X X=>True) () (.msk 1 (l40 c0 c1 c2 c3 [])) trivial (fun X X X=>⟨by kernel_rfl,by kernel_rfl,by kernel_rfl⟩) ?_ ?_
 ·intro acc k x e X
  obtain ⟨l,d⟩:=x;obtain ⟨l2,ld,d2⟩:2≤l∧l<d∧d≤200:=by
   have h:(l,d)=(zad c0,za4 c0)∨(l,d)=(zhc c0,zer c0):=by
    have:=mG e;unfold prL at this
    simpa only [List.mem_cons,List.not_mem_nil,or_false] using this
   rcases h with h | h
   ·obtain ⟨rfl,rfl⟩:=Prod.mk.inj h;exact ⟨lz1 0x6880046880041 lb.1,⟨lz2 0x7846000047846000041 lb.2.2.1,lz2 0xc80821c00641801c0064180042 lb.2.1 lb.2.2.2⟩⟩
   ·obtain ⟨rfl,rfl⟩:=Prod.mk.inj h
    unfold zer zhc;exact ⟨lz1 448832995392,⟨lz2 0x7846880000846880000040,lz2 0x320208784688000000106408284700006b846000042 (lzm _ _) (lzm _ _)⟩⟩
  refine (let ww:Wt:=_;(?_:Sm _ ww));refine .callP (zjS (P:=P.lv 4) (BL 4) d l (by exact lz1 0x6860000046880041 l2) (by exact lz2 0xfa020860010c80821c0047846000042 ld d2) (by exact lz1 0xfa020860010c8082180041 d2)) (.callP (zmh (P:=P.lv 3) (BL 3) d l (by exact lz1 0x6860000046880041 l2) (by exact lz2 0xfa020860010c80821c0047846000042 ld d2) (by exact lz1 0xfa020860010c8082180041 d2)) ?_);generalize eq:(-(d:Int))/(l:Int)=q;generalize er:(-(d:Int))%(l:Int)=r;refine (let ww:Wt:=_;(?_:Sm _ ww));refine .st (.li [q,-r]) (rfl: [SV.int q,SV.int (-r)] = [q,-r].map SV.int) (.st (.li [q,-r]) (rfl: [SV.int q,SV.int (-r)] = [q,-r].map SV.int) (.st (.b false) (by rw [bS];rfl:(!([q,-r] == [q,-r]))=false) ?_));refine .rf (.a (.int (c4:Nat))) (some (AV.int (c4:Nat))) (.rf (.a (.int (c4:Nat))) (some (AV.int (c4:Nat))) ?_);obtain ⟨k',r',rfl,rfl,he,hr⟩:=zsX (by exact lz1 0x6860000046880041 l2:0<l) (by exact lz2 0x7860000047846000041 ld:0<d) eq er;have kd:k'≤1000:=by
   have:k'*1≤k'*l:=Nat.mul_le_mul_left _ (by exact lz1 0x6840046880041 l2);exact lz5 0xfa0208a0012212810011a12400012470080010c80821c0087846000045 ld d2 (lzq he) hr this
  have e1:(c4:Int)*(d:Int)=((c4*d:Nat):Int)∧(za1 (c4:Int)&&za1 (d:Int))=true:=⟨(Int.natCast_mul c4 d).symm,an (zch (lO hc4)) (zch (by exact lz1 0x8e1bc9bf04000090860010c8082180041 d2))⟩;have sk:za1 (-(k':Int))=true:=by unfold za1;rw [Int.natAbs_neg];exact zch (x:=k') (by exact lz1 0x8e1bc9bf04000090860013e8082180041 kd)
  have e2:(-(k':Int))*(l:Int) = -((k'*l:Nat):Int)∧(za1 (-(k':Int))&&za1 (l:Int))=true:=⟨by rw [Int.natCast_mul,Int.neg_mul],an sk (zch (by exact lz2 0x8e1bc9bf04000090860010c80821c0047846000042 ld d2))⟩;refine (let ww:Wt:=_;(?_:Sm _ ww));refine .st (.i (c4*d:Nat)) e1 (.st (.i (-((k'*l:Nat):Int))) e2 ?_);refine .tt (.loopM B' 77 (zaD (z:= [c4,c4*d+k'*l]) (f:=fun (t:Nat)=>AV.int (t:Nat)) (q:=(false, [.int (c4:Nat), .int (tI2 c4 d k' l)])) (v:= .ref 75) (by unfold tI2;rw [Int.sub_neg,←Int.natCast_add];rfl)) (zsh vs is c0 c1 c2 c3 c4 l d k' r' (k+1)) (fun X X=>True) () (.msk 1 (l40 c0 c1 c2 c3 (frQ l d k' r'))) trivial (fun X X X=>⟨by kernel_rfl,by kernel_rfl,by kernel_rfl⟩) ?_ ?_)
  ·intro X j t et Z
   have tm:t=c4∨t=c4*d+k'*l:=by
    have:=mG et
    simpa using this
   have cd:c4*d≤10000000000000000*200:=Nat.mul_le_mul (lO hc4) d2;have t100:t<2^100:=lE (by omega:t≤10000000000000000*200+10000) (by decide);have ub:=un_b c0;refine (let ww:Wt:=_;(?_:Sm _ ww));refine .dv t d (.md t d (.st .o (dvE (t%d) (bl (x:=l) (by exact lz1 0x6860000046880041 l2) (by exact lz2 0xfa020860010c80821c0047846000042 ld d2))).2 ?_) (bt (by exact lz2 0x7860000047846000041 ld))) (bl (by exact lz2 0x7860000047846000041 ld) (by exact lz1 0xfa020860010c8082180041 d2));refine .callP (zme (P:=P.lv 4) (BL 4) t l d (unN c0) t100 (by exact lz1 0x6860000046880041 l2) (by exact lz2 0xfa020860010c80821c0047846000042 ld d2) (by exact lz2 0x7860000047846000041 ld) (by exact lz1 0xfa020860010c8082180041 d2) ub.1 7000 (rL _) ub.2.1) ?_ (e:=Eq.trans (b:=some (.glob 404, [.int (t:Nat), .int (l:Nat), .int (d:Nat), .int (unI c0)], [])) (by kernel_rfl) (by rw [ub.2.2]));refine .st (.b false) (by rw [zcK,bne_self_eq_false]:(zb8 t l d != ((t/d:Nat):Int)+(((t%d:Nat):Int).fdiv (l:Int)+((t%d:Nat):Int).fmod (l:Int)))=false) ?_;refine .callP (zrN (P:=P.lv 18) (BL 18) t l d (by exact lz1 0x6860000046880041 l2) (by exact lz2 0xfa020860010c80821c0047846000042 ld d2) (by exact lz2 0x7860000047846000041 ld) (by exact lz1 0xfa020860010c8082180041 d2)) ?_;rcases Nat.lt_or_ge r' k' with q | q
   ·refine .st (.b true) (dT (by exact lz2 0x8211851c5100001047846000041 q):decide (-(k':Int)+(r':Int)<0)=true) ?_
    refine (let ww:Wt:=_;(?_:Sm _ ww));refine .st (.b false) (by rw [zcK,zpw (by omega) he hr q,bne_self_eq_false]:(((t/d:Nat):Int)+(((t%d:Nat):Int).fdiv (l:Int)+((t%d:Nat):Int).fmod (l:Int)) != zbI t l d)=false) ?_;exact .ff (.st (.b false) (dF (by exact fun zz=>lzn (lz2 0x8210001851c5100801047846000042 q zz)):decide (0≤ -(k':Int)+(r':Int))=false) (.ff (.next 77 (zsh vs is c0 c1 c2 c3 c4 l d k' r' (k+1)) (fun X X=>True) j () (.msk 1 (l40 c0 c1 c2 c3 (frQ l d k' r'))) trivial)))
   ·refine .st (.b false) (dF (by exact fun zz=>lzn (lz2 0x8210008211c5185100001047180042 q zz)):decide (-(k':Int)+(r':Int)<0)=false) ?_
    refine .ff (.st (.b true) (dT (by exact lz2 0x1c5185100801047180041 q):decide (0≤ -(k':Int)+(r':Int))=true) (.rf (.a (.int (c4:Nat))) (some (AV.int (c4:Nat))) ?_));rcases tm with rfl | rfl
    ·exact .st (.b false) (by rw [bne_self_eq_false]:((t:Int) != (t:Int))=false) (.ff (.next 77 (zsh vs is c0 c1 c2 c3 t l d k' r' (k+1)) (fun X X=>True) j () (.msk 1 (l40 c0 c1 c2 c3 (frQ l d k' r'))) trivial))
    ·have ne:(((c4*d+k'*l:Nat):Int) != (c4:Int))=true:=bne_iff_ne.mpr fun z=>by
      have:c4*1≤c4*d:=Nat.mul_le_mul_left _ (by exact lz2 0x7840047846000041 ld);exact lzn (lz6 0x2084000a84b04004b149280141049207000047846000044 ld (lzr he) (liq z) this)
     have lt:=zpu (N:=c4) l2 ld he hr q;refine (let ww:Wt:=_;(?_:Sm _ ww));refine .st (.b true) ne (.st (.b false) (dF (by rw [zcK];exact fun zz=>lzn (li [] [_,_] 0x208400061c1047846001042 lt zz)):decide ((((c4*d+k'*l)/d:Nat):Int)+((((c4*d+k'*l)%d:Nat):Int).fdiv (l:Int)+(((c4*d+k'*l)%d:Nat):Int).fmod (l:Int))≤zbI (c4*d+k'*l) l d)=false) (.ff ?_));exact .next 77 (zsh vs is c0 c1 c2 c3 c4 l d k' r' (k+1)) (fun X X=>True) j () (.msk 1 (l40 c0 c1 c2 c3 (frQ l d k' r'))) trivial
  intro X Z;refine (let ww:Wt:=_;(?_:Sm _ ww));exact .next 75 (ztS vs is c0 c1 c2 c3 c4) (fun X X=>True) k () (.msk 1 (l40 c0 c1 c2 c3 [])) trivial
 intro acc r;refine (let ww:Wt:=_;(?_:Sm _ ww));exact .via (r34 (P.lv 19) vs is 29 (h29 vs is c0 c1 c2 c3 c4)) HC
end Mn
end
section
open PySem PySem.W
set_option synthInstance.maxHeartbeats 400000
set_option synthInstance.maxSize 4000
namespace Mn
section
variable {P:PM T3}
def c75(vs:Array Value)(is:List Int)(c0 c1 c2 c3 c4:Nat)(fr:List (Str×AV))(p ln:Int)(pb:List AV):List AO:=c40 vs is c0 c1 c2 c3 c4 fr (some (.ref 49)) (some (.ref 57)) p ln pb++List.replicate 35 .other
def zsg(vs:Array Value)(is:List Int)(c0 c1 c2 c3 c4:Nat)(acc:List AV)(k:Nat):Hp:= .of (c75 vs is c0 c1 c2 c3 c4 [] (zki c0 c1 c2 c3) (lnE c0 c1 c2 c3) ((pbL c0 c1 c2 c3).drop k) ++ [.liter (.ref 23) k, .list false acc, .frame []])
noncomputable def zl2(k:Nat):Nat:=[0,3,5,9,12,12].getD k 0
noncomputable def elN(k:Nat):Nat:=[0,1,1,2,2,2].getD k 0
noncomputable def enW(k:Nat):List Nat:=[[10],[],[122,10],[122],[]].getD k []
def zfw(c0 c1 c2 c3 k:Nat):Nat:=(tT c0 c1 c2 c3).length+zl2 k
def lnS(c0 c1 c2 c3 k:Nat):Nat:=lnT c0 c1 c2 c3 3+elN k
def zrZ(vs:Array Value)(is:List Int)(c0 c1 c2 c3 c4:Nat)(acc:List AV):Hp:= .of (c75 vs is c0 c1 c2 c3 c4 [] (zfw c0 c1 c2 c3 0:Nat) (lnS c0 c1 c2 c3 0:Nat) [] ++ [.liter (.ref 23) 3, .list false acc, .frame []])
def zrY(vs:Array Value)(is:List Int)(c0 c1 c2 c3 c4:Nat)(acc:List AV)(k:Nat):Hp:= .of (c75 vs is c0 c1 c2 c3 c4 [] (zfw c0 c1 c2 c3 k:Nat) (lnS c0 c1 c2 c3 k:Nat) [] ++ [.other, .other, .other, .other, .riter (0+(k:Int)*1) ((5:Nat)-(k:Int)) 1, .list false acc, .frame []])
noncomputable def enL:List (List Nat):=[[10],[],[122,10],[122],[]]
theorem zoD:∀k,k<5→∀ln,zfD (ln+elN k) (tailT.drop (zl2 k))=(enW k,tailT.drop (zl2 (k+1)),ln+elN (k+1))
 | 0,_,_=>rfl
 | 1,_,_=>rfl
 | 2,_,_=>rfl
 | 3,_,_=>rfl
 | 4,_,_=>rfl
theorem zmJ:∀k,k<6→zl2 k≤12∧(tailT.drop (zl2 k)).length=12-zl2 k:=by decide +kernel
theorem ztC(B:Tbl T3 P.c)(c0 c1 c2 c3:Nat){k:Nat}(hk:k<5):za3 P.up.up.up (.glob 267) [.ref 1] [] (Hp.of (zaH (TT c0 c1 c2 c3) (zfw c0 c1 c2 c3 k:Nat) (lnS c0 c1 c2 c3 k:Nat) [])) (DK (.str (enW k)) (zaH (TT c0 c1 c2 c3) (zfw c0 c1 c2 c3 (k+1):Nat) (lnS c0 c1 c2 c3 (k+1):Nat) [])):=by
 have tl:=(zet c0 c1 c2 c3).2.2;have tn:tailT.length=12:=rfl;have tN:(TT c0 c1 c2 c3).length=(tT c0 c1 c2 c3).length+12:=by unfold TT;rw [lA,tn]
 have o1:=zmJ k (lz1 0x26846000065846000041 hk);have o2:=zmJ (k+1) (lz1 0x26861180000065846000041 hk);have dr:(TT c0 c1 c2 c3).drop (zfw c0 c1 c2 c3 k)=tailT.drop (zl2 k):=by
  unfold TT zfw;rw [List.drop_append];have:(tT c0 c1 c2 c3).drop ((tT c0 c1 c2 c3).length+zl2 k) = []:=List.drop_eq_nil_of_le (rA _ _);rw [this,List.nil_append,Nat.add_sub_cancel_left]
 have C:=zej B (TT c0 c1 c2 c3) (by rw [tN];exact lT (Nat.add_le_add_right tl 12) (by decide)) (zfw c0 c1 c2 c3 k) (lnS c0 c1 c2 c3 k) (by rw [tN];unfold zfw;exact lz2 0x2c1c018700006c180041 o1.1) _ ((congrArg (zfD _) dr).trans (zoD k hk _));have p1:(TT c0 c1 c2 c3).length-(tailT.drop (zl2 (k+1))).length=zfw c0 c1 c2 c3 (k+1):=by
  rw [tN,o2.2];unfold zfw;exact Nat.le_antisymm (lz4 0x724020006c240188000047180b00042 (lzs _ _) (lzc (lz2 0x2c1c018006c180041 (Nat.sub_le _ _)))) (lz4 0x91c8000046240b0800006c1c6000042 (lzc (lz1 0x2c18006c180041 o2.1)) (lzs _ _))
 rw [p1] at C;exact C
theorem zqN:∀m∈[[34],[92],[32],[35]],m.length=1∧okN m∧okN (m ++ [115])∧okN (m ++ [83])∧za8 m=m∧za8 (m ++ [115])=m ++ [115]∧za8 (m ++ [83])=m ++ [115]∧m≠[122]∧zaS m:=by unfold okN zaS;decide +kernel
theorem zt6(c0:Nat):MkOk (mkN c0):=by
 obtain ⟨a,b,c,d,e,f,g,h,i⟩:=zqN _ (zl4 c0);exact ⟨a,b,c,d,e,f,g,h,i⟩
theorem zqS(c0 c1 c2 c3:Nat):lnS c0 c1 c2 c3 5=1+(TT c0 c1 c2 c3).count 10:=by
 have e:zkh c0 c1 c2 c3 3=tT c0 c1 c2 c3:=by
  unfold zkh;rw [znI,List.take_of_length_le (eL (zbf (zah c0) (mT _ (by decide))))]
 unfold lnS lnT TT;rw [e,List.count_append,show tailT.count 10=2 from rfl,show elN 5=2 from rfl,Nat.add_assoc]
theorem lawH(B:Tbl T3 P.c)(Z:Hits P.c)(vs:Array Value)(is:List Int)(c0 c1 c2 c3 c4:Nat):Sm (P.lv 19) (r34 (P.lv 19) vs is 29 (h29 vs is c0 c1 c2 c3 c4)):=by
 have BL:=lvB B;have B':=lvB B 19;have f3:zah c0<3:=mT _ (by decide);have l3:=zbf (zah c0) f3;have ew:=zdM (zah c0) fun j=>AV.str (coN c0 c1 c2 c3 j);refine (let ww:Wt:=_;(?_:Sm _ ww));refine .loopM B' 78 (zaD (q:=(false,zhU (zah c0) (coL c0 c1 c2 c3))) (v:= .ref 23) ew) (zsg vs is c0 c1 c2 c3 c4) (Mp1 (fun j=>AV.str (coN c0 c1 c2 c3 j)) (zaP (zah c0))) [] (.msk 1 (l40 c0 c1 c2 c3 [])) rfl (fun X X X=>⟨by kernel_rfl,by kernel_rfl,by kernel_rfl⟩) ?_ ?_
 ·intro acc k j e r
  have ed:(pbL c0 c1 c2 c3).drop k = .str (coN c0 c1 c2 c3 j) :: (pbL c0 c1 c2 c3).drop (k+1):=by
   have h:(pbL c0 c1 c2 c3)[k]? = some (.str (coN c0 c1 c2 c3 j)):=by unfold pbL;rw [gM,e];rfl
   rw [List.drop_eq_getElem_cons (gE h).1,(gE h).2]
  have C:=zdA (P:=P.lv 18) (BL 18) (TT c0 c1 c2 c3) (zki c0 c1 c2 c3) (lnE c0 c1 c2 c3) (coN c0 c1 c2 c3 j) ((pbL c0 c1 c2 c3).drop (k+1)) (lE (by rw [List.length_drop];exact Nat.sub_le _ _:_≤(pbL c0 c1 c2 c3).length) (by unfold pbL;rw [lM,l3];decide));rw [←ed] at C;refine (let ww:Wt:=_;(?_:Sm _ ww));refine .callD C [32,33,34,35,36,37,38,31,39] ?_;exact .asIs (.st .o (an (r.len (n:=sizeL) (l3▸(by decide))) (rfl:(false || true)=true)) (.next 78 (zsg vs is c0 c1 c2 c3 c4) (Mp1 (fun j=>AV.str (coN c0 c1 c2 c3 j)) (zaP (zah c0))) k (acc ++ [.str (coN c0 c1 c2 c3 j)]) (.msk 77 []) (r.next e)))
 intro acc r;have ch:∀s∈(zaP (zah c0)).map (coN c0 c1 c2 c3),zaS s:=fun s m=>by
  obtain ⟨j,hj,rfl⟩:=mP m;exact fun x hx=>(zlT c0 c1 c2 c3 (zcw _ j hj) x hx).2.2
 have ew2:zhU (zah c0) (coL c0 c1 c2 c3)=((zaP (zah c0)).map (coN c0 c1 c2 c3)).map AV.str:=by rw [mN];exact ew
 have ew1:acc=((zaP (zah c0)).map (coN c0 c1 c2 c3)).map AV.str:=by rw [mN];exact r.all
 have e3:(!((zaP (zah c0)).map (coN c0 c1 c2 c3)==(zaP (zah c0)).map (coN c0 c1 c2 c3)))=false:=by rw [bS];rfl
 rw [l3];have p0:zki c0 c1 c2 c3=(zfw c0 c1 c2 c3 0:Nat):=ziF c0 c1 c2 c3;have q0:lnE c0 c1 c2 c3=(lnS c0 c1 c2 c3 0:Nat):=rfl;have ep:zsg vs is c0 c1 c2 c3 c4 acc 3=zrZ vs is c0 c1 c2 c3 c4 acc:=by
  have:(pbL c0 c1 c2 c3).drop 3 = []:=List.drop_eq_nil_of_le (by unfold pbL;rw [lM,l3];exact rL _);unfold zsg zrZ;rw [this,p0,q0]
 rw [ep];refine (let ww:Wt:=_;(?_:Sm _ ww));refine .asIs (.st (.txt ((zaP (zah c0)).map (coN c0 c1 c2 c3)) ((zaP (zah c0)).map (coN c0 c1 c2 c3))) (aO ew1 (aO ew2 (aO ch ch))) (.st (.b false) e3 ?_));refine .st (.a (.int (zfw c0 c1 c2 c3 0:Nat))) (rfl:nth [AV.str (TT c0 c1 c2 c3),AV.int (zfw c0 c1 c2 c3 0:Nat)] 1=some (.int (zfw c0 c1 c2 c3 0:Nat))) (.st .o (bt (b:=sizeL) (lT (zet c0 c1 c2 c3).2.2 (by decide))) (.st (.b false) (bne_self_eq_false ((tT c0 c1 c2 c3).length:Int):(((zfw c0 c1 c2 c3 0:Nat):Int) != ((tT c0 c1 c2 c3).length:Int))=false) (.ff ?_)));refine .ok (.loopN B' 82 5 (zrY vs is c0 c1 c2 c3 c4) (fun acc k=>acc=(List.range k).map fun k=>AV.str (enW k)) [] (.msk 1 (l40 c0 c1 c2 c3 [])) rfl (fun X X X=>⟨by kernel_rfl,by kernel_rfl⟩) ?_ ?_)
 ·intro acc k hk r
  refine (let ww:Wt:=_;(?_:Sm _ ww));refine .callD (ztC (P:=P.lv 16) (BL 16) c0 c1 c2 c3 hk) [32,33,34,35,36,37,38,31,39] ?_;exact .asIs (.st .o (an (bt (by rw [r,lM,lR];exact lT hk (by decide)):Nat.ble acc.length.succ sizeL=true) (rfl:(false || true)=true)) (.next 82 (zrY vs is c0 c1 c2 c3 c4) (fun acc k=>acc=(List.range k).map fun k=>AV.str (enW k)) k (acc ++ [.str (enW k)]) (.msk 81 []) (by rw [r,List.range_succ,mA];rfl)))
 intro acc r;obtain rfl:acc = [.str [10], .str [], .str [122,10], .str [122], .str []]:=r;have ce:∀s∈enL,zaS s:=by unfold zaS;decide
 refine (let ww:Wt:=_;(?_:Sm _ ww));refine .asIs (.tt (.st (.txt enL enL) (aO (rfl: [AV.str [10], .str [], .str [122,10], .str [122], .str []]=enL.map AV.str) (aO (rfl: [AV.str [10], .str [], .str [122,10], .str [122], .str []]=enL.map AV.str) (aO ce ce))) (.st (.b false) (rfl:(!(enL==enL))=false) ?_)));have cz:(!(((lnS c0 c1 c2 c3 5:Nat):Int)==1+zdy (TT c0 c1 c2 c3) [10]))=false:=by rw [zqS,zfc,Int.natCast_add,show ((1:Nat):Int)=1 from rfl,bS];rfl
 refine (let ww:Wt:=_;(?_:Sm _ ww));refine .rf (.a (.str (TT c0 c1 c2 c3))) (some (AV.str (TT c0 c1 c2 c3))) (.st (.b false) cz (.ff ?_));have Z15:Hits (P.lv 15).c:=P.lv_c 15▸Z;refine (let ww:Wt:=_;(?_:Sm _ ww));refine .st (.a (.str [10])) (rfl:nth [AV.str [10], .str [], .str [122,10], .str [122], .str []] 0=some (.str [10])) (.callP (zrI (P:=P.lv 15) (BL 15) Z15 (mkN c0) (zt6 c0)) ?_);exact .asIs (.endD 1 (.bool true) [.flist vs 0 is] [0])
end
end Mn
end
section
open PySem PySem.W
namespace Mn
section
variable {P:PM T3}
theorem zrH(B:Tbl T3 P.c)(Z:Hits P.c)(vs:Array Value)(is:List Int)(hl:is.length≤63):za3 (P.lv 19).up (.glob 409) [.ref 0] [] (Hp.of [.flist vs 0 is]) (DK (.bool true) [.flist vs 0 is]):=
 lawA B vs is hl fun c0 c1 c2 c3 c4 b=>lawB B vs is c0 c1 c2 c3 c4 (lawC B vs is c0 c1 c2 c3 c4 (lawD B vs is c0 c1 c2 c3 c4 (lawE B vs is c0 c1 c2 c3 c4 (lawF B vs is c0 c1 c2 c3 c4 (lawG B vs is c0 c1 c2 c3 c4 b.2.2.2.2 (lawH B Z vs is c0 c1 c2 c3 c4))))))
end
end Mn
end
section
open PySem PySem.W PySem.Calls PyProof.Rows PySem.Builtin PySem.Builtin.Re
namespace Mn
section
variable {p:Program} {w:World} {S:SharedT} {T:TabsL}
theorem zmC{a:Nat}{c z:List Nat}(h:zsU T S (a,c)=true)(hz:z.length<2^62)(F:zfo (Sre.forSearch c.toArray z.toArray 0 0 z.length false)):zrW (zpf T S p w) a z:=
 ⟨zaX (zas h).1,(gB.ex (zas h).2).elim fun x q=>(gB.ex (zas q.2).2).elim fun v u=>(gB.ex (zas u.2).2).elim fun t r=>(gB.ex (zas r.2).2).elim fun y k=>(zja k.1).elim fun o e=>by
 obtain ⟨cl,dt⟩:=x;obtain rfl:cl = .type "re.Pattern" :=oD (zas q.2).1;obtain rfl:dt = .fields v:=zgQ u.1;have ec:((y.1.map reRawOf).map (·.toNat)).toList=c:=oD (zaa 0 k.2);exact ⟨v,t,y.1,y.2,o,c.toArray,zdE q.1,i?_is (oD (zas u.2).1),zkS r.1,oD (zaa 3 k.2),zaX (zas r.2).1,e.1,e.2,by rw [←ec],F,hz⟩⟩
theorem zsr(h:(stL T S).all id=true):VeB (zpf T S p w):=
 ⟨⟨_,Heap.Ns.of_isNs (zaa 0 (zaa 0 h)),oD (zaa 6 h)⟩,_,Heap.Ns.of_isNs (zaa 1 (zaa 0 h)),oD (zaa 7 h)⟩
theorem zoZ:zfo (Sre.forSearch (([14,10,4,1,1,22,0,31,16,127,0,13,7,22,0,31,16,127,0,1]:List Nat).toArray) ([122,10]:List Nat).toArray 0 0 2 false):=by unfold zfo;kernel_rfl
theorem zoY:zfo (Sre.forSearch (([14,14,4,1,1,9,4294966783,0,0,2147483648,0,0,0,0,0,13,11,9,4294966783,0,0,2147483648,0,0,0,0,0,1]:List Nat).toArray) ([10]:List Nat).toArray 0 0 1 false):=by unfold zfo;kernel_rfl
theorem zoS(h:(stL T3r S).all id=true):Hits (zpf T3r S p w):=
 ⟨zsr h,zmC (zel (zaa 5 h) (zae (by kernel_rfl:T3r.rxs.lookup 43=some [14,10,4,1,1,22,0,31,16,127,0,13,7,22,0,31,16,127,0,1]))) (by decide) zoZ,zmC (zel (zaa 5 h) (zae (by kernel_rfl:T3r.rxs.lookup 48=some [14,14,4,1,1,9,4294966783,0,0,2147483648,0,0,0,0,0,13,11,9,4294966783,0,0,2147483648,0,0,0,0,0,1]))) (by decide) zoY⟩
end
end Mn
end
section
open PySem PySem.W PySem.Calls PyProof.Rows
namespace Mn
theorem zlG(w:World)(q:Pos):head3 w q=some (true,zjg):=(congrArg (head3 · q) (World.withFollow_self w "special-get-raises")).symm.trans (zfK (w.params.followText "special-get-raises") w q)
theorem zfm{B h:Heap}{x:Obj}{b:Addr}{o:Obj}(hs:∃o,B.get? cStatics=some o)(K:asItWas B h b o):asItWas (B.push x) h b o:=
 K.imp id fun k=>k.imp (fun ⟨⟨c,o',vs,k1,k2⟩,k5⟩=>⟨⟨c,o',vs,pS _ k1,k2⟩,k5⟩) fun ⟨e,k1,k2,k3⟩=>⟨e,k1,k2,fun key=>hs.elim fun X ho=>(OldK.staticOf_congr ((pS _ ho).trans ho.symm) key:staticOf (B.push x) key=staticOf B key).symm▸k3 key⟩
theorem ziD{B:Heap}{x:Obj}(hl:x.isFreed=false){b:Addr}{o:Obj}(e:(B.push x).get? b=some o):B.get? b=some o∨(b=B.objs.size∧o=x):=
 (Nat.lt_or_ge b B.objs.size).imp (fun q=>Heap.get?_some_iff.mpr ((Heap.get?_some_iff.mp e).imp (fun z=>(Array.getElem?_eq_getElem q).trans ((Array.getElem?_push_lt (xs:=B.objs) (x:=x) q).symm.trans z)) id)) fun q=>by
  have hb:=hZ e;rw [Heap.size_push] at hb;obtain rfl:b=B.objs.size:=Nat.le_antisymm (Nat.le_of_lt_succ hb) q;exact ⟨rfl,sI (e.symm.trans (pZ _ hl))⟩
theorem ziK{B h:Heap}{x:Obj}(hs:∃o,B.get? cStatics=some o)(hl:x.isFreed=false)(K:OldK B h)(hx:h.get? B.objs.size=some x):OldK (B.push x) h:=
 ⟨fun b o e=>(ziD hl e).elim (fun q=>zfm hs (K.old b o q)) fun ⟨q1,q2⟩=> .inl (q1▸q2▸hx),fun b o e=>(ziD hl e).elim (fun q=>K.there b o q) fun ⟨q1,X⟩=>⟨x,q1▸hx⟩⟩
theorem zoO{W:Wd}{vs:List Value}{is:List Int}(h:IntsAre vs is):Rs (VR W 0) (is.map .int) vs:=by
 induction h with
 | nil=>exact .nil
 | cons i t X ih=>exact .cons ⟨t,rfl⟩ ih
section
variable {p:Program} {w:World} {S:SharedT} {T:TabsL}
noncomputable def W0(S:SharedT):Wd:=⟨fun X=>S.abs.heap.objs.size,fun X=>none⟩
theorem zi9(h:(stL T S).all id=true)(hg:S.gens = #[]){vs:List Value}{is:List Int}{tk:Nat}(hI:IntsAre vs is):
  Rel (zpf T S p w) (W0 S) (Hp.of [.flist vs.toArray 0 is]) {S.abs with heap:=S.abs.heap.push (zb7 vs.toArray),toks:=tk} where
 at_:=fun n q X=>⟨by
  induction e:S.abs.heap.get? S.abs.heap.objs.size with
  | none=>exact e
  | some o=>exact absurd (hZ e) (Nat.lt_irrefl _),by
  obtain rfl:n=0:=Nat.lt_one_iff.mp q;exact ⟨_,pZ _ rfl,rfl,zoO hI⟩⟩
 apart:=fun m n q r X X X=>(Nat.lt_one_iff.mp q).trans (Nat.lt_one_iff.mp r).symm
 fz:=fun X X e=>no e
 fzn:=fun X X e=>no e
 amb:=⟨fun b o e X=>pS _ e,fun t m=>have b:=zfV (zel (zaa 9 (zaa 0 h)) m);⟨fun q=>no (q.symm.trans b), .inl (pS _ b)⟩,hg,rfl⟩
theorem zkx(hF:T.fns.map (zsa T S)=T.fns.map zsb)(hT:(T.tA.all fun t=>T.fns.any fun x=>decide (x.2.1.tab.map (·.1)=some t))=true){t:Addr}(m:t∈T.tA):isCodeTable S.abs.heap t:=
 (List.any_eq_true.mp (zel hT m)).elim fun x q=>(jE (oD q.2)).elim fun y z=>(jE (List.map_inj_left.mp hF x q.1)).elim fun f u=>
  (zff (congrArg (·.2.2.2.2.2.getD 1 true) u.2)).elim fun X h=>h.elim fun X h=>h.elim fun X h=>h.elim fun X h=>h.elim fun X h=>(z.2▸(h.2.2.2.2.2 y.1 y.2.1 y.2.2 z.1).2.2.1.isCodeTable :)
theorem zpB:(T3r.tA.all fun t=>T3r.fns.any fun x=>decide (x.2.1.tab.map (·.1)=some t))=true:=by kernel_rfl
end
theorem zq9{B h:Heap}{b:Addr}{vs:Array Value}(k:isCodeTable B b)(q:h.get? b=some {cls:= .none,data:= .fields vs}):asItWas B h b {cls:= .none,data:= .fields #[]}:= .inr (.inl ⟨k,rfl, #[],vs,rfl,by rw [Array.empty_append];exact q⟩)
abbrev rw3:=PySem.Challenge.rw_we0036_02
theorem zj3{w:World}{S:SharedT}(hS:znX S=zjg)(hg:S.gens = #[])(is:List Int)(vs:List Value)(tk:Nat)(hlen:is.length≤63)(hI:IntsAre vs is):
  wpAny (model pw3 w) callerA (call (.ref 409) [.ref S.abs.heap.objs.size]) (fun v s'=>v = .bool true∧OldK (S.abs.heap.push (zb7 vs.toArray)) s'.heap∧s'.os=S.abs.os∧s'.gens = #[]) (fun X X=>False)
   {S.abs with heap:=S.abs.heap.push (zb7 vs.toArray),toks:=tk}:=by
 have h1:(stL T3r S).all id=true:=congrArg (·.1) hS;have St:=znO (p:=pw3) (w:=w) h1 (congrArg (·.2.2.1) hS) (congrArg (·.2.2.2) hS);have Tb:=zq8 (p:=pw3) (w:=w) h1;have C:=zrH (P:=⟨_,St,0⟩) Tb (zoS h1) vs.toArray is hlen;refine wpAny_call (C callerA (fun X X=>False) _ _ (W0 S) (.ref 409) [.ref S.abs.heap.objs.size] [] ⟨⟨rfl,(by decide:callerA.depth+8*20<900),(by decide:callerA.units+60*20+70<cLine)⟩, [],rfl,fun X m=>nomatch m⟩ (zi9 h1 hg hI) rfl (.cons ⟨Nat.zero_lt_one,rfl⟩ .nil) .nil fun W' v val h' s' St' V K=>?_).2;obtain ⟨rfl,rfl⟩:=K;obtain rfl:val = .bool true:=V;have R:=St'.rel;have L:=(R.at_ 0 Nat.zero_lt_one rfl).2;have pl:W'.pl 0=S.abs.heap.objs.size:=St'.le.pl 0 Nat.zero_lt_one;refine ⟨rfl,ziK ((Heap.Ns.of_isNs (zaa 2 (zaa 0 h1))).imp fun X q=>q.elim fun X q=>q.elim fun X q=>q.1) rfl ⟨fun b o e=>?_,fun b o e=>?_⟩ (pl▸L.elim fun ob q=>q.1.trans (congrArg some q.2.1)),R.amb.os,R.amb.gens⟩
 ·refine (Decidable.em (b∈T3r.tA)).elim (fun m=>?_) fun m=> .inl (R.amb.base b o e m)
  obtain rfl:=sI (e.symm.trans (zfV (zel (zaa 9 (zaa 0 h1)) m)));exact (R.amb.tab b m).2.elim .inl fun ⟨X,Z,q,Y⟩=>zq9 (zkx (congrArg (·.2.2.2) hS) zpB m) q
 ·exact (Decidable.em (b∈T3r.tA)).elim (fun m=>(R.amb.tab b m).2.elim (fun q=>⟨_,q⟩) fun ⟨X,Z,q,Y⟩=>⟨_,q⟩) fun m=>⟨o,R.amb.base b o e m⟩
theorem zgA{S:SharedT}(hS:znX S=zjg)(hn:S.abs.heap.isNs mainGlobals=true):isTheDefsW pw3 S.abs.heap (Str.ofString "law")∧S.abs.heap.nsMap mainGlobals (Str.ofString "law")=some (.ref 409):=by
 have h1:(stL T3r S).all id=true:=congrArg (·.1) hS;have hgl:S.abs.heap.nsMap mainGlobals (Str.ofString "law")=some (.ref 409):=(gB.ex (zel (zaa 7 (zaa 0 h1)) (zae (by kernel_rfl:T3r.gl.lookup (Str.ofString "law")=some (.glob 409))))).elim fun u q=>q.1.trans (congrArg some (oD q.2));obtain ⟨fd,e0,e1⟩:=jE (congrArg (·.2.1) hS:zj2 S=some (("law" :Str),("law" :Str), [true,true,true]));obtain ⟨f,e2,e3⟩:=jE (List.map_inj_left.mp (congrArg (·.2.2.2) hS) (409,zaf pw3 34 none, []) (zae (by kernel_rfl:T3r.fns.lookup 409=some (zaf pw3 34 none, []))));obtain rfl:f=fd:=sI (e2.symm.trans e0);obtain ⟨o,k1,k2⟩:=zn0 e0;have bs:=congrArg (·.2.2) e1;exact ⟨⟨409,o,f,(zaf pw3 34 none).params,(zaf pw3 34 none).body,(zaf pw3 34 none).scope,(Pin.globalOf_eq hn _).trans hgl,k1,k2,by kernel_rfl,congrArg (·.1) e1,congrArg (·.2.1) e1,congrArg (·.1) e3,congrArg (·.2.1) e3,congrArg (·.2.2.1) e3,congrArg (·.2.2.2.1) e3,eI (congrArg (·.getD 0 true) bs),congrArg (·.2.2.2.2.1) e3,
  .inl ⟨by kernel_rfl,oD (congrArg (·.getD 1 true) bs)⟩, [],by kernel_rfl, .inl ⟨rfl,oD (congrArg (·.getD 2 true) bs)⟩⟩,hgl⟩
theorem st3:(behindTheImports pw3)[21]? = some pc3.st:=by kernel_rfl
theorem it3(env:Env):(evalEachOpt pc3.ks env).zip ((evalEach pc3.vs env).map fun v=>do let y←v;standAt pc3.dpos;pure y)=pc3.kvs.map fun kv=>(some (zcG kv),zcp pc3.dpos kv):=by kernel_rfl
noncomputable def up3(l:List Int):Int→Bool:=List.rec (motive:=fun X=>Int→Bool) (fun X=>true) (fun x X ih b=>decide (b<x)&&ih x) l
theorem zms:∀(l:List Int) (b:Int),up3 l b=true→(∀x,x∈l→b<x)∧l.Pairwise (· < ·)
 | [],_,_=>⟨fun X m=>(nomatch m), .nil⟩
 | x :: l,b,h=>by
  have q:=aI h;have lt:b<x:=oD q.1;have z:=zms l x q.2;exact ⟨fun y m=>(cP m).elim (fun e=>e▸lt) fun m=>Int.lt_trans lt (z.1 y m), .cons z.1 z.2⟩
theorem zj4:(up3 (pc3.kvs.map (·.1)) (-1)&&Nat.ble pc3.kvs.length sizeLine)=true:=by kernel_rfl
theorem zlo(w:World):Beh pw3 (Str.ofString "law") w:=by
 obtain ⟨h1,h2⟩:=zhg (p:=pw3) (w:=w) (n₀:=28) (ann:=6) (N:=100000) (i:=21) (x:=pc3) (k:=zuv) (y:=(true,zjg)) st3 it3 ⟨[], .nil,(zms (pc3.kvs.map (·.1)) (-1) (zas zj4).1).2⟩ (jL (zas zj4).2) (fun S0 S e=>congrArg (·.1) e)
  (fun S0 hS0=>by
   have:=zl0 w;unfold open3 openG at this;rw [←table_eq_tree,hS0] at this;have e:=sI this;exact ⟨congrArg (·.1) e,congrArg (·.2.1) e,congrArg (·.2.2.1) e,Array.size_eq_zero_iff.mp (congrArg (·.2.2.2) e)⟩)
  (fun q=>by
   have:=zlG w q;unfold head3 headG at this;rwa [←table_eq_tree] at this)
 refine ⟨h1,fun s hs=>?_⟩;obtain ⟨s₀,a1,a2,S0,S,a3,a4,a5,a6,a7,a8⟩:=h2 s hs;have a8:=congrArg (·.2) a8;exact ⟨s₀,S.abs,409,a1,a2,a4,a5,a6,a7,(zgA a8 a7).1,(zgA a8 a7).2,fun is vs tk hl hI=>zj3 a8 a6 is vs tk hl hI⟩
noncomputable def law3_holds.tw4428534553932587645:PySem.Program:=PySem.Challenge.pw_we0036_02
theorem law3_holds.te4428534553932587645:PySem.Challenge.pw_we0036_02=law3_holds.tw4428534553932587645:=rfl
set_option maxHeartbeats 0 in
set_option Elab.async true in
theorem law3_holds:rw3.Holds:=by
 w_on
 o_law
 rename_i said
 refine zhE said ?_ ?_ ?_ rfl ?_ (fun args h=>zkT rfl h) (zlo)
 ·w_witness2
 ·exact ⟨rfl,rfl,rfl,rfl,rfl,by decide +kernel⟩
 ·decide +kernel
 ·decide +kernel
end Mn
end
end
set_option maxHeartbeats 4000000 in
theorem PySem.Challenge.cw_we0036_02_holds : PySem.Challenge.rw_we0036_02.Holds :=
 Mn.law3_holds
