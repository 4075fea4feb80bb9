import PyProof.Rows.All
import Wide.All
import Open.Line
import Flt.RightMore
import Flt.RightOps
import KE.KNest
import PyProof.ExcStrAll.TypeError
import PyProof.Rows.Catch
import KE.KLam
import PyProof.ExcStrAll.ValueError
import PyProof.ExcArgsOwn
import PyProof.ExcStrCall
import PyProof.Rows.CatchOwn
import Flt.Calls5
import PyProof.ListMulAny
import Flt.Str
import Flt.Calls
import Flt.Ops
import KE.KIntText
import PySem.Challenge.RW_dn0166_12
set_option Elab.async false
set_option linter.all false
set_option autoImplicit false
set_option genSizeOf false
set_option genSizeOfSpec false
set_option genInjectivity false
set_option genCtorIdx false
set_option bootstrap.genMatcherCode false
section
namespace Mine.Internal
universe u1 u2 u3 u4 u5 u6
theorem aX{p q:Prop}{X:Prop}(h:p∧q)(k:p→q→X):X:=by
 obtain⟨h0,h1⟩:=h;exact k h0 h1
theorem gM{p q r:Prop}{X:Prop}(h:p∧q∧r)(k:p→q→r→X):X:=by
 obtain⟨h0,h1,h2⟩:=h;exact k h0 h1 h2
theorem za{p q r s:Prop}{X:Prop}(h:p∧q∧r∧s)(k:p→q→r→s→X):X:=by
 obtain⟨h0,h1,h2,h3⟩:=h;exact k h0 h1 h2 h3
theorem Sd{p q r s t:Prop}{X:Prop}(h:p∧q∧r∧s∧t)(k:p→q→r→s→t→X):X:=by
 obtain⟨h0,h1,h2,h3,h4⟩:=h;exact k h0 h1 h2 h3 h4
theorem Se{p q r s t u v:Prop}{X:Prop}(h:p∧q∧r∧s∧t∧u∧v)(k:p→q→r→s→t→u→v→X):X:=by
 obtain⟨h0,h1,h2,h3,h4,h5,h6⟩:=h;exact k h0 h1 h2 h3 h4 h5 h6
theorem au{α:Sort u1}{p:α→Prop}{X:Prop}(h: ∃a,p a)(k: ∀a,p a→X):X:=by
 obtain⟨a,h0⟩:=h;exact k a h0
theorem ai{α:Sort u1}{p q:α→Prop}{X:Prop}(h: ∃a,p a∧q a)(k: ∀a,p a→q a→X):X:=by
 obtain⟨a,h0,h1⟩:=h;exact k a h0 h1
theorem bK{α:Sort u1}{p q r:α→Prop}{X:Prop}(h: ∃a,p a∧q a∧r a)(k: ∀a,p a→q a→r a→X):X:=by
 obtain⟨a,h0,h1,h2⟩:=h;exact k a h0 h1 h2
theorem jD{α:Sort u1}{p q r s:α→Prop}{X:Prop}(h: ∃a,p a∧q a∧r a∧s a)(k: ∀a,p a→q a→r a→s a→X):X:=by
 obtain⟨a,h0,h1,h2,h3⟩:=h;exact k a h0 h1 h2 h3
theorem zc{α:Sort u1}{p q r s t:α→Prop}{X:Prop}(h: ∃a,p a∧q a∧r a∧s a∧t a)(k: ∀a,p a→q a→r a→s a→t a→X):X:=by
 obtain⟨a,h0,h1,h2,h3,h4⟩:=h;exact k a h0 h1 h2 h3 h4
theorem cg{α:Sort u1}{β:Sort u2}{p:α→β→Prop}{X:Prop}(h: ∃a b,p a b)(k: ∀a b,p a b→X):X:=by
 obtain⟨a,b,h0⟩:=h;exact k a b h0
theorem da{α:Sort u1}{β:Sort u2}{p q:α→β→Prop}{X:Prop}(h: ∃a b,p a b∧q a b)(k: ∀a b,p a b→q a b→X):X:=by
 obtain⟨a,b,h0,h1⟩:=h;exact k a b h0 h1
theorem b8{α:Sort u1}{β:Sort u2}{p q r:α→β→Prop}{X:Prop}(h: ∃a b,p a b∧q a b∧r a b)(k: ∀a b,p a b→q a b→r a b→X):X:=by
 obtain⟨a,b,h0,h1,h2⟩:=h;exact k a b h0 h1 h2
theorem ft{α:Sort u1}{β:Sort u2}{p q r s:α→β→Prop}{X:Prop}(h: ∃a b,p a b∧q a b∧r a b∧s a b)(k: ∀a b,p a b→q a b→r a b→s a b→X):X:=by
 obtain⟨a,b,h0,h1,h2,h3⟩:=h;exact k a b h0 h1 h2 h3
theorem cz{α:Sort u1}{β:Sort u2}{p q r s t:α→β→Prop}{X:Prop}(h: ∃a b,p a b∧q a b∧r a b∧s a b∧t a b)(k: ∀a b,p a b→q a b→r a b→s a b→t a b→X):X:=by
 obtain⟨a,b,h0,h1,h2,h3,h4⟩:=h;exact k a b h0 h1 h2 h3 h4
theorem CR{α:Sort u1}{β:Sort u2}{p q r s t u:α→β→Prop}{X:Prop}(h: ∃a b,p a b∧q a b∧r a b∧s a b∧t a b∧u a b)(k: ∀a b,p a b→q a b→r a b→s a b→t a b→u a b→X):X:=by
 obtain⟨a,b,h0,h1,h2,h3,h4,h5⟩:=h;exact k a b h0 h1 h2 h3 h4 h5
theorem xo{α:Sort u1}{β:Sort u2}{γ:Sort u3}{p q:α→β→γ→Prop}{X:Prop}(h: ∃a b c,p a b c∧q a b c)(k: ∀a b c,p a b c→q a b c→X):X:=by
 obtain⟨a,b,c,h0,h1⟩:=h;exact k a b c h0 h1
theorem gO{α:Sort u1}{β:Sort u2}{γ:Sort u3}{p q r:α→β→γ→Prop}{X:Prop}(h: ∃a b c,p a b c∧q a b c∧r a b c)(k: ∀a b c,p a b c→q a b c→r a b c→X):X:=by
 obtain⟨a,b,c,h0,h1,h2⟩:=h;exact k a b c h0 h1 h2
theorem qe{α:Sort u1}{β:Sort u2}{γ:Sort u3}{p q r s:α→β→γ→Prop}{X:Prop}(h: ∃a b c,p a b c∧q a b c∧r a b c∧s a b c)(k: ∀a b c,p a b c→q a b c→r a b c→s a b c→X):X:=by
 obtain⟨a,b,c,h0,h1,h2,h3⟩:=h;exact k a b c h0 h1 h2 h3
theorem Jz{α:Sort u1}{β:Sort u2}{γ:Sort u3}{p q r s t:α→β→γ→Prop}{X:Prop}(h: ∃a b c,p a b c∧q a b c∧r a b c∧s a b c∧t a b c)(k: ∀a b c,p a b c→q a b c→r a b c→s a b c→t a b c→X):X:=by
 obtain⟨a,b,c,h0,h1,h2,h3,h4⟩:=h;exact k a b c h0 h1 h2 h3 h4
theorem xq{α:Sort u1}{β:Sort u2}{γ:Sort u3}{p q r s t u v:α→β→γ→Prop}{X:Prop}(h: ∃a b c,p a b c∧q a b c∧r a b c∧s a b c∧t a b c∧u a b c∧v a b c)(k: ∀a b c,p a b c→q a b c→r a b c→s a b c→t a b c→u a b c→v a b c→X):X:=by
 obtain⟨a,b,c,h0,h1,h2,h3,h4,h5,h6⟩:=h;exact k a b c h0 h1 h2 h3 h4 h5 h6
theorem CS{α:Sort u1}{β:Sort u2}{γ:Sort u3}{p q r s t u v w:α→β→γ→Prop}{X:Prop}(h: ∃a b c,p a b c∧q a b c∧r a b c∧s a b c∧t a b c∧u a b c∧v a b c∧w a b c)(k: ∀a b c,p a b c→q a b c→r a b c→s a b c→t a b c→u a b c→v a b c→w a b c→X):X:=by
 obtain⟨a,b,c,h0,h1,h2,h3,h4,h5,h6,h7⟩:=h;exact k a b c h0 h1 h2 h3 h4 h5 h6 h7
theorem oq{α:Sort u1}{β:Sort u2}{γ:Sort u3}{δ:Sort u4}{p:α→β→γ→δ→Prop}{X:Prop}(h: ∃a b c d,p a b c d)(k: ∀a b c d,p a b c d→X):X:=by
 obtain⟨a,b,c,d,h0⟩:=h;exact k a b c d h0
theorem Gd{α:Sort u1}{β:Sort u2}{γ:Sort u3}{δ:Sort u4}{p q:α→β→γ→δ→Prop}{X:Prop}(h: ∃a b c d,p a b c d∧q a b c d)(k: ∀a b c d,p a b c d→q a b c d→X):X:=by
 obtain⟨a,b,c,d,h0,h1⟩:=h;exact k a b c d h0 h1
theorem eh{α:Sort u1}{β:Sort u2}{γ:Sort u3}{δ:Sort u4}{p q r:α→β→γ→δ→Prop}{X:Prop}(h: ∃a b c d,p a b c d∧q a b c d∧r a b c d)(k: ∀a b c d,p a b c d→q a b c d→r a b c d→X):X:=by
 obtain⟨a,b,c,d,h0,h1,h2⟩:=h;exact k a b c d h0 h1 h2
theorem CT{α:Sort u1}{β:Sort u2}{γ:Sort u3}{δ:Sort u4}{p q r s:α→β→γ→δ→Prop}{X:Prop}(h: ∃a b c d,p a b c d∧q a b c d∧r a b c d∧s a b c d)(k: ∀a b c d,p a b c d→q a b c d→r a b c d→s a b c d→X):X:=by
 obtain⟨a,b,c,d,h0,h1,h2,h3⟩:=h;exact k a b c d h0 h1 h2 h3
theorem Sf{α:Sort u1}{β:Sort u2}{γ:Sort u3}{δ:Sort u4}{p q r s t u:α→β→γ→δ→Prop}{X:Prop}(h: ∃a b c d,p a b c d∧q a b c d∧r a b c d∧s a b c d∧t a b c d∧u a b c d)(k: ∀a b c d,p a b c d→q a b c d→r a b c d→s a b c d→t a b c d→u a b c d→X):X:=by
 obtain⟨a,b,c,d,h0,h1,h2,h3,h4,h5⟩:=h;exact k a b c d h0 h1 h2 h3 h4 h5
theorem Ge{α:Sort u1}{β:Sort u2}{γ:Sort u3}{δ:Sort u4}{ε:Sort u5}{p q r s:α→β→γ→δ→ε→Prop}{X:Prop}(h: ∃a b c d e,p a b c d e∧q a b c d e∧r a b c d e∧s a b c d e)(k: ∀a b c d e,p a b c d e→q a b c d e→r a b c d e→s a b c d e→X):X:=by
 obtain⟨a,b,c,d,e,h0,h1,h2,h3⟩:=h;exact k a b c d e h0 h1 h2 h3
theorem Sg{α:Sort u1}{β:Sort u2}{γ:Sort u3}{δ:Sort u4}{ε:Sort u5}{p q r s t:α→β→γ→δ→ε→Prop}{X:Prop}(h: ∃a b c d e,p a b c d e∧q a b c d e∧r a b c d e∧s a b c d e∧t a b c d e)(k: ∀a b c d e,p a b c d e→q a b c d e→r a b c d e→s a b c d e→t a b c d e→X):X:=by
 obtain⟨a,b,c,d,e,h0,h1,h2,h3,h4⟩:=h;exact k a b c d e h0 h1 h2 h3 h4
theorem Sh{α:Sort u1}{β:Sort u2}{γ:Sort u3}{δ:Sort u4}{ε:Sort u5}{p q r s t u:α→β→γ→δ→ε→Prop}{X:Prop}(h: ∃a b c d e,p a b c d e∧q a b c d e∧r a b c d e∧s a b c d e∧t a b c d e∧u a b c d e)(k: ∀a b c d e,p a b c d e→q a b c d e→r a b c d e→s a b c d e→t a b c d e→u a b c d e→X):X:=by
 obtain⟨a,b,c,d,e,h0,h1,h2,h3,h4,h5⟩:=h;exact k a b c d e h0 h1 h2 h3 h4 h5
end Mine.Internal
end
section
namespace Mine.Internal
theorem jl{l h:Nat}(q:l<h):l+(h-l)/2<h:=Nat.add_lt_of_lt_sub' (Nat.div_lt_self (Nat.sub_pos_of_lt q) (by decide))
theorem mid_up{l h n x:Nat}(q:h-l≤n-x):h-(l+(h-l)/2+1)≤n-(x+1):=by
 show h-(l+((h-l)/2+1))≤n-x-1
 rw[←Nat.sub_sub]
 exact Nat.le_trans (Nat.sub_le_sub_left (Nat.succ_le_succ (Nat.zero_le _)) _) (Nat.sub_le_sub_right q 1)
theorem zd{l h n x:Nat}(p:l<h)(q:h-l≤n-x):l+(h-l)/2-l≤n-(x+1):=by
 rw[Nat.add_sub_cancel_left]
 exact Nat.le_sub_one_of_lt (Nat.lt_of_lt_of_le (Nat.div_lt_self (Nat.sub_pos_of_lt p) (by decide)) q)
theorem vT{l h:Nat}(q:l≤h):(l+h)/2=l+(h-l)/2:=by
 have e:l+h=(h-l)+l*2:=by rw[Nat.mul_two,←Nat.add_assoc,Nat.sub_add_cancel q,Nat.add_comm]
 rw[e,Nat.add_mul_div_right _ _ (by decide),Nat.add_comm]
theorem jE{n a:Nat}(h:a<n):n-a=n-a-1+1:=(Nat.succ_pred_eq_of_pos (Nat.sub_pos_of_lt h)).symm
theorem lj{n a c:Nat}(h:n-a=c+1):n-(a+1)=c:=congrArg Nat.pred h
theorem lr{n a:Nat}(h:a≤n):n+1-a=n-a+1:=Nat.succ_sub h
theorem rC{l h n:Nat}(p:l≤h)(q:h-l≤n-max 0 n):l=h:=by
 rw[Nat.zero_max,Nat.sub_self]at q
 exact Nat.le_antisymm p (Nat.le_of_sub_eq_zero (Nat.le_zero.mp q))
theorem oW{l q k y:Nat}(h:l<q)(a3:q-l≤k-y):l≤(l+q)/2∧(l+q)/2<q∧q-((l+q)/2+1)≤k-(y+1)∧(l+q)/2-l≤k-(y+1):=by
 rw[vT (Nat.le_of_lt h)];exact⟨Nat.le_add_right _ _,jl h,mid_up a3,zd h a3⟩
theorem mr{l q n:Nat}(h:l<q)(hk:q-l<n+1):(l+q)/2-l<n∧q-((l+q)/2+1)<n:=by
 have f:=oW (k:=q-l) (y:=0) h (Nat.le_refl _)
 have g:q-l-(0+1)<n:=Nat.lt_of_lt_of_le (Nat.sub_lt (Nat.sub_pos_of_lt h) Nat.one_pos) (Nat.le_of_lt_succ hk)
 exact⟨Nat.lt_of_le_of_lt f.2.2.2 g,Nat.lt_of_le_of_lt f.2.2.1 g⟩
theorem gP{l q:Nat}(h:l<q):l≤(l+q)/2∧(l+q)/2<q:=by
 rw[vT (Nat.le_of_lt h)];exact⟨Nat.le_add_right _ _,jl h⟩
theorem Yr{p s m:Nat}(h:m<s):p+(p+s)-1-(p+m)=p+(s-1-m):=by
 obtain⟨c,rfl⟩:=Nat.exists_eq_add_of_lt h
 have e:p+(p+(m+c+1))=(p+m)+(p+c)+1:=by
  show p+(p+(m+c))+1=_
  rw[←Nat.add_assoc p p,Nat.add_add_add_comm]
 rw[e,Nat.add_sub_cancel,Nat.add_sub_cancel_left,Nat.add_sub_cancel,Nat.add_sub_cancel_left]
theorem WN{n na nb N m:Nat}(h0:0<na)(hn:n+na+nb≤N+1)(k:m≤nb):n+(na-1)+m≤N:=by
 obtain⟨c,rfl⟩: ∃c,na=c+1:=⟨na-1,(Nat.sub_add_cancel h0).symm⟩
 have e:n+c+nb+1≤N+1:=Eq.mp (congrArg (· ≤N+1) (Nat.succ_add (n+c) nb)) hn
 exact Nat.le_trans (Nat.add_le_add_left k (n+c)) (Nat.le_of_succ_le_succ e)
theorem fu{a k n:Nat}(h:a+k<n):a<n:=Nat.lt_of_le_of_lt (Nat.le_add_right a k) h
theorem kf{a k m n:Nat}(h:a+k<n)(g:m≤k):a+m<n:=Nat.lt_of_le_of_lt (Nat.add_le_add_left g a) h
theorem WO{a k m n r:Nat}(h:a+k+n<r)(g:m≤n):a+m<r:=Nat.lt_of_le_of_lt (Nat.add_le_add (Nat.le_add_right a k) g) h
theorem Si{a k r:Nat}(h:a+(k+1)<r):a+1+k<r:=Nat.lt_of_le_of_lt (Nat.le_of_eq (Nat.add_right_comm a 1 k)) h
theorem WQ{a k r:Nat}(h:a+10*(k+1)+20<r):a+3+10*k+20<r:=
 Nat.lt_of_le_of_lt (Nat.add_le_add_right (by rw[Nat.mul_succ,Nat.add_assoc,Nat.add_comm 3];exact Nat.add_le_add_left (Nat.add_le_add_left (by decide) _) a) 20) h
theorem WR{a k m r:Nat}(h:a+10*k+20<r)(g:m≤k):a+10*m+20<r:=Nat.lt_of_le_of_lt (Nat.add_le_add_right (Nat.add_le_add_left (Nat.mul_le_mul_left 10 g) a) 20) h
theorem IS{a b m n:Nat}(e:a=b)(h:b≤m)(g:m≤n):a≤n:=e▸Nat.le_trans h g
theorem qf{o:Nat}:o<2*o+1:=Nat.lt_succ_of_le (Nat.le_mul_of_pos_left o (by decide))
theorem Ys{l o h:Nat}(a:l<o)(c:l<h+1):h+1-min o (h+1)≤h-l:=by
 rw[←Nat.succ_sub_succ h l];exact Nat.sub_le_sub_left (Nat.le_min.mpr ⟨a,c⟩) _
theorem WS{i o h:Nat}(a:i<h+1-min o (h+1)):i≤h-o∧o<h+1:=by
 rcases Nat.lt_or_ge o (h+1)with q|q
 ·rw[Nat.min_eq_left (Nat.le_of_lt q),Nat.succ_sub (Nat.le_of_lt_succ q)]at a;exact⟨Nat.le_of_lt_succ a,q⟩
 ·rw[Nat.min_eq_right q,Nat.sub_self]at a;exact absurd a (Nat.not_lt_zero _)
theorem rD{n:Nat}(h:n%2=1):n/2=(n-1)/2:=by
 have e:2*(n/2)+1=n:=Eq.mp (congrArg (2*(n/2)+ · =n) h) (Nat.div_add_mod n 2)
 generalize n/2=m at e ⊢
 subst e
 exact(Nat.mul_div_cancel_left m (by decide)).symm
theorem kg{n:Nat}(h0:n≠0)(h:n%2=0):n/2-1=(n-1)/2:=by
 obtain⟨m,rfl⟩:=Nat.dvd_of_mod_eq_zero h
 cases m with
 |zero=>exact absurd rfl h0
 |succ c=>rw[Nat.mul_div_cancel_left _ (by decide)];show c=(2*c+1)/2;rw[Nat.mul_add_div (by decide)];rfl
theorem vU{n:Nat}(h: ¬n%2=1):n%2=0:=(Nat.mod_two_eq_zero_or_one n).resolve_right h
theorem half_lt{n:Nat}(h:n≠0):n/2<n:=Nat.div_lt_self (Nat.pos_of_ne_zero h) (by decide)
theorem ze{n:Nat}(h:n≠0):(n-1)/2<n:=Nat.lt_of_le_of_lt (Nat.div_le_self _ _) (Nat.sub_lt (Nat.pos_of_ne_zero h) Nat.one_pos)
theorem zf(k n:Nat):(max 0 (min (k:Int) n)).toNat=min k n:=by
 rcases Nat.le_total k n with h|h
 ·rw[Nat.min_eq_left h,Int.min_eq_left (Int.ofNat_le.mpr h),Int.max_eq_right (Int.natCast_nonneg _),Int.toNat_natCast]
 ·rw[Nat.min_eq_right h,Int.min_eq_right (Int.ofNat_le.mpr h),Int.max_eq_right (Int.natCast_nonneg _),Int.toNat_natCast]
theorem iC{n i:Nat}(h:i≤n):n+1-(i+1)<n+1-i:=Nat.sub_lt_sub_left (Nat.lt_succ_of_le h) (Nat.lt_succ_self i)
theorem zg{a b:Int}{P:Nat}(ha:a.natAbs<P)(hb:b.natAbs<P):(a+b).natAbs<P*2:=
 Nat.lt_of_le_of_lt (Int.natAbs_add_le a b) (by rw[Nat.mul_two];exact Nat.add_lt_add ha hb)
theorem lX(a:Int):(2*a).natAbs=2*a.natAbs:=Int.natAbs_mul 2 a
theorem CU{n c:Int}(hn:n.natAbs<2^40)(hc:c.natAbs<2^40):(n-2*c).natAbs<2^53:=by
 have h:=Int.natAbs_add_le n (-(2*c))
 rw[Int.natAbs_neg,lX]at h
 exact Nat.lt_of_le_of_lt h (Nat.lt_of_lt_of_le (Nat.add_lt_add hn (Nat.mul_lt_mul_of_pos_left hc (by decide))) (by decide))
theorem Gf{i:Int}{k:Nat}(h:i.natAbs≤k): -(k:Int)≤i∧i≤k:=
 ⟨Int.neg_le_of_neg_le (Int.le_trans (Int.natAbs_neg i▸Int.le_natAbs) (Int.ofNat_le.mpr h)),Int.le_trans Int.le_natAbs (Int.ofNat_le.mpr h)⟩
theorem qg{n:Nat}(h0:n≠0)(h:n%2=0):2≤n:=by
 cases n with
 |zero=>exact absurd rfl h0
 |succ n=>cases n with
  |zero=>exact absurd h (by decide)
  |succ n=>exact Nat.le_add_left 2 n
theorem Gg{n:Nat}(h:n%2=1):n≠0:=λe=>by subst e;exact absurd h (by decide)
theorem zh{n:Nat}(h:2≤n):n≠0:=Nat.ne_of_gt (Nat.lt_of_lt_of_le (by decide) h)
theorem vV{n:Nat}(h:n%2=0): ¬n%2=1:=by rw[h];decide
theorem mu{a m k:Nat}(h:a+(m+1)=k):a+1+m=k:=(Nat.succ_add a m).trans h
theorem qh{a m k:Nat}(h:a+(m+1)=k):a<k:=h▸Nat.lt_add_of_pos_right (Nat.succ_pos m)
theorem ej{d:Nat}{k:Nat}(h:d<1000)(hk:1000≤k):((d:Nat):Int).natAbs<k:=Nat.lt_of_lt_of_le h hk
theorem lo1{n i j k:Nat}(h:n≤i+j+1):n≤i+1+(j+1+k):=
 Nat.le_trans h (by rw[Nat.add_right_comm i j 1];exact Nat.add_le_add_left (Nat.le_trans (Nat.le_succ j) (Nat.le_add_right _ _)) _)
theorem Yt{n i j k:Nat}(h:n≤i+j+1):n≤i+k+j+1:=Nat.le_trans h (Nat.succ_le_succ (Nat.add_le_add_right (Nat.le_add_right _ _) _))
theorem ud{i j p q x:Nat}(l1:i+1<p)(l2:j<q)(h:x+max 0 (p+q)≤i+j):False:=
 absurd (Nat.add_lt_add (Nat.lt_of_succ_lt l1) l2) (Nat.not_lt.mpr (Nat.le_trans (Nat.le_max_right 0 _) (Nat.le_trans (Nat.le_add_left _ x) h)))
theorem up1{n i j:Nat}(h:n≤i+j):n+1≤i+1+j:=by rw[Nat.succ_add];exact Nat.succ_le_succ h
theorem Yu{p q:Nat}(h:0<p):0+1+(p-1)+q≤p+q:=Nat.le_of_eq (by rw[Nat.zero_add,Nat.add_comm 1,Nat.sub_add_cancel h])
theorem Gh{T p q:Nat}(h:max 0 T+1+p+q≤T):False:=
 Nat.lt_irrefl _ (Nat.lt_of_lt_of_le (Nat.lt_succ_of_le (Nat.le_max_right 0 T)) (Nat.le_trans (Nat.le_trans (Nat.le_add_right _ p) (Nat.le_add_right _ q)) h))
theorem vW{T p q N:Nat}(hN:N≤T)(m:0<p)(h:max 0 T+p+q≤N):False:=
 Nat.lt_irrefl _ (Nat.lt_of_lt_of_le (Nat.lt_of_le_of_lt (Nat.le_max_right 0 T) (Nat.lt_add_of_pos_right m)) (Nat.le_trans (Nat.le_add_right _ q) (Nat.le_trans h hN)))
theorem E6{p q y N:Nat}(m:0<p)(h:y+p+q≤N):1+(p-1)+q≤N:=by
 rw[Nat.add_comm 1,Nat.sub_add_cancel m];exact Nat.le_trans (Nat.add_le_add_right (Nat.le_add_left p y) q) h
theorem IT{p q y N:Nat}(m:0<p)(h:y+p+q≤N):y+1+(p-1)+q≤N:=by
 rw[Nat.add_assoc y 1,Nat.add_comm 1,Nat.sub_add_cancel m];exact h
theorem Yv{p q y N:Nat}(m:0<q)(h:y+p+q≤N):1+p+(q-1)≤N:=by
 rw[Nat.add_comm 1 p,Nat.add_assoc,Nat.add_comm 1,Nat.sub_add_cancel m];exact Nat.le_trans (Nat.add_le_add_right (Nat.le_add_left p y) q) h
theorem Yw{p q y N:Nat}(m:0<q)(h:y+p+q≤N):y+1+p+(q-1)≤N:=by
 rw[Nat.add_right_comm y 1 p,Nat.add_assoc (y+p) 1,Nat.add_comm 1 (q-1),Nat.sub_add_cancel m];exact h
theorem Yx{p q p' q' P R x T:Nat}(n3:0+p+q≤p'+q')(m3:1+p'+q'≤P+R)(l3:x+1+P+R≤T):x+1+1+p+q≤T:=by
 rw[Nat.zero_add]at n3;rw[Nat.add_assoc]at m3 l3
 rw[Nat.add_assoc (x+1+1) p q,Nat.add_assoc (x+1) 1 (p+q)]
 exact Nat.le_trans (Nat.add_le_add_left (Nat.le_trans (Nat.add_le_add_left n3 1) m3) (x+1)) l3
theorem Yy{p q y N:Nat}(h:y+p+q≤N):0+p+q≤N:=by
 rw[Nat.zero_add];exact Nat.le_trans (Nat.add_le_add_right (Nat.le_add_left p y) q) h
theorem WT{p q y N:Nat}(h:y+p+q≤N):y+1+p+q≤N+1:=by
 rw[Nat.add_right_comm y 1 p,Nat.add_right_comm (y+p) 1 q];exact Nat.succ_le_succ h
theorem Yz{p k n c:Nat}(h:k≤n)(e:n=c+1):p+k+(n-k)-1=p+c:=by rw[Nat.add_assoc,Nat.add_sub_of_le h,e];rfl
theorem YA{k n c:Nat}(h:k≤n)(e:n=c+1)(z: ¬n-k=0):k+(n-k-1)=c:=by
 rw[←Nat.add_sub_assoc (Nat.pos_of_ne_zero z),Nat.add_sub_of_le h,e];rfl
theorem E7{p q T:Nat}(h:p+q=T)(hx:T≤p):q=0:=Nat.eq_zero_of_le_zero (Nat.le_of_add_le_add_left (a:=p) (by rw[h];exact hx))
theorem fin1{p T:Nat}(h:p+max 0 T≤T+1):p≤1:=by rw[Nat.zero_max,Nat.add_comm T 1]at h;exact Nat.le_of_add_le_add_right h
theorem step1{p q x T:Nat}(h:p+1=q)(g:q+x≤T):p+(x+1)≤T:=by rw[←h,Nat.add_right_comm]at g;exact g
theorem E8: ∀{n:Nat},¬n≤1→n-2+1<n
 |0,h=>absurd (Nat.zero_le 1) h
 |1,h=>absurd (Nat.le_refl 1) h
 |n+2,_=>Nat.lt_succ_self (n+1)
theorem Gi{a b c n:Nat}(h1:a≤c)(h2:c+(n+1)=max a b):c<b:=by
 have h3:=qh h2
 rcases Nat.le_total a b with q|q
 ·rw[Nat.max_eq_right q]at h3;exact h3
 ·rw[Nat.max_eq_left q]at h3;exact absurd h3 (Nat.not_lt.mpr h1)
theorem CV{a b:Nat}:a+(b-a)=max a b:=by
 rcases Nat.le_total a b with q|q
 ·rw[Nat.max_eq_right q,Nat.add_sub_of_le q]
 ·rw[Nat.max_eq_left q,Nat.sub_eq_zero_of_le q];rfl
theorem YB{T h:Nat}(hh:h<T)(hN:2≤T)(hi:max 1 T=1∨max 1 T≤h):False:=by
 rw[Nat.max_eq_right (Nat.le_of_succ_le hN)]at hi
 rcases hi with q|q
 ·subst q;exact absurd hN (by decide)
 ·exact absurd hh (Nat.not_lt.mpr q)
theorem CW{i h:Nat}(e:i=h)(h1:1≤i):i-1≠h:=e▸Nat.ne_of_lt (Nat.sub_lt h1 Nat.one_pos)
theorem WU{i h:Nat}(hi:i=1∨i≤h)(e1:i≠h)(e2:i-1≠h):i<h:=by
 rcases hi with rfl|q
 ·exact Nat.lt_of_le_of_ne (Nat.pos_of_ne_zero λz=>e2 z.symm) e1
 ·exact Nat.lt_of_le_of_ne q e1
theorem YC{k:Nat}(h:max 0 k=0)(g:1≤k):False:=by rw[Nat.zero_max]at h;exact absurd h (Nat.ne_of_gt g)
theorem span{x y:Nat}:(if(x:Int)<y then((y:Int)-x+1-1)/1 else 0).toNat=y-x:=by
 split
 ·rw[Int.add_sub_cancel,Int.ediv_one];exact Int.toNat_sub y x
 ·rename_i h;exact(Nat.sub_eq_zero_of_le (Int.ofNat_le.mp (Int.not_lt.mp h))).symm
end Mine.Internal
end
section
open PySem PyProof.Rows
namespace Mine.Internal
theorem aO{G:Prop}(h: ∀X:Prop,(G→X)→X):G:=h G id
theorem dD{α:Type}{M:Model}{A:Around}{E:Value→Shared→Prop}{s:Shared}{Q:α→Shared→Prop}{c:Prop} [Decidable c]{t e:Sem α}(h:c)(k:wpAny M A t Q E s):wpAny M A (if c then t else e) Q E s:=by
 rw[if_pos h];exact k
theorem bw{α:Type}{M:Model}{A:Around}{E:Value→Shared→Prop}{s:Shared}{Q:α→Shared→Prop}{c:Prop} [Decidable c]{t e:Sem α}(h: ¬c)(k:wpAny M A e Q E s):wpAny M A (if c then t else e) Q E s:=by
 rw[if_neg h];exact k
theorem jF{c:Prop} [Decidable c]{t e:Prop}(h:c)(k:t):if c then t else e:=by rw[if_pos h];exact k
theorem fU{c:Prop} [Decidable c]{t e:Prop}(h: ¬c)(k:e):if c then t else e:=by rw[if_neg h];exact k
noncomputable def zi:Array Keyed→Array Keyed→StateT SortSt Sem (Array Keyed):=sortPriv% PySem.Builtin.mergeLo
noncomputable def zj:Array Keyed→Array Keyed→StateT SortSt Sem (Array Keyed):=sortPriv% PySem.Builtin.mergeHi
noncomputable def iD:Bool→Keyed→Array Keyed→Nat→Nat→Nat→StateT SortSt Sem (Option Nat):=sortPriv% PySem.Builtin.gallop
noncomputable def fc:Nat→StateT SortSt Sem Unit:=sortPriv% PySem.Builtin.setMinGallop
structure Ord where
 O:KeyOrd
 key:Keyed→O.α
namespace Ord
variable(C:Ord)
noncomputable def lt(x y:Keyed):Bool:=C.O.blt (C.key x) (C.key y)
noncomputable def le(x y:Keyed):Prop:=C.lt y x=false
noncomputable def Lt(x y:Keyed):Prop:=C.lt x y=true
noncomputable def E9(k:C.O.α)(x:Keyed):Bool:= !C.O.blt (C.key x) k&& !C.O.blt k (C.key x)
noncomputable def dk(l:List Keyed):Prop:=l.Pairwise C.le
noncomputable def bf(l l':List Keyed):Prop:= ∀k,l.filter (C.E9 k)=l'.filter (C.E9 k)
variable{C}
theorem le_refl(x:Keyed):C.le x x:=C.O.irrefl _
theorem le_trans{x y z:Keyed}(h1:C.le x y)(h2:C.le y z):C.le x z:=KeyOrd.kle_trans (O:=C.O) h1 h2
theorem le_of_lt{x y:Keyed}(h:C.Lt x y):C.le x y:=KeyOrd.kle_of_klt (O:=C.O) h
theorem lt_of_lt_of_le{x y z:Keyed}(h1:C.Lt x y)(h2:C.le y z):C.Lt x z:=KeyOrd.klt_of_klt_of_kle (O:=C.O) h1 h2
theorem lt_of_le_of_lt{x y z:Keyed}(h1:C.le x y)(h2:C.Lt y z):C.Lt x z:=KeyOrd.klt_of_kle_of_klt (O:=C.O) h1 h2
theorem zk{x y:Keyed}(h1:C.le x y)(h2:C.le y x):C.key x=C.key y:=KeyOrd.kle_antisymm (O:=C.O) h1 h2
theorem qi{k:C.O.α}{x:Keyed}:C.E9 k x=true↔C.key x=k:=by
 unfold E9
 constructor
 ·intro h
  simp only[Bool.and_eq_true,Bool.not_eq_true']at h
  exact C.O.total _ _ h.1 h.2
 ·rintro rfl
  simp[C.O.irrefl]
theorem bf.refl(l:List Keyed):C.bf l l:=λ_=>rfl
theorem bf.trans{l l' WV:List Keyed}(h:C.bf l l')(h':C.bf l' WV):C.bf l WV:=λk=>(h k).trans (h' k)
theorem bf.append{a b c d:List Keyed}(h:C.bf a b)(h':C.bf c d):C.bf (a++c) (b++d):=λk=>by
 rw[List.filter_append,List.filter_append,h k,h' k]
theorem bf.swap{a b:List Keyed}(h: ∀x∈a,∀y∈b,C.key x≠C.key y):C.bf (a++b) (b++a):=λk=>by
 rw[List.filter_append,List.filter_append]
 by_cases ha:a.filter (C.E9 k)= []
 ·rw[ha];simp
 ·have hb:b.filter (C.E9 k)= []:=by
   rw[List.filter_eq_nil_iff]
   intro y hy e
   refine au (List.exists_mem_of_ne_nil _ ha) λx hx=>?_
   refine aX (List.mem_filter.mp hx) λjG rE=>?_
   exact h x jG y hy ((qi.mp rE).trans (qi.mp e).symm)
  rw[hb];simp
theorem Lt.ne{x y:Keyed}(h:C.Lt x y):C.key x≠C.key y:=λe=>by
 unfold Ord.Lt Ord.lt at h;rw[e,C.O.irrefl]at h;cases h
theorem bf.perm{l l':List Keyed}(h:C.bf l l'):l.Perm l':=by
 rw[List.perm_iff_count]
 intro a
 have e: ∀m:List Keyed,m.count a=(m.filter (C.E9 (C.key a))).count a:=λm=>by
  rw[List.count_filter (qi.mpr rfl)]
 rw[e l,e l',h]
theorem bf.length{l l':List Keyed}(h:C.bf l l'):l.length=l'.length:=h.perm.length_eq
theorem dk.append{a b:List Keyed}(ha:C.dk a)(hb:C.dk b)(h: ∀x∈a,∀y∈b,C.le x y):C.dk (a++b):=
 List.pairwise_append.mpr ⟨ha,hb,h⟩
end Ord
end Mine.Internal
end
section
open PySem PyProof.Rows
namespace Mine.Internal
structure dm(prog:Program)(w:World)(A:Around)(s:Shared)(C:Ord)(P:Keyed→Prop)(kd:SortKind):Prop where
 lt: ∀(E:Value→Shared→Prop) (x y:Keyed) (st:SortSt) (Q:Option Bool→SortSt→Prop),P x→P y→kindOf st=kd→Q (some (C.lt x y)) st→wpS (model prog w) A E s (lt' x y) Q st
section
variable{prog:Program}{w:World}{A:Around}{E:Value→Shared→Prop}{s:Shared}{C:Ord}{P:Keyed→Prop}{kd:SortKind}
theorem a9{arr:Array Keyed}{i:Nat}{x:Keyed}{st:SortSt}{Q:Keyed→SortSt→Prop}(h:arr[i]? =some x)(hQ:Q x st):wpS (model prog w) A E s (elem' arr i) Q st:=by
 rw[elem'_eq,h];exact wpS_pure hQ
theorem Fa{hint o n i:Nat}(hh:hint<n)(h1:hint+min o (n-hint)≤i)(h2:i<n):hint+o≤i∧o<n-hint:=by
 rcases Nat.lt_or_ge o (n-hint)with q|q
 ·rw[Nat.min_eq_left (Nat.le_of_lt q)]at h1;exact⟨h1,q⟩
 ·rw[Nat.min_eq_right q,Nat.add_sub_of_le (Nat.le_of_lt hh)]at h1;exact absurd h1 (Nat.not_le.mpr h2)
noncomputable def beyond(C:Ord)(left:Bool)(key x:Keyed):Bool:=if left then C.lt x key else !C.lt key x
inductive JA(b:Nat→Bool)(n:Nat)(st:SortSt)(x:Nat):Option (Option Nat)×Nat×Nat→SortSt→Prop
 |mk (lo hi:Nat) (a1:lo≤hi) (a2:hi≤n) (a3:hi-lo≤n-x) (a4: ∀i,i<lo→b i=true) (a5: ∀i,hi≤i→i<n→b i=false):JA b n st x (none,lo,hi) st
theorem rF{b:Nat→Bool}{n lo hi:Nat}{st:SortSt}{f:Nat→Option (Option Nat)×Nat×Nat→StateT SortSt Sem (ForInStep (Option (Option Nat)×Nat×Nat))}
  {Q:Option (Option Nat)×Nat×Nat→SortSt→Prop} (YD:lo≤hi) (WW:hi≤n) (h1: ∀i,i<lo→b i=true) (h2: ∀i,hi≤i→i<n→b i=false)
  (mono: ∀i j,i≤j→j<n→b j=true→b i=true)
  (hf: ∀x lo hi Q',hi≤n→(hi≤lo→Q' (.done (none,lo,hi)) st)→
   (lo<hi→b (lo+(hi-lo)/2)=true→Q' (.yield (none,lo+(hi-lo)/2+1,hi)) st)→
   (lo<hi→b (lo+(hi-lo)/2)=false→Q' (.yield (none,lo,lo+(hi-lo)/2)) st)→wpS (model prog w) A E s (f x (none,lo,hi)) Q' st)
  (hQ: ∀k,k≤n→(∀i,i<k→b i=true)→(∀i,k≤i→i<n→b i=false)→Q (none,k,k) st):
  wpS (model prog w) A E s (forIn [0:n] (none,lo,hi) f) Q st:=by
 refine wpS_forRange (I:=JA b n st) ?step ?fin (.mk lo hi YD WW (Nat.le_trans (Nat.sub_le hi lo) WW) h1 h2)
 case fin=>
  intro c aU hh
  induction hh with|mk lo hi a1 a2 a3 a4 a5=>
  have:lo=hi:=rC a1 a3
  subst this
  exact hQ lo a2 a4 a5
 case step=>
  intro x c aU _ hx hh
  induction hh with|mk lo hi a1 a2 a3 a4 a5=>
  refine hf x lo hi _ a2 (λh=>?_) (λh hb=>?_) (λh hb=>?_)
  ·have:lo=hi:=by exact Nat.le_antisymm ‹_› ‹_›
   subst this
   exact hQ lo a2 a4 a5
  ·exact .mk _ _ (jl h) a2 (mid_up a3) (λi ue=>mono i _ (Nat.le_of_lt_succ ue) (Nat.lt_of_lt_of_le (jl h) a2) hb) a5
  ·refine .mk _ _ (Nat.le_add_right _ _) (Nat.le_trans (Nat.le_of_lt (jl h)) a2) (zd h a3) a4 λi ue hn=>?_
   cases e:b i with
   |false=>rfl
   |true=>rw[mono _ i ue hn e]at hb;cases hb
inductive Gj(p:Nat→Prop)(m:Nat)(st:SortSt)(x:Nat):Option (Option Nat)×Nat×Nat→SortSt→Prop
 |mk (l o:Nat) (a1:l<o) (a2:l<m) (a3:x<o) (a4:p l):Gj p m st x (none,l,o) st
inductive Gk(p:Nat→Prop)(m:Nat)(st:SortSt):Option (Option Nat)×Nat×Nat→SortSt→Prop
 |mk (l o:Nat) (a1:l<o) (a2:l<m) (a4:p l) (a5:o<m→ ¬p o):Gk p m st (none,l,o) st
theorem iE{α:Type}{p:Prop} [Decidable p]{t e:StateT SortSt Sem α}{Q:α→SortSt→Prop}{st:SortSt}(h:p→wpS (model prog w) A E s t Q st)(h': ¬p→wpS (model prog w) A E s e Q st):wpS (model prog w) A E s (if p then t else e) Q st:=by
 split
 ·exact h ‹_›
 ·exact h' ‹_›
theorem lY{α:Type}{b:Bool}{t e:StateT SortSt Sem α}{Q:α→SortSt→Prop}{st:SortSt}(h:b=false→wpS (model prog w) A E s t Q st)(h':b=true→wpS (model prog w) A E s e Q st):wpS (model prog w) A E s (if(!b)=true then t else e) Q st:=by
 cases b
 ·exact h rfl
 ·exact h' rfl
theorem gQ{α:Type}{b:Bool}{t e:StateT SortSt Sem α}{Q:α→SortSt→Prop}{st:SortSt}(h:b=true→wpS (model prog w) A E s t Q st)(h':b=false→wpS (model prog w) A E s e Q st):wpS (model prog w) A E s (if b=true then t else e) Q st:=by
 cases b
 ·exact h' rfl
 ·exact h rfl
theorem uf(hC:dm prog w A s C P kd){left:Bool}{key:Keyed}{arr:Array Keyed}{base n hint:Nat}{st:SortSt}{Q:Option Nat→SortSt→Prop}(el:Nat→Keyed)
  (hk:kindOf st=kd) (hP:P key) (YE: ∀i,i<n→arr[base+i]? =some (el i)∧P (el i)) (hh:hint<n)
  (mono: ∀i j,i≤j→j<n→beyond C left key (el j)=true→beyond C left key (el i)=true)
  (hQ: ∀k,k≤n→(∀i,i<k→beyond C left key (el i)=true)→(∀i,k≤i→i<n→beyond C left key (el i)=false)→Q (some k) st):
  wpS (model prog w) A E s (iD left key arr base n hint) Q st:=by
 have hb: ∀(i:Nat) (Q:Option Bool→SortSt→Prop),i<n→Q (some (beyond C left key (el i))) st→
   wpS (model prog w) A E s (do let x←elem' arr (base+i);if left=true then lt' x key else do let r←lt' key x;pure (r.map (!·))) Q st:=by
  intro i Q hi h
  refine aX (YE i hi) λe p=>?_
  refine wpS_bind (a9 e ?_)
  unfold beyond at h
  cases left with
  |true=>simp only[if_true]at h ⊢;exact hC.lt _ _ _ _ _ p hP hk h
  |false=>simp only[Bool.false_eq_true,if_false]at h ⊢;exact wpS_bind (hC.lt _ _ _ _ _ hP p hk (wpS_pure h))
 generalize YF:(λi=>beyond C left key (el i))=b at *
 have Sj: ∀i,beyond C left key (el i)=b i:=λi=>by rw[←YF]
 simp only[Sj]at hb mono hQ
 have contra: ∀i j,i≤j→j<n→b i=false→b j=false:=λi j zl hj e=>by
  cases e':b j with
  |false=>rfl
  |true=>rw[mono i j zl hj e']at e;cases e
 have CD:=hh
 refine wpS_bind (hb hint _ hh ?_)
 refine gQ (λSk=>?_) λSk=>?_
 ·refine wpS_bind (wpS_mono (wpS_forRange (I:=Gj (λl=>b (hint+l)=true) (n-hint) st) (Q:=Gk (λl=>b (hint+l)=true) (n-hint) st) ?step ?fin (.mk 0 1 Nat.one_pos (Nat.sub_pos_of_lt hh) Nat.one_pos Sk)) ?post)
  case fin=>
   intro c aU hh
   induction hh with|mk l o a1 a2 a3 a4=>
   exact .mk l o a1 a2 a4 λh=>absurd a3 (Nat.not_lt.mpr (Nat.le_trans (Nat.le_of_lt h) (Nat.le_trans (Nat.sub_le n hint) (Nat.le_max_right 0 n))))
  case step=>
   intro x c aU _ hx hh
   induction hh with|mk l o a1 a2 a3 a4=>
   refine iE (λgf=>wpS_pure (.mk l o a1 a2 a4 λh=>absurd gf (Nat.not_le.mpr h))) λgf=>wpS_bind (hb (hint+o) _ (Nat.add_lt_of_lt_sub' (Nat.lt_of_not_le gf)) (lY (λe=>wpS_pure (.mk l o a1 a2 a4 λ_=>by rw[e];decide)) λe=>wpS_pure (.mk o (2*o+1) qf (Nat.lt_of_not_le gf) (Nat.lt_of_le_of_lt a3 qf) e)))
  case post=>
   intro c aU hh
   induction hh with|mk l o a1 a2 a4 a5=>
   refine wpS_bind (rF (b:=b) (Nat.add_le_add_left (Nat.le_min.mpr ⟨a1,a2⟩) hint) (Nat.le_trans (Nat.add_le_add_left (Nat.min_le_right _ _) hint) (Nat.le_of_eq (Nat.add_sub_of_le (Nat.le_of_lt CD)))) (λi hi=>mono i (hint+l) (Nat.le_of_lt_succ hi) (Nat.add_lt_of_lt_sub' a2) a4)
    (λi h1 h2=>contra (hint+o) i (Fa CD h1 h2).1 h2 (Bool.eq_false_iff.mpr (a5 (Fa CD h1 h2).2))) mono ?_ λk k1 k2 k3=>wpS_pure (hQ k k1 k2 k3))
   intro x lo hi Q' hn q1 q2 q3
   exact iE (λgf=>wpS_pure (q1 gf)) λgf=>wpS_bind (hb _ _ (Nat.lt_of_lt_of_le (jl (Nat.lt_of_not_le gf)) hn) (gQ (λe=>wpS_pure (q2 (Nat.lt_of_not_le gf) e)) λe=>wpS_pure (q3 (Nat.lt_of_not_le gf) e)))
 ·refine wpS_bind (wpS_mono (wpS_forRange (I:=Gj (λl=>b (hint-l)=false) (hint+1) st) (Q:=Gk (λl=>b (hint-l)=false) (hint+1) st) ?step ?fin (.mk 0 1 Nat.one_pos (Nat.succ_pos _) Nat.one_pos Sk)) ?post)
  case fin=>
   intro c aU hh
   induction hh with|mk l o a1 a2 a3 a4=>
   exact .mk l o a1 a2 a4 λh=>absurd a3 (Nat.not_lt.mpr (Nat.le_trans (Nat.le_of_lt h) (Nat.le_trans CD (Nat.le_max_right 0 n))))
  case step=>
   intro x c aU _ hx hh
   induction hh with|mk l o a1 a2 a3 a4=>
   refine iE (λgf=>wpS_pure (.mk l o a1 a2 a4 λh=>absurd gf (Nat.not_le.mpr h))) λgf=>wpS_bind (hb (hint-o) _ (Nat.sub_lt_of_lt CD) (gQ (λe=>wpS_pure (.mk l o a1 a2 a4 λ_=>by rw[e];decide)) λe=>wpS_pure (.mk o (2*o+1) qf (Nat.lt_of_not_le gf) (Nat.lt_of_le_of_lt a3 qf) e)))
  case post=>
   intro c aU hh
   induction hh with|mk l o a1 a2 a4 a5=>
   refine wpS_bind (rF (b:=b) (Ys a1 a2) (Nat.le_trans (Nat.sub_le _ _) (Nat.le_of_lt CD)) (λi hi=>mono i (hint-o) (WS hi).1 (Nat.sub_lt_of_lt CD) (eq_true_of_ne_false (a5 (WS hi).2)))
    (λi h1 h2=>contra (hint-l) i h1 h2 a4) mono ?_ λk k1 k2 k3=>wpS_pure (hQ k k1 k2 k3))
   intro x lo hi Q' hn q1 q2 q3
   exact iE (λgf=>wpS_pure (q1 gf)) λgf=>wpS_bind (hb _ _ (Nat.lt_of_lt_of_le (jl (Nat.lt_of_not_le gf)) hn) (gQ (λe=>wpS_pure (q2 (Nat.lt_of_not_le gf) e)) λe=>wpS_pure (q3 (Nat.lt_of_not_le gf) e)))
end
end Mine.Internal
end
section
open PySem PyProof.Rows
namespace Mine.Internal
noncomputable abbrev setG(st:SortSt)(g:Nat):SortSt:=SortSt.mk' (kindOf st) (arrOf st) (pendingOf st) g (failedOf st)
structure MI(C:Ord)(a b out:Array Keyed)(ia ib:Nat):Prop where
 ha:ia≤a.size
 hb:ib≤b.size
 CX:C.dk out.toList
 fx:C.bf out.toList (a.toList.take ia++b.toList.take ib)
 i: ∀x∈a.toList.take ia,∀y∈b.toList.drop ib,C.le x y
 ii: ∀y∈b.toList.take ib,∀x∈a.toList.drop ia,C.Lt y x
structure MP(C:Ord)(a b:Array Keyed):Prop where
 sa:C.dk a.toList
 sb:C.dk b.toList
 na:0<a.size
 nb:0<b.size
 lo: ∀x∈a.toList,C.Lt b[0] x
 hi: ∀y∈b.toList,C.Lt y (a[a.size-1]'(by exact Nat.sub_lt ‹_› Nat.one_pos))
namespace MI
variable{C:Ord}{a b out:Array Keyed}{ia ib:Nat}
theorem d6(h:MI C a b out ia ib){x:Keyed}(hx:x∈out.toList):x∈a.toList.take ia∨x∈b.toList.take ib:=
 List.mem_append.mp ((h.fx.perm.mem_iff).mp hx)
theorem aY{l:List Keyed}(h:C.dk l)(i:Nat):C.dk (l.take i)∧C.dk (l.drop i)∧ ∀x∈l.take i,∀y∈l.drop i,C.le x y:=by
 have e:l=l.take i++l.drop i:=(List.take_append_drop i l).symm
 unfold Ord.dk at h ⊢
 rw[e]at h
 refine gM (List.pairwise_append.mp h) λh1 h2 h3=>?_
 exact⟨h1,h2,h3⟩
theorem iF(l:List Keyed)(i k:Nat):l.take (i+k)=l.take i++(l.drop i).take k:=List.take_add
theorem oX(M:MP C a b)(h:MI C a b out ia ib){k:Nat}{mv:Array Keyed}(hk:ib+k≤b.size)(ho:mv.toList=out.toList++(b.toList.drop ib).take k)
  (hy: ∀y∈(b.toList.drop ib).take k,∀x∈a.toList.drop ia,C.Lt y x):MI C a b mv ia (ib+k):=by
 have sb:=aY M.sb ib
 have YG:=aY sb.2.1 k
 refine⟨h.ha,hk,?_,?_,?_,?_⟩
 ·rw[ho]
  refine h.CX.append YG.1 λx hx y dP=>?_
  have JB:y∈b.toList.drop ib:=List.mem_of_mem_take dP
  rcases h.d6 hx with hx|hx
  ·exact h.i x hx y JB
  ·exact sb.2.2 x hx y JB
 ·rw[ho,iF,←List.append_assoc]
  exact h.fx.append (.refl _)
 ·intro x hx y dP
  refine h.i x hx y ?_
  rw[←List.drop_drop]at dP
  exact List.mem_of_mem_drop dP
 ·intro y dP x hx
  rw[iF]at dP
  rcases List.mem_append.mp dP with dP|dP
  ·exact h.ii y dP x hx
  ·exact hy y dP x hx
theorem oY(M:MP C a b)(h:MI C a b out ia ib){k:Nat}{mv:Array Keyed}(hk:ia+k≤a.size)(ho:mv.toList=out.toList++(a.toList.drop ia).take k)
  (hx: ∀x∈(a.toList.drop ia).take k,∀y∈b.toList.drop ib,C.le x y):MI C a b mv (ia+k) ib:=by
 have sa:=aY M.sa ia
 have YH:=aY sa.2.1 k
 refine⟨hk,h.hb,?_,?_,?_,?_⟩
 ·rw[ho]
  refine h.CX.append YH.1 λx cv y dP=>?_
  have JB:y∈a.toList.drop ia:=List.mem_of_mem_take dP
  rcases h.d6 cv with cv|cv
  ·exact sa.2.2 x cv y JB
  ·exact Ord.le_of_lt (h.ii x cv y JB)
 ·rw[ho,iF]
  refine(h.fx.append (.refl _)).trans ?_
  rw[List.append_assoc,List.append_assoc]
  exact(Ord.bf.refl _).append (Ord.bf.swap λx cv y dP=>(h.ii x cv y (List.mem_of_mem_take dP)).ne)
 ·intro x cv y dP
  rw[iF]at cv
  rcases List.mem_append.mp cv with cv|cv
  ·exact h.i x cv y dP
  ·exact hx x cv y dP
 ·intro y dP x cv
  rw[←List.drop_drop]at cv
  exact h.ii y dP x (List.mem_of_mem_drop cv)
theorem mw(xs:Array Keyed)(i:Nat):(xs.extract i xs.size).toList=xs.toList.drop i:=by
 rw[Array.toList_extract];simp[List.extract,List.take_of_length_le]
theorem kh(xs:Array Keyed)(i k:Nat):(xs.extract i (i+k)).toList=(xs.toList.drop i).take k:=by
 rw[Array.toList_extract];simp[List.extract]
theorem finish(M:MP C a b)(h:MI C a b out ia ib)(he:ia=a.size∨ib=b.size):
  C.dk (out++a.extract ia a.size++b.extract ib b.size).toList∧C.bf (out++a.extract ia a.size++b.extract ib b.size).toList (a.toList++b.toList):=by
 rw[Array.toList_append,Array.toList_append,mw,mw]
 have sa:=aY M.sa ia
 have sb:=aY M.sb ib
 have ea:a.toList.take ia++a.toList.drop ia=a.toList:=List.take_append_drop ..
 have eb:b.toList.take ib++b.toList.drop ib=b.toList:=List.take_append_drop ..
 rcases he with he|he
 ·have e1:a.toList.drop ia= []:=List.drop_eq_nil_of_le (by simp[he])
  have e2:a.toList.take ia=a.toList:=List.take_of_length_le (by simp[he])
  rw[e1,List.append_nil]
  refine⟨h.CX.append sb.2.1 λx hx y hy=>?_,?_⟩
  ·rcases h.d6 hx with hx|hx
   ·exact h.i x hx y hy
   ·exact sb.2.2 x hx y hy
  ·have:=h.fx.append (.refl (b.toList.drop ib))
   rw[e2,List.append_assoc,eb]at this
   exact this
 ·have e1:b.toList.drop ib= []:=List.drop_eq_nil_of_le (by simp[he])
  have e2:b.toList.take ib=b.toList:=List.take_of_length_le (by simp[he])
  rw[e1,List.append_nil]
  have WX:=h.ii
  rw[e2]at WX
  refine⟨h.CX.append sa.2.1 λx hx y hy=>?_,?_⟩
  ·rcases h.d6 hx with hx|hx
   ·exact sa.2.2 x hx y hy
   ·exact Ord.le_of_lt (h.ii x hx y hy)
  ·have h1:=h.fx.append (.refl (a.toList.drop ia))
   rw[e2,List.append_assoc]at h1
   refine h1.trans ?_
   conv=>rhs;rw[←ea]
   rw[List.append_assoc]
   exact(Ord.bf.refl _).append (Ord.bf.swap λx hx y hy=>(WX x hx y hy).ne)
theorem vX(M:MP C a b)(h:MI C a b out ia ib)(he:ia+1=a.size):
  C.dk (out++b.extract ib b.size++a.extract ia a.size).toList∧C.bf (out++b.extract ib b.size++a.extract ia a.size).toList (a.toList++b.toList):=by
 have sb:=aY M.sb ib
 have my:a.toList.drop ia= [a[a.size-1]'(by have:=M.na;exact Nat.sub_lt ‹_› Nat.one_pos)]:=by
  have:ia<a.toList.length:=by rw[Array.length_toList,←he];exact Nat.lt_succ_self ia
  rw[List.drop_eq_getElem_cons this,List.drop_eq_nil_of_le (Nat.le_of_eq (by rw[Array.length_toList];exact he.symm))]
  simp only[Array.getElem_toList]
  congr 2;exact(Nat.sub_eq_of_eq_add he.symm).symm
 have key:MI C a b (out++b.extract ib b.size) ia (ib+(b.size-ib)):=by
  refine h.oX M (Nat.le_of_eq (Nat.add_sub_of_le h.hb)) ?_ ?_
  ·rw[Array.toList_append,mw,List.take_of_length_le (by simp)]
  ·intro y hy x hx
   rw[my]at hx
   obtain rfl:=List.mem_singleton.mp hx
   exact M.hi y (List.mem_of_mem_drop (List.mem_of_mem_take hy))
 have h2:=key.finish M (.inr (Nat.add_sub_of_le h.hb))
 have e:(b.extract (ib+(b.size-ib)) b.size)= #[]:=by
  rw[Nat.add_sub_of_le h.hb];simp
 rw[e,Array.append_empty]at h2
 exact h2
end MI
end Mine.Internal
end
section
open PySem PyProof.Rows
namespace Mine.Internal
section
variable{prog:Program}{w:World}{A:Around}{E:Value→Shared→Prop}{s:Shared}{C:Ord}{P:Keyed→Prop}{kd:SortKind}
theorem cp(hC:dm prog w A s C P kd){left:Bool}{key:Keyed}{arr:Array Keyed}{base n hint:Nat}{st:SortSt}{Q:Option Nat→SortSt→Prop}
  (hk:kindOf st=kd) (hP:P key) (lZ: ∀x∈arr.toList,P x) (hn:base+n≤arr.size) (hh:hint<n)
  (hs:C.dk ((arr.toList.drop base).take n))
  (hQ: ∀k,k≤n→(∀x∈(arr.toList.drop base).take k,beyond C left key x=true)→(∀x∈((arr.toList.drop base).take n).drop k,beyond C left key x=false)→Q (some k) st):
  wpS (model prog w) A E s (iD left key arr base n hint) Q st:=by
 have hlen:((arr.toList.drop base).take n).length=n:=by rw[List.length_take,List.length_drop,Array.length_toList];exact Nat.min_eq_left (Nat.le_sub_of_add_le' hn)
 have CY: ∀i,i<n→base+i<arr.size:=λi h=>Nat.lt_of_lt_of_le (Nat.add_lt_add_left h base) hn
 have JC: ∀i (h:i<n),((arr.toList.drop base).take n)[i]'(by rw[hlen];exact h)=arr[base+i]'(CY i h):=by
  intro i h
  simp[List.getElem_take,List.getElem_drop]
 refine uf hC (λi=>if h:base+i<arr.size then arr[base+i]else default) hk hP (λi hi=>?_) hh (λi j zl hj hb=>?_) λk k1 k2 k3=>hQ k k1 (λx hx=>?_) (λx hx=>?_)
 ·rw[dif_pos (CY i hi)]
  exact⟨Array.getElem?_eq_getElem (CY i hi),lZ _ (by simp)⟩
 ·rw[dif_pos (CY j hj)]at hb
  rw[dif_pos (CY i (Nat.lt_of_le_of_lt zl hj))]
  by_cases JD:i=j
  ·subst JD;exact hb
  have hle:C.le (arr[base+i]'(CY i (Nat.lt_of_le_of_lt zl hj))) (arr[base+j]'(CY j hj)):=by
   have:=List.pairwise_iff_getElem.mp hs i j (by rw[hlen];exact Nat.lt_of_le_of_lt zl hj) (by rw[hlen];exact hj) (Nat.lt_of_le_of_ne zl JD)
   rw[JC i (Nat.lt_of_le_of_lt zl hj),JC j hj]at this
   exact this
  unfold beyond at hb ⊢
  cases left with
  |true=>
   simp only[if_true]at hb ⊢
   exact Ord.lt_of_le_of_lt (C:=C) hle hb
  |false=>
   simp only[Bool.false_eq_true,if_false,Bool.not_eq_true']at hb ⊢
   exact Ord.le_trans (C:=C) hle hb
 ·obtain⟨i,hi,rfl⟩:=List.getElem_of_mem hx
  have ue:i<k:=by rw[List.length_take]at hi;exact Nat.lt_of_lt_of_le hi (Nat.min_le_left _ _)
  have:=k2 i ue
  rw[dif_pos (CY i (Nat.lt_of_lt_of_le ue k1))]at this
  simpa [List.getElem_take,List.getElem_drop]using this
 ·obtain⟨i,hi,rfl⟩:=List.getElem_of_mem hx
  have ue:k+i<n:=by rw[List.length_drop,hlen]at hi;exact Nat.add_lt_of_lt_sub' hi
  have:=k3 (k+i) (Nat.le_add_right _ _) ue
  rw[dif_pos (CY _ ue)]at this
  simpa [List.getElem_take,List.getElem_drop]using this
theorem aC{α:Type}{c:Prop} [Decidable c]{t e:StateT SortSt Sem α}{st:SortSt}{Q:α→SortSt→Prop}(h1:c→wpS (model prog w) A E s t Q st)(h2: ¬c→wpS (model prog w) A E s e Q st):
  wpS (model prog w) A E s (if c then t else e) Q st:=by
 by_cases h:c
 ·rw[if_pos h];exact h1 h
 ·rw[if_neg h];exact h2 h
theorem dp{tag:String}{st:SortSt}{Q:Unit→SortSt→Prop}(h:Q () st):wpS (model prog w) A E s (liftM (rule tag):StateT SortSt Sem Unit) Q st:=
 wpS_lift (wpAny_rule ⟨rfl,h⟩)
theorem jH{g:Nat}{st:SortSt}{Q:Unit→SortSt→Prop}(h:Q () (setG st g)):wpS (model prog w) A E s (fc g) Q st:=wpS_modify h
theorem drop_cons{l:Array Keyed}{i:Nat}(h:i<l.size):l.toList.drop i=l[i]::l.toList.drop (i+1):=by
 rw[List.drop_eq_getElem_cons (by simpa using h)];simp
section
variable{a b out:Array Keyed}{ia ib:Nat}
theorem MI.xr(M:MP C a b)(h:ib<b.size)(hI:MI C a b out ia ib)(hx: ∀x∈a.toList.drop ia,C.Lt b[ib] x):MI C a b (out.push b[ib]) ia (ib+1):=by
 refine hI.oX M h ?_ ?_
 ·simp[drop_cons h]
 ·intro y hy;rw[drop_cons h]at hy;simp at hy;subst hy;exact hx
theorem MI.xt(M:MP C a b)(h:ia<a.size)(hI:MI C a b out ia ib)(hx: ∀y∈b.toList.drop ib,C.le a[ia] y):MI C a b (out.push a[ia]) (ia+1) ib:=by
 refine hI.oY M h ?_ ?_
 ·simp[drop_cons h]
 ·intro y hy;rw[drop_cons h]at hy;simp at hy;subst hy;exact hx
theorem headOf(hs:C.dk a.toList)(h:ia<a.size): ∀x∈a.toList.drop ia,C.le a[ia] x:=by
 intro x hx
 have:=(MI.aY hs ia).2.1
 rw[drop_cons h]at this hx
 rcases List.mem_cons.mp hx with rfl|hx
 ·exact Ord.le_refl _
 ·exact(List.pairwise_cons.mp this).1 x hx
theorem take_all(l:Array Keyed)(i:Nat):(l.toList.drop i).take (l.size-i)=l.toList.drop i:=List.take_of_length_le (by simp)
end
noncomputable abbrev ug:=Option (Array Keyed)×Array Keyed×Nat×Nat×Nat×Nat×Nat
structure JE(C:Ord)(a b:Array Keyed)(R:ForInStep ug→SortSt→Prop)(st:SortSt)(n:Nat):Prop where
 fin1: ∀{out:Array Keyed} {ia ib g:Nat} {c:Array Keyed×Nat×Nat×Nat×Nat×Nat},MI C a b out ia ib→(ia=a.size∨ib=b.size)→R (.done (some (out++a.extract ia a.size++b.extract ib b.size),c)) (setG st g)
 fin2: ∀{out:Array Keyed} {ia ib g:Nat} {c:Array Keyed×Nat×Nat×Nat×Nat×Nat},MI C a b out ia ib→ia+1=a.size→R (.done (some (out++b.extract ib b.size++a.extract ia a.size),c)) (setG st g)
 go: ∀{out:Array Keyed} {ia ib mg k k' g:Nat},MI C a b out ia ib→ia+1<a.size→ib<b.size→n≤ia+ib→R (.done (none,out,ia,ib,mg,k,k')) (setG st g)∧R (.yield (none,out,ia,ib,mg,k,k')) (setG st g)
section
variable{a b out:Array Keyed}{ia ib mg k k' g n:Nat}{st:SortSt}{R:ForInStep ug→SortSt→Prop}
noncomputable def Sl(a b out:Array Keyed)(ia ib mg k k':Nat):StateT SortSt Sem (ForInStep ug):=do
 let x←elem' a ia
 if(ia+1+1==a.size)=true then pure (.done (some (out.push x++b.extract ib b.size++a.extract (ia+1) a.size),out.push x,ia+1,ib,mg,k,k'))
 else if(decide (k<7)&&decide (k'<7))=true then pure (.done (none,out.push x,ia+1,ib,mg,k,k'))
 else pure (.yield (none,out.push x,ia+1,ib,mg,k,k'))
theorem JF(M:MP C a b)(RR:JE C a b R st n)(hI:MI C a b out ia ib)(h:ia+1<a.size)(hle: ∀y∈b.toList.drop ib,C.le a[ia] y)(hb:ib<b.size)(hn:n≤ia+1+ib):
  wpS (model prog w) A E s (Sl a b out ia ib mg k k') R (setG st g):=by
 refine wpS_bind (a9 (Array.getElem?_eq_getElem (Nat.lt_of_succ_lt h)) ?_)
 have Gl:=MI.xt M (Nat.lt_of_succ_lt h) hI hle
 refine aC (λe=>wpS_pure (RR.fin2 Gl (beq_iff_eq.mp e))) λe=>?_
 have e':ia+1+1<a.size:=Nat.lt_of_le_of_ne h λq=>e (beq_iff_eq.mpr q)
 exact aC (λ_=>wpS_pure (RR.go Gl e' hb hn).1) λ_=>wpS_pure (RR.go Gl e' hb hn).2
noncomputable def Sm(a b out:Array Keyed)(ia ib mg k bc:Nat):StateT SortSt Sem (ForInStep ug):=do
 let x←elem' b ib
 if(ib+1==b.size)=true then pure (.done (some (out.push x++a.extract ia a.size++b.extract (ib+1) b.size),out.push x,ia,ib+1,mg,k,bc))
 else do
  let y←elem' a ia
  let some k'←iD true y b (ib+1) (b.size-(ib+1)) 0|pure (.done (some (out.push x++a.extract ia a.size++b.extract (ib+1) b.size),out.push x,ia,ib+1,mg,k,bc))
  if k'>0 then
   if(ib+1+k'==b.size)=true then pure (.done (some (out.push x++b.extract (ib+1) (ib+1+k')++a.extract ia a.size++b.extract (ib+1+k') b.size),out.push x++b.extract (ib+1) (ib+1+k'),ia,ib+1+k',mg,k,k'))
   else Sl a b (out.push x++b.extract (ib+1) (ib+1+k')) ia (ib+1+k') mg k k'
  else Sl a b (out.push x) ia (ib+1) mg k k'
theorem JG(hC:dm prog w A s C P kd)(hk:kindOf st=kd)(M:MP C a b)(lZ: ∀x∈a.toList,P x)(qj: ∀x∈b.toList,P x)(RR:JE C a b R st n){bc:Nat}(hI:MI C a b out ia ib)(h:ia+1<a.size)(hb:ib<b.size)(cy: ∀x∈a.toList.drop ia,C.Lt b[ib] x)
  (hn:n≤ia+ib+1):wpS (model prog w) A E s (Sm a b out ia ib mg k bc) R (setG st g):=by
 refine wpS_bind (a9 (Array.getElem?_eq_getElem hb) ?_)
 have Gm:=MI.xr M hb hI cy
 have ha:=Nat.lt_of_succ_lt h
 refine aC (λe=>wpS_pure (RR.fin1 Gm (.inr (beq_iff_eq.mp e)))) λe=>?_
 have e':ib+1<b.size:=Nat.lt_of_le_of_ne hb λq=>e (beq_iff_eq.mpr q)
 refine wpS_bind (a9 (Array.getElem?_eq_getElem ha) ?_)
 refine wpS_bind (cp hC hk (lZ _ (by simp)) qj (Nat.le_of_eq (Nat.add_sub_of_le hb)) (Nat.sub_pos_of_lt e') ?_ λk' k1 k2 k3=>?_)
 ·rw[take_all];exact(MI.aY M.sb (ib+1)).2.1
 rw[take_all,List.drop_drop]at k3
 have hle: ∀y∈b.toList.drop (ib+1+k'),C.le a[ia] y:=λy hy=>k3 y hy
 refine aC (λzm=>?_) λzm=>?_
 ·have Gn:MI C a b (out.push b[ib]++b.extract (ib+1) (ib+1+k')) ia (ib+1+k'):=Gm.oX M (Nat.add_le_of_le_sub' hb k1) (by rw[Array.toList_append,MI.kh]) λy hy x hx=>Ord.lt_of_lt_of_le (C:=C) (k2 y hy) (headOf M.sa ha x hx)
  refine aC (λe=>wpS_pure (RR.fin1 Gn (.inr (beq_iff_eq.mp e)))) λe=>?_
  exact JF M RR Gn h hle (Nat.lt_of_le_of_ne Gn.hb λq=>e (beq_iff_eq.mpr q)) (lo1 hn)
 ·have:k'=0:=Nat.eq_zero_of_not_pos zm
  rw[this,Nat.add_zero]at hle
  exact JF M RR Gm h hle e' (lo1 (k:=0) hn)
noncomputable def Sn(a b out:Array Keyed)(ia ib mg ac bc:Nat):StateT SortSt Sem (ForInStep ug):=do
 fc mg
 let x←elem' b ib
 let some k←iD false x a ia (a.size-ia) 0|pure (.done (some (out++a.extract ia a.size++b.extract ib b.size),out,ia,ib,mg,ac,bc))
 if k>0 then
  if(ia+k+1==a.size)=true then pure (.done (some (out++a.extract ia (ia+k)++b.extract ib b.size++a.extract (ia+k) a.size),out++a.extract ia (ia+k),ia+k,ib,mg,k,bc))
  else if(ia+k==a.size)=true then pure (.done (some (out++a.extract ia (ia+k)++a.extract (ia+k) a.size++b.extract ib b.size),out++a.extract ia (ia+k),ia+k,ib,mg,k,bc))
  else Sm a b (out++a.extract ia (ia+k)) (ia+k) ib mg k bc
 else Sm a b out ia ib mg k bc
theorem JH(hC:dm prog w A s C P kd)(hk:kindOf st=kd)(M:MP C a b)(lZ: ∀x∈a.toList,P x)(qj: ∀x∈b.toList,P x)(RR:JE C a b R st n){bc ac:Nat}(hI:MI C a b out ia ib)(h:ia+1<a.size)(hb:ib<b.size)
  (hn:n≤ia+ib+1):wpS (model prog w) A E s (Sn a b out ia ib mg ac bc) R (setG st g):=by
 refine wpS_bind (jH ?_)
 refine wpS_bind (a9 (Array.getElem?_eq_getElem hb) ?_)
 refine wpS_bind (cp hC hk (qj _ (by simp)) lZ (Nat.le_of_eq (Nat.add_sub_of_le (Nat.le_of_lt (Nat.lt_of_succ_lt h)))) (Nat.sub_pos_of_lt (Nat.lt_of_succ_lt h)) ?_ λk k1 k2 k3=>?_)
 ·rw[take_all];exact(MI.aY M.sa ia).2.1
 rw[take_all,List.drop_drop]at k3
 have cy: ∀x∈a.toList.drop (ia+k),C.Lt b[ib] x:=λx hx=>by
  have:=k3 x hx
  simp only[beyond,Bool.false_eq_true,if_false,Bool.not_eq_false']at this
  exact this
 refine aC (λzm=>?_) λzm=>?_
 ·have Go:MI C a b (out++a.extract ia (ia+k)) (ia+k) ib:=by
   refine hI.oY M (Nat.add_le_of_le_sub' (Nat.le_of_lt (Nat.lt_of_succ_lt h)) k1) (by rw[Array.toList_append,MI.kh]) λx hx y hy=>?_
   have:=k2 x hx
   simp only[beyond,Bool.false_eq_true,if_false,Bool.not_eq_true']at this
   exact Ord.le_trans (C:=C) this (headOf M.sb hb y hy)
  refine aC (λe=>wpS_pure (RR.fin2 Go (beq_iff_eq.mp e))) λe=>?_
  refine aC (λe=>wpS_pure (RR.fin1 Go (.inl (beq_iff_eq.mp e)))) λe2=>?_
  have e':ia+k<a.size:=Nat.lt_of_le_of_ne Go.ha λq=>e2 (beq_iff_eq.mpr q)
  exact JG hC hk M lZ qj RR Go (Nat.lt_of_le_of_ne e' λq=>e (beq_iff_eq.mpr q)) hb cy (Yt hn)
 ·have:k=0:=Nat.eq_zero_of_not_pos zm
  rw[this,Nat.add_zero]at cy
  exact JG hC hk M lZ qj RR hI h hb cy hn
end
theorem Gp{a b:Array Keyed}{n:Nat}{st aU:SortSt}{R:ForInStep ug→SortSt→Prop}{t:StateT SortSt Sem (ForInStep ug)}(RR:JE C a b R st n)(f:JE C a b R st n→wpS (model prog w) A E s t R aU):wpS (model prog w) A E s t R aU:=f RR
theorem qk{α:Type}{t t':StateT SortSt Sem α}{Q:α→SortSt→Prop}{st:SortSt}(h:t=t')(h':wpS (model prog w) A E s t' Q st):wpS (model prog w) A E s t Q st:=h▸h'
theorem Gq{a b:Array Keyed}{st:SortSt}{Q:Array Keyed→SortSt→Prop}{tag:String}{body:Nat→Option (Array Keyed)×Array Keyed×Nat×Nat×Nat→StateT SortSt Sem (ForInStep (Option (Array Keyed)×Array Keyed×Nat×Nat×Nat))}
  {post:Option (Array Keyed)×Array Keyed×Nat×Nat×Nat→StateT SortSt Sem (Array Keyed)} (Gr:0<b.size) (f1:1=b.size→Q (#[b[0]]++a.extract 0 a.size++b.extract 1 b.size) st) (f2:0+1=a.size→Q (#[b[0]]++b.extract 1 b.size++a.extract 0 a.size) st)
  (go:1≠b.size→0+1≠a.size→wpS (model prog w) A E s (forIn [0:a.size+b.size] (none,#[b[0]],0,1,gallopOf st) body) (λc aU=>wpS (model prog w) A E s (post c) Q aU) st):
  wpS (model prog w) A E s (do
   (liftM (rule tag):StateT SortSt Sem Unit)
   let x←elem' b 0
   if(1==b.size)=true then pure (#[x]++a.extract 0 a.size++b.extract 1 b.size)
   else if(0+1==a.size)=true then pure (#[x]++b.extract 1 b.size++a.extract 0 a.size)
   else do
    let s'←get
    let r←forIn [0:a.size+b.size] (none,#[x],0,1,gallopOf s') body
    post r) Q st:=by
 refine wpS_bind (dp ?_)
 refine wpS_bind (a9 (Array.getElem?_eq_getElem Gr) ?_)
 refine aC (λh1=>wpS_pure (f1 (beq_iff_eq.mp h1))) λh1=>?_
 refine aC (λh2=>wpS_pure (f2 (beq_iff_eq.mp h2))) λh2=>?_
 exact wpS_bind (wpS_get (wpS_bind (go (λq=>h1 (beq_iff_eq.mpr q)) λq=>h2 (beq_iff_eq.mpr q))))
inductive WY(C:Ord)(a b:Array Keyed)(st:SortSt)(T:Nat):Option (Array Keyed)×Array Keyed×Nat×Nat×Nat→SortSt→Prop
 |mk (out:Array Keyed) (ia ib mg g:Nat) (hI:MI C a b out ia ib) (l1:ia+1<a.size) (l2:ib<b.size) (l3:T≤ia+ib):WY C a b st T (none,out,ia,ib,mg) (setG st g)
inductive So(C:Ord)(a b:Array Keyed)(st:SortSt)(T:Nat):Option (Array Keyed)×Array Keyed×Nat×Nat×Nat×Nat→SortSt→Prop
 |mk (out:Array Keyed) (ia ib ac bc g:Nat) (hI:MI C a b out ia ib) (l1:ia+1<a.size) (l2:ib<b.size) (l3:T≤ia+ib):So C a b st T (none,out,ia,ib,ac,bc) (setG st g)
inductive Sp(C:Ord)(a b:Array Keyed)(st:SortSt)(T:Nat):Option (Array Keyed)×Array Keyed×Nat×Nat×Nat×Nat×Nat→SortSt→Prop
 |mk (out:Array Keyed) (ia ib mg ac bc g:Nat) (hI:MI C a b out ia ib) (l1:ia+1<a.size) (l2:ib<b.size) (l3:T≤ia+ib):Sp C a b st T (none,out,ia,ib,mg,ac,bc) (setG st g)
inductive oZ{τ:Type}(Q:Array Keyed→SortSt→Prop)(J:Option (Array Keyed)×τ→SortSt→Prop):Option (Array Keyed)×τ→SortSt→Prop
 |ret {r:Array Keyed} {c:τ} {st:SortSt} (h:Q r st):oZ Q J (some r,c) st
 |go {c:Option (Array Keyed)×τ} {st:SortSt} (h:J c st):oZ Q J c st
inductive Sq{τ:Type}(Q:Array Keyed→SortSt→Prop):Option (Array Keyed)×τ→SortSt→Prop
 |ret {r:Array Keyed} {c:τ} {st:SortSt} (h:Q r st):Sq Q (some r,c) st
theorem rG(hC:dm prog w A s C P kd){a b:Array Keyed}{st:SortSt}{Q:Array Keyed→SortSt→Prop}(hk:kindOf st=kd)(M:MP C a b)
  (lZ: ∀x∈a.toList,P x) (qj: ∀x∈b.toList,P x)
  (hQ: ∀r g,C.dk r.toList→C.bf r.toList (a.toList++b.toList)→Q r (setG st g)):
  wpS (model prog w) A E s (zi a b) Q st:=by
 have Gr:=M.nb
 have JI:=M.na
 have fin1: ∀{out:Array Keyed} {ia ib g:Nat},MI C a b out ia ib→(ia=a.size∨ib=b.size)→Q (out++a.extract ia a.size++b.extract ib b.size) (setG st g):=
  λh he=>hQ _ _ (h.finish M he).1 (h.finish M he).2
 have fin2: ∀{out:Array Keyed} {ia ib g:Nat},MI C a b out ia ib→ia+1=a.size→Q (out++b.extract ib b.size++a.extract ia a.size) (setG st g):=
  λh he=>hQ _ _ (h.vX M he).1 (h.vX M he).2
 have Gs:MI C a b #[b[0]] 0 1:=MI.xr (out:= #[]) M Gr ⟨Nat.zero_le _,Nat.zero_le _,.nil,.refl _,by simp,by simp⟩ λx hx=>M.lo x (List.mem_of_mem_drop hx)
 refine Gq Gr (λh1=>fin1 (g:=gallopOf st) Gs (.inr h1)) (λh2=>fin2 (g:=gallopOf st) Gs h2) λh1 h2=>?_
 refine wpS_mono (wpS_forRange (I:=λx=>WY C a b st (x+1)) (Q:=Sq Q) ?step ?fin (.mk #[b[0]] 0 1 _ (gallopOf st) Gs (Nat.lt_of_le_of_ne JI h2) (Nat.lt_of_le_of_ne Gr h1) (Nat.succ_pos _))) ?post
 case fin=>
  intro c aU hh
  induction hh with|mk out ia ib mg g hI l1 l2 l3=>
  exact(ud (x:=0) l1 l2 ((Nat.zero_add _).symm▸Nat.le_of_succ_le l3)).elim
 case post=>
  intro c aU hh
  induction hh with|ret hr=>
  exact wpS_pure hr
 case step=>
  intro x c aU _ hx hh
  induction hh with|mk out ia ib mg g hI l1 l2 l3=>
  refine wpS_bind (wpS_mono (wpS_forRange (I:=λy=>So C a b st (ia+ib+y)) (Q:=oZ Q (So C a b st (ia+ib+1))) ?step1 ?fin1 (.mk out ia ib 0 0 g hI l1 l2 (Nat.le_refl _))) ?post1)
  case fin1=>
   intro c aU hh
   induction hh with|mk out Gu Gv ac bc g rH m1 m2 m3=>
   exact(ud m1 m2 m3).elim
  case step1=>
   intro y c aU _ hy hh
   induction hh with|mk out Gu Gv ac bc g rH m1 m2 m3=>
   have m0:=Nat.lt_of_succ_lt m1
   refine wpS_bind (a9 (Array.getElem?_eq_getElem m2) ?_)
   refine wpS_bind (a9 (Array.getElem?_eq_getElem m0) ?_)
   refine wpS_bind (hC.lt _ _ _ _ _ (qj _ (by simp)) (lZ _ (by simp)) hk ?_)
   refine aC (λhw=>?_) λhw=>?_
   ·have jI:=MI.xr M m2 rH λx hx=>Ord.lt_of_lt_of_le (C:=C) hw (headOf M.sa m0 x hx)
    refine wpS_bind (a9 (Array.getElem?_eq_getElem m2) ?_)
    refine aC (λe=>wpS_pure (.ret (fin1 jI (.inr (beq_iff_eq.mp e))))) λe=>?_
    have e':Gv+1<b.size:=Nat.lt_of_le_of_ne m2 λq=>e (beq_iff_eq.mpr q)
    exact aC (λ_=>wpS_pure (.go (.mk _ _ _ _ _ _ jI m1 e' (Nat.succ_le_succ (Nat.le_trans (Nat.le_add_right _ _) m3))))) λ_=>wpS_pure (.mk _ _ _ _ _ _ jI m1 e' (Nat.succ_le_succ m3))
   ·have jI:=MI.xt M m0 rH λy hy=>Ord.le_trans (C:=C) (Bool.eq_false_iff.mpr hw) (headOf M.sb m2 y hy)
    refine wpS_bind (a9 (Array.getElem?_eq_getElem m0) ?_)
    refine aC (λe=>wpS_pure (.ret (fin2 jI (beq_iff_eq.mp e)))) λe=>?_
    have e':Gu+1+1<a.size:=Nat.lt_of_le_of_ne m1 λq=>e (beq_iff_eq.mpr q)
    exact aC (λ_=>wpS_pure (.go (.mk _ _ _ _ _ _ jI e' m2 (up1 (Nat.le_trans (Nat.le_add_right _ _) m3))))) λ_=>wpS_pure (.mk _ _ _ _ _ _ jI e' m2 (up1 m3))
  case post1=>
   intro c aU hh
   induction hh with
   |ret hr=>exact wpS_pure (.ret hr)
   |go hh=>
   induction hh with|mk out Gu Gv ac bc g rH m1 m2 m3=>
   refine wpS_bind (dp ?_)
   refine wpS_bind (wpS_mono (wpS_forRange (I:=λy=>Sp C a b st (Gu+Gv+y)) (Q:=oZ Q (Sp C a b st (Gu+Gv))) ?step2 ?fin2 (.mk out Gu Gv _ _ _ g rH m1 m2 (Nat.le_refl _))) ?post2)
   case fin2=>
    intro c aU hh
    induction hh with|mk out Q8 Q9 CZ C0 C2 g jI n1 n2 n3=>
    exact(ud n1 n2 n3).elim
   case post2=>
    intro c aU hh
    induction hh with
    |ret hr=>exact wpS_pure (.ret hr)
    |go hh=>
    induction hh with|mk out Q8 Q9 CZ C0 C2 g jI n1 n2 n3=>
    exact wpS_bind (jH (wpS_pure (.mk _ _ _ _ _ jI n1 n2 (Nat.le_trans (Nat.succ_le_succ l3) (Nat.le_trans m3 n3)))))
   case step2=>
    intro y c aU _ hy hh
    induction hh with|mk out Q8 Q9 CZ C0 C2 g jI n1 n2 n3=>
    refine Gp (n:=Gu+Gv+(y+1)) ⟨λh e=> .ret (fin1 h e),λh e=> .ret (fin2 h e),λh h1 h2 h3=>⟨.go (.mk _ _ _ _ _ _ _ h h1 h2 (Nat.le_trans (Nat.le_add_right _ _) h3)),.mk _ _ _ _ _ _ _ h h1 h2 h3⟩⟩ λRR=>?_
    refine aC (λ_=>?_) λ_=>?_
    ·exact qk (t':=Sn a b out Q8 Q9 (CZ-1) C0 C2) (by kernel_rfl) (JH hC hk M lZ qj RR jI n1 n2 (Nat.succ_le_succ n3))
    ·exact qk (t':=Sn a b out Q8 Q9 CZ C0 C2) (by kernel_rfl) (JH hC hk M lZ qj RR jI n1 n2 (Nat.succ_le_succ n3))
end
end Mine.Internal
end
section
open PySem PyProof.Rows
namespace Mine.Internal
structure MH(C:Ord)(a b out:Array Keyed)(na nb:Nat):Prop where
 ha:na≤a.size
 hb:nb≤b.size
 CX:C.dk out.toList.reverse
 fx:C.bf out.toList.reverse (a.toList.drop na++b.toList.drop nb)
 i: ∀x∈a.toList.take na,∀y∈b.toList.drop nb,C.le x y
 ii: ∀y∈b.toList.take nb,∀x∈a.toList.drop na,C.Lt y x
namespace MH
variable{C:Ord}{a b out:Array Keyed}{na nb:Nat}
theorem d6(h:MH C a b out na nb){x:Keyed}(hx:x∈out.toList.reverse):x∈a.toList.drop na∨x∈b.toList.drop nb:=
 List.mem_append.mp ((h.fx.perm.mem_iff).mp hx)
theorem cut(l:List Keyed){m n:Nat}(h:m≤n):l.drop m=(l.take n).drop m++l.drop n:=by
 have e:l=l.take n++l.drop n:=(List.take_append_drop n l).symm
 by_cases hl:n≤l.length
 ·conv=>lhs;rw[e]
  rw[List.drop_append_of_le_length (by rw[List.length_take];exact Nat.le_min.mpr ⟨h,Nat.le_trans h hl⟩)]
 ·rw[List.take_of_length_le (Nat.le_of_not_le hl),show l.drop n= []from List.drop_eq_nil_of_le (Nat.le_of_not_le hl),List.append_nil]
theorem oY(M:MP C a b)(h:MH C a b out na nb){m:Nat}{mv:Array Keyed}(hm:m≤na)(ho:mv.toList.reverse=(a.toList.take na).drop m++out.toList.reverse)
  (hx: ∀x∈(a.toList.take na).drop m,∀y∈b.toList.take nb,C.Lt y x):MH C a b mv m nb:=by
 have sa:=MI.aY M.sa na
 have YI:=MI.aY sa.1 m
 have tk:(a.toList.take na).take m=a.toList.take m:=by rw[List.take_take,Nat.min_eq_left hm]
 refine⟨by have:=h.ha;exact Nat.le_trans ‹_› ‹_›,h.hb,?_,?_,?_,?_⟩
 ·rw[ho]
  refine Ord.dk.append YI.2.1 h.CX λx cv y dP=>?_
  have JJ:x∈a.toList.take na:=List.mem_of_mem_drop cv
  rcases h.d6 dP with dP|dP
  ·exact sa.2.2 x JJ y dP
  ·exact h.i x JJ y dP
 ·rw[ho,cut a.toList hm,List.append_assoc]
  exact(Ord.bf.refl _).append h.fx
 ·intro x cv y dP
  refine h.i x ?_ y dP
  rw[←tk]at cv
  exact List.mem_of_mem_take cv
 ·intro y dP x cv
  rw[cut a.toList hm]at cv
  rcases List.mem_append.mp cv with cv|cv
  ·exact hx x cv y dP
  ·exact h.ii y dP x cv
theorem oX(M:MP C a b)(h:MH C a b out na nb){m:Nat}{mv:Array Keyed}(hm:m≤nb)(ho:mv.toList.reverse=(b.toList.take nb).drop m++out.toList.reverse)
  (hy: ∀y∈(b.toList.take nb).drop m,∀x∈a.toList.take na,C.le x y):MH C a b mv na m:=by
 have sb:=MI.aY M.sb nb
 have YJ:=MI.aY sb.1 m
 have tk:(b.toList.take nb).take m=b.toList.take m:=by rw[List.take_take,Nat.min_eq_left hm]
 refine⟨h.ha,by have:=h.hb;exact Nat.le_trans ‹_› ‹_›,?_,?_,?_,?_⟩
 ·rw[ho]
  refine Ord.dk.append YJ.2.1 h.CX λx cv y dP=>?_
  have JJ:x∈b.toList.take nb:=List.mem_of_mem_drop cv
  rcases h.d6 dP with dP|dP
  ·exact Ord.le_of_lt (h.ii x JJ y dP)
  ·exact sb.2.2 x JJ y dP
 ·rw[ho,cut b.toList hm]
  refine((Ord.bf.refl _).append h.fx).trans ?_
  rw[←List.append_assoc,←List.append_assoc]
  exact(Ord.bf.swap λx cv y dP=>(h.ii x (List.mem_of_mem_drop cv) y dP).ne).append (.refl _)
 ·intro x cv y dP
  rw[cut b.toList hm]at dP
  rcases List.mem_append.mp dP with dP|dP
  ·exact hy y dP x cv
  ·exact h.i x cv y dP
 ·intro y dP x cv
  refine h.ii y ?_ x cv
  rw[←tk]at dP
  exact List.mem_of_mem_take dP
theorem JK(xs:Array Keyed)(k:Nat):(xs.extract 0 k).toList=xs.toList.take k:=by
 rw[Array.toList_extract];simp[List.extract]
theorem ext2(xs:Array Keyed)(i k:Nat):(xs.extract i k).toList=(xs.toList.take k).drop i:=by
 rw[Array.toList_extract];simp[List.extract,List.drop_take]
theorem finish(M:MP C a b)(h:MH C a b out na nb)(he:na=0∨nb=0):
  C.dk (a.extract 0 na++b.extract 0 nb++out.reverse).toList∧C.bf (a.extract 0 na++b.extract 0 nb++out.reverse).toList (a.toList++b.toList):=by
 rw[Array.toList_append,Array.toList_append,JK,JK,Array.toList_reverse]
 have sa:=MI.aY M.sa na
 have sb:=MI.aY M.sb nb
 have ea:a.toList.take na++a.toList.drop na=a.toList:=List.take_append_drop ..
 have eb:b.toList.take nb++b.toList.drop nb=b.toList:=List.take_append_drop ..
 rcases he with he|he
 ·subst he
  rw[List.take_zero,List.nil_append]
  refine⟨Ord.dk.append sb.1 h.CX λx hx y hy=>?_,?_⟩
  ·rcases h.d6 hy with hy|hy
   ·exact Ord.le_of_lt (h.ii x hx y hy)
   ·exact sb.2.2 x hx y hy
  ·refine((Ord.bf.refl _).append h.fx).trans ?_
   rw[←List.append_assoc]
   refine((Ord.bf.swap λx cv y dP=>(h.ii x cv y dP).ne).append (.refl _)).trans ?_
   rw[List.append_assoc,eb,List.drop_zero]
   exact .refl _
 ·subst he
  rw[List.take_zero,List.append_nil]
  refine⟨Ord.dk.append sa.1 h.CX λx hx y hy=>?_,?_⟩
  ·rcases h.d6 hy with hy|hy
   ·exact sa.2.2 x hx y hy
   ·exact h.i x hx y hy
  ·refine((Ord.bf.refl _).append h.fx).trans ?_
   rw[←List.append_assoc,ea,List.drop_zero]
   exact .refl _
theorem vY(M:MP C a b)(h:MH C a b out na nb)(he:nb=1):
  C.dk (b.extract 0 nb++a.extract 0 na++out.reverse).toList∧C.bf (b.extract 0 nb++a.extract 0 na++out.reverse).toList (a.toList++b.toList):=by
 subst he
 have Gw:b.toList.take 1= [b[0]'M.nb]:=by
  have:=drop_cons M.nb
  rw[List.drop_zero]at this
  rw[this];rfl
 have key:MH C a b (out++(a.extract 0 na).reverse) 0 1:=by
  refine h.oY M (by exact Nat.zero_le _) ?_ ?_
  ·simp
  ·intro x hx y hy
   rw[Gw]at hy
   obtain rfl:=List.mem_singleton.mp hy
   exact M.lo x (List.mem_of_mem_take (List.mem_of_mem_drop hx))
 have h2:=key.finish M (.inl rfl)
 have e:a.extract 0 0++b.extract 0 1++(out++(a.extract 0 na).reverse).reverse=b.extract 0 1++a.extract 0 na++out.reverse:=by
  simp[Array.reverse_append,←Array.append_assoc]
 rw[e]at h2
 exact h2
end MH
section
variable{prog:Program}{w:World}{A:Around}{E:Value→Shared→Prop}{s:Shared}{C:Ord}{P:Keyed→Prop}{kd:SortKind}
theorem take_snoc{l:Array Keyed}{i:Nat}(h:i<l.size):(l.toList.take (i+1)).drop i= [l[i]]:=by
 rw[List.drop_take,drop_cons h];simp
section
variable{a b out:Array Keyed}{na nb:Nat}
theorem C3(hs:C.dk a.toList)(h:na<a.size): ∀x∈a.toList.take (na+1),C.le x a[na]:=by
 intro x hx
 have hs:=MI.aY (MI.aY hs (na+1)).1 na
 rw[take_snoc h]at hs
 have e:=List.take_append_drop na (a.toList.take (na+1))
 rw[take_snoc h]at e
 replace hx:=e.symm▸hx
 rcases List.mem_append.mp hx with hx|hx
 ·exact hs.2.2 x hx _ (by simp)
 ·obtain rfl:=List.mem_singleton.mp hx;exact Ord.le_refl _
theorem lastOf(hs:C.dk a.toList)(h:na-1<a.size)(h0:0<na): ∀x∈a.toList.take na,C.le x a[na-1]:=by
 cases na with
 |zero=>cases h0
 |succ na=>exact C3 hs h
theorem MH.JL(M:MP C a b)(h:na<a.size)(hI:MH C a b out (na+1) nb)(hx: ∀y∈b.toList.take nb,C.Lt y a[na]):MH C a b (out.push a[na]) na nb:=by
 refine hI.oY M (Nat.le_succ _) ?_ ?_
 ·rw[take_snoc h];simp
 ·intro y hy;rw[take_snoc h]at hy;obtain rfl:=List.mem_singleton.mp hy;exact hx
theorem MH.xt(M:MP C a b)(h:na-1<a.size)(h0:0<na)(hI:MH C a b out na nb)(hx: ∀y∈b.toList.take nb,C.Lt y a[na-1]):MH C a b (out.push a[na-1]) (na-1) nb:=by
 cases na with
 |zero=>cases h0
 |succ na=>exact MH.JL M h hI hx
theorem MH.JM(M:MP C a b)(h:nb<b.size)(hI:MH C a b out na (nb+1))(hx: ∀x∈a.toList.take na,C.le x b[nb]):MH C a b (out.push b[nb]) na nb:=by
 refine hI.oX M (Nat.le_succ _) ?_ ?_
 ·rw[take_snoc h];simp
 ·intro y hy;rw[take_snoc h]at hy;obtain rfl:=List.mem_singleton.mp hy;exact hx
theorem MH.xr(M:MP C a b)(h:nb-1<b.size)(h0:0<nb)(hI:MH C a b out na nb)(hx: ∀x∈a.toList.take na,C.le x b[nb-1]):MH C a b (out.push b[nb-1]) na (nb-1):=by
 cases nb with
 |zero=>cases h0
 |succ nb=>exact MH.JM M h hI hx
end
noncomputable abbrev uh:=Option (Array Keyed)×Nat×Nat×Array Keyed×Nat×Nat×Nat
structure JN(C:Ord)(a b:Array Keyed)(R:ForInStep uh→SortSt→Prop)(st:SortSt)(n N:Nat):Prop where
 fin1: ∀{out:Array Keyed} {na nb g:Nat} {c:Nat×Nat×Array Keyed×Nat×Nat×Nat},MH C a b out na nb→(na=0∨nb=0)→R (.done (some (a.extract 0 na++b.extract 0 nb++out.reverse),c)) (setG st g)
 fin2: ∀{out:Array Keyed} {na nb g:Nat} {c:Nat×Nat×Array Keyed×Nat×Nat×Nat},MH C a b out na nb→nb=1→R (.done (some (b.extract 0 nb++a.extract 0 na++out.reverse),c)) (setG st g)
 go: ∀{out:Array Keyed} {na nb mg k k' g:Nat},MH C a b out na nb→0<na→1<nb→n+na+nb≤N→R (.done (none,na,nb,out,mg,k,k')) (setG st g)∧R (.yield (none,na,nb,out,mg,k,k')) (setG st g)
section
variable{a b out:Array Keyed}{na nb mg k k' g n N:Nat}{st:SortSt}{R:ForInStep uh→SortSt→Prop}
noncomputable def Sr(a b out:Array Keyed)(na nb mg k k':Nat):StateT SortSt Sem (ForInStep uh):=do
 let x←elem' a (na-1)
 if(na-1==0)=true then pure (.done (some (a.extract 0 (na-1)++b.extract 0 nb++(out.push x).reverse),na-1,nb,out.push x,mg,k,k'))
 else if(decide (k<7)&&decide (k'<7))=true then pure (.done (none,na-1,nb,out.push x,mg,k,k'))
 else pure (.yield (none,na-1,nb,out.push x,mg,k,k'))
theorem JO(M:MP C a b)(RR:JN C a b R st n N)(hI:MH C a b out na nb)(h:na-1<a.size)(h0:0<na)(hb:1<nb)(hx: ∀y∈b.toList.take nb,C.Lt y a[na-1])(hn:n+(na-1)+nb≤N):
  wpS (model prog w) A E s (Sr a b out na nb mg k k') R (setG st g):=by
 refine wpS_bind (a9 (Array.getElem?_eq_getElem h) ?_)
 have Gl:=MH.xt M h h0 hI hx
 refine aC (λe=>wpS_pure (RR.fin1 Gl (.inl (beq_iff_eq.mp e)))) λe=>?_
 have e':0<na-1:=Nat.pos_of_ne_zero λq=>e (beq_iff_eq.mpr q)
 exact aC (λ_=>wpS_pure (RR.go Gl e' hb hn).1) λ_=>wpS_pure (RR.go Gl e' hb hn).2
noncomputable def Ss(a b out:Array Keyed)(na nb mg k bc:Nat):StateT SortSt Sem (ForInStep uh):=do
 let x←elem' b (nb-1)
 if(nb-1==1)=true then pure (.done (some (b.extract 0 (nb-1)++a.extract 0 na++(out.push x).reverse),na,nb-1,out.push x,mg,k,bc))
 else do
  let y←elem' a (na-1)
  let some m←iD true y b 0 (nb-1) (nb-1-1)|pure (.done (some (a.extract 0 na++b.extract 0 (nb-1)++(out.push x).reverse),na,nb-1,out.push x,mg,k,bc))
  if nb-1-m>0 then
   if(m==1)=true then pure (.done (some (b.extract 0 m++a.extract 0 na++(out.push x++(b.extract m (nb-1)).reverse).reverse),na,m,out.push x++(b.extract m (nb-1)).reverse,mg,k,nb-1-m))
   else if(m==0)=true then pure (.done (some (a.extract 0 na++b.extract 0 m++(out.push x++(b.extract m (nb-1)).reverse).reverse),na,m,out.push x++(b.extract m (nb-1)).reverse,mg,k,nb-1-m))
   else Sr a b (out.push x++(b.extract m (nb-1)).reverse) na m mg k (nb-1-m)
  else Sr a b (out.push x) na (nb-1) mg k (nb-1-m)
theorem JP(hC:dm prog w A s C P kd)(hk:kindOf st=kd)(M:MP C a b)(lZ: ∀x∈a.toList,P x)(qj: ∀x∈b.toList,P x)(RR:JN C a b R st n N){bc:Nat}(hI:MH C a b out na nb)(h0:0<na)(hb:1<nb)(ui:nb-1<b.size)(hle: ∀x∈a.toList.take na,C.le x b[nb-1])
  (hn:n+na+nb≤N+1):wpS (model prog w) A E s (Ss a b out na nb mg k bc) R (setG st g):=by
 have b1:=hI.ha
 have ha:na-1<a.size:=Nat.lt_of_lt_of_le (Nat.sub_lt h0 Nat.one_pos) b1
 refine wpS_bind (a9 (Array.getElem?_eq_getElem ui) ?_)
 have Gm:=MH.xr M ui (by exact Nat.lt_of_succ_lt ‹_›) hI hle
 refine aC (λe=>wpS_pure (RR.fin2 Gm (beq_iff_eq.mp e))) λe=>?_
 have e':1<nb-1:=by
  have:nb-1≠1:=λq=>e (beq_iff_eq.mpr q)
  exact Nat.lt_of_le_of_ne (Nat.le_sub_one_of_lt hb) this.symm
 refine wpS_bind (a9 (Array.getElem?_eq_getElem ha) ?_)
 refine wpS_bind (cp hC hk (lZ _ (by simp)) qj (by rw[Nat.zero_add];exact Nat.le_of_lt ui) (Nat.sub_lt (Nat.lt_of_succ_lt e') Nat.one_pos) ?_ λm k1 k2 k3=>?_)
 ·rw[List.drop_zero];exact(MI.aY M.sb _).1
 rw[List.drop_zero]at k2 k3
 have cy: ∀y∈b.toList.take m,C.Lt y a[na-1]:=λy hy=>k2 y hy
 refine aC (λzm=>?_) λzm=>?_
 ·have Gn:MH C a b (out.push b[nb-1]++(b.extract m (nb-1)).reverse) na m:=Gm.oX M k1 (by simp[List.drop_take]) λy hy x hx=>Ord.le_trans (C:=C) (lastOf M.sa ha h0 x hx) (k3 y hy)
  refine aC (λe=>wpS_pure (RR.fin2 Gn (beq_iff_eq.mp e))) λe=>?_
  refine aC (λe=>wpS_pure (RR.fin1 Gn (.inr (beq_iff_eq.mp e)))) λe2=>?_
  have q1:m≠1:=λq=>e (beq_iff_eq.mpr q)
  have q2:m≠0:=λq=>e2 (beq_iff_eq.mpr q)
  exact JO M RR Gn ha h0 (Nat.lt_of_le_of_ne (Nat.pos_of_ne_zero q2) (Ne.symm q1)) cy (WN h0 hn (Nat.le_trans k1 (Nat.sub_le ..)))
 ·have:m=nb-1:=Nat.le_antisymm k1 (Nat.le_of_sub_eq_zero (Nat.eq_zero_of_not_pos zm))
  rw[this]at cy
  exact JO M RR Gm ha h0 e' cy (WN h0 hn (Nat.sub_le ..))
noncomputable def Su(a b out:Array Keyed)(na nb mg ac bc:Nat):StateT SortSt Sem (ForInStep uh):=do
 fc mg
 let x←elem' b (nb-1)
 let some m←iD false x a 0 na (na-1)|pure (.done (some (a.extract 0 na++b.extract 0 nb++out.reverse),na,nb,out,mg,ac,bc))
 if na-m>0 then
  if(m==0)=true then pure (.done (some (a.extract 0 m++b.extract 0 nb++(out++(a.extract m na).reverse).reverse),m,nb,out++(a.extract m na).reverse,mg,na-m,bc))
  else Ss a b (out++(a.extract m na).reverse) m nb mg (na-m) bc
 else Ss a b out na nb mg (na-m) bc
theorem JQ(hC:dm prog w A s C P kd)(hk:kindOf st=kd)(M:MP C a b)(lZ: ∀x∈a.toList,P x)(qj: ∀x∈b.toList,P x)(RR:JN C a b R st n N){bc ac:Nat}(hI:MH C a b out na nb)(h0:0<na)(hb:1<nb)
  (hn:n+na+nb≤N+1):wpS (model prog w) A E s (Su a b out na nb mg ac bc) R (setG st g):=by
 have b1:=hI.ha
 have b2:=hI.hb
 have ui:nb-1<b.size:=Nat.lt_of_lt_of_le (Nat.sub_lt (Nat.lt_of_succ_lt hb) Nat.one_pos) b2
 refine wpS_bind (jH ?_)
 refine wpS_bind (a9 (Array.getElem?_eq_getElem ui) ?_)
 refine wpS_bind (cp hC hk (qj _ (by simp)) lZ (by rw[Nat.zero_add];exact b1) (by exact Nat.sub_lt ‹_› Nat.one_pos) ?_ λm k1 k2 k3=>?_)
 ·rw[List.drop_zero];exact(MI.aY M.sa _).1
 rw[List.drop_zero]at k2 k3
 have hle: ∀x∈a.toList.take m,C.le x b[nb-1]:=λx hx=>by
  have:=k2 x hx
  simp only[beyond,Bool.false_eq_true,if_false,Bool.not_eq_true']at this
  exact this
 refine aC (λzm=>?_) λzm=>?_
 ·have Go:MH C a b (out++(a.extract m na).reverse) m nb:=by
   refine hI.oY M k1 (by simp[List.drop_take]) λx hx y hy=>?_
   have:=k3 x hx
   simp only[beyond,Bool.false_eq_true,if_false,Bool.not_eq_false']at this
   exact Ord.lt_of_le_of_lt (C:=C) (lastOf M.sb ui (by exact Nat.lt_of_succ_lt ‹_›) y hy) this
  refine aC (λe=>wpS_pure (RR.fin1 Go (.inl (beq_iff_eq.mp e)))) λe=>?_
  have q1:m≠0:=λq=>e (beq_iff_eq.mpr q)
  exact JP hC hk M lZ qj RR Go (by exact Nat.pos_of_ne_zero ‹_›) hb ui hle (Nat.le_trans (Nat.add_le_add_right (Nat.add_le_add_left k1 n) nb) hn)
 ·have:m=na:=Nat.le_antisymm k1 (Nat.le_of_sub_eq_zero (Nat.eq_zero_of_not_pos zm))
  rw[this]at hle
  exact JP hC hk M lZ qj RR hI h0 hb ui hle hn
end
theorem Gx{a b:Array Keyed}{n N:Nat}{st aU:SortSt}{R:ForInStep uh→SortSt→Prop}{t:StateT SortSt Sem (ForInStep uh)}(RR:JN C a b R st n N)(f:JN C a b R st n N→wpS (model prog w) A E s t R aU):wpS (model prog w) A E s t R aU:=f RR
inductive WZ(C:Ord)(a b:Array Keyed)(st:SortSt)(T x:Nat):Option (Array Keyed)×Nat×Nat×Array Keyed×Nat→SortSt→Prop
 |mk (out:Array Keyed) (na nb mg g:Nat) (hI:MH C a b out na nb) (l1:0<na) (l2:1<nb) (l3:x+na+nb≤T):WZ C a b st T x (none,na,nb,out,mg) (setG st g)
inductive Sv(C:Ord)(a b:Array Keyed)(st:SortSt)(T x:Nat):Option (Array Keyed)×Nat×Nat×Array Keyed×Nat×Nat→SortSt→Prop
 |mk (out:Array Keyed) (na nb ac bc g:Nat) (hI:MH C a b out na nb) (l1:0<na) (l2:1<nb) (l3:x+na+nb≤T):Sv C a b st T x (none,na,nb,out,ac,bc) (setG st g)
inductive Sw(C:Ord)(a b:Array Keyed)(st:SortSt)(T x:Nat):Option (Array Keyed)×Nat×Nat×Array Keyed×Nat×Nat×Nat→SortSt→Prop
 |mk (out:Array Keyed) (na nb mg ac bc g:Nat) (hI:MH C a b out na nb) (l1:0<na) (l2:1<nb) (l3:x+na+nb≤T):Sw C a b st T x (none,na,nb,out,mg,ac,bc) (setG st g)
theorem rK(hC:dm prog w A s C P kd){a b:Array Keyed}{st:SortSt}{Q:Array Keyed→SortSt→Prop}(hk:kindOf st=kd)(M:MP C a b)
  (lZ: ∀x∈a.toList,P x) (qj: ∀x∈b.toList,P x)
  (hQ: ∀r g,C.dk r.toList→C.bf r.toList (a.toList++b.toList)→Q r (setG st g)):
  wpS (model prog w) A E s (zj a b) Q st:=by
 have Gr:=M.nb
 have JI:=M.na
 have fin1: ∀{out:Array Keyed} {na nb g:Nat},MH C a b out na nb→(na=0∨nb=0)→Q (a.extract 0 na++b.extract 0 nb++out.reverse) (setG st g):=
  λh he=>hQ _ _ (h.finish M he).1 (h.finish M he).2
 have fin2: ∀{out:Array Keyed} {na nb g:Nat},MH C a b out na nb→nb=1→Q (b.extract 0 nb++a.extract 0 na++out.reverse) (setG st g):=
  λh he=>hQ _ _ (h.vY M he).1 (h.vY M he).2
 have W0:a.size-1<a.size:=Nat.sub_lt JI Nat.one_pos
 have Gs:MH C a b #[a[a.size-1]] (a.size-1) b.size:=by
  have h0:MH C a b #[] a.size b.size:=by
   refine⟨Nat.le_refl _,Nat.le_refl _,.nil,?_,?_,?_⟩
   ·have e1:a.toList.drop a.size= []:=List.drop_eq_nil_of_le (by simp)
    have e2:b.toList.drop b.size= []:=List.drop_eq_nil_of_le (by simp)
    rw[e1,e2];exact .refl _
   ·intro x _ y hy;rw[List.drop_eq_nil_of_le (by simp)]at hy;cases hy
   ·intro x _ y hy;rw[List.drop_eq_nil_of_le (by simp)]at hy;cases hy
  exact MH.xt (out:= #[]) M W0 JI h0 λy hy=>M.hi y (List.mem_of_mem_take hy)
 refine wpS_bind (dp ?_)
 refine wpS_bind (a9 (Array.getElem?_eq_getElem W0) ?_)
 refine aC (λh1=>wpS_pure (fin1 (g:=gallopOf st) Gs (.inl (beq_iff_eq.mp h1)))) λh1=>?_
 refine aC (λh2=>wpS_pure (fin2 (g:=gallopOf st) Gs (beq_iff_eq.mp h2))) λh2=>?_
 have h1:a.size-1≠0:=λq=>h1 (beq_iff_eq.mpr q)
 have h2:b.size≠1:=λq=>h2 (beq_iff_eq.mpr q)
 refine wpS_bind (wpS_get ?_)
 refine wpS_bind (wpS_mono (wpS_forRange (I:=λx=>WZ C a b st (a.size+b.size) (x+1)) (Q:=Sq Q) ?step ?fin (.mk #[a[a.size-1]] (a.size-1) b.size _ (gallopOf st) Gs (Nat.pos_of_ne_zero h1) (Nat.lt_of_le_of_ne Gr (Ne.symm h2)) (Yu JI))) ?post)
 case fin=>
  intro c aU hh
  induction hh with|mk out na nb mg g hI l1 l2 l3=>
  exact(Gh l3).elim
 case post=>
  intro c aU hh
  induction hh with|ret hr=>
  exact wpS_pure hr
 case step=>
  intro x c aU _ hx hh
  induction hh with|mk out na nb mg g hI l1 l2 l3=>
  refine wpS_bind (wpS_mono (wpS_forRange (I:=Sv C a b st (na+nb)) (Q:=oZ Q (Sv C a b st (na+nb) 1)) ?step1 ?fin1 (.mk out na nb 0 0 g hI l1 l2 (Nat.le_of_eq (by rw[Nat.zero_add])))) ?post1)
  case fin1=>
   intro c aU hh
   induction hh with|mk out Fb C4 ac bc g rH m1 m2 m3=>
   exact(vW (Nat.add_le_add hI.ha hI.hb) m1 m3).elim
  case step1=>
   intro y c aU _ hy hh
   induction hh with|mk out Fb C4 ac bc g rH m1 m2 m3=>
   have b1:=rH.ha
   have b2:=rH.hb
   have q1:Fb-1<a.size:=Nat.lt_of_lt_of_le (Nat.sub_lt m1 Nat.one_pos) b1
   have q2:C4-1<b.size:=Nat.lt_of_lt_of_le (Nat.sub_lt (Nat.lt_of_succ_lt m2) Nat.one_pos) b2
   refine wpS_bind (a9 (Array.getElem?_eq_getElem q2) ?_)
   refine wpS_bind (a9 (Array.getElem?_eq_getElem q1) ?_)
   refine wpS_bind (hC.lt _ _ _ _ _ (qj _ (by simp)) (lZ _ (by simp)) hk ?_)
   refine aC (λhw=>?_) λhw=>?_
   ·have jI:=MH.xt M q1 m1 rH λy hy=>Ord.lt_of_le_of_lt (C:=C) (lastOf M.sb q2 (by exact Nat.lt_of_succ_lt ‹_›) y hy) hw
    refine wpS_bind (a9 (Array.getElem?_eq_getElem q1) ?_)
    refine aC (λe=>wpS_pure (.ret (fin1 jI (.inl (beq_iff_eq.mp e))))) λe=>?_
    have e':0<Fb-1:=Nat.pos_of_ne_zero λq=>e (beq_iff_eq.mpr q)
    exact aC (λ_=>wpS_pure (.go (.mk _ _ _ _ _ _ jI e' m2 (E6 m1 m3)))) λ_=>wpS_pure (.mk _ _ _ _ _ _ jI e' m2 (IT m1 m3))
   ·have jI:=MH.xr M q2 (Nat.lt_of_succ_lt m2) rH λx hx=>Ord.le_trans (C:=C) (lastOf M.sa q1 m1 x hx) (Bool.eq_false_iff.mpr hw)
    refine wpS_bind (a9 (Array.getElem?_eq_getElem q2) ?_)
    refine aC (λe=>wpS_pure (.ret (fin2 jI (beq_iff_eq.mp e)))) λe=>?_
    have e':1<C4-1:=by
     have:C4-1≠1:=λq=>e (beq_iff_eq.mpr q)
     exact Nat.lt_of_le_of_ne (Nat.le_sub_one_of_lt m2) this.symm
    exact aC (λ_=>wpS_pure (.go (.mk _ _ _ _ _ _ jI m1 e' (Yv (Nat.lt_of_succ_lt m2) m3)))) λ_=>wpS_pure (.mk _ _ _ _ _ _ jI m1 e' (Yw (Nat.lt_of_succ_lt m2) m3))
  case post1=>
   intro c aU hh
   induction hh with
   |ret hr=>exact wpS_pure (.ret hr)
   |go hh=>
   induction hh with|mk out Fb C4 ac bc g rH m1 m2 m3=>
   refine wpS_bind (dp ?_)
   refine wpS_bind (wpS_mono (wpS_forRange (I:=Sw C a b st (Fb+C4)) (Q:=oZ Q (Sw C a b st (Fb+C4) 0)) ?step2 ?fin2 (.mk out Fb C4 _ _ _ g rH m1 m2 (Nat.le_of_eq (by rw[Nat.zero_add])))) ?post2)
   case fin2=>
    intro c aU hh
    induction hh with|mk out Ra Rb CZ C0 C2 g jI n1 n2 n3=>
    exact(vW (Nat.add_le_add rH.ha rH.hb) n1 n3).elim
   case post2=>
    intro c aU hh
    induction hh with
    |ret hr=>exact wpS_pure (.ret hr)
    |go hh=>
    induction hh with|mk out Ra Rb CZ C0 C2 g jI n1 n2 n3=>
    exact wpS_bind (jH (wpS_pure (.mk _ _ _ _ _ jI n1 n2 (Yx n3 m3 l3))))
   case step2=>
    intro y c aU _ hy hh
    induction hh with|mk out Ra Rb CZ C0 C2 g jI n1 n2 n3=>
    refine Gx (n:=y+1) (N:=Fb+C4) ⟨λh e=> .ret (fin1 h e),λh e=> .ret (fin2 h e),λh h1 h2 h3=>⟨.go (.mk _ _ _ _ _ _ _ h h1 h2 (Yy h3)),.mk _ _ _ _ _ _ _ h h1 h2 h3⟩⟩ λRR=>?_
    refine aC (λ_=>?_) λ_=>?_
    ·exact qk (t':=Su a b out Ra Rb (CZ-1) C0 C2) (by kernel_rfl) (JQ hC hk M lZ qj RR jI n1 n2 (WT n3))
    ·exact qk (t':=Su a b out Ra Rb CZ C0 C2) (by kernel_rfl) (JQ hC hk M lZ qj RR jI n1 n2 (WT n3))
end
end Mine.Internal
end
section
open PySem PyProof.Rows
namespace Mine.Internal
structure SS(kd:SortKind)(l:List Keyed)(p:Array (Nat×Nat×Nat))(st:SortSt):Prop where
 kind:kindOf st=kd
 arr:arrOf st=l.toArray
 pend:pendingOf st=p
 fail:failedOf st=none
theorem rL(base:Nat): ∀(l:List Keyed) (n:Nat) (p z t:List Keyed),z.length=l.length→p.length=base+n→
  (l.zipIdx n).foldl (λa x=>a.setIfInBounds (base+x.snd) x.fst) (p++z++t).toArray=(p++l++t).toArray
 | [],n,p,z,t,h,_=>by
  obtain rfl:=List.eq_nil_of_length_eq_zero h
  rfl
 |x::l,n,p,[],t,h,_=>by simp at h
 |x::l,n,p,y::z,t,h,hp=>by
  rw[List.zipIdx_cons,List.foldl_cons]
  have e:(p++(y::z)++t).toArray.setIfInBounds (base+n) x=((p++ [x])++z++t).toArray:=by
   rw[List.setIfInBounds_toArray,←hp]
   congr 1
   rw[List.append_assoc,List.set_append]
   simp
  show List.foldl _ ((p++(y::z)++t).toArray.setIfInBounds (base+n) x) _=_
  rw[e,rL base l (n+1) (p++ [x]) z t (by simpa using h) (by rw[List.length_append,hp];rfl)]
  simp
section
variable{prog:Program}{w:World}{A:Around}{E:Value→Shared→Prop}{s:Shared}{C:Ord}{P:Keyed→Prop}{kd:SortKind}
theorem C5{st aU:SortSt}{Q:PUnit→SortSt→Prop}(h:Q ⟨⟩ aU):wpS (model prog w) A E s (set aU:StateT SortSt Sem PUnit) Q st:=by
 unfold wpS;rw[StateT.run_set];exact wpAny_pure ⟨rfl,h⟩
theorem rM{p r q:List Keyed}{n:Nat}(hn:n=r.length):((p++r++q).drop p.length).take n=r:=by
 subst hn;rw[List.append_assoc,List.drop_left,List.take_left]
theorem rO(hC:dm prog w A s C P kd){i:Nat}{pre r1 r2 post:List Keyed}{p:Array (Nat×Nat×Nat)}{pw pw':Nat}{st:SortSt}{Q:Bool→SortSt→Prop}
  (hS:SS kd (pre++r1++r2++post) p st) (h1:p[i]? =some (pre.length,r1.length,pw)) (h2:p[i+1]? =some (pre.length+r1.length,r2.length,pw'))
  (n1:r1≠ []) (n2:r2≠ []) (s1:C.dk r1) (s2:C.dk r2) (hP: ∀x∈pre++r1++r2++post,P x)
  (hQ: ∀m aU,C.dk m→C.bf m (r1++r2)→SS kd (pre++m++post) ((p.setIfInBounds i (pre.length,r1.length+r2.length,pw)).eraseIdxIfInBounds (i+1)) aU→Q true aU):
  wpS (model prog w) A E s (mergeAt' i) Q st:=by
 obtain⟨hk,ha,hp,hf⟩:=hS
 have l1:0<r1.length:=List.length_pos_iff.mpr n1
 have l2:0<r2.length:=List.length_pos_iff.mpr n2
 refine wpS_bind (wpS_get ?_)
 dsimp only
 have xu:(pendingOf st)[i]? =some (pre.length,r1.length,pw):=by rw[hp];exact h1
 have xv:(pendingOf st)[i+1]? =some (pre.length+r1.length,r2.length,pw'):=by rw[hp];exact h2
 rw[xu,xv]
 dsimp only
 refine wpS_bind (C5 ?_)
 have IU: ∀j,(arrOf st)[j]? =(pre++r1++r2++post)[j]? :=λj=>by rw[ha];exact List.getElem?_toArray ..
 refine cg (List.exists_cons_of_ne_nil n2) λy0 gA JR=>?_
 subst JR
 have lZ: ∀x∈(arrOf st).toList,P x:=by rw[ha];simpa using hP
 have YK:P y0:=hP _ (by simp)
 refine wpS_bind (a9 (x:=y0) (by rw[IU,List.append_assoc,List.getElem?_append_right (by simp)];simp) ?_)
 have W2:pre.length+r1.length≤(arrOf st).size:=by rw[ha];simp
 have W3:pre.length+r1.length+(y0::gA).length≤(arrOf st).size:=by rw[ha,List.size_toArray,List.length_append,List.length_append,List.length_append];exact Nat.le_add_right _ _
 have C6:C.dk (((arrOf st).toList.drop pre.length).take r1.length):=by
  rw[ha]
  skip
  rw[show(pre++r1++(y0::gA)++post)=pre++r1++((y0::gA)++post) by simp,rM rfl];exact s1
 have C7:C.dk (((arrOf st).toList.drop (pre.length+r1.length)).take (y0::gA).length):=by
  rw[ha]
  skip
  have e:=rM (p:=pre++r1) (r:=y0::gA) (q:=post) rfl
  rw[List.length_append]at e
  rw[e];exact s2
 refine wpS_bind (cp hC hk YK lZ W2 l1 C6 λk k1 k2 k3=>?_)
 dsimp only
 have JS:((arrOf st).toList.drop pre.length)=r1++((y0::gA)++post):=by
  rw[ha];simp
 rw[JS,List.take_append_of_le_length k1]at k2
 rw[JS,List.take_left]at k3
 have Sx:SS kd (pre++(r1++(y0::gA))++post) ((p.setIfInBounds i (pre.length,r1.length+(y0::gA).length,pw)).eraseIdxIfInBounds (i+1))
   (setPending st (((pendingOf st).setIfInBounds i (pre.length,r1.length+(y0::gA).length,pw)).eraseIdxIfInBounds (i+1))):=
  ⟨hk,by show arrOf st=_;rw[ha];simp,by show Array.eraseIdxIfInBounds _ _=_;rw[hp],hf⟩
 have aT: ∀x∈r1.take k,C.le x y0:=λx hx=>by
  have:=k2 x hx
  simp only[beyond,Bool.false_eq_true,if_false,Bool.not_eq_true']at this
  exact this
 have Gy: ∀x∈r1.drop k,C.Lt y0 x:=λx hx=>by
  have:=k3 x hx
  simp only[beyond,Bool.false_eq_true,if_false,Bool.not_eq_false']at this
  exact this
 have Fc: ∀y∈y0::gA,C.le y0 y:=λy hy=>by
  rcases List.mem_cons.mp hy with rfl|hy
  ·exact Ord.le_refl _
  ·exact(List.pairwise_cons.mp s2).1 y hy
 refine aC (λe1=>?_) (λe1=>?_)
 ·-- all of ql first run Gz Rc
  simp only[beq_iff_eq]at e1
  refine wpS_pure (hQ _ _ ?_ (.refl _) Sx)
  refine s1.append s2 λx hx y hy=>?_
  have cv:x∈r1.take k:=by rw[List.take_of_length_le (Nat.le_of_sub_eq_zero e1)];exact hx
  exact Ord.le_trans (aT x cv) (Fc y hy)
 simp only[beq_iff_eq]at e1
 -- ql last of ql first run
 obtain⟨z,zo,hz⟩: ∃z zo,r1=zo++ [z]:=⟨r1.getLast n1,r1.dropLast,(List.dropLast_concat_getLast n1).symm⟩
 have YL:P z:=hP _ (by rw[hz];simp)
 have W4: ∀x∈r1,C.le x z:=λx hx=>by
  rw[hz]at hx s1
  rcases List.mem_append.mp hx with hx|hx
  ·exact(List.pairwise_append.mp s1).2.2 x hx z (by simp)
  ·obtain rfl:=List.mem_singleton.mp hx;exact Ord.le_refl _
 have vZ:r1.length=zo.length+1:=by rw[hz];simp
 refine wpS_bind (a9 (x:=z) ?_ ?_)
 ·rw[IU,show pre.length+k+(r1.length-k)-1=pre.length+zo.length from Yz k1 vZ,hz]
  rw[show pre++(zo++ [z])++(y0::gA)++post=pre++(zo++(z::((y0::gA)++post))) by simp]
  rw[List.getElem?_append_right (by exact Nat.le_add_right _ _),Nat.add_sub_cancel_left,List.getElem?_append_right (by exact Nat.le_refl _)];simp
 refine wpS_bind (cp hC hk YL lZ W3 (by simp) C7 λm m1 m2 m3=>?_)
 dsimp only
 have zp:((arrOf st).toList.drop (pre.length+r1.length))=(y0::gA)++post:=by
  rw[ha]
  skip
  rw[show(pre++r1++(y0::gA)++post)=(pre++r1)++((y0::gA)++post) by simp,←List.length_append,List.drop_left]
 rw[zp,List.take_append_of_le_length m1]at m2
 rw[zp,List.take_left]at m3
 have Sy: ∀y∈(y0::gA).take m,C.Lt y z:=λy hy=>by
  have:=m2 y hy
  simp only[beyond,if_true]at this
  exact this
 have W5: ∀y∈(y0::gA).drop m,C.le z y:=λy hy=>by
  have:=m3 y hy
  simp only[beyond,if_true]at this
  exact this
 refine aC (λe2=>?_) (λe2=>?_)
 ·simp only[beq_iff_eq]at e2
  refine wpS_pure (hQ _ _ ?_ (.refl _) Sx)
  subst e2
  exact s1.append s2 λx hx y hy=>Ord.le_trans (W4 x hx) (W5 y hy)
 simp only[beq_iff_eq]at e2
 -- ql merge
 have x1:=MI.aY s1 k
 have x2:=MI.aY s2 m
 have ex:((arrOf st).extract (pre.length+k) (pre.length+r1.length)).toList=r1.drop k:=by
  rw[MH.ext2,ha]
  skip
  rw[show(pre++r1++(y0::gA)++post)=(pre++r1)++((y0::gA)++post) by simp,←List.length_append,List.take_left,
   List.drop_append,List.drop_eq_nil_of_le (by exact Nat.le_add_right _ _),List.nil_append,Nat.add_sub_cancel_left]
 have ey:((arrOf st).extract (pre.length+r1.length) (pre.length+r1.length+m)).toList=(y0::gA).take m:=by
  rw[MI.kh,zp,List.take_append_of_le_length m1]
 generalize (arrOf st).extract (pre.length+k) (pre.length+r1.length)=X at ex ⊢
 generalize (arrOf st).extract (pre.length+r1.length) (pre.length+r1.length+m)=Y at ey ⊢
 have M:MP C X Y:=by
  have sx:X.size=r1.length-k:=by rw[←Array.length_toList,ex];simp
  have sy:Y.size=m:=by rw[←Array.length_toList,ey,List.length_take];exact Nat.min_eq_left m1
  refine⟨by rw[ex];exact x1.2.1,by rw[ey];exact x2.1,by rw[sx];exact Nat.pos_of_ne_zero e1,by rw[sy];exact Nat.pos_of_ne_zero e2,?_,?_⟩
  ·intro x hx
   rw[ex]at hx
   have e0: ∀h,Y[0]'h=y0:=by
    intro h
    rw[←Array.getElem_toList h]
    simp only[ey]
    obtain⟨m',rfl⟩: ∃m',m=m'+1:=⟨m-1,(Nat.sub_add_cancel (Nat.pos_of_ne_zero e2)).symm⟩
    rfl
   rw[e0];exact Gy x hx
  ·intro y hy
   rw[ey]at hy
   have e1:(r1.drop k)[r1.length-k-1]? =some z:=by
    rw[List.getElem?_drop,show k+(r1.length-k-1)=zo.length from YA k1 vZ e1,hz];simp
   have e0: ∀h,X[X.size-1]'h=z:=by
    intro h
    have e2:=Array.getElem?_eq_getElem h
    rw[←Array.getElem?_toList,ex]at e2
    have e4:(r1.drop k)[X.size-1]? =some z:=by rw[sx];exact e1
    exact Option.some.inj (e2.symm.trans e4)
   rw[e0];exact Sy y hy
 have Rd: ∀x∈X.toList,P x:=λx hx=>by
  rw[ex]at hx;exact hP _ (by have:=List.mem_of_mem_drop hx;simp[this])
 have W6: ∀x∈Y.toList,P x:=λx hx=>by
  rw[ey]at hx;exact hP _ (by have h:=List.mem_of_mem_take hx;rw[List.append_assoc];exact List.mem_append_right _ (List.mem_append_left _ h))
 have fin: ∀(r:Array Keyed) (g:Nat),C.dk r.toList→C.bf r.toList (X.toList++Y.toList)→
   wpS (model prog w) A E s (do
    modify λs=>setArr s (r.toList.zipIdx.foldl (λa x=>a.setIfInBounds (pre.length+k+x.snd) x.fst) (arrOf s))
    return (failedOf (←get)).isNone) Q (setG (setPending st (((pendingOf st).setIfInBounds i (pre.length,r1.length+(y0::gA).length,pw)).eraseIdxIfInBounds (i+1))) g):=by
  intro r g l5 C8
  rw[ex,ey]at C8
  have JT: ∀x∈r.toList,x∈r1.drop k∨x∈(y0::gA).take m:=λx hx=>List.mem_append.mp ((C8.perm.mem_iff).mp hx)
  refine wpS_bind (wpS_modify ?_)
  refine wpS_bind (wpS_get ?_)
  have Sz:r.toList.zipIdx.foldl (λa x=>a.setIfInBounds (pre.length+k+x.snd) x.fst) (arrOf st)=(pre++(r1.take k++r.toList++(y0::gA).drop m)++post).toArray:=by
   have e0:arrOf st=((pre++r1.take k)++(r1.drop k++(y0::gA).take m)++((y0::gA).drop m++post)).toArray:=by
    rw[ha];congr 1
    have ea:r1.take k++r1.drop k=r1:=List.take_append_drop ..
    have eb:(y0::gA).take m++(y0::gA).drop m=y0::gA:=List.take_append_drop ..
    conv=>lhs;rw[←ea,←eb]
    simp only[List.append_assoc]
   rw[e0,rL (pre.length+k) r.toList 0 _ _ _ (C8.length.symm) (by rw[List.length_append,List.length_take,Nat.min_eq_left k1];rfl)]
   simp only[List.append_assoc]
  have gg:(failedOf (setArr (setG (setPending st (((pendingOf st).setIfInBounds i (pre.length,r1.length+(y0::gA).length,pw)).eraseIdxIfInBounds (i+1))) g) (r.toList.zipIdx.foldl (λa x=>a.setIfInBounds (pre.length+k+x.snd) x.fst) (arrOf st)))).isNone=true:=by
   skip
   rw[hf];rfl
  refine wpS_pure ?_
  skip
  rw[hf]
  refine hQ (r1.take k++r.toList++(y0::gA).drop m) _ ?_ ?_ ⟨hk,Sz,Sx.pend,hf⟩
  ·refine Ord.dk.append (Ord.dk.append x1.1 l5 λx hx y hy=>?_) x2.2.1 λx hx y hy=>?_
   ·rcases JT y hy with hy|hy
    ·exact x1.2.2 x hx y hy
    ·exact Ord.le_trans (aT x hx) (Fc y (List.mem_of_mem_take hy))
   ·rcases List.mem_append.mp hx with hx|hx
    ·exact Ord.le_trans (aT x hx) (Fc y (List.mem_of_mem_drop hy))
    ·rcases JT x hx with hx|hx
     ·exact Ord.le_trans (W4 x (List.mem_of_mem_drop hx)) (W5 y hy)
     ·exact x2.2.2 x hx y hy
  ·have ea:r1.take k++r1.drop k=r1:=List.take_append_drop ..
   have eb:(y0::gA).take m++(y0::gA).drop m=y0::gA:=List.take_append_drop ..
   conv=>rhs;rw[←ea,←eb]
   have h3:=((Ord.bf.refl (C:=C) (r1.take k)).append C8).append (.refl ((y0::gA).drop m))
   simpa only[List.append_assoc]using h3
 refine aC (λ_=>?_) (λ_=>?_)
 ·exact wpS_bind (rG hC hk M Rd W6 fin)
 ·exact wpS_bind (rK hC hk M Rd W6 fin)
end
end Mine.Internal
end
section
open PySem PyProof.Rows
namespace Mine.Internal
section
variable{prog:Program}{w:World}{A:Around}{E:Value→Shared→Prop}{s:Shared}{C:Ord}{P:Keyed→Prop}{kd:SortKind}
theorem fy(hC:dm prog w A s C P kd){l:List Keyed}{p:Array (Nat×Nat×Nat)}{st:SortSt}{i j:Nat}{x y:Keyed}{Q:Option Bool→SortSt→Prop}(hS:SS kd l p st)
  (hi:l[i]? =some x) (hj:l[j]? =some y) (hx:P x) (hy:P y) (h:Q (some (C.lt x y)) st):wpS (model prog w) A E s (ltAt' i j) Q st:=by
 rw[ltAt'_eq]
 refine wpS_bind (wpS_get ?_)
 have ha:=hS.arr
 refine wpS_bind (a9 (x:=x) (by rw[ha];simpa using hi) (wpS_bind (a9 (x:=y) (by rw[ha];simpa using hj) ?_)))
 exact hC.lt _ _ _ _ _ hx hy hS.kind h
theorem lu(p1 zq p2:List Keyed):
  mirror (p1++zq++p2).toArray p1.length (p1.length+zq.length) ((p1.length+zq.length-p1.length)/2)=(p1++zq.reverse++p2).toArray:=by
 apply Array.ext_getElem?
 intro k
 rw[getElem?_mirror_all (by simp)]
 simp only[List.getElem?_toArray]
 split
 ·rename_i h
  obtain⟨m,rfl⟩: ∃m,k=p1.length+m:=⟨k-p1.length,(Nat.add_sub_of_le h.1).symm⟩
  have hm:m<zq.length:=Nat.lt_of_add_lt_add_left h.2
  rw[Yr hm,List.append_assoc,List.append_assoc,List.getElem?_append_right (Nat.le_add_right _ _),List.getElem?_append_right (Nat.le_add_right _ _),Nat.add_sub_cancel_left,Nat.add_sub_cancel_left,
   List.getElem?_append_left (by rw[Nat.sub_sub,Nat.add_comm];exact Nat.sub_lt (Nat.lt_of_le_of_lt (Nat.zero_le _) hm) (Nat.succ_pos _)),List.getElem?_append_left (by rw[List.length_reverse];exact hm),List.getElem?_reverse hm]
 ·rename_i h
  by_cases h1:k<p1.length
  ·rw[List.append_assoc,List.append_assoc,List.getElem?_append_left h1,List.getElem?_append_left h1]
  ·have gf:p1.length+zq.length≤k:=Nat.le_of_not_lt λq=>h ⟨Nat.le_of_not_lt h1,q⟩
   rw[List.getElem?_append_right (by rw[List.length_append];exact gf),List.getElem?_append_right (by rw[List.length_append,List.length_reverse];exact gf)]
   simp
theorem l6{p1 zq p2:List Keyed}{p:Array (Nat×Nat×Nat)}{st:SortSt}{i j:Nat}{Q:Unit→SortSt→Prop}(hS:SS kd (p1++zq++p2) p st)(hi:i=p1.length)(hj:j=p1.length+zq.length)
  (h: ∀aU,SS kd (p1++zq.reverse++p2) p aU→Q () aU):wpS (model prog w) A E s (reverseSlice' i j) Q st:=by
 subst hi hj
 rw[reverseSlice'_eq]
 refine wpS_modify (h _ ⟨hS.kind,?_,hS.pend,hS.fail⟩)
 show mirror (arrOf st) _ _ _=_
 rw[hS.arr]
 exact lu p1 zq p2
theorem lx(p1 b:List Keyed)(x:Keyed)(p2:List Keyed):
  bubble (p1++b++ [x]++p2).toArray (p1.length+b.length) b.length=(p1++ [x]++b++p2).toArray:=by
 apply Array.ext_getElem?
 intro k
 rw[getElem?_bubble (by simp) _ (by exact Nat.le_add_left _ _),Nat.add_sub_cancel]
 simp only[List.getElem?_toArray]
 split
 ·rename_i h
  subst h
  simp
 ·split
  ·rename_i h h'
   obtain⟨m,rfl⟩: ∃m,k=p1.length+1+m:=⟨k-(p1.length+1),(Nat.add_sub_of_le h'.1).symm⟩
   have hm:m<b.length:=by
    have:=h'.2
    rw[Nat.add_assoc,Nat.add_comm 1]at this
    exact Nat.lt_of_add_lt_add_left this
   rw[show p1.length+1+m-1=p1.length+m by rw[Nat.add_right_comm];rfl]
   have e1:(p1++b++ [x]++p2)[p1.length+m]? =b[m]? :=by
    rw[List.append_assoc,List.append_assoc,List.getElem?_append_right (Nat.le_add_right _ _),Nat.add_sub_cancel_left,List.getElem?_append_left hm]
   have e2:(p1++ [x]++b++p2)[p1.length+1+m]? =b[m]? :=by
    rw[List.append_assoc,List.getElem?_append_right (by simp),show p1.length+1+m-(p1++ [x]).length=m by simp,List.getElem?_append_left hm]
   rw[e1,e2]
  ·rename_i h h'
   by_cases h1:k<p1.length
   ·simp only[List.append_assoc]
    rw[List.getElem?_append_left h1,List.getElem?_append_left h1]
   ·have gf:p1.length+b.length+1≤k:=Nat.lt_of_not_le λq=>h' ⟨Nat.lt_of_le_of_ne (Nat.le_of_not_lt h1) (Ne.symm h),q⟩
    rw[List.getElem?_append_right (by rw[List.length_append,List.length_append];exact gf),List.getElem?_append_right (by rw[List.length_append,List.length_append,Nat.add_right_comm];exact gf)]
    congr 1;simp
theorem qm{p1 b p2:List Keyed}{x:Keyed}{p:Array (Nat×Nat×Nat)}{st:SortSt}{i j:Nat}{Q:Unit→SortSt→Prop}(hS:SS kd (p1++b++ [x]++p2) p st)(hi:i=p1.length+b.length)(hj:j=p1.length)
  (h: ∀aU,SS kd (p1++ [x]++b++p2) p aU→Q () aU):wpS (model prog w) A E s (moveDown' i j) Q st:=by
 subst hi hj
 rw[moveDown'_eq]
 refine wpS_modify (h _ ⟨hS.kind,?_,hS.pend,hS.fail⟩)
 show bubble (arrOf st) _ _=_
 rw[hS.arr,Nat.add_sub_cancel_left]
 exact lx p1 b x p2
inductive SA(C:Ord)(kd:SortKind)(pre run rest:List Keyed)(p:Array (Nat×Nat×Nat))(k:Nat):Option Bool×Unit→SortSt→Prop
 |mk {st:SortSt} (r:List Keyed) (hk:run.length≤k) (rl:r.length=k) (r1:C.dk r) (r2:C.bf r (run++rest.take (k-run.length))) (r3:SS kd (pre++r++rest.drop (k-run.length)) p st):SA C kd pre run rest p k (none,()) st
inductive W7(C:Ord)(x:Keyed)(r:List Keyed)(k:Nat)(st:SortSt)(y:Nat):Option Bool×Nat×Nat→SortSt→Prop
 |mk (l q:Nat) (a1:l≤q) (a2:q≤k) (a3:q-l≤k-y) (a4: ∀m a,m<l→r[m]? =some a→C.le a x) (a5: ∀m a,q≤m→r[m]? =some a→C.Lt x a):W7 C x r k st y (none,l,q) st
inductive W8(C:Ord)(x:Keyed)(r:List Keyed)(k:Nat)(st:SortSt):Option Bool×Nat×Nat→SortSt→Prop
 |mk (l q:Nat) (a2:l≤k) (a4: ∀m a,m<l→r[m]? =some a→C.le a x) (a5: ∀m a,l≤m→r[m]? =some a→C.Lt x a):W8 C x r k st (none,l,q) st
theorem lL(hC:dm prog w A s C P kd){pre run rest:List Keyed}{p:Array (Nat×Nat×Nat)}{n:Nat}{st:SortSt}{Q:Bool→SortSt→Prop}
  (hS:SS kd (pre++run++rest) p st) (hr:run≠ []) (hs:C.dk run) (hn:run.length≤n) (CE:n≤run.length+rest.length) (hP: ∀x∈pre++run++rest,P x)
  (h: ∀run' aU,C.dk run'→C.bf run' (run++rest.take (n-run.length))→SS kd (pre++run'++rest.drop (n-run.length)) p aU→Q true aU):
  wpS (model prog w) A E s (binarySort' pre.length n run.length) Q st:=by
 have hl:1≤run.length:=List.length_pos_iff.mpr hr
 refine wpS_bind (wpS_mono (wpS_forRange (I:=SA C kd pre run rest p) (Q:=SA C kd pre run rest p n) ?step ?fin ?init) ?post)
 case post=>
  intro c aU hh
  induction hh with|mk r _ _ h1 h2 h3=>
  exact wpS_pure (h r _ h1 h2 h3)
 case init=>
  rw[Nat.max_eq_left hl]
  refine .mk run (Nat.le_refl _) rfl hs ?_ ?_
  ·rw[Nat.sub_self];simp;exact .refl _
  ·rw[Nat.sub_self];simpa using hS
 case fin=>
  intro c aU hh
  rw[Nat.max_eq_left hl,Nat.max_eq_right hn]at hh
  exact hh
 case step=>
  intro k c aU xx CF hh
  induction hh with| @mk cw r Rf rl r1 r2 r3=>
  have cy:k-run.length<rest.length:=Nat.sub_lt_left_of_lt_add Rf (Nat.lt_of_lt_of_le CF CE)
  obtain⟨x,hx⟩: ∃x,rest[k-run.length]? =some x:=⟨_,List.getElem?_eq_getElem cy⟩
  have hd:rest.drop (k-run.length)=x::rest.drop (k+1-run.length):=by
   rw[List.drop_eq_getElem_cons cy,lr Rf]
   congr 1
   rw[List.getElem?_eq_getElem cy]at hx;exact Option.some.inj hx
  have ht:rest.take (k+1-run.length)=rest.take (k-run.length)++ [x]:=by
   rw[lr Rf,List.take_add_one,hx];rfl
  have Rd:P x:=hP _ (by rw[List.mem_append];right;exact List.mem_of_getElem? hx)
  have YM: ∀y∈r,P y:=λy hy=>by
   have:=(r2.perm.mem_iff).mp hy
   refine hP _ ?_
   rcases List.mem_append.mp this with h|h
   ·simp[h]
   ·have:=List.mem_of_mem_take h;simp[this]
  replace r3:=hd▸r3
  have gx:(pre++r++x::rest.drop (k+1-run.length))[pre.length+k]? =some x:=by
   rw[List.getElem?_append_right (by rw[List.length_append,rl];exact Nat.le_refl _)];simp[rl]
  have gr: ∀m,m<k→ ∃y,r[m]? =some y∧(pre++r++x::rest.drop (k+1-run.length))[pre.length+m]? =some y:=λm hm=>by
   have IV:m<r.length:=Nat.lt_of_lt_of_eq hm rl.symm
   refine⟨r[m]'IV,List.getElem?_eq_getElem IV,?_⟩
   rw[List.append_assoc,List.getElem?_append_right (by exact Nat.le_add_right _ _),Nat.add_sub_cancel_left,List.getElem?_append_left IV]
   exact List.getElem?_eq_getElem IV
  have mono: ∀(i j:Nat) (a b:Keyed),i≤j→r[i]? =some a→r[j]? =some b→C.le a b:=λi j a b zl ha hb=>by
   by_cases e:i=j
   ·subst e
    replace hb:=ha▸hb
    obtain rfl:=Option.some.inj hb
    exact Ord.le_refl _
   ·obtain⟨ue,rfl⟩:=List.getElem?_eq_some_iff.mp ha
    obtain⟨Rg,rfl⟩:=List.getElem?_eq_some_iff.mp hb
    exact List.pairwise_iff_getElem.mp r1 i j ue Rg (Nat.lt_of_le_of_ne zl e)
  refine wpS_bind (wpS_mono (wpS_forRange (I:=W7 C x r k cw) (Q:=W8 C x r k cw) ?istep ?ifin ?iinit) ?ipost)
  case iinit=>
   refine .mk 0 k (by exact Nat.zero_le _) (by exact Nat.le_refl _) (by exact Nat.sub_le _ _) (λm a hm=>by exact absurd ‹_› (Nat.not_lt_zero _)) λm a hm ha=>?_
   exact absurd (Nat.lt_of_lt_of_eq (List.getElem?_eq_some_iff.mp ha).1 rl) (Nat.not_lt.mpr hm)
  case ifin=>
   intro c JU hh
   induction hh with|mk l q a1 a2 a3 a4 a5=>
   obtain rfl:l=q:=rC a1 a3
   exact .mk l l a2 a4 a5
  case istep=>
   intro y c JU _ hy hh
   induction hh with|mk l q a1 a2 a3 a4 a5=>
   refine iE (λgf=>?_) (λgf=>?_)
   ·obtain rfl:l=q:=by exact Nat.le_antisymm ‹_› ‹_›
    exact wpS_pure (.mk l l a2 a4 a5)
   have mf:=oW (Nat.lt_of_not_le gf) a3
   refine Exists.elim (gr ((l+q)/2) (by exact Nat.lt_of_lt_of_le mf.2.1 a2)) λz hz=>?_
   exact wpS_bind (fy hC r3 gx hz.2 Rd (YM z (List.mem_of_getElem? hz.1)) (gQ (λe=>wpS_pure (.mk l ((l+q)/2) mf.1 (Nat.le_trans (Nat.le_of_lt mf.2.1) a2) mf.2.2.2 a4 λm a hm ha=>Ord.lt_of_lt_of_le (C:=C) e (mono _ _ _ _ hm hz.1 ha)))
    λe=>wpS_pure (.mk ((l+q)/2+1) q mf.2.1 a2 mf.2.2.1 (λm a hm ha=>Ord.le_trans (C:=C) (mono _ _ _ _ (by exact Nat.le_sub_one_of_lt ‹_›) ha hz.1) e) a5)))
  case ipost=>
   intro c JU hh
   induction hh with|mk l q a2 a4 a5=>
   have er:r=r.take l++r.drop l:=(List.take_append_drop ..).symm
   have tl:(r.take l).length=l:=by rw[List.length_take,rl];exact Nat.min_eq_left a2
   have SD:SS kd ((pre++r.take l)++r.drop l++ [x]++rest.drop (k+1-run.length)) p cw:=by
    have e0:(pre++r.take l)++r.drop l++ [x]++rest.drop (k+1-run.length)=pre++r++x::rest.drop (k+1-run.length):=by
     conv=>rhs;rw[er]
     simp
    rw[e0];exact r3
   refine wpS_bind (qm SD (by rw[List.length_append,tl,List.length_drop,rl,Nat.add_assoc,Nat.add_sub_of_le a2]) (by rw[List.length_append,tl]) λv5 h4=>wpS_pure (.mk (r.take l++ [x]++r.drop l) (Nat.le_succ_of_le Rf) (by rw[List.length_append,List.length_append,tl,List.length_drop,rl];show l+1+(k-l)=k+1;rw[Nat.add_right_comm,Nat.add_sub_of_le a2]) ?_ ?_ ?_))
   ·have sp:=MI.aY r1 l
    have mt: ∀y∈r.take l,C.le y x:=λy hy=>by
     obtain⟨m,hm,rfl⟩:=List.getElem_of_mem hy
     have IV:m<l:=by rw[List.length_take]at hm;exact Nat.lt_of_lt_of_le hm (Nat.min_le_left _ _)
     refine a4 m _ IV ?_
     rw[List.getElem_take];exact List.getElem?_eq_getElem _
    have md: ∀y∈r.drop l,C.Lt x y:=λy hy=>by
     obtain⟨m,hm,rfl⟩:=List.getElem_of_mem hy
     refine a5 (l+m) _ (by exact Nat.le_add_right _ _) ?_
     rw[List.getElem_drop];exact List.getElem?_eq_getElem _
    refine Ord.dk.append (Ord.dk.append sp.1 (List.pairwise_singleton _ _) λy hy z hz=>by obtain rfl:=List.mem_singleton.mp hz;exact mt y hy) sp.2.1 λy hy z hz=>?_
    rcases List.mem_append.mp hy with hy|hy
    ·exact sp.2.2 y hy z hz
    ·obtain rfl:=List.mem_singleton.mp hy;exact Ord.le_of_lt (md z hz)
   ·have md: ∀y∈r.drop l,C.Lt x y:=λy hy=>by
     obtain⟨m,hm,rfl⟩:=List.getElem_of_mem hy
     refine a5 (l+m) _ (Nat.le_add_right _ _) ?_
     rw[List.getElem_drop];exact List.getElem?_eq_getElem _
    rw[ht,←List.append_assoc]
    refine Ord.bf.trans ?_ (r2.append (.refl [x]))
    conv=>rhs;rw[er]
    rw[List.append_assoc,List.append_assoc]
    exact(Ord.bf.refl _).append (Ord.bf.swap λy hy z hz=>by obtain rfl:=List.mem_singleton.mp hy;exact(md z hz).ne)
   ·have e0:pre++(r.take l++ [x]++r.drop l)++rest.drop (k+1-run.length)=pre++r.take l++ [x]++r.drop l++rest.drop (k+1-run.length):=by simp
    rw[e0];exact h4
end
end Mine.Internal
end
section
open PySem PyProof.Rows
namespace Mine.Internal
section
variable{prog:Program}{w:World}{A:Around}{E:Value→Shared→Prop}{s:Shared}{C:Ord}{P:Keyed→Prop}{kd:SortKind}
theorem zr{l:List Keyed}{x:Keyed}(h:C.dk l)(hl: ∀y,l.getLast?=some y→C.le y x):C.dk (l++ [x]):=by
 refine h.append (List.pairwise_singleton _ _) λy hy z hz=>?_
 obtain rfl:=List.mem_singleton.mp hz
 obtain⟨a,b,Rh⟩: ∃a b,l=a++ [b]:=⟨l.dropLast,l.getLast (List.ne_nil_of_mem hy),(List.dropLast_concat_getLast _).symm⟩
 have hb:l.getLast?=some b:=by rw[Rh];simp
 have h1:=hl b hb
 rw[Rh]at h hy
 rcases List.mem_append.mp hy with hy|hy
 ·exact Ord.le_trans ((List.pairwise_append.mp h).2.2 y hy b (by simp)) h1
 ·obtain rfl:=List.mem_singleton.mp hy;exact h1
theorem xy{r:List Keyed}{n:Nat}(h1:1≤n)(h2:n≤r.length):(r.take n).getLast?=r[n-1]? :=by
 rw[List.getLast?_take,if_neg (by exact Nat.ne_of_gt ‹_›),List.getElem?_eq_getElem (Nat.lt_of_lt_of_le (Nat.sub_lt h1 Nat.one_pos) h2)];rfl
theorem mz(hC:dm prog w A s C P kd){pre run r:List Keyed}{p:Array (Nat×Nat×Nat)}{a:Nat}{st:SortSt}{f:Nat→Option (Option Nat)×Nat→StateT SortSt Sem (ForInStep (Option (Option Nat)×Nat))}
  {Q:Option (Option Nat)×Nat→SortSt→Prop} (hS:SS kd (pre++run++r.drop a) p st) (ha:run.length=a) (h1:1≤a) (h2:a≤r.length) (hs:C.dk run) (hP: ∀x∈pre++run++r.drop a,P x)
  (hf: ∀(y n:Nat) Q',(∀x z,(pre++run++r.drop a)[pre.length+n]? =some x→(pre++run++r.drop a)[pre.length+n-1]? =some z→P x→P z→
    wpS (model prog w) A E s (ltAt' (pre.length+n) (pre.length+n-1)) (λb aU=>match b with|some true=>Q' (.done (none,n)) aU|some false=>Q' (.yield (none,n+1)) aU|none=>False) st→
    wpS (model prog w) A E s (f y (none,n)) Q' st))
  (hQ: ∀n,a≤n→n≤r.length→C.dk (run++(r.drop a).take (n-a))→(n=r.length∨ ∃x z,r[n]? =some x∧(run++(r.drop a).take (n-a)).getLast?=some z∧C.Lt x z)→Q (none,n) st):
  wpS (model prog w) A E s (forIn [a:r.length] (none,a) f) Q st:=by
 refine wpS_forRange (I:=λn c aU=>aU=st∧c=(none,n)∧C.dk (run++(r.drop a).take (n-a))) ?step ?fin ⟨rfl,rfl,by simpa using hs⟩
 case fin=>
  rintro c aU ⟨rfl,rfl,ou⟩
  rw[Nat.max_eq_right h2]at ou ⊢
  exact hQ _ h2 (Nat.le_refl _) ou (.inl rfl)
 case step=>
  rintro n c aU h3 h4 ⟨rfl,rfl,ou⟩
  obtain⟨x,hx⟩: ∃x,r[n]? =some x:=⟨_,List.getElem?_eq_getElem h4⟩
  have gx:(pre++run++r.drop a)[pre.length+n]? =some x:=by
   rw[List.append_assoc,List.getElem?_append_right (Nat.le_add_right _ _),Nat.add_sub_cancel_left,List.getElem?_append_right (by rw[ha];exact h3),List.getElem?_drop,ha,Nat.add_sub_of_le h3]
   exact hx
  have GA:(r.drop a)[n-a]? =some x:=by rw[List.getElem?_drop,Nat.add_sub_of_le h3];exact hx
  obtain⟨z,hz⟩: ∃z,(run++(r.drop a).take (n-a)).getLast?=some z:=by
   cases e:(run++(r.drop a).take (n-a)).getLast? with
   |none=>rw[List.getLast?_eq_none_iff]at e;have:=congrArg List.length e;rw[List.length_append,List.length_nil,ha]at this;exact absurd (Nat.add_eq_zero_iff.mp this).1 (Nat.ne_of_gt h1)
   |some z=>exact⟨z,rfl⟩
  have gz:(pre++run++r.drop a)[pre.length+n-1]? =some z:=by
   rw[List.getLast?_eq_getElem?]at hz
   have e:(pre++run++r.drop a)[pre.length+n-1]? =(run++r.drop a)[n-1]? :=by
    rw[List.append_assoc,Nat.add_sub_assoc (Nat.le_trans h1 h3),List.getElem?_append_right (Nat.le_add_right _ _),Nat.add_sub_cancel_left]
   rw[e,←hz]
   have hl:(run++(r.drop a).take (n-a)).length=n:=by rw[List.length_append,ha,List.length_take,List.length_drop,Nat.min_eq_left (Nat.sub_le_sub_right (Nat.le_of_lt h4) a),Nat.add_sub_of_le h3]
   rw[hl]
   by_cases hn:n-1<run.length
   ·rw[List.getElem?_append_left hn,List.getElem?_append_left hn]
   ·rw[List.getElem?_append_right (by exact Nat.le_of_not_lt ‹_›),List.getElem?_append_right (Nat.le_of_not_lt hn),List.getElem?_take,if_pos (by rw[ha];exact Nat.sub_lt_sub_right (by rw[←ha];exact Nat.le_of_not_lt hn) (Nat.sub_lt (Nat.le_trans h1 h3) Nat.one_pos))]
  refine hf n n _ x z gx gz (hP _ (List.mem_of_getElem? gx)) (hP _ (List.mem_of_getElem? gz)) (fy hC hS gx gz (hP _ (List.mem_of_getElem? gx)) (hP _ (List.mem_of_getElem? gz)) ?_)
  cases e:C.lt x z with
  |true=>exact hQ n h3 (by exact Nat.le_of_lt ‹_›) ou (.inr ⟨x,z,hx,hz,e⟩)
  |false=>
   refine⟨rfl,rfl,?_⟩
   rw[Nat.succ_sub h3,List.take_add_one,GA,←List.append_assoc]
   refine zr ou λy hy=>?_
   rw[hz]at hy;obtain rfl:=Option.some.inj hy;exact e
inductive v8(C:Ord)(kd:SortKind)(pre r:List Keyed)(p:Array (Nat×Nat×Nat))(n:Nat):Option (Option Nat)×Nat×Nat→SortSt→Prop
 |mk {st:SortSt} (c e:List Keyed) (i1:c.length+e.length=n) (i2:0<e.length) (i3:SS kd (pre++(c++e++r.drop n)) p st) (i4:C.dk c.reverse) (i5:C.bf c.reverse (r.take c.length)) (i6:(r.take n).drop c.length=e) (i7: ∀x∈c,∀y∈e,C.Lt y x) (i8: ∀x∈e,∀y∈e,C.key x=C.key y):v8 C kd pre r p n (none,n,e.length-1) st
theorem xA(hC:dm prog w A s C P kd){pre c0 r:List Keyed}{e0:Keyed}{p:Array (Nat×Nat×Nat)}{st:SortSt}{f:Nat→Option (Option Nat)×Nat×Nat→StateT SortSt Sem (ForInStep (Option (Option Nat)×Nat×Nat))}
  {a:Nat} {Q:Option (Option Nat)×Nat×Nat→SortSt→Prop} (hS:SS kd (pre++(c0++ [e0]++r.drop a)) p st) (ha:c0.length+1=a) (h2:a≤r.length) (hP: ∀x∈pre++r,P x)
  (SE:C.dk c0.reverse) (gD:C.bf c0.reverse (r.take (a-1))) (he:r[a-1]? =some e0) (cy: ∀x∈c0,C.Lt e0 x)
  (hf: ∀(y n q:Nat) aU Q',wpS (model prog w) A E s (ltAt' (pre.length+n) (pre.length+n-1)) (λb cw=>match b with
    |some true=>if q>0 then wpS (model prog w) A E s (reverseSlice' (pre.length+n-(q+1)) (pre.length+n)) (λ_ ee=>Q' (.yield (none,n+1,0)) ee) cw else Q' (.yield (none,n+1,0)) cw
    |some false=>wpS (model prog w) A E s (ltAt' (pre.length+n-1) (pre.length+n)) (λb ee=>match b with|some true=>Q' (.done (none,n,q)) ee|some false=>Q' (.yield (none,n+1,q+1)) ee|none=>False) cw
    |none=>False) aU→wpS (model prog w) A E s (f y (none,n,q)) Q' aU)
  (hQ: ∀c e n aU,c.length+e.length=n→0<e.length→n≤r.length→SS kd (pre++(c++e++r.drop n)) p aU→C.dk (e++c.reverse)→C.bf (e++c.reverse) (r.take n)→(∀x∈e,∀y∈e,C.key x=C.key y)→a≤n→Q (none,n,e.length-1) aU):
  wpS (model prog w) A E s (forIn [a:r.length] (none,a,0) f) Q st:=by
 -- zt holds between ql turns
 refine wpS_forRange (I:=v8 C kd pre r p) ?step ?fin ?init
 case init=>
  refine .mk c0 [e0] ha (by simp) hS SE ?_ ?_ ?_ ?_
  ·rw[show c0.length=a-1 by rw[←ha];rfl];exact gD
  ·rw[show c0.length=a-1 by rw[←ha];rfl,List.drop_take,Nat.sub_sub_self (show 1≤a by rw[←ha];exact Nat.succ_pos _)]
   have xB:a-1<r.length:=Nat.lt_of_lt_of_le (Nat.sub_lt (Nat.lt_of_lt_of_eq (Nat.succ_pos _) ha) Nat.one_pos) h2
   rw[List.drop_eq_getElem_cons xB]
   rw[List.getElem?_eq_getElem xB]at he
   rw[Option.some.inj he];rfl
  ·intro x hx y hy;obtain rfl:=List.mem_singleton.mp hy;exact cy x hx
  ·intro x hx y hy;obtain rfl:=List.mem_singleton.mp hx;obtain rfl:=List.mem_singleton.mp hy;rfl
 case fin=>
  intro t aU hh
  rw[Nat.max_eq_right h2]at hh
  induction hh with|mk c e i1 i2 i3 i4 i5 i6 i7 i8=>
  refine hQ c e _ _ i1 i2 (Nat.le_refl _) i3 ?_ ?_ i8 h2
  ·refine Ord.dk.append ?_ i4 λx hx y hy=>Ord.le_of_lt (i7 y (List.mem_reverse.mp hy) x hx)
   refine List.pairwise_iff_forall_sublist.mpr λ{x y} hs=>?_
   have hx:=hs.subset (show x∈ [x,y] by simp)
   have hy:=hs.subset (show y∈ [x,y] by simp)
   show C.O.blt _ _=false
   rw[i8 y hy x hx];exact C.O.irrefl _
  ·have et:r.take r.length=r.take c.length++e:=by
    conv=>lhs;rw[←List.take_append_drop c.length (r.take r.length)]
    rw[i6,List.take_take,Nat.min_eq_left (Nat.le_trans (Nat.le_add_right _ _) (Nat.le_of_eq i1))]
   rw[et]
   refine Ord.bf.trans ?_ (i5.append (.refl e))
   exact Ord.bf.swap λx hx y hy=>(i7 y (List.mem_reverse.mp hy) x hx).ne
 case step=>
  intro n t aU h3 h4 hh
  induction hh with| @mk cw c e i1 i2 i3 i4 i5 i6 i7 i8=>
  refine Exists.elim (show∃x,r[n]? =some x from⟨_,List.getElem?_eq_getElem h4⟩) λx hx=>?_
  refine Exists.elim (show∃z,e=e.dropLast++ [z]from⟨e.getLast (List.ne_nil_of_length_pos i2),(List.dropLast_concat_getLast _).symm⟩) λz hz=>?_
  have GA:r.drop n=x::r.drop (n+1):=by
   rw[List.drop_eq_getElem_cons h4];congr 1
   rw[List.getElem?_eq_getElem h4]at hx;exact Option.some.inj hx
  have gx:(pre++(c++e++r.drop n))[pre.length+n]? =some x:=by
   rw[List.getElem?_append_right (by exact Nat.le_add_right _ _),Nat.add_sub_cancel_left,List.getElem?_append_right (by rw[List.length_append,i1];exact Nat.le_refl _),GA]
   simp[i1]
  have gz:(pre++(c++e++r.drop n))[pre.length+n-1]? =some z:=by
   have hl:e.length=e.dropLast.length+1:=by rw[List.length_dropLast];exact(Nat.sub_add_cancel i2).symm
   rw[Nat.add_sub_assoc (show 1≤n by rw[←i1];exact Nat.le_trans i2 (Nat.le_add_left _ _)),List.getElem?_append_right (Nat.le_add_right _ _),Nat.add_sub_cancel_left,show n-1=c.length+e.dropLast.length by rw[←i1,hl];rfl,hz]
   simp
  have hPc: ∀y∈c,y∈r:=λy hy=>List.mem_of_mem_take ((i5.perm.mem_iff).mp (List.mem_reverse.mpr hy))
  have YN: ∀y∈e,y∈r:=λy hy=>by rw[←i6]at hy;exact List.mem_of_mem_take (List.mem_of_mem_drop hy)
  have px:P x:=hP _ (List.mem_append_right _ (List.mem_of_getElem? hx))
  have pz:P z:=hP _ (List.mem_append_right _ (YN z (by rw[hz];simp)))
  have W9: ∀y∈e,C.key y=C.key z:=λy hy=>i8 y hy z (by rw[hz];simp)
  have et:r.take n=r.take c.length++e:=by
   conv=>lhs;rw[←List.take_append_drop c.length (r.take n)]
   rw[i6,List.take_take,Nat.min_eq_left (Nat.le_trans (Nat.le_add_right _ _) (Nat.le_of_eq i1))]
  have se:C.dk (e++c.reverse):=by
   refine Ord.dk.append ?_ i4 λx hx y hy=>Ord.le_of_lt (i7 y (List.mem_reverse.mp hy) x hx)
   refine List.pairwise_iff_forall_sublist.mpr λ{x y} hs=>?_
   have hx:=hs.subset (show x∈ [x,y] by simp)
   have hy:=hs.subset (show y∈ [x,y] by simp)
   show C.O.blt _ _=false
   rw[i8 y hy x hx];exact C.O.irrefl _
  have Xa:C.bf (e++c.reverse) (r.take n):=by
   rw[et]
   refine Ord.bf.trans ?_ (i5.append (.refl e))
   exact Ord.bf.swap λx hx y hy=>(i7 y (List.mem_reverse.mp hy) x hx).ne
  refine hf n n _ cw _ (fy hC i3 gx gz px pz ?_)
  cases e1:C.lt x z with
  |true=>
   dsimp only
   -- ql block of equal ones is closed
   have Xb: ∀ee,SS kd (pre++((c++e.reverse)++ [x]++r.drop (n+1))) p ee→v8 C kd pre r p (n+1) (none,n+1,0) ee:=by
    intro ee h5
    have cl:(c++e.reverse).length=n:=by rw[List.length_append,List.length_reverse,i1]
    refine .mk (c++e.reverse) [x] (by rw[cl];rfl) (by simp) h5 ?_ ?_ ?_ ?_ ?_
    ·rw[List.reverse_append,List.reverse_reverse];exact se
    ·rw[List.reverse_append,List.reverse_reverse,cl];exact Xa
    ·rw[cl,List.take_add_one,hx,List.drop_append_of_le_length (by rw[List.length_take];exact Nat.le_min.mpr ⟨Nat.le_refl n,Nat.le_of_lt h4⟩),List.drop_eq_nil_of_le (by simp;exact Nat.min_le_left _ _)];rfl
    ·intro y hy u hu
     obtain rfl:=List.mem_singleton.mp hu
     rcases List.mem_append.mp hy with hy|hy
     ·have h6:=i7 y hy z (by rw[hz];simp)
      exact Ord.lt_of_lt_of_le (C:=C) e1 (Ord.le_of_lt h6)
     ·have h6:=W9 y (List.mem_reverse.mp hy)
      show C.O.blt _ _=true
      rw[h6];exact e1
    ·intro y hy u hu;obtain rfl:=List.mem_singleton.mp hy;obtain rfl:=List.mem_singleton.mp hu;rfl
   replace i3:=GA▸i3
   by_cases hq:e.length-1>0
   ·refine jF hq ?_
    have YO:SS kd ((pre++c)++e++(x::r.drop (n+1))) p cw:=by simpa only[List.append_assoc]using i3
    refine l6 YO (by rw[List.length_append,Nat.sub_add_cancel i2,←i1,←Nat.add_assoc,Nat.add_sub_cancel]) (by rw[List.length_append,←i1,Nat.add_assoc]) λee h5=>Xb ee ?_
    simpa only[List.append_assoc,List.singleton_append]using h5
   ·refine fU hq ?_
    have GB:e.length=1:=Nat.le_antisymm (Nat.le_of_sub_eq_zero (Nat.eq_zero_of_not_pos hq)) i2
    obtain⟨y,rfl⟩:=List.length_eq_one_iff.mp GB
    refine Xb cw ?_
    simpa using i3
  |false=>
   dsimp only
   refine fy hC i3 gz gx pz px ?_
   cases e2:C.lt z x with
   |true=>exact hQ c e n cw i1 i2 (by exact Nat.le_of_lt ‹_›) i3 se Xa i8 h3
   |false=>
    dsimp only
    have kx:C.key x=C.key z:=Ord.zk (C:=C) e2 e1
    replace i3:=GA▸i3
    have hlen:e.length-1+1=(e++ [x]).length-1:=by simp;exact Nat.sub_add_cancel ‹_›
    show v8 C kd pre r p (n+1) (none,n+1,e.length-1+1) cw
    rw[hlen]
    refine .mk c (e++ [x]) (by rw[List.length_append,←Nat.add_assoc,i1];rfl) (by simp) ?_ i4 i5 ?_ ?_ ?_
    ·simpa only[List.append_assoc,List.singleton_append]using i3
    ·rw[List.take_add_one,hx,List.drop_append_of_le_length (by rw[List.length_take];exact Nat.le_min.mpr ⟨Nat.le_trans (Nat.le_add_right _ _) (Nat.le_of_eq i1),Nat.le_trans (Nat.le_trans (Nat.le_add_right _ _) (Nat.le_of_eq i1)) (Nat.le_of_lt h4)⟩),i6];rfl
    ·intro y hy u hu
     rcases List.mem_append.mp hu with hu|hu
     ·exact i7 y hy u hu
     ·obtain rfl:=List.mem_singleton.mp hu
      have h6:=i7 y hy z (by rw[hz];simp)
      show C.O.blt _ _=true
      rw[kx];exact h6
    ·intro y hy u hu
     have k1: ∀v∈e++ [x],C.key v=C.key z:=λv hv=>by
      rcases List.mem_append.mp hv with hv|hv
      ·exact W9 v hv
      ·obtain rfl:=List.mem_singleton.mp hv;exact kx
     rw[k1 y hy,k1 u hu]
end
end Mine.Internal
end
section
open PySem PyProof.Rows
namespace Mine.Internal
section
variable{prog:Program}{w:World}{A:Around}{E:Value→Shared→Prop}{s:Shared}{C:Ord}{P:Keyed→Prop}{kd:SortKind}
theorem C9{α:Type}{q:Prop} [Decidable q]{t e:StateT SortSt Sem α}{Q:α→SortSt→Prop}{st:SortSt}{X:SortSt→Prop}(tl: ∀cw,X cw→wpS (model prog w) A E s e Q cw)(h:q→(∀cw,X cw→wpS (model prog w) A E s e Q cw)→wpS (model prog w) A E s t Q st)(h': ¬q→X st):wpS (model prog w) A E s (if q then t else e) Q st:=
 iE (λhq=>h hq tl) λhq=>tl _ (h' hq)
theorem ox(hC:dm prog w A s C P kd){pre r:List Keyed}{p:Array (Nat×Nat×Nat)}{st:SortSt}{Q:Option Nat→SortSt→Prop}
  (hS:SS kd (pre++r) p st) (hr:r≠ []) (hP: ∀x∈pre++r,P x)
  (h: ∀run aU,run≠ []→run.length≤r.length→C.dk run→C.bf run (r.take run.length)→SS kd (pre++run++r.drop run.length) p aU→Q (some run.length) aU):
  wpS (model prog w) A E s (countRun' pre.length r.length) Q st:=by
 refine cg (List.exists_cons_of_ne_nil hr) λr0 rr JV=>?_
 subst JV
 have YP:SS kd (pre++ [r0]++(r0::rr).drop 1) p st:=by simpa using hS
 have mA: ∀{a y n:Nat} {Q':ForInStep (Option (Option Nat)×Nat)→SortSt→Prop} {cw:SortSt},
   wpS (model prog w) A E s (ltAt' (pre.length+n) (pre.length+n-1)) (λb aU=>match b with|some true=>Q' (.done (none,n)) aU|some false=>Q' (.yield (none,n+1)) aU|none=>False) cw→
   wpS (model prog w) A E s (do
     let x←ltAt' (pre.length+n) (pre.length+n-1)
     match x with
     |some qn=>if qn=true then pure (ForInStep.done (none,n))else pure (ForInStep.yield (none,n+1))
     |x=>pure (ForInStep.done (some none,n))) Q' cw:=by
  intro a y n Q' cw h1
  refine wpS_bind (wpS_mono h1 λb aU hb=>?_)
  match b,hb with
  |some true,hb=>exact wpS_pure hb
  |some false,hb=>exact wpS_pure hb
  |none,hb=>exact hb.elim
 refine wpS_bind (mz hC YP rfl (Nat.le_refl 1) (by simp) (List.pairwise_singleton _ _) (by simpa using hP) (λy n Q' x z _ _ _ _ h1=>mA (a:=0) (y:=0) h1) λn n1 n2 n3 n4=>?_)
 have ht: [r0]++((r0::rr).drop 1).take (n-1)=(r0::rr).take n:=by
  obtain⟨m,rfl⟩: ∃m,n=m+1:=⟨n-1,(Nat.sub_add_cancel n1).symm⟩
  simp
 rw[ht]at n3 n4
 have hl:((r0::rr).take n).length=n:=by rw[List.length_take];exact Nat.min_eq_left n2
 have Fd:Q (some n) st:=by
  have h1:=h ((r0::rr).take n) st (λe=>by rw[e]at hl;exact absurd hl (Nat.ne_of_lt n1)) (by rw[hl];exact n2) n3 (by rw[hl];exact .refl _) (by rw[hl,List.append_assoc,List.take_append_drop];exact hS)
  rw[hl]at h1;exact h1
 dsimp only
 refine aC (λe1=>wpS_pure Fd) (λe1=>?_)
 rw[beq_iff_eq]at e1
 refine b8 (n4.resolve_left e1) λx z hx hz cy=>?_
 have Xc:n<(r0::rr).length:=Nat.lt_of_le_of_ne n2 e1
 have GA:(r0::rr).drop n=x::(r0::rr).drop (n+1):=by
  rw[List.drop_eq_getElem_cons Xc];congr 1
  rw[List.getElem?_eq_getElem Xc]at hx;exact Option.some.inj hx
 have et:(r0::rr)=(r0::rr).take n++(r0::rr).drop n:=(List.take_append_drop ..).symm
 have GC:z∈(r0::rr).take n:=List.mem_of_getLast? hz
 -- ql Ri run starts:all of ql first n are alike,behind YQ x is less
 have key: ∀cw,(∀y∈(r0::rr).take n,C.key y=C.key z)→SS kd (pre++((r0::rr).take n).reverse++(r0::rr).drop n) p cw→
   SS kd (pre++(((r0::rr).take n).reverse++ [x]++(r0::rr).drop (n+1))) p cw∧C.dk ((r0::rr).take n).reverse.reverse∧
   C.bf ((r0::rr).take n).reverse.reverse ((r0::rr).take (n+1-1))∧(r0::rr)[n+1-1]? =some x∧ ∀y∈((r0::rr).take n).reverse,C.Lt x y:=by
  intro cw fA h1
  rw[List.reverse_reverse,Nat.add_sub_cancel]
  refine⟨?_,n3,.refl _,hx,λy hy=>?_⟩
  ·rw[GA]at h1;simpa only[List.append_assoc,List.singleton_append]using h1
  ·have:=fA y (List.mem_reverse.mp hy)
   show C.O.blt _ _=true
   rw[this];exact cy
 have g0:(pre++(r0::rr))[pre.length]? =some r0:=by simp
 have px: ∀y∈r0::rr,P y:=λy hy=>hP _ (List.mem_append_right _ hy)
 refine C9 (X:=λcw=>(∀y∈(r0::rr).take n,C.key y=C.key z)∧SS kd (pre++((r0::rr).take n).reverse++(r0::rr).drop n) p cw) (λcw hX=>?tl) (λhn tl=>?one) λhn=>?two
 case two=>
  have Xd:n=1:=Nat.le_antisymm (Nat.le_of_not_lt hn) n1
  constructor
  ·intro y hy
   subst Xd
   simp at hy GC
   rw[hy,GC]
  ·subst Xd
   simpa using hS
 case one=>
  have gz:(pre++(r0::rr))[pre.length+n-1]? =some z:=by
   rw[Nat.add_sub_assoc n1,List.getElem?_append_right (Nat.le_add_right _ _),Nat.add_sub_cancel_left,←xy n1 n2];exact hz
  refine wpS_bind (fy hC hS g0 gz (px _ (by simp)) (px _ (List.mem_of_mem_take GC)) ?_)
  refine aC (λ_=>wpS_pure Fd) (λe2=>?_)
  have SF:C.lt r0 z=false:=by simpa using e2
  have fA: ∀y∈(r0::rr).take n,C.key y=C.key z:=λy hy=>by
   have h0:(r0::rr).take n=r0::rr.take (n-1):=by
    obtain⟨m,rfl⟩: ∃m,n=m+1:=⟨n-1,(Nat.sub_add_cancel n1).symm⟩
    simp
   have k1:C.le r0 y:=by
    rw[h0]at hy n3
    rcases List.mem_cons.mp hy with rfl|hy
    ·exact Ord.le_refl _
    ·exact(List.pairwise_cons.mp n3).1 y hy
   have k2:C.le y z:=by
    obtain⟨a,Rh⟩: ∃a,(r0::rr).take n=a++ [z]:=by
     have h6:=List.dropLast_concat_getLast (List.ne_nil_of_mem GC)
     have h7:((r0::rr).take n).getLast (List.ne_nil_of_mem GC)=z:=by
      have:=List.getLast?_eq_some_getLast (List.ne_nil_of_mem GC)
      rw[hz]at this;exact(Option.some.inj this).symm
     rw[h7]at h6
     exact⟨_,h6.symm⟩
    rw[Rh]at hy n3
    rcases List.mem_append.mp hy with hy|hy
    ·exact(List.pairwise_append.mp n3).2.2 y hy z (by simp)
    ·obtain rfl:=List.mem_singleton.mp hy;exact Ord.le_refl _
   exact Ord.zk k2 (Ord.le_trans (C:=C) SF k1)
  have YR:SS kd (pre++(r0::rr).take n++(r0::rr).drop n) p st:=by rw[List.append_assoc,←et];exact hS
  exact wpS_bind (l6 YR rfl (by rw[hl]) λcw h1=>tl cw ⟨fA,h1⟩)
 case tl=>
  refine Sd (key _ hX.1 hX.2) λk1 k2 k3 k4 k5=>?_
  refine wpS_bind (dp ?_)
  refine wpS_bind (xA hC (a:=n+1) k1 (by rw[List.length_reverse,hl]) (by assumption) hP k2 k3 k4 k5 (λy m q aU Q' h2=>?_) λc e m aU m1 m2 m3 m4 m5 m6 m7 m8=>?_)
  ·refine wpS_bind (wpS_mono h2 λb ee hb=>?_)
   match b,hb with
   |some true,hb=>
    dsimp only at hb ⊢
    simp only[if_true]
    refine aC (λhq=>?_) (λhq=>?_)
    ·rw[if_pos hq]at hb
     exact wpS_bind (wpS_mono hb λ_ kc h3=>wpS_pure h3)
    ·rw[if_neg hq]at hb
     exact wpS_pure hb
   |some false,hb=>
    dsimp only at hb ⊢
    simp only[Bool.false_eq_true,if_false]
    refine wpS_bind (wpS_mono hb λb kc hb=>?_)
    match b,hb with
    |some true,hb=>exact wpS_pure hb
    |some false,hb=>exact wpS_pure hb
    |none,hb=>exact hb.elim
   |none,hb=>exact hb.elim
  dsimp only
  have Fe:(e++c.reverse).length=m:=by rw[List.length_append,List.length_reverse,Nat.add_comm];exact m1
  have tail: ∀ee,SS kd (pre++(c++e.reverse)++(r0::rr).drop m) p ee→wpS (model prog w) A E s (reverseSlice' pre.length (pre.length+m)) (λ_ kc=>SS kd (pre++(e++c.reverse)++(r0::rr).drop m) p kc) ee:=by
   intro ee h2
   refine l6 h2 rfl (by rw[List.length_append,List.length_reverse,m1]) λkc h3=>?_
   rw[List.reverse_append,List.reverse_reverse]at h3;exact h3
  have fin: ∀kc,SS kd (pre++(e++c.reverse)++(r0::rr).drop m) p kc→ ∀k,m≤k→k≤(r0::rr).length→C.dk ((e++c.reverse)++((r0::rr).drop m).take (k-m))→Q (some k) kc:=by
   intro kc h3 k q1 q2 q3
   have v9:((e++c.reverse)++((r0::rr).drop m).take (k-m)).length=k:=by rw[List.length_append,Fe,List.length_take,List.length_drop,Nat.min_eq_left (Nat.sub_le_sub_right q2 m),Nat.add_sub_of_le q1]
   have q4:=h _ kc (λe=>by rw[e]at v9;exact absurd v9 (Nat.ne_of_lt (Nat.lt_of_lt_of_le (Nat.lt_of_lt_of_le (Nat.succ_pos n) m8) q1))) (by rw[v9];exact q2) q3 (by
    rw[v9]
    have e5:(r0::rr).take k=(r0::rr).take m++((r0::rr).drop m).take (k-m):=by
     conv=>lhs;rw[show k=m+(k-m)from(Nat.add_sub_of_le q1).symm]
     exact List.take_add
    rw[e5];exact m6.append (.refl _)) (by
    rw[v9,List.append_assoc,List.append_assoc]
    have e6:((r0::rr).drop m).take (k-m)++(r0::rr).drop k=(r0::rr).drop m:=by
     have:=List.take_append_drop (k-m) ((r0::rr).drop m)
     rw[List.drop_drop,Nat.add_sub_of_le q1]at this
     exact this
    rw[e6,←List.append_assoc];exact h3)
   rw[v9]at q4;exact q4
  have Xe: ∀x∈pre++(e++c.reverse)++(r0::rr).drop m,P x:=λx hx=>by
   refine hP x ?_
   rcases List.mem_append.mp hx with hx|hx
   ·rcases List.mem_append.mp hx with hx|hx
    ·exact List.mem_append_left _ hx
    ·exact List.mem_append_right _ (List.mem_of_mem_take ((m6.perm.mem_iff).mp hx))
   ·exact List.mem_append_right _ (List.mem_of_mem_drop hx)
  refine aC (λhq=>?_) (λhq=>?_)
  ·have YS:SS kd ((pre++c)++e++(r0::rr).drop m) p aU:=by simpa only[List.append_assoc]using m4
   refine wpS_bind (l6 YS (by rw[List.length_append,Nat.sub_add_cancel m2,←m1,←Nat.add_assoc,Nat.add_sub_cancel]) (by rw[List.length_append,←m1,Nat.add_assoc]) λee h2=>?_)
   refine wpS_bind (wpS_mono (tail ee (by simpa only[List.append_assoc]using h2)) λ_ kc h3=>?_)
   refine wpS_bind (mz hC h3 Fe (by rw[←m1];exact Nat.le_trans m2 (Nat.le_add_left _ _)) m3 m5 Xe (λy n Q' x z _ _ _ _ h1=>mA (a:=0) (y:=0) h1) λk q1 q2 q3 _=>?_)
   exact wpS_pure (fin kc h3 k q1 q2 q3)
  ·have GB:e.length=1:=Nat.le_antisymm (Nat.le_of_sub_eq_zero (Nat.eq_zero_of_not_pos hq)) m2
   refine au (List.length_eq_one_iff.mp GB) λy JW=>?_
   subst JW
   refine wpS_bind (wpS_mono (tail aU (by simpa only[List.append_assoc,List.reverse_singleton]using m4)) λ_ kc h3=>?_)
   refine wpS_bind (mz hC h3 Fe (by rw[←m1];exact Nat.le_add_left 1 _) m3 m5 Xe (λy n Q' x z _ _ _ _ h1=>mA (a:=0) (y:=0) h1) λk q1 q2 q3 _=>?_)
   exact wpS_pure (fin kc h3 k q1 q2 q3)
end
end Mine.Internal
end
section
open PySem PyProof.Rows
namespace Mine.Internal
noncomputable def cA:Nat→List (List Keyed)→List (Nat×Nat×Nat)→Prop
 |_,[],[]=>True
 |s,r::rs,(a,n,_)::ps=>a=s∧n=r.length∧cA (s+r.length) rs ps
 |_,_,_=>False
theorem cA.length: ∀{s:Nat} {rs:List (List Keyed)} {ps:List (Nat×Nat×Nat)},cA s rs ps→ps.length=rs.length
 |_,[],[],_=>rfl
 |_,_::rs,(_,_,_)::ps,h=>by simp[h.2.2.length]
 |_,[],_::_,h=>h.elim
 |_,_::_,[],h=>h.elim
theorem cA.split: ∀{s:Nat} {r1 r2:List (List Keyed)} {ps:List (Nat×Nat×Nat)},cA s (r1++r2) ps→
  ∃p1 p2,ps=p1++p2∧cA s r1 p1∧cA (s+r1.flatten.length) r2 p2
 |s,[],r2,ps,h=>⟨[],ps,rfl,trivial,by simpa using h⟩
 |s,r::r1,r2,[],h=>h.elim
 |s,r::r1,r2,(a,n,w)::ps,h=>by
  refine aO λXq kq=>?_
  refine gM h λh1 h2 h3=>?_
  refine b8 (cA.split h3) λp1 p2 e q1 q2=>?_
  refine kq ?_
  exact⟨(a,n,w)::p1,p2,by rw[e];rfl,⟨h1,h2,q1⟩,by simpa [Nat.add_assoc]using q2⟩
theorem cA.join: ∀{s:Nat} {r1 r2:List (List Keyed)} {p1 p2:List (Nat×Nat×Nat)},cA s r1 p1→cA (s+r1.flatten.length) r2 p2→cA s (r1++r2) (p1++p2)
 |s,[],r2,[],p2,_,h=>by simpa using h
 |s,r::r1,r2,(a,n,w)::p1,p2,h,h'=>⟨h.1,h.2.1,cA.join h.2.2 (by simpa [Nat.add_assoc]using h')⟩
 |_,[],_,_::_,_,h,_=>h.elim
 |_,_::_,_,[],_,h,_=>h.elim
theorem cA.modify{f:Nat×Nat×Nat→Nat×Nat×Nat}(hf: ∀a n w,∃w',f (a,n,w)=(a,n,w')): ∀{s:Nat} {rs:List (List Keyed)} {ps:List (Nat×Nat×Nat)} (k:Nat),cA s rs ps→cA s rs (ps.modify k f)
 |_,[],[],k,h=>by cases k <;> simpa using h
 |s,r::rs,(a,n,w)::ps,0,h=>by
  obtain⟨w',e⟩:=hf a n w
  rw[List.modify_zero_cons,e];exact h
 |s,r::rs,(a,n,w)::ps,k+1,h=>by
  rw[List.modify_succ_cons];exact⟨h.1,h.2.1,h.2.2.modify hf k⟩
 |_,[],_::_,_,h=>h.elim
 |_,_::_,[],_,h=>h.elim
structure RI(C:Ord)(kd:SortKind)(l0:List Keyed)(rs:List (List Keyed))(rest:List Keyed)(st:SortSt):Prop where
 runs: ∀r∈rs,r≠ []∧C.dk r
 fx:C.bf (rs.flatten++rest) l0
 pend: ∃pl:List (Nat×Nat×Nat),cA 0 rs pl∧SS kd (rs.flatten++rest) pl.toArray st
section
variable{prog:Program}{w:World}{A:Around}{E:Value→Shared→Prop}{s:Shared}{C:Ord}{P:Keyed→Prop}{kd:SortKind}{l0:List Keyed}
theorem RI.size{rs:List (List Keyed)}{rest:List Keyed}{st:SortSt}(h:RI C kd l0 rs rest st):(pendingOf st).size=rs.length:=by
 refine ai h.pend λpl h1 h2=>?_
 rw[h2.pend];simpa using h1.length
theorem RI.all{rs:List (List Keyed)}{rest:List Keyed}{st:SortSt}(h:RI C kd l0 rs rest st)(hP: ∀x∈l0,P x): ∀x∈rs.flatten++rest,P x:=λx hx=>hP x ((h.fx.perm.mem_iff).mp hx)
theorem iY(hC:dm prog w A s C P kd)(hP: ∀x∈l0,P x){rs:List (List Keyed)}{rest:List Keyed}{st:SortSt}{i:Nat}{Q:Bool→SortSt→Prop}(h:RI C kd l0 rs rest st)(hi:i+1<rs.length)
  (hQ: ∀om aU,om.length+1=rs.length→om.flatten.length=rs.flatten.length→RI C kd l0 om rest aU→Q true aU):
  wpS (model prog w) A E s (mergeAt' i) Q st:=by
 refine aO λXq kq=>?_
 obtain⟨pl,p1,p2⟩:=h.pend
 obtain⟨a,r1,r2,b,e,ha⟩: ∃a r1 r2 b,rs=a++r1::r2::b∧a.length=i:=by
  refine⟨rs.take i,rs[i],rs[i+1],rs.drop (i+2),?_,by rw[List.length_take];exact Nat.min_eq_left (Nat.le_of_lt (Nat.lt_of_succ_lt hi))⟩
  conv=>lhs;rw[←List.take_append_drop i rs]
  rw[List.drop_eq_getElem_cons (Nat.lt_of_succ_lt hi),List.drop_eq_getElem_cons hi]
 subst e
 obtain⟨q1,q2,e,o1,o2⟩:=p1.split
 obtain⟨⟨s1,n1,w1⟩,Xf,rfl⟩: ∃x q',q2=x::q':=by cases q2 with|nil=>exact o2.elim|cons x q=>exact⟨x,q,rfl⟩
 obtain⟨rfl,rfl,o3⟩:=o2
 obtain⟨⟨s2,n2,w2⟩,q3,rfl⟩: ∃x q',Xf=x::q':=by cases Xf with|nil=>exact o3.elim|cons x q=>exact⟨x,q,rfl⟩
 obtain⟨rfl,rfl,o4⟩:=o3
 refine kq ?_
 subst e
 have hl:q1.length=i:=by rw[o1.length,ha]
 have l5:=h.runs r1 (by simp)
 have C8:=h.runs r2 (by simp)
 have Xg:(a++r1::r2::b).flatten++rest=a.flatten++r1++r2++(b.flatten++rest):=by simp
 have fA:=h.all hP
 rw[Xg]at fA p2
 refine rO hC p2 (pw:=w1) (pw':=w2) ?_ ?_ l5.1 C8.1 l5.2 C8.2 fA λm aU m1 m2 m3=>?_
 ·rw[List.getElem?_toArray,List.getElem?_append_right (Nat.le_of_eq hl),hl];simp
 ·rw[List.getElem?_toArray,List.getElem?_append_right (Nat.le_succ_of_le (Nat.le_of_eq hl)),hl];simp
 ·refine hQ (a++m::b) aU (by simp;exact Nat.add_assoc _ _ _) (by have:=m2.length;rw[List.length_append]at this;simp only[List.flatten_append,List.flatten_cons,List.length_append,this,Nat.add_assoc]) ⟨?_,?_,?_⟩
  ·intro r hr
   rcases List.mem_append.mp hr with hr|hr
   ·exact h.runs r (by simp[hr])
   ·rcases List.mem_cons.mp hr with rfl|hr
    ·refine⟨?_,m1⟩
     intro e;subst e
     have:=m2.length
     rw[List.length_append]at this
     exact l5.1 (List.eq_nil_of_length_eq_zero (Nat.eq_zero_of_add_eq_zero this.symm).1)
    ·exact h.runs r (by simp[hr])
  ·refine Ord.bf.trans ?_ h.fx
   rw[Xg]
   have e2:(a++m::b).flatten++rest=a.flatten++m++(b.flatten++rest):=by simp
   rw[e2,List.append_assoc a.flatten r1 r2]
   exact((Ord.bf.refl _).append m2).append (.refl _)
  ·refine⟨q1++(0+a.flatten.length,r1.length+r2.length,w1)::q3,?_,?_⟩
   ·refine o1.join ⟨rfl,?_,?_⟩
    ·exact(m2.length.trans List.length_append).symm
    ·have:=m2.length
     simp only[List.length_append]at this
     rw[this,←Nat.add_assoc];exact o4
   ·have e2:(a++m::b).flatten++rest=a.flatten++m++(b.flatten++rest):=by simp
    rw[e2]
    have e3:((q1++(0+a.flatten.length,r1.length,w1)::(0+a.flatten.length+r1.length,r2.length,w2)::q3).toArray.setIfInBounds i (a.flatten.length,r1.length+r2.length,w1)).eraseIdxIfInBounds (i+1)=
      (q1++(0+a.flatten.length,r1.length+r2.length,w1)::q3).toArray:=by
     rw[List.setIfInBounds_toArray,List.set_append,if_neg (Nat.not_lt.mpr (Nat.le_of_eq hl)),hl,Nat.sub_self,List.set_cons_zero,Nat.zero_add]
     apply Array.ext'
     rw[Array.toList_eraseIdxIfInBounds]
     show(q1++_::_::q3).eraseIdx (i+1)=_
     rw[List.eraseIdx_append_of_length_le (Nat.le_succ_of_le (Nat.le_of_eq hl)),show i+1-q1.length=1 by rw[hl];exact Nat.add_sub_cancel_left i 1]
     simp
    rw[←e3];exact m3
theorem RI.push{rs:List (List Keyed)}{run rest:List Keyed}{st:SortSt}{lo n:Nat}(h:RI C kd l0 rs (run++rest) st)(h1:run≠ [])(h2:C.dk run)(GD:lo=rs.flatten.length)(hn:n=run.length):
  RI C kd l0 (rs++ [run]) rest (setPending st ((pendingOf st).push (lo,n,0))):=by
 refine ai h.pend λpl p1 p2=>?_
 have e:(rs++ [run]).flatten++rest=rs.flatten++(run++rest):=by simp
 refine⟨λr hr=>?_,by rw[e];exact h.fx,pl++ [(lo,n,0)],p1.join ⟨GD.trans (Nat.zero_add _).symm,hn,trivial⟩,?_⟩
 ·rcases List.mem_append.mp hr with hr|hr
  ·exact h.runs r hr
  ·obtain rfl:=List.mem_singleton.mp hr;exact⟨h1,h2⟩
 ·rw[e]
  refine⟨p2.kind,p2.arr,?_,p2.fail⟩
  show(pendingOf st).push _=_
  rw[p2.pend];simp
theorem RI.power{rs:List (List Keyed)}{rest:List Keyed}{st:SortSt}{k:Nat}{f:Nat×Nat×Nat→Nat×Nat×Nat}(hf: ∀a n w,∃w',f (a,n,w)=(a,n,w'))(h:RI C kd l0 rs rest st):
  RI C kd l0 rs rest (setPending st ((pendingOf st).modify k f)):=by
 refine ai h.pend λpl p1 p2=>?_
 refine⟨h.runs,h.fx,pl.modify k f,p1.modify hf k,p2.kind,p2.arr,?_,p2.fail⟩
 show(pendingOf st).modify k f=_
 rw[p2.pend];simp
theorem RI.len{rs:List (List Keyed)}{rest:List Keyed}{st:SortSt}(h:RI C kd l0 rs rest st):rs.flatten.length+rest.length=l0.length:=by
 have:=h.fx.length;simpa using this
theorem rP(c:Prop) [Decidable c](a:Nat):(if c then a-1 else a)≤a:=by
 split
 ·exact Nat.sub_le _ _
 ·exact Nat.le_refl _
theorem mB: ∀{rs:List (List Keyed)},(∀r∈rs,r≠ [])→rs.length≤rs.flatten.length
 | [],_=>by simp
 |r::rs,h=>by
  have h1:=mB (rs:=rs) λx hx=>h x (List.mem_cons_of_mem _ hx)
  have h2:0<r.length:=List.length_pos_iff.mpr (h r (by simp))
  rw[List.flatten_cons,List.length_append,List.length_cons];exact Nat.le_trans (Nat.le_of_eq (Nat.add_comm _ 1)) (Nat.add_le_add h2 h1)
inductive GF(C:Ord)(kd:SortKind)(l0:List Keyed)(x:Nat):Option Unit×Nat→SortSt→Prop
 |mk {st:SortSt} (rs:List (List Keyed)) (rest:List Keyed) (hR:RI C kd l0 rs rest st) (hx:x≤rs.flatten.length):GF C kd l0 x (none,rs.flatten.length) st
inductive Dc(C:Ord)(kd:SortKind)(l0:List Keyed):Option Unit×Nat→SortSt→Prop
 |mk {st:SortSt} (rs:List (List Keyed)) (hR:RI C kd l0 rs [] st):Dc C kd l0 (none,l0.length) st
inductive zu(p:List (List Keyed)→Prop)(C:Ord)(kd:SortKind)(l0 rest:List Keyed):Option Unit×Unit→SortSt→Prop
 |mk {st:SortSt} (rs:List (List Keyed)) (hR:RI C kd l0 rs rest st) (hx:p rs):zu p C kd l0 rest (none,()) st
theorem Dc.of{rs:List (List Keyed)}{st:SortSt}(hR:RI C kd l0 rs [] st)(h:rs.flatten.length=l0.length):Dc C kd l0 (none,rs.flatten.length) st:=by rw[h];exact .mk rs hR
theorem rQ{rs om:List (List Keyed)}{kc:SortSt}(hl:om.flatten.length=rs.flatten.length){ru re:List Keyed}{n x:Nat}(hn:n=ru.length)(hI:RI C kd l0 om (ru++re) kc)(h1:ru≠ [])(h2:C.dk ru)(hx:x≤rs.flatten.length)
  {Q:ForInStep (Option Unit×Nat)→SortSt→Prop} (hQ: ∀c st,GF C kd l0 (x+1) c st→Q (.yield c) st):wpS (model prog w) A E s (do
     modify λs=>setPending s ((pendingOf s).push (rs.flatten.length,n,0))
     pure (ForInStep.yield (none,rs.flatten.length+n)):StateT SortSt Sem (ForInStep (Option Unit×Nat))) Q kc:=by
 refine wpS_bind (wpS_modify (wpS_pure (hQ _ _ ?_)))
 have e:rs.flatten.length+n=(om++ [ru]).flatten.length:=by rw[List.flatten_append,List.length_append,hl,hn];simp
 rw[e]
 refine .mk _ re (hI.push h1 h2 hl.symm hn) ?_
 have:=List.length_pos_iff.mpr h1
 rw[List.flatten_append,List.length_append,hl,List.flatten_singleton];exact Nat.add_le_add ‹_› ‹_›
theorem oy(hC:dm prog w A s C P kd)(hP: ∀x∈l0,P x)(Rj:l0≠ []){st:SortSt}{Q:Unit→SortSt→Prop}(hS:SS kd l0 #[] st)
  (hQ: ∀r p aU,C.dk r→C.bf r l0→SS kd r p aU→Q () aU):
  wpS (model prog w) A E s sortRuns' Q st:=by
 have jC:(arrOf st).size=l0.length:=by rw[hS.arr];simp
 have SG:0<l0.length:=List.length_pos_iff.mpr Rj
 refine wpS_bind (wpS_get ?_)
 have h0:RI C kd l0 [] l0 st:=⟨by simp,.refl _,[],trivial,hS⟩
 rw[show((arrOf st).size)=l0.length from jC]
 dsimp only
 refine wpS_bind (wpS_mono (wpS_forRange (I:=GF C kd l0) (Q:=Dc C kd l0) ?step ?fin (.mk [] l0 h0 (by simp))) ?post)
 case fin=>
  intro c aU hh
  induction hh with|mk rs rest hR hx=>
  have hlen:=hR.len
  have e:rest= []:=List.eq_nil_of_length_eq_zero (E7 hlen (Nat.le_trans (Nat.le_max_right 0 _) hx))
  subst e
  exact .of hR (by rw[List.length_nil]at hlen;exact hlen)
 case post=>
  intro c aU hh
  induction hh with|mk rs hR=>
  refine wpS_bind (wpS_mono (wpS_forRange (I:=λx=>zu (λrs=>rs.length+x≤l0.length+1) C kd l0 []) (Q:=zu (λrs=>rs.length≤1) C kd l0 []) ?step2 ?fin2 (.mk rs hR (by
    have h1:=mB λr hr=>(hR.runs r hr).1
    have h2:=hR.len
    exact Nat.le_succ_of_le (Nat.le_trans h1 (Nat.le_of_eq h2))))) ?post2)
  case fin2=>
   intro c aU hh
   induction hh with|mk rs hR hx=>
   exact .mk rs hR (fin1 hx)
  case post2=>
   intro c aU hh
   induction hh with|mk rs hR hx=>
   refine wpS_pure ?_
   refine ai hR.pend λpl _ p2=>?_
   have hlen:=hR.len
   match rs,hR,hx,p2,hlen with
   | [],hR,hx,p2,hlen=>exact absurd (show 0=l0.length from hlen) (Nat.ne_of_lt SG)
   | [r],hR,hx,p2,hlen=>
    have e:([r]:List (List Keyed)).flatten++ []=r:=by simp
    rw[e]at p2
    have cw:=hR.fx
    rw[e]at cw
    exact hQ r _ _ (hR.runs r (by simp)).2 cw p2
   |_::_::_,hR,hx,p2,hlen=>simp at hx
  case step2=>
   intro x c aU _ hx hh
   induction hh with|mk rs hR rE=>
   refine wpS_bind (wpS_get ?_)
   have iZ:=hR.size
   refine aC (λe1=>wpS_pure (.mk rs hR (by rw[←iZ];exact e1))) (λe1=>?_)
   have YT: ¬rs.length≤1:=by rw[←iZ];exact e1
   refine wpS_bind (iY hC hP hR ?_ λom cw q1 q2 q3=>lY (λe=>by cases e) λ_=>wpS_pure (.mk om q3 (step1 q1 rE)))
   refine Nat.lt_of_le_of_lt (Nat.add_le_add_right (rP _ _) 1) ?_
   rw[iZ];exact E8 YT
 case step=>
  intro x c aU _ hx hh
  induction hh with|mk rs rest hR Xh=>
  have hlen:=hR.len
  refine aC (λgf=>?_) (λgf=>?_)
  ·have e:rest= []:=List.eq_nil_of_length_eq_zero (E7 hlen gf)
   subst e
   exact wpS_pure (.of hR (by rw[List.length_nil]at hlen;exact hlen))
  refine ai hR.pend λpl p1 p2=>?_
  have hrest:rest≠ []:=λe=>by subst e;exact gf (Nat.le_of_eq hlen.symm)
  have fA:=hR.all hP
  rw[show l0.length-rs.flatten.length=rest.length by rw[←hlen,Nat.add_sub_cancel_left]]
  refine wpS_bind (ox hC p2 hrest fA λrun cw r1 r2 r3 r4 r5=>?_)
  have SH:RI C kd l0 rs (run++rest.drop run.length) cw:=by
   refine⟨hR.runs,?_,pl,p1,by rw[←List.append_assoc];exact r5⟩
   refine Ord.bf.trans ?_ hR.fx
   have h3:=(Ord.bf.refl (C:=C) rs.flatten).append (r4.append (.refl (rest.drop run.length)))
   rw[List.take_append_drop]at h3
   exact h3
  refine aC (λIW=>?_) (λIW=>?_)
  refine wpS_bind (dp ?_)
  replace IW:run.length<minRun' l0.length l0.length 0:=IW
  have JX: ∀x∈rs.flatten++run++rest.drop run.length,P x:=by have:=SH.all hP;rwa[←List.append_assoc]at this
  refine wpS_bind (lL hC r5 r1 r3 (Nat.le_min.mpr ⟨r2,Nat.le_of_lt IW⟩) (show min rest.length (minRun' l0.length l0.length 0)≤_ by rw[List.length_drop,Nat.add_sub_of_le r2];exact Nat.min_le_left _ _) JX λzv ee u1 u2 u3=>lY (λe=>by cases e) λ_=>?_)
  replace u2:C.bf zv (run++(rest.drop run.length).take (min rest.length (minRun' l0.length l0.length 0)-run.length)):=u2
  have Xi:min rest.length (minRun' l0.length l0.length 0)=zv.length:=by
   have hu:zv.length=(run++(rest.drop run.length).take (min rest.length (minRun' l0.length l0.length 0)-run.length)).length:=u2.length
   rw[List.length_append,List.length_take,List.length_drop]at hu
   rw[Nat.min_eq_left (Nat.sub_le_sub_right (Nat.min_le_left _ _) _),Nat.add_sub_of_le (Nat.le_min.mpr ⟨r2,Nat.le_of_lt IW⟩)]at hu
   exact hu.symm
  have YU:RI C kd l0 rs (zv++(rest.drop run.length).drop (min rest.length (minRun' l0.length l0.length 0)-run.length)) ee:=by
   refine⟨hR.runs,?_,pl,p1,by rw[←List.append_assoc];exact u3⟩
   refine Ord.bf.trans ?_ SH.fx
   have h3:=(Ord.bf.refl (C:=C) rs.flatten).append (u2.append (.refl ((rest.drop run.length).drop (min rest.length (minRun' l0.length l0.length 0)-run.length))))
   rw[List.append_assoc run,List.take_append_drop]at h3
   exact h3
  have CE:zv≠ []:=by
   intro e;subst e
   have:=List.length_pos_iff.mpr r1
   exact absurd Xi (Nat.ne_of_gt (Nat.lt_of_lt_of_le this (Nat.le_min.mpr ⟨r2,Nat.le_of_lt IW⟩)))
  have xC:=YU
  have gg:=CE
  have zw:=u1
  have Dd:=Xi
  rotate_left
  have xC:=SH
  have gg:=r1
  have zw:=r3
  have Dd:run.length=run.length:=rfl
  all_goals
   refine wpS_bind (wpS_get ?_)
   split
   ·rename_i s1 n1 w1 hbk
    refine wpS_bind (wpS_mono (wpS_forRange (I:=λ_=>zu (λom=>om.flatten.length=rs.flatten.length) C kd l0 (_++_)) (Q:=zu (λom=>om.flatten.length=rs.flatten.length) C kd l0 (_++_)) ?_ (λ_ _ h=>h) (.mk rs xC rfl)) ?_)
    ·intro y c v5 _ hy hh
     induction hh with|mk om hI hl=>
     refine wpS_bind (wpS_get ?_)
     have iZ:=hI.size
     split
     ·rename_i o1 o2 Xj ho
      have JY:om.length>1:=by
       rw[←iZ]
       refine Decidable.byContradiction λJY=>?_
       rw[if_neg JY]at ho;cases ho
      exact aC (λ_=>wpS_pure (.mk om hI hl)) (λ_=>wpS_bind (iY hC hP hI (by rw[iZ];exact E8 (Nat.not_le.mpr JY)) λYV JZ q1 q2 q3=>lY (λe=>by cases e) λ_=>wpS_pure (.mk YV q3 (q2.trans hl))))
     ·exact wpS_pure (.mk om hI hl)
    ·intro c v5 hh
     induction hh with|mk om hI hl=>
     exact wpS_bind (wpS_modify (rQ hl Dd (hI.power λa n w=>⟨_,rfl⟩) gg zw Xh λ_ _ h=>h))
   ·exact rQ rfl Dd xC gg zw Xh λ_ _ h=>h
end
end Mine.Internal
end
section
open PySem PyProof.Rows
namespace Mine.Internal
noncomputable def dup(v:Value):Keyed:=(v,v)
structure kj(prog:Program)(w:World)(C:Ord)(P:Keyed→Prop)(kd:SortKind)(s:Shared)(vs:List Value):Prop where
 all: ∀v∈vs,P (dup v)
 cmp: ∀(A:Around) (s':Shared),A.units<cLine→(∀b o,s.heap.get? b=some o→s'.heap.get? b=some o)→dm prog w A s' C P kd
 kind: ∀(A:Around) (s':Shared) (E:Value→Shared→Prop) (Q:SortKind→Shared→Prop),(∀b o,s.heap.get? b=some o→s'.heap.get? b=some o)→2≤vs.length→Q kd s'→wpAny (model prog w) A (keyKind' vs.toArray) Q E s'
theorem gT(vs:List Value):pairsOf vs=(vs.map dup).toArray:=by
 apply Array.ext'
 rw[pairsOf_toList]
 show _=vs.map dup
 induction vs with
 |nil=>rfl
 |cons v vs ih=>rw[List.zip_cons_cons,ih];rfl
theorem rR{r:List Keyed}{vs:List Value}(h:r.Perm (vs.map dup)):r=(r.map (·.2)).map dup:=by
 rw[List.map_map]
 conv=>lhs;rw[←List.map_id r]
 apply List.map_congr_left
 intro x hx
 refine ai (List.mem_map.mp (h.mem_iff.mp hx)) λv _ J0=>?_
 subst J0
 rfl
section
variable{prog:Program}{w:World}{A:Around}{E:Value→Shared→Prop}{s:Shared}{C:Ord}{P:Keyed→Prop}{kd:SortKind}
theorem oz{a:Addr}{vs:List Value}{n:Nat}{Q:Fin→Shared→Prop}(hu:A.units<cLine)(ho:s.heap.get? a=some (seqObj "list" vs.toArray n))(hz:vs.length≤sizeLine)
  (hR: ∀s':Shared,(∀b o,b≠a→s.heap.get? b=some o→s'.heap.get? b=some o)→kj prog w C P kd s' vs)
  (h: ∀(out:List Value),C.dk (out.map dup)→C.bf (out.map dup) (vs.map dup)→Q (.done (.ret .none)) {s with heap:=sortedHeap s.heap a vs out.toArray}):
  wpAny (model prog w) A (Builtin.«list.sort» ⟨[.ref a],[]⟩) Q E s:=by
 rw[list_sort_plain]
 have ha:a<s.heap.objs.size:=Heap.lt_size ho
 refine wpAny_bind (listItems_at ho rfl ?_)
 refine wpAny_bind (listUpdate_at ho rfl ?_ (by simpa using hz) (by simp))
 obtain⟨e1,oA⟩: ∃e1,(s.heap.update a (Obj.mapSeq λ_=> #[])).get? a=some (seqObj "list" #[] e1):=⟨_,get?_update_seq ho (λ_=> #[])⟩
 refine wpAny_bind (seqEpoch_at oA rfl ?_)
 refine wpAny_bind (wpAny_newTuple ?_ (by simpa using hz))
 refine wpAny_bind (wpAny_newList ?_)
 refine wpAny_holding ?_
 have zx:(((s.heap.update a (Obj.mapSeq λ_=> #[])).push (seqObj "tuple" vs.toArray 0)).push (seqObj "list" #[] 0)).get? a=some (seqObj "list" #[] e1):=by
  rw[Heap.get?_push_ne _ _ _ (by rw[size_push',Heap.size_update];exact Nat.ne_of_lt (Nat.lt_succ_of_lt ha)),Heap.get?_push_ne _ _ _ (by rw[Heap.size_update];exact Nat.ne_of_lt ha)]
  exact oA
 show wpAny (model prog w) A _ Q E {s with heap:=((s.heap.update a (Obj.mapSeq λ_=> #[])).push (seqObj "tuple" vs.toArray 0)).push (seqObj "list" #[] 0)}
 have De:=hR {s with heap:=((s.heap.update a (Obj.mapSeq λ_=> #[])).push (seqObj "tuple" vs.toArray 0)).push (seqObj "list" #[] 0)} λb o hb e=>
  Heap.get?_push_of_some _ (Heap.get?_push_of_some _ ((Heap.get?_update_other _ _ (Ne.symm hb)).trans e))
 dsimp only
 by_cases h2:vs.toArray.size<2
 ·rw[if_pos h2,if_pos h2]
  refine wpAny_bind (wpAny_pure ?_)
  rw[StateT.run_pure]
  refine wpAny_bind (wpAny_pure ?_)
  dsimp only
  refine wpAny_bind (seqEpoch_at zx rfl ?_)
  have e0:(vs.toArray.zip vs.toArray).map (λx:Keyed=>x.2)=vs.toArray:=by
   show(pairsOf vs).map _=_
   rw[gT,List.map_toArray,List.map_map]
   have e1:((λx:Keyed=>x.2) ∘ dup)=id:=rfl
   rw[e1,List.map_id]
  refine wpAny_bind (listUpdate_at zx rfl ?_ (hsz2:=by rw[e0];simp;exact Nat.le_succ_of_le ‹_›))
  simp only[bne_self_eq_false,Bool.false_eq_true,if_false]
  rw[e0]
  refine wpAny_pure (h vs ?_ (.refl _))
  match vs,h2 with
  | [],_=>exact .nil
  | [x],_=>exact List.pairwise_singleton _ _
  |_::_::_,h2=>rw[List.size_toArray]at h2;exact absurd h2 (Nat.not_lt.mpr (Nat.le_add_left 2 _))
 ·rw[if_neg h2,if_neg h2]
  refine wpAny_bind (De.kind A _ _ _ (λ_ _ e=>e) (Nat.not_lt.mp h2) ?_)
  have fB:vs.map dup≠ []:=by intro e;rw[List.map_eq_nil_iff]at e;subst e;simp at h2
  refine wpAny_bind (wpAny_mono (oy (C:=C) (P:=P) (kd:=kd) (l0:=vs.map dup) (st:=SortSt.mk' kd (vs.toArray.zip vs.toArray) #[] 7 none)
   (Q:=λ_ aU=> ∃r p,C.dk r∧C.bf r (vs.map dup)∧SS kd r p aU)
   (De.cmp A _ hu λ_ _ e=>e) (λx hx=>by obtain⟨v,hv,rfl⟩:=List.mem_map.mp hx;exact De.all v hv) fB ⟨rfl,gT vs,rfl,rfl⟩ λr p aU a1 a2 a3=>⟨r,p,a1,a2,a3⟩) ?_ λ_ _ e=>e)
  rintro ⟨⟨⟩,aU⟩ s' ⟨rfl,r,p,h3,h4,h5⟩
  dsimp only
  refine wpAny_bind (seqEpoch_at zx rfl ?_)
  have er:=rR h4.perm
  have e0:(arrOf aU).map (λx:Keyed=>x.2)=(r.map (·.2)).toArray:=by rw[h5.arr];simp
  have hlen:(r.map (λx:Keyed=>x.2)).length≤sizeLine+1:=by rw[List.length_map,h4.length,List.length_map];exact Nat.le_succ_of_le hz
  refine wpAny_bind (listUpdate_at zx rfl ?_ (hsz2:=by rw[e0];simpa using hlen))
  rw[h5.fail]
  simp only[bne_self_eq_false,Bool.false_eq_true,if_false]
  rw[e0]
  rw[er]at h3 h4
  exact wpAny_pure (h _ h3 h4)
theorem uj{x:Value}{Q:Value→Shared→Prop}(hu:A.units+6<cLine)
  (GG:wpAny (model prog w) A.in1 (collect x) (λvs s₁=>vs.length≤sizeLine∧kj prog w C P kd s₁ vs∧
   ∀(out:List Value) (h':Heap) (D:Addr) (e:Nat),(∀b o,s₁.heap.get? b=some o→h'.get? b=some o)→s₁.heap.objs.size≤D→h'.get? D=some (seqObj "list" out.toArray e)→
    C.dk (out.map dup)→C.bf (out.map dup) (vs.map dup)→Q (.ref D) {s₁ with heap:=h'}) E s):
  wpAny (model prog w) A (call (.builtin "sorted") [x]) Q E s:=by
 refine Calls.call_function_entry kind_sorted plain_sorted entry_sorted (args_sorted1 _) ?_
 unfold Builtin.«sorted»
 refine wpAny_bind (m:=checkCount "sorted" 1 1 _) (wpAny_pure ?_)
 refine wpAny_bind (wpAny_mono GG (λvs s₁ hv=>?_) λ_ _ e=>e)
 refine gM hv λhz hR hQ=>?_
 refine wpAny_bind (wpAny_newList ?_ (by simpa using hz))
 have CG:(s₁.heap.push (seqObj "list" vs.toArray 0)).get? s₁.heap.objs.size=some (seqObj "list" vs.toArray 0):=Heap.get?_push_size _ rfl
 have mC:s₁.heap.get? s₁.heap.objs.size=none:=by
  cases hq:s₁.heap.get? s₁.heap.objs.size with
  |none=>rfl
  |some o=>exact absurd (Heap.lt_size hq) (Nat.lt_irrefl _)
 have hold: ∀b o,s₁.heap.get? b=some o→b≠s₁.heap.objs.size:=λb o e=>Nat.ne_of_lt (Heap.lt_size e)
 show wpAny _ _ _ _ _ {s₁ with heap:=s₁.heap.push (seqObj "list" vs.toArray 0)}
 refine wpAny_bind (wpAny_holding (wpAny_call_entry slot_list_sort ⟨_,CG,rfl⟩ entry_list_sort (oz (C:=C) (P:=P) (kd:=kd) (kf (m:=2) hu (by decide)) CG hz (λs' ou=>?_) λout a1 a2=>⟨_,rfl,?_⟩) (args_list_sort _)))
 ·have hk: ∀b o,s₁.heap.get? b=some o→s'.heap.get? b=some o:=λb o e=>ou b o (hold b o e) (Heap.get?_push_of_some _ e)
  exact⟨hR.all,λA mD hu qo=>hR.cmp A mD hu λb o e=>qo b o (hk b o e),λA mD E Q qo=>hR.kind A mD E Q λb o e=>qo b o (hk b o e)⟩
 ·refine au (sortedHeap_at (vs:=vs) (out:=out.toArray) CG) λe he=>?_
  refine wpAny_pure ⟨_,rfl,hQ out _ _ e (λb o e=>?_) (Nat.le_refl _) he a1 a2⟩
  rw[sortedHeap_old (hold b o e) (by rw[size_push'];exact Nat.lt_succ_of_lt (Heap.lt_size e))]
  exact Heap.get?_push_of_some _ e
end
end Mine.Internal
end
section
open PySem PyProof.Rows
namespace Mine.Internal
set_option genCtorIdx true in
inductive D where
 |none|bool (b:Bool)|int (i:Int)|cx (x:UInt64)|str (s:Str)|ty (n:String)
 |list (l:List D)|tup (l:List D)|Ff (a b c:Int)|lM (l:List D)|CH (l:List Int)
 |any
 |obj (a:Addr) (m:Int)|fn (a:Addr)
 deriving Inhabited
noncomputable abbrev bW:Nat:=2^20
noncomputable def cQ(o:Obj):Prop:=(∃xs n,o.data= .seq xs n)∨ ∃xs,o.data= .fields xs
theorem bx{o:Obj}{xs:Array Value}(h:o.data= .fields xs):cQ o:= .inr ⟨xs,h⟩
mutual
def aZ(Z:Addr→Prop)(h:Heap):D→Value→Prop
 | .none,v=>v= .none
 | .bool b,v=>v= .bool b
 | .int i,v=> ∃t,v= .int i t
 | .cx x,v=> ∃t,v= .float x t
 | .str s,v=> ∃t,v= .str s t
 | .ty n,v=>v= .type n
 | .list l,v=> ∃a vs,v= .ref a∧Z a∧l.length≤bW∧h.PlainList a vs.toArray∧aF Z h l vs
 | .tup l,v=> ∃a vs,v= .ref a∧Z a∧l.length≤bW∧h.IsTuple a vs.toArray∧aF Z h l vs
 | .Ff a b c,v=> ∃r t u x,v= .ref r∧Z r∧IsRange h r a b c t u x
 | .lM l,v=> ∃i a vs,v= .ref i∧Z i∧Z a∧a≠i∧l.length≤bW∧h.IsListIter i a 0∧h.IsList a vs.toArray∧aF Z h l vs
 | .CH l,v=> ∃a vs,v= .ref a∧Z a∧l.length≤bW∧h.IsList a vs.toArray∧IntsAre vs l
 | .any,_=>True
 | .obj a m,v=>v= .ref a∧Z a∧ ∃t,h.PlainList a #[.int m t]
 | .fn a,v=>v= .ref a
def aF(Z:Addr→Prop)(h:Heap):List D→List Value→Prop
 | [],vs=>vs= []
 |d::ds,vs=> ∃v ws,vs=v::ws∧aZ Z h d v∧aF Z h ds ws
end
noncomputable def Ext(h h':Heap):Prop:= ∀b o,h.get? b=some o→h'.get? b=some o
theorem Ext.refl(h:Heap):Ext h h:=λ_ _ e=>e
theorem Ext.trans{h h' dA:Heap}(x:Ext h h')(y:Ext h' dA):Ext h dA:=λb o e=>y b o (x b o e)
theorem Ext.push(h:Heap)(o:Obj):Ext h (h.push o):=λ_ _ e=>Heap.get?_push_of_some _ e
theorem o8{h:Heap}{a:Addr}{xs:Array Value}(x:h.IsList a xs):a<h.objs.size:=let⟨_,e,_⟩:=x;Heap.lt_size e
theorem oB{h:Heap}{a l:Addr}{i:Nat}(x:h.IsListIter a l i):a<h.objs.size:=let⟨_,e,_⟩:=x;Heap.lt_size e
theorem aZ.dat{Z Z':Addr→Prop}{h h':Heap}(hk: ∀a o,Z a→cQ o→h.get? a=some o→h'.get? a=some o∧Z' a){d:D}: ∀{v:Value},aZ Z h d v→aZ Z' h' d v:=
 D.rec (motive_1:=λd=> ∀{v:Value},aZ Z h d v→aZ Z' h' d v) (motive_2:=λds=> ∀{vs:List Value},aF Z h ds vs→aF Z' h' ds vs)
  (λx=>x) (λ_ _ x=>x) (λ_ _ x=>x) (λ_ _ x=>x) (λ_ _ x=>x) (λ_ _ x=>x)
  (λl ih v fe=>by
   refine cz fe λa vs e z n J1 r=>?_
   obtain⟨k,ho⟩:=J1
   refine aX (hk a _ z (.inl ⟨_,_,rfl⟩) ho) λh1 h2=>?_
   exact⟨a,vs,e,h2,n,⟨k,h1⟩,ih r⟩)
  (λl ih v fe=>by
   refine cz fe λa vs e z n J2 r=>?_
   obtain⟨o,ho,hc,k,hd⟩:=J2
   refine aX (hk a _ z (.inl ⟨_,_,hd⟩) ho) λh1 h2=>?_
   exact⟨a,vs,e,h2,n,⟨o,h1,hc,k,hd⟩,ih r⟩)
  (λ_ _ _ v fe=>by
   refine eh fe λr t u x e z i=>?_
   refine aX (hk r _ z (bx rfl) i) λh1 h2=>?_
   exact⟨r,t,u,x,e,h2,h1⟩)
  (λl ih v fe=>by
   refine CS fe λi a vs e z z' ne n J3 J4 r=>?_
   obtain⟨o,ho,hc,hd⟩:=J3
   obtain⟨o',eu,Fg,k,fo⟩:=J4
   refine aX (hk i _ z (bx hd) ho) λh1 h2=>?_
   refine aX (hk a _ z' (.inl ⟨_,_,fo⟩) eu) λh3 h4=>?_
   exact⟨i,a,vs,e,h2,h4,ne,n,⟨o,h1,hc,hd⟩,⟨o',h3,Fg,k,fo⟩,ih r⟩)
  (λl v fe=>by
   refine cz fe λa vs e z n J5 r=>?_
   obtain⟨o,ho,hc,k,hd⟩:=J5
   refine aX (hk a _ z (.inl ⟨_,_,hd⟩) ho) λh1 h2=>?_
   exact⟨a,vs,e,h2,n,⟨o,h1,hc,k,hd⟩,r⟩)
  (λx=>x)
  (λa m v fe=>by
   obtain⟨e,z,t,k,ho⟩:=fe
   refine aX (hk a _ z (.inl ⟨_,_,rfl⟩) ho) λh1 h2=>?_
   exact⟨e,h2,t,k,h1⟩)
  (λ_ _ x=>x) (λx=>x)
  (λd ds GH IX vs fe=>by
   refine b8 fe λv ws e r rs=>?_
   exact⟨v,ws,e,GH r,IX rs⟩) d
theorem aF.dat{Z Z':Addr→Prop}{h h':Heap}(hk: ∀a o,Z a→cQ o→h.get? a=some o→h'.get? a=some o∧Z' a){ds:List D}: ∀{vs:List Value},aF Z h ds vs→aF Z' h' ds vs:=by
 induction ds with
 |nil=>exact λx=>x
 |cons d ds ih=>exact λ⟨v,ws,e,r,rs⟩=>⟨v,ws,e,aZ.dat hk r,ih rs⟩
theorem aZ.change{Z Z':Addr→Prop}{h h':Heap}(hk: ∀a o,Z a→h.get? a=some o→h'.get? a=some o∧Z' a){d:D}{v:Value}(x:aZ Z h d v):aZ Z' h' d v:=x.dat λa o z _ e=>hk a o z e
theorem aF.change{Z Z':Addr→Prop}{h h':Heap}(hk: ∀a o,Z a→h.get? a=some o→h'.get? a=some o∧Z' a){d:List D}{v:List Value}(x:aF Z h d v):aF Z' h' d v:=x.dat λa o z _ e=>hk a o z e
section
variable{Z Z':Addr→Prop}{h h':Heap}{d:D}{v:Value}{ds:List D}{vs:List Value}
theorem aZ.ext(x:aZ Z h d v)(k:Ext h h'):aZ Z h' d v:=x.change λa o z e=>⟨k a o e,z⟩
theorem aF.ext(x:aF Z h ds vs)(k:Ext h h'):aF Z h' ds vs:=x.change λa o z e=>⟨k a o e,z⟩
theorem aZ.mono(x:aZ Z h d v)(k: ∀a,a<h.objs.size→Z a→Z' a):aZ Z' h d v:=x.change λa _ z e=>⟨e,k a (Heap.lt_size e) z⟩
theorem aF.mono(x:aF Z h ds vs)(k: ∀a,a<h.objs.size→Z a→Z' a):aF Z' h ds vs:=x.change λa _ z e=>⟨e,k a (Heap.lt_size e) z⟩
theorem aF.length: ∀{ds:List D} {vs:List Value},aF Z h ds vs→vs.length=ds.length
 | [],_,x=>by cases x;rfl
 |d::ds,_,fe=>by
  refine b8 fe λv ws e _ rs=>?_
  subst e;simp[aF.length rs]
theorem aF.get: ∀{ds:List D} {vs:List Value} {i:Nat} {d:D},aF Z h ds vs→ds[i]? =some d→ ∃v,vs[i]? =some v∧aZ Z h d v
 | [],_,i,d,_,e=>by simp at e
 |d::ds,_,0,d',fe,e'=>by
  refine b8 fe λv ws e r rs=>?_
  subst e;simp at e';subst e';exact⟨v,rfl,r⟩
 |d::ds,_,i+1,d',fe,e'=>by
  refine b8 fe λv ws e r rs=>?_
  subst e;rw[List.getElem?_cons_succ]at e' ⊢;exact aF.get rs e'
theorem aF.get': ∀{ds:List D} {vs:List Value} {i:Nat} {v:Value},aF Z h ds vs→vs[i]? =some v→ ∃d,ds[i]? =some d∧aZ Z h d v
 | [],_,i,v,x,e=>by cases x;simp at e
 |d::ds,_,0,v',fe,e'=>by
  refine b8 fe λv ws e r rs=>?_
  subst e;simp at e';subst e';exact⟨d,rfl,r⟩
 |d::ds,_,i+1,v',fe,e'=>by
  refine b8 fe λv ws e r rs=>?_
  subst e;rw[List.getElem?_cons_succ]at e' ⊢;exact aF.get' rs e'
theorem aF.append: ∀{ds es:List D} {vs ws:List Value},aF Z h ds vs→aF Z h es ws→aF Z h (ds++es) (vs++ws)
 | [],_,_,_,x,y=>by cases x;exact y
 |d::ds,_,_,_,fe,y=>by
  refine b8 fe λv ws e r rs=>?_
  subst e;exact⟨v,_,rfl,r,aF.append rs y⟩
theorem aF.of_get: ∀{ds:List D} {vs:List Value},vs.length=ds.length→(∀(i:Nat) (d:D) (v:Value),ds[i]? =some d→vs[i]? =some v→aZ Z h d v)→aF Z h ds vs
 | [],vs,hl,_=>List.eq_nil_of_length_eq_zero hl
 |d::ds,[],hl,_=>by simp at hl
 |d::ds,v::vs,hl,k=>⟨v,vs,rfl,k 0 d v rfl rfl,aF.of_get (by simpa using hl) λi d' v' e e'=>k (i+1) d' v' (by simpa using e) (by simpa using e')⟩
theorem aF.pick(x:aF Z h ds vs): ∀(is:List Nat),aF Z h (is.filterMap (ds[·]?)) (is.filterMap (vs[·]?))
 | []=>rfl
 |i::is=>by
  cases e:ds[i]? with
  |none=>
   have e':vs[i]? =none:=by
    cases e2:vs[i]? with
    |none=>rfl
    |some v=>obtain⟨d,hd,_⟩:=x.get' e2;rw[e]at hd;cases hd
   rw[List.filterMap_cons_none e,List.filterMap_cons_none e'];exact x.pick is
  |some d=>
   refine ai (x.get e) λv e' r=>?_
   rw[List.filterMap_cons_some e,List.filterMap_cons_some e']
   exact⟨v,_,rfl,r,x.pick is⟩
theorem aF.SI(x:aF Z h ds vs){v:Value}(hv:v∈vs): ∃d∈ds,aZ Z h d v:=by
 obtain⟨i,hi,rfl⟩:=List.getElem_of_mem hv
 refine ai (x.get' (List.getElem?_eq_getElem hi)) λd e r=>?_
 exact⟨d,List.mem_of_getElem? e,r⟩
end
noncomputable def aw(Z:Addr→Prop)(h:Heap):Nat→D→Value→Prop
 |0,d,v=>aZ Z h d v
 |n+1,.list l,v=> ∃(a:Addr) (vs:List Value),v= .ref a∧l.length≤bW∧h.PlainList a vs.toArray∧vs.length=l.length∧ ∀(i:Nat) (d:D) (w:Value),l[i]? =some d→vs[i]? =some w→aw Z h n d w
 |_+1,d,v=>aZ Z h d v
noncomputable def D.isList:D→Bool
 | .list _=>true
 |_=>false
noncomputable def D.zy:D→Bool
 | .list _=>true
 |_=>false
theorem aw.plain{Z:Addr→Prop}{h:Heap}{n:Nat}{d:D}{v:Value}(x:aw Z h n d v)(hd:d.zy=false):aZ Z h d v:=by
 cases n with
 |zero=>exact x
 |succ n=>cases d <;> first|exact x|cases hd
theorem aw.atom{Z:Addr→Prop}{h:Heap}{n:Nat}{d:D}{v:Value}(x:aZ Z h d v)(hd:d.zy=false):aw Z h n d v:=by
 cases n with
 |zero=>exact x
 |succ n=>cases d <;> first|exact x|cases hd
theorem D.kinds(d:D):(∃l,d= .list l)∨d.zy=false:=by
 cases d <;> first|exact .inr rfl|exact .inl ⟨_,rfl⟩
section
variable{Z Z':Addr→Prop}{h h':Heap}
theorem aw.cB{n:Nat}: ∀{d:D} {v:Value},aZ Z h d v→aw Z h n d v:=by
 induction n with
 |zero=>exact λx=>x
 |succ n ih=>
  intro d v x
  rcases d.kinds with⟨l,rfl⟩|hd
  ·refine cz x λa vs e _ k i r=>?_
   refine⟨a,vs,e,k,i,r.length,λj d w h1 h2=>?_⟩
   refine ai (r.get h1) λw' e' r'=>?_
   rw[h2]at e'
   obtain rfl:=Option.some.inj e'
   exact ih r'
  ·exact .atom x hd
theorem aw.all{n:Nat}: ∀{d:D} {v:Value},aw Z h n d v→aZ (λ_=>True) h d v:=by
 induction n with
 |zero=>exact λx=>aZ.change (λ_ _ _ e=>⟨e,trivial⟩) x
 |succ n ih=>
  intro d v x
  rcases d.kinds with⟨l,rfl⟩|hd
  ·refine cz x λa vs e k i hl r=>?_
   exact⟨a,vs,e,trivial,k,i,aF.of_get hl λj d w h1 h2=>ih (r j d w h1 h2)⟩
  ·exact(x.plain hd).change λ_ _ _ e=>⟨e,trivial⟩
theorem aw.grow(hx:Ext h h')(k: ∀a o,h.get? a=some o→Z a→Z' a){n:Nat}: ∀{d:D} {v:Value},aw Z h n d v→aw Z' h' n d v:=by
 induction n with
 |zero=>exact λx=>aZ.change (λa o z e=>⟨hx a o e,k a o e z⟩) x
 |succ n ih=>
  intro d v x
  rcases d.kinds with⟨l,rfl⟩|hd
  ·refine cz x λa vs e b i hl r=>?_
   exact⟨a,vs,e,b,i.at λo ho=>hx a o ho,hl,λj d w h1 h2=>ih (r j d w h1 h2)⟩
  ·exact .atom ((x.plain hd).change λa o z e=>⟨hx a o e,k a o e z⟩) hd
theorem aw.ext(k:Ext h h'){n:Nat}{d:D}{v:Value}(x:aw Z h n d v):aw Z h' n d v:=x.grow k λ_ _ _ z=>z
theorem aw.mE(k: ∀a o,h.get? a=some o→Z a→Z' a){n:Nat}{d:D}{v:Value}(x:aw Z h n d v):aw Z' h n d v:=x.grow (.refl _) k
theorem aw.mono(k: ∀a,a<h.objs.size→Z a→Z' a){n:Nat}{d:D}{v:Value}(x:aw Z h n d v):aw Z' h n d v:=x.grow (.refl _) λa _ e=>k a (Heap.lt_size e)
theorem aw.le{m:Nat}: ∀{n:Nat} {d:D} {v:Value},aw Z h n d v→n≤m→aw Z h m d v:=by
 induction m with
 |zero=>
  intro n d v x hm
  obtain rfl:=(Nat.le_zero.mp hm)
  exact x
 |succ m ih=>
  intro n d v x hm
  cases n with
  |zero=>exact .cB x
  |succ n=>
   rcases d.kinds with⟨l,rfl⟩|hd
   ·refine cz x λa vs e k i hl r=>?_
    exact⟨a,vs,e,k,i,hl,λj d w h1 h2=>ih (r j d w h1 h2) (Nat.le_of_succ_le_succ hm)⟩
   ·exact .atom (x.plain hd) hd
end
end Mine.Internal
end
section
open PySem PyProof.Rows
namespace Mine.Internal
open PySem.SeqAt PySem.AutoSeq1 PySem.MeetsSeq3 in
theorem rS(l b:Addr)(items mF:Array Value)(x y:Int)(t u:Tok)(n n2:Nat)(dd SJ:Option Addr)(sl SK:Array (Option Value))(e1:items= #[.int x t])(e2:mF= #[.int y u]):
  Meets (Builtin.«list.__lt__» ⟨[.ref l,.ref b],[]⟩)
   (λ_ R s=>s.heap.get? l=some {cls:= .type "list",dict:=dd,data:= .seq items n,slots:=sl}∧s.heap.get? b=some {cls:= .type "list",dict:=SJ,data:= .seq mF n2,slots:=SK}∧
    R (.ok (.ret (.bool (decide (x<y))))) s):=by
 have i0:items[Int.toNat 0]? =some (.int x t):=by rw[e1];rfl
 have j0:mF[Int.toNat 0]? =some (.int y u):=by rw[e2];rfl
 have i1:items[Int.toNat (0+1)]? =none:=by rw[e1];rfl
 have j1:mF[Int.toNat (0+1)]? =none:=by rw[e2];rfl
 have s1:items.size=1:=by rw[e1];rfl
 have s2:mF.size=1:=by rw[e2];rfl
 clear e1 e2
 intro prog w A R s h
 obtain⟨hp,g,d,tk,os⟩:=s
 refine gM h λhl hb h=>?_
 have f3:=AutoSeq1.sub_list_list
 wp_walk using wpAny_loadPart' hl,wpAny_loadPart' hb
 refine⟨plainId_quiet plain_eq_loop _,codeAny_builtin entry_eq_loop ?_⟩
 rw[Around.under_plainId plain_eq_loop _]
 wp_walk using wpAny_loadPart' hl,wpAny_loadPart' hb
 rw[i0,j0]
 refine wpAny_bind (wpAny_eqBool_int ?_)
 by_cases e:x=y
 ·subst e
  rw[show(x==x)=true by simp]
  have h':(decide (x<x))=false:=by simp
  rw[h']at h
  wp_walk
  refine⟨plainId_quiet plain_eq_loop _,codeAny_builtin entry_eq_loop ?_⟩
  rw[Around.under_plainId plain_eq_loop _]
  wp_walk using wpAny_loadPart' hl,wpAny_loadPart' hb
  rw[i1,j1]
  wp_walk using wpAny_loadPart' hl,wpAny_loadPart' hb
  skip
  rw[s1,s2]
  exact h
 ·rw[show(x==y)=false by simpa using e]
  wp_walk using wpAny_loadPart' hl,wpAny_loadPart' hb
  rw[i0,j0]
  refine wpAny_bind (m:=richCompare .Lt (.int x t) (.int y u)) ?_
  refine(show wpAny (model prog w) A.in1 (compareOp .Lt (.int x t) (.int y u)) _ _ _ from lt_int ?_)
  wp_walk
  exact h
section
variable{prog:Program}{w:World}{A:Around}{E:Value→Shared→Prop}{s:Shared}
theorem mG{a b:Addr}{x y:Int}{t u:Tok}{Q:Value→Shared→Prop}(ha:s.heap.PlainList a #[.int x t])(hb:s.heap.PlainList b #[.int y u])(h:Q (.bool (decide (x<y))) s):
  wpAny (model prog w) A (call (.builtin "list.__lt__") [.ref a,.ref b]) Q E s:=by
 refine au ha λn ho=>?_
 refine au hb λm tV=>?_
 exact call_meets PySem.F.slot_list_lt ⟨_,ho,rfl⟩ PySem.F.entry_list_lt (PySem.F.args_list_lt_2 _ _) (rS a b _ _ x y t u n m none none #[] #[] rfl rfl) ⟨ho,tV,h⟩
theorem GI{a b:Addr}{x y:Int}{t u:Tok}{Q:Value→Shared→Prop}(ha:s.heap.PlainList a #[.int x t])(hb:s.heap.PlainList b #[.int y u])(hu:A.units<cLine)(h:Q (.bool (decide (x<y))) s):
  wpAny (model prog w) A (compareOp .Lt (.ref a) (.ref b)) Q E s:=by
 refine au ha λn ho=>?_
 refine au hb λm tV=>?_
 exact PySem.richCompare_meets_room (op:= .Lt) ⟨_,ho,rfl⟩ ⟨_,tV,rfl⟩ PySem.F.slot_list_lt PySem.F.entry_list_lt (PySem.F.args_list_lt_2 _ _) (rS a b _ _ x y t u n m none none #[] #[] rfl rfl)
  ⟨ho,tV,show Value.bool (decide (x<y))≠Value.notImplemented∧Q (.bool (decide (x<y))) s from⟨(λx=>nomatch x),h⟩⟩ hu
theorem xD{a b:Addr}{x y:Int}{t u:Tok}{Q:Bool→Shared→Prop}(ha:s.heap.PlainList a #[.int x t])(hb:s.heap.PlainList b #[.int y u])(hu:A.units<cLine)(h:Q (decide (x<y)) s):wpAny (model prog w) A (oneLt' true (.ref a) (.ref b)) Q E s:=by
 rw[oneLt'_eq]
 dsimp only[if_true]
 refine wpAny_bind (wpAny_cRoomFor_or (.inr hu) ?_)
 obtain⟨n,ho⟩:=id ha
 refine wpAny_bind (wpAny_callSpecialIfBound?_slot ⟨_,ho,rfl⟩ PySem.F.slot_list_lt (mG ha hb ?_))
 exact wpAny_truthy_bool h
end
end Mine.Internal
end
section
open PySem PyProof.Rows PySem.Flt
namespace Mine.Internal
noncomputable def D.int?:D→Option Int
 | .int i=>some i
 |_=>Option.none
noncomputable def D.i9:D→Option (List D)
 | .list l=>some l
 |_=>Option.none
noncomputable def D.GJ:D→Option (List D)
 | .tup l=>some l
 |_=>Option.none
noncomputable def D.bool?:D→Option Bool
 | .bool b=>some b
 |_=>Option.none
noncomputable def D.gU:D→Option Str
 | .str b=>some b
 |_=>Option.none
noncomputable def D.SM:D→Option String
 | .ty b=>some b
 |_=>Option.none
noncomputable def D.rT:D→Option Unit
 | .none=>some ()
 |_=>Option.none
noncomputable def D.ew:D→Option UInt64
 | .cx x=>some x
 |_=>Option.none
noncomputable def D.arr?:D→Option (List D)
 | .list l=>some l
 | .tup l=>some l
 |_=>Option.none
noncomputable def D.seq?:D→Option (List D)
 | .list l=>some l
 | .CH l=>some (l.map .int)
 | .obj _ m=>some [.int m]
 |_=>Option.none
section
variable{d:D}
theorem gV{α:Type}{a:α}{p:Prop}(h:Option.none=some a):p:=by cases h
theorem ba{i:Int}(h:d.int?=some i):d= .int i:=by cases d <;> first|exact gV h|exact congrArg D.int (Option.some.inj h)
theorem ef{l:List D}(h:d.i9=some l):d= .list l:=by cases d <;> first|exact gV h|exact congrArg D.list (Option.some.inj h)
theorem zz{l:List D}(h:d.GJ=some l):d= .tup l:=by cases d <;> first|exact gV h|exact congrArg D.tup (Option.some.inj h)
theorem iG{b:Bool}(h:d.bool?=some b):d= .bool b:=by cases d <;> first|exact gV h|exact congrArg D.bool (Option.some.inj h)
theorem cj{b:Str}(h:d.gU=some b):d= .str b:=by cases d <;> first|exact gV h|exact congrArg D.str (Option.some.inj h)
theorem wa{b:String}(h:d.SM=some b):d= .ty b:=by cases d <;> first|exact gV h|exact congrArg D.ty (Option.some.inj h)
theorem cC{b:UInt64}(h:d.ew=some b):d= .cx b:=by cases d <;> first|exact gV h|exact congrArg D.cx (Option.some.inj h)
theorem zA{b:List D}(h:d.arr?=some b):d= .list b∨d= .tup b:=by cases d <;> first|exact gV h|exact .inl (congrArg D.list (Option.some.inj h))|exact .inr (congrArg D.tup (Option.some.inj h))
theorem gZ{u:Unit}(h:d.rT=some u):d= .none:=by cases d <;> first|exact gV h|rfl
theorem aK{α β:Type}{a:Option α}{f:α→Option β}{b:β}(h:a.bind f=some b): ∃x,a=some x∧f x=some b:=Option.bind_eq_some_iff.mp h
theorem eM{α:Type}{c:Prop} [Decidable c]{a:Option α}{b:α}(h:(if c then a else none)=some b):c∧a=some b:=by
 by_cases hc:c
 ·rw[if_pos hc]at h;exact⟨hc,h⟩
 ·rw[if_neg hc]at h;cases h
theorem uk{α:Type}{c:Prop} [Decidable c]{a:Option α}{b:α}(h:(if c then none else a)=some b): ¬c∧a=some b:=by
 by_cases hc:c
 ·rw[if_pos hc]at h;cases h
 ·rw[if_neg hc]at h;exact⟨hc,h⟩
theorem omap{α β:Type}{a:Option α}{f:α→β}{b:β}(h:a.map f=some b): ∃x,a=some x∧f x=b:=Option.map_eq_some_iff.mp h
end
noncomputable def bC(l:List D):Option D:=if l.length≤bW then some (.list l)else none
noncomputable def dW(i:Int):Bool:=Nat.ble i.natAbs 1099511627776
theorem iH{i:Int}(h:dW i=true): -(2^40)≤i∧i≤2^40:=by
 have:i.natAbs≤1099511627776:=Nat.le_of_ble_eq_true h
 exact Gf this
noncomputable def cD:D→Option Bool
 | .bool b=>some b
 | .int i=>some (i != 0)
 |_=>none
noncomputable def rU(f:Int→Int→Option D)(x y:D):Option D:=x.int?.bind λa=>y.int?.bind λb=>f a b
noncomputable def GK(x y:D):Option D:=
 match x.int? with
 |some a=>match y.ew with
  |some b=>if Over a then none else some (.cx (Float64.add (Float64.ofInt a) b))
  |none=>y.int?.map λb=> .int (a+b)
 |none=>match x.gU with
  |some a=>y.gU.bind λb=>if a.length+b.length≤bW then some (.str (a++b))else none
  |none=>match x.ew with
   |some a=>y.ew.map λb=> .cx (Float64.add a b)
   |none=>x.seq?.bind λl=>y.seq?.bind λm=>bC (l++m)
noncomputable def GL(x y:D):Option D:=
 match x.ew with
 |some a=>match y.ew with
  |some b=>some (.cx (Float64.sub a b))
  |none=>y.int?.bind λn=>if Over n then none else some (.cx (Float64.sub a (Float64.ofInt n)))
 |none=>rU (λa b=>some (.int (a-b))) x y
noncomputable def dc(i:Int):Bool:=Nat.ble (Builtin.Int.intBits i) 64
noncomputable def GN(x y:D):Option D:=
 match y.ew with
 |some b=>x.ew.map λa=> .cx (Float64.mul a b)
 |none=>y.int?.bind λn=>match x.int? with
  |some a=>if dc a||dc n then some (.int (a*n))else none
  |none=>x.i9.bind λl=>if dW n then bC (List.replicate n.toNat l).flatten else none
noncomputable def quot(a b:Int):UInt64:=Float64.ofFrac (decide (a<0) != decide (b<0)) a.natAbs b.natAbs
noncomputable def SN(a b:Int):Option D:=if b=0 then none else if Float64.isInf (quot a b)=true then none else some (.cx (quot a b))
noncomputable def GO(x y:D):Option D:=
 match x.ew with
 |some a=>match y.ew with
  |some b=>if Float64.isZero b=true then none else some (.cx (Float64.div a b))
  |none=>y.int?.bind λn=>if n=0 then none else if Over n then none else some (.cx (Float64.div a (Float64.ofInt n)))
 |none=>rU SN x y
noncomputable def J6(x y:D):Option D:=rU (λa b=>if b=0 then none else if b.natAbs<2^30 then some (.int (a.fdiv b))else none) x y
noncomputable def SO(a b:Int):Option D:=if 0≤b∧(Builtin.Int.intBits a:Int)*b≤2^27 then some (.int (a^b.toNat))else none
noncomputable def bA(o:Operator)(x y:D):Option D:=
 match o with
 | .Add=>GK x y
 | .Sub=>GL x y
 | .Mult=>GN x y
 | .Mod=>rU (λa b=>if b=0 then none else some (.int (a.fmod b))) x y
 | .FloorDiv=>J6 x y
 | .Div=>GO x y
 | .Pow=>rU SO x y
 |_=>none
noncomputable def eP(f:D→D→Option Bool):List D→List D→Option Bool
 | [],m=>match m with
  | []=>some true
  |_::_=>none
 |a::l,m=>match m with
  | []=>none
  |b::m=>(f a b).bind λx=>(eP f l m).map λy=>x&&y
noncomputable def IY(f:Option (D→D→Option Bool))(x y:D):Option Bool:=
 match y with
 | .bool b=>x.bool?.map (· ==b)
 | .int b=>x.int?.map (· ==b)
 | .str b=>x.gU.map (· ==b)
 | .list m=>f.bind λf=>x.i9.bind λl=>if l.length=m.length then eP f l m else some false
 |_=>none
noncomputable def xE:Nat→D→D→Option Bool
 |0=>IY none
 |n+1=>IY (some (xE n))
noncomputable abbrev IZ:D→D→Option Bool:=xE 5
noncomputable def D.rV:D→Bool
 | .ty _=>true
 |_=>false
noncomputable def Df(f:Int→Int→Bool)(x y:D):Option Bool:=x.int?.bind λa=>y.int?.map λb=>f a b
noncomputable def GP{α:Type}:List α→Option (α×α)
 | []=>none
 |a::l=>match l with
  | []=>none
  |b::l=>match l with
   | []=>some (a,b)
   |_::_=>none
noncomputable def one?{α:Type}:List α→Option α
 | []=>none
 |a::l=>match l with
  | []=>some a
  |_::_=>none
theorem zB{α:Type}{l:List α}{a:α}(h:one? l=some a):l= [a]:=by
 rcases l with _|⟨b,_|⟨c,l⟩⟩
 ·exact gV h
 ·exact congrArg (λx=> [x]) (Option.some.inj h)
 ·exact gV h
theorem rW{α:Type}{l:List α}{p:α×α}(h:GP l=some p):l= [p.1,p.2]:=by
 rcases l with _|⟨b,_|⟨c,_|⟨d,l⟩⟩⟩
 ·exact gV h
 ·exact gV h
 ·exact congrArg (λx:α×α=> [x.1,x.2]) (Option.some.inj h)
 ·exact gV h
noncomputable def Fh(y x:Str):Bool:= !(Builtin.Str.occurrences x y 0 x.length 1).isEmpty
noncomputable def inD(x y:D):Option Bool:=y.gU.bind λb=>x.gU.map λa=>Fh a b
noncomputable def D.rY:D→Option Addr
 | .obj a _=>some a
 |_=>Option.none
noncomputable def D.zC:D→Option Unit
 | .tup _=>some ()
 | .list _=>some ()
 |_=>Option.none
noncomputable def Rk(x y:D):Option Bool:=
 match y.rT with
 |some _=>match x.rT with
  |some _=>some true
  |none=>x.zC.map λ_=>false
 |none=>match x.rY with
  |some a=>y.rY.map λb=>a==b
  |none=>x.SM.bind λa=>y.SM.map λb=>a==b
noncomputable def dq(d:D):D:=
 match d with
 | .obj _ m=> .list [.int m]
 |d=>d
noncomputable def wb(d:D):D:=
 match d with
 | .list l=> .list (l.map dq)
 |d=>dq d
noncomputable def eqT(x y:D):Option Bool:=if x.rV then none else match x.ew with
 |some a=>y.ew.map λb=>Float64.cmp a b==some Ordering.eq
 |none=>IZ (wb x) (wb y)
noncomputable def gE(x y:D):Bool:=
 match x with
 | .int a=>match y with
  | .int b=>decide (a<b)
  |_=>false
 | .str a=>match y with
  | .str b=>decide (a.cps.toList<b.cps.toList)
  |_=>false
 | .obj _ a=>match y with
  | .obj _ b=>decide (a<b)
  |_=>false
 |_=>false
noncomputable def SP(x y:D):Option Bool:=
 match x.gU with
 |some _=>y.gU.map λ_=>gE x y
 |none=>match x.rY with
  |some _=>y.rY.map λ_=>gE x y
  |none=>Df (λa b=>decide (a<b)) x y
noncomputable def YW(x y:D):Option Bool:=if x.ew.isSome then none else(eqT x y).map (!·)
noncomputable def dr(o:CmpOp)(x y:D):Option Bool:=
 match o with
 | .Lt=>SP x y
 | .LtE=>none
 | .Gt=>Df (λa b=>decide (a>b)) x y
 | .GtE=>Df (λa b=>decide (a≥b)) x y
 | .Eq=>eqT x y
 | .NotEq=>YW x y
 | .In=>inD x y
 | .NotIn=>(inD x y).map (!·)
 | .Is=>Rk x y
 | .IsNot=>(Rk x y).map (!·)
noncomputable def Dg(n:Nat)(i:Int):Option Nat:=
 if 0≤i then(if i<n then some i.toNat else none)else none
noncomputable def o9(x y:D):Option D:=
 y.int?.bind λi=>x.arr?.bind λl=>(Dg l.length i).bind (l[·]?)
noncomputable def zD:D→Option (Option Int)
 | .none=>some none
 | .int i=>some (some i)
 |_=>none
noncomputable def slicePlaces(n:Nat)(lo hi st:Option Int):List Nat:=sliceRange (sliceBounds lo hi st n).1 (sliceBounds lo hi st n).2.1 (sliceBounds lo hi st n).2.2
noncomputable def ff{α:Type}(l:List α)(lo hi st:Option Int):List α:=(slicePlaces l.length lo hi st).filterMap (l[·]?)
noncomputable def fg(a lo hi st:D):Option D:=
 match a.gU with
 |some x=>lo.rT.bind λ_=>hi.int?.bind λj=>st.rT.bind λ_=>if x.length≤bW then some (.str (Txt.slice x none (some j)))else none
 |none=>a.i9.bind λl=>(zD lo).bind λlo=>(zD hi).bind λhi=>st.rT.bind λ_=>some (.list (ff l lo hi none))
noncomputable def J7:D→Option D
 | .int _=>some (.ty "int")
 | .bool _=>some (.ty "bool")
 | .list _=>some (.ty "list")
 | .str _=>some (.ty "str")
 | .cx _=>some (.ty "float")
 | .obj _ _=>some (.ty "list")
 |_=>none
noncomputable def bB(a b c:Int):List Int:=(List.range (Builtin.Range.rangeSize a b c).toNat).map λ(i:Nat)=>a+(i:Int)*c
noncomputable def jJ(a b c:Int):Bool:=dW a&&dW b&&dW c&&c != 0&&decide ((bB a b c).length≤bW)
set_option genCtorIdx true in
inductive BI where
 |len|max|abs|range|list|type|int|divmod|str|float|mH|um|uo
noncomputable def arity(f1:D→Option D)(f2:D→D→Option D)(f3:D→D→D→Option D):List D→Option D
 | []=>none
 |a::l=>match l with
  | []=>f1 a
  |b::l=>match l with
   | []=>f2 a b
   |c::l=>match l with
    | []=>f3 a b c
    |_::_=>none
noncomputable def SQ(ds:List D):Option D:=(one? ds).bind λd=>d.i9.map λl=> .int l.length
noncomputable def maxD(ds:List D):Option D:=(GP ds).bind λp=>rU (λa b=>some (.int (if b>a then b else a))) p.1 p.2
noncomputable def SR(ds:List D):Option D:=(one? ds).bind λd=>d.int?.map λa=> .int a.natAbs
noncomputable def GQ(ds:List D):Option D:=(one? ds).bind λx=>x.int?.bind λb=>if dW b then some (.Ff 0 b 1)else none
noncomputable def GR:D→Option D
 | .obj _ m=>some (.list [.int m])
 |_=>none
noncomputable def J8(ds:List D):Option D:=(one? ds).bind GR
noncomputable def J9(ds:List D):Option D:=(one? ds).bind J7
noncomputable def intD(ds:List D):Option D:=(one? ds).bind λd=>d.gU.bind λx=>if x.length≤640 then(PySem.intText? x).map .int else none
noncomputable def Dh(ds:List D):Option D:=(GP ds).bind λp=>p.1.int?.bind λa=>p.2.int?.bind λb=>if b≠0∧Builtin.divisionGoesByPylong a b=false then some (.tup [.int (a.fdiv b),.int (a.fmod b)])else none
noncomputable def SU(ds:List D):Option D:=(one? ds).bind λd=>d.int?.bind λa=>if a.natAbs.log2<1920 then some (.str (Str.ofString (toString a)))else none
noncomputable def bX(dn:Nat→Bool):Nat→Nat→Nat→Nat
 |0,lo,_=>lo
 |n+1,lo,hi=>if lo<hi then if dn ((lo+hi)/2)then bX dn n lo ((lo+hi)/2)else bX dn n ((lo+hi)/2+1) hi else lo
noncomputable def GS(ds:List D):Option D:=(one? ds).bind λd=>match d.gU with
 |some x=>if(reprText x).length≤10000 then(PySem.W.Num.parseText? x).map .cx else none
 |none=>match d.bool? with
   |some b=>some (.cx (Float64.ofInt (if b then 1 else 0)))
   |none=>d.int?.bind λa=>if Over a then none else some (.cx (Float64.ofInt a))
noncomputable def SV(ds:List D):Option D:=(one? ds).bind λd=>d.int?.map λa=> .int (Builtin.Int.intBits a)
noncomputable def ca(d:D):Nat:=if d.int?.isSome then 1 else if d.gU.isSome then 2 else if d.rY.isSome then 3 else 0
noncomputable def fC(right:Bool)(l:List D)(x:D)(i:Nat):Bool:=(l[i]?).all λd=>if right then gE x d else !gE d x
noncomputable def Ka(right:Bool)(lo:Nat)(dl x:D):Option D:=dl.i9.bind λl=>
 if ca x≠0∧l.all (λd=>ca d==ca x)=true∧lo≤l.length then some (.int (bX (fC right l x) (l.length+1) lo l.length))else none
noncomputable def Kb:List D→Option D:=arity (λ_=>none) (Ka false 0) λ_ _ _=>none
noncomputable def Kc:List D→Option D:=arity (λ_=>none) (λ_ _=>none) λl x i=>i.int?.bind λk=>if 0≤k then Ka true k.toNat l x else none
noncomputable def iI:BI→List D→Option D
 | .float=>GS
 | .mH=>SV
 | .um=>Kb
 | .uo=>Kc
 | .int=>intD
 | .len=>SQ
 | .max=>maxD
 | .abs=>SR
 | .range=>GQ
 | .list=>J8
 | .type=>J9
 | .divmod=>Dh
 | .str=>SU
noncomputable def de:D→Option (List D)
 | .list l=>some l
 | .tup l=>some l
 | .Ff a b c=>if jJ a b c then some ((bB a b c).map .int)else none
 |_=>none
noncomputable abbrev ah:=Nat→Option D
noncomputable def upd(σ:ah)(x:Nat)(d:D):ah:=λy=>if y=x then some d else σ y
noncomputable def erase(σ:ah)(xs:List Nat):ah:=λy=>if xs.contains y then none else σ y
inductive gh where
 |one (x:Nat)
 |many (xs:List Nat)
noncomputable def bb:List Nat→List D→ah→Option ah
 | [],[],σ=>some σ
 |x::xs,d::ds,σ=>bb xs ds (upd σ x d)
 |_,_,_=>none
noncomputable def eA:gh→D→ah→Option ah
 | .one x,d,σ=>some (upd σ x d)
 | .many xs,.tup l,σ=>bb xs l σ
 | .many _,_,_=>none
noncomputable def gh.vars:gh→List Nat
 | .one x=> [x]
 | .many xs=>xs
inductive ME where
 |nil|cons (e es:ME)
 |aL (d:D)|tW (n:String)|var (x:Nat)
 |neg (a:ME)|not (a:ME)
 |bin (o:Operator) (a b:ME)
 |cmp (o:CmpOp) (a b:ME)
 |CI (o:BoolOp) (es:ME)
 |oC (t a b:ME)
 |lst (es:ME)|tup (es:ME)
 |item (a i:ME)
 |rZ (a lo hi st:ME)
 |bi (f:BI) (es:ME)
 |call (f:Nat) (es:ME)
 |iter (a:ME)
 |comp (elt:ME) (t:gh) (src ifs rest:ME)
 |gen (t:gh) (src ifs rest:ME)
noncomputable def gi(f:D→Option (List D)):List D→Option (List D)
 | []=>some []
 |d::ds=>(f d).bind λa=>(gi f ds).map λb=>a++b
noncomputable def dM:ME→List Nat
 | .gen t _ _ rest=>t.vars++dM rest
 |_=> []
noncomputable def wc(d:D):Option D:=d.i9.map .lM
noncomputable def isNil:ME→Bool
 | .nil=>true
 |_=>false
noncomputable def Kd:ME→Bool
 | .cons _ es=>isNil es
 |_=>false
noncomputable def D.Ke:D→Bool
 | .lM _=>true
 |_=>false
noncomputable def aV(d:D):Option D:=if d.Ke then none else some d
theorem iJ{d e:D}(h:aV d=some e):d=e∧ ∀l,e≠ .lM l:=by
 refine aX (uk h) λh1 h2=>?_
 obtain rfl:=Option.some.inj h2
 exact⟨rfl,λl he=>h1 (by rw[he];rfl)⟩
structure mI where
 v:ah→Option D
 t:ah→Option Bool
 l:ah→Option (List D)
 it:ah→Option D
 bo:BoolOp→ah→Option D
 ts:BoolOp→ah→Option Bool
 i:ah→Option Bool
 g:(ah→Option (List D))→ah→Option (List D)
noncomputable def mI.val(v:ah→Option D):mI:=
 {v,t:=λσ=>(v σ).bind cD,l:=λ_=>none,it:=λσ=>(v σ).bind aV,bo:=λ_ _=>none,ts:=λ_ _=>none,i:=λ_=>none,g:=λ_ _=>none}
noncomputable def mI.Di(v:ah→Option D)(t:ah→Option Bool):mI:={mI.val v with t}
section
variable(Φ:Nat→List D→Option D)
noncomputable def ar:ME→mI
 | .nil=>{mI.val (λ_=>none)with l:=λ_=>some [],ts:=λo _=>some (o== .And),i:=λ_=>some true,g:=λk σ=>k σ}
 | .cons e es=>{mI.val (λ_=>none)with
   l:=λσ=>((ar e).v σ).bind λd=>((ar es).l σ).map λds=>d::ds
   bo:=λo σ=>if isNil es then(ar e).v σ else((ar e).v σ).bind λd=>(cD d).bind λb=>
    match o,b with
    | .And,false=>some d
    | .Or,true=>some d
    |_,_=>(ar es).bo o σ
   ts:=λo σ=>((ar e).t σ).bind λb=>
    match o,b with
    | .And,false=>some false
    | .Or,true=>some true
    |_,_=>(ar es).ts o σ
   i:=λσ=>((ar e).t σ).bind λb=>if b then(ar es).i σ else some false
   it:=λσ=>if isNil es then(ar e).it σ else none}
 | .aL d=> .val λ_=>some d
 | .tW n=> .val λ_=>some (.ty n)
 | .var x=> .val λσ=>(σ x).bind aV
 | .neg a=> .val λσ=>((ar a).v σ).bind λd=>d.int?.map λi=> .int (-i)
 | .not a=> .Di (λσ=>((ar a).v σ).bind λd=>(cD d).map λb=> .bool (!b)) λσ=>((ar a).t σ).map (!·)
 | .bin o a b=> .val λσ=>((ar a).v σ).bind λx=>((ar b).v σ).bind λy=>bA o x y
 | .cmp o a b=> .Di (λσ=>((ar a).v σ).bind λx=>((ar b).v σ).bind λy=>(dr o x y).map .bool) λσ=>((ar a).v σ).bind λx=>((ar b).v σ).bind λy=>dr o x y
 | .CI o es=> .Di ((ar es).bo o) ((ar es).ts o)
 | .oC t a b=>{mI.Di (λσ=>((ar t).t σ).bind λr=>if r then(ar a).v σ else(ar b).v σ) (λσ=>((ar t).t σ).bind λr=>if r then(ar a).t σ else(ar b).t σ)with
   it:=λσ=>((ar t).t σ).bind λr=>if r then(ar a).it σ else(ar b).it σ}
 | .lst es=> .val λσ=>((ar es).l σ).bind bC
 | .tup es=> .val λσ=>((ar es).l σ).bind λl=>if l.length≤bW then some (.tup l)else none
 | .item a i=> .val λσ=>((ar a).v σ).bind λx=>((ar i).v σ).bind λy=>o9 x y
 | .rZ a lo hi st=> .val λσ=>((ar a).v σ).bind λx=>(if isNil lo then some .none else(ar lo).v σ).bind λl=>(if isNil hi then some .none else(ar hi).v σ).bind λh=>
   (if isNil st then some .none else(ar st).v σ).bind λs=>fg x l h s
 | .bi f es=> .val λσ=>((ar es).l σ).bind λl=>iI f l
 | .call f es=> .val λσ=>(if Kd es then((ar es).it σ).map λd=> [d]else((ar es).l σ).bind λds=>ds.mapM aV).bind λl=>Φ f l
 | .iter a=>{mI.val (λ_=>none)with it:=λσ=>((ar a).v σ).bind wc}
 | .comp elt t src ifs rest=> .val λσ=>((ar src).v σ).bind λd=>(de d).bind λitems=>
   (gi (λd=>(eA t d (erase σ (t.vars++dM rest))).bind λσ1=>((ar ifs).i σ1).bind λok=>
    if ok then(ar rest).g (λσ'=>((ar elt).v σ').map λr=> [r]) σ1 else some []) items).bind bC
 | .gen t src ifs rest=>{mI.val (λ_=>none)with
   g:=(λk σ=>((ar src).v σ).bind λd=>(de d).bind λitems=>gi (λd=>(eA t d σ).bind λσ1=>((ar ifs).i σ1).bind λok=>if ok then(ar rest).g k σ1 else some []) items)}
end
end Mine.Internal
end
section
open PySem PyProof.Rows PySem.Flt
namespace Mine.Internal
noncomputable def ja(Z:Addr→Prop)(h₀ h:Heap)(d:D)(v:Value):Prop:=
 ∀l,d= .list l→ ∃a vs e,v= .ref a∧h₀.get? a=none∧h.get? a=some (seqObj "list" vs e)∧aF (λb=>Z b∧b≠a) h l vs.toList
theorem gone{h:Heap}{a:Addr}(ha:h.objs.size≤a):h.get? a=none:=by
 cases e:h.get? a with
 |none=>rfl
 |some o=>exact absurd (Heap.lt_size e) (Nat.not_lt.mpr ha)
noncomputable def Gives(Z:Addr→Prop)(s:Shared)(r:D)(Q:Value→Shared→Prop):Prop:=
 ∀v h' tk,Ext s.heap h'→aZ Z h' r v→ja Z s.heap h' r v→Q v {s with heap:=h',toks:=tk}
theorem Gives.atom{Z:Addr→Prop}{s:Shared}{r:D}{Q:Value→Shared→Prop}(h:Gives Z s r Q){v:Value}{tk:Nat}(hv: ∀h',aZ Z h' r v)(hl:r.isList=false):Q v {s with toks:=tk}:=
 h v s.heap tk (.refl _) (hv _) λl e=>by subst e;cases hl
theorem Gives.mJ{Z:Addr→Prop}{s:Shared}{l:List D}{vs:List Value}{Q:Value→Shared→Prop}(h:Gives Z s (.list l) Q)(hZ: ∀a,s.heap.objs.size≤a→Z a)(hl:l.length≤bW)(hr:aF Z s.heap l vs):
  Q (.ref s.heap.objs.size) {s with heap:=s.heap.push (seqObj "list" vs.toArray 0)}:=by
 have he:(s.heap.push (seqObj "list" vs.toArray 0)).get? s.heap.objs.size=some (seqObj "list" vs.toArray 0):=Heap.get?_push_size _ rfl
 refine h _ _ s.toks (Ext.push _ _) ⟨_,vs,rfl,hZ _ (Nat.le_refl _),hl,⟨0,he⟩,hr.ext (Ext.push _ _)⟩ λl' e=>?_
 cases e
 refine⟨_,_,_,rfl,gone (Nat.le_refl _),he,?_⟩
 exact hr.change λa o z ho=>⟨Ext.push _ _ _ _ ho,z,Nat.ne_of_lt (Heap.lt_size ho)⟩
theorem Gives.made{Z:Addr→Prop}{s:Shared}{l:List D}{vs:Array Value}{e:Nat}{h':Heap}{D:Addr}{Q:Value→Shared→Prop}(h:Gives Z s (.list l) Q)(hZ: ∀a,s.heap.objs.size≤a→Z a)(hl:l.length≤bW)
  (hx:Ext s.heap h') (hD:s.heap.objs.size≤D) (ho:h'.get? D=some (seqObj "list" vs e)) (hr:aF Z s.heap l vs.toList) (tk:Nat):Q (.ref D) {s with heap:=h',toks:=tk}:=by
 refine h _ _ tk hx ⟨D,vs.toList,rfl,hZ _ hD,hl,⟨e,ho⟩,hr.ext hx⟩ λl' e'=>?_
 cases e'
 exact⟨D,vs,e,rfl,gone hD,ho,hr.change λa o z eu=>⟨hx _ _ eu,z,Nat.ne_of_lt (Nat.lt_of_lt_of_le (Heap.lt_size eu) hD)⟩⟩
section
variable{prog:Program}{w:World}{A:Around}{E:Value→Shared→Prop}{s:Shared}{Z:Addr→Prop}{Q:Value→Shared→Prop}
theorem aG{n:Nat}{h:Heap}{i:Int}{v:Value}(x:aw Z h n (.int i) v): ∃t,v= .int i t:=aw.plain x rfl
theorem fD{h:Heap}{l:List D}{v:Value}(x:aw Z h 1 (.list l) v): ∃a vs,v= .ref a∧l.length≤bW∧h.PlainList a vs.toArray∧aF Z h l vs:=by
 refine cz x λa vs e n i hl r=>?_
 exact⟨a,vs,e,n,i,aF.of_get hl r⟩
theorem bY:bW≤sizeLine:=by rw[sizeLine_eq];decide
theorem zE(vs:List Value): ∀k:Nat,List.foldl (λx y:Array Value=>x++y) #[] (List.replicate k vs.toArray)=(List.replicate k vs).flatten.toArray:=by
 have key: ∀(k:Nat) (acc:List Value),List.foldl (λx y:Array Value=>x++y) acc.toArray (List.replicate k vs.toArray)=(acc++(List.replicate k vs).flatten).toArray:=by
  intro k
  induction k with
  |zero=>intro acc;simp
  |succ k ih=>
   intro acc
   rw[List.replicate_succ,List.foldl_cons]
   have e:acc.toArray++vs.toArray=(acc++vs).toArray:=by simp
   rw[e,ih,List.replicate_succ,List.flatten_cons,List.append_assoc]
 intro k
 have:=key k []
 simpa using this
theorem sd{h:Heap}{l:List D}{vs:List Value}(r:aF Z h l vs): ∀k:Nat,aF Z h (List.replicate k l).flatten (List.replicate k vs).flatten
 |0=>rfl
 |k+1=>by rw[List.replicate_succ,List.replicate_succ,List.flatten_cons,List.flatten_cons];exact r.append (sd r k)
theorem pd{h:Heap}: ∀{vs:List Value} {ns:List Int},IntsAre vs ns→aF Z h (ns.map .int) vs
 |_,_,.nil=>rfl
 |_,_,.cons n t r=>⟨_,_,rfl,⟨t,rfl⟩,pd r⟩
theorem add_lists{a b:Addr}{l m:List D}{vs ws:List Value}(i1:s.heap.IsList a vs.toArray)(i2:s.heap.IsList b ws.toArray)(r1:aF Z s.heap l vs)(r2:aF Z s.heap m ws)(hlen:(l++m).length≤bW)
  (hZ: ∀a,s.heap.objs.size≤a→Z a) (hQ:Gives Z s (.list (l++m)) Q):wpAny (model prog w) A (binaryOp .Add (.ref a) (.ref b)) Q E s:=by
 have jC:vs.length+ws.length≤sizeLine:=by
  rw[r1.length,r2.length];have:=bY;rw[List.length_append]at hlen;exact Nat.le_trans ‹_› ‹_›
 obtain⟨⟨cls,dd,data,sl⟩,ho,hc,n,hd⟩:=id i1
 obtain⟨⟨YX,SJ,data2,SK⟩,tV,Xk,n2,Fc⟩:=id i2
 simp only at hc hd Xk Fc
 subst hc hd Xk Fc
 refine concat_meets ⟨_,ho,rfl⟩ ⟨_,tV,rfl⟩ noFill_list_add seq_list_add F.slot_list_add F.entry_list_add (F.args_list_add_2 _ _) (list_addW a b vs.toArray ws.toArray n n2 dd SJ sl SK (by simpa using jC)) ⟨ho,tV,?_⟩
 have e:vs.toArray++ws.toArray=(vs++ws).toArray:=by simp
 rw[e]
 exact hQ.mJ hZ hlen (r1.append r2)
theorem fE{f:Int→Int→Option D}{x y r:D}(h:rU f x y=some r): ∃a b,x= .int a∧y= .int b∧f a b=some r:=by
 refine ai (aK h) λa h1 h=>?_
 refine ai (aK h) λb h2 h=>?_
 exact⟨a,b,ba h1,ba h2,h⟩
theorem dE{l:List D}{r:D}(h:bC l=some r):l.length≤bW∧r= .list l:=by
 unfold bC at h
 split at h
 ·rename_i hl;cases h;exact⟨hl,rfl⟩
 ·cases h
theorem zF{h:Heap}{x:D}{l:List D}{v:Value}(e:x.seq?=some l)(hx:aw Z h 1 x v): ∃a vs,v= .ref a∧h.IsList a vs.toArray∧aF Z h l vs:=by
 cases x <;> first|exact gV e|skip
 ·cases e
  refine ft (fD hx) λa vs SW _ i r=>?_
  subst SW
  exact⟨a,vs,rfl,i.isList,r⟩
 ·cases e
  refine cz (aw.plain hx rfl) λa vs SX _ _ i r=>?_
  subst SX
  exact⟨a,vs,rfl,i,pd r⟩
 ·cases e
  obtain⟨rfl,_,t,i⟩:=aw.plain hx rfl
  exact⟨_,[.int _ t],rfl,i.isList,_,_,rfl,⟨t,rfl⟩,rfl⟩
theorem fV{i:Int}(h:dc i=true):Builtin.Int.intBits i≤64:=Nat.le_of_ble_eq_true h
theorem zG{a b:Str}{t u:Tok}(h:a.length+b.length≤bW)(hQ: ∀k tk,Q (.str (a++b) k) {s with toks:=tk}):wpAny (model prog w) A (binaryOp .Add (.str a t) (.str b u)) Q E s:=by
 have hz:=bY
 exact add_str (λk tk=>hQ k tk) (by exact Nat.le_trans ‹_› ‹_›)
theorem mul_list{l:List D}{n:Int}{v u:Value}(hs:dW n=true)(hlen:(List.replicate n.toNat l).flatten.length≤bW)(hx:aw Z s.heap 1 (.list l) v)(hy:aw Z s.heap 1 (.int n) u)(hZ: ∀a,s.heap.objs.size≤a→Z a)
  (hQ:Gives Z s (.list (List.replicate n.toNat l).flatten) Q):wpAny (model prog w) A (binaryOp .Mult v u) Q E s:=by
 refine ft (fD hx) λa vs SY n1 i1 r1=>?_
 subst SY
 refine au (aG hy) λu SZ=>?_
 subst SZ
 obtain⟨⟨cls,dd,data,sl⟩,ho,hc,ep,hd⟩:=i1.isList
 simp only at hc hd
 subst hc hd
 have ou:=iH hs
 have I0:vs.length=l.length:=r1.length
 have Kf:l.length*n.toNat≤bW:=by simpa [List.length_flatten,Nat.mul_comm]using hlen
 have hz:=bY
 rw[sizeLine_eq]at hz
 have jC:vs.toArray.size*n.toNat≤bW:=by rw[List.size_toArray,I0];exact Kf
 refine wpAny_binaryOp_repeat_ref (T:= "list") (U:= "int") (by decide) ⟨_,ho,rfl⟩ (λs'=>typeIs_int s' n u) noFill_list_mul F.fills_int_mul F.slot_int_rmul repeat_list F.slot_int_index.lookup
  (call_meets F.slot_int_rmul (typeIs_int s n u) F.entry_int_rmul (F.args_int_rmul_2 _ _) (lm_int_rmul_list_any n u a vs.toArray ep dd sl)
   ⟨ho,rfl,⟨_,ho,rfl⟩,call_meets F.slot_list_mul ⟨_,ho,rfl⟩ F.entry_list_mul (F.args_list_mul_2 _ _)
    (lm_list_mul_any a vs.toArray ep dd sl n u (by simp[Builtin.List.listFitsIndex];exact⟨Int.le_trans (by decide) ou.1,Int.lt_of_le_of_lt ou.2 (by decide)⟩) (Nat.not_lt.mpr (Nat.le_trans jC (by decide))) (by simp only[Builtin.List.listTooLong,sizeLine];simp only[List.size_toArray]at jC ⊢;simp;exact Nat.le_trans ‹_› ‹_›)) ⟨ho,?_⟩⟩)
 by_cases he:vs.toArray.isEmpty=true
 ·have hv:vs= []:=by simpa using he
  subst hv
  have Rj:l= []:=List.eq_nil_of_length_eq_zero (by simpa using I0.symm)
  subst Rj
  simp only[he,if_true,List.replicate_zero,List.foldl_nil]
  have e0:(List.replicate n.toNat ([]:List D)).flatten= []:=by simp
  rw[e0]at hQ hlen
  exact hQ.mJ (vs:= []) hZ (by simp) rfl
 ·rw[if_neg he,zE]
  exact hQ.mJ hZ hlen (sd r1 _)
theorem zH{o:Operator}{x y r:D}{vx vy:Value}(hr:bA o x y=some r)(hx:aw Z s.heap 1 x vx)(hy:aw Z s.heap 1 y vy)(hZ: ∀a,s.heap.objs.size≤a→Z a)(hh:A.handled=none)(hQ:Gives Z s r Q):
  wpAny (model prog w) A (binaryOp o vx vy) Q E s:=by
 cases o with
 |Sub=>
  replace hr:GL x y=some r:=hr
  unfold GL at hr
  cases jG:x.ew with
  |some a=>
   replace hr:=jG▸hr
   rw[cC jG]at hx
   refine au (aw.plain hx rfl) λt S0=>?_
   subst S0
   cases si:y.ew with
   |some b=>
    replace hr:=si▸hr
    obtain rfl:=Option.some.inj hr
    rw[cC si]at hy
    refine au (aw.plain hy rfl) λu S3=>?_
    subst S3
    exact AutoFloatOps.sub_0 (hQ.atom (λ_=>⟨_,rfl⟩) rfl)
   |none=>
    replace hr:=si▸hr
    refine ai (aK hr) λn hn h1=>?_
    refine aX (uk h1) λho h1=>?_
    obtain rfl:=Option.some.inj h1
    rw[ba hn]at hy
    refine au (aG hy) λu S4=>?_
    subst S4
    exact AutoFloatOps.sub_fi_1 (fin_of_fits ho) (hQ.atom (λ_=>⟨_,rfl⟩) rfl)
  |none=>
   replace hr:=jG▸hr
   refine b8 (fE hr) λa b S5 S6 h1=>?_
   subst S5
   subst S6
   refine au (aG hx) λt S7=>?_
   subst S7
   refine au (aG hy) λu S8=>?_
   subst S8
   obtain rfl:=Option.some.inj h1
   exact sub_int (hQ.atom (λ_=>⟨_,rfl⟩) rfl)
 |Mod=>
  refine b8 (fE hr) λa b S9 Tc h1=>?_
  subst S9
  subst Tc
  refine au (aG hx) λt Td=>?_
  subst Td
  refine au (aG hy) λu Te=>?_
  subst Te
  refine aX (uk h1) λhb h1=>?_
  obtain rfl:=Option.some.inj h1
  exact mod_int hb (hQ.atom (λ_=>⟨_,rfl⟩) rfl)
 |FloorDiv=>
  refine b8 (fE hr) λa b Tf Tg h1=>?_
  subst Tf
  subst Tg
  refine au (aG hx) λt Th=>?_
  subst Th
  refine au (aG hy) λu Ti=>?_
  subst Ti
  refine aX (uk h1) λhb h1=>?_
  refine aX (eM h1) λhs h1=>?_
  obtain rfl:=Option.some.inj h1
  exact floordiv_int hb (hQ.atom (λ_=>⟨_,rfl⟩) rfl) (.inl (PyProof.noPylong_small hs))
 |Div=>
  replace hr:GO x y=some r:=hr
  unfold GO at hr
  cases jG:x.ew with
  |some a=>
   replace hr:=jG▸hr
   rw[cC jG]at hx
   refine au (aw.plain hx rfl) λt Tj=>?_
   subst Tj
   cases si:y.ew with
   |some b=>
    replace hr:=si▸hr
    refine aX (uk hr) λh0 h1=>?_
    obtain rfl:=Option.some.inj h1
    rw[cC si]at hy
    refine au (aw.plain hy rfl) λu Tl=>?_
    subst Tl
    exact AutoFloatOps.truediv_1 h0 (hQ.atom (λ_=>⟨_,rfl⟩) rfl)
   |none=>
    replace hr:=si▸hr
    refine ai (aK hr) λn hn h1=>?_
    refine aX (uk h1) λh0 h1=>?_
    refine aX (uk h1) λho h1=>?_
    obtain rfl:=Option.some.inj h1
    rw[ba hn]at hy
    refine au (aG hy) λu Tn=>?_
    subst Tn
    exact AutoFloatOps.truediv_fi_2 (fin_of_fits ho) (λh=>h0 ((isZero_ofInt n).mp h)) (hQ.atom (λ_=>⟨_,rfl⟩) rfl)
  |none=>
   replace hr:=jG▸hr
   refine b8 (fE hr) λa b To Tp h1=>?_
   subst To
   subst Tp
   refine au (aG hx) λt Tq=>?_
   subst Tq
   refine au (aG hy) λu Tr=>?_
   subst Tr
   refine aX (uk h1) λhb h1=>?_
   refine aX (uk h1) λhi h1=>?_
   obtain rfl:=Option.some.inj h1
   exact div_ii hh (λh=>absurd h hb) (λ_ h=>absurd h hi) λ_ _=>hQ.atom (λ_=>⟨_,rfl⟩) rfl
 |Pow=>
  refine b8 (fE hr) λa b Ts Tt h1=>?_
  subst Ts
  subst Tt
  refine au (aG hx) λt Tu=>?_
  subst Tu
  refine au (aG hy) λu Tv=>?_
  subst Tv
  refine aX (eM h1) λhb h1=>?_
  obtain rfl:=Option.some.inj h1
  exact pow_int hb.1 hb.2 (hQ.atom (λ_=>⟨_,rfl⟩) rfl)
 |Add=>
  replace hr:GK x y=some r:=hr
  unfold GK at hr
  cases jG:x.int? with
  |some a=>
   replace hr:=jG▸hr
   obtain rfl:=(ba jG)
   refine au (aG hx) λt Tw=>?_
   subst Tw
   cases si:y.ew with
   |some b=>
    replace hr:=si▸hr
    refine aX (uk hr) λho h1=>?_
    obtain rfl:=Option.some.inj h1
    rw[cC si]at hy
    refine au (aw.plain hy rfl) λu Tx=>?_
    subst Tx
    exact AutoFloatOps.add_if_1 (fin_of_fits ho) (hQ.atom (λ_=>⟨_,rfl⟩) rfl)
   |none=>
   replace hr:=si▸hr
   refine ai (omap hr) λb h2 Tz=>?_
   subst Tz
   obtain rfl:=(ba h2)
   refine au (aG hy) λu TA=>?_
   subst TA
   exact add_int (hQ.atom (λ_=>⟨_,rfl⟩) rfl)
  |none=>
   replace hr:=jG▸hr
   cases rE:x.gU with
   |some a=>
    replace hr:=rE▸hr
    refine ai (aK hr) λb h2 h1=>?_
    refine aX (eM h1) λhl h1=>?_
    obtain rfl:=Option.some.inj h1
    rw[cj rE]at hx
    rw[cj h2]at hy
    refine au (aw.plain hx rfl) λt TB=>?_
    subst TB
    refine au (aw.plain hy rfl) λu TC=>?_
    subst TC
    exact zG hl λk tk=>hQ.atom (λ_=>⟨_,rfl⟩) rfl
   |none=>
   replace hr:=rE▸hr
   cases TF:x.ew with
   |some a=>
    replace hr:=TF▸hr
    refine ai (omap hr) λb h2 TG=>?_
    subst TG
    rw[cC TF]at hx
    rw[cC h2]at hy
    refine au (aw.plain hx rfl) λt TH=>?_
    subst TH
    refine au (aw.plain hy rfl) λu TI=>?_
    subst TI
    exact AutoFloatOps.add_0 (hQ.atom (λ_=>⟨_,rfl⟩) rfl)
   |none=>
   replace hr:=TF▸hr
   refine ai (aK hr) λl h1 hr=>?_
   refine ai (aK hr) λm h2 hr=>?_
   refine aX (dE hr) λhlen TJ=>?_
   subst TJ
   refine b8 (zF h1 hx) λa vs TK i1 r1=>?_
   subst TK
   refine b8 (zF h2 hy) λb ws TL i2 r2=>?_
   subst TL
   exact add_lists i1 i2 r1 r2 hlen hZ hQ
 |Mult=>
  replace hr:GN x y=some r:=hr
  unfold GN at hr
  cases si:y.ew with
  |some b=>
   replace hr:=si▸hr
   rw[cC si]at hy
   refine au (aw.plain hy rfl) λu TM=>?_
   subst TM
   refine ai (omap hr) λa ha TN=>?_
   subst TN
   rw[cC ha]at hx
   refine au (aw.plain hx rfl) λt TO=>?_
   subst TO
   exact AutoFloatOps.mul_0 (hQ.atom (λ_=>⟨_,rfl⟩) rfl)
  |none=>
  replace hr:=si▸hr
  refine ai (aK hr) λn hn h1=>?_
  obtain rfl:=(ba hn)
  cases jG:x.int? with
  |some a=>
   replace h1:=jG▸h1
   obtain rfl:=(ba jG)
   refine aX (eM h1) λhs h1=>?_
   refine au (aG hx) λt TP=>?_
   subst TP
   refine au (aG hy) λu TQ=>?_
   subst TQ
   obtain rfl:=Option.some.inj h1
   rcases Bool.or_eq_true_iff.mp hs with hs|hs
   ·exact mul_int (hQ.atom (λ_=>⟨_,rfl⟩) rfl) (IntMulOk.of_left (fV hs))
   ·exact mul_int (hQ.atom (λ_=>⟨_,rfl⟩) rfl) (IntMulOk.of_right (fV hs))
  |none=>
   replace h1:=jG▸h1
   refine ai (aK h1) λl hl h1=>?_
   obtain rfl:=(ef hl)
   refine aX (eM h1) λhs h1=>?_
   refine aX (dE h1) λhlen TR=>?_
   subst TR
   exact mul_list hs hlen hx hy hZ hQ
 |_=>exact gV hr
end
end Mine.Internal
end
section
open PySem PyProof.Rows
namespace Mine.Internal
theorem iK{h:Heap}{a:Addr}{vs ws:List Value}(x:h.PlainList a vs.toArray)(y:h.PlainList a ws.toArray):vs=ws:=by
 obtain⟨n,x⟩:=x
 obtain⟨m,y⟩:=y
 rw[x]at y
 injection y with y
 have y':vs=ws∧n=m:=by simpa using y
 exact y'.1
theorem pe{h:Heap}{a:Addr}{vs ws:List Value}(x:h.IsTuple a vs.toArray)(y:h.IsTuple a ws.toArray):vs=ws:=by
 obtain⟨o,ho,hc,n,hd⟩:=x
 obtain⟨o',eu,Fg,n',fo⟩:=y
 rw[ho]at eu
 obtain rfl:=Option.some.inj eu
 rw[hd]at fo;injection fo with e1 _
 simpa using congrArg Array.toList e1
section
variable{Z Z':Addr→Prop}{h:Heap}
theorem mK{f:D→D→Option Bool}{a:D}{l m:List D}{b:Bool}(h:eP f (a::l) m=some b): ∃c m' x y,m=c::m'∧f a c=some x∧eP f l m'=some y∧b=(x&&y):=by
 cases m with
 |nil=>cases h
 |cons c m=>
  refine ai (aK h) λx hx h=>?_
  refine ai (omap h) λy hy Kg=>?_
  subst Kg
  exact⟨c,m,x,y,rfl,hx,hy,rfl⟩
theorem pf{f:D→D→Option Bool}{m:List D}{b:Bool}(h:eP f [] m=some b):m= []∧b=true:=by
 cases m with
 |nil=>cases h;exact⟨rfl,rfl⟩
 |cons _ _=>cases h
theorem uq{f:D→D→Option Bool}(hf: ∀d e v b,f d e=some b→aZ Z h d v→aZ Z' h e v→b=true){l:List D}: ∀{m:List D} {vs:List Value} {b:Bool},eP f l m=some b→aF Z h l vs→aF Z' h m vs→b=true:=by
 induction l with
 |nil=>exact λe _ _=>(pf e).2
 |cons a l ih=>
  intro m vs b e r1 r2
  refine CT (mK e) λc m x y Kh hx hy Ki=>?_
  subst Kh
  subst Ki
  refine b8 r1 λv ws Kj r rs=>?_
  subst Kj
  refine b8 r2 λv' YY e2 r' om=>?_
  cases e2
  rw[hf _ _ _ _ hx r r',ih hy rs om];rfl
theorem kk{f:Option (D→D→Option Bool)}{x:D}{m:List D}{b:Bool}(h:IY f x (.list m)=some b): ∃g l,f=some g∧x= .list l∧(l.length=m.length→eP g l m=some b)∧(l.length≠m.length→b=false):=by
 refine ai (aK h) λg hg h2=>?_
 refine ai (aK h2) λl hl h3=>?_
 exact⟨g,l,hg,ef hl,λe=>by rw[if_pos e]at h3;exact h3,λe=>by rw[if_neg e]at h3;exact(Option.some.inj h3).symm⟩
theorem Dj{h h':Heap}{p q:Int}{v:Value}(x:aZ Z h (.int p) v)(y:aZ Z' h' (.int q) v):p=q:=by
 obtain⟨t,rfl⟩:=x
 obtain⟨u,y⟩:=y
 injection y
theorem Dk{h h':Heap}{p q:Str}{v:Value}(x:aZ Z h (.str p) v)(y:aZ Z' h' (.str q) v):p=q:=by
 obtain⟨t,rfl⟩:=x
 obtain⟨u,y⟩:=y
 injection y
theorem zI{h h':Heap}{p q:Bool}{v:Value}(x:aZ Z h (.bool p) v)(y:aZ Z' h' (.bool q) v):p=q:=by
 subst x
 injection (show Value.bool p= .bool q from y)
theorem zJ{l m:List D}{v:Value}(x:aZ Z h (.list l) v)(y:aZ Z' h (.list m) v): ∃vs,aF Z h l vs∧aF Z' h m vs:=by
 refine cz x λa vs Kk _ _ i1 r1=>?_
 subst Kk
 refine cz y λc ws e _ _ i2 r2=>?_
 cases e
 have:=iK i1 i2
 subst this
 exact⟨_,r1,r2⟩
theorem sj{f:Option (D→D→Option Bool)}(hf: ∀g,f=some g→ ∀d e v b,g d e=some b→aZ Z h d v→aZ Z' h e v→b=true){d e:D}{v:Value}{b:Bool}(q:IY f d e=some b)(x:aZ Z h d v)(y:aZ Z' h e v):b=true:=by
 cases e <;> first|exact gV q|skip
 ·refine ai (omap q) λp hp Kl=>?_
  subst Kl
  cases iG hp
  rw[zI x y,beq_self_eq_true]
 ·refine ai (omap q) λp hp Km=>?_
  subst Km
  cases ba hp
  rw[Dj x y,beq_self_eq_true]
 ·refine ai (omap q) λp hp Kn=>?_
  subst Kn
  cases cj hp
  rw[Dk x y,beq_self_eq_true]
 ·refine ft (kk q) λg l hg Ko h1 _=>?_
  subst Ko
  refine ai (zJ x y) λvs r1 r2=>?_
  exact uq (hf g hg) (h1 (r1.length.symm.trans r2.length)) r1 r2
theorem sm{n:Nat}: ∀{d e:D} {v:Value} {b:Bool},xE n d e=some b→aZ Z h d v→aZ Z' h e v→b=true:=by
 induction n with
 |zero=>exact λq x y=>sj (λg hg=>gV hg) q x y
 |succ n ih=>exact λq x y=>sj (λg hg d e v b=>by cases hg;exact ih) q x y
end
theorem xF{f:D→D→Option Bool}{l:List D}: ∀{m:List D} {b:Bool},eP f l m=some b→l.length=m.length∧ ∃e:Nat→Bool,(∀i (h1:i<l.length) (h2:i<m.length),f l[i] m[i]=some (e i))∧b=(List.range l.length).all e:=by
 induction l with
 |nil=>
  intro m b h
  refine aX (pf h) λKp Kq=>?_
  subst Kp
  subst Kq
  exact⟨rfl,λ_=>true,λi h1=>absurd h1 (Nat.not_lt_zero _),rfl⟩
 |cons a l ih=>
  intro m b h
  refine CT (mK h) λc m x y Kr hx hy Ks=>?_
  subst Kr
  subst Ks
  obtain⟨h1,e,h2,rfl⟩:=ih hy
  refine⟨congrArg (· +1) h1,λi=>Nat.casesOn i x e,λi hi ue=>?_,?_⟩
  ·cases i with
   |zero=>exact hx
   |succ i=>exact h2 i (Nat.lt_of_succ_lt_succ hi) (Nat.lt_of_succ_lt_succ ue)
  ·rw[List.length_cons,List.range_succ_eq_map,List.all_cons,List.all_map];rfl
section
open PySem.SeqAt
variable{A:Around}{s:Shared}
theorem zK{f:D→D→Option Bool}{l m:List D}{vs ws:List Value}{e:Nat→Bool}(ih: ∀{d e:D} {v u:Value} {b:Bool},f d e=some b→aZ (λ_=>True) s.heap d v→aZ (λ_=>True) s.heap e u→EqAt A.in1 s v u b)
  (r1:aF (λ_=>True) s.heap l vs) (r2:aF (λ_=>True) s.heap m ws) (he: ∀i (h1:i<l.length) (h2:i<m.length),f l[i] m[i]=some (e i)) (j:Nat) (h1:j<vs.toArray.size) (h2:j<ws.toArray.size):EqAt A.in1 s vs.toArray[j] ws.toArray[j] (e j):=by
 have xu:j<vs.length:=h1
 have xv:j<ws.length:=h2
 refine ai (r1.get (List.getElem?_eq_getElem (r1.length▸xu))) λv' Rl rv=>?_
 refine ai (r2.get (List.getElem?_eq_getElem (r2.length▸xv))) λw' Rm YZ=>?_
 rw[List.getElem?_eq_getElem xu]at Rl
 rw[List.getElem?_eq_getElem xv]at Rm
 obtain rfl:=Option.some.inj Rl
 obtain rfl:=Option.some.inj Rm
 exact ih (he j _ _) rv YZ
theorem wd{f:Option (D→D→Option Bool)}{d e:D}{v u:Value}{b:Bool}(ih: ∀g,f=some g→ ∀{d e:D} {v u:Value} {b:Bool},g d e=some b→aZ (λ_=>True) s.heap d v→aZ (λ_=>True) s.heap e u→EqAt A.in1 s v u b)
  (h:IY f d e=some b) (ht:d.rV=false) (x:aZ (λ_=>True) s.heap d v) (y:aZ (λ_=>True) s.heap e u) (hu:A.units<cLine):RcAt A s v u b∧RcNeAt A s v u (!b):=by
 cases e <;> first|exact gV h|skip
 ·refine ai (omap h) λ_ h1 Kt=>?_
  subst Kt
  cases iG h1
  cases x
  cases y
  exact⟨RcAt.bool_bool _ _,RcNeAt.bool_bool _ _⟩
 ·refine ai (omap h) λ_ h1 Ku=>?_
  subst Ku
  cases ba h1
  refine au x λt Kv=>?_
  subst Kv
  refine au y λt' Kw=>?_
  subst Kw
  exact⟨RcAt.int_int _ _ _ _,RcNeAt.int_int _ _ _ _⟩
 ·refine ai (omap h) λ_ h1 Kx=>?_
  subst Kx
  cases cj h1
  refine au x λt Ky=>?_
  subst Ky
  refine au y λt' Kz=>?_
  subst Kz
  exact⟨RcAt.str_str _ _ _ _,RcNeAt.str_str _ _ _ _⟩
 ·rename_i m
  refine ft (kk h) λg l hg KA h1 h2=>?_
  subst KA
  refine cz x λa vs KB _ _ i1 r1=>?_
  subst KB
  refine cz y λc ws KC _ _ i2 r2=>?_
  subst KC
  have jC:vs.toArray.size=l.length:=r1.length
  have hsz2:ws.toArray.size=m.length:=r2.length
  by_cases hl:l.length=m.length
  ·obtain⟨_,e,he,rfl⟩:=xF (h1 hl)
   have hs:=jC.trans (hl.trans hsz2.symm)
   have k1:=RcAt.lists (A:=A) i1.isList i2.isList hs hu (zK (ih g hg) r1 r2 he)
   have k2:=RcNeAt.lists (A:=A) i1.isList i2.isList hs hu (zK (ih g hg) r1 r2 he)
   rw[jC]at k1 k2;exact⟨k1,k2⟩
  ·rw[h2 hl]
   have fB:(vs.toArray.size != ws.toArray.size)=true:=by rw[jC,hsz2];exact bne_iff_ne.mpr hl
   exact⟨RcAt.lists_lengths i1.isList i2.isList fB hu,RcNeAt.lists_lengths i1.isList i2.isList fB hu⟩
theorem Dl{n:Nat}: ∀{A:Around} {d e:D} {v u:Value} {b:Bool},xE n d e=some b→aZ (λ_=>True) s.heap d v→aZ (λ_=>True) s.heap e u→A.units+n<cLine→EqAt A s v u b:=by
 have key: ∀{f:Option (D→D→Option Bool)} {A:Around} {d e:D} {v u:Value} {b:Bool},(∀g,f=some g→ ∀{d e:D} {v u:Value} {b:Bool},g d e=some b→aZ (λ_=>True) s.heap d v→aZ (λ_=>True) s.heap e u→EqAt A.in1 s v u b)→
   (∀a c,d.rV=false→v= .ref a→u= .ref c→a=c→b=true)→IY f d e=some b→aZ (λ_=>True) s.heap d v→aZ (λ_=>True) s.heap e u→A.units<cLine→EqAt A s v u b:=by
  intro f A d e v u b ih hs h x y hu
  have refs: ∀a c,d.rV=false→v= .ref a→u= .ref c→EqAt A s v u b:=λa c ht e1 e2=>by
   have rc:=wd (A:=A) ih h ht x y hu
   by_cases TS:a=c
   ·rw[hs a c ht e1 e2 TS,e1,e2,TS];exact EqAt.same _
   ·subst e1 e2;exact EqAt.of_refs TS rc.1
  cases e <;> first|exact gV h|skip
  ·refine ai (omap h) λ_ h1 KD=>?_
   subst KD
   cases iG h1
   cases x
   cases y
   exact EqAt.bool_bool _ _
  ·refine ai (omap h) λ_ h1 KG=>?_
   subst KG
   cases ba h1
   refine au x λt KH=>?_
   subst KH
   refine au y λt' KI=>?_
   subst KI
   exact EqAt.int_int _ _ _ _
  ·refine ai (omap h) λ_ h1 KJ=>?_
   subst KJ
   cases cj h1
   refine au x λt KL=>?_
   subst KL
   refine au y λt' KM=>?_
   subst KM
   exact EqAt.str_str _ _ _ _
  ·refine b8 (kk h) λg l hg KN _=>?_
   subst KN
   refine da (id x) λa vs e1 _=>?_
   refine da (id y) λc ws e2 _=>?_
   exact refs a c rfl e1 e2
 induction n with
 |zero=>exact λh x y hu=>key (λg hg=>gV hg) (λa c _ e1 e2 e3=>sm (Z:=λ_=>True) (Z':=λ_=>True) (n:=0) h x ((e2.trans (e3▸e1.symm))▸y)) h x y hu
 |succ n ih=>
  intro A d e v u b h x y hu
  have TT:A.in1.units+n<cLine:=Si hu
  refine key (f:=some (xE n)) (λg hg {d e v u b}=>?_) (λa c _ e1 e2 e3=>sm (Z:=λ_=>True) (Z':=λ_=>True) (n:=n+1) h x ((e2.trans (e3▸e1.symm))▸y)) h x y (Nat.lt_of_le_of_lt (Nat.le_add_right _ _) hu)
  cases hg
  exact λh x y=>ih h x y TT
theorem KO{d e:D}{v u:Value}{b:Bool}{n:Nat}(h:xE (n+1) d e=some b)(ht:d.rV=false)(x:aZ (λ_=>True) s.heap d v)(y:aZ (λ_=>True) s.heap e u)(hu:A.units+(n+1)<cLine):
  RcAt A s v u b∧RcNeAt A s v u (!b):=by
 have TT:A.in1.units+n<cLine:=Si hu
 refine wd (f:=some (xE n)) (λg hg {d e v u b}=>?_) h ht x y (Nat.lt_of_le_of_lt (Nat.le_add_right _ _) hu)
 obtain rfl:=Option.some.inj hg
 exact λh x y=>Dl h x y TT
end
end Mine.Internal
end
section
open PySem PyProof.Rows
namespace Mine.Internal
section
variable{prog:Program}{w:World}{A:Around}{E:Value→Shared→Prop}{s:Shared}{Z:Addr→Prop}{Q:Value→Shared→Prop}
theorem zL(p q:String):(Value.type p==Value.type q)=(p==q):=by
 by_cases h:p=q
 ·subst h;rw[beq_self_eq_true,beq_self_eq_true]
 ·rw[beq_eq_false_iff_ne.mpr h,beq_eq_false_iff_ne.mpr λe=>h (by injection e)]
theorem so{Z:Addr→Prop}{h:Heap}{d:D}{v:Value}(x:aZ Z h d v):aZ Z h (dq d) v:=by
 cases d <;> first|exact x|skip
 obtain⟨e,z,t,i⟩:=x
 exact⟨_,[.int _ t],e,z,Nat.le_of_ble_eq_true rfl,i,_,_,rfl,⟨t,rfl⟩,rfl⟩
theorem xH{Z:Addr→Prop}{h:Heap}{l:List D}: ∀{vs:List Value},aF Z h l vs→aF Z h (l.map dq) vs:=by
 induction l with
 |nil=>exact λx=>x
 |cons d l ih=>exact λ⟨v,ws,e,r,rs⟩=>⟨v,ws,e,so r,ih rs⟩
theorem pg{Z:Addr→Prop}{h:Heap}{d:D}{v:Value}(x:aZ Z h d v):aZ Z h (wb d) v:=by
 cases d <;> first|exact x|exact so x|skip
 refine cz x λa vs e z n i r=>?_
 exact⟨a,vs,e,z,by rw[List.length_map];exact n,i,xH r⟩
theorem zM{d:D}:(wb d).rV=d.rV:=by cases d <;> rfl
theorem D.l8{d:D}{a:Addr}(h:d.rY=some a): ∃m,d= .obj a m:=by
 cases d <;> first|exact gV h|exact⟨_,congrArg (D.obj · _) (Option.some.inj h)⟩
theorem D.xI{d:D}{u:Unit}(h:d.zC=some u){Z:Addr→Prop}{hp:Heap}{v:Value}(x:aZ Z hp d v): ∃a,v= .ref a:=by
 cases d <;> first|exact gV h|(obtain⟨a,_,e,_⟩:=x;exact⟨a,e⟩)
theorem qp{o:CmpOp}{x y:D}{vx vy:Value}{b:Bool}(hr:dr o x y=some b)(hx:aZ (λ_=>True) s.heap x vx)(hy:aZ (λ_=>True) s.heap y vy)(hu:A.units+6<cLine)(hQ:Q (.bool b) s):
  wpAny (model prog w) A (compareOp o vx vy) Q E s:=by
 have it: ∀{f:Int→Int→Bool},Df f x y=some b→ ∃a c t u,vx= .int a t∧vy= .int c u∧b=f a c:=λ{f} h=>by
  refine ai (aK h) λa h1 h=>?_
  refine ai (omap h) λc h2 KP=>?_
  subst KP
  obtain rfl:=(ba h1)
  obtain rfl:=(ba h2)
  refine au hx λt KQ=>?_
  subst KQ
  refine au hy λu KR=>?_
  subst KR
  exact⟨_,_,_,_,rfl,rfl,rfl⟩
 have eq: ∀{c:Bool},eqT x y=some c→x.ew=none→PySem.SeqAt.RcAt A s vx vy c∧PySem.SeqAt.RcNeAt A s vx vy (!c):=λ{c} h hf=>by
  refine aX (uk h) λht h=>?_
  replace h:=hf▸h
  exact KO (A:=A) (n:=4) h (by rw[zM];exact Bool.eq_false_iff.mpr ht) (pg hx) (pg hy) (Nat.lt_of_succ_lt hu)
 have mem: ∀{c:Bool},inD x y=some c→ ∃a b t u,vx= .str a t∧vy= .str b u∧c=Fh a b:=λ{c} h=>by
  refine ai (aK h) λb si h=>?_
  refine ai (omap h) λa ha KS=>?_
  subst KS
  obtain rfl:=(cj si)
  obtain rfl:=(cj ha)
  refine au hx λt KU=>?_
  subst KU
  refine au hy λu KV=>?_
  subst KV
  exact⟨_,_,_,_,rfl,rfl,rfl⟩
 have same: ∀{c:Bool},Rk x y=some c→ ∀(prog:Program) (w:World) (E:Value→Shared→Prop) (R:Bool→Shared→Prop),R c s→wpAny (model prog w) A (isSame vx vy) R E s:=λ{c} h prog w E R hR=>by
  unfold Rk at h
  cases hn:y.rT with
  |some _=>
   replace h:=hn▸h
   obtain rfl:=(gZ hn)
   subst hy
   cases hm:x.rT with
   |some _=>rw[hm]at h;cases h;cases gZ hm;cases hx;exact wpAny_isSame_plain rfl hR
   |none=>
    replace h:=hm▸h
    refine ai (omap h) λ_ h1 KW=>?_
    subst KW
    refine au (D.xI h1 hx) λa KX=>?_
    subst KX
    exact wpAny_isSame_plain rfl hR
  |none=>
   replace h:=hn▸h
   cases ho:x.rY with
   |some a=>
    replace h:=ho▸h
    refine ai (omap h) λb hb KY=>?_
    subst KY
    refine au (D.l8 ho) λm KZ=>?_
    subst KZ
    refine au (D.l8 hb) λn K0=>?_
    subst K0
    obtain⟨rfl,_,t,k1,i⟩:=hx
    obtain⟨rfl,_,u,k2,j⟩:=hy
    show wpAny _ A (if a==b then pure true else _) R E s
    by_cases e:(a==b)=true
    ·refine dD e ?_
     replace hR:=e▸hR
     exact wpAny_pure hR
    ·refine bw e ?_
     have e':(a==b)=false:=Bool.eq_false_iff.mpr e
     replace hR:=e'▸hR
     exact wpAny_bind (wpAny_load i (wpAny_bind (wpAny_load j (wpAny_pure hR))))
   |none=>
    replace h:=ho▸h
    refine ai (aK h) λp h1 h=>?_
    refine ai (omap h) λq h2 K9=>?_
    subst K9
    obtain rfl:=(wa h1)
    obtain rfl:=(wa h2)
    subst hx
    subst hy
    refine wpAny_isSame_plain rfl ?_
    rw[zL];exact hR
 cases o with
 |Lt=>
  replace hr:SP x y=some b:=hr
  unfold SP at hr
  cases jG:x.gU with
  |some p=>
   replace hr:=jG▸hr
   refine ai (omap hr) λq hq La=>?_
   subst La
   obtain rfl:=(cj jG)
   obtain rfl:=(cj hq)
   refine au hx λt Lb=>?_
   subst Lb
   refine au hy λu Lc=>?_
   subst Lc
   exact lt_str hQ
  |none=>
   replace hr:=jG▸hr
   cases rE:x.rY with
   |some a=>
    replace hr:=rE▸hr
    refine ai (omap hr) λq hq Ld=>?_
    subst Ld
    refine au (D.l8 rE) λm Le=>?_
    subst Le
    refine au (D.l8 hq) λn Lf=>?_
    subst Lf
    obtain⟨rfl,_,t,i⟩:=hx
    obtain⟨rfl,_,u,j⟩:=hy
    exact GI i j (fu hu) hQ
   |none=>
    replace hr:=rE▸hr
    refine eh (it hr) λa c t u Lg Lh Li=>?_
    subst Lg
    subst Lh
    subst Li
    exact lt_int hQ
 |LtE=>exact gV hr
 |Gt=>obtain⟨a,c,t,u,rfl,rfl,rfl⟩:=it hr;exact gt_int hQ
 |GtE=>obtain⟨a,c,t,u,rfl,rfl,rfl⟩:=it hr;exact ge_int hQ
 |Eq=>
  cases jG:x.ew with
  |some a=>
   refine aX (uk (show(if x.rV=true then none else _)=some b from hr)) λ_ h=>?_
   replace h:=jG▸h
   refine ai (omap h) λc hc Lj=>?_
   subst Lj
   rw[cC jG]at hx
   rw[cC hc]at hy
   refine au hx λt Lk=>?_
   subst Lk
   refine au hy λu Ll=>?_
   subst Ll
   exact AutoFloatOps.eq_0 hQ
  |none=>exact(eq hr jG).1 prog w E Q hQ
 |NotEq=>
  refine aX (uk (show(if x.ew.isSome=true then none else _)=some b from hr)) λjG hr=>?_
  refine ai (omap hr) λc hc Lm=>?_
  subst Lm
  exact(eq hc (by simpa using jG)).2 prog w E Q hQ
 |In=>
  refine eh (mem hr) λp q t u Ln Lo Lp=>?_
  subst Ln
  subst Lo
  subst Lp
  exact in_str hQ
 |NotIn=>
  refine ai (Option.map_eq_some_iff.mp hr) λc hc Lq=>?_
  subst Lq
  refine eh (mem hc) λp q t u Lr Ls Lu=>?_
  subst Lr
  subst Ls
  subst Lu
  exact notIn_str hQ
 |Is=>
  show wpAny _ A (do return Value.bool (←isSame vx vy)) Q E s
  exact wpAny_bind (same hr prog w E _ (wpAny_pure hQ))
 |IsNot=>
  refine ai (Option.map_eq_some_iff.mp hr) λc hc Lv=>?_
  subst Lv
  show wpAny _ A (do return Value.bool (!(←isSame vx vy))) Q E s
  exact wpAny_bind (same hc prog w E _ (wpAny_pure hQ))
theorem zN{d:D}{v:Value}{b:Bool}{R:Bool→Shared→Prop}(hr:cD d=some b)(hx:aZ (λ_=>True) s.heap d v)(hQ: ∀tk,R b {s with toks:=tk}):
  wpAny (model prog w) A (truthy v) R E s:=by
 cases d with
 |bool p=>cases hr;cases hx;exact wpAny_truthy_bool (hQ s.toks)
 |int i=>cases hr;obtain⟨t,rfl⟩:=hx;exact PyProof.Rows.truthy_int (hQ s.toks)
 |_=>exact gV hr
end
end Mine.Internal
end
section
open PySem PyProof.Rows
namespace Mine.Internal
noncomputable def mM:KeyOrd where
 α:=Int
 blt a b:=decide (a<b)
 irrefl a:=by simp
 trans a b c h h':=decide_eq_true (Int.lt_trans (of_decide_eq_true h) (of_decide_eq_true h'))
 negTrans a b c h:=(Decidable.em (a<b)).elim (λq=> .inl (decide_eq_true q)) λq=> .inr (decide_eq_true (Int.lt_of_le_of_lt (Int.not_lt.mp q) (of_decide_eq_true h)))
 total a b h h':=Int.le_antisymm (Int.not_lt.mp (of_decide_eq_false h')) (Int.not_lt.mp (of_decide_eq_false h))
noncomputable def TU:Value→Int
 | .int i _=>i
 |_=>0
noncomputable def isInt(x:Keyed):Prop:= ∃i t,x.1= .int i t
section
variable{prog:Program}{w:World}{A:Around}{E:Value→Shared→Prop}{s:Shared}
end
end Mine.Internal
end
section
open PySem PyProof.Rows
namespace Mine.Internal
namespace BS
theorem eB:plainId "_bisect.bisect_right.loop"=true:=by decide+kernel
theorem ur:entryFor table "_bisect.bisect_right.loop"=some Builtin.«_bisect.bisect_right.loop»:=entryFor_of_fast (by kernel_rfl)
end BS
section
variable{prog:Program}{w:World}{A:Around}{E:Value→Shared→Prop}{s:Shared}
theorem item_at{l:Addr}{items:Array Value}{k:Int}{t:Tok}{x:Value}{Q:Option Value→Shared→Prop}(hl:s.heap.IsList l items)(h0:0≤k)(xJ:k<2^63)(hx:items[k.toNat]? =some x)(h:Q (some x) s):
  wpAny (model prog w) A (callSpecial? (.ref l) "__getitem__" [.int k t]) Q E s:=by
 obtain⟨o,ho,hc,ne,hd⟩:=id hl
 refine wpAny_callSpecial?_slot (name:=Str.ofString "__getitem__") hl.typeIs slot_list_getitem
  (wpAny_call_entry slot_list_getitem hl.typeIs entry_list_getitem ?_ (args_list_getitem _ _))
 show wpAny _ _ (Builtin.List.listSubscript? (.int k t) >>= _) _ _ s
 refine wpAny_bind (wpAny_listSubscript_int (fitsIndex_of h0 xJ) ?_)
 clear xJ
 obtain⟨j,rfl⟩:=Int.eq_ofNat_of_zero_le h0
 have cv:items[j]? =some x:=hx
 show wpAny _ _ ((seqItemAt l j >>= λr=>pure (r.map (j,·))) >>= _) _ _ s
 refine wpAny_bind (wpAny_bind (wpAny_seqItemAt ho hd (wpAny_pure ?_)))
 rw[cv]
 first
  |exact wpAny_bind (wpAny_pure (wpAny_pure ⟨x,rfl,h⟩))
  |exact wpAny_pure ⟨x,rfl,h⟩
structure kl(prog:Program)(w:World)(A:Around)(h:Heap)(items:Array Value)(x:Value)(right:Bool)(dn:Nat→Bool)(T:String):Prop where
 ty: ∀s:Shared,s.heap=h→s.TypeIs x T∧ ∀(i:Nat) (v:Value),items[i]? =some v→s.TypeIs v T
 lt: ∀(s:Shared) (Q:Option Value→Shared→Prop) (E:Value→Shared→Prop) (i:Nat) (v:Value),s.heap=h→items[i]? =some v→Q (some (.bool (dn i==right))) s→wpAny (model prog w) A (callSpecialIfBound? (if right then x else v) "__lt__" [if right then v else x]) Q E s
theorem sq{a:Addr}{items:Array Value}{x:Value}{T:String}{right:Bool}{dn:Nat→Bool}{R:Result→Shared→Prop}(hn:items.size≤bW)(hu:A.units+6<cLine):
  ∀(n lo hi:Nat) (s:Shared),kl prog w A.in1 s.heap items x right dn T→s.heap.IsList a items→hi-lo<n→hi≤items.size→
   (∀tk t,R (.ok (.ret (.int (bX dn n lo hi) t))) {s with toks:=tk})→
   codeAny (model prog w) A (.builtin "_bisect.bisect_right.loop" ⟨[.ref a,x,rawInt lo,rawInt hi,.none,.bool right,.bool true,rawInt 0],[]⟩) R s:=by
 intro n
 induction n with
 |zero=>intro lo hi s _ _ h;exact absurd h (Nat.not_lt_zero _)
 |succ n ih=>
  intro lo hi s hc hl hk hh hR
  refine codeAny_builtin BS.ur ?_
  rw[Around.under_plainId BS.eB _]
  unfold Builtin.«_bisect.bisect_right.loop»
  by_cases cy:lo<hi
  ·have xB:(lo:Int)<(hi:Int):=by exact Int.ofNat_lt.mpr ‹_›
   dsimp only[rawInt]
   refine dD xB ?_
   have hm:((lo:Int)+(hi:Int))/2=(((lo+hi)/2:Nat):Int):=by rfl
   have cf:(items.size:Int)<2^63:=by
    have:bW<2^63:=by decide
    exact Int.ofNat_lt.mpr (Nat.lt_of_le_of_lt hn this)
   rw[hm]
   have Fe:=mr cy hk
   have Xl:=gP cy
   generalize TV:(lo+hi)/2=mid at hR Fe Xl ⊢
   have GU:mid<items.size:=Nat.lt_of_lt_of_le Xl.2 hh
   have hx:items[mid]? =some items[mid]:=by simp[GU]
   obtain⟨c1,c2⟩:=hc.ty s rfl
   refine wpAny_bind (wpAny_mkInt (wpAny_bind (item_at (s:={s with toks:=s.toks+1}) hl (Int.natCast_nonneg mid) (Int.lt_trans (Int.ofNat_lt.mpr GU) cf) hx ?_)))
   dsimp only
   refine dD (show(Value.none==Value.none)=true from rfl) ?_
   refine wpAny_bind (wpAny_pure (wpAny_holding ?_))
   refine dD rfl ?_
   refine wpAny_bind (wpAny_typeOf (T:=T) (c2 mid _ hx) (wpAny_bind (wpAny_typeOf (T:=T) c1 ?_)))
   refine dD (by simp) ?_
   refine wpAny_bind (wpAny_cRoomFor_or (.inr (Nat.lt_of_le_of_lt (Nat.add_le_add_left (by decide) A.units) hu)) ?_)
   have TX:(if right=true then(x,items[mid])else(items[mid],x)).fst=if right=true then x else items[mid]:=by cases right <;> rfl
   have TY:(if right=true then(x,items[mid])else(items[mid],x)).snd=if right=true then items[mid]else x:=by cases right <;> rfl
   rw[TX,TY]
   refine wpAny_bind (hc.lt {s with toks:=s.toks+1} _ _ mid _ rfl hx ?_)
   dsimp only
   refine wpAny_bind (wpAny_truthy_bool (wpAny_bind (wpAny_pure ?_)))
   have I1: ∀tk t,R (.ok (.ret (.int ((if dn mid then bX dn n lo mid else bX dn n (mid+1) hi:Nat):Int) t))) {s with toks:=tk}:=λtk t=>by
    have:=hR tk t
    rw[show bX dn (n+1) lo hi=if dn mid then bX dn n lo mid else bX dn n (mid+1) hi from by rw[bX,if_pos cy,TV]]at this
    exact this
   cases hd:dn mid with
   |true=>
    rw[hd]at I1
    refine dD (by cases right <;> rfl) ?_
    exact wpAny_pure ⟨plainId_quiet BS.eB _,ih lo mid {s with toks:=s.toks+1} hc hl Fe.1 (Nat.le_of_lt GU) I1⟩
   |false=>
    rw[hd]at I1
    refine bw (by cases right <;> simp) ?_
    refine wpAny_pure ⟨plainId_quiet BS.eB _,?_⟩
    have I2:((mid:Nat):Int)+1=((mid+1:Nat):Int):=by rfl
    rw[I2]
    exact ih (mid+1) hi {s with toks:=s.toks+1} hc hl Fe.2 hh I1
  ·have xB: ¬(lo:Int)<(hi:Int):=λq=>cy (Int.ofNat_lt.mp q)
   dsimp only[rawInt]
   refine bw xB ?_
   have I1: ∀tk t,R (.ok (.ret (.int (lo:Int) t))) {s with toks:=tk}:=λtk t=>by
    have:=hR tk t
    rw[show bX dn (n+1) lo hi=lo from by rw[bX,if_neg cy]]at this
    exact this
   refine wpAny_bind (wpAny_mkInt ?_)
   exact wpAny_pure (I1 _ _)
end
end Mine.Internal
end
section
open PySem PyProof.Rows
namespace Mine.Internal
namespace BS
theorem uu:plainId "_bisect.bisect_left"=true:=by decide+kernel
theorem uv:entryFor table "_bisect.bisect_left"=some Builtin.«_bisect.bisect_left»:=entryFor_of_fast (by kernel_rfl)
theorem xK:builtinKind "_bisect.bisect_left"=none:=by decide+kernel
theorem xM(a b:Value):argsOk "_bisect.bisect_left" ⟨[a,b],[]⟩:=by unfold argsOk;kernel_rfl
theorem sr:plainId "_bisect.bisect_right"=true:=by decide+kernel
theorem su:entryFor table "_bisect.bisect_right"=some Builtin.«_bisect.bisect_right»:=entryFor_of_fast (by kernel_rfl)
theorem uw:builtinKind "_bisect.bisect_right"=none:=by decide+kernel
theorem ux(a b c:Value):argsOk "_bisect.bisect_right" ⟨[a,b],[(Str.ofString "lo",c)]⟩:=by unfold argsOk;kernel_rfl
theorem sv(a b c:Value):argsOk "_bisect.bisect_right" ⟨[a,b,c],[]⟩:=by unfold argsOk;kernel_rfl
noncomputable def zO:{f:String→Bool→Bool→Builtin // Builtin.«_bisect.bisect_left»=f "bisect_left" false false}:=⟨_,rfl⟩
noncomputable abbrev start:String→Bool→Bool→Builtin:=zO.1
theorem Dm:Builtin.«_bisect.bisect_left»=start "bisect_left" false false:=rfl
theorem zP:Builtin.«_bisect.bisect_right»=start "bisect_right" true false:=rfl
noncomputable abbrev Found:=Value×Value×Option Value×Option Value×Option Value
noncomputable def Lw:{f:String→Args→Sem Found // ∃k:String→Bool→Bool→Found→Sem PySem.Fin,∀n r i args,start n r i args=f n args >>= k n r i}:=⟨_,_,λ_ _ _ _=>rfl⟩
noncomputable abbrev bind:String→Args→Sem Found:=Lw.1
end BS
section
variable{prog:Program}{w:World}{A:Around}{E:Value→Shared→Prop}{s:Shared}
theorem xN{a x:Value}:BS.bind "bisect_left" ⟨[a,x],[]⟩=pure (a,x,none,none,none):=by
 kernel_rfl
theorem uy{a x l:Value}:BS.bind "bisect_right" ⟨[a,x],[(Str.ofString "lo",l)]⟩=pure (a,x,some l,none,none):=by
 kernel_rfl
theorem sA{a x l:Value}:BS.bind "bisect_right" ⟨[a,x,l],[]⟩=pure (a,x,some l,none,none):=by
 kernel_rfl
theorem we{l:Addr}{items:Array Value}{B:Type}{f:Value→String→List Value→Sem B}{Q:B→Shared→Prop}(hl:s.heap.IsList l items)(h:wpAny (model prog w) A (f (.type "list") "list" [.type "list",.type "object"]) Q E s):wpAny (model prog w) A (typeOf (.ref l) >>= λt=>typeNameOfCut 200 (.ref l) >>= λn=>mroOf t >>= λm=>f t n m) Q E s:=by
 refine wpAny_bind (wpAny_typeOf hl.typeIs (wpAny_bind ?_))
 unfold typeNameOfCut shownTypeOf
 refine wpAny_bind (wpAny_bind (wpAny_typeOf hl.typeIs ?_))
 refine bw (by decide) ?_
 refine wpAny_pure (wpAny_pure ?_)
 exact wpAny_bind (wpAny_of_eq (show mroOf (.type "list")=pure [.type "list",.type "object"]from by rw[mroOf_type];kernel_rfl) h)
theorem xO(k:Int)(t:Tok):asIndex (.int k t)=pure k:=rfl
theorem Dn{l:Addr}{items:Array Value}{Q:Value→Shared→Prop}(hl:s.heap.IsList l items)(hn:items.size≤bW)(h: ∀tk t,Q (.int items.size t) {s with toks:=tk}):wpAny (model prog w) A (runValue (.builtin "len" ⟨[.ref l],[]⟩)) Q E s:=by
 obtain⟨o,ho,hc,n,hd⟩:=id hl
 refine wpAny_runValue (codeAny_builtin entry_len ?_)
 rw[Around.under_plainId plain_len _]
 unfold Builtin.«len»
 refine wpAny_bind (m:=oneArg "len" _) (wpAny_pure ?_)
 refine wpAny_bind (m:=callSpecial? (.ref l) (Str.ofString "__len__")) (wpAny_callSpecial?_slot (name:=Str.ofString "__len__") hl.typeIs slot_list_len
  (wpAny_call_entry slot_list_len hl.typeIs entry_list_len ?_ (args_list_len _)))
 show wpAny _ _ (do retInt (←seqSize l)) _ _ s
 unfold seqSize
 refine wpAny_bind (wpAny_bind (wpAny_load ho ?_))
 rw[hd]
 refine wpAny_pure (wpAny_bind (wpAny_mkInt (wpAny_pure ⟨_,rfl,?_⟩)))
 refine wpAny_bind (wpAny_holding (wpAny_pure ?_))
 refine wpAny_bind (wpAny_letGo ?_)
 show wpAny _ _ (if((items.size:Nat):Int)<0 then _ else _) _ _ _
 refine bw (Int.not_lt.mpr (Int.natCast_nonneg _)) ?_
 refine bw (Int.not_le.mpr (Int.ofNat_lt.mpr (Nat.lt_of_le_of_lt hn (by decide)))) ?_
 exact wpAny_bind (wpAny_mkInt (wpAny_pure (h _ _)))
theorem pj{l:Addr}{items:Array Value}{x:Value}{Fi:String}{right:Bool}{Q:PySem.Fin→Shared→Prop}{args:Args}{lo:Option Value}{i:Int}(hb:BS.bind Fi args=pure (.ref l,x,lo,none,none))(GD:(lo=none∧i=0)∨ ∃t,lo=some (.int i t))(hl:s.heap.IsList l items)(hn:items.size≤bW)(hi:0≤i∧i≤items.size)
  (h: ∀tk,Q (.again (.builtin "_bisect.bisect_right.loop" ⟨[.ref l,x,rawInt i,rawInt items.size,.none,.bool right,.bool true,rawInt 0],[]⟩)) {s with toks:=tk}):wpAny (model prog w) A (BS.start Fi right false args) Q E s:=by
 unfold BS.start BS.zO
 dsimp only
 wp_delta
 dsimp -zeta only
 refine wpAny_bind (wpAny_of_eq hb ?_)
 dsimp -zeta only
 extract_lets ky jp
 have rest:wpAny (model prog w) A (jp i) Q E s:=by
  subst jp ky
  dsimp only
  refine wpAny_bind (wpAny_pure ?_)
  refine bw (by decide) ?_
  refine wpAny_bind (wpAny_pure (wpAny_holding ?_))
  refine bw (Int.not_lt.mpr hi.1) ?_
  refine bw (by decide) ?_
  refine wpAny_bind ?_
  wp_delta
  refine we hl ?_
  refine bw (by decide) ?_
  refine dD rfl ?_
  refine wpAny_bind (wpAny_of_eq slot_list_len.lookup ?_)
  refine bw (by decide) ?_
  refine bw (by decide) ?_
  refine wpAny_pure (wpAny_bind (Dn hl hn λtk t=>?_))
  refine wpAny_bind (wpAny_pure (wpAny_bind ?_))
  wp_delta
  refine we (s:={s with toks:=tk}) hl ?_
  refine bw (by decide) ?_
  refine bw (by decide) ?_
  refine wpAny_bind (wpAny_of_eq slot_list_getitem.lookup ?_)
  refine bw (by decide) ?_
  refine bw (by decide) ?_
  exact wpAny_pure (wpAny_pure (h tk))
 clear_value jp
 clear ky hb h hl
 rcases GD with⟨rfl,rfl⟩|⟨t,rfl⟩
 ·exact wpAny_bind (wpAny_pure rest)
 ·have up:i<2^63:=Int.lt_of_le_of_lt hi.2 (Int.ofNat_lt.mpr (Nat.lt_of_le_of_lt hn (by decide)))
  refine wpAny_bind (wpAny_of_eq (xO _ _) ?_)
  refine bw (show¬(!(decide (-(2^63:Int)≤i)&&decide (i<2^63)))=true from by rw[decide_eq_true up,decide_eq_true (Int.le_trans (by decide) hi.1)];decide) ?_
  exact wpAny_bind (wpAny_pure rest)
theorem mO{id:String}{b:Builtin}{args:List Value}{kw:List (Str×Value)}{Q:Value→Shared→Prop}(hk:builtinKind id=none)(hp:plainId id=true)(hb:entryFor table id=some b)(ha:argsOk id ⟨args,kw⟩)
  (hc:wpAny (model prog w) A.in1 (b ⟨args,kw⟩) (λfin s'=> ∃c,fin= .again c∧c.quiet=true∧codeAny (model prog w) A c (λr s'=>match r with| .ok (.ret v)=>Q v s'| .ok _=>False| .error e=>E e s') s') E s):
  wpAny (model prog w) A (call (.builtin id) args kw) Q E s:=by
 refine wpAny_call (codeAny_call_builtin hp hb ?_)
 have xC:=wpAny_mono hc (Q':=λfin s'=>match fin with
   | .done f=>(match (Except.ok f:Result)with| .ok (.ret v)=>Q v s'| .ok _=>False| .error e=>E e s')
   | .again c'=>c'.quiet=true∧codeAny (model prog w) A c' (λr s'=>match r with| .ok (.ret v)=>Q v s'| .ok _=>False| .error e=>E e s') s')
  (λfin s' h'=>by obtain⟨c,rfl,hv⟩:=h';exact hv) λ_ _ h'=>h'
 simp only[checkBuiltinCall,hk]
 cases TZ:Manifest.signature? id with
 |none=>exact wpAny_pure xC
 |some sig=>
  have IU:Bind.checkArgs id sig ⟨args,kw⟩=pure ():=by simpa only[argsOk,TZ]using ha
  simp only[IU]
  exact wpAny_pure xC
theorem xP{a:Addr}{items:Array Value}{x:Value}{T:String}{dn:Nat→Bool}{Q:Value→Shared→Prop}(hn:items.size≤bW)(hu:A.units+6<cLine)(hc:kl prog w A.in1 s.heap items x false dn T)(hl:s.heap.IsList a items)
  (h: ∀tk t,Q (.int (bX dn (items.size+1) 0 items.size) t) {s with toks:=tk}):wpAny (model prog w) A (call (.builtin "_bisect.bisect_left") [.ref a,x]) Q E s:=by
 refine mO BS.xK BS.uu BS.uv (BS.xM _ _) ?_
 rw[BS.Dm]
 refine pj (lo:=none) (i:=0) xN (.inl ⟨rfl,rfl⟩) hl hn ⟨Int.le_refl _,Int.natCast_nonneg _⟩ λtk=>⟨_,rfl,plainId_quiet BS.eB _,?_⟩
 exact sq hn hu (items.size+1) 0 items.size {s with toks:=tk} hc hl (by exact Nat.lt_succ_self _) (Nat.le_refl _) λtk t=>h tk t
theorem jb{ps:List Value}{kw:List (Str×Value)}{a:Addr}{items:Array Value}{x:Value}{T:String}{dn:Nat→Bool}{i:Nat}{u:Tok}{Q:Value→Shared→Prop}(ha:argsOk "_bisect.bisect_right" ⟨ps,kw⟩)(Sj: ∀k:Int,(i:Int)=k→BS.bind "bisect_right" ⟨ps,kw⟩=pure (.ref a,x,some (.int k u),none,none))(hn:items.size≤bW)(hu:A.units+6<cLine)(hc:kl prog w A.in1 s.heap items x true dn T)(hl:s.heap.IsList a items)(hi:i≤items.size)
  (h: ∀tk t,Q (.int (bX dn (items.size+1) i items.size) t) {s with toks:=tk}):wpAny (model prog w) A (call (.builtin "_bisect.bisect_right") ps kw) Q E s:=by
 obtain⟨k,hk⟩: ∃k:Int,(i:Int)=k:=⟨_,rfl⟩
 have h0:0≤k∧k≤items.size:=hk▸⟨Int.natCast_nonneg _,Int.ofNat_le.mpr hi⟩
 refine mO BS.uw BS.sr BS.su ha ?_
 rw[BS.zP]
 refine pj (lo:=some (.int k u)) (i:=k) (Sj k hk) (.inr ⟨u,rfl⟩) hl hn h0 λtk=>⟨_,rfl,plainId_quiet BS.eB _,?_⟩
 rw[←hk]
 exact sq hn hu (items.size+1) i items.size {s with toks:=tk} hc hl (Nat.lt_succ_of_le (Nat.sub_le _ _)) (Nat.le_refl _) λtk t=>h tk t
theorem uz{a:Addr}{items:Array Value}{x:Value}{T:String}{dn:Nat→Bool}{i:Nat}{u:Tok}{Q:Value→Shared→Prop}(hn:items.size≤bW)(hu:A.units+6<cLine)(hc:kl prog w A.in1 s.heap items x true dn T)(hl:s.heap.IsList a items)(hi:i≤items.size)
  (h: ∀tk t,Q (.int (bX dn (items.size+1) i items.size) t) {s with toks:=tk}):wpAny (model prog w) A (call (.builtin "_bisect.bisect_right") [.ref a,x] [(Str.ofString "lo",.int i u)]) Q E s:=
 jb (BS.ux _ _ _) (λk hk=>by rw[hk];exact uy) hn hu hc hl hi h
theorem sC{a:Addr}{items:Array Value}{x:Value}{T:String}{dn:Nat→Bool}{i:Nat}{u:Tok}{Q:Value→Shared→Prop}(hn:items.size≤bW)(hu:A.units+6<cLine)(hc:kl prog w A.in1 s.heap items x true dn T)(hl:s.heap.IsList a items)(hi:i≤items.size)
  (h: ∀tk t,Q (.int (bX dn (items.size+1) i items.size) t) {s with toks:=tk}):wpAny (model prog w) A (call (.builtin "_bisect.bisect_right") [.ref a,x,.int i u]) Q E s:=
 jb (BS.sv _ _ _) (λk hk=>by rw[hk];exact sA) hn hu hc hl hi h
end
end Mine.Internal
end
section
open PySem PyProof.Rows
namespace Mine.Internal
theorem jK{d:D}{n:Nat}(h:ca d=n):(n=1∧ ∃i,d= .int i)∨(n=2∧ ∃i,d= .str i)∨(n=3∧ ∃a i,d= .obj a i)∨n=0:=by
 subst h
 cases d <;> first|exact .inl ⟨rfl,_,rfl⟩|exact .inr (.inl ⟨rfl,_,rfl⟩)|exact .inr (.inr (.inl ⟨rfl,_,_,rfl⟩))|exact .inr (.inr (.inr rfl))
section
variable{prog:Program}{w:World}{A:Around}{Z:Addr→Prop}{h:Heap}
theorem qq{l:List D}{x:D}{vs:List Value}{u:Value}{right:Bool}(hk:ca x≠0)(ha:l.all (λd=>ca d==ca x)=true)(r:aF Z h l vs)(rx:aw Z h 1 x u):
  ∃T,kl prog w A h vs.toArray u right (fC right l x) T:=by
 have IU: ∀d∈l,ca d=ca x:=λd hd=>by simpa using List.all_eq_true.mp ha d hd
 have at_: ∀{i:Nat} {v:Value},vs.toArray[i]? =some v→ ∃d,l[i]? =some d∧ca d=ca x∧aZ Z h d v:=λ{i v} hv=>by
  refine ai (r.get' (by simpa using hv)) λd h1 h2=>?_
  exact⟨d,h1,IU d (List.mem_of_getElem? h1),h2⟩
 have T1: ∀{i:Nat} {d:D},l[i]? =some d→(fC right l x i==right)=if right then gE x d else gE d x:=λ{i d} hd=>by
  unfold fC
  rw[hd]
  cases right with
  |true=>simp
  |false=>cases hq:gE d x <;> simp[hq]
 rcases jK (rfl:ca x=ca x)with⟨hx,a,rfl⟩|⟨hx,a,rfl⟩|⟨hx,b,a,rfl⟩|hx
 ·refine au (aG rx) λt Lx=>?_
  subst Lx
  have item: ∀{d:D} {v:Value},ca d=1→aZ Z h d v→ ∃j t',d= .int j∧v= .int j t':=λ{d v} hd rd=>by
   rcases jK hd with⟨_,j,rfl⟩|⟨e,_⟩|⟨e,_⟩|e <;> first|(cases e;done)|skip
   refine au rd λt' Ly=>?_
   subst Ly
   exact⟨j,t',rfl,rfl⟩
  refine⟨"int",λs hs=>⟨rfl,λi v hv=>?_⟩,λs Q E i v hs hv hQ=>?_⟩
  ·refine bK (at_ hv) λd _ h2 h3=>?_
   refine da (item (h2.trans hx) h3) λj t' _ Lz=>?_
   subst Lz
   rfl
  ·refine bK (at_ hv) λd h1 h2 h3=>?_
   refine da (item (h2.trans hx) h3) λj t' LA LB=>?_
   subst LA
   subst LB
   rw[T1 h1]at hQ
   cases right with
   |true=>exact wpAny_callSpecialIfBound?_slot (typeIs_int s a t) slot_int_lt (call_int_lt hQ)
   |false=>exact wpAny_callSpecialIfBound?_slot (typeIs_int s j t') slot_int_lt (call_int_lt hQ)
 ·refine au (aw.plain rx rfl) λt LC=>?_
  subst LC
  have item: ∀{d:D} {v:Value},ca d=2→aZ Z h d v→ ∃j t',d= .str j∧v= .str j t':=λ{d v} hd rd=>by
   rcases jK hd with⟨e,_⟩|⟨_,j,rfl⟩|⟨e,_⟩|e <;> first|(cases e;done)|skip
   refine au rd λt' LD=>?_
   subst LD
   exact⟨j,t',rfl,rfl⟩
  refine⟨"str",λs hs=>⟨rfl,λi v hv=>?_⟩,λs Q E i v hs hv hQ=>?_⟩
  ·refine aO λXq kq=>?_
   refine bK (at_ hv) λd _ h2 h3=>?_
   refine da (item (h2.trans hx) h3) λj t' _ LF=>?_
   subst LF
   refine kq ?_
   rfl
  ·refine bK (at_ hv) λd h1 h2 h3=>?_
   refine da (item (h2.trans hx) h3) λj t' LG LH=>?_
   subst LG
   subst LH
   rw[T1 h1]at hQ
   cases right with
   |true=>exact wpAny_callSpecialIfBound?_slot (typeIs_str s a t) slot_str_lt (call_str_lt hQ)
   |false=>exact wpAny_callSpecialIfBound?_slot (typeIs_str s j t') slot_str_lt (call_str_lt hQ)
 ·obtain⟨rfl,_,t,n,ho⟩:=aw.plain rx rfl
  have item: ∀{d:D} {v:Value},ca d=3→aZ Z h d v→ ∃c j t',d= .obj c j∧v= .ref c∧h.PlainList c #[.int j t']:=λ{d v} hd rd=>by
   rcases jK hd with⟨e,_⟩|⟨e,_⟩|⟨_,c,j,rfl⟩|e <;> first|(cases e;done)|skip
   obtain⟨rfl,_,t',p⟩:=rd
   exact⟨c,j,t',rfl,rfl,p⟩
  refine⟨"list",λs hs=>⟨⟨_,by rw[hs];exact ho,rfl⟩,λi v hv=>?_⟩,λs Q E i v hs hv hQ=>?_⟩
  ·refine bK (at_ hv) λd _ h2 h3=>?_
   obtain⟨c,j,t',_,rfl,m,eu⟩:=item (h2.trans hx) h3
   exact⟨_,by rw[hs];exact eu,rfl⟩
  ·refine aO λXq kq=>?_
   refine bK (at_ hv) λd h1 h2 h3=>?_
   obtain⟨c,j,t',rfl,rfl,m,eu⟩:=item (h2.trans hx) h3
   refine kq ?_
   rw[T1 h1]at hQ
   rw[←hs]at ho eu
   cases right with
   |true=>exact wpAny_callSpecialIfBound?_slot ⟨_,ho,rfl⟩ PySem.F.slot_list_lt (mG ⟨_,ho⟩ ⟨_,eu⟩ hQ)
   |false=>exact wpAny_callSpecialIfBound?_slot ⟨_,eu,rfl⟩ PySem.F.slot_list_lt (mG ⟨_,eu⟩ ⟨_,ho⟩ hQ)
 ·exact absurd hx hk
end
end Mine.Internal
end
section
open PySem PyProof.Rows PySem.Flt
namespace Mine.Internal
section
variable{prog:Program}{w:World}{A:Around}{E:Value→Shared→Prop}{s:Shared}{Z:Addr→Prop}{Q:Value→Shared→Prop}
noncomputable def jc:BI→Value
 | .len=> .builtin "len"
 | .max=> .builtin "max"
 | .abs=> .builtin "abs"
 | .range=> .type "range"
 | .list=> .type "list"
 | .type=> .type "type"
 | .int=> .type "int"
 | .divmod=> .builtin "divmod"
 | .str=> .type "str"
 | .float=> .type "float"
 | .mH=> .builtin "int.bit_length"
 | .um=> .builtin "_bisect.bisect_left"
 | .uo=> .builtin "_bisect.bisect_right"
inductive eQ(Z:Addr→Prop)(h:Heap)(n:Nat):List D→List Value→Prop
 |nil:eQ Z h n [] []
 |cons {d ds v vs}:aw Z h n d v→eQ Z h n ds vs→eQ Z h n (d::ds) (v::vs)
theorem eQ.one{h:Heap}{n:Nat}{d:D}{vs:List Value}(x:eQ Z h n [d] vs): ∃v,vs= [v]∧aw Z h n d v:=by
 cases x with|cons x xs=>cases xs;exact⟨_,rfl,x⟩
theorem eQ.two{h:Heap}{n:Nat}{d e:D}{vs:List Value}(x:eQ Z h n [d,e] vs): ∃v u,vs= [v,u]∧aw Z h n d v∧aw Z h n e u:=by
 cases x with|cons x xs=>obtain⟨u,rfl,y⟩:=xs.one;exact⟨_,_,rfl,x,y⟩
theorem eQ.three{h:Heap}{n:Nat}{d e f:D}{vs:List Value}(x:eQ Z h n [d,e,f] vs): ∃v u t,vs= [v,u,t]∧aw Z h n d v∧aw Z h n e u∧aw Z h n f t:=by
 cases x with|cons x xs=>obtain⟨u,t,rfl,y,z⟩:=xs.two;exact⟨_,_,_,rfl,x,y,z⟩
theorem qr{n:Nat}(h:n≤bW):(n:Int)<2^63:=by
 have:(2:Int)^20<2^63:=by decide
 have h':(n:Int)≤2^20:=by exact_mod_cast h
 exact Int.lt_of_le_of_lt h' this
theorem Gives.ext{r:D}(h:Gives Z s r Q){v:Value}{h':Heap}{tk:Nat}(hx:Ext s.heap h')(hv: ∀h',aZ Z h' r v)(hl:r.isList=false):Q v {s with heap:=h',toks:=tk}:=
 h v h' tk hx (hv _) λl e=>by subst e;cases hl
theorem GV{d:D}{r:D}{v:Value}(h:J7 d=some r)(hx:aZ (λ_=>True) s.heap d v): ∃T,r= .ty T∧s.TypeIs v T∧(Value.type T==Value.type "builtin_function_or_method")=false:=by
 cases d <;> first|exact gV h|skip
 ·cases hx;cases h;exact⟨_,rfl,rfl,rfl⟩
 ·refine au hx λt T2=>?_
  subst T2
  cases h
  exact⟨_,rfl,rfl,rfl⟩
 ·refine au hx λt T5=>?_
  subst T5
  cases h
  exact⟨_,rfl,rfl,rfl⟩
 ·refine au hx λt T6=>?_
  subst T6
  cases h
  exact⟨_,rfl,rfl,rfl⟩
 ·refine cz hx λa vs T7 _ _ i _=>?_
  subst T7
  cases h
  exact⟨_,rfl,i.isList.typeIs,rfl⟩
 ·obtain⟨rfl,_,t,i⟩:=hx;cases h;exact⟨_,rfl,i.isList.typeIs,rfl⟩
theorem km{a b c:Int}(_:c≠0):0≤Builtin.Range.rangeSize a b c:=by
 unfold Builtin.Range.rangeSize
 split
 ·split
  ·exact Int.add_nonneg (Int.ediv_nonneg (Int.le_sub_one_of_lt (Int.sub_pos_of_lt ‹_›)) (Int.le_of_lt ‹_›)) (by decide)
  ·exact Int.natCast_nonneg _
 ·split
  ·exact Int.add_nonneg (Int.ediv_nonneg (Int.le_sub_one_of_lt (Int.sub_pos_of_lt ‹_›)) (Int.neg_nonneg_of_nonpos (Int.not_lt.mp ‹_›))) (by decide)
  ·exact Int.natCast_nonneg _
theorem jm{a b c:Int}(h:jJ a b c=true):Builtin.Range.rangeSize a b c=((bB a b c).length:Int)∧(bB a b c).length≤bW∧c≠0:=by
 simp only[jJ,Bool.and_eq_true,decide_eq_true_eq]at h
 have hc:c≠0:=by simpa using h.1.2
 have:=km (a:=a) (b:=b) hc
 refine⟨?_,h.2,hc⟩
 simp only[bB,List.length_map,List.length_range]
 exact(Int.toNat_of_nonneg this).symm
theorem xQ{a b c:Int}(h:jJ a b c=true):Builtin.Range.small a b c=true:=by
 refine gM (jm h) λh1 h2 h3=>?_
 simp only[jJ,Bool.and_eq_true,decide_eq_true_eq]at h
 refine aX h λT8 _=>?_
 obtain⟨⟨⟨ha,hb⟩,hc⟩,_⟩:=T8
 have ha:=iH ha
 have hb:=iH hb
 have hc:=iH hc
 have key: ∀i:Int,-(2^62)≤i→i≤2^62→Builtin.Range.rangeFitsLong i=true:=λi h h'=>by
  unfold Builtin.Range.rangeFitsLong
  exact Bool.and_eq_true_iff.mpr ⟨decide_eq_true (Int.le_trans (by decide) h),decide_eq_true (Int.lt_of_le_of_lt h' (by decide))⟩
 unfold Builtin.Range.small
 have hn:((bB a b c).length:Int)≤2^20:=by exact_mod_cast h2
 rw[h1,key a (Int.le_trans (by decide) ha.1) (Int.le_trans ha.2 (by decide)),key b (Int.le_trans (by decide) hb.1) (Int.le_trans hb.2 (by decide)),key c (Int.le_trans (by decide) hc.1) (Int.le_trans hc.2 (by decide)),key _ (Int.le_trans (by decide) (Int.natCast_nonneg _)) (Int.le_trans hn (by decide))]
 simp only[Bool.true_and,Bool.and_true,Bool.or_eq_true]
 right
 split
 ·exact key _ (Int.le_trans (by decide) (Int.add_le_add hb.1 (Int.sub_le_sub_right hc.1 1))) (Int.le_trans (Int.add_le_add hb.2 (Int.sub_le_sub_right hc.2 1)) (by decide))
 ·exact key _ (Int.le_trans (by decide) (Int.add_le_add hb.1 (Int.add_le_add_right hc.1 1))) (Int.le_trans (Int.add_le_add hb.2 (Int.add_le_add_right hc.2 1)) (by decide))
theorem Dp(a b c:Int)(i:Nat)(h:i<(bB a b c).length):(bB a b c)[i]? =some (a+(i:Int)*c):=by
 simp only[bB,List.length_map,List.length_range]at h
 simp[bB,h]
theorem eQ.one?{h:Heap}{n:Nat}{ds:List D}{d:D}{vs:List Value}(e:one? ds=some d)(x:eQ Z h n ds vs): ∃v,vs= [v]∧aw Z h n d v:=by
 obtain rfl:=(zB e)
 exact x.one
theorem pk{f1:D→Option D}{f2:D→D→Option D}{f3:D→D→D→Option D}{ds:List D}{vs:List Value}{r:D}{P:List Value→Prop}{h:Heap}{n:Nat}(hr:arity f1 f2 f3 ds=some r)(hx:eQ Z h n ds vs)
  (h1: ∀a v,f1 a=some r→aw Z h n a v→P [v]) (h2: ∀a b v u,f2 a b=some r→aw Z h n a v→aw Z h n b u→P [v,u]) (h3: ∀a b c v u t,f3 a b c=some r→aw Z h n a v→aw Z h n b u→aw Z h n c t→P [v,u,t]):P vs:=by
 rcases ds with _|⟨a,_|⟨b,_|⟨c,_|⟨d,ds⟩⟩⟩⟩
 ·exact gV hr
 ·refine ai hx.one λv T9 x=>?_
  subst T9
  exact h1 a v hr x
 ·refine b8 hx.two λv u Ua x y=>?_
  subst Ua
  exact h2 a b v u hr x y
 ·refine qe hx.three λv u t Ub x y z=>?_
  subst Ub
  exact h3 a b c v u t hr x y z
 ·exact gV hr
theorem zQ{f:Int→Int→Option D}{x y r:D}{v u:Value}{h:Heap}{n:Nat}(hr:rU f x y=some r)(hx:aw Z h n x v)(hy:aw Z h n y u): ∃a b t t',v= .int a t∧u= .int b t'∧f a b=some r:=by
 refine b8 (fE hr) λa b Uc Ud e=>?_
 subst Uc
 subst Ud
 refine au (aG hx) λt Ue=>?_
 subst Ue
 refine au (aG hy) λt' Ug=>?_
 subst Ug
 exact⟨a,b,t,t',rfl,rfl,e⟩
theorem kn{x:D}{i:Int}{v:Value}{h:Heap}{n:Nat}(e:x.int?=some i)(hx:aw Z h n x v): ∃t,v= .int i t:=by
 obtain rfl:=(ba e)
 exact aG hx
theorem iL{x:D}{l:List D}{v:Value}{h:Heap}(e:x.i9=some l)(hx:aw Z h 1 x v): ∃a vs,v= .ref a∧l.length≤bW∧h.PlainList a vs.toArray∧aF Z h l vs:=by
 obtain rfl:=(ef e)
 exact fD hx
theorem Fj{f:BI}{ds:List D}{vs:List Value}{r:D}(hr:iI f ds=some r)(hx:eQ Z s.heap 1 ds vs)(hZ: ∀a,s.heap.objs.size≤a→Z a)(hh:A.handled=none)(hu:A.units+6<cLine)(hQ:Gives Z s r Q):
  wpAny (model prog w) A (call (jc f) vs) Q E s:=by
 cases f with
 |len=>
  refine ai (aK hr) λd h1 hr=>?_
  refine ai (hx.one? h1) λ_ Uh x=>?_
  subst Uh
  refine ai (omap hr) λl h2 Ui=>?_
  subst Ui
  refine ft (iL h2 x) λa vs Uj n i rr=>?_
  subst Uj
  have e:=rr.length
  refine Calls.call_len_list i.isList (by rw[List.size_toArray,e];exact qr n) ?_
  rw[List.size_toArray,e]
  exact hQ.atom (λ_=>⟨_,rfl⟩) rfl
 |max=>
  refine ai (aK hr) λp h1 hr=>?_
  cases rW h1
  refine b8 hx.two λ_ _ Uk x y=>?_
  subst Uk
  refine eh (zQ hr x y) λa b t t' Ul Um e=>?_
  subst Ul
  subst Um
  cases e
  exact max_two_ints hh λh' tk hk=>hQ.ext hk (λ_=>by split <;> exact⟨_,rfl⟩) rfl
 |abs=>
  refine ai (aK hr) λd h1 hr=>?_
  refine ai (hx.one? h1) λ_ Un x=>?_
  subst Un
  refine ai (omap hr) λa h2 Uo=>?_
  subst Uo
  refine au (kn h2 x) λt Up=>?_
  subst Up
  refine PyProof.Rows.call_abs_int λu tk=>?_
  have:(if a<0 then -a else a)=(a.natAbs:Int):=by
   split
   ·exact(Int.ofNat_natAbs_of_nonpos (Int.le_of_lt ‹_›)).symm
   ·exact(Int.natAbs_of_nonneg (Int.not_lt.mp ‹_›)).symm
  rw[this]
  exact hQ.atom (λ_=>⟨_,rfl⟩) rfl
 |range=>
  refine ai (aK hr) λd h1 hr=>?_
  refine ai (hx.one? h1) λ_ Uq x=>?_
  subst Uq
  refine ai (aK hr) λb h1 hr=>?_
  refine aX (eM hr) λ_ e=>?_
  cases e
  refine au (kn h1 x) λt Ur=>?_
  subst Ur
  exact call_range_1 (hQ _ _ _ (Ext.push _ _) ⟨_,_,_,_,rfl,hZ _ (Nat.le_refl _),IsRange.new _ _ _ _ _ _ _⟩ λl e=>by cases e)
 |list=>
  refine ai (aK hr) λd h1 hr=>?_
  refine ai (hx.one? h1) λ_ Us x=>?_
  subst Us
  cases d <;> first|exact gV hr|skip
  cases hr
  obtain⟨rfl,_,t,i⟩:=aw.plain x rfl
  obtain⟨o,ho,hc,ne,hd⟩:=i.isList
  have hz:=bY
  refine call_list_seq _ (.inl rfl) ho hc hd (λh' c' hk eu=>?_) (by show 1≤_;exact Nat.succ_pos _)
  exact hQ.made (vs:= #[Value.int _ t]) hZ (Nat.le_of_ble_eq_true rfl) hk (Nat.le_refl _) eu ⟨_,_,rfl,⟨t,rfl⟩,rfl⟩ _
 |type=>
  refine ai (aK hr) λd h1 hr=>?_
  refine ai (hx.one? h1) λ_ Ut x=>?_
  subst Ut
  refine bK (GV hr x.all) λT Uu h1 h2=>?_
  subst Uu
  exact call_type_of h1 h2 (hQ _ _ s.toks (.refl _) rfl λl e=>by cases e)
 |float=>
  refine ai (aK hr) λd h1 hr=>?_
  refine ai (hx.one? h1) λ_ Uv x=>?_
  subst Uv
  cases hs:d.gU with
  |some p=>
   replace hr:=hs▸hr
   refine aX (eM hr) λhl hr=>?_
   refine ai (omap hr) λn hn Uw=>?_
   subst Uw
   rw[cj hs]at x
   refine au (aw.plain x rfl) λt LI=>?_
   subst LI
   refine call_float_str hh (Nat.le_trans (Nat.add_le_add_right hl 40) (by decide)) (λh=>by rw[hn]at h;cases h) λ_=>?_
   rw[hn]
   exact hQ.atom (λ_=>⟨_,rfl⟩) rfl
  |none=>
  replace hr:=hs▸hr
  cases hb:d.bool? with
  |some b=>
   replace hr:=hb▸hr
   cases hr
   rw[iG hb]at x
   cases(show _=Value.bool b from aw.plain x rfl)
   exact call_float_bool (hQ.atom (λ_=>⟨_,rfl⟩) rfl)
  |none=>
  replace hr:=hb▸hr
  refine ai (aK hr) λa h2 hr=>?_
  refine aX (uk hr) λhv e=>?_
  cases e
  rw[ba h2]at x
  refine au (aG x) λt LJ=>?_
  subst LJ
  exact call_float_int_sharp hh (λh=>absurd h hv) λ_=>hQ.atom (λ_=>⟨_,rfl⟩) rfl
 |mH=>
  refine ai (aK hr) λd h1 hr=>?_
  refine ai (hx.one? h1) λ_ LK x=>?_
  subst LK
  refine ai (omap hr) λa h2 LL=>?_
  subst LL
  rw[ba h2]at x
  refine au (aG x) λt LM=>?_
  subst LM
  exact call_int_bit_length (hQ.atom (λ_=>⟨_,rfl⟩) rfl)
 |um=>
  refine pk (P:=λvs=>wpAny _ _ (call (jc .um) vs) _ _ _) hr hx (λd v hr x=>gV hr) (λd d' v u hr x y=>?_) λ_ _ _ _ _ _ hr _ _ _=>gV hr
  refine ai (aK hr) λl h1 hr=>?_
  refine aX (eM hr) λLN e=>?_
  obtain⟨h2,h3,_⟩:=LN
  cases e
  refine ft (iL h1 x) λa ws LO n i rr=>?_
  subst LO
  refine au (qq (prog:=prog) (w:=w) (A:=A.in1) (right:=false) h2 h3 rr y) λT hc=>?_
  have hl:=rr.length
  refine xP (by rw[List.size_toArray,hl];exact n) hu hc i.isList λtk t=>?_
  rw[List.size_toArray,hl]
  exact hQ.atom (λ_=>⟨_,rfl⟩) rfl
 |uo=>
  refine pk (P:=λvs=>wpAny _ _ (call (jc .uo) vs) _ _ _) hr hx (λd v hr x=>gV hr) (λd d' v u hr x y=>gV hr) λd d' d'' v u k hr x y z=>?_
  refine ai (aK hr) λj h0 hr=>?_
  refine aX (eM hr) λUx hr=>?_
  refine ai (aK hr) λl h1 hr=>?_
  refine aX (eM hr) λLP e=>?_
  obtain⟨h2,h3,h4⟩:=LP
  cases e
  refine ft (iL h1 x) λa ws LQ n i rr=>?_
  subst LQ
  refine au (qq (prog:=prog) (w:=w) (A:=A.in1) (right:=true) h2 h3 rr y) λT hc=>?_
  have hl:=rr.length
  rw[ba h0]at z
  refine au (aG z) λt LR=>?_
  subst LR
  refine au (Int.eq_ofNat_of_zero_le Ux) λm LS=>?_
  subst LS
  refine sC (i:=m) (by rw[List.size_toArray,hl];exact n) hu hc i.isList (by rw[List.size_toArray,hl];simpa using h4) λtk t=>?_
  rw[List.size_toArray,hl]
  exact hQ.atom (λ_=>⟨_,rfl⟩) rfl
 |int=>
  refine ai (aK hr) λd h1 hr=>?_
  refine ai (hx.one? h1) λ_ LU x=>?_
  subst LU
  refine ai (aK hr) λp hs hr=>?_
  refine aX (eM hr) λhl hr=>?_
  refine ai (omap hr) λn hn LV=>?_
  subst LV
  rw[cj hs]at x
  refine au (aw.plain x rfl) λt LW=>?_
  subst LW
  exact PySem.W.KIN.call_text hn hl (hQ.atom (λ_=>⟨_,rfl⟩) rfl)
 |divmod=>
  refine ai (aK hr) λp h1 hr=>?_
  refine ai (aK hr) λa h2 hr=>?_
  refine ai (aK hr) λb h3 hr=>?_
  refine aX (eM hr) λLX e=>?_
  obtain⟨hb,hp⟩:=LX
  cases e
  have uA:=rW h1
  subst uA
  refine b8 hx.two λv u LY x y=>?_
  subst LY
  refine au (kn h2 x) λt LZ=>?_
  subst LZ
  refine au (kn h3 y) λt' L0=>?_
  subst L0
  refine divmod_int hb ?_ (.inl hp)
  refine hQ _ _ _ (Ext.push _ _) ⟨_,[_,_],rfl,hZ _ (Nat.le_refl _),Nat.le_of_ble_eq_true rfl,⟨_,Heap.get?_push_size _ rfl,rfl,_,rfl⟩,_,_,rfl,⟨_,rfl⟩,_,_,rfl,⟨_,rfl⟩,rfl⟩ λl e=>by cases e
 |str=>
  refine ai (aK hr) λd h1 hr=>?_
  refine ai (hx.one? h1) λ_ L1 x=>?_
  subst L1
  refine ai (aK hr) λa h2 hr=>?_
  refine aX (eM hr) λhl e=>?_
  cases e
  refine au (kn h2 x) λt L2=>?_
  subst L2
  exact PySem.P.str_of_int hl (hQ.atom (λ_=>⟨_,rfl⟩) rfl)
end
end Mine.Internal
end
section
open PySem PyProof.Rows
namespace Mine.Internal
theorem uB{h:Heap}{a:Addr}{vs ws:List Value}(x:h.IsList a vs.toArray)(y:h.IsList a ws.toArray):vs=ws:=by
 obtain⟨o,ho,hc,n,hd⟩:=x
 obtain⟨o',eu,Fg,n',fo⟩:=y
 rw[ho]at eu
 obtain rfl:=Option.some.inj eu
 rw[hd]at fo;injection fo with e1 _
 simpa using congrArg Array.toList e1
theorem aZ.both{Z K:Addr→Prop}{h:Heap}{d:D}: ∀{v:Value},aZ Z h d v→aZ K h d v→aZ (λa=>Z a∧K a) h d v:=
 D.rec (motive_1:=λd=> ∀{v:Value},aZ Z h d v→aZ K h d v→aZ (λa=>Z a∧K a) h d v) (motive_2:=λds=> ∀{vs:List Value},aF Z h ds vs→aF K h ds vs→aF (λa=>Z a∧K a) h ds vs)
  (λx _=>x) (λ_ _ x _=>x) (λ_ _ x _=>x) (λ_ _ x _=>x) (λ_ _ x _=>x) (λ_ _ x _=>x)
  (λl ih v fe xR=>by
   refine cz fe λa vs e z n i r=>?_
   refine cz xR λb ws e' z' n' i' r'=>?_
   subst e;cases e'
   have:=iK i i';subst this
   exact⟨a,vs,rfl,⟨z,z'⟩,n,i,ih r r'⟩)
  (λl ih v fe xR=>by
   refine cz fe λa vs e z n i r=>?_
   refine cz xR λb ws e' z' n' i' r'=>?_
   subst e;cases e'
   have:=pe i i';subst this
   exact⟨a,vs,rfl,⟨z,z'⟩,n,i,ih r r'⟩)
  (λ_ _ _ v fe xR=>by
   refine eh fe λr t u x e z i=>?_
   refine eh xR λr' t' u' x' e' z' i'=>?_
   subst e;cases e'
   exact⟨r,t,u,x,rfl,⟨z,z'⟩,i⟩)
  (λl ih v fe xR=>by
   refine CS fe λi a vs e z z' ne n it il r=>?_
   refine CS xR λi1 a1 vs1 e1 y y' ne1 n1 Y0 Y1 r1=>?_
   subst e;cases e1
   have ha:a=a1:=by
    refine bK it λo ho hc hd=>?_
    refine bK Y0 λo' eu Fg fo=>?_
    rw[ho]at eu
    obtain rfl:=Option.some.inj eu
    rw[hd]at fo
    simpa using fo
   subst ha
   have:=uB il Y1;subst this
   exact⟨i,a,vs,rfl,⟨z,y⟩,⟨z',y'⟩,ne,n,it,il,ih r r1⟩)
  (λl v fe xR=>by
   refine cz fe λa vs e z n i r=>?_
   refine cz xR λb ws e' z' n' i' r'=>?_
   subst e;cases e'
   exact⟨a,vs,rfl,⟨z,z'⟩,n,i,r⟩)
  (λx _=>x)
  (λa m v fe xR=>by
   refine gM fe λe z r=>?_
   refine gM xR λ_ z' _=>?_
   exact⟨e,⟨z,z'⟩,r⟩)
  (λ_ _ x _=>x) (λx _=>x)
  (λd ds GH IX vs fe xR=>by
   refine b8 fe λv ws e r rs=>?_
   refine b8 xR λv' YY e' r' om=>?_
   subst e;cases e'
   exact⟨v,ws,rfl,GH r r',IX rs om⟩) d
theorem aw.both{Z K:Addr→Prop}{h h':Heap}(hk: ∀b o,K b→cQ o→h.get? b=some o→h'.get? b=some o){n:Nat}: ∀{d:D} {v:Value},aw Z h n d v→aZ K h d v→aw (λa=>Z a∧K a) h' n d v:=by
 induction n with
 |zero=>exact λx y=>(aZ.both x y).dat λa o z hd e=>⟨hk a o z.2 hd e,z⟩
 |succ n ih=>
  intro d v x y
  rcases d.kinds with⟨l,rfl⟩|hd
  ·refine cz x λa vs e b i hl r=>?_
   refine cz y λc ws e' z' n' i' r'=>?_
   subst e;cases e'
   have:=iK i i';subst this
   refine⟨a,vs,rfl,b,?_,hl,λj d w h1 h2=>?_⟩
   ·refine au i λk ho=>?_
    exact⟨k,hk a _ z' (.inl ⟨_,_,rfl⟩) ho⟩
   refine ai (r'.get h1) λw' h3 r3=>?_
   replace h3:=h2▸h3
   obtain rfl:=Option.some.inj h3
   exact ih (r j d w h1 h2) r3
  ·exact .atom ((aZ.both (x.plain hd) y).dat λa o z hd e=>⟨hk a o z.2 hd e,z⟩) hd
theorem aw.items{Z:Addr→Prop}{h:Heap}: ∀{n:Nat} {l:List D} {v:Value},aw Z h n (.list l) v→ ∃(a:Addr) (vs:List Value),v= .ref a∧l.length≤bW∧h.PlainList a vs.toArray∧vs.length=l.length∧
  ∀(i:Nat) (d:D) (w:Value),l[i]? =some d→vs[i]? =some w→aw Z h (n-1) d w
 |0,l,v,fe=>by
  refine cz fe λa vs e z n i r=>?_
  exact⟨a,vs,e,n,i,r.length,λj d w h1 h2=>by
   refine ai (r.get h1) λw' h3 r3=>?_
   replace h3:=h2▸h3
   obtain rfl:=Option.some.inj h3
   exact r3⟩
 |n+1,l,v,fe=>by
  refine cz fe λa vs e b i hl r=>?_
  exact⟨a,vs,e,b,i,hl,r⟩
section
variable{prog:Program}{w:World}{A:Around}{E:Value→Shared→Prop}{s:Shared}{Z:Addr→Prop}{Q:Value→Shared→Prop}
theorem Dq{n:Nat}{i:Int}{j:Nat}(h:Dg n i=some j):0≤i∧i<n∧j=i.toNat:=by
 refine aX (eM h) λh0 h=>?_
 refine aX (eM h) λh1 e=>?_
 exact⟨h0,h1,(Option.some.inj e).symm⟩
theorem Dr{n:Nat}{x y r:D}{vx vy:Value}{value slice:Expr}(hr:o9 x y=some r)(hx:aw Z s.heap n x vx)(hy:aw Z s.heap 1 y vy)(hs: ∀o i,subscripted slice false o i=operate [o,i] (getItem o i))
  (hQ: ∀v tk,aw Z s.heap (n-1) r v→Q v {s with toks:=tk}):wpAny (model prog w) A (subscriptTail value slice vx vy) Q E s:=by
 refine ai (aK hr) λk hk hr=>?_
 refine au (kn hk hy) λt L3=>?_
 subst L3
 refine ai (aK hr) λl hl h2=>?_
 refine ai (aK h2) λj hj h3=>?_
 have Uy:=(List.getElem?_eq_some_iff.mp h3).1
 refine gM (Dq hj) λh0 h1 L4=>?_
 subst L4
 rcases zA hl with rfl|rfl
 ·refine cz hx.items λa vs L5 hl i hlen d7=>?_
  subst L5
  have xJ:=qr hl
  obtain⟨u,hv⟩: ∃u,vs[k.toNat]? =some u:=⟨_,List.getElem?_eq_getElem (hlen▸Uy)⟩
  refine tail_any i.isList.typeIs slot_list_getitem.lookup ?_ (hs _ _)
  exact wpAny_getItem_list i.isList h0 (Int.lt_trans h1 xJ) (by simpa using hv) (hQ _ s.toks (d7 _ _ _ h3 hv))
 ·refine cz (aw.plain hx rfl) λa vs L6 _ hl i jd=>?_
  subst L6
  have xJ:=qr hl
  refine ai (jd.get h3) λv hv rv=>?_
  refine tail_any (T:= "tuple") (id:= "tuple.__getitem__") (IsTup.typeIs i) slot_tuple_getitem.lookup ?_ (hs _ _)
  have hlen:=jd.length
  refine PyProof.Rows.getItem_tuple i (j:=k.toNat) (Int.le_trans (by decide) h0) (Int.lt_trans h1 xJ) ?_ (by simpa using hv) (hQ _ s.toks (.cB rv))
  unfold seqIndex?
  simp[hlen,Int.not_lt.mpr h0,h0,h1]
theorem part_of{d:D}{v:Value}{p:Option Int}(h:zD d=some p)(x:aw Z s.heap 1 d v):IsPart v p:=by
 cases d <;> first|exact gV h|skip
 ·cases h;cases x;exact .none
 ·cases h;obtain⟨t,rfl⟩:=aG x;exact .int _ _
theorem g9{α:Type}(l:List α): ∀(c a:Nat),((List.range' a c).filterMap (l[·]?))=(l.drop a).take c
 |0,a=>by simp
 |c+1,a=>by
  rw[List.range'_succ,List.filterMap_cons]
  by_cases h:a<l.length
  ·rw[List.getElem?_eq_getElem h,List.drop_eq_getElem_cons h,List.take_succ_cons,g9 l c (a+1)]
  ·rw[List.getElem?_eq_none (Nat.le_of_not_lt h),g9 l c (a+1),List.drop_eq_nil_of_le (Nat.le_succ_of_le (Nat.le_of_not_lt h)),List.drop_eq_nil_of_le (Nat.le_of_not_lt h)];simp
noncomputable def pn(n:Nat)(i:Int):Nat:=(max 0 (min (if i<0 then i+n else i) n)).toNat
noncomputable def wg(n:Nat):Option Int→Nat
 |none=>0
 |some i=>pn n i
noncomputable def y7(n:Nat):Option Int→Nat
 |none=>n
 |some i=>pn n i
theorem jn{α:Type}(l:List α)(lo hi:Option Int):ff l lo hi none=(l.drop (wg l.length lo)).take (y7 l.length hi-wg l.length lo):=by
 unfold ff slicePlaces
 have h1:(sliceBounds lo hi none l.length).1=(wg l.length lo:Int):=by
  cases lo with
  |none=>rfl
  |some i=>simp[sliceBounds,wg,pn]
 have h2:(sliceBounds lo hi none l.length).2.1=(y7 l.length hi:Int):=by
  cases hi with
  |none=>rfl
  |some i=>simp[sliceBounds,y7,pn]
 have h3:(sliceBounds lo hi none l.length).2.2=1:=rfl
 rw[h1,h2,h3]
 have:sliceRange (wg l.length lo:Int) (y7 l.length hi:Int) 1=List.range' (wg l.length lo) (y7 l.length hi-wg l.length lo):=by
  unfold sliceRange
  rw[List.range'_eq_map_range]
  dsimp only
  have:(if(1:Int)>0 then(if(wg l.length lo:Int)<(y7 l.length hi:Int)then((y7 l.length hi:Int)-(wg l.length lo:Int)+1-1)/1 else 0)else(if(wg l.length lo:Int)>(y7 l.length hi:Int)then((wg l.length lo:Int)-(y7 l.length hi:Int)-1-1)/(-1)else 0)).toNat=y7 l.length hi-wg l.length lo:=by
   rw[if_pos (by decide)]
   exact span
  rw[this]
  apply List.map_congr_left
  intro k _
  rw[Int.one_mul];rfl
 rw[this,g9]
theorem xS{α:Type}(l:List α)(lo hi:Option Int):(ff l lo hi none).length≤l.length:=by
 rw[jn]
 exact Nat.le_trans (List.length_take_le' ..) (by rw[List.length_drop];exact Nat.sub_le _ _)
theorem zR{x lo hi st r:D}{vx vl vu vs:Value}{sl:Addr}{value slice:Expr}{ops:List Value}(hr:fg x lo hi st=some r)(hx:aw Z s.heap 1 x vx)(Rn:s.heap.IsSliceOf sl vl vu vs)
  (hl:aw Z s.heap 1 lo vl) (hu:aw Z s.heap 1 hi vu) (gD:aw Z s.heap 1 st vs) (hs:subscripted slice false vx (.ref sl)=operate ops (getItem vx (.ref sl)))
  (hZ: ∀a,s.heap.objs.size≤a→Z a) (hQ:Gives Z s r Q):wpAny (model prog w) A (subscriptTail value slice vx (.ref sl)) Q E s:=by
 replace hr:(match x.gU with|some z=>_|none=>_)=some r:=hr
 cases C6:x.gU with
 |some z=>
  replace hr:=C6▸hr
  refine ai (aK hr) λ_ e1 hr=>?_
  refine ai (aK hr) λj e2 hr=>?_
  refine ai (aK hr) λ_ e3 hr=>?_
  refine aX (eM hr) λhlen e=>?_
  obtain rfl:=Option.some.inj e
  have hz:=bY
  rw[cj C6]at hx
  rw[gZ e1]at hl
  rw[ba e2]at hu
  rw[gZ e3]at gD
  refine au (aw.plain hx rfl) λt L7=>?_
  subst L7
  obtain rfl:=(show vl= .none from aw.plain hl rfl)
  refine au (aG hu) λu L8=>?_
  subst L8
  obtain rfl:=(show vs= .none from aw.plain gD rfl)
  refine tail_of_ItemOn ⟨"str",_,PySem.F.slot_str_getitem.lookup,typeIs_str _ _ _,wpAny_getItem_str_slice (l:=none) (u:=some (j,u)) (st:=none) Rn rfl ?_⟩ hs λ_=>by cases value <;> with_unfolding_all rfl
  exact post_val_or_str ⟨Nat.le_trans (Txt.slice_le z _ _) (Nat.le_trans hlen hz),λt' k=>hQ.atom (tk:=k) (λ_=>⟨_,rfl⟩) rfl⟩
 |none=>
 replace hr:=C6▸hr
 refine ai (aK hr) λl e0 hr=>?_
 refine ai (aK hr) λp e1 hr=>?_
 refine ai (aK hr) λq e2 hr=>?_
 refine ai (aK hr) λ_ e3 hr=>?_
 obtain rfl:=Option.some.inj hr
 rw[gZ e3]at gD
 refine ft (iL e0 hx) λa ws L9 n i rr=>?_
 subst L9
 have hz:=bY
 refine tail_any i.isList.typeIs slot_list_getitem.lookup ?_ hs
 refine wpAny_getItem_list_slice i.isList Rn (part_of e1 hl) (part_of e2 hu) (part_of (p:=none) rfl gD) (by decide) ?_ (by rw[List.size_toArray,rr.length];exact Nat.le_trans n hz)
 have e:slicePick ws.toArray p q none=((slicePlaces l.length p q none).filterMap (ws[·]?)).toArray:=by
  unfold slicePick slicePlaces
  rw[List.size_toArray,rr.length]
  simp
 rw[e]
 exact hQ.mJ hZ (Nat.le_trans (xS l p q) n) (rr.pick _)
end
end Mine.Internal
end
section
open PySem PyProof.Rows
namespace Mine.Internal
noncomputable def cE(env:Env)(h:Heap)(x:Str)(v:Value):Prop:=
 (env.kindOf x=some .local∧ ∃m,h.Ns env.locals m∧m x=some v)∨
 ((env.kindOf x=some .cell∨env.kindOf x=some .free)∧ ∃c,env.cells.lookup x=some c∧h.IsCell c (some v))
noncomputable def seen(env:Env)(x:Str):Prop:=env.kindOf x=some .local∨env.kindOf x=some .cell∨env.kindOf x=some .free
structure Cx where
 prog:Program
 w:World
 mg:Str→Option Value
 mb:Str→Option Value
 hT:Heap
 bn:Str→Option Value
 nt:List Str
 lv:Nat→Nat
 ow:Nat→Nat
 Φ:Nat→List D→Option D
 sD:Nat→Str
 wi:Nat→List Nat
 Fl:Nat→Bool
 k:Nat
 fr:Bool:=false
 Ro:Nat→Bool:=λ_=>false
structure jo(k:Nat)(A:Around):Prop where
 handled:A.handled=none
 depth:A.depth+k<recursionLimit
 units:A.units+10*k+20<cLine
inductive dQ(Z:Addr→Prop)(h:Heap):List Nat→List D→List Value→Prop
 |nil:dQ Z h [] [] []
 |cons {n ns d ds v vs}:aw Z h n d v→dQ Z h ns ds vs→dQ Z h (n::ns) (d::ds) (v::vs)
noncomputable def given(ds:List D)(vs:List Value)(b:Addr):Prop:= ∃(i:Nat) (l:List D),ds[i]? =some (D.lM l)∧vs[i]? =some (Value.ref b)
noncomputable def GW(c:Cx)(f:Nat)(ds:List D)(r:D)(a:Addr):Prop:=
 ∀(A:Around) (s:Shared) (Z:Addr→Prop) (vs:List Value) (Q:Value→Shared→Prop) (E:Value→Shared→Prop),jo c.k A→Ext c.hT s.heap→dQ Z s.heap (c.wi f) ds vs→(∀a,s.heap.get? a=none→Z a)→
  (∀b,given ds vs b→c.hT.get? b=none)→
  (∀v h' tk,(∀b o,¬given ds vs b→s.heap.get? b=some o→h'.get? b=some o)→aZ Z h' r v→(c.Fl f=true→ja Z s.heap h' r v)→Q v {s with heap:=h',toks:=tk})→
  (∃o fd,s.heap.get? a=some o∧o.data= .func fd)∧wpAny (model c.prog c.w) A (call (.ref a) vs) Q E s
structure Cx.Ok(c:Cx):Prop where
 g:c.hT.Ns mainGlobals c.mg
 b:c.hT.Ns builtinsNs c.mb
 bn: ∀x v,c.bn x=some v→c.mg x=none∧c.mb x=some v
 nodup:c.nt.Nodup
 calls: ∀f ds r,c.Φ f ds=some r→ ∃a,c.mg (c.sD f)=some (.ref a)∧(∃o fd,c.hT.get? a=some o∧o.data= .func fd)∧GW c f ds r a
 cons:True
structure lN(c:Cx)(A:Around)(env:Env)(s:Shared)(σ:ah)(Z:Addr→Prop):Prop where
 room:jo c.k A
 fn:env.scope.kind= .function
 gl:env.globals=mainGlobals
 bl:env.builtins=builtinsNs
 top:Ext c.hT s.heap
 hZ: ∀a,s.heap.get? a=none→Z a
 cell: ∀x,(env.kindOf x=some .cell∨env.kindOf x=some .free)→ ∃a v,env.cells.lookup x=some a∧s.heap.IsCell a v
 apart: ∀x y a,env.cells.lookup x=some a→env.cells.lookup y=some a→x=y
 var: ∀x d name,σ x=some d→c.nt[x]? =some name→seen env name→ ∃v,cE env s.heap name v∧aw Z s.heap (c.lv x) d v
theorem cE.keep{env:Env}{h h':Heap}{x:Str}{v:Value}(n:cE env h x v)(hk:Ext h h'):cE env h' x v:=by
 rcases n with⟨hl,m,hn,hv⟩|⟨hl,a,ha,hv⟩
 ·exact .inl ⟨hl,m,hn.keeps hk,hv⟩
 ·exact .inr ⟨hl,a,ha,hv.keeps hk⟩
theorem aE{h h':Heap}(hk:Ext h h'){a:Addr}(e:h'.get? a=none):h.get? a=none:=by
 cases e':h.get? a with
 |none=>rfl
 |some o=>rw[hk a o e']at e;cases e
section
variable{c:Cx}{A:Around}{env:Env}{s:Shared}{σ:ah}{Z:Addr→Prop}
theorem lN.next(p:lN c A env s σ Z){h':Heap}{tk:Nat}(hk:Ext s.heap h'):lN c A env {s with heap:=h',toks:=tk} σ Z where
 room:=p.room
 fn:=p.fn
 gl:=p.gl
 bl:=p.bl
 top:=p.top.trans hk
 hZ a e:=p.hZ a (aE hk e)
 cell x hx:=let⟨a,v,h1,h2⟩:=p.cell x hx;⟨a,v,h1,h2.keeps hk⟩
 apart:=p.apart
 var x d name h1 h2 h3:=let⟨v,h4,h5⟩:=p.var x d name h1 h2 h3;⟨v,h4.keep hk,h5.ext hk⟩
theorem lN.new(p:lN c A env s σ Z): ∀a,s.heap.objs.size≤a→Z a:=λ_ ha=>p.hZ _ (gone ha)
end
noncomputable def gG(c:Cx):ME→Nat
 | .var x=>c.lv x
 | .item a _=>gG c a-1
 | .oC _ a b=>max (gG c a) (gG c b)
 |_=>0
noncomputable def fresh(c:Cx):ME→Bool
 | .lst _=>true
 | .comp .. =>true
 | .rZ .. =>true
 | .bin .. =>true
 | .bi .. =>true
 | .call f _=>c.Fl f
 | .oC _ a b=>fresh c a&&fresh c b
 |_=>false
noncomputable def ay(c:Cx)(sc:Scope)(me:ME)(x:Expr):Prop:=
 ∀(A:Around) (env:Env) (s:Shared) (σ:ah) (Z:Addr→Prop) (d:D) (Q:Value→Shared→Prop) (E:Value→Shared→Prop),env.scope=sc→lN c A env s σ Z→(ar c.Φ me).v σ=some d→
  (∀v h' tk,Ext s.heap h'→aw Z h' (gG c me) d v→(fresh c me=true→ja Z s.heap h' d v)→Q v {s with heap:=h',toks:=tk})→wpAny (model c.prog c.w) A (eval x env) Q E s
noncomputable def dN(c:Cx)(sc:Scope)(me:ME)(x:Expr):Prop:=
 ∀(A:Around) (env:Env) (s:Shared) (σ:ah) (Z:Addr→Prop) (b:Bool) (Q:Bool→Shared→Prop) (E:Value→Shared→Prop),env.scope=sc→lN c A env s σ Z→(ar c.Φ me).t σ=some b→
  (∀h' tk,Ext s.heap h'→Q b {s with heap:=h',toks:=tk})→wpAny (model c.prog c.w) A (isTrue x env (eval x env)) Q E s
noncomputable def zS(c:Cx)(sc:Scope)(me:ME)(x:Expr):Prop:=
 ∀(A:Around) (env:Env) (s:Shared) (σ:ah) (Z:Addr→Prop) (d:D) (Q:Value→Shared→Prop) (E:Value→Shared→Prop),env.scope=sc→lN c A env s σ Z→(ar c.Φ me).it σ=some d→
  (∀v h' tk,Ext s.heap h'→aw Z h' (gG c me) d v→(∀l,d= .lM l→ ∀b,v= .ref b→s.heap.get? b=none)→Q v {s with heap:=h',toks:=tk})→wpAny (model c.prog c.w) A (eval x env) Q E s
noncomputable def isStar:Expr→Bool
 | .Starred .. =>true
 |_=>false
noncomputable def Ds(c:Cx):ME→List Nat
 | .cons e es=>gG c e::Ds c es
 |_=> []
noncomputable def fh(c:Cx)(sc:Scope)(me:ME)(xs:List Expr):Prop:=
 xs.all (!isStar ·)=true∧
 ∀(A:Around) (env:Env) (s:Shared) (σ:ah) (Z:Addr→Prop) (ds:List D) (pos:Pos) (Q:List Value→Shared→Prop) (E:Value→Shared→Prop),env.scope=sc→lN c A env s σ Z→(ar c.Φ me).l σ=some ds→
  (∀vs h' tk,Ext s.heap h'→dQ Z h' (Ds c me) ds vs→Q vs {s with heap:=h',toks:=tk})→wpAny (model c.prog c.w) A (spliced (backTo pos (starEach xs env))) Q E s
section
variable{c:Cx}{sc:Scope}{A:Around}{E:Value→Shared→Prop}{s:Shared}{env:Env}{σ:ah}{Z:Addr→Prop}
theorem jL{x:Str}{v:Value}{Q:Value→Shared→Prop}(hk:env.scope.kind= .function)(n:cE env s.heap x v)(hx:(x==("__classdict__":Str))=false)(h:Q v s):wpAny (model c.prog c.w) A (loadName env x) Q E s:=by
 rcases n with⟨hl,m,hn,hv⟩|⟨hl,a,ha,hv⟩
 ·exact wpAny_loadName_local hk hl hn hv h
 ·rcases hl with hl|hl
  ·exact wpAny_loadName_cell hk hl ha hv h
  ·exact wpAny_loadName_free hk hl ha hv h hx
noncomputable def aR(x:Str):Bool:= !(x==("__debug__":Str))&& !(x==("__classdict__":Str))
noncomputable def mP(sc:Scope)(x:Str):Bool:=sc.names.lookup x==some .local||sc.names.lookup x==some .cell||sc.names.lookup x==some .free
theorem l9{x:Str}(he:env.scope=sc)(h:mP sc x=true):seen env x:=by
 unfold seen Env.kindOf
 rw[he]
 simp only[mP,Bool.or_eq_true,beq_iff_eq]at h
 rcases h with(h|h)|h
 ·exact .inl h
 ·exact .inr (.inl h)
 ·exact .inr (.inr h)
theorem af{x:Nat}{name:Str}{pos:Pos}(hn:c.nt[x]? =some name)(hs:mP sc name=true)(d9:aR name=true):ay c sc (.var x) (.Name name pos):=by
 intro A env s σ Z d Q E he p hd hQ
 simp only[aR,Bool.and_eq_true,Bool.not_eq_true']at d9
 have fo:σ x=some d:=by
  refine ai (aK hd) λe he h=>?_
  rw[←(iJ h).1];exact he
 refine ai (p.var x d name fo hn (l9 he hs)) λv h1 h2=>?_
 exact wpAny_Name (jL p.fn h1 d9.2 (hQ v s.heap s.toks (.refl _) h2 λh=>by cases h)) d9.1
theorem fF{x:Str}{pos:Pos}{v:Value}{Q:Value→Shared→Prop}(he:env.scope=sc)(p:lN c A env s σ Z)(ok:c.Ok)(hb:c.bn x=some v)(hs:sc.names.lookup x=some .globalImplicit)(d9:aR x=true)(h:Q v s):
  wpAny (model c.prog c.w) A (eval (.Name x pos) env) Q E s:=by
 simp only[aR,Bool.and_eq_true,Bool.not_eq_true']at d9
 refine aX (ok.bn x v hb) λh1 h2=>?_
 refine Calls.Name_function_global p.fn (by unfold Env.kindOf;rw[he];exact hs) ?_ d9.1
 exact Calls.loadGlobal_builtin (mg:=c.mg) (mb:=c.mb) (by rw[p.gl];exact ok.g.keeps p.top) h1 (by rw[p.bl];exact ok.b.keeps p.top) h2 h
theorem jM{x:Str}{pos:Pos}{v:Value}{Q:Value→Shared→Prop}(he:env.scope=sc)(p:lN c A env s σ Z)(ok:c.Ok)(hb:c.mg x=some v)(hs:sc.names.lookup x=some .globalImplicit)(d9:aR x=true)(h:Q v s):
  wpAny (model c.prog c.w) A (eval (.Name x pos) env) Q E s:=by
 simp only[aR,Bool.and_eq_true,Bool.not_eq_true']at d9
 refine Calls.Name_function_global p.fn (by unfold Env.kindOf;rw[he];exact hs) ?_ d9.1
 exact Calls.loadGlobal_global (mg:=c.mg) (by rw[p.gl];exact ok.g.keeps p.top) hb h
theorem ay.bE{me:ME}{x:Expr}(h0:gG c me=0)
  (h: ∀(A:Around) (env:Env) (s:Shared) (σ:ah) (Z:Addr→Prop) (d:D) (Q:Value→Shared→Prop) (E:Value→Shared→Prop),env.scope=sc→lN c A env s σ Z→(ar c.Φ me).v σ=some d→Gives Z s d Q→wpAny (model c.prog c.w) A (eval x env) Q E s):
  ay c sc me x:=λA env s σ Z d Q E he p hd hQ=>h A env s σ Z d Q E he p hd λv h' tk hx hr hf=>hQ v h' tk hx (by rw[h0];exact hr) λ_=>hf
theorem Gives.later{d:D}{Q:Value→Shared→Prop}(h:Gives Z s d Q){h1:Heap}{t1:Nat}(hx:Ext s.heap h1):Gives Z {s with heap:=h1,toks:=t1} d Q:=by
 intro v h' tk cv hr hf
 refine h v h' tk (hx.trans cv) hr λl e=>?_
 refine qe (hf l e) λa vs e1 e2 e3 e4 e5=>?_
 exact⟨a,vs,e1,e2,aE hx e3,e4,e5⟩
theorem hF{me:ME}{x:Expr}(h:ay c sc me x)(ht: ∀σ,(ar c.Φ me).t σ=((ar c.Φ me).v σ).bind cD)
  (hx: ∀env whole,isTrue x env whole=(do let v←whole;standAt x.pos;holding [v] (truthy v))):dN c sc me x:=by
 intro A env s σ Z b Q E he p hb hQ
 rw[ht]at hb
 refine ai (Option.bind_eq_some_iff.mp hb) λd hd hb=>?_
 refine isTrue_plain (h A env s σ Z d _ E he p hd λv h' tk hx hr _=>?_) (hx env _)
 exact zN hb hr.all λje=>hQ h' je hx
theorem pq{me:ME}{x:Expr}(h:ay c sc me x)(ht: ∀σ,(ar c.Φ me).it σ=((ar c.Φ me).v σ).bind aV):zS c sc me x:=by
 intro A env s σ Z d Q E he p hb hQ
 rw[ht]at hb
 refine ai (Option.bind_eq_some_iff.mp hb) λd' hd hb=>?_
 refine aX (iJ hb) λMa hn=>?_
 subst Ma
 exact h A env s σ Z d' _ E he p hd λv h' tk hx hr _=>hQ v h' tk hx hr λl e=>absurd e (hn l)
theorem aq{i:Int}{k:Nat}{pos:Pos}:ay c sc (.aL (.int i)) (.Constant (.int i) k pos):= .bE rfl λA env s σ Z d Q E he p hd hQ=>by
 obtain rfl:=Option.some.inj hd
 exact wpAny_Constant_int (hQ.atom (λ_=>⟨_,rfl⟩) rfl)
theorem a8{i:Str}{k:Nat}{pos:Pos}:ay c sc (.aL (.str i)) (.Constant (.str i) k pos):= .bE rfl λA env s σ Z d Q E he p hd hQ=>by
 obtain rfl:=Option.some.inj hd
 exact wpAny_Constant_str (hQ.atom (λ_=>⟨_,rfl⟩) rfl)
theorem dR{i:Bool}{k:Nat}{pos:Pos}:ay c sc (.aL (.bool i)) (.Constant (.bool i) k pos):= .bE rfl λA env s σ Z d Q E he p hd hQ=>by
 obtain rfl:=Option.some.inj hd
 exact wpAny_Constant_bool (hQ.atom (tk:=s.toks) (λ_=>rfl) rfl)
theorem hH{k:Nat}{pos:Pos}:ay c sc (.aL .none) (.Constant .none k pos):= .bE rfl λA env s σ Z d Q E he p hd hQ=>by
 obtain rfl:=Option.some.inj hd
 exact wpAny_Constant_none (hQ.atom (tk:=s.toks) (λ_=>rfl) rfl)
theorem ko{x:Str}{n:String}{pos:Pos}(ok:c.Ok)(hb:c.bn x=some (.type n))(hs:sc.names.lookup x=some .globalImplicit)(d9:aR x=true):ay c sc (.tW n) (.Name x pos):= .bE rfl λA env s σ Z d Q E he p hd hQ=>by
 obtain rfl:=Option.some.inj hd
 exact fF he p ok hb hs d9 (hQ.atom (tk:=s.toks) (λ_=>rfl) rfl)
theorem zU{a:ME}{x:Expr}{pos:Pos}(ha:ay c sc a x):ay c sc (.neg a) (.UnaryOp .USub x pos):= .bE rfl λA env s σ Z d Q E he p hd hQ=>by
 refine ai (aK hd) λy hy hd=>?_
 refine ai (omap hd) λi hi Mb=>?_
 subst Mb
 obtain rfl:=(ba hi)
 refine UnaryOp_ (ha A env s σ Z _ _ E he p hy λv h' tk hx hr _=>?_)
 refine au (aG hr) λt Mc=>?_
 subst Mc
 exact PyProof.Rows.neg_int ((hQ.later hx).atom (λ_=>⟨_,rfl⟩) rfl)
theorem kr{a:ME}{x:Expr}{pos:Pos}(ha:dN c sc a x):dN c sc (.not a) (.UnaryOp .Not x pos):=by
 intro A env s σ Z b Q E he p hb hQ
 refine ai (Option.map_eq_some_iff.mp hb) λb' h1 Me=>?_
 subst Me
 exact PyProof.Rows.isTrue_not (ha A env s σ Z _ _ E he p h1 hQ)
theorem ao{o:Operator}{a b:ME}{x y:Expr}{pos:Pos}(ha:ay c sc a x)(hb:ay c sc b y)(la:gG c a≤1)(lb:gG c b≤1):ay c sc (.bin o a b) (.BinOp x o y pos):= .bE rfl λA env s σ Z d Q E he p hd hQ=>by
 refine ai (Option.bind_eq_some_iff.mp hd) λd1 h1 hd=>?_
 refine ai (Option.bind_eq_some_iff.mp hd) λd2 h2 hd=>?_
 refine wpAny_BinOp (ha A env s σ Z _ _ E he p h1 λv1 k1 t1 x1 r1 _=>?_)
 have p1:=p.next (tk:=t1) x1
 refine hb A env _ σ Z _ _ E he p1 h2 λv2 k2 t2 x2 r2 _=>?_
 have p2:=p1.next (tk:=t2) x2
 exact zH hd ((r1.ext x2).le la) (r2.le lb) p2.new p.room.handled ((hQ.later x1).later x2)
theorem df(r:jo c.k A):A.units+6<cLine:=WO r.units (by decide)
theorem mQ{o:CmpOp}{a b:ME}{x y:Expr}{pos:Pos}(ha:ay c sc a x)(hb:ay c sc b y)(hm:behindInMarks o y=false):ay c sc (.cmp o a b) (.Compare x [o] [y] pos):= .bE rfl λA env s σ Z d Q E he p hd hQ=>by
 refine ai (Option.bind_eq_some_iff.mp hd) λd1 h1 hd=>?_
 refine ai (Option.bind_eq_some_iff.mp hd) λd2 h2 hd=>?_
 refine ai (Option.map_eq_some_iff.mp hd) λr h3 Mf=>?_
 subst Mf
 refine wpAny_Compare1 (ha A env s σ Z _ _ E he p h1 λv1 k1 t1 x1 r1 _=>?_) hm
 have p1:=p.next (tk:=t1) x1
 refine hb A env _ σ Z _ _ E he p1 h2 λv2 k2 t2 x2 r2 _=>?_
 exact qp h3 (r1.ext x2).all r2.all (df p.room) (((hQ.later x1).later (t1:=t2) x2).atom (tk:=t2) (λ_=>rfl) rfl)
theorem aB{o:CmpOp}{a b:ME}{x y:Expr}{pos:Pos}(ha:ay c sc a x)(hb:ay c sc b y)(hm:behindInMarks o y=false):dN c sc (.cmp o a b) (.Compare x [o] [y] pos):=by
 intro A env s σ Z r Q E he p hd hQ
 refine ai (Option.bind_eq_some_iff.mp hd) λd1 h1 hd=>?_
 refine ai (Option.bind_eq_some_iff.mp hd) λd2 h2 hd=>?_
 refine wpAny_isTrue_Compare1 (ha A env s σ Z _ _ E he p h1 λv1 k1 t1 x1 r1 _=>?_) hm
 have p1:=p.next (tk:=t1) x1
 refine hb A env _ σ Z _ _ E he p1 h2 λv2 k2 t2 x2 r2 _=>?_
 exact qp hd (r1.ext x2).all r2.all (df p.room) (wpAny_truthy_bool (hQ _ _ (x1.trans x2)))
theorem fG{t a b:ME}{x y z:Expr}{pos:Pos}(ht:dN c sc t x)(ha:ay c sc a y)(hb:ay c sc b z):ay c sc (.oC t a b) (.IfExp x y z pos):=by
 intro A env s σ Z d Q E he p hd hQ
 refine ai (Option.bind_eq_some_iff.mp hd) λr h1 hd=>?_
 refine IfExp_ (ht A env s σ Z r _ E he p h1 λh' tk hx=>?_)
 have p1:=p.next (tk:=tk) hx
 have Xm: ∀{dA v},ja Z h' dA d v→ja Z s.heap dA d v:=λhf l e=>by
  refine qe (hf l e) λa vs e1 e2 e3 e4 e5=>?_
  exact⟨a,vs,e1,e2,aE hx e3,e4,e5⟩
 cases r with
 |true=>
  exact ha A env _ σ Z d Q E he p1 hd λv dA je cv hr hf=>hQ v dA je (hx.trans cv) (hr.le (Nat.le_max_left _ _)) λe=>Xm (hf ((Bool.and_eq_true_iff.mp (show(fresh c a&&fresh c b)=true from e)).1))
 |false=>
  exact hb A env _ σ Z d Q E he p1 hd λv dA je cv hr hf=>hQ v dA je (hx.trans cv) (hr.le (Nat.le_max_right _ _)) λe=>Xm (hf ((Bool.and_eq_true_iff.mp (show(fresh c a&&fresh c b)=true from e)).2))
end
end Mine.Internal
end
section
open PySem PyProof.Rows
namespace Mine.Internal
section
variable{c:Cx}{sc:Scope}{A:Around}{E:Value→Shared→Prop}{s:Shared}{env:Env}{σ:ah}{Z:Addr→Prop}
noncomputable def wj(c:Cx)(sc:Scope)(me:ME)(xs:List Expr):Prop:=
 ∀(o:BoolOp) (A:Around) (env:Env) (s:Shared) (σ:ah) (Z:Addr→Prop) (b:Bool) (pos:Pos) (whole:Sem Value) (Q:Bool→Shared→Prop) (E:Value→Shared→Prop),env.scope=sc→lN c A env s σ Z→(ar c.Φ me).ts o σ=some b→
  (∀h' tk,Ext s.heap h'→Q b {s with heap:=h',toks:=tk})→wpAny (model c.prog c.w) A (isTrue (.BoolOp o xs pos) env whole) Q E s
theorem wm:wj c sc .nil []:=λo A env s σ Z d pos wh Q E he p hd hQ=>by
 cases o with
 |And=>cases hd;exact PyProof.Rows.isTrue_and_nil (hQ s.heap s.toks (.refl _))
 |Or=>cases hd;exact PyProof.Rows.isTrue_or_nil (hQ s.heap s.toks (.refl _))
theorem jN{e es:ME}{x:Expr}{xs:List Expr}(ha:dN c sc e x)(Fm:wj c sc es xs):wj c sc (.cons e es) (x::xs):=by
 intro o A env s σ Z d pos wh Q E he p hd hQ
 refine ai (Option.bind_eq_some_iff.mp hd) λb h1 hd=>?_
 cases o with
 |And=>
  refine PyProof.Rows.isTrue_and (ha A env s σ Z _ _ E he p h1 λh' tk hx=>?_)
  cases b with
  |false=>cases hd;exact hQ h' tk hx
  |true=>exact Fm .And A env _ σ Z d pos wh Q E he (p.next (tk:=tk) hx) hd λdA qs cv=>hQ dA qs (hx.trans cv)
 |Or=>
  refine PyProof.Rows.isTrue_or (ha A env s σ Z _ _ E he p h1 λh' tk hx=>?_)
  cases b with
  |true=>cases hd;exact hQ h' tk hx
  |false=>exact Fm .Or A env _ σ Z d pos wh Q E he (p.next (tk:=tk) hx) hd λdA qs cv=>hQ dA qs (hx.trans cv)
theorem pv{o:BoolOp}{es:ME}{xs:List Expr}{pos:Pos}(h:wj c sc es xs):dN c sc (.CI o es) (.BoolOp o xs pos):=λA env s σ Z d Q E he p hd hQ=>
 h o A env s σ Z d pos _ Q E he p hd hQ
theorem ak:fh c sc .nil []:=⟨rfl,λA env s σ Z ds pos Q E he p hd hQ=>by
 obtain rfl:=Option.some.inj hd
 exact wpAny_items_nil (hQ [] s.heap s.toks (.refl _) .nil)⟩
theorem ae{e es:ME}{x:Expr}{xs:List Expr}(ha:ay c sc e x)(hx:isStar x=false)(Fm:fh c sc es xs):fh c sc (.cons e es) (x::xs):=by
 refine⟨by simp[hx,Fm.1],λA env s σ Z ds pos Q E he p hd hQ=>?_⟩
 refine ai (Option.bind_eq_some_iff.mp hd) λd h1 hd=>?_
 refine ai (Option.map_eq_some_iff.mp hd) λtX h2 Mg=>?_
 subst Mg
 refine wpAny_items_cons (ha A env s σ Z _ _ E he p h1 λv h' tk hx hr _=>?_) (by cases x <;> first|rfl|cases hx)
 exact Fm.2 A env _ σ Z tX pos _ E he (p.next (tk:=tk) hx) h2 λvs dA je cv rn=>hQ _ dA je (hx.trans cv) (.cons (hr.ext cv) rn)
theorem all_cons{p:Nat→Bool}{n:Nat}{ns:List Nat}(h:(n::ns).all p=true):p n=true∧ns.all p=true:=Bool.and_eq_true_iff.mp (List.all_cons▸h)
theorem pA{h:Heap}{ns:List Nat}{ds:List D}{vs:List Value}(r:dQ Z h ns ds vs):ns.all (· ==0)=true→aF Z h ds vs:=by
 induction r with
 |nil=>exact λ_=>rfl
 |cons r _ ih=>
  intro e
  obtain⟨e1,e2⟩:=all_cons e
  obtain rfl:=(eq_of_beq e1)
  exact⟨_,_,rfl,r,ih e2⟩
theorem sE{h:Heap}{ns:List Nat}{ds:List D}{vs:List Value}(r:dQ Z h ns ds vs):ns.all (· ≤1)=true→eQ Z h 1 ds vs:=by
 induction r with
 |nil=>exact λ_=> .nil
 |cons r _ ih=>exact λe=> .cons (r.le (of_decide_eq_true (all_cons e).1)) (ih (all_cons e).2)
noncomputable def wo:List Nat→List Nat→Bool
 | [],m=>m.isEmpty
 |a::l,m=>match m with
  | []=>false
  |b::m=>decide (a≤b)&&wo l m
theorem wq{h:Heap}{ns:List Nat}{ds:List D}{vs:List Value}(r:dQ Z h ns ds vs): ∀{ms:List Nat},wo ns ms=true→dQ Z h ms ds vs:=by
 induction r with
 |nil=>
  intro ms e
  cases ms with
  |nil=>exact .nil
  |cons _ _=>cases e
 |cons r _ ih=>
  intro ms e
  cases ms with
  |nil=>cases e
  |cons m ms=>
   obtain⟨e1,e2⟩:=Bool.and_eq_true_iff.mp e
   exact .cons (r.le (of_decide_eq_true e1)) (ih e2)
theorem bF{es:ME}{xs:List Expr}{pos:Pos}(h:fh c sc es xs)(h0:(Ds c es).all (· ==0)=true):ay c sc (.lst es) (.List xs pos):= .bE rfl λA env s σ Z d Q E he p hd hQ=>by
 refine ai (Option.bind_eq_some_iff.mp hd) λds h1 hd=>?_
 refine aX (dE hd) λhl Mh=>?_
 subst Mh
 refine wpAny_List (h.2 A env s σ Z ds pos _ E he p h1 λvs h' tk hx hr=>?_)
 have rr:=pA hr h0
 exact⟨rr.length▸Nat.le_trans hl bY,(hQ.later hx).mJ (p.next (tk:=tk) hx).new hl rr⟩
theorem bN{es:ME}{xs:List Expr}{k:Nat}{pos:Pos}(h:fh c sc es xs)(h0:(Ds c es).all (· ==0)=true):ay c sc (.tup es) (.Tuple xs k pos):= .bE rfl λA env s σ Z d Q E he p hd hQ=>by
 refine ai (Option.bind_eq_some_iff.mp hd) λds h1 hd=>?_
 refine aX (eM hd) λhl e=>?_
 obtain rfl:=Option.some.inj e
 refine wpAny_Tuple (h.2 A env s σ Z ds pos _ E he p h1 λvs h' tk hx hr=>?_)
 have rr:=pA hr h0
 exact⟨rr.length▸Nat.le_trans hl bY,hQ _ _ tk (hx.trans (Ext.push _ _)) ⟨_,vs,rfl,(p.next (tk:=tk) hx).new _ (Nat.le_refl _),hl,⟨_,Heap.get?_push_size _ rfl,rfl,0,rfl⟩,rr.ext (Ext.push _ _)⟩ λl e=>by cases e⟩
theorem aJ{a i:ME}{x y:Expr}{pos:Pos}(ha:ay c sc a x)(hi:ay c sc i y)(li:gG c i≤1)(hs: ∀o i,subscripted y false o i=operate [o,i] (getItem o i)):ay c sc (.item a i) (.Subscript x y pos):=by
 intro A env s σ Z d Q E he p hd hQ
 refine ai (Option.bind_eq_some_iff.mp hd) λd1 h1 hd=>?_
 refine ai (Option.bind_eq_some_iff.mp hd) λd2 h2 hd=>?_
 refine Subscript_ (ha A env s σ Z _ _ E he p h1 λv1 k1 t1 x1 r1 _=>?_)
 have p1:=p.next (tk:=t1) x1
 refine hi A env _ σ Z _ _ E he p1 h2 λv2 k2 t2 x2 r2 _=>?_
 exact Dr hd (r1.ext x2) (r2.le li) hs λv tk hr=>hQ v k2 tk (x1.trans x2) hr λe=>by cases e
noncomputable def mR(c:Cx)(sc:Scope)(me:ME)(x:Option Expr):Prop:=
 ∀(A:Around) (env:Env) (s:Shared) (σ:ah) (Z:Addr→Prop) (d:D) (Q:Value→Shared→Prop) (E:Value→Shared→Prop),env.scope=sc→lN c A env s σ Z→(if isNil me then some D.none else(ar c.Φ me).v σ)=some d→
  (∀v h' tk,Ext s.heap h'→aw Z h' 1 d v→Q v {s with heap:=h',toks:=tk})→wpAny (model c.prog c.w) A (evalPart x env) Q E s
theorem cS:mR c sc .nil none:=λA env s σ Z d Q E he p hd hQ=>by
 obtain rfl:=Option.some.inj hd
 exact wpAny_pure (hQ .none s.heap s.toks (.refl _) rfl)
theorem fH{a:ME}{x:Expr}(ha:ay c sc a x)(la:gG c a≤1)(hn:isNil a=false):mR c sc a (some x):=λA env s σ Z d Q E he p hd hQ=>by
 replace hd:=hn▸hd
 exact ha A env s σ Z d Q E he p hd λv h' tk hx hr _=>hQ v h' tk hx (hr.le la)
theorem hJ{a lo hi st:ME}{x:Expr}{l u t:Option Expr}{pos sp:Pos}(ha:ay c sc a x)(la:gG c a≤1)(hl:mR c sc lo l)(hu:mR c sc hi u)(ht:mR c sc st t):
  ay c sc (.rZ a lo hi st) (.Subscript x (.Slice l u t sp) pos):= .bE rfl λA env s σ Z d Q E he p hd hQ=>by
 refine ai (Option.bind_eq_some_iff.mp hd) λd1 h1 hd=>?_
 refine ai (Option.bind_eq_some_iff.mp hd) λd2 h2 hd=>?_
 refine ai (Option.bind_eq_some_iff.mp hd) λd3 h3 hd=>?_
 refine ai (Option.bind_eq_some_iff.mp hd) λd4 h4 hd=>?_
 refine Subscript_ (ha A env s σ Z _ _ E he p h1 λv1 k1 t1 x1 r1 _=>?_)
 have p1:=p.next (tk:=t1) x1
 refine wpAny_Slice (hl A env _ σ Z _ _ E he p1 h2 λv2 k2 t2 x2 r2=>?_)
 have p2:=p1.next (tk:=t2) x2
 refine hu A env _ σ Z _ _ E he p2 h3 λv3 k3 t3 x3 r3=>?_
 have p3:=p2.next (tk:=t3) x3
 refine ht A env _ σ Z _ _ E he p3 h4 λv4 k4 t4 x4 r4=>?_
 have p4:=p3.next (tk:=t4) x4
 have x5:Ext k4 (k4.push {cls:= .type "slice",data:= .fields #[v2,v3,v4]}):=Ext.push _ _
 have p5:=p4.next (tk:=t4) x5
 have Y2:=((((hQ.later (t1:=t1) x1).later (t1:=t2) x2).later (t1:=t3) x3).later (t1:=t4) x4).later (t1:=t4) x5
 have fin: ∀ops,subscripted (.Slice l u t sp) false v1 (.ref k4.objs.size)=operate ops (getItem v1 (.ref k4.objs.size))→
   wpAny (model c.prog c.w) A (subscriptTail x (.Slice l u t sp) v1 (.ref k4.objs.size)) Q E {s with heap:=k4.push {cls:= .type "slice",data:= .fields #[v2,v3,v4]},toks:=t4}:=λops hs=>
  zR hd (((((r1.le la).ext x2).ext x3).ext x4).ext x5) (Heap.IsSliceOf.new _ _ _ _) (((r2.ext x3).ext x4).ext x5) ((r3.ext x4).ext x5) (r4.ext x5) hs p5.new Y2
 cases t with
 |none=>exact fin _ rfl
 |some t=>exact fin _ rfl
end
end Mine.Internal
end
section
open PySem PyProof.Rows
namespace Mine.Internal
section
variable{prog:Program}{w:World}{A:Around}{E:Value→Shared→Prop}{s:Shared}{Z:Addr→Prop}{Q:Value→Shared→Prop}
end
section
variable{c:Cx}{sc:Scope}{A:Around}{E:Value→Shared→Prop}{s:Shared}{env:Env}{σ:ah}{Z:Addr→Prop}
theorem a7{x:Expr}{xs:List Expr}(h:isStar x=false):starEach (x::xs) env=(false,eval x env)::starEach xs env:=by
 cases x <;> first|rfl|cases h
theorem cF(pos:Pos){xs:List Expr}(h:xs.all (!isStar ·)=true):((backTo pos (starEach xs env)).any (·.1))=false:=by
 induction xs with
 |nil=>rfl
 |cons x xs ih=>
  rw[List.all_cons,Bool.and_eq_true]at h
  rw[a7 (by simpa using h.1)]
  show(false||(backTo pos (starEach xs env)).any (·.1))=false
  rw[ih h.2];rfl
theorem qu{es:ME}{xs:List Expr}{pos:Pos}{f:Value}{ds:List D}{Q:Args→Shared→Prop}(h:fh c sc es xs)(fB:xs.isEmpty=false)(he:env.scope=sc)(p:lN c A env s σ Z)(hd:(ar c.Φ es).l σ=some ds)
  (hQ: ∀vs h' tk,Ext s.heap h'→dQ Z h' (Ds c es) ds vs→Q ⟨vs,[]⟩ {s with heap:=h',toks:=tk}):wpAny (model c.prog c.w) A (evalArgs f true (backTo pos (starEach xs env)) []) Q E s:=by
 have key:=h.2 A env s σ Z ds pos (λvs s'=>Q ⟨vs,[]⟩ s') E he p hd hQ
 cases xs with
 |nil=>cases fB
 |cons x xs=>
  have h1:=h.1
  simp only[List.all_cons,Bool.and_eq_true,Bool.not_eq_true']at h1
  rw[a7 h1.1]at key ⊢
  exact Calls.evalArgs_plain key
theorem aD{f:BI}{x:Str}{es:ME}{xs:List Expr}{pos np:Pos}(ok:c.Ok)(hb:c.bn x=some (jc f))(hs:sc.names.lookup x=some .globalImplicit)(d9:aR x=true)(h:fh c sc es xs)(fB:xs.isEmpty=false)(h1:(Ds c es).all (· ≤1)=true):
  ay c sc (.bi f es) (.Call (.Name x np) xs [] pos):= .bE rfl λA env s σ Z d Q E he p hd hQ=>by
 refine ai (Option.bind_eq_some_iff.mp hd) λds uA hd=>?_
 show wpAny _ _ (eval (.Name x np) env >>= λfv=>callWith pos fv [] (backTo pos (starEach xs env)) []) _ _ _
 refine wpAny_bind (fF he p ok hb hs d9 ?_)
 have key:wpAny (model c.prog c.w) A (evalArgs (jc f) true (backTo pos (starEach xs env)) []) (λa s₁=>wpAny (model c.prog c.w) A (call (jc f) ([]++a.pos) a.kw) Q E s₁) E s:=
  qu h fB he p uA λvs h' tk hx hr=>Fj hd (sE hr h1) (p.next (tk:=tk) hx).new p.room.handled (df p.room) (hQ.later hx)
 have kind:(∃id,jc f= .builtin id)∨ ∃T,jc f= .type T:=by
  cases f <;> first|exact .inl ⟨_,rfl⟩|exact .inr ⟨_,rfl⟩
 generalize jc f=fv at key kind
 rcases kind with⟨id,rfl⟩|⟨T,rfl⟩
 ·exact Calls.callWith_builtin (cF pos h.1) key
 ·exact PySem.callWith_type (cF pos h.1) key
theorem call_one{f:Nat}{e:ME}{x:Expr}{pos np:Pos}(ok:c.Ok)(hs:sc.names.lookup (c.sD f)=some .globalImplicit)(d9:aR (c.sD f)=true)(ha:zS c sc e x)(hx:isStar x=false)(hl:wo [gG c e] (c.wi f)=true):
  ay c sc (.call f (.cons e .nil)) (.Call (.Name (c.sD f) np) [x] [] pos):=by
 intro A env s σ Z d Q E he p hd hQ
 refine ai (Option.bind_eq_some_iff.mp hd) λds uA hd=>?_
 have GX: ∃d1,(ar c.Φ e).it σ=some d1∧ds= [d1]:=by
  refine ai (Option.map_eq_some_iff.mp (show Option.map (λd=> [d]) ((ar c.Φ e).it σ)=some ds from uA)) λd1 h1 Mi=>?_
  subst Mi
  exact⟨d1,h1,rfl⟩
 refine ai GX λd1 h1 Mj=>?_
 subst Mj
 refine bK (ok.calls f _ d hd) λa hm Mk hc=>?_
 obtain⟨o,fd,ho,Dt⟩:=Mk
 skip
 refine wpAny_bind (jM he p ok hm hs d9 ?_)
 refine Calls.callWith_function (o:=o) (fd:=fd) ?_
 rw[a7 hx]
 refine Calls.evalArgs_plain (Calls.spliced_cons ?_)
 refine ha A env s σ Z d1 _ E he p h1 λv h' tk hx hr oD=>Calls.spliced_nil ?_
 have p1:=p.next (tk:=tk) hx
 have rl:dQ Z h' (c.wi f) [d1] [v]:=wq (.cons hr .nil) hl
 have zV: ∀b,given [d1] [v] b→s.heap.get? b=none:=λb ⟨i,l,e1,e2⟩=>by
  cases i with
  |zero=>simp at e1 e2;exact oD l e1 b e2
  |succ i=>simp at e1
 refine⟨⟨p1.top _ _ ho,Dt⟩,(hc A _ Z [v] _ E p.room p1.top rl p1.hZ (λb hb=>aE p.top (zV b hb)) λv' dA je hk rn oE=>?_).2⟩
 have GY:Ext s.heap dA:=λb o e=>hk b o (λhb=>by rw[zV b hb]at e;cases e) (hx b o e)
 refine hQ v' dA je GY (.cB rn) λMl l e=>?_
 refine qe (oE Ml l e) λa' fi e1 e2 e3 e4 e5=>?_
 exact⟨a',fi,e1,e2,aE hx e3,e4,e5⟩
theorem jq{ds:List D}{vs:List Value}(h: ∀d∈ds,∀l,d≠ .lM l)(b:Addr): ¬given ds vs b:=λ⟨_,l,e,_⟩=>h _ (List.mem_of_getElem? e) l rfl
theorem kt{f:Nat}{e e2 es:ME}{xs:List Expr}{pos np:Pos}(ok:c.Ok)(hs:sc.names.lookup (c.sD f)=some .globalImplicit)(d9:aR (c.sD f)=true)(ha:fh c sc (.cons e (.cons e2 es)) xs)(fB:xs.isEmpty=false)
  (hl:wo (Ds c (.cons e (.cons e2 es))) (c.wi f)=true):ay c sc (.call f (.cons e (.cons e2 es))) (.Call (.Name (c.sD f) np) xs [] pos):=by
 intro A env s σ Z d Q E he p hd hQ
 obtain⟨ds,uA,hd⟩:=Option.bind_eq_some_iff.mp hd
 have GX: ∃tX,(ar c.Φ (.cons e (.cons e2 es))).l σ=some tX∧tX.mapM aV=some ds:=Option.bind_eq_some_iff.mp uA
 obtain⟨tX,Mm,ro⟩:=GX
 have dt:tX=ds∧ ∀d∈ds,∀l,d≠ .lM l:=by
  clear uA Mm hd
  induction tX generalizing ds with
  |nil=>simp at ro;subst ro;exact⟨rfl,λd hd=>by cases hd⟩
  |cons y ys ih=>
   rw[List.mapM_cons]at ro
   obtain⟨y',hy,ro⟩:=Option.bind_eq_some_iff.mp ro
   obtain⟨ys',Y3,ro⟩:=Option.bind_eq_some_iff.mp ro
   obtain rfl:=Option.some.inj ro
   obtain⟨rfl,h2⟩:=ih _ Y3
   obtain⟨rfl,h3⟩:=iJ hy
   exact⟨rfl,λd hd=>by rcases List.mem_cons.mp hd with rfl|hd;exact h3;exact h2 d hd⟩
 obtain⟨rfl,Mn⟩:=dt
 obtain⟨a,hm,⟨o,fd,ho,Dt⟩,hc⟩:=ok.calls f _ d hd
 skip
 refine wpAny_bind (jM he p ok hm hs d9 ?_)
 refine Calls.callWith_function (o:=o) (fd:=fd) (qu ha fB he p Mm λvs h' tk hx hr=>?_)
 have p1:=p.next (tk:=tk) hx
 refine⟨⟨p1.top _ _ ho,Dt⟩,(hc A _ Z vs _ E p.room p1.top (wq hr hl) p1.hZ (λb hb=>absurd hb (jq Mn b)) λv' dA je hk rn oE=>?_).2⟩
 have GY:Ext s.heap dA:=λb o e=>hk b o (jq Mn b) (hx b o e)
 refine hQ v' dA je GY (.cB rn) λMl l e=>?_
 obtain⟨a',fi,e1,e2,e3,e4,e5⟩:=oE Ml l e
 exact⟨a',fi,e1,e2,aE hx e3,e4,e5⟩
theorem uC:entryFor table "iter"=some Builtin.«iter»:=entryFor_of_tree (by kernel_rfl)
theorem xT(a:Value):argsOk "iter" ⟨[a],[]⟩:=by unfold argsOk;kernel_rfl
theorem zW{a:ME}{x:Expr}{pos np:Pos}(ok:c.Ok)(hb:c.bn "iter"=some (.builtin "iter"))(hs:sc.names.lookup (Str.ofString "iter")=some .globalImplicit)(ha:ay c sc a x)(la:gG c a=0)(hx:isStar x=false):
  zS c sc (.iter a) (.Call (.Name "iter" np) [x] [] pos):=by
 intro A env s σ Z d Q E he p hd hQ
 refine ai (Option.bind_eq_some_iff.mp hd) λd1 h1 hd=>?_
 skip
 refine wpAny_bind (fF he p ok hb hs (by decide) ?_)
 refine Calls.callWith_builtin (cF pos (by simp[hx])) ?_
 rw[a7 hx]
 refine Calls.evalArgs_plain (Calls.spliced_cons ?_)
 refine ha A env s σ Z d1 _ E he p h1 λv h' tk hx hr _=>Calls.spliced_nil ?_
 have p1:=p.next (tk:=tk) hx
 rw[la]at hr
 refine ai (omap hd) λl hl Mo=>?_
 subst Mo
 obtain rfl:=(ef hl)
 refine cz hr λb vs Mp hz hl hi jd=>?_
 subst Mp
 refine Calls.call_function_entry (by decide+kernel) (by decide+kernel) uC (xT _) ?_
 unfold Builtin.«iter»
 refine wpAny_bind (m:=someArgs "iter" 1 2 _) (wpAny_of_eq (a:= [Value.ref b]) (by first|rfl|kernel_rfl!) ?_)
 skip
 refine wpAny_bind (wpAny_pyIter_list hi.isList ?_)
 have Uz:b<h'.objs.size:=o8 hi.isList
 refine wpAny_pure ⟨_,rfl,hQ _ _ tk (hx.trans (Ext.push _ _)) ⟨_,b,vs,rfl,p1.new _ (Nat.le_refl _),hz,Nat.ne_of_lt Uz,hl,⟨_,Heap.get?_push_size _ rfl,rfl,rfl⟩,hi.isList.push _,jd.ext (Ext.push _ _)⟩ λl' e b' e'=>?_⟩
 cases e'
 exact aE hx (gone (Nat.le_refl _))
end
end Mine.Internal
end
section
open PySem PyProof.Rows
namespace Mine.Internal
noncomputable def bj(K:Addr→Prop)(h h':Heap):Prop:= ∀b o,K b→cQ o→h.get? b=some o→h'.get? b=some o
theorem aw.du{Z K:Addr→Prop}{h h':Heap}(hk:bj K h h'){n:Nat}{d:D}{v:Value}(x:aw Z h n d v)(y:aZ K h d v):aw Z h' n d v:=(x.both hk y).mE λ_ _ _ z=>z.1
theorem aZ.du{K:Addr→Prop}{h h':Heap}(hk:bj K h h'){d:D}{v:Value}(x:aZ K h d v):aZ K h' d v:=x.dat λa o z hd e=>⟨hk a o z hd e,z⟩
theorem bP{o:Obj}{es:Array DictEntry}{n:Nat}(h:o.data= .dict es n)(hs:StrKeys es): ¬cQ o:=by
 rintro (⟨_,_,e⟩|⟨_,e⟩) <;> (rw[h]at e;cases e)
theorem hO{o:Obj}{v:Option Value}(h:o.data= .cell v): ¬cQ o:=by
 rintro (⟨_,_,e⟩|⟨_,e⟩) <;> (rw[h]at e;cases e)
theorem iM{h h':Heap}{a:Addr}{o:Obj}(hs:Heap.SameBut a h h')(ho:h.get? a=some o)(hd: ¬cQ o):bj (λ_=>True) h h':=λb o' _ fo e=>by
 by_cases hb:b=a
 ·subst hb
  replace e:=ho▸e
  obtain rfl:=Option.some.inj e
  exact absurd fo hd
 ·rw[hs.2 b hb];exact e
end Mine.Internal
end
section
open PySem PyProof.Rows
namespace Mine.Internal
structure Mq(c:Cx)(env:Env)(h:Heap)(σ:ah)(K C:Addr→Prop)(x:Nat)(a:Addr)(name:Str)(l:List D)(vs:Array Value)(e:Nat):Prop where
 lv:1≤c.lv x
 nt:c.nt[x]? =some name
 sees:seen env name
 val:σ x=some (.list l)
 named:cE env h name (.ref a)
 obj:h.get? a=some (seqObj "list" vs e)
 rep:aF (λb=>K b∧C b) h l vs.toList
 lim:l.length≤bW
 nK: ¬K a
 nT:c.hT.get? a=none
 out:c.ow x=1→C a
structure Act(c:Cx)(A:Around)(env:Env)(s:Shared)(σ:ah)(K C:Addr→Prop)(asg:Str→Bool)(own:Nat→Option Addr):Prop where
 room:jo c.k A
 fn:env.scope.kind= .function
 gl:env.globals=mainGlobals
 bl:env.builtins=builtinsNs
 top:Ext c.hT s.heap
 hK: ∀a,s.heap.get? a=none→K a
 hC: ∀a,s.heap.get? a=none→C a
 cell: ∀x,(env.kindOf x=some .cell∨env.kindOf x=some .free)→ ∃a v,env.cells.lookup x=some a∧s.heap.IsCell a v
 apart: ∀x y a,env.cells.lookup x=some a→env.cells.lookup y=some a→x=y
 nodup:c.nt.Nodup
 loc: ∃m,s.heap.Ns env.locals m
 hL:c.hT.get? env.locals=none
 dS: ∀x,asg x=true→env.kindOf x=some .local∨(env.kindOf x=some .cell∧ ∃a,env.cells.lookup x=some a∧c.hT.get? a=none)
 var: ∀x d name,σ x=some d→c.nt[x]? =some name→seen env name→own x=none→ ∃v,cE env s.heap name v∧aw (λa=>K a∧C a) s.heap (c.lv x) d v∧aZ K s.heap d v
 cO: ∀x a,own x=some a→ ∃name l vs e,Mq c env s.heap σ K C x a name l vs e
 eC: ∀x y a,own x=some a→own y=some a→x=y
section
variable{c:Cx}{A:Around}{env:Env}{s:Shared}{σ:ah}{K C:Addr→Prop}{asg:Str→Bool}{own:Nat→Option Addr}
theorem wt{h:Heap}{n:Nat}{Z:Addr→Prop}{l:List D}{vs:Array Value}{e:Nat}{a:Addr}(hn:1≤n)(ho:h.get? a=some (seqObj "list" vs e))(hr:aF Z h l vs.toList)(hl:l.length≤bW):aw Z h n (.list l) (.ref a):=by
 cases n with
 |zero=>exact absurd ‹_› (Nat.not_lt_zero _)
 |succ n=>exact⟨a,vs.toList,rfl,hl,⟨e,ho⟩,hr.length,λi d w h1 h2=>by
   refine ai (hr.get h1) λw' h3 h4=>?_
   replace h3:=h2▸h3
   obtain rfl:=Option.some.inj h3
   exact .cB h4⟩
theorem Act.pre(p:Act c A env s σ K C asg own):lN c A env s σ (λa=>K a∧C a) where
 room:=p.room
 fn:=p.fn
 gl:=p.gl
 bl:=p.bl
 top:=p.top
 hZ a e:=⟨p.hK a e,p.hC a e⟩
 cell:=p.cell
 apart:=p.apart
 var x d name h1 h2 h3:=by
  cases ho:own x with
  |none=>obtain⟨v,h4,h5,_⟩:=p.var x d name h1 h2 h3 ho;exact⟨v,h4,h5⟩
  |some a=>
   refine oq (p.cO x a ho) λzX l vs e q=>?_
   have q1:=q.nt
   have q3:=q.val
   replace q1:=h2▸q1
   obtain rfl:=Option.some.inj q1
   replace q3:=h1▸q3
   obtain rfl:=Option.some.inj q3
   exact⟨_,q.named,wt q.lv q.obj q.rep q.lim⟩
structure Off(env:Env)(K:Addr→Prop)(own:Nat→Option Addr)(hT h h':Heap):Prop where
 dat:bj K h h'
 ma: ∀b o,¬cQ o→h.get? b=some o→(b=env.locals∨ ∃x,(env.kindOf x=some .cell∨env.kindOf x=some .free)∧env.cells.lookup x=some b)→h'.get? b=some o
 top:Ext hT h'
 own: ∀x a o,own x=some a→h.get? a=some o→h'.get? a=some o
theorem Off.name{h h' hT:Heap}(x:Off env K own hT h h'){n:Str}{v:Value}(k:cE env h n v):cE env h' n v:=by
 rcases k with⟨hl,m,⟨o,es,ep,ho,hd,r⟩,hv⟩|⟨hl,a,ha,⟨o,ho,hd⟩⟩
 ·exact .inl ⟨hl,m,⟨o,es,ep,x.ma _ _ (bP hd r.1) ho (.inl rfl),hd,r⟩,hv⟩
 ·exact .inr ⟨hl,a,ha,⟨o,x.ma _ _ (hO hd) ho (.inr ⟨n,hl,ha⟩),hd⟩⟩
theorem Act.change{K':Addr→Prop}(p:Act c A env s σ K' C asg own){h':Heap}{tk:Nat}(x:Off env K' own c.hT s.heap h')(mS: ∀b,K' b→K b)(hK: ∀a,h'.get? a=none→K a)(hC: ∀a,h'.get? a=none→C a)(UA: ∀x a,own x=some a→ ¬K a):
  Act c A env {s with heap:=h',toks:=tk} σ K C asg own where
 room:=p.room
 fn:=p.fn
 gl:=p.gl
 bl:=p.bl
 top:=x.top
 hK:=hK
 hC:=hC
 cell y hy:=by obtain⟨a,v,h1,⟨o,ho,hd⟩⟩:=p.cell y hy;exact⟨a,v,h1,⟨o,x.ma _ _ (hO hd) ho (.inr ⟨y,hy,h1⟩),hd⟩⟩
 apart:=p.apart
 nodup:=p.nodup
 loc:=by obtain⟨m,⟨o,es,ep,ho,hd,r⟩⟩:=p.loc;exact⟨m,⟨o,es,ep,x.ma _ _ (bP hd r.1) ho (.inl rfl),hd,r⟩⟩
 hL:=p.hL
 dS:=p.dS
 var y d name h1 h2 h3 h4:=by
  refine bK (p.var y d name h1 h2 h3 h4) λv q1 q2 q3=>?_
  exact⟨v,x.name q1,(q2.du x.dat q3).mono λa _ z=>⟨mS a z.1,z.2⟩,(q3.du x.dat).mono λa _ z=>mS a z⟩
 cO y a h1:=by
  refine oq (p.cO y a h1) λname l vs e q=>?_
  exact⟨name,l,vs,e,q.lv,q.nt,q.sees,q.val,x.name q.named,x.own y a _ h1 q.obj,q.rep.dat λb o z hd e=>⟨x.dat b o z.1 hd e,mS b z.1,z.2⟩,q.lim,UA y a h1,q.nT,q.out⟩
 eC:=p.eC
theorem Act.Du(p:Act c A env s σ K C asg own){y:Nat}{a:Addr}(h:own y=some a): ¬K a:=by
 refine oq (p.cO y a h) λ_ _ _ _ q=>?_
 exact q.nK
theorem Act.uD(p:Act c A env s σ K C asg own){y:Nat}{a:Addr}(h:own y=some a): ∃vs e,s.heap.get? a=some (seqObj "list" vs e):=by
 refine oq (p.cO y a h) λ_ _ vs e q=>?_
 exact⟨vs,e,q.obj⟩
theorem Act.off(p:Act c A env s σ K C asg own){h':Heap}{tk:Nat}(x:Off env K own c.hT s.heap h')(hb: ∀a,h'.get? a=none→s.heap.get? a=none):Act c A env {s with heap:=h',toks:=tk} σ K C asg own:=
 p.change x (λ_ h=>h) (λa e=>p.hK a (hb a e)) (λa e=>p.hC a (hb a e)) λy a h1=>p.Du h1
theorem Off.ext{hT h h':Heap}(ht:Ext hT h)(x:Ext h h'):Off env K own hT h h':=⟨λb o _ _ e=>x b o e,λb o _ e _=>x b o e,ht.trans x,λ_ a o _ e=>x a o e⟩
theorem Act.next(p:Act c A env s σ K C asg own){h':Heap}{tk:Nat}(x:Ext s.heap h'):Act c A env {s with heap:=h',toks:=tk} σ K C asg own:=p.off (.ext p.top x) λ_ e=>aE x e
theorem mc{nt:List Str}(hn:nt.Nodup){x y:Nat}{n:Str}(hx:nt[x]? =some n)(hy:nt[y]? =some n):x=y:=by
 obtain⟨h1,e1⟩:=List.getElem?_eq_some_iff.mp hx
 obtain⟨h2,e2⟩:=List.getElem?_eq_some_iff.mp hy
 have hp:=List.pairwise_iff_getElem.mp hn
 rcases Nat.lt_trichotomy x y with h|h|h
 ·exact absurd (e1.trans e2.symm) (hp x y h1 h2 h)
 ·exact h
 ·exact absurd (e2.trans e1.symm) (hp y x h2 h1 h)
noncomputable def d5(own:Nat→Option Addr)(x:Nat):Nat→Option Addr:=λy=>if y=x then none else own y
structure Soft(env:Env)(h h':Heap):Prop where
 dat:bj (λ_=>True) h h'
 ma: ∀b o,¬cQ o→h.get? b=some o→b≠env.locals→(∀x,env.kindOf x=some .cell→env.cells.lookup x≠some b)→h'.get? b=some o
 live: ∀b o,h.get? b=some o→ ∃o',h'.get? b=some o'
theorem Soft.ext{env:Env}{h h':Heap}(x:Ext h h'):Soft env h h':=⟨λb o _ _ e=>x b o e,λb o _ e _ _=>x b o e,λb o e=>⟨o,x b o e⟩⟩
theorem Soft.trans{env:Env}{h h' dA:Heap}(x:Soft env h h')(y:Soft env h' dA):Soft env h dA:=
 ⟨λb o z hd e=>y.dat b o z hd (x.dat b o z hd e),λb o hd e h1 h2=>y.ma b o hd (x.ma b o hd e h1 h2) h1 h2,λb o e=>let⟨o',e'⟩:=x.live b o e;y.live b o' e'⟩
structure uE(env:Env)(hT h h':Heap)(n:Str)(v:Value):Prop extends Soft env h h' where
 here:cE env h' n v
 sF: ∀m u,m≠n→cE env h m u→cE env h' m u
 cell: ∀x a u,env.cells.lookup x=some a→h.IsCell a u→ ∃u',h'.IsCell a u'
 loc:(∃m,h.Ns env.locals m)→ ∃m,h'.Ns env.locals m
 top:Ext hT h→Ext hT h'
 back: ∀a,h'.get? a=none→h.get? a=none
theorem zY{h:Heap}{a:Addr}{m m':Str→Option Value}(x:h.Ns a m)(y:h.Ns a m'):m=m':=by
 refine qe x λo es ep ho hd _ hf=>?_
 refine qe y λo' es' ep' eu fo _ oE=>?_
 rw[ho]at eu
 obtain rfl:=Option.some.inj eu
 rw[hd]at fo;cases fo
 funext n;rw[←hf n,oE n]
theorem cG{n:Str}{v:Value}{Q:Unit→Shared→Prop}{M:Model}{E:Value→Shared→Prop}(p:Act c A env s σ K C asg own)(ha:asg n=true)
  (hQ: ∀h' tk,uE env c.hT s.heap h' n v→Q () {s with heap:=h',toks:=tk}):wpAny M A (storeName env n v) Q E s:=by
 refine au p.loc λm hm=>?_
 rcases p.dS n ha with hk|⟨hk,a,hl,hT⟩
 ·refine wpAny_storeName_local hk hm (λh' hn hs=>hQ h' _ ?_) (by rw[p.fn];rfl)
  refine gO (id hm) λo es ep ho hd r=>?_
  have jO:=iM hs ho (bP hd r.1)
  have gj: ∀b u,s.heap.IsCell b u→h'.IsCell b u:=λb u ⟨o',eu,fo⟩=>by
   have:b≠env.locals:=λe=>by subst e;rw[ho]at eu;cases eu;rw[hd]at fo;cases fo
   exact⟨o',(hs.2 b this).trans eu,fo⟩
  have sf:Soft env s.heap h':=⟨jO,λb o' _ e h1 _=>(hs.2 b h1).trans e,λb o' e=>by
   by_cases hb:b=env.locals
   ·subst hb
    refine xo hn λo2 _ _ tV _=>?_
    exact⟨o2,tV⟩
   ·exact⟨o',(hs.2 b hb).trans e⟩⟩
  refine⟨sf,.inl ⟨hk,_,hn,by simp⟩,λm' u fB hu=>?_,λx b u _ hu=>⟨u,gj b u hu⟩,λ_=>⟨_,hn⟩,λht b o' e=>?_,λb e=>?_⟩
  ·rcases hu with⟨k1,m1,I2,Mr⟩|⟨k1,b,hb,hv⟩
   ·have:=zY hm I2;subst this
    exact .inl ⟨k1,_,hn,by simp[fB,Mr]⟩
   ·exact .inr ⟨k1,b,hb,gj b _ hv⟩
  ·rw[hs.2 b λh=>by subst h;rw[p.hL]at e;cases e];exact ht b o' e
  ·by_cases hb:b=env.locals
   ·subst hb
    refine xo hn λo' _ _ eu _=>?_
    replace e:=eu▸e
    cases e
   ·rw[←hs.2 b hb];exact e
 ·refine da (p.cell n (.inl hk)) λa' v₀ Mm hc=>?_
  rw[hl]at Mm;cases Mm
  refine wpAny_storeName_cell p.fn hk hl hc λh' hn hs=>hQ h' _ ?_
  refine ai (id hc) λo ho hd=>?_
  have jO:=iM hs ho (hO hd)
  have sf:Soft env s.heap h':=⟨jO,λb o' _ e _ h2=>(hs.2 b λh=>h2 n hk (h▸hl)).trans e,λb o' e=>by
   by_cases hb:b=a
   ·subst hb
    refine ai hn λo2 tV _=>?_
    exact⟨o2,tV⟩
   ·exact⟨o',(hs.2 b hb).trans e⟩⟩
  refine⟨sf,.inr ⟨.inl hk,a,hl,hn⟩,λm' u fB hu=>?_,λx b u _ hu=>?_,λ⟨m,hm⟩=>⟨m,?_⟩,λht b o' e=>?_,λb e=>?_⟩
  ·rcases hu with⟨k1,m1,I2,Mr⟩|⟨k1,b,hb,hv⟩
   ·refine .inl ⟨k1,m1,I2.sameBut hs λh=>?_,Mr⟩
    refine gO I2 λo1 Y4 Y5 oA GZ _=>?_
    replace oA:=h▸oA
    replace oA:=ho▸oA
    cases oA
    replace GZ:=hd▸GZ
    cases GZ
   ·exact .inr ⟨k1,b,hb,hv.sameBut hs λh=>fB (p.apart _ _ b hb (by rw[h];exact hl))⟩
  ·by_cases hb:b=a
   ·subst hb;exact⟨_,hn⟩
   ·exact⟨u,hu.sameBut hs hb⟩
  ·refine hm.sameBut hs λh=>?_
   refine gO hm λo1 Y4 Y5 oA GZ _=>?_
   replace oA:=h▸oA
   replace oA:=ho▸oA
   cases oA
   replace GZ:=hd▸GZ
   cases GZ
  ·rw[hs.2 b λh=>by subst h;rw[hT]at e;cases e];exact ht b o' e
  ·by_cases hb:b=a
   ·subst hb
    refine ai hn λo' eu _=>?_
    replace e:=eu▸e
    cases e
   ·rw[←hs.2 b hb];exact e
theorem bQ{h h':Heap}(hk:bj (λ_=>True) h h'):bj K h h':=λb o _ hd e=>hk b o trivial hd e
theorem Act.stored(p:Act c A env s σ K C asg own){x:Nat}{n:Str}{d:D}{v:Value}{h':Heap}{tk:Nat}(hx:c.nt[x]? =some n)(st:uE env c.hT s.heap h' n v)
  (hr:aw (λa=>K a∧C a) s.heap (c.lv x) d v) (hk:aZ K s.heap d v):Act c A env {s with heap:=h',toks:=tk} (upd σ x d) K C asg (d5 own x) where
 room:=p.room
 fn:=p.fn
 gl:=p.gl
 bl:=p.bl
 top:=st.top p.top
 hK a e:=p.hK a (st.back a e)
 hC a e:=p.hC a (st.back a e)
 cell y hy:=let⟨a,u,h1,h2⟩:=p.cell y hy;let⟨u',h3⟩:=st.cell y a u h1 h2;⟨a,u',h1,h3⟩
 apart:=p.apart
 nodup:=p.nodup
 loc:=st.loc p.loc
 hL:=p.hL
 dS:=p.dS
 var y d' name h1 h2 h3 h4:=by
  by_cases hy:y=x
  ·subst hy
   rw[hx]at h2
   obtain rfl:=Option.some.inj h2
   simp only[upd,if_true]at h1
   obtain rfl:=Option.some.inj h1
   exact⟨v,st.here,hr.du (bQ st.dat) hk,hk.du (bQ st.dat)⟩
  ·simp only[upd,hy,if_false]at h1
   simp only[d5,hy,if_false]at h4
   refine bK (p.var y d' name h1 h2 h3 h4) λu q1 q2 q3=>?_
   exact⟨u,st.sF name u (λe=>hy (mc p.nodup h2 (e▸hx))) q1,q2.du (bQ st.dat) q3,q3.du (bQ st.dat)⟩
 cO y a h1:=by
  by_cases hy:y=x
  ·subst hy;simp[d5]at h1
  ·simp only[d5,hy,if_false]at h1
   refine oq (p.cO y a h1) λname l vs e q=>?_
   exact⟨name,l,vs,e,q.lv,q.nt,q.sees,by unfold upd;rw[if_neg hy];exact q.val,st.sF name _ (λe=>hy (mc p.nodup q.nt (e▸hx))) q.named,st.dat a _ trivial (.inl ⟨_,_,rfl⟩) q.obj,
    q.rep.dat λb o z hd e=>⟨st.dat b o trivial hd e,z⟩,q.lim,q.nK,q.nT,q.out⟩
 eC y z a h1 h2:=by
  by_cases hy:y=x
  ·subst hy;simp[d5]at h1
  ·by_cases hz:z=x
   ·subst hz;simp[d5]at h2
   ·simp only[d5,hy,hz,if_false]at h1 h2
    exact p.eC y z a h1 h2
end
end Mine.Internal
end
section
open PySem PyProof.Rows
namespace Mine.Internal
structure wu(prog:Program)(w:World)(A:Around)(Z K:Addr→Prop)(h₁:Heap)(I:Addr)(W:Addr→Prop)(jf:Expr→Prop)(n:Nat)(items:List D)(St:Nat→Heap→Prop)(Md:Nat→Value→Heap→Prop):Prop where
 keep: ∀i h,St i h→bj K h₁ h
 frame: ∀i h h',St i h→bj K h₁ h'→bj W h h'→St i h'
 item: ∀i (s:Shared) (Q:Option Value→Shared→Prop) (E:Value→Shared→Prop) d,St i s.heap→items[i]? =some d→(∀b,s.heap.get? b=none→Z b)→
  (∀v h' tk,Md i v h'→(∀b o,¬W b→s.heap.get? b=some o→h'.get? b=some o)→aw Z h' n d v→aZ (λb=>K b∨s.heap.get? b=none) h' d v→Q (some v) {s with heap:=h',toks:=tk})→wpAny (model prog w) A (pyNext (.ref I)) Q E s
 go: ∀i (s:Shared) (Q:Unit→Shared→Prop) (E:Value→Shared→Prop) v dC,jf dC→Md i v s.heap→
  (∀h',St (i+1) h'→(∀b o,¬W b→s.heap.get? b=some o→h'.get? b=some o)→Q () {s with heap:=h'})→wpAny (model prog w) A (letOwnedTupleGo dC (.ref I) v) Q E s
 done: ∀(s:Shared) (Q:Option Value→Shared→Prop) (E:Value→Shared→Prop),St items.length s.heap→
  (∀h' tk,(∀b o,¬W b→s.heap.get? b=some o→h'.get? b=some o)→Q none {s with heap:=h',toks:=tk})→wpAny (model prog w) A (pyNext (.ref I)) Q E s
 self: ∀i (s:Shared) (Q:Value→Shared→Prop) (E:Value→Shared→Prop),St i s.heap→Q (.ref I) s→wpAny (model prog w) A (pyIter (.ref I)) Q E s
 new: ∀b,W b→h₁.get? b=none
 live: ∀i h b,St i h→W b→ ∃o,h.get? b=some o∧cQ o
 jg: ∀i v h b,Md i v h→W b→ ∃o,h.get? b=some o∧cQ o
 apart: ∀b,K b→ ¬W b
 size:items.length≤bW
section
variable{prog:Program}{w:World}{A:Around}{E:Value→Shared→Prop}{s:Shared}{Z K:Addr→Prop}
theorem mT{I:Addr}{o:Obj}{k:String}{v:Value}{dC:Expr}{Q:Unit→Shared→Prop}(ho:s.heap.get? I=some o)(hc:o.cls= .type k)
  (hk:(["enumerate","zip","dict_itemiterator","dict_reverseitemiterator","odict_iterator","itertools.zip_longest","itertools.pairwise"].contains k)=false) (hQ:Q () s):
  wpAny (model prog w) A (letOwnedTupleGo dC (.ref I) v) Q E s:=by
 unfold letOwnedTupleGo
 split
 ·cases v <;> first
   |exact wpAny_pure hQ
   |skip
  refine wpAny_bind (wpAny_load ho ?_)
  rw[hc]
  cases o.data <;> first
   |exact wpAny_pure hQ
   |skip
  dsimp only
  refine bw (by rw[hk];simp) ?_
  exact wpAny_pure hQ
 ·cases v <;> first
   |exact wpAny_pure hQ
   |skip
  refine wpAny_bind (wpAny_load ho ?_)
  rw[hc]
  cases o.data <;> first
   |exact wpAny_pure hQ
   |skip
  dsimp only
  refine bw (by rw[hk];simp) ?_
  exact wpAny_pure hQ
 ·exact wpAny_pure hQ
noncomputable def jP:Expr→Prop:=λ_=>True
theorem ku{h h':Heap}{I:Addr}(hs:Heap.SameBut I h h'): ∀b o,¬b=I→h.get? b=some o→h'.get? b=some o:=λb o hb e=>(hs.2 b hb).trans e
theorem mU{h₁ h:Heap}{a:Addr}{vs:Array Value}(hk:bj K h₁ h)(ha:K a)(x:h₁.IsList a vs):h.IsList a vs:=let⟨o,ho,hc,n,hd⟩:=x;⟨o,hk a o ha (.inl ⟨_,_,hd⟩) ho,hc,n,hd⟩
theorem ly{h₁ h:Heap}{a:Addr}{vs:Array Value}(hk:bj K h₁ h)(ha:K a)(x:h₁.IsTuple a vs):h.IsTuple a vs:=let⟨o,ho,hc,n,hd⟩:=x;⟨o,hk a o ha (.inl ⟨_,_,hd⟩) ho,hc,n,hd⟩
theorem xU{h₁:Heap}{I a:Addr}{vs:List Value}{n:Nat}{items:List D}(hh:A.handled=none)(hI:h₁.get? I=none)(hl:h₁.IsList a vs.toArray)(ha:K a)(hlen:vs.length=items.length)(hz:items.length≤bW)(zZ: ¬K I)
  (hr: ∀(i:Nat) (d:D) (w:Value),items[i]? =some d→vs[i]? =some w→aw Z h₁ n d w∧aZ K h₁ d w):
  wu prog w A Z K h₁ I (· =I) jP n items (λi h=>bj K h₁ h∧h.IsListIter I a i) (λi _ h=>bj K h₁ h∧h.IsListIter I a (i+1)) where
 keep i h st:=st.1
 frame i h h' st hk hw:=⟨hk,let⟨o,ho,hc,hd⟩:=st.2;⟨o,hw I o rfl (bx hd) ho,hc,hd⟩⟩
 item i s Q E d st hi _ hQ:=by
  refine au (List.getElem?_eq_some_iff.mp hi) λjr _=>?_
  obtain⟨v,hv⟩: ∃v,vs[i]? =some v:=⟨_,List.getElem?_eq_getElem (Nat.lt_of_lt_of_eq jr hlen.symm)⟩
  have fB:a≠I:=λe=>by obtain⟨o,ho,_⟩:=hl;rw[e,hI]at ho;cases ho
  refine wpAny_pyNext_list_item st.2 (mU st.1 ha hl) (x:=v) (by simpa using hv) λh' uF ou=>?_
  have jO:bj K h₁ h':=λb o hb hd e=>(ou.2 b λh=>by subst h;rw[hI]at e;cases e).trans (st.1 b o hb hd e)
  refine aX (hr i d v hi hv) λr1 r2=>?_
  exact hQ v h' s.toks ⟨jO,uF⟩ (ku ou) (r1.du jO r2) ((r2.du jO).mono λ_ _ z=> .inl z)
 go i s Q E v dC _ st hQ:=by
  refine bK (id st.2) λo ho hc hd=>?_
  exact mT ho hc (by decide) (hQ s.heap st λb o _ e=>e)
 done s Q E st hQ:=wpAny_pyNext_list_end hh st.2 (mU st.1 ha hl) (by simp;exact Nat.le_of_eq hlen) λh' he=>hQ h' s.toks he
 self i s Q E st hQ:=wpAny_pyIter_listiter st.2 hQ
 new b hb:=by subst hb;exact hI
 live i h b st e:=by subst e;obtain⟨o,ho,_,hd⟩:=st.2;exact⟨o,ho,bx hd⟩
 jg i v h b st e:=by subst e;obtain⟨o,ho,_,hd⟩:=st.2;exact⟨o,ho,bx hd⟩
 apart b hb e:=by subst e;exact zZ hb
 size:=hz
theorem uG{h₁:Heap}{I a:Addr}{vs:List Value}{n:Nat}{items:List D}(hh:A.handled=none)(hI:h₁.get? I=none)(hl:h₁.IsTuple a vs.toArray)(ha:K a)(hlen:vs.length=items.length)(hz:items.length≤bW)(zZ: ¬K I)
  (hr: ∀(i:Nat) (d:D) (w:Value),items[i]? =some d→vs[i]? =some w→aw Z h₁ n d w∧aZ K h₁ d w):
  wu prog w A Z K h₁ I (· =I) jP n items (λi h=>bj K h₁ h∧h.IsTupleIter I a i) (λi _ h=>bj K h₁ h∧h.IsTupleIter I a (i+1)) where
 keep i h st:=st.1
 frame i h h' st hk hw:=⟨hk,let⟨o,ho,hc,hd⟩:=st.2;⟨o,hw I o rfl (bx hd) ho,hc,hd⟩⟩
 item i s Q E d st hi _ hQ:=by
  refine au (List.getElem?_eq_some_iff.mp hi) λjr _=>?_
  obtain⟨v,hv⟩: ∃v,vs[i]? =some v:=⟨_,List.getElem?_eq_getElem (Nat.lt_of_lt_of_eq jr hlen.symm)⟩
  refine wpAny_pyNext_tuple_item st.2 (ly st.1 ha hl) (x:=v) (by simpa using hv) λh' uF ou=>?_
  have jO:bj K h₁ h':=λb o hb hd e=>(ou.2 b λh=>by subst h;rw[hI]at e;cases e).trans (st.1 b o hb hd e)
  refine aX (hr i d v hi hv) λr1 r2=>?_
  exact hQ v h' s.toks ⟨jO,uF⟩ (ku ou) (r1.du jO r2) ((r2.du jO).mono λ_ _ z=> .inl z)
 go i s Q E v dC _ st hQ:=by
  refine bK (id st.2) λo ho hc hd=>?_
  exact mT ho hc (by decide) (hQ s.heap st λb o _ e=>e)
 done s Q E st hQ:=wpAny_pyNext_tuple_end hh st.2 (ly st.1 ha hl) (by simp;exact Nat.le_of_eq hlen) λh' he=>hQ h' s.toks he
 self i s Q E st hQ:=wpAny_pyIter_tupleiter st.2 hQ
 new b hb:=by subst hb;exact hI
 live i h b st e:=by subst e;obtain⟨o,ho,_,hd⟩:=st.2;exact⟨o,ho,bx hd⟩
 jg i v h b st e:=by subst e;obtain⟨o,ho,_,hd⟩:=st.2;exact⟨o,ho,bx hd⟩
 apart b hb e:=by subst e;exact zZ hb
 size:=hz
theorem uH{h₁:Heap}{I:Addr}{a b c:Int}{n:Nat}(hh:A.handled=none)(hI:h₁.get? I=none)(d9:jJ a b c=true)(zZ: ¬K I):
  wu prog w A Z K h₁ I (· =I) jP n ((bB a b c).map .int) (λi h=>bj K h₁ h∧IsRangeIter h I (a+(i:Nat)*c) (((bB a b c).length:Int)-(i:Nat)) c)
   (λi _ h=>bj K h₁ h∧IsRangeIter h I (a+((i+1:Nat):Nat)*c) (((bB a b c).length:Int)-((i+1:Nat):Nat)) c) where
 keep i h st:=st.1
 frame i h h' st hk hw:=⟨hk,hw I _ rfl (bx rfl) st.2⟩
 item i s Q E d st hi _ hQ:=by
  rw[List.getElem?_map]at hi
  refine ai (Option.map_eq_some_iff.mp hi) λx hx Ms=>?_
  subst Ms
  have jr:=(List.getElem?_eq_some_iff.mp hx).1
  rw[Dp a b c i jr]at hx
  obtain rfl:=Option.some.inj hx
  refine wpAny_pyNext_range_item st.2 (Int.sub_pos_of_lt (Int.ofNat_lt.mpr jr)) λh' uF ou=>?_
  have jO:bj K h₁ h':=λb o hb hd e=>(ou.2 b λh=>by subst h;rw[hI]at e;cases e).trans (st.1 b o hb hd e)
  refine hQ _ h' _ ⟨jO,?_⟩ (ku ou) (.cB ⟨_,rfl⟩) ⟨_,rfl⟩
  have e1:a+((i+1:Nat):Int)*c=a+(i:Int)*c+c:=by rw[Int.natCast_add,Int.add_mul,Int.natCast_one,Int.one_mul,Int.add_assoc]
  have e2:((bB a b c).length:Int)-((i+1:Nat):Int)=((bB a b c).length:Int)-(i:Int)-1:=by rw[Int.natCast_add,Int.natCast_one,Int.sub_sub]
  rw[e1,e2];exact uF
 go i s Q E v dC _ st hQ:=mT st.2 rfl (by decide) (hQ s.heap st λb o _ e=>e)
 done s Q E st hQ:=by
  rw[List.length_map]at st
  exact wpAny_pyNext_range_end hh st.2 (Int.le_of_eq (Int.sub_self _)) λh' he=>hQ h' s.toks he
 self i s Q E st hQ:=wpAny_pyIter_rangeiter st.2 hQ
 new b hb:=by subst hb;exact hI
 live i h b st e:=by subst e;exact⟨_,st.2,bx rfl⟩
 jg i v h b st e:=by subst e;exact⟨_,st.2,bx rfl⟩
 apart b hb e:=by subst e;exact zZ hb
 size:=by rw[List.length_map];exact(jm d9).2.1
noncomputable def cT(prog:Program)(w:World)(A:Around)(Z K:Addr→Prop)(h₁:Heap)(I:Addr)(W:Addr→Prop)(jf:Expr→Prop)(n:Nat)(items:List D)(h₂:Heap):Prop:=
 ∃St Md,wu prog w A Z K h₁ I W jf n items St Md∧St 0 h₂
theorem bj.Dv{h h':Heap}(x:Ext h h'):bj K h h':=λb o _ _ e=>x b o e
theorem cT.ext{h₁:Heap}{I:Addr}{W:Addr→Prop}{jf:Expr→Prop}{n:Nat}{items:List D}{h₂ h₃:Heap}(x:cT prog w A Z K h₁ I W jf n items h₂)(hx:Ext h₂ h₃):cT prog w A Z K h₁ I W jf n items h₃:=by
 refine da x λSt Md wk st=>?_
 exact⟨St,Md,wk,wk.frame 0 _ _ st (λb o z hd e=>hx b o (wk.keep 0 _ st b o z hd e)) (bj.Dv hx)⟩
theorem bj.kv{h h':Heap}(x:Ext h h'):bj K h h':=λb o _ _ e=>x b o e
theorem z0{n:Nat}{d:D}{v:Value}{items:List D}{Q:Value→Shared→Prop}(hh:A.handled=none)(hr:aw Z s.heap n d v)(hi:de d=some items)
  (hQ: ∀I h₂,Ext s.heap h₂→s.heap.get? I=none→(∃o,h₂.get? I=some o)→(∀K:Addr→Prop,aZ K s.heap d v→ ¬K I→cT prog w A Z K s.heap I (· =I) jP (n-1) items h₂)→Q (.ref I) {s with heap:=h₂}):
  wpAny (model prog w) A (pyIter v) Q E s:=by
 have mC:=gone (h:=s.heap) (Nat.le_refl s.heap.objs.size)
 cases d <;> first|exact gV hi|skip
 ·rename_i l
  cases hi
  refine cz hr.items λa vs Mt hl hp hlen d7=>?_
  subst Mt
  refine wpAny_pyIter_list hp.isList (hQ _ _ (Ext.push _ _) mC ⟨_,Heap.get?_push_size _ rfl⟩ λK hK zZ=>?_)
  refine cz hK λa' fi e ha _ UB jd=>?_
  cases e
  have:=iK hp UB;subst this
  refine⟨_,_,xU hh mC hp.isList ha hlen hl zZ λi d w h1 h2=>⟨d7 i d w h1 h2,?_⟩,.kv (Ext.push _ _),_,Heap.get?_push_size _ rfl,rfl,rfl⟩
  refine ai (jd.get h1) λw' h3 h4=>?_
  replace h3:=h2▸h3
  cases h3
  exact h4
 ·rename_i l
  cases hi
  refine cz (aw.plain hr rfl) λa vs Mu hz hl hp jd=>?_
  subst Mu
  refine wpAny_pyIter_tuple hp (hQ _ _ (Ext.push _ _) mC ⟨_,Heap.get?_push_size _ rfl⟩ λK hK zZ=>?_)
  refine cz hK λa' fi e ha _ UB UC=>?_
  cases e
  have:=pe hp UB;subst this
  refine⟨_,_,uG hh mC hp ha jd.length hl zZ λi d w h1 h2=>?_,.kv (Ext.push _ _),_,Heap.get?_push_size _ rfl,rfl,rfl⟩
  refine ai (jd.get h1) λw' h3 h4=>?_
  replace h3:=h2▸h3
  cases h3
  refine ai (UC.get h1) λw' h3 h5=>?_
  replace h3:=h2▸h3
  cases h3
  exact⟨.cB h4,h5⟩
 ·rename_i a b c
  refine aX (eM hi) λd9 hi=>?_
  cases hi
  refine eh (aw.plain hr rfl) λr t u x Mv hz hp=>?_
  subst Mv
  refine gM (jm d9) λh1 h2 h3=>?_
  refine wpAny_pyIter_range hp (xQ d9) (hQ _ _ (Ext.push _ _) mC ⟨_,Heap.get?_push_size _ rfl⟩ λK hK zZ=>?_)
  refine⟨_,_,uH hh mC d9 zZ,.kv (Ext.push _ _),?_⟩
  show IsRangeIter _ _ _ _ _
  rw[h1]
  have:(a+((0:Nat):Int)*c)=a:=by simp
  rw[this]
  have:(((bB a b c).length:Int)-((0:Nat):Int))=((bB a b c).length:Int):=by simp
  rw[this]
  exact Heap.get?_push_size _ rfl
end
end Mine.Internal
end
section
open PySem PyProof.Rows
namespace Mine.Internal
inductive dF(c:Cx)(asg:Str→Bool):List Nat→List Expr→Prop
 |nil:dF c asg [] []
 |cons {x xs n pos es}:c.nt[x]? =some n→asg n=true→dF c asg xs es→dF c asg (x::xs) (.Name n pos::es)
inductive mV(c:Cx)(asg:Str→Bool):gh→Expr→Prop
 |one {x n pos}:c.nt[x]? =some n→asg n=true→mV c asg (.one x) (.Name n pos)
 |many {xs es k pos}:dF c asg xs es→mV c asg (.many xs) (.Tuple es k pos)
noncomputable def fI(own:Nat→Option Addr)(xs:List Nat):Nat→Option Addr:=λy=>if xs.contains y then none else own y
theorem pB(own:Nat→Option Addr):fI own []=own:=rfl
theorem mW(own:Nat→Option Addr)(x:Nat)(xs:List Nat):fI (d5 own x) xs=fI own (x::xs):=by
 funext y
 simp only[fI,d5,List.contains_cons]
 by_cases h1:xs.contains y=true
 ·rw[if_pos h1,if_pos (by simp only[h1,Bool.or_true])]
 ·rw[if_neg h1]
  by_cases h2:y=x
  ·rw[if_pos h2,if_pos (by simp[h2])]
  ·rw[if_neg h2,if_neg (by simp only[Bool.or_eq_true,beq_iff_eq];rintro (h|h);exact h2 h;exact h1 h)]
theorem xV(own:Nat→Option Addr)(x:Nat):fI own [x]=d5 own x:=by rw[←mW,pB]
noncomputable def xW(c:Cx):gh→Nat→Bool
 | .one x,n=>decide (n≤c.lv x)
 | .many _,_=>true
theorem bj.trans{K:Addr→Prop}{h h' dA:Heap}(x:bj K h h')(y:bj K h' dA):bj K h dA:=λb o z hd e=>y b o z hd (x b o z hd e)
section
variable{c:Cx}{A:Around}{env:Env}{K C:Addr→Prop}{asg:Str→Bool}{E:Value→Shared→Prop}
theorem dF.length{xs:List Nat}{es:List Expr}(h:dF c asg xs es):(assignEach es env).length=xs.length:=by
 induction h with
 |nil=>rfl
 |cons _ _ _ ih=>simp[assignEach,ih]
theorem dF.star{xs:List Nat}{es:List Expr}(h:dF c asg xs es):(assignEach es env).findIdx? (·.1)=none:=by
 induction h with
 |nil=>rfl
 |cons _ _ _ ih=>
  rw[List.findIdx?_eq_none_iff]at ih ⊢
  intro x hx
  simp only[assignEach,List.mem_cons]at hx
  rcases hx with rfl|hx
  ·rfl
  ·exact ih x hx
theorem eR{n:Str}{pos:Pos}{v:Value}{Q:Unit→Shared→Prop}{s:Shared}{M:Model}(h:wpAny M A (storeName env n v) Q E s):wpAny M A (assign (.Name n pos) env v) Q E s:=by
 show wpAny M A (standAt pos >>= λ_=>bindName env n v) Q E s
 exact wpAny_bind (wpAny_standAt (wpAny_bindName h))
theorem gm: ∀{xs:List Nat} {ds:List D} {σ σ':ah},bb xs ds σ=some σ'→xs.length=ds.length
 | [],[],_,_,_=>rfl
 |x::xs,d::ds,σ,σ',h=>by simp[gm (show bb xs ds (upd σ x d)=some σ' from h)]
 | [],_::_,_,_,h=>by cases h
 |_::_,[],_,_,h=>by cases h
theorem z3: ∀{xs:List Nat} {es:List Expr} {ds:List D} {vs:List Value} {σ σ':ah} {own:Nat→Option Addr} {s:Shared} {Q:Unit→Shared→Prop},dF c asg xs es→Act c A env s σ K C asg own→bb xs ds σ=some σ'→
  aF (λa=>K a∧C a) s.heap ds vs→(∀h' tk,Act c A env {s with heap:=h',toks:=tk} σ' K C asg (fI own xs)→Soft env s.heap h'→Q () {s with heap:=h',toks:=tk})→
  wpAny (model c.prog c.w) A (assignInOrder ((assignEach es env).map (·.2)) vs) Q E s:=by
 intro xs es ds vs σ σ' own s Q hn
 induction hn generalizing ds vs σ σ' own s Q with
 |nil=>
  intro p hb hr hQ
  cases ds with
  |nil=>cases hb;cases hr;exact wpAny_pure (hQ s.heap s.toks (by rw[pB];exact p) (.ext (.refl _)))
  |cons d ds=>cases hb
 | @cons x xs n pos es hx ha Fm ih=>
  intro p hb hr hQ
  cases ds with
  |nil=>cases hb
  |cons d ds=>
   refine b8 hr λv ws Mw r rs=>?_
   subst Mw
   skip
   refine wpAny_bind (wpAny_holding (eR (cG p ha λh' tk st=>?_)))
   have p':=p.stored (tk:=tk) hx st (.cB r) (r.mono λ_ _ z=>z.1)
   refine ih p' (show bb xs ds (upd σ x d)=some σ' from hb) (rs.dat λb o z hd e=>⟨st.dat b o trivial hd e,z⟩) λdA je UD hk=>hQ dA je ?_ (st.toSoft.trans hk)
   rw[←mW];exact UD
theorem uI{t:gh}{e:Expr}{d:D}{v:Value}{σ σ':ah}{own:Nat→Option Addr}{s:Shared}{n:Nat}{Q:Unit→Shared→Prop}(ht:mV c asg t e)(p:Act c A env s σ K C asg own)(hb:eA t d σ=some σ')
  (hr:aw (λa=>K a∧C a) s.heap n d v) (hk:aZ K s.heap d v) (dG:xW c t n=true)
  (hQ: ∀h' tk,Act c A env {s with heap:=h',toks:=tk} σ' K C asg (fI own t.vars)→Soft env s.heap h'→Q () {s with heap:=h',toks:=tk}):
  wpAny (model c.prog c.w) A (assign e env v) Q E s:=by
 cases ht with
 | @one x n' pos hx ha=>
  cases hb
  refine eR (cG p ha λh' tk st=>hQ h' tk ?_ st.toSoft)
  show Act _ _ _ _ _ _ _ _ (fI own [x])
  rw[xV]
  exact p.stored hx st (hr.le (of_decide_eq_true dG)) hk
 | @many xs es k pos hn=>
  cases d <;> first|(cases hb;done)|skip
  rename_i l
  refine cz (aw.plain hr rfl) λa vs Mx _ hl ht jd=>?_
  subst Mx
  have hlen:=gm hb
  refine wpAny_assign_Tuple p.room.handled ht (by rw[hn.length,List.size_toArray,jd.length,hlen]) hn.star λh' hx=>?_
  have GY:Ext s.heap h':=λb o e=>hx b o (Nat.ne_of_lt (Heap.lt_size e)) e
  exact z3 hn (p.next (tk:=s.toks) GY) hb (jd.ext GY) λdA tk UD jO=>hQ dA tk UD ((Soft.ext GY).trans jO)
end
end Mine.Internal
end
section
open PySem PyProof.Rows
namespace Mine.Internal
noncomputable def kz(M:Model)(A:Around)(E:Value→Shared→Prop)(e elt:Expr)(gens:List Comprehension)(acc:Value)(env:Env)(depth:Nat)(P:Shared→Prop)(s:Shared):Prop:=
 match gens[depth]? with
 |some g'=>wpAny M A (eval g'.iter env) (λx s₁=>wpAny M A (foldedSetIterable g'.iter env x) (λx s₂=>wpAny M A (pyIter x) (λit s₃=>wpAny M A (runOwn (.compStart e depth it acc env) env) (λ_ s₄=>P s₄) E s₃) E s₂) E s₁) E s
 |none=>wpAny M A (eval elt env) (λx s₁=>wpAny M A (call (.builtin "list.append") [acc,x]) (λ_ s₂=>P s₂) E s₁) E s
noncomputable def hU(ifs:List Expr)(env:Env):Sem Bool:=forIn ifs true λc r=>if r=true then do let ok←isTrue c env (eval c env);pure (ForInStep.yield ok)else pure (ForInStep.yield r)
section
variable{M:Model}{prog:Program}{w:World}{A:Around}{E:Value→Shared→Prop}{s:Shared}
theorem sG{elt dC iter:Expr}{ifs:List Expr}{gens:List Comprehension}{scope:Scope}{pos:Pos}{it acc:Value}{env:Env}{depth:Nat}{Q:Fin→Shared→Prop}(hg:gens[depth]? =some ⟨dC,iter,ifs,0⟩)
  (eS: ∀g∈gens,g.is_async=0)
  (h:wpAny M A (pyNext it) (λr s₁=>match r with
   |none=>Q (.done .next) s₁
   |some v=>wpAny M A (letOwnedTupleGo dC it v) (λ_ s₂=>wpAny M A (assign dC env v) (λ_ s₃=>wpAny M A (hU ifs env) (λok s₄=>
     if ok=true then kz M A E (.ListComp elt gens scope pos) elt gens acc env (depth+1) (Q (.again (.compLoop (.ListComp elt gens scope pos) depth it acc env))) s₄
     else Q (.again (.compLoop (.ListComp elt gens scope pos) depth it acc env)) s₄) E s₃) E s₂) E s₁) E s):
  wpAny M A (compTurn (.ListComp elt gens scope pos) depth it acc env) Q E s:=by
 unfold compTurn
 dsimp only
 rw[hg]
 dsimp only
 refine wpAny_bind (wpAny_standAt ?_)
 refine wpAny_bind (wpAny_mono h (λr s₁ h₁=>?_) λ_ _ x=>x)
 cases r with
 |none=>exact wpAny_pure h₁
 |some v=>
  refine wpAny_bind (wpAny_mono h₁ (λ_ s₂ h₂=>wpAny_bind (wpAny_mono h₂ (λ_ s₃ h₃=>wpAny_bind (wpAny_mono h₃ (λok s₄ h₄=>?_) λ_ _ x=>x)) λ_ _ x=>x)) λ_ _ x=>x)
  cases ok with
  |false=>exact wpAny_pure h₄
  |true=>
   simp only[if_true]at h₄ ⊢
   unfold kz at h₄
   cases hn:gens[depth+1]? with
   |none=>
    rw[hn]at h₄
    exact wpAny_bind (wpAny_bind (wpAny_mono h₄ (λx s₅ h₅=>wpAny_bind (wpAny_mono h₅ (λ_ s₆ h₆=>wpAny_pure (wpAny_pure h₆)) λ_ _ x=>x)) λ_ _ x=>x))
   |some g'=>
    rw[hn]at h₄
    have h0:g'.is_async=0:=eS g' (List.mem_of_getElem? hn)
    dsimp only at h₄ ⊢
    rw[h0]
    have e0:((0:Int) != 0)=false:=rfl
    simp only[e0,Bool.false_eq_true,if_false]
    exact wpAny_bind (wpAny_mono h₄ (λx s₅ h₅=>wpAny_bind (wpAny_standAt (wpAny_bind (wpAny_mono h₅ (λx s₆ h₆=>wpAny_bind (wpAny_holding (wpAny_mono h₆ (λRp s₇ h₇=>
     wpAny_bind (wpAny_mono h₇ (λ_ s₈ h₈=>wpAny_pure h₈) λ_ _ x=>x)) λ_ _ x=>x))) λ_ _ x=>x)))) λ_ _ x=>x)
theorem pC{elt dC iter:Expr}{ifs:List Expr}{gens:List Comprehension}{scope:Scope}{pos:Pos}{it acc:Value}{env:Env}{depth:Nat}{R:Result→Shared→Prop}(hg:gens[depth]? =some ⟨dC,iter,ifs,0⟩)
  (eS: ∀g∈gens,g.is_async=0) (I:Nat→Shared→Prop)
  (turn: ∀n s E,I n s→wpAny (model prog w) A (pyNext it) (λr s₁=>match r with
   |none=>R (.ok .next) s₁
   |some v=>wpAny (model prog w) A (letOwnedTupleGo dC it v) (λ_ s₂=>wpAny (model prog w) A (assign dC env v) (λ_ s₃=>wpAny (model prog w) A (hU ifs env) (λok s₄=>
     if ok=true then kz (model prog w) A E (.ListComp elt gens scope pos) elt gens acc env (depth+1) (λs₅=> ∃m,m<n∧I m s₅) s₄
     else∃m,m<n∧I m s₄) E s₃) E s₂) E s₁) E s)
  (n:Nat) (h:I n s):codeAny (model prog w) A (.compLoop (.ListComp elt gens scope pos) depth it acc env) R s:=by
 refine codeAny_loop rfl I (λn s hI=>?_) n h
 show wpAny _ A ((compTurn (.ListComp elt gens scope pos) depth it acc env).onRaise (λx=>do noteFrame x env;theTreesLotGoes x)) _ _ s
 refine wpAny_noted ?_
 refine sG hg eS (wpAny_mono (turn n s _ hI) (λr s₁ h₁=>?_) λ_ _ x=>x)
 cases r with
 |none=>exact h₁
 |some v=>
  refine wpAny_mono h₁ (λ_ s₂ h₂=>wpAny_mono h₂ (λ_ s₃ h₃=>wpAny_mono h₃ (λok s₄ h₄=>?_) λ_ _ x=>x) λ_ _ x=>x) λ_ _ x=>x
  cases ok with
  |false=>exact⟨rfl,h₄⟩
  |true=>
   simp only[if_true]at h₄ ⊢
   unfold kz at h₄ ⊢
   cases hn:gens[depth+1]? with
   |none=>
    rw[hn]at h₄
    exact wpAny_mono h₄ (λ_ _ h₅=>wpAny_mono h₅ (λ_ _ h₆=>⟨trivial,h₆⟩) λ_ _ x=>x) λ_ _ x=>x
   |some g'=>
    rw[hn]at h₄
    exact wpAny_mono h₄ (λ_ _ h₅=>wpAny_mono h₅ (λ_ _ h₆=>wpAny_mono h₆ (λ_ _ h₇=>wpAny_mono h₇ (λ_ _ h₈=>⟨trivial,h₈⟩) λ_ _ x=>x) λ_ _ x=>x) λ_ _ x=>x) λ_ _ x=>x
theorem mX{elt:Expr}{gens:List Comprehension}{scope:Scope}{pos:Pos}{it acc:Value}{env:Env}{depth:Nat}{R:Result→Shared→Prop}{g:Comprehension}(hg:gens[depth]? =some g)
  (eS: ∀g∈gens,g.is_async=0)
  (h0:codeAny (model prog w) A (.compLoop (.ListComp elt gens scope pos) depth it acc env) R s)
  (h: ∀E,wpAny (model prog w) A (pyIter it) (λRp s'=>codeAny (model prog w) A (.compLoop (.ListComp elt gens scope pos) depth Rp acc env) R s') E s):
  codeAny (model prog w) A (.compStart (.ListComp elt gens scope pos) depth it acc env) R s:=by
 have ha:g.is_async=0:=eS g (List.mem_of_getElem? hg)
 refine codeAny_of_tree ?_
 show wpAny _ _ ((compStart (.ListComp elt gens scope pos) depth it acc env).onRaise (λx=>do noteFrame x env;standAt theWindowsPlace)) _ _ s
 refine wpAny_notedAt ?_
 unfold compStart
 have z4:clausesOf (.ListComp elt gens scope pos)=gens:=rfl
 rw[z4,hg]
 have e0:(Option.elim (some g) false λx=>x.is_async != 0)=false:=by simp[ha]
 rw[e0]
 show wpAny _ _ (ask >>= _) _ _ s
 refine wpAny_bind (wpAny_askSetting (wpAny_ite ?_))
 split
 ·first
   |exact wpAny_bind (wpAny_pure (wpAny_pure (And.intro rfl h0)))
   |exact wpAny_pure (And.intro rfl h0)
 ·first
   |exact wpAny_bind (wpAny_rule (wpAny_bind (wpAny_standAt (wpAny_bind (wpAny_mono (h _) (λRp s' h'=>wpAny_pure (And.intro rfl h')) λ_ _ x=>x)))))
   |(refine wpAny_bind (wpAny_rule ?_);show wpAny _ _ (standAt g.iter.pos >>= _) _ _ s;exact wpAny_bind (wpAny_standAt (wpAny_bind (wpAny_mono (h _) (λRp s' h'=>wpAny_pure (And.intro rfl h')) λ_ _ x=>x))))
end
end Mine.Internal
end
section
open PySem PyProof.Rows
namespace Mine.Internal
theorem aw.and{Z K:Addr→Prop}{h:Heap}{n:Nat}{d:D}{v:Value}(x:aw Z h n d v)(y:aZ K h d v):aw (λa=>Z a∧K a) h n d v:=x.both (λ_ _ _ _ e=>e) y
noncomputable def Cx.at(c:Cx)(h:Heap):Cx:={c with hT:=h}
noncomputable def sJ(c:Cx)(sc:Scope)(me:ME)(xs:List Expr):Prop:=
 ∀(A:Around) (env:Env) (s:Shared) (σ:ah) (Z:Addr→Prop) (b:Bool) (Q:Bool→Shared→Prop) (E:Value→Shared→Prop),env.scope=sc→lN c A env s σ Z→(ar c.Φ me).i σ=some b→
  (∀h' tk,Ext s.heap h'→Q b {s with heap:=h',toks:=tk})→wpAny (model c.prog c.w) A (hU xs env) Q E s
noncomputable def My(c:Cx)(src:ME)(Z K:Addr→Prop)(h₁:Heap)(W:Addr→Prop):Prop:=
 ((∀b o,h₁.get? b=some o→K b)∨(gG c src=0∧ ∀b o,cQ o→h₁.get? b=some o→Z b→ ¬W b→K b))∧ ∀b,K b→ ¬W b
noncomputable def kA(c:Cx)(sc:Scope)(src:ME)(x:Expr)(jf:Expr→Prop):Prop:=
 ∀(A:Around) (env:Env) (s:Shared) (σ:ah) (Z:Addr→Prop) (d:D) (items:List D) (Q:Value→Shared→Prop) (E:Value→Shared→Prop),env.scope=sc→lN c A env s σ Z→(ar c.Φ src).v σ=some d→de d=some items→
  (∀I W h₁ h₂ tk,Ext s.heap h₁→Ext h₁ h₂→(∀b,W b→h₁.get? b=none∧ ∃o,h₂.get? b=some o)→
   (∀K:Addr→Prop,My c src Z K h₁ W→cT c.prog c.w A Z K h₁ I W jf (gG c src-1) items h₂)→Q (.ref I) {s with heap:=h₂,toks:=tk})→
  wpAny (model c.prog c.w) A (eval x env) (λv s₁=>wpAny (model c.prog c.w) A (pyIter v) Q E s₁) E s
section
variable{c:Cx}{sc:Scope}
theorem cK{a:ME}{x:Expr}(ha:ay c sc a x):kA c sc a x jP:=by
 intro A env s σ Z d items Q E he p hd hi hQ
 refine ha A env s σ Z d _ E he p hd λv h₁ tk x1 r _=>?_
 refine z0 p.room.handled r hi λI h₂ x2 hI Mz hw=>hQ I (· =I) h₁ h₂ tk x1 x2 (λb hb=>by subst hb;exact⟨hI,Mz⟩) λK hK=>hw K ?_ λh=>hK.2 I h rfl
 rcases hK.1 with h|⟨h0,h⟩
 ·exact r.all.change λa o _ e=>⟨e,h a o e⟩
 ·rw[h0]at r
  exact aZ.dat (λa o z hd e=>⟨e,h a o hd e z λe'=>by
   have e':a=I:=e'
   subst e'
   have rH:h₁.get? a=none:=hI
   rw[rH]at e;cases e⟩) r
theorem lz{M:Model}{A:Around}{E:Value→Shared→Prop}{s:Shared}{env:Env}{Q:Bool→Shared→Prop}: ∀(xs:List Expr),Q false s→
  wpAny M A (forIn xs false λc r=>if r=true then do let ok←isTrue c env (eval c env);pure (ForInStep.yield ok)else pure (ForInStep.yield r)) Q E s
 | [],h=>by rw[List.forIn_nil];exact wpAny_pure h
 |x::xs,h=>by
  rw[List.forIn_cons]
  simp only[Bool.false_eq_true,if_false]
  exact wpAny_bind (wpAny_pure (lz xs h))
theorem eT:sJ c sc .nil []:=λA env s σ Z b Q E he p hb hQ=>by
 obtain rfl:=Option.some.inj hb
 exact wpAny_pure (hQ s.heap s.toks (.refl _))
theorem mY{e es:ME}{x:Expr}{xs:List Expr}(ha:dN c sc e x)(Fm:sJ c sc es xs):sJ c sc (.cons e es) (x::xs):=by
 intro A env s σ Z b Q E he p hb hQ
 refine ai (Option.bind_eq_some_iff.mp hb) λb1 h1 hb=>?_
 unfold hU
 rw[List.forIn_cons]
 simp only[if_true]
 refine wpAny_bind (wpAny_bind (ha A env s σ Z b1 _ E he p h1 λh' tk hx=>wpAny_pure ?_))
 dsimp only
 cases b1 with
 |false=>cases hb;exact lz xs (hQ h' tk hx)
 |true=>exact Fm A env _ σ Z b Q E he (p.next (tk:=tk) hx) hb λdA je cv=>hQ dA je (hx.trans cv)
noncomputable def noOwn:Nat→Option Addr:=λ_=>none
noncomputable def uJ(c:Cx)(sc:Scope)(asg:Str→Bool)(elt rest:ME)(e dH:Expr)(gens:List Comprehension)(depth:Nat):Prop:=
 ∀(hB:Heap) (A:Around) (env:Env) (s:Shared) (σ:ah) (K C:Addr→Prop) (js done:List D) (D':Addr) (vs:Array Value) (n:Nat) (P:Shared→Prop) (E:Value→Shared→Prop),Ext c.hT hB→env.scope=sc→
  Act (c.at hB) A env s σ K C asg noOwn→(∀x∈dM rest,σ x=none)→(ar c.Φ rest).g (λσ'=>((ar c.Φ elt).v σ').map λr=> [r]) σ=some js→s.heap.get? D'=some (seqObj "list" vs n)→
  aF (λa=>K a∧C a) s.heap done vs.toList→ ¬K D'→hB.get? D'=none→done.length+js.length≤bW→
  (∀h' tk fi n',Act (c.at hB) A env {s with heap:=h',toks:=tk} σ K C asg noOwn→h'.get? D'=some (seqObj "list" fi n')→aF (λa=>K a∧C a) h' (done++js) fi.toList→bj (λb=>b≠D') s.heap h'→
   P {s with heap:=h',toks:=tk})→
  kz (model c.prog c.w) A E e dH gens (.ref D') env depth P s
theorem lN.base{A:Around}{env:Env}{s:Shared}{σ:ah}{Z:Addr→Prop}{hB:Heap}(hx:Ext c.hT hB)(p:lN (c.at hB) A env s σ Z):lN c A env s σ Z:=
 ⟨p.room,p.fn,p.gl,p.bl,hx.trans p.top,p.hZ,p.cell,p.apart,p.var⟩
theorem tail_nil{asg:Str→Bool}{elt:ME}{e dH:Expr}{gens:List Comprehension}{depth:Nat}(ha:ay c sc elt dH)(h0:gG c elt=0)(hg:gens[depth]? =none):uJ c sc asg elt .nil e dH gens depth:=by
 intro hB A env s σ K C js done D' vs n P E hx he p _ hs ho hr hK UE cf hP
 refine ai (Option.map_eq_some_iff.mp (show Option.map (λr=> [r]) ((ar c.Φ elt).v σ)=some js from hs)) λd hd e1=>?_
 subst e1
 unfold kz
 rw[hg]
 refine ha A env s σ _ d _ E he (p.pre.base hx) hd λv h1 t1 x1 r1 _=>?_
 replace r1:=h0▸r1
 have p1:=p.next (tk:=t1) x1
 have hlen:vs.size=done.length:=by have:=hr.length;simpa using this
 have hz:=bY
 simp only[List.length_cons,List.length_nil]at cf
 refine wpAny_list_append_plain (items:=vs) ⟨n,x1 _ _ ho⟩ (λh2 ⟨n2,tV⟩ C7=>?_) (IS hlen (Nat.le_trans (Nat.le_add_right _ _) cf) hz)
 have kd:bj (λb=>b≠D') h1 h2:=λb o hb _ e=>(C7.2 b hb).trans e
 have kK:bj K h1 h2:=λb o hb hd e=>kd b o (λh=>hK (h▸hb)) hd e
 refine hP h2 t1 (vs.push v) n2 (p1.off ⟨kK,λb o hd e _=>?_,λb o e=>?_,λ_ _ _ h=>by cases h⟩ λa e=>?_) tV ?_ (bj.trans (.kv x1) kd)
 ·refine(C7.2 b λh=>?_).trans e
  subst h
  rw[x1 _ _ ho]at e
  obtain rfl:=Option.some.inj e
  exact hd (.inl ⟨_,_,rfl⟩)
 ·exact(C7.2 b λh=>by subst h;rw[show(c.at hB).hT.get? b=none from UE]at e;cases e).trans (p1.top b o e)
 ·by_cases hb:a=D'
  ·subst hb
   replace e:=tV▸e
   cases e
  ·rw[←C7.2 a hb];exact e
 ·rw[Array.toList_push]
  have I3: ∀a o,(K a∧C a)→h1.get? a=some o→h2.get? a=some o∧(K a∧C a):=λa o z e=>⟨(C7.2 a λh=>hK (h▸z.1)).trans e,z⟩
  exact aF.append ((hr.ext x1).change I3) ⟨v,[],rfl,r1.change I3,rfl⟩
end
end Mine.Internal
end
section
open PySem PyProof.Rows
namespace Mine.Internal
theorem eD: ∀{xs:List Nat} {ds:List D} {σ σ':ah},bb xs ds σ=some σ'→ ∀x,x ∉ xs→σ' x=σ x
 | [],[],σ,σ',h,x,_=>by cases h;rfl
 |y::xs,d::ds,σ,σ',h,x,hx=>by
  rw[eD (show bb xs ds (upd σ y d)=some σ' from h) x λe=>hx (List.mem_cons_of_mem _ e)]
  simp only[upd]
  rw[if_neg λe=>hx (by rw[e];exact List.mem_cons_self)]
 | [],_::_,_,_,h,_,_=>by cases h
 |_::_,[],_,_,h,_,_=>by cases h
theorem hV{t:gh}{d:D}{σ σ':ah}(h:eA t d σ=some σ'){x:Nat}(hx:x ∉ t.vars):σ' x=σ x:=by
 cases t with
 |one y=>
  cases h
  simp only[upd]
  rw[if_neg λe=>hx (by rw[e];exact List.mem_singleton.mpr rfl)]
 |many xs=>
  cases d <;> first|(cases h;done)|exact eD h x hx
section
variable{c:Cx}{sc:Scope}
theorem Act.weaken{A:Around}{env:Env}{s:Shared}{σ σ1:ah}{K C:Addr→Prop}{asg:Str→Bool}(p:Act c A env s σ1 K C asg noOwn)(h: ∀x d,σ x=some d→σ1 x=some d):Act c A env s σ K C asg noOwn:=
 {p with
  var:=λx d name h1 h2 h3 h4=>p.var x d name (h x d h1) h2 h3 h4
  cO:=λx a h=>by cases h}
theorem sL(xs:List Nat):fI noOwn xs=noOwn:=by
 funext y;simp only[fI,noOwn];split <;> rfl
theorem dF.base{asg:Str→Bool}{h:Heap}{xs:List Nat}{es:List Expr}(x:dF c asg xs es):dF (c.at h) asg xs es:=by
 induction x with
 |nil=>exact .nil
 |cons a b _ ih=>exact .cons a b ih
theorem mV.base{asg:Str→Bool}{h:Heap}{t:gh}{e:Expr}(x:mV c asg t e):mV (c.at h) asg t e:=by
 cases x with
 |one a b=>exact .one a b
 |many hn=>exact .many hn.base
noncomputable def z5(t:gh)(rest:ME):Bool:=t.vars.all λx=> !(dM rest).contains x
noncomputable def UG(c:Cx)(t:gh)(ifs rest elt:ME)(σ:ah)(d:D):Option (List D):=
 (eA t d σ).bind λσ1=>((ar c.Φ ifs).i σ1).bind λok=>if ok then(ar c.Φ rest).g (λσ'=>((ar c.Φ elt).v σ').map λr=> [r]) σ1 else some []
inductive wx(c:Cx)(t:gh)(ifs rest elt:ME)(σ:ah)(d:D)(l:List D):List D→Prop
 |mk (σ1:ah) (ok:Bool) (a b:List D) (Dw:eA t d σ=some σ1) (Dx:(ar c.Φ ifs).i σ1=some ok) (ha:(if ok then(ar c.Φ rest).g (λσ'=>((ar c.Φ elt).v σ').map λr=> [r]) σ1 else some [])=some a) (hb:gi (UG c t ifs rest elt σ) l=some b):wx c t ifs rest elt σ d l (a++b)
theorem uK{t:gh}{ifs rest elt:ME}{σ:ah}{d:D}{l rem:List D}(hs:gi (UG c t ifs rest elt σ) (d::l)=some rem):wx c t ifs rest elt σ d l rem:=by
 refine ai (Option.bind_eq_some_iff.mp hs) λa ha hs=>?_
 refine ai (Option.map_eq_some_iff.mp hs) λb hb MA=>?_
 subst MA
 refine ai (Option.bind_eq_some_iff.mp ha) λσ1 Dw ha=>?_
 refine ai (Option.bind_eq_some_iff.mp ha) λok Dx ha=>?_
 exact .mk σ1 ok a b Dw Dx ha hb
theorem qv{l:List D}{i:Nat}(h:i<l.length): ∃d,l[i]? =some d∧l.drop i=d::l.drop (i+1):=⟨l[i],List.getElem?_eq_getElem h,List.drop_eq_getElem_cons h⟩
inductive Fo(c:Cx)(asg:Str→Bool)(t:gh)(ifs rest elt:ME)(hB:Heap)(A:Around)(env:Env)(s:Shared)(σ:ah)(K C:Addr→Prop)(D':Addr)(W:Addr→Prop)(St:Nat→Heap→Prop)(items full:List D):Nat→Shared→Prop
 |mk (i:Nat) (h:Heap) (tk:Nat) (fi:Array Value) (n':Nat) (dn rem:List D) (jr:i≤items.length) (gD:St i h) (p:Act (c.at hB) A env {s with heap:=h,toks:=tk} σ K C asg noOwn) (ho:h.get? D'=some (seqObj "list" fi n')) (hr:aF (λa=>K a∧C a) h dn fi.toList)
   (hs:gi (UG c t ifs rest elt σ) (items.drop i)=some rem) (I4:dn++rem=full) (CJ:bj (λb=>b≠D'∧ ¬W b) s.heap h):Fo c asg t ifs rest elt hB A env s σ K C D' W St items full (items.length+1-i) {s with heap:=h,toks:=tk}
theorem Dy{asg:Str→Bool}{t:gh}{ifs rest elt:ME}{dC iter dH:Expr}{eE:List Expr}{gens:List Comprehension}{scope:Scope}{pos:Pos}{depth:Nat}{hB h₁:Heap}{A:Around}{env:Env}{s:Shared}{σ:ah}{K C:Addr→Prop}
  {I D':Addr} {W:Addr→Prop} {jf:Expr→Prop} {n:Nat} {items js done:List D} {vs:Array Value} {m:Nat} {R:Result→Shared→Prop}
  (hg:gens[depth]? =some ⟨dC,iter,eE,0⟩) (eS: ∀g∈gens,g.is_async=0) (ht:mV c asg t dC) (hi:sJ c sc ifs eE) (z6:uJ c sc asg elt rest (.ListComp dH gens scope pos) dH gens (depth+1)) (UH:z5 t rest=true)
  {Zw:Addr→Prop} (Y6: ∀a,Zw a→C a) (Y7: ∀a,K a→C a→Zw a) (w:cT c.prog c.w A Zw K h₁ I W jf n items s.heap) (d9:jf dC) (dG:xW c t n=true)
  (hx:Ext c.hT hB) (he:env.scope=sc) (p:Act (c.at hB) A env s σ K C asg noOwn) (hσ: ∀x∈t.vars++dM rest,σ x=none) (hW: ∀b,W b→hB.get? b=none)
  (hs:gi (λd=>(eA t d σ).bind λσ1=>((ar c.Φ ifs).i σ1).bind λok=>if ok then(ar c.Φ rest).g (λσ'=>((ar c.Φ elt).v σ').map λr=> [r]) σ1 else some []) items=some js)
  (ho:s.heap.get? D'=some (seqObj "list" vs m)) (hr:aF (λa=>K a∧C a) s.heap done vs.toList) (hK: ¬K D') (xX: ¬W D') (UE:hB.get? D'=none) (cf:done.length+js.length≤bW)
  (hR: ∀h tk fi n',Act (c.at hB) A env {s with heap:=h,toks:=tk} σ K C asg noOwn→h.get? D'=some (seqObj "list" fi n')→aF (λa=>K a∧C a) h (done++js) fi.toList→bj (λb=>b≠D'∧ ¬W b) s.heap h→(∀b,W b→ ∃o,h.get? b=some o∧cQ o)→
   ∀h' je,(∀b o,¬W b→h.get? b=some o→h'.get? b=some o)→R (.ok .next) {s with heap:=h',toks:=je}):
  codeAny (model c.prog c.w) A (.compLoop (.ListComp dH gens scope pos) depth (.ref I) (.ref D') env) R s:=by
 refine da w λSt Md w gD=>?_
 refine pC hg eS (Fo c asg t ifs rest elt hB A env s σ K C D' W St items (done++js)) ?_ (items.length+1) (.mk 0 s.heap s.toks vs m done js (Nat.zero_le _) gD p ho hr hs rfl λb o _ _ e=>e)
 intro k s' E hh
 induction hh with|mk i h tk fi n' dn rem jr gD p ho hr hs I4 CJ=>
 by_cases cy:i<items.length
 ·refine Exists.elim (qv cy) λd dt=>?_
  have hd:=dt.1
  replace hs:=dt.2▸hs
  have z4:=uK hs
  clear hs dt
  induction z4 with|mk σ1 ok a b Dw Dx ha hb=>
  -- ql UI step
  refine w.item i _ _ E d gD hd (λb e=>Y7 b (p.hK b e) (p.hC b e)) λv h1 t1 G0 k1 zo UJ=>?_
  have MB:aZ K h1 d v:=UJ.mono λa _ z=>z.elim (λz=>z) λz=>p.hK a z
  have r1:aw (λa=>K a∧C a) h1 n d v:=(zo.and MB).mE λa _ _ z=>⟨z.2,Y6 a z.1⟩
  have D1:h1.get? D'=some (seqObj "list" fi n'):=k1 _ _ xX ho
  have Dz:Off env K noOwn (c.at hB).hT h h1:=⟨λb o hb _ e=>k1 b o (w.apart b hb) e,λb o hd e _=>k1 b o (λhw=>by obtain⟨o',e',d'⟩:=w.live i h b gD hw;rw[e]at e';cases e';exact hd d') e,
   λb o e=>k1 b o (λhw=>by rw[show(c.at hB).hT.get? b=none from hW b hw]at e;cases e) (p.top b o e),λ_ _ _ h=>by cases h⟩
  have z7: ∀a,h1.get? a=none→h.get? a=none:=λa e=>by
   cases e':h.get? a with
   |none=>rfl
   |some o=>
    by_cases hw:W a
    ·refine ai (w.jg i v h1 a G0 hw) λo' rq _=>?_
     replace e:=rq▸e
     cases e
    ·rw[k1 a o hw e']at e;cases e
  have p1:=p.off (tk:=t1) Dz z7
  have l5:aF (λa=>K a∧C a) h1 dn fi.toList:=hr.dat λb o z hd e=>⟨Dz.dat b o z.1 hd e,z⟩
  -- ql MC tuple
  refine w.go i _ _ E v dC d9 G0 λh2 ee k2=>?_
  have D2:h2.get? D'=some (seqObj "list" fi n'):=k2 _ _ xX D1
  have xY:Off env K noOwn (c.at hB).hT h1 h2:=⟨λb o hb _ e=>k2 b o (w.apart b hb) e,λb o hd e _=>k2 b o (λhw=>by obtain⟨o',e',d'⟩:=w.jg i v h1 b G0 hw;rw[e]at e';cases e';exact hd d') e,
   λb o e=>k2 b o (λhw=>by rw[show(c.at hB).hT.get? b=none from hW b hw]at e;cases e) (p1.top b o e),λ_ _ _ h=>by cases h⟩
  have z8: ∀a,h2.get? a=none→h1.get? a=none:=λa e=>by
   cases e':h1.get? a with
   |none=>rfl
   |some o=>
    by_cases hw:W a
    ·refine ai (w.live (i+1) h2 a ee hw) λo' rq _=>?_
     replace e:=rq▸e
     cases e
    ·rw[k2 a o hw e']at e;cases e
  have p2:=p1.off (tk:=t1) xY z8
  have C8:aF (λa=>K a∧C a) h2 dn fi.toList:=l5.dat λb o z hd e=>⟨xY.dat b o z.1 hd e,z⟩
  -- ql target
  refine uI (c:=c.at hB) (n:=n) ht.base p2 Dw
   (r1.du xY.dat MB) (MB.du xY.dat) (by cases t <;> exact dG) λh3 t3 p3 Y8=>?_
  have k3:=Y8.dat
  rw[sL]at p3
  have D3:h3.get? D'=some (seqObj "list" fi n'):=k3 _ _ trivial (.inl ⟨_,_,rfl⟩) D2
  have Y9:aF (λa=>K a∧C a) h3 dn fi.toList:=C8.dat λb o z hd e=>⟨k3 b o trivial hd e,z⟩
  have kc:St (i+1) h3:=w.frame _ _ _ ee ((w.keep _ _ ee).trans (bQ k3)) (bQ k3)
  -- ql G1
  refine hi A env _ σ1 _ ok _ E he (p3.pre.base hx) Dx λh4 t4 x4=>?_
  have p4:=p3.next (tk:=t4) x4
  have D4:=x4 _ _ D3
  have Rq:=Y9.ext x4
  have v5:St (i+1) h4:=w.frame _ _ _ kc ((w.keep _ _ kc).trans (.kv x4)) (.kv x4)
  have Xn:bj (λb=>b≠D'∧ ¬W b) s.heap h4:=λb o z hd e=>x4 b o (k3 b o trivial hd (k2 b o z.2 (k1 b o z.2 (CJ b o z hd e))))
  have sM: ∀x d,σ x=some d→σ1 x=some d:=λx d e=>by
   rw[hV Dw λcv=>by rw[hσ x (List.mem_append_left _ cv)]at e;cases e];exact e
  cases ok with
  |false=>
   obtain rfl:=Option.some.inj ha
   exact⟨_,iC jr,.mk (i+1) h4 t4 fi n' dn b cy v5 (p4.weaken sM) D4 Rq hb (by simpa using I4) Xn⟩
  |true=>
   simp only[if_true]at ha ⊢
   have z9:dn.length+a.length≤bW:=by
    have:=congrArg List.length I4
    simp only[List.length_append]at this
    exact Nat.le_trans (Nat.add_le_add_left (Nat.le_add_right _ _) _) (this▸cf)
   refine z6 hB A env _ σ1 K C a dn D' fi n' _ E hx he p4 (λx cv=>?_) ha D4 Rq hK UE z9 λh5 t5 Za n5 p5 D5 Zb k5=>?_
   ·rw[hV Dw λZc=>?_]
    ·exact hσ x (List.mem_append_right _ cv)
    ·have:=List.all_eq_true.mp UH x Zc
     simp only[Bool.not_eq_true',List.contains_eq_mem,decide_eq_false_iff_not]at this
     exact this cv
   ·have Zd:bj K h4 h5:=λb o hb hd e=>k5 b o (λh=>hK (h▸hb)) hd e
    have JZ:St (i+1) h5:=w.frame _ _ _ v5 ((w.keep _ _ v5).trans Zd) λb o hb hd e=>k5 b o (λh=>xX (h▸hb)) hd e
    exact⟨_,iC jr,.mk (i+1) h5 t5 Za n5 (dn++a) b cy JZ (p5.weaken sM) D5 Zb hb (by rw[List.append_assoc];exact I4) λb o z hd e=>k5 b o z.1 hd (Xn b o z hd e)⟩
 ·have MD:i=items.length:=Nat.le_antisymm jr (Nat.not_lt.mp cy)
  subst MD
  replace hs:=List.drop_length▸hs
  obtain rfl:=Option.some.inj hs
  rw[List.append_nil]at I4
  subst I4
  refine w.done _ _ E gD λh' je k'=>?_
  exact hR h tk fi n' p ho hr CJ (λb hb=>w.live _ _ b gD hb) h' je k'
end
end Mine.Internal
end
section
open PySem PyProof.Rows
namespace Mine.Internal
noncomputable def ck(env:Env):List (Str×NameKind)→List (Str×Addr)→List (Str×Addr)
 | [],acc=>acc
 |(n,k)::r,acc=>if k== .free then ck env r ((n,(env.cells.lookup n).getD 0)::acc)else ck env r acc
theorem fj{scope:Scope}{env:Env}(h: ∀x∈scope.names,x.2= .free→(env.cells.lookup x.1).isSome=true):closureFor scope env=pure (ck env scope.names []):=by
 unfold closureFor
 have key: ∀(names:List (Str×NameKind)) (acc:List (Str×Addr)),(∀x∈names,x.2= .free→(env.cells.lookup x.1).isSome=true)→
   (forIn names acc λx r=>match x with
    |(name,kind)=>if(kind==NameKind.free)=true then do let c←cellOf env name;pure (ForInStep.yield ((name,c)::r))else pure (ForInStep.yield r))=(pure (ck env names acc):Sem (List (Str×Addr))):=by
  intro names
  induction names with
  |nil=>intro acc _;rfl
  |cons x r ih=>
   intro acc hx
   obtain⟨n,k⟩:=x
   rw[List.forIn_cons]
   by_cases hk:(k==NameKind.free)=true
   ·have hs:=hx (n,k) List.mem_cons_self (beq_iff_eq.mp hk)
    obtain⟨a,ha⟩:=Option.isSome_iff_exists.mp hs
    dsimp only at ha
    have Aa:cellOf env n=pure a:=by unfold cellOf;rw[ha]
    simp only[hk,if_true,Aa,pure_bind,ck,ha,Option.getD_some]
    exact ih _ λy hy=>hx y (List.mem_cons_of_mem _ hy)
   ·simp only[hk,ck]
    exact ih _ λy hy=>hx y (List.mem_cons_of_mem _ hy)
 have:=key scope.names [] h
 first
  |exact congrArg (λm=>m >>= λcs=>pure cs) this
  |(rw[this];rfl)
  |(simp only[this];rfl)
theorem sO{env:Env}{x:Str}: ∀(names:List (Str×NameKind)) (acc:List (Str×Addr)),
  (ck env names acc).lookup x=if(x,NameKind.free)∈names then some ((env.cells.lookup x).getD 0)else acc.lookup x:=by
 intro names
 induction names with
 |nil=>intro acc;simp[ck]
 |cons y r ih=>
  intro acc
  obtain⟨n,k⟩:=y
  unfold ck
  by_cases hk:(k==NameKind.free)=true
  ·have jO:=beq_iff_eq.mp hk
   subst jO
   rw[if_pos hk,ih]
   by_cases hr:(x,NameKind.free)∈r
   ·rw[if_pos hr,if_pos (List.mem_cons_of_mem _ hr)]
   ·rw[if_neg hr,List.lookup_cons]
    by_cases hx:x=n
    ·subst hx
     rw[if_pos List.mem_cons_self]
     simp
    ·have:(x==n)=false:=by simpa using hx
     rw[this,if_neg]
     intro hm
     rcases List.mem_cons.mp hm with e|e
     ·injection e with e1 _;exact hx e1
     ·exact hr e
  ·rw[if_neg hk,ih]
   by_cases hr:(x,NameKind.free)∈r
   ·rw[if_pos hr,if_pos (List.mem_cons_of_mem _ hr)]
   ·rw[if_neg hr,if_neg]
    intro hm
    rcases List.mem_cons.mp hm with e|e
    ·injection e with _ e2;subst e2;exact hk rfl
    ·exact hr e
theorem mZ{env:Env}: ∀(names:List (Str×NameKind)) (acc:List (Str×Addr)) (p:Str×Addr),p∈ck env names acc→p∈acc∨((p.1,NameKind.free)∈names∧p.2=(env.cells.lookup p.1).getD 0)
 | [],acc,p,h=> .inl h
 |(n,k)::r,acc,p,h=>by
  unfold ck at h
  by_cases hk:(k==NameKind.free)=true
  ·rw[if_pos hk]at h
   have jO:=beq_iff_eq.mp hk
   subst jO
   rcases mZ r _ p h with h|⟨h1,h2⟩
   ·rcases List.mem_cons.mp h with rfl|h
    ·exact .inr ⟨List.mem_cons_self,rfl⟩
    ·exact .inl h
   ·exact .inr ⟨List.mem_cons_of_mem _ h1,h2⟩
  ·rw[if_neg hk]at h
   rcases mZ r _ p h with h|⟨h1,h2⟩
   ·exact .inl h
   ·exact .inr ⟨List.mem_cons_of_mem _ h1,h2⟩
noncomputable def Ap(l:List (Str×Addr)):Prop:= ∀p∈l,∀q∈l,p.2=q.2→p.1=q.1
theorem m9: ∀(names:List (Str×NameKind)) (k:Nat) (acc:List (Str×Addr)),Ap acc→(∀p∈acc,p.2<k)→Ap (cellsFrom k names acc)
 | [],k,acc,h,_=>h
 |(n,kd)::r,k,acc,h,hb=>by
  unfold cellsFrom
  split
  ·refine m9 r (k+1) _ (λp hp q hq e=>?_) λp hp=>?_
   ·rcases List.mem_cons.mp hp with rfl|hp <;> rcases List.mem_cons.mp hq with rfl|hq
    ·rfl
    ·have:=hb q hq;dsimp only at e;exact absurd this (by rw[←e];exact Nat.lt_irrefl _)
    ·have:=hb p hp;dsimp only at e;exact absurd this (by rw[e];exact Nat.lt_irrefl _)
    ·exact h p hp q hq e
   ·rcases List.mem_cons.mp hp with rfl|hp
    ·exact Nat.lt_succ_self _
    ·exact Nat.lt_succ_of_lt (hb p hp)
  ·exact m9 r k acc h hb
theorem kB: ∀(names:List (Str×NameKind)) (h:Heap) (acc:List (Str×Addr)) (p:Str×Addr),p∈cellsFrom h.objs.size names acc→p∈acc∨((pushCells h names).IsCell p.2 none∧h.objs.size≤p.2)
 | [],h,acc,p,hp=> .inl hp
 |(n,kd)::r,h,acc,p,hp=>by
  unfold cellsFrom at hp
  unfold pushCells
  split at hp
  ·rename_i hk
   rw[if_pos hk]
   have e:h.objs.size+1=(h.push {cls:= .type "cell",data:= .cell none}).objs.size:=(Heap.size_push ..).symm
   replace hp:=e▸hp
   rcases kB r _ _ p hp with hp|⟨h1,h2⟩
   ·rcases List.mem_cons.mp hp with rfl|hp
    ·exact .inr ⟨⟨_,pushCells_keeps r _ _ _ (Heap.get?_push_size _ rfl),rfl⟩,Nat.le_refl _⟩
    ·exact .inl hp
   ·replace h2:=e.symm▸h2
    exact .inr ⟨h1,by exact Nat.le_of_lt ‹_›⟩
  ·rename_i hk
   rw[if_neg hk]
   exact kB r h acc p hp
theorem iN{x:Str}: ∀(names:List (Str×NameKind)) (k:Nat) (acc:List (Str×Addr)),(x,NameKind.cell) ∉ names→(cellsFrom k names acc).lookup x=acc.lookup x
 | [],k,acc,_=>rfl
 |(n,kd)::r,k,acc,h=>by
  unfold cellsFrom
  have hr:(x,NameKind.cell) ∉ r:=λe=>h (List.mem_cons_of_mem _ e)
  split
  ·rename_i hk
   rw[iN r _ _ hr,List.lookup_cons]
   have jO:=beq_iff_eq.mp hk
   subst jO
   have:(x==n)=false:=by
    apply beq_eq_false_iff_ne.mpr
    intro e;subst e;exact h List.mem_cons_self
   rw[this]
  ·exact iN r _ _ hr
theorem cL{x:Str}: ∀(names:List (Str×NameKind)) (k:Nat) (acc:List (Str×Addr)),(x,NameKind.cell)∈names→ ∃a,(cellsFrom k names acc).lookup x=some a∧k≤a
 | [],k,acc,h=>by cases h
 |(n,kd)::r,k,acc,h=>by
  unfold cellsFrom
  by_cases hr:(x,NameKind.cell)∈r
  ·split
   ·refine ai (cL r (k+1) ((n,k)::acc) hr) λa h1 h2=>?_
    exact⟨a,h1,by exact Nat.le_of_lt ‹_›⟩
   ·exact cL r k acc hr
  ·rcases List.mem_cons.mp h with e|e
   ·injection e with e1 e2
    subst e1;subst e2
    rw[if_pos (by rfl:(NameKind.cell==NameKind.cell)=true),iN r _ _ hr]
    exact⟨k,by simp,Nat.le_refl _⟩
   ·exact absurd e hr
end Mine.Internal
end
section
open PySem PyProof.Rows
namespace Mine.Internal
section
variable{c:Cx}{sc:Scope}
theorem Act.shrink{A:Around}{env:Env}{s:Shared}{σ:ah}{K C:Addr→Prop}{asg:Str→Bool}{own:Nat→Option Addr}(p:Act c A env s σ K C asg own){h':Heap}{tk:Nat}{W:Addr→Prop}(hx:Ext s.heap h')
  (hW: ∀b,W b→s.heap.get? b=none∧ ∃o,h'.get? b=some o):Act c A env {s with heap:=h',toks:=tk} σ (λa=>K a∧ ¬W a) C asg own where
 room:=p.room
 fn:=p.fn
 gl:=p.gl
 bl:=p.bl
 top:=p.top.trans hx
 hK a e:=⟨p.hK a (aE hx e),λhw=>by obtain⟨_,o,ho⟩:=hW a hw;rw[show h'.get? a=none from e]at ho;cases ho⟩
 hC a e:=p.hC a (aE hx e)
 cell y hy:=let⟨a,u,h1,h2⟩:=p.cell y hy;⟨a,u,h1,h2.keeps hx⟩
 apart:=p.apart
 nodup:=p.nodup
 loc:=let⟨m,hm⟩:=p.loc;⟨m,hm.keeps hx⟩
 hL:=p.hL
 dS:=p.dS
 var y d name h1 h2 h3 h4:=by
  refine bK (p.var y d name h1 h2 h3 h4) λv q1 q2 q3=>?_
  have nw: ∀a o,s.heap.get? a=some o→ ¬W a:=λa o e hw=>by rw[(hW a hw).1]at e;cases e
  exact⟨v,q1.keep hx,(q2.mE λa o e z=>⟨⟨z.1,nw a o e⟩,z.2⟩).ext hx,(q3.change λa o z e=>⟨hx a o e,z,nw a o e⟩)⟩
 cO y a h1:=by
  refine oq (p.cO y a h1) λname l vs e q=>?_
  have nw: ∀a o,s.heap.get? a=some o→ ¬W a:=λa o e hw=>by rw[(hW a hw).1]at e;cases e
  exact⟨name,l,vs,e,q.lv,q.nt,q.sees,q.val,q.named.keep hx,hx _ _ q.obj,q.rep.change λb o z e=>⟨hx b o e,⟨z.1,nw b o e⟩,z.2⟩,q.lim,λh=>q.nK h.1,q.nT,q.out⟩
 eC:=p.eC
end
end Mine.Internal
end
section
open PySem PyProof.Rows
namespace Mine.Internal
theorem wy{M:Model}{A:Around}{E:Value→Shared→Prop}{s:Shared}{scope:Scope}{globals:Addr}{cl:List (Str×Addr)}{qual:Str}{env:Env}{Q:Env→Shared→Prop}
  (h:Q (newEnv scope s.heap.objs.size globals (cellsFrom (s.heap.objs.size+1) scope.names cl) qual none .none (some env) builtinsNs) {s with heap:=pushCells (s.heap.push {cls:= .type "dict",data:= .dict #[]}) scope.names}):
  wpAny M A (newFunctionEnv scope globals cl [] qual none .none (some env)) Q E s:=by
 simp only[newFunctionEnv,Option.isSome_some,if_true]
 refine wpAny_bind (wpAny_alloc ?_)
 refine wpAny_bind (wpAny_layCells _ (λname kind cells=>by cases Ze:kind==NameKind.cell <;> simp[Ze]) _ _ _ _ ?_)
 rw[show({s with heap:=s.heap.push {cls:= .type "dict",data:= .dict #[]}}:Shared).heap.objs.size=s.heap.objs.size+1 from Heap.size_push ..]
 rw[List.forIn_nil]
 exact wpAny_bind (wpAny_pure (wpAny_pure h))
noncomputable def ng(scope sc:Scope):Scope:=
 {scope with names:=scope.names.map λx=>if(x.2== .free&&sc.kind== .function&&sc.names.lookup x.1==some .cell)then(x.1,.cell)else x}
theorem qw{scope sc:Scope}{env:Env}(he:env.scope=sc):relabel scope env=ng scope sc:=by
 subst he
 unfold relabel ng Env.kindOf
 rfl
theorem fW(sc:Scope)(x:Str): ∀(names:List (Str×NameKind)),(names.map λx=>if(x.2== .free&&sc.kind== .function&&sc.names.lookup x.1==some .cell)then(x.1,NameKind.cell)else x).lookup x=
  (names.lookup x).map λk=>if(k== .free&&sc.kind== .function&&sc.names.lookup x==some .cell)then NameKind.cell else k
 | []=>rfl
 |(n,k)::r=>by
  rw[List.map_cons]
  dsimp only
  by_cases hx:x=n
  ·subst hx
   split
   ·rename_i h;rw[List.lookup_cons,List.lookup_cons,beq_self_eq_true];dsimp only;rw[Option.map_some,if_pos h]
   ·rename_i h;rw[List.lookup_cons,List.lookup_cons,beq_self_eq_true];dsimp only;rw[Option.map_some,if_neg h]
  ·have cv:(x==n)=false:=by simpa using hx
   split
   ·rw[List.lookup_cons,List.lookup_cons,cv];exact fW sc x r
   ·rw[List.lookup_cons,List.lookup_cons,cv];exact fW sc x r
noncomputable def nh(c:Cx)(sc scope:Scope)(vars:List Nat):Bool:=
 scope.kind== .function&&decide ((scope.names.map (·.1)).Nodup)&&scope.names.all λx=>
  (!(x.2== .free)||sc.names.lookup x.1==some .cell||sc.names.lookup x.1==some .free)&&
  (!(x.2== .local||x.2== .cell)||(List.range c.nt.length).all λi=> !(c.nt[i]? ==some x.1)||vars.contains i)
noncomputable def aW(scope:Scope)(x:Str):Bool:=scope.names.lookup x==some .local||scope.names.lookup x==some .cell
theorem bZ: ∀{l:List (Str×NameKind)} {x:Str} {k:NameKind},(l.map (·.1)).Nodup→(x,k)∈l→l.lookup x=some k
 |(n,k')::r,x,k,hn,h=>by
  rw[List.map_cons,List.nodup_cons]at hn
  rcases List.mem_cons.mp h with e|hm
  ·cases e;simp
  ·have:(x==n)=false:=by
    apply beq_eq_false_iff_ne.mpr
    intro e;subst e
    exact hn.1 (List.mem_map.mpr ⟨_,hm,rfl⟩)
   rw[List.lookup_cons,this]
   exact bZ hn.2 hm
structure Ab(c:Cx)(sc scope:Scope)(vars:List Nat):Prop where
 kind:scope.kind= .function
 nodup:(scope.names.map (·.1)).Nodup
 free: ∀x,scope.names.lookup x=some .free→sc.names.lookup x=some .cell∨sc.names.lookup x=some .free
 own: ∀x i,scope.names.lookup x=some .local∨scope.names.lookup x=some .cell→c.nt[i]? =some x→i∈vars
theorem pD{c:Cx}{sc scope:Scope}{vars:List Nat}(h:nh c sc scope vars=true):Ab c sc scope vars:=by
 unfold nh at h
 rw[Bool.and_eq_true,Bool.and_eq_true]at h
 obtain⟨⟨h1,h2⟩,h3⟩:=h
 have h2:=of_decide_eq_true h2
 have h3:=List.all_eq_true.mp h3
 refine⟨beq_iff_eq.mp h1,h2,λx hx=>?_,λx i hx hi=>?_⟩
 ·have:=h3 _ (mem_of_lookup hx)
  rw[Bool.and_eq_true]at this
  have:=this.1
  simp only[Bool.or_eq_true,Bool.not_eq_true',beq_iff_eq]at this
  rcases this with(h|h)|h
  ·simp at h
  ·exact .inl h
  ·exact .inr h
 ·have key: ∀k,scope.names.lookup x=some k→(k= .local∨k= .cell)→i∈vars:=λk hk I3=>by
   have:=h3 _ (mem_of_lookup hk)
   rw[Bool.and_eq_true]at this
   have:=this.2
   have hb:(k==NameKind.local||k==NameKind.cell)=true:=by rcases I3 with rfl|rfl <;> rfl
   rw[hb]at this
   rw[Bool.not_true,Bool.false_or]at this
   have jr:=(List.getElem?_eq_some_iff.mp hi).1
   have:=List.all_eq_true.mp this i (List.mem_range.mpr jr)
   rw[hi]at this
   simpa using this
  rcases hx with h|h
  ·exact key _ h (.inl rfl)
  ·exact key _ h (.inr rfl)
section
variable{c:Cx}{sc:Scope}
theorem cU(h:Heap)(names:List (Str×NameKind)):Ext h (pushCells h names):=λb o e=>pushCells_keeps names h b o e
theorem enter{A:Around}{env:Env}{s:Shared}{σ:ah}{Z W:Addr→Prop}{scope:Scope}{vars:List Nat}{h₁ h₂:Heap}{tk:Nat}(ok:c.Ok)(p:lN c A env s σ Z)(he:env.scope=sc)(cs:Ab c sc scope vars)(x1:Ext s.heap h₁)(x2:Ext h₁ h₂)
  (hW: ∀b,W b→h₁.get? b=none∧ ∃o,h₂.get? b=some o):
  Act (c.at h₁) A {newEnv scope ((h₂.push (seqObj "list" #[] 0)).objs.size) env.globals (cellsFrom ((h₂.push (seqObj "list" #[] 0)).objs.size+1) scope.names (ck env scope.names [])) env.qual none .none (some env) builtinsNs with scope:=relabel scope env}
   {s with heap:=pushCells ((h₂.push (seqObj "list" #[] 0)).push {cls:= .type "dict",data:= .dict #[]}) scope.names,toks:=tk} (erase σ vars) (λb=>b≠h₂.objs.size∧ ¬W b) Z (aW scope) noOwn:=by
 have hY: ∀x,(x,NameKind.free)∈scope.names→ ∃a v,env.cells.lookup x=some a∧s.heap.IsCell a v:=λx hx=>by
  have h1:=bZ cs.nodup hx
  refine p.cell x ?_
  unfold Env.kindOf
  rw[he]
  exact cs.free x h1
 generalize UK:h₂.push (seqObj "list" #[] 0)=H3
 have Xo:H3.objs.size=h₂.objs.size+1:=by rw[←UK,Heap.size_push]
 generalize UL:H3.push {cls:= .type "dict",data:= .dict #[]}=H4
 have Zf:H4.objs.size=H3.objs.size+1:=by rw[←UL,Heap.size_push]
 have MF:Ext h₂ H3:=UK▸Ext.push _ _
 have Rr:Ext H3 H4:=UL▸Ext.push _ _
 have Rt:Ext H4 (pushCells H4 scope.names):=cU _ _
 have Xp:Ext h₁ (pushCells H4 scope.names):=((x2.trans MF).trans Rr).trans Rt
 have MG:Ext s.heap (pushCells H4 scope.names):=x1.trans Xp
 have hD:h₁.get? h₂.objs.size=none:=aE x2 (gone (Nat.le_refl _))
 have Fp: ∀a o,s.heap.get? a=some o→a<H3.objs.size:=λa o e=>Heap.lt_size (MF a o (x2 a o (x1 a o e)))
 have z4: ∀q∈ck env scope.names [],(∃v,s.heap.IsCell q.2 v)∧env.cells.lookup q.1=some q.2:=λq hq=>by
  rcases mZ _ _ _ hq with h|⟨h1,h2⟩
  ·cases h
  ·refine da (hY q.1 h1) λa v h3 h4=>?_
   rw[h3,Option.getD_some]at h2
   rw[h2]
   exact⟨⟨v,h4⟩,h3⟩
 have G2: ∀q∈cellsFrom (H3.objs.size+1) scope.names (ck env scope.names []),q∈ck env scope.names []∨((pushCells H4 scope.names).IsCell q.2 none∧H4.objs.size≤q.2):=λq hq=>by
  rw[←Zf]at hq
  exact kB scope.names H4 _ q hq
 have Zg:Ap (cellsFrom (H3.objs.size+1) scope.names (ck env scope.names [])):=by
  refine m9 _ _ _ (λq hq r hr e=>?_) λq hq=>?_
  ·exact p.apart _ _ q.2 (z4 q hq).2 (by rw[e];exact(z4 r hr).2)
  ·refine aX (z4 q hq) λMJ _=>?_
   obtain⟨v,o,ho,_⟩:=MJ
   exact Nat.lt_succ_of_lt (Fp _ _ ho)
 have v9: ∀x,(relabel scope env).names.lookup x=(scope.names.lookup x).map λk=>if(k== .free&&sc.kind== .function&&sc.names.lookup x==some .cell)then NameKind.cell else k:=λx=>by
  rw[qw he];exact fW sc x scope.names
 -- zt a name of ql inside Gz for
 have inside: ∀x,(relabel scope env).names.lookup x=some .cell∨(relabel scope env).names.lookup x=some .free→scope.names.lookup x=some .cell∨scope.names.lookup x=some .free:=λx h=>by
  rw[v9 x]at h
  cases hx:scope.names.lookup x with
  |none=>rw[hx]at h;rcases h with h|h <;> cases h
  |some k=>
   rw[hx]at h
   simp only[Option.map_some,Option.some.injEq]at h
   cases k with
   |cell=>exact .inl rfl
   |free=>exact .inr rfl
   |«local»=>rcases h with h|h <;> cases h
   |globalExplicit=>rcases h with h|h <;> cases h
   |globalImplicit=>rcases h with h|h <;> cases h
 have wz: ∀x,scope.names.lookup x=some .cell→ ∃a,(cellsFrom (H3.objs.size+1) scope.names (ck env scope.names [])).lookup x=some a∧(pushCells H4 scope.names).IsCell a none∧H4.objs.size≤a:=λx hx=>by
  refine ai (cL scope.names (H3.objs.size+1) (ck env scope.names []) (mem_of_lookup hx)) λa h1 h2=>?_
  rcases G2 _ (mem_of_lookup h1)with h3|h3
  ·refine aX (z4 _ h3) λMK _=>?_
   obtain⟨v,o,ho,_⟩:=MK
   have:=Fp _ _ ho
   exact absurd this (by dsimp only;exact Nat.not_lt.mpr (Nat.le_trans (Nat.le_succ _) h2))
  ·exact⟨a,h1,h3⟩
 have sP: ∀x,scope.names.lookup x=some .free→(cellsFrom (H3.objs.size+1) scope.names (ck env scope.names [])).lookup x=env.cells.lookup x:=λx hx=>by
  have hm:=mem_of_lookup hx
  rw[iN _ _ _ λh=>by have:=bZ cs.nodup h;rw[hx]at this;cases this]
  rw[sO,if_pos hm]
  refine da (hY x hm) λa v h3 h4=>?_
  rw[h3,Option.getD_some]
 refine⟨p.room,?_,p.gl,p.bl,Xp,λa e=>⟨?_,λhw=>?_⟩,λa e=>p.hZ a (aE MG e),?_,?_,ok.nodup,?_,?_,?_,?_,λ_ _ h=>(by cases h),λ_ _ _ h=>(by cases h)⟩
 ·exact cs.kind
 ·rintro rfl
  have:(pushCells H4 scope.names).get? h₂.objs.size=some (seqObj "list" #[] 0):=Rt _ _ (Rr _ _ (UK▸Heap.get?_push_size _ rfl))
  rw[show(pushCells H4 scope.names).get? h₂.objs.size=none from e]at this;cases this
 ·refine au ((hW a hw).2) λo ho=>?_
  have:=Rt _ _ (Rr _ _ (MF _ _ ho))
  rw[show(pushCells H4 scope.names).get? a=none from e]at this;cases this
 ·-- cells are there
  intro x hx
  rcases inside x hx with h|h
  ·refine bK (wz x h) λa h1 h2 _=>?_
   exact⟨a,none,h1,h2⟩
  ·refine da (hY x (mem_of_lookup h)) λa v h3 h4=>?_
   exact⟨a,v,(sP x h).trans h3,h4.keeps MG⟩
 ·exact λx y a h1 h2=>Zg _ (mem_of_lookup h1) _ (mem_of_lookup h2) rfl
 ·exact⟨_,(UL▸Heap.Ns.new H3 (.type "dict")).keeps Rt⟩
 ·exact aE (x2.trans MF) (gone (Nat.le_refl _))
 ·intro x hx
  simp only[aW,Bool.or_eq_true,beq_iff_eq]at hx
  rcases hx with h|h
  ·refine .inl ?_
   show(relabel scope env).names.lookup x=_
   rw[v9 x,h];rfl
  ·refine .inr ⟨?_,?_⟩
   ·show(relabel scope env).names.lookup x=_
    rw[v9 x,h];rfl
   ·refine bK (wz x h) λa h1 _ h2=>?_
    exact⟨a,h1,aE ((x2.trans MF).trans Rr) (gone h2)⟩
 ·-- ql names
  intro x d name hx hn Ac _
  have cv:σ x=some d∧x ∉ vars:=by
   simp only[erase]at hx
   split at hx
   ·cases hx
   ·rename_i h;exact⟨hx,by simpa using h⟩
  have sQ:scope.names.lookup name=some .free:=by
   cases hk:scope.names.lookup name with
   |none=>
    have:(relabel scope env).names.lookup name=none:=by rw[v9,hk];rfl
    rcases Ac with h|h|h <;> (rw[show(relabel scope env).names.lookup name=_ from h]at this;cases this)
   |some k=>
    cases k with
    |free=>rfl
    |«local»=>exact absurd (cs.own name x (.inl hk) hn) cv.2
    |cell=>exact absurd (cs.own name x (.inr hk) hn) cv.2
    |globalExplicit=>
     have:(relabel scope env).names.lookup name=some .globalExplicit:=by rw[v9,hk];rfl
     rcases Ac with h|h|h <;> (rw[show(relabel scope env).names.lookup name=_ from h]at this;cases this)
    |globalImplicit=>
     have:(relabel scope env).names.lookup name=some .globalImplicit:=by rw[v9,hk];rfl
     rcases Ac with h|h|h <;> (rw[show(relabel scope env).names.lookup name=_ from h]at this;cases this)
  have UM:=cs.free name sQ
  have Fq:env.kindOf name=some .cell∨env.kindOf name=some .free:=by unfold Env.kindOf;rw[he];exact UM
  refine ai (p.var x d name cv.1 hn (.inr Fq)) λv h1 h2=>?_
  have nw: ∀a o,s.heap.get? a=some o→a≠h₂.objs.size∧ ¬W a:=λa o e=>by
   constructor
   ·intro h;subst h;rw[x1 _ _ e]at hD;cases hD
   ·intro hw;have h0:=(hW a hw).1;rw[x1 _ _ e]at h0;cases h0
  refine⟨v,?_,(h2.mE λa o e z=>⟨nw a o e,z⟩).ext MG,h2.all.change λa o _ e=>⟨MG a o e,nw a o e⟩⟩
  rcases h1 with⟨hl,_⟩|⟨_,a,ha,hv⟩
  ·rcases Fq with h|h <;> (rw[h]at hl;cases hl)
  ·refine .inr ⟨?_,a,(sP name sQ).trans ha,hv.keeps MG⟩
   show(relabel scope env).names.lookup name=_∨(relabel scope env).names.lookup name=_
   rw[v9,sQ]
   simp only[Option.map_some,Option.some.injEq]
   split
   ·exact .inl rfl
   ·exact .inr rfl
end
end Mine.Internal
end
section
open PySem PyProof.Rows
namespace Mine.Internal
section
variable{c:Cx}{sc:Scope}
structure wA(c:Cx)(sc:Scope)(elt:ME)(t:gh)(src ifs rest:ME)(dH dC iter:Expr)(eE:List Expr)(gens:List Comprehension)(scope:Scope)(pos:Pos)(jf:Expr→Prop):Prop where
 ML:kA c sc src iter jf
 uL: ∀env x,foldedSetIterable iter env x=pure x
 UN:jf dC
 dG:xW c t (gG c src-1)=true
 eS: ∀g∈(⟨dC,iter,eE,0⟩::gens:List Comprehension),g.is_async=0
 UO:mV c (aW scope) t dC
 UP:sJ c (ng scope sc) ifs eE
 z6:uJ c (ng scope sc) (aW scope) elt rest (.ListComp dH (⟨dC,iter,eE,0⟩::gens) scope pos) dH (⟨dC,iter,eE,0⟩::gens) 1
 MM:z5 t rest=true
 G3:nh c sc scope (t.vars++dM rest)=true
theorem pE{elt:ME}{t:gh}{src ifs rest:ME}{dH dC iter:Expr}{eE:List Expr}{gens:List Comprehension}{scope:Scope}{pos bG:Pos}{jf:Expr→Prop}(ok:c.Ok)(m:wA c sc elt t src ifs rest dH dC iter eE gens scope pos jf)
  {A:Around} {env:Env} {s:Shared} {σ:ah} {Z:Addr→Prop} {d:D} {use:Option (Value→Sem Unit)} {Q:Value→Shared→Prop} {E:Value→Shared→Prop} (he:env.scope=sc) (p:lN c A env s σ Z) (hd:(ar c.Φ (.comp elt t src ifs rest)).v σ=some d)
  (hR: ∀D' C h' tk l vs n,d= .list l→Ext s.heap h'→s.heap.get? D'=none→s.heap.get? C=none→D'≠C→h'.get? D'=some (seqObj "list" vs n)→aF (λb=>Z b∧b≠D') h' l vs.toList→l.length≤bW→(∃m,h'.Ns C m)→
   compPost (model c.prog c.w) A E use Q (.ref D') C (.ok .next) {s with heap:=h',toks:=tk}):
  wpAny (model c.prog c.w) A (comprehension (.ListComp dH (⟨dC,iter,eE,0⟩::gens) scope pos) scope env bG (newList []) false (eval iter env) use) Q E s:=by
 have cs:=pD m.G3
 refine ai (Option.bind_eq_some_iff.mp hd) λd0 Zh hd=>?_
 refine ai (Option.bind_eq_some_iff.mp hd) λitems d7 hd=>?_
 refine ai (Option.bind_eq_some_iff.mp hd) λjs hs hd=>?_
 have MN:d= .list js∧js.length≤bW:=by
  exact(dE hd).symm
 refine aX MN λMO cf=>?_
 subst MO
 have hY: ∀x∈scope.names,x.2= .free→(env.cells.lookup x.1).isSome=true:=λx hx hk=>by
  obtain⟨n,k⟩:=x
  dsimp only at hk;subst hk
  have h1:=bZ cs.nodup hx
  refine da (p.cell n (by unfold Env.kindOf;rw[he];exact cs.free n h1)) λa v h2 _=>?_
  dsimp only;rw[h2];rfl
 refine wpAny_comprehension_free rfl (λx=>m.uL env x) (fj hY) cs.kind (λx hx hl=>?_) ?_
 ·obtain⟨n,k⟩:=x
  dsimp only at hl;subst hl
  exact bZ cs.nodup hx
 refine m.ML A env s σ Z d0 items _ E he p Zh d7 λI W h₁ h₂ tk x1 x2 hW sR=>?_
 refine wpAny_newList ?_
 refine wy ?_
 have act:=enter (tk:=tk) ok p he cs x1 x2 hW
 show codeAny (model c.prog c.w) A (.compStart (.ListComp dH (⟨dC,iter,eE,0⟩::gens) scope pos) 0 (.ref I) (.ref h₂.objs.size) {newEnv scope ((h₂.push (seqObj "list" #[] 0)).objs.size) env.globals (cellsFrom ((h₂.push (seqObj "list" #[] 0)).objs.size+1) scope.names (ck env scope.names [])) env.qual none .none (some env) builtinsNs with scope:=relabel scope env})
  (compPost (model c.prog c.w) A E use Q (.ref h₂.objs.size) (h₂.push (seqObj "list" #[] 0)).objs.size) {s with heap:=pushCells ((h₂.push (seqObj "list" #[] 0)).push {cls:= .type "dict",data:= .dict #[]}) scope.names,toks:=tk}
 generalize MQ:({newEnv scope ((h₂.push (seqObj "list" #[] 0)).objs.size) env.globals (cellsFrom ((h₂.push (seqObj "list" #[] 0)).objs.size+1) scope.names (ck env scope.names [])) env.qual none .none (some env) builtinsNs with scope:=relabel scope env}:Env)=ni at act ⊢
 have sS:ni.locals=(h₂.push (seqObj "list" #[] 0)).objs.size:=by rw[←MQ];rfl
 have gH:ni.scope=ng scope sc:=by rw[←MQ];exact qw he
 generalize MR:pushCells ((h₂.push (seqObj "list" #[] 0)).push {cls:= .type "dict",data:= .dict #[]}) scope.names=H5 at act ⊢
 have I5:Ext h₂ H5:=MR▸((Ext.push _ _).trans (Ext.push _ _)).trans (cU _ _)
 have Ad:H5.get? h₂.objs.size=some (seqObj "list" #[] 0):=by
  rw[←MR]
  exact cU _ _ _ _ (Heap.get?_push_of_some _ (Heap.get?_push_size _ rfl))
 have jC:(h₂.push (seqObj "list" #[] 0)).objs.size=h₂.objs.size+1:=Heap.size_push ..
 have tY:h₂.get? h₂.objs.size=none:=gone (Nat.le_refl _)
 have Fs:h₂.get? (h₂.push (seqObj "list" #[] 0)).objs.size=none:=gone (by rw[jC];exact Nat.le_succ _)
 have xX: ¬W h₂.objs.size:=λhw=>by obtain⟨o,ho⟩:=(hW _ hw).2;rw[tY]at ho;cases ho
 have G4:h₂.objs.size≠(h₂.push (seqObj "list" #[] 0)).objs.size:=by rw[jC];exact Nat.ne_of_lt (Nat.lt_succ_self _)
 have wk:cT c.prog c.w A Z (λa=>a≠h₂.objs.size∧ ¬W a) h₁ I W jf (gG c src-1) items H5:=by
  refine((sR (λa=>a≠h₂.objs.size∧ ¬W a) ⟨.inl λb o e=>⟨λh=>?_,λhw=>?_⟩,λb z=>z.2⟩)).ext I5
  ·subst h;rw[x2 _ _ e]at tY;cases tY
  ·have:=(hW b hw).1;rw[this]at e;cases e
 have fin:codeAny (model c.prog c.w) A (.compLoop (.ListComp dH (⟨dC,iter,eE,0⟩::gens) scope pos) 0 (.ref I) (.ref h₂.objs.size) ni) (compPost (model c.prog c.w) A E use Q (.ref h₂.objs.size) (h₂.push (seqObj "list" #[] 0)).objs.size) {s with heap:=H5,toks:=tk}:=by
  refine Dy (c:=c) (hB:=h₁) (done:= []) (vs:= #[]) rfl m.eS m.UO m.UP m.z6 m.MM (λa z=>z) (λa _ z=>z) wk m.UN m.dG (p.top.trans x1) gH act (λx hx=>?_) (λb hb=>(hW b hb).1) hs Ad rfl (λh=>h.1 rfl) xX (aE x2 tY) (by simpa using cf)
   λh je fi n' pa Da ra ka la h' qs k'=>?_
  ·simp only[erase];rw[if_pos (by simpa using hx)]
  ·have xx:Ext s.heap h':=λb o e=>k' b o (λhw=>by have:=(hW b hw).1;rw[x1 _ _ e]at this;cases this) (pa.top b o (x1 b o e))
   refine au pa.loc λmm Ft=>?_
   rw[sS]at Ft
   refine hR _ _ h' qs js fi n' rfl xx (aE (x1.trans x2) tY) (aE (x1.trans x2) Fs) G4 (k' _ _ xX Da) (ra.dat λb o z hd e=>⟨k' b o z.1.2 e,z.2,z.1.1⟩) cf ⟨mm,?_⟩
   refine gO Ft λo es ep ho dt r=>?_
   exact⟨o,es,ep,k' _ _ (λhw=>by obtain⟨o',e',d'⟩:=la _ hw;rw[ho]at e';cases e';exact bP dt r.1 d') ho,dt,r⟩
 refine mX rfl m.eS fin λE'=>?_
 refine da wk λSt Md UQ st=>?_
 exact UQ.self 0 _ _ E' st fin
theorem fJ{elt:ME}{t:gh}{src ifs rest:ME}{dH dC iter:Expr}{eE:List Expr}{gens:List Comprehension}{scope:Scope}{pos:Pos}{jf:Expr→Prop}(ok:c.Ok)(m:wA c sc elt t src ifs rest dH dC iter eE gens scope pos jf):
  ay c sc (.comp elt t src ifs rest) (.ListComp dH (⟨dC,iter,eE,0⟩::gens) scope pos):= .bE rfl λA env s σ Z d Q E he p hd hQ=>by
 rw[eval_ListComp]
 refine pE ok m he p hd λD' C h' tk l vs n hl hx hD hC G4 ho hr cf rA=>?_
 subst hl
 refine au rA λmm Ft=>?_
 refine⟨mm,Ft,λdA hs=>?_⟩
 refine gO Ft λo es ep I6 dt r=>?_
 have kd:=iM hs I6 (bP dt r.1)
 have cv:Ext s.heap dA:=λb o e=>(hs.2 b λh=>by subst h;rw[hC]at e;cases e).trans (hx b o e)
 have eu:dA.get? D'=some (seqObj "list" vs n):=(hs.2 D' G4).trans ho
 have rn:aF (λb=>Z b∧b≠D') dA l vs.toList:=hr.dat λb o z hd e=>⟨kd b o trivial hd e,z⟩
 exact hQ _ _ tk cv ⟨D',vs.toList,rfl,p.hZ D' hD,cf,⟨n,eu⟩,rn.mono λ_ _ z=>z.1⟩ λl' e=>by cases e;exact⟨D',vs,n,rfl,hD,eu,rn⟩
end
end Mine.Internal
end
section
open PySem PyProof.Rows
namespace Mine.Internal
inductive MS where
 |skip
 |seq (a b:MS)
 |asg (x:Nat) (e:ME)
 |own (x:Nat) (e:ME)
 |MT (xs:List Nat) (e:ME)
 |aug (x:Nat) (o:Operator) (e:ME)
 |ite (t:ME) (a b:MS)
 |sT (t:gh) (src:ME) (body:MS)
 |ret (e:ME)
 |fail
 |Ru (f:ah→Option ah)
set_option genCtorIdx true in
inductive Out where
 |nx (σ:ah)|rt (d:D)
noncomputable def cV(f:ah→Option Out)(t:gh):List D→ah→Option Out
 | [],σ=>some (.nx σ)
 |d::ds,σ=>(eA t d σ).bind λσ1=>(f σ1).bind λo=>match o with
  | .nx σ'=>cV f t ds σ'
  | .rt d=>some (.rt d)
noncomputable def num(σ:ah)(x:Nat):Option Int:=(σ x).bind D.int?
theorem num_inv{σ:ah}{x:Nat}{l:Int}(h:num σ x=some l):σ x=some (.int l):=by
 refine ai (aK h) λd hd h=>?_
 rw[hd,ba h]
section
variable(Φ:Nat→List D→Option D)
noncomputable def run:MS→ah→Option Out
 | .skip,σ=>some (.nx σ)
 | .seq a b,σ=>(run a σ).bind λo=>match o with
  | .nx σ'=>run b σ'
  |o=>some o
 | .asg x e,σ=>((ar Φ e).v σ).map λd=> .nx (upd σ x d)
 | .own x e,σ=>((ar Φ e).v σ).bind λd=>d.i9.map λl=> .nx (upd σ x (.list l))
 | .MT xs e,σ=>((ar Φ e).v σ).bind λd=>d.GJ.bind λl=>(bb xs l σ).map .nx
 | .aug x o e,σ=>(num σ x).bind λa=>((ar Φ e).v σ).bind λb=>b.int?.bind λb=>(bA o (.int a) (.int b)).map λd=> .nx (upd σ x d)
 | .ite t a b,σ=>((ar Φ t).t σ).bind λr=>if r then run a σ else run b σ
 | .sT t src body,σ=>((ar Φ src).v σ).bind λd=>(de d).bind λitems=>cV (run body) t items σ
 | .ret e,σ=>((ar Φ e).v σ).map .rt
 | .fail,_=>none
 | .Ru f,σ=>(f σ).map .nx
end
noncomputable def bq(c:Cx)(σ:ah)(own:Nat→Option Addr):Prop:= ∀x,(own x).isSome=(c.ow x != 0&&(σ x).isSome)
structure jQ(env:Env)(own dB:Nat→Option Addr)(K K':Addr→Prop)(h h':Heap):Prop where
 dat: ∀b o,cQ o→h.get? b=some o→(∀x,own x≠some b)→h'.get? b=some o∧(K b→K' b)
 ma: ∀b o,¬cQ o→h.get? b=some o→b≠env.locals→(∀x,env.kindOf x=some .cell→env.cells.lookup x≠some b)→h'.get? b=some o
 live: ∀b o,h.get? b=some o→ ∃o',h'.get? b=some o'
 sU: ∀x b o,dB x=some b→h.get? b=some o→ ∃y,own y=some b
 sub: ∀b o,h.get? b=some o→K' b→K b
section
variable{env:Env}{own dB Fu:Nat→Option Addr}{K K' Xr:Addr→Prop}{h h' dA:Heap}
theorem jQ.trans(x:jQ env own dB K K' h h')(y:jQ env dB Fu K' Xr h' dA):jQ env own Fu K Xr h dA where
 dat b o hd e ho:=by
  refine aX (x.dat b o hd e ho) λe' k'=>?_
  obtain⟨rq,Zi⟩:=y.dat b o hd e' λz hz=>by obtain⟨y',hy⟩:=x.sU z b o hz e;exact ho y' hy
  exact⟨rq,λk=>Zi (k' k)⟩
 ma b o hd e h1 h2:=y.ma b o hd (x.ma b o hd e h1 h2) h1 h2
 live b o e:=let⟨o',e'⟩:=x.live b o e;y.live b o' e'
 sU z b o hz e:=by
  refine au (x.live b o e) λo' e'=>?_
  refine au (y.sU z b o' hz e') λy' hy=>?_
  exact x.sU y' b o hy e
 sub b o e k:=let⟨o',e'⟩:=x.live b o e;x.sub b o e (y.sub b o' e' k)
theorem jQ.soft(x:Soft env h h')(hs: ∀y b,dB y=some b→own y=some b∨h.get? b=none):jQ env own dB K K h h':=
 ⟨λb o hd e _=>⟨x.dat b o trivial hd e,λk=>k⟩,x.ma,x.live,λy b o hy e=>by
  rcases hs y b hy with h1|h1
  ·exact⟨y,h1⟩
  ·exact absurd e (by rw[h1];simp),λ_ _ _ k=>k⟩
theorem jQ.ext(x:Ext h h'):jQ env own own K K h h':= .soft (.ext x) λ_ _ e=> .inl e
end
noncomputable def qx(c:Cx)(A:Around)(env:Env)(asg:Str→Bool)(C:Addr→Prop)(s:Shared)(K:Addr→Prop)(own:Nat→Option Addr)(out:Out)(Q:Flow→Shared→Prop):Prop:=
 match out with
 | .nx σ'=> ∀h' tk K' dB,Act c A env {s with heap:=h',toks:=tk} σ' K' C asg dB→bq c σ' dB→jQ env own dB K K' s.heap h'→Q .next {s with heap:=h',toks:=tk}
 | .rt d=> ∀v h' tk K' dB,jQ env own dB K K' s.heap h'→aZ C h' d v→(c.fr=true→ja C s.heap h' d v)→Q (.ret v) {s with heap:=h',toks:=tk}
noncomputable def dI(c:Cx)(sc:Scope)(asg:Str→Bool)(m:MS)(st:Stmt):Prop:=
 ∀(A:Around) (env:Env) (s:Shared) (σ:ah) (K C:Addr→Prop) (own:Nat→Option Addr) (out:Out) (Q:Flow→Shared→Prop) (E:Value→Shared→Prop),env.scope=sc→Act c A env s σ K C asg own→bq c σ own→run c.Φ m σ=some out→
  qx c A env asg C s K own out Q→wpAny (model c.prog c.w) A (exec st env) Q E s
noncomputable def bV(c:Cx)(sc:Scope)(asg:Str→Bool)(m:MS)(l:List Stmt):Prop:=
 ∀(A:Around) (env:Env) (s:Shared) (σ:ah) (K C:Addr→Prop) (own:Nat→Option Addr) (out:Out) (Q:Flow→Shared→Prop) (E:Value→Shared→Prop),env.scope=sc→Act c A env s σ K C asg own→bq c σ own→run c.Φ m σ=some out→
  qx c A env asg C s K own out Q→wpAny (model c.prog c.w) A (execs l env) Q E s
section
variable{c:Cx}{sc:Scope}{asg:Str→Bool}
theorem ja.back{Z:Addr→Prop}{h h1 h':Heap}{d:D}{v:Value}(f:ja Z h1 h' d v)(hl: ∀b o,h.get? b=some o→ ∃o',h1.get? b=some o'):ja Z h h' d v:=λl e=>by
 refine qe (f l e) λa vs k q1 q2 q3 q4=>?_
 refine⟨a,vs,k,q1,?_,q3,q4⟩
 cases e':h.get? a with
 |none=>rfl
 |some o=>obtain⟨o',rq⟩:=hl a o e';rw[q2]at rq;cases rq
theorem qx.later{A:Around}{env:Env}{C K K1:Addr→Prop}{s:Shared}{own fk:Nat→Option Addr}{out:Out}{Q:Flow→Shared→Prop}(p:qx c A env asg C s K own out Q){h1:Heap}{t1:Nat}(x:jQ env own fk K K1 s.heap h1):
  qx c A env asg C {s with heap:=h1,toks:=t1} K1 fk out Q:=by
 cases out with
 |nx σ'=>exact λh' tk K' dB a o g=>p h' tk K' dB a o (x.trans g)
 |rt d=>exact λv h' tk K' dB g r f=>p v h' tk K' dB (x.trans g) r λq=>(f q).back x.live
theorem az:bV c sc asg .skip []:=λA env s σ K C own out Q E he p oo hr hP=>by
 obtain rfl:=Option.some.inj hr
 exact wpAny_execs_nil (hP s.heap s.toks K own p oo (.ext (.refl _)))
theorem av{a b:MS}{st:Stmt}{l:List Stmt}(ha:dI c sc asg a st)(hb:bV c sc asg b l):bV c sc asg (.seq a b) (st::l):=by
 intro A env s σ K C own out Q E he p oo hr hP
 refine ai (Option.bind_eq_some_iff.mp hr) λo ho hr=>?_
 refine wpAny_execs_cons (ha A env s σ K C own o _ E he p oo ho ?_)
 cases o with
 |nx σ'=>exact λh' tk K' dB a' o' g=>hb A env _ σ' K' C dB out Q E he a' o' hr (hP.later g)
 |rt d=>cases hr;exact hP
theorem cH{t:ME}{a b:MS}{x:Expr}{l1 l2:List Stmt}{pos:Pos}(ht:dN c sc t x)(ha:bV c sc asg a l1)(hb:bV c sc asg b l2):dI c sc asg (.ite t a b) (.If x l1 l2 pos):=by
 intro A env s σ K C own out Q E he p oo hr hP
 refine ai (Option.bind_eq_some_iff.mp hr) λr h1 hr=>?_
 refine wpAny_If (ht A env s σ _ r _ E he p.pre h1 λh' tk hx=>?_)
 have p1:=p.next (tk:=tk) hx
 cases r with
 |true=>exact ha A env _ σ K C own out Q E he p1 oo hr (hP.later (.ext hx))
 |false=>exact hb A env _ σ K C own out Q E he p1 oo hr (hP.later (.ext hx))
theorem iO{st:Stmt}:dI c sc asg .fail st:=λA env s σ K C own out Q E he p oo hr hP=>by cases hr
end
end Mine.Internal
end
section
open PySem PyProof.Rows
namespace Mine.Internal
section
variable{c:Cx}{sc:Scope}{asg:Str→Bool}
theorem h9{σ:ah}{own:Nat→Option Addr}(oo:bq c σ own){x:Nat}(hx:c.ow x=0):own x=none:=by
 have:=oo x
 rw[hx]at this
 cases h:own x with
 |none=>rfl
 |some a=>rw[h]at this;simp at this
theorem nj{σ:ah}{own:Nat→Option Addr}(oo:bq c σ own){x:Nat}(hx:c.ow x=0):d5 own x=own:=by
 funext y
 simp only[d5]
 split
 ·rename_i h;subst h;exact(h9 oo hx).symm
 ·rfl
theorem bq.upd{σ:ah}{own:Nat→Option Addr}(oo:bq c σ own){x:Nat}(hx:c.ow x=0)(d:D):bq c (upd σ x d) own:=λy=>by
 by_cases hy:y=x
 ·subst hy;rw[h9 oo hx,hx];rfl
 ·rw[oo y];simp[Mine.Internal.upd,hy]
theorem kC{A:Around}{env:Env}{s:Shared}{σ:ah}{K C:Addr→Prop}{own:Nat→Option Addr}{x:Nat}{n:Str}{d:D}{v:Value}{Q:Flow→Shared→Prop}{E:Value→Shared→Prop}{h1:Heap}{t1:Nat}(p:Act c A env s σ K C asg own)(oo:bq c σ own)
  (hx:c.nt[x]? =some n) (ha:asg n=true) (hw:c.ow x=0) (x1:Ext s.heap h1) (hr:aZ (λa=>K a∧C a) h1 d v) (hP:qx c A env asg C s K own (.nx (upd σ x d)) Q):
  wpAny (model c.prog c.w) A (storeName env n v) (λ_=>Q .next) E {s with heap:=h1,toks:=t1}:=by
 have p1:=p.next (tk:=t1) x1
 refine cG p1 ha λh' tk st=>?_
 have p2:=p1.stored (tk:=tk) hx st (.cB hr) (hr.mono λ_ _ z=>z.1)
 rw[nj oo hw]at p2
 exact hP h' tk K own p2 (oo.upd hw d) ((jQ.ext x1).trans (.soft st.toSoft λ_ _ e=> .inl e))
theorem a6{x:Nat}{n:Str}{e:ME}{v:Expr}{np pos:Pos}(hx:c.nt[x]? =some n)(ha:asg n=true)(hw:c.ow x=0)(xZ:ay c sc e v)(h0:gG c e=0)
  (hs: ∀env:Env,env.scope=sc→swapsWith v (some (.Name n np)) pos.line env=pure false):dI c sc asg (.asg x e) (.Assign [.Name n np] v pos):=by
 intro A env s σ K C own out Q E he p oo hr hP
 refine ai (Option.map_eq_some_iff.mp hr) λd hd MU=>?_
 subst MU
 refine wpAny_Assign_Name (xZ A env s σ _ d _ E he p.pre hd λw h1 t1 x1 r1 _=>?_) (hs env he)
 rw[h0]at r1
 exact kC p oo hx ha hw x1 r1 hP
noncomputable def iV(own:Nat→Option Addr)(x:Nat)(a:Addr):Nat→Option Addr:=λy=>if y=x then some a else own y
theorem Act.ya{A:Around}{env:Env}{s:Shared}{σ:ah}{K C:Addr→Prop}{own:Nat→Option Addr}{x:Nat}{n:Str}{l:List D}{a:Addr}{vs:Array Value}{k:Nat}{h':Heap}{tk:Nat}(p:Act c A env s σ K C asg own)
  (hx:c.nt[x]? =some n) (UR:seen env n) (hw:c.ow x=1→C a) (dG:1≤c.lv x) (ho:s.heap.get? a=some (seqObj "list" vs k)) (hr:aF (λb=>K b∧C b) s.heap l vs.toList) (hl:l.length≤bW) (hK: ¬K a) (hT:c.hT.get? a=none)
  (MV: ∀y,own y=some a→y=x) (st:uE env c.hT s.heap h' n (.ref a)):Act c A env {s with heap:=h',toks:=tk} (upd σ x (.list l)) K C asg (iV own x a) where
 room:=p.room
 fn:=p.fn
 gl:=p.gl
 bl:=p.bl
 top:=st.top p.top
 hK a e:=p.hK a (st.back a e)
 hC a e:=p.hC a (st.back a e)
 cell y hy:=let⟨a,u,h1,h2⟩:=p.cell y hy;let⟨u',h3⟩:=st.cell y a u h1 h2;⟨a,u',h1,h3⟩
 apart:=p.apart
 nodup:=p.nodup
 loc:=st.loc p.loc
 hL:=p.hL
 dS:=p.dS
 var y d' name h1 h2 h3 h4:=by
  by_cases hy:y=x
  ·subst hy;simp[iV]at h4
  ·simp only[upd,hy,if_false]at h1
   simp only[iV,hy,if_false]at h4
   refine bK (p.var y d' name h1 h2 h3 h4) λu q1 q2 q3=>?_
   exact⟨u,st.sF name u (λe=>hy (mc p.nodup h2 (e▸hx))) q1,q2.du (bQ st.dat) q3,q3.du (bQ st.dat)⟩
 cO y b h1:=by
  by_cases hy:y=x
  ·subst hy
   simp only[iV,if_true]at h1
   obtain rfl:=Option.some.inj h1
   exact⟨n,l,vs,k,dG,hx,UR,by simp[upd],st.here,st.dat a _ trivial (.inl ⟨_,_,rfl⟩) ho,hr.dat λb o z hd e=>⟨st.dat b o trivial hd e,z⟩,hl,hK,hT,hw⟩
  ·simp only[iV,hy,if_false]at h1
   refine oq (p.cO y b h1) λname l' fi e q=>?_
   exact⟨name,l',fi,e,q.lv,q.nt,q.sees,by unfold upd;rw[if_neg hy];exact q.val,st.sF name _ (λe=>hy (mc p.nodup q.nt (e▸hx))) q.named,st.dat b _ trivial (.inl ⟨_,_,rfl⟩) q.obj,
    q.rep.dat λb o z hd e=>⟨st.dat b o trivial hd e,z⟩,q.lim,q.nK,q.nT,q.out⟩
 eC y z b h1 h2:=by
  by_cases hy:y=x
  ·by_cases hz:z=x
   ·rw[hy,hz]
   ·simp only[iV,hy,hz,if_true,if_false]at h1 h2
    obtain rfl:=Option.some.inj h1
    exact absurd (MV z h2) hz
  ·by_cases hz:z=x
   ·simp only[iV,hy,hz,if_true,if_false]at h1 h2
    obtain rfl:=Option.some.inj h2
    exact absurd (MV y h1) hy
   ·simp only[iV,hy,hz,if_false]at h1 h2
    exact p.eC y z b h1 h2
theorem bq.set{σ:ah}{own:Nat→Option Addr}(oo:bq c σ own){x:Nat}(hw:c.ow x≠0)(a:Addr)(d:D):bq c (Mine.Internal.upd σ x d) (iV own x a):=λy=>by
 by_cases hy:y=x
 ·subst hy;simp[iV,Mine.Internal.upd,hw]
 ·have:=oo y
  simp only[iV,hy,if_false,this,Mine.Internal.upd]
theorem yb{A:Around}{env:Env}{s:Shared}{σ:ah}{K C:Addr→Prop}{own:Nat→Option Addr}{x:Nat}{n:Str}{l:List D}{a:Addr}{vs:Array Value}{k:Nat}{Q:Unit→Shared→Prop}{E:Value→Shared→Prop}{h1:Heap}{t1:Nat}
  (p:Act c A env s σ K C asg own) (oo:bq c σ own) (hx:c.nt[x]? =some n) (UR:seen env n) (ha:asg n=true) (hw:c.ow x=1) (dG:1≤c.lv x) (x1:Ext s.heap h1) (oD:s.heap.get? a=none) (ho:h1.get? a=some (seqObj "list" vs k))
  (hr:aF (λb=>(K b∧C b)∧b≠a) h1 l vs.toList) (hl:l.length≤bW)
  (hQ: ∀h' tk K',Act c A env {s with heap:=h',toks:=tk} (upd σ x (.list l)) K' C asg (iV own x a)→bq c (upd σ x (.list l)) (iV own x a)→jQ env own (iV own x a) K K' s.heap h'→Soft env h1 h'→(∀b,K b→b≠a→K' b)→Q () {s with heap:=h',toks:=tk}):
  wpAny (model c.prog c.w) A (storeName env n (.ref a)) Q E {s with heap:=h1,toks:=t1}:=by
 have p1:=p.shrink (tk:=t1) (W:=(· =a)) x1 λb hb=>by subst hb;exact⟨oD,_,ho⟩
 refine cG p1 ha λh' tk st=>?_
 refine hQ h' tk (λb=>K b∧ ¬b=a) (p1.ya hx UR (λ_=>p.hC a oD) dG ho (hr.mono λb _ z=>⟨⟨z.1.1,z.2⟩,z.1.2⟩) hl (λz=>z.2 rfl) (aE p.top oD) (λy hy=>?_) st) (oo.set (by rw[hw];decide) a _) ⟨λb o hd e _=>⟨st.dat b o trivial hd (x1 b o e),λz=>⟨z,λe'=>?_⟩⟩,
  λb o hd e h1 h2=>st.ma b o hd (x1 b o e) h1 h2,λb o e=>st.live b o (x1 b o e),λy b o hy e=>?_,λ_ _ _ z=>z.1⟩ st.toSoft λb z ne=>⟨z,ne⟩
 ·refine cg (p.uD hy) λ_ _ q5=>?_
  replace q5:=oD▸q5
  cases q5
 ·have e':b=a:=e'
  subst e'
  replace e:=oD▸e
  cases e
 ·by_cases I7:y=x
  ·simp only[iV,I7,if_true]at hy
   obtain rfl:=Option.some.inj hy
   replace e:=oD▸e
   cases e
  ·simp only[iV,I7,if_false]at hy
   exact⟨y,hy⟩
theorem G5{x:Nat}{n:Str}{e:ME}{v:Expr}{np pos:Pos}(hx:c.nt[x]? =some n)(MW:mP sc n=true)(ha:asg n=true)(hw:c.ow x=1)(dG:1≤c.lv x)(xZ:ay c sc e v)(hf:fresh c e=true)
  (hs: ∀env:Env,env.scope=sc→swapsWith v (some (.Name n np)) pos.line env=pure false):dI c sc asg (.own x e) (.Assign [.Name n np] v pos):=by
 intro A env s σ K C own out Q E he p oo hr hP
 have rn: ∃l,(ar c.Φ e).v σ=some (.list l)∧out= .nx (upd σ x (.list l)):=by
  refine ai (aK hr) λd h1 h2=>?_
  refine ai (omap h2) λl hl MX=>?_
  subst MX
  rw[ef hl]at h1;exact⟨l,h1,rfl⟩
 refine ai rn λl hd MY=>?_
 subst MY
 refine wpAny_Assign_Name (xZ A env s σ _ _ _ E he p.pre hd λw h1 t1 x1 r1 f1=>?_) (hs env he)
 refine qe (f1 hf l rfl) λa vs k MZ oD ho jd=>?_
 subst MZ
 have cf:l.length≤bW:=by obtain⟨_,_,_,q,_⟩:=r1.items;exact q
 exact yb p oo hx (l9 he MW) ha hw dG x1 oD ho jd cf λh' tk K' a' o' g _ _=>hP h' tk K' _ a' o' g
theorem Ae{elt:ME}{t:gh}{src ifs rest:ME}{dH dC iter:Expr}{eE:List Expr}{gens:List Comprehension}{scope:Scope}{bG:Pos}{jf:Expr→Prop}(ok:c.Ok)(m:wA c sc elt t src ifs rest dH dC iter eE gens scope bG jf)
  {n:Str} {np pos:Pos} {A:Around} {env:Env} {s:Shared} {σ:ah} {K C:Addr→Prop} {own:Nat→Option Addr} {d:D} {Q:Flow→Shared→Prop} {E:Value→Shared→Prop}
  (hs:swapsWith (.ListComp dH (⟨dC,iter,eE,0⟩::gens) scope bG) (some (.Name n np)) pos.line env=pure true) (he:env.scope=sc) (p:Act c A env s σ K C asg own) (hd:(ar c.Φ (.comp elt t src ifs rest)).v σ=some d)
  (hR: ∀D' h1 tk l vs k,d= .list l→Ext s.heap h1→s.heap.get? D'=none→h1.get? D'=some (seqObj "list" vs k)→aF (λb=>(K b∧C b)∧b≠D') h1 l vs.toList→l.length≤bW→
   wpAny (model c.prog c.w) A (storeName env n (.ref D')) (λ_ s2=> ∃h2 I8 σ2 K2 Af,s2={s with heap:=h2,toks:=I8}∧Act c A env {s with heap:=h2,toks:=I8} σ2 K2 C asg Af∧Soft env h1 h2∧(∀b,K b→b≠D'→K2 b)∧jQ env own Af K K2 s.heap h2∧
    ∀dA,Act c A env {s with heap:=dA,toks:=I8} σ2 K2 C asg Af→jQ env own Af K K2 s.heap dA→Q .next {s with heap:=dA,toks:=I8}) E {s with heap:=h1,toks:=tk}):
  wpAny (model c.prog c.w) A (exec (.Assign [.Name n np] (.ListComp dH (⟨dC,iter,eE,0⟩::gens) scope bG) pos) env) Q E s:=by
 rw[exec_Assign_Name_used (env:=env) _ _ _ _ hs]
 refine wpAny_bind (wpAny_standAt (wpAny_bind ?_))
 skip
 refine wpAny_bind (pE (Q:=λ_ s'=>wpAny (model c.prog c.w) A (pure ():Sem Unit) (λ_ s2=>wpAny (model c.prog c.w) A (pure Flow.next:Sem Flow) Q E s2) E s') ok m he p.pre hd λD' Cc h1 tk l vs k hl x1 hD hC G4 ho hr cf rA=>?_)
 refine eR (wpAny_mono (hR D' h1 tk l vs k hl x1 hD ho hr cf) (λ_ s2 h2=>?_) λ_ _ x=>x)
 obtain⟨h2,I8,σ2,K2,Af,rfl,a2,sf,Zj,g2,hQ⟩:=h2
 obtain⟨m0,o0,es,ep,I6,dt,r0⟩:=rA
 obtain⟨mL,oL,esL,epL,CG,hdL,_⟩:=p.loc
 have Xs:Cc≠env.locals:=λe=>by rw[e,CG]at hC;cases hC
 have Xt: ∀x,(env.kindOf x=some .cell∨env.kindOf x=some .free)→env.cells.lookup x≠some Cc:=λx hx e=>by
  obtain⟨a,v,h3,o,h4,_⟩:=p.cell x hx
  replace e:=h3▸e
  cases e
  replace h4:=hC▸h4
  cases h4
 have US:h2.get? Cc=some o0:=sf.ma Cc o0 (bP dt r0.1) I6 Xs λx hx=>Xt x (.inl hx)
 refine⟨m0,⟨o0,es,ep,US,dt,r0⟩,λdA CK=>wpAny_pure (wpAny_pure (hQ dA ?_ ?_))⟩
 ·have kd:=iM CK US (bP dt r0.1)
  have hb: ∀a,dA.get? a=none→a=Cc∨h2.get? a=none:=λa e=>by
   by_cases h:a=Cc
   ·exact .inl h
   ·rw[CK.2 a h]at e;exact .inr e
  refine a2.change ⟨bQ kd,λb o _ e h=>?_,λb o e=>?_,λy a o hy e=>?_⟩ (λ_ z=>z) (λa e=>?_) (λa e=>?_) λy a hy=>?_
  ·refine(CK.2 b λe'=>?_).trans e
   subst e'
   rcases h with h|⟨x,h3,h4⟩
   ·exact Xs h
   ·exact Xt x h3 h4
  ·exact(CK.2 b λe'=>by subst e';rw[aE p.top hC]at e;cases e).trans (a2.top b o e)
  ·refine(CK.2 a λe'=>?_).trans e
   subst e'
   obtain⟨fi,e',q5⟩:=a2.uD hy
   have Xu:h2.get? a=some (seqObj "list" fi e'):=q5
   rw[US]at Xu;cases Xu
   exact bP dt r0.1 (.inl ⟨_,_,rfl⟩)
  ·rcases hb a e with rfl|h
   ·exact Zj a (p.hK a hC) (Ne.symm G4)
   ·exact a2.hK a h
  ·rcases hb a e with rfl|h
   ·exact p.hC a hC
   ·exact a2.hC a h
  ·exact a2.Du hy
 ·refine⟨λb o hd e h=>?_,λb o hd e h h'=>?_,λb o e=>?_,g2.sU,g2.sub⟩
  ·obtain⟨e1,k1⟩:=g2.dat b o hd e h
   exact⟨(CK.2 b λe'=>by subst e';rw[hC]at e;cases e).trans e1,k1⟩
  ·exact(CK.2 b λe'=>by subst e';rw[hC]at e;cases e).trans (g2.ma b o hd e h h')
  ·obtain⟨o',e'⟩:=g2.live b o e
   exact⟨o',(CK.2 b λe'=>by subst e';rw[hC]at e;cases e).trans e'⟩
theorem qy{elt:ME}{t:gh}{src ifs rest:ME}{dH dC iter:Expr}{eE:List Expr}{gens:List Comprehension}{scope:Scope}{bG:Pos}{jf:Expr→Prop}(ok:c.Ok)(m:wA c sc elt t src ifs rest dH dC iter eE gens scope bG jf)
  {x:Nat} {n:Str} {np pos:Pos} (hx:c.nt[x]? =some n) (ha:asg n=true) (hw:c.ow x=0)
  (hs: ∀env:Env,env.scope=sc→swapsWith (.ListComp dH (⟨dC,iter,eE,0⟩::gens) scope bG) (some (.Name n np)) pos.line env=pure true):
  dI c sc asg (.asg x (.comp elt t src ifs rest)) (.Assign [.Name n np] (.ListComp dH (⟨dC,iter,eE,0⟩::gens) scope bG) pos):=by
 intro A env s σ K C own out Q E he p oo hr hP
 refine ai (Option.map_eq_some_iff.mp hr) λd hd M0=>?_
 subst M0
 refine Ae ok m (hs env he) he p hd λD' h1 tk l vs k hl x1 hD ho jd cf=>?_
 subst hl
 have p1:=p.next (tk:=tk) x1
 have kD:aZ (λa=>K a∧C a) h1 (.list l) (.ref D'):=⟨D',vs.toList,rfl,⟨p.hK _ hD,p.hC _ hD⟩,cf,⟨k,ho⟩,jd.mono λ_ _ z=>z.1⟩
 refine cG p1 ha λh' je st=>?_
 have p2:=p1.stored (tk:=je) hx st (.cB kD) (kD.mono λ_ _ z=>z.1)
 rw[nj oo hw]at p2
 exact⟨h',je,_,K,own,rfl,p2,st.toSoft,λb z _=>z,(jQ.ext x1).trans (.soft st.toSoft λ_ _ e=> .inl e),λdA Zk Zl=>hP dA je K own Zk (oo.upd hw _) Zl⟩
end
end Mine.Internal
end
section
open PySem PyProof.Rows
namespace Mine.Internal
noncomputable def Cx.fz(c:Cx):Cx:={c with lv:=λx=>if c.ow x=1 then 0 else c.lv x}
section
variable{c:Cx}{sc:Scope}{asg:Str→Bool}
theorem Act.frozen{A:Around}{env:Env}{s:Shared}{σ:ah}{K C:Addr→Prop}{own:Nat→Option Addr}(p:Act c A env s σ K C asg own)(oo:bq c σ own):lN c.fz A env s σ C where
 room:=p.room
 fn:=p.fn
 gl:=p.gl
 bl:=p.bl
 top:=p.top
 hZ:=p.hC
 cell:=p.cell
 apart:=p.apart
 var x d name h1 h2 h3:=by
  cases ho:own x with
  |none=>
   refine bK (p.var x d name h1 h2 h3 ho) λv h4 h5 _=>?_
   have hw:c.ow x=0:=by
    have:=oo x
    rw[ho,h1]at this
    simpa using this
   refine⟨v,h4,?_⟩
   show aw C s.heap (if c.ow x=1 then 0 else c.lv x) d v
   rw[if_neg (by rw[hw];decide)]
   exact h5.mE λ_ _ _ z=>z.2
  |some a=>
   obtain⟨zX,l,vs,e,dG,q1,q2,q3,q4,q5,q6,q7,q8,q9,Rv⟩:=p.cO x a ho
   have xv:c.nt[x]? =some name:=h2
   replace q1:=xv▸q1
   obtain rfl:=Option.some.inj q1
   replace q3:=h1▸q3
   obtain rfl:=Option.some.inj q3
   refine⟨_,q4,?_⟩
   show aw C s.heap (if c.ow x=1 then 0 else c.lv x) _ _
   have jd:aF C s.heap l vs.toList:=q6.mono λ_ _ z=>z.2
   by_cases hw:c.ow x=1
   ·rw[if_pos hw]
    exact⟨a,vs.toList,rfl,Rv hw,q7,⟨e,q5⟩,jd⟩
   ·rw[if_neg hw]
    exact wt dG q5 jd q7
theorem dh{e:ME}{x:Expr}{pos:Pos}(xZ:ay c.fz sc e x)(h0:gG c.fz e=0)(fq:(!c.fr||fresh c.fz e)=true):dI c sc asg (.ret e) (.Return (some x) pos):=by
 intro A env s σ K C own out Q E he p oo hr hP
 refine ai (Option.map_eq_some_iff.mp hr) λd hd M1=>?_
 subst M1
 refine wpAny_Return_some (xZ A env s σ C d _ E he (p.frozen oo) hd λv h' tk hx hr hf=>?_)
 rw[h0]at hr
 exact hP v h' tk K own (.ext hx) hr λq=>hf (by rw[q]at fq;exact fq)
theorem G6{x:Nat}{n:Str}{o:Operator}{e:ME}{v:Expr}{np pos:Pos}(hx:c.nt[x]? =some n)(MW:mP sc n=true)(d9:aR n=true)(ha:asg n=true)(hw:c.ow x=0)(xZ:ay c sc e v)
  (ho:o= .Add∨o= .Sub∨o= .Mult∨o= .FloorDiv):dI c sc asg (.aug x o e) (.AugAssign (.Name n np) o v pos):=by
 intro A env s σ K C own out Q E he p oo hr hP
 have rn: ∃a b r,σ x=some (.int a)∧(ar c.Φ e).v σ=some (.int b)∧bA o (.int a) (.int b)=some r∧out= .nx (upd σ x r):=by
  refine ai (aK hr) λa h1 h=>?_
  refine ai (aK h) λd h2 h=>?_
  refine ai (aK h) λb hb h=>?_
  refine ai (omap h) λr h3 h4=>?_
  rw[ba hb]at h2
  exact⟨a,b,r,num_inv h1,h2,h3,h4.symm⟩
 refine qe rn λa b r h1 h2 h3 M3=>?_
 subst M3
 simp only[aR,Bool.and_eq_true,Bool.not_eq_true']at d9
 refine bK (p.var x _ n h1 hx (l9 he MW) (h9 oo hw)) λv0 q1 q2 _=>?_
 refine au (aG q2) λt M4=>?_
 subst M4
 refine wpAny_AugAssign_Name (jL p.fn q1 d9.2 ?_)
 refine xZ A env s σ _ _ _ E he p.pre h2 λv1 k1 t1 x1 r1 _=>?_
 refine au (aG r1) λu M5=>?_
 subst M5
 have fin: ∀i tk,r= .int i→wpAny (model c.prog c.w) A (storeName env n (.int i tk)) (λ_=>Q .next) E {s with heap:=k1,toks:=t1+1}:=λi tk e=>kC p oo hx ha hw x1 (by subst e;exact⟨_,rfl⟩) hP
 rcases ho with rfl|rfl|rfl|rfl
 ·obtain rfl:=Option.some.inj h3
  exact PyProof.Rows.iadd_int (fin _ _ rfl)
 ·obtain rfl:=Option.some.inj h3
  exact PyProof.Rows.isub_int (fin _ _ rfl)
 ·replace h3:(if(dc a||dc b)=true then some (D.int (a*b))else none)=some r:=h3
  refine aX (eM h3) λhs h3=>?_
  obtain rfl:=Option.some.inj h3
  rcases Bool.or_eq_true_iff.mp hs with hs|hs
  ·exact PyProof.Rows.imul_int (fin _ _ rfl) (IntMulOk.of_left (fV hs))
  ·exact PyProof.Rows.imul_int (fin _ _ rfl) (IntMulOk.of_right (fV hs))
 ·replace h3:(if b=0 then none else if b.natAbs<2^30 then some (D.int (a.fdiv b))else none)=some r:=h3
  refine aX (uk h3) λhb h3=>?_
  refine aX (eM h3) λhs h3=>?_
  obtain rfl:=Option.some.inj h3
  exact AutoIntOps.ifloordiv_1 (by simpa using hb) (by rw[PyProof.noPylong_small hs];simp) (fin _ _ rfl)
end
end Mine.Internal
end
section
open PySem PyProof.Rows
namespace Mine.Internal
section
variable{c:Cx}{sc:Scope}{asg:Str→Bool}
theorem nr{σ:ah}{own:Nat→Option Addr}(oo:bq c σ own){xs:List Nat}(hx:xs.all (c.ow · ==0)=true):fI own xs=own:=by
 funext y
 simp only[fI]
 split
 ·rename_i h
  have:=List.all_eq_true.mp hx y (by simpa using h)
  exact(h9 oo (by simpa using this)).symm
 ·rfl
theorem bq.many{σ σ':ah}{own:Nat→Option Addr}(oo:bq c σ own){xs:List Nat}(hx:xs.all (c.ow · ==0)=true)(h: ∀y,y ∉ xs→σ' y=σ y):bq c σ' own:=λy=>by
 by_cases hy:y∈xs
 ·have h0:c.ow y=0:=by simpa using List.all_eq_true.mp hx y hy
  rw[h9 oo h0,h0];rfl
 ·rw[oo y,h y hy]
noncomputable def qz(h₁:Heap)(K W:Addr→Prop)(b:Addr):Prop:= ∃o,cQ o∧h₁.get? b=some o∧K b∧ ¬W b
theorem jQ.step{env:Env}{own fk:Nat→Option Addr}{K K1 W:Addr→Prop}{h0 h h':Heap}(g:jQ env own fk K K1 h0 h)(hW: ∀b,W b→h0.get? b=none)(hd: ∀b o,¬W b→cQ o→h.get? b=some o→h'.get? b=some o)
  (hn: ∀b o,¬cQ o→h.get? b=some o→b≠env.locals→(∀x,env.kindOf x=some .cell→env.cells.lookup x≠some b)→h'.get? b=some o) (hl: ∀b o,¬W b→h.get? b=some o→ ∃o',h'.get? b=some o'):jQ env own fk K K1 h0 h':=by
 have nw: ∀b o,h0.get? b=some o→ ¬W b:=λb o e hw=>by rw[hW b hw]at e;cases e
 exact⟨λb o d e x=>let⟨e1,k1⟩:=g.dat b o d e x;⟨hd b o (nw b o e) d e1,k1⟩,λb o d e h1 h2=>hn b o d (g.ma b o d e h1 h2) h1 h2,λb o e=>let⟨o1,e1⟩:=g.live b o e;hl b o1 (nw b o e) e1,g.sU,g.sub⟩
noncomputable def kE(c:Cx)(A:Around)(env:Env)(asg:Str→Bool)(m:MS)(l:List Stmt):Prop:=
 ∀(s:Shared) (σ:ah) (K C:Addr→Prop) (own:Nat→Option Addr) (out:Out) (Q:Flow→Shared→Prop) (E:Value→Shared→Prop),Act c A env s σ K C asg own→bq c σ own→run c.Φ m σ=some out→qx c A env asg C s K own out Q→wpAny (model c.prog c.w) A (execs l env) Q E s
noncomputable def DA(c:Cx)(A:Around)(env:Env)(asg:Str→Bool)(m:MS)(st:Stmt):Prop:=
 ∀(s:Shared) (σ:ah) (K C:Addr→Prop) (own:Nat→Option Addr) (out:Out) (Q:Flow→Shared→Prop) (E:Value→Shared→Prop),Act c A env s σ K C asg own→bq c σ own→run c.Φ m σ=some out→qx c A env asg C s K own out Q→wpAny (model c.prog c.w) A (exec st env) Q E s
theorem bV.at{A:Around}{env:Env}{m:MS}{l:List Stmt}(h:bV c sc asg m l)(he:env.scope=sc):kE c A env asg m l:=λs σ K C own out Q E=>h A env s σ K C own out Q E he
theorem dI.at{A:Around}{env:Env}{m:MS}{st:Stmt}(h:dI c sc asg m st)(he:env.scope=sc):DA c A env asg m st:=λs σ K C own out Q E=>h A env s σ K C own out Q E he
inductive G7(c:Cx)(asg:Str→Bool)(t:gh)(body:MS)(A:Around)(env:Env)(s:Shared)(h₁:Heap)(K C:Addr→Prop)(own:Nat→Option Addr)(W:Addr→Prop)(St:Nat→Heap→Prop)(items:List D)(out:Out):Nat→Shared→Prop
 |mk (i:Nat) (h:Heap) (tk:Nat) (σ1:ah) (K1:Addr→Prop) (fk:Nat→Option Addr) (jr:i≤items.length) (p1:Act c A env {s with heap:=h,toks:=tk} σ1 K1 C asg fk) (Rw:bq c σ1 fk) (g1:jQ env own fk K K1 s.heap h) (cw:St i h) (M6: ∀b,K1 b→ ¬W b) (G8: ∀y b,fk y=some b→ ¬W b)
   (M7: ∀b,qz h₁ K W b→K1 b) (l5:cV (run c.Φ body) t (items.drop i) σ1=some out):G7 c asg t body A env s h₁ K C own W St items out (items.length+1-i) {s with heap:=h,toks:=tk}
noncomputable def M8(c:Cx)(t:gh)(body:MS)(l:List D):Out→Option Out
 | .nx σ'=>cV (run c.Φ body) t l σ'
 | .rt d=>some (.rt d)
inductive Fv(c:Cx)(t:gh)(body:MS)(l:List D)(σ:ah)(d:D)(out:Out):Prop
 |mk (σ2:ah) (o:Out) (G9:eA t d σ=some σ2) (ho:run c.Φ body σ2=some o) (l5:M8 c t body l o=some out):Fv c t body l σ d out
theorem Ag{t:gh}{body:MS}{l:List D}{σ:ah}{d:D}{out:Out}(hr:cV (run c.Φ body) t (d::l) σ=some out):Fv c t body l σ d out:=by
 refine ai (Option.bind_eq_some_iff.mp hr) λσ2 G9 l5=>?_
 refine ai (Option.bind_eq_some_iff.mp l5) λo ho l5=>?_
 refine⟨σ2,o,G9,ho,?_⟩
 cases o <;> exact l5
theorem Ah{t:gh}{body:MS}{dC:Expr}{l:List Stmt}{h₁ h₂:Heap}{tk:Nat}{A:Around}{env:Env}{s:Shared}{σ:ah}{K C:Addr→Prop}{own:Nat→Option Addr}{I:Addr}{W:Addr→Prop}{jf:Expr→Prop}{n:Nat}{items:List D}{out:Out}{Q:Flow→Shared→Prop}{R:Result→Shared→Prop}
  (ht:mV c asg t dC) (DB:t.vars.all (c.ow · ==0)=true) (hb:kE c A env asg body l) (d9:jf dC) (dG:xW c t n=true) (p:Act c A env s σ K C asg own) (oo:bq c σ own)
  (x1:Ext s.heap h₁) (x2:Ext h₁ h₂) (hW: ∀b,W b→h₁.get? b=none∧ ∃o,h₂.get? b=some o) (wk:cT c.prog c.w A (λa=>K a∧C a) (qz h₁ K W) h₁ I W jf n items h₂)
  (hr:cV (run c.Φ body) t items σ=some out) (hP:qx c A env asg C s K own out Q) (hR: ∀f s',Q f s'→R (.ok f) s'):
  codeAny (model c.prog c.w) A (.forLoop dC (.ref I) l [] env) R {s with heap:=h₂,toks:=tk}:=by
 refine da wk λSt Md w Xv=>?_
 have Fw: ∀b,W b→s.heap.get? b=none:=λb hw=>aE x1 (hW b hw).1
 have p0:=p.shrink (tk:=tk) (W:=W) (x1.trans x2) λb hw=>⟨Fw b hw,(hW b hw).2⟩
 have Xw: ∀b o,s.heap.get? b=some o→ ¬W b:=λb o e hw=>by rw[Fw b hw]at e;cases e
 have g0:jQ env own own K (λa=>K a∧ ¬W a) s.heap h₂:=⟨λb o _ e _=>⟨x2 b o (x1 b o e),λk=>⟨k,Xw b o e⟩⟩,λb o _ e _ _=>x2 b o (x1 b o e),λb o e=>⟨o,x2 b o (x1 b o e)⟩,λy b o hy e=>⟨y,hy⟩,λ_ _ _ z=>z.1⟩
 have UT: ∀b,W b→c.hT.get? b=none:=λb hw=>aE p.top (Fw b hw)
 refine codeAny_forLoop_any (G7 c asg t body A env s h₁ K C own W St items out) ?_ (items.length+1)
  (.mk 0 h₂ tk σ _ own (Nat.zero_le _) p0 oo g0 Xv (λb z=>z.2) (λy b hy=>by
   refine cg (p.uD hy) λ_ _ q5=>?_
   exact Xw b _ q5) (λb z=>by obtain⟨o,_,_,z1,z2⟩:=z;exact⟨z1,z2⟩) hr)
 intro k s' hh
 induction hh with|mk i h je σ1 K1 fk jr p1 Rw g1 cw M6 G8 M7 l5=>
 have sM: ∀b,h.get? b=none→s.heap.get? b=none:=λb e=>by
  cases e':s.heap.get? b with
  |none=>rfl
  |some o=>obtain⟨o',rq⟩:=g1.live b o e';rw[rq]at e;cases e
 by_cases cy:i<items.length
 ·refine Exists.elim (qv cy) λd dt=>?_
  have hd:=dt.1
  replace l5:=dt.2▸l5
  have hT:=Ag l5
  clear l5 dt
  induction hT with|mk σ2 o G9 ho l5=>
  refine w.item i _ _ _ d cw hd (λb e=>⟨p.hK b (sM b e),p.hC b (sM b e)⟩) λv ha ta Rx ka Zm UU=>?_
  have UW:aZ K1 ha d v:=UU.mono λa _ z=>z.elim (M7 a) (p1.hK a)
  have ra:aw (λa=>K1 a∧C a) ha n d v:=(Zm.and UW).mE λa _ _ z=>⟨z.2,z.1.2⟩
  have UX:Off env K1 fk c.hT h ha:=⟨λb o hb _ e=>ka b o (M6 b hb) e,λb o hd e _=>ka b o (λhw=>by obtain⟨o',e',d'⟩:=w.live i h b cw hw;rw[e]at e';cases e';exact hd d') e,
   λb o e=>ka b o (λhw=>by rw[UT b hw]at e;cases e) (p1.top b o e),λy a o hy e=>ka a o (G8 y a hy) e⟩
  have M9: ∀a,ha.get? a=none→h.get? a=none:=λa e=>by
   cases e':h.get? a with
   |none=>rfl
   |some o=>
    by_cases hw:W a
    ·refine ai (w.jg i v ha a Rx hw) λo' rq _=>?_
     replace e:=rq▸e
     cases e
    ·rw[ka a o hw e']at e;cases e
  have pa:=p1.off (tk:=ta) UX M9
  have ga:jQ env own fk K K1 s.heap ha:=g1.step Fw (λb o nw _ e=>ka b o nw e) (λb o hd e _ _=>ka b o (λhw=>by obtain⟨o',e',d'⟩:=w.live i h b cw hw;rw[e]at e';cases e';exact hd d') e) λb o nw e=>⟨o,ka b o nw e⟩
  refine w.go i _ _ _ v dC d9 Rx λui UY kb=>?_
  have Ha:Off env K1 fk c.hT ha ui:=⟨λb o hb _ e=>kb b o (M6 b hb) e,λb o hd e _=>kb b o (λhw=>by obtain⟨o',e',d'⟩:=w.jg i v ha b Rx hw;rw[e]at e';cases e';exact hd d') e,
   λb o e=>kb b o (λhw=>by rw[UT b hw]at e;cases e) (pa.top b o e),λy a o hy e=>kb a o (G8 y a hy) e⟩
  have Na: ∀a,ui.get? a=none→ha.get? a=none:=λa e=>by
   cases e':ha.get? a with
   |none=>rfl
   |some o=>
    by_cases hw:W a
    ·refine ai (w.live (i+1) ui a UY hw) λo' rq _=>?_
     replace e:=rq▸e
     cases e
    ·rw[kb a o hw e']at e;cases e
  have pb:=pa.off (tk:=ta) Ha Na
  have gb:jQ env own fk K K1 s.heap ui:=ga.step Fw (λb o nw _ e=>kb b o nw e) (λb o hd e _ _=>kb b o (λhw=>by obtain⟨o',e',d'⟩:=w.jg i v ha b Rx hw;rw[e]at e';cases e';exact hd d') e) λb o nw e=>⟨o,kb b o nw e⟩
  refine uI ht pb G9 (ra.du Ha.dat UW) (UW.du Ha.dat) dG λFg tc pc sf=>?_
  rw[nr Rw DB]at pc
  have Zn:bq c σ2 fk:=Rw.many DB λy hy=>hV G9 hy
  have gc:jQ env own fk K K1 s.heap Fg:=gb.trans (.soft sf λ_ _ e=> .inl e)
  have Nb:St (i+1) Fg:=w.frame _ _ _ UY ((w.keep _ _ UY).trans (bQ sf.dat)) (bQ sf.dat)
  refine hb _ σ2 K1 C fk o _ _ pc Zn ho ?_
  have next: ∀h4 t4 K4 lO σ4,Act c A env {s with heap:=h4,toks:=t4} σ4 K4 C asg lO→bq c σ4 lO→jQ env fk lO K1 K4 Fg h4→cV (run c.Φ body) t (items.drop (i+1)) σ4=some out→
    ∃m,m<items.length+1-i∧G7 c asg t body A env s h₁ K C own W St items out m {s with heap:=h4,toks:=t4}:=by
   intro h4 t4 K4 lO σ4 a4 o4 g4 Rq
   have Nc: ∀b,K1 b→ ∀x,fk x≠some b:=λb kb x hx=>by
    exact pc.Du hx kb
   have k4:bj (qz h₁ K W) h₁ h4:=λb o z hd e=>(g4.dat b o hd (w.keep _ _ Nb b o z hd e) (Nc b (M7 b z))).1
   refine⟨_,iC jr,.mk (i+1) h4 t4 σ4 K4 lO cy a4 o4 (gc.trans g4) (w.frame _ _ _ Nb k4 λb o hw hd e=>(g4.dat b o hd e λx hx=>G8 x b hx hw).1) (λb kb hw=>?_) (λy b hy hw=>?_) (λb z=>?_) Rq⟩
   ·refine ai (w.live _ _ b Nb hw) λo' e' _=>?_
    exact M6 b (g4.sub b o' e' kb) hw
   ·refine ai (w.live _ _ b Nb hw) λo' e' _=>?_
    refine au (g4.sU y b o' hy e') λy' dP=>?_
    exact G8 y' b dP hw
   ·refine jD (id z) λo' fo e' z1 z2=>?_
    exact(g4.dat b o' fo (w.keep _ _ Nb b o' z fo e') (Nc b (M7 b z))).2 (M7 b z)
  cases o with
  |nx σ3=>exact λh4 t4 K4 lO a4 o4 g4=>next h4 t4 K4 lO σ3 a4 o4 g4 l5
  |rt d=>cases l5;exact λv h4 t4 K4 lO g4 r4 f4=>hR _ _ (hP v h4 t4 K4 lO (gc.trans g4) r4 λq=>(f4 q).back gc.live)
 ·have MD:i=items.length:=Nat.le_antisymm jr (Nat.not_lt.mp cy)
  subst MD
  replace l5:=List.drop_length▸l5
  cases l5
  refine w.done _ _ _ cw λh' qs k'=>wpAny_execs_nil (hR _ _ (hP h' qs (λb=>K1 b∨W b) fk (p1.change ⟨λb o hb _ e=>k' b o (M6 b hb) e,λb o hd e _=>k' b o (λhw=>by obtain⟨o',e',d'⟩:=w.live _ h b cw hw;rw[e]at e';cases e';exact hd d') e,
   λb o e=>k' b o (λhw=>by rw[UT b hw]at e;cases e) (p1.top b o e),λy a o hy e=>k' a o (G8 y a hy) e⟩ (λb z=> .inl z) (λa e=>?_) (λa e=>?_) λy a hy z=>?_) Rw ?_))
  ·by_cases hw:W a
   ·exact .inr hw
   ·refine .inl (p1.hK a ?_)
    show h.get? a=none
    cases e':h.get? a with
    |none=>rfl
    |some o=>rw[k' a o hw e']at e;cases e
  ·by_cases hw:W a
   ·exact p.hC a (Fw a hw)
   ·refine p1.hC a ?_
    show h.get? a=none
    cases e':h.get? a with
    |none=>rfl
    |some o=>rw[k' a o hw e']at e;cases e
  ·rcases z with z|z
   ·exact p1.Du hy z
   ·exact G8 y a hy z
  ·have gd:=g1.step Fw (h':=h') (λb o nw _ e=>k' b o nw e) (λb o hd e _ _=>k' b o (λhw=>by obtain⟨o',e',d'⟩:=w.live _ h b cw hw;rw[e]at e';cases e';exact hd d') e) λb o nw e=>⟨o,k' b o nw e⟩
   exact⟨λb o hd e x=>let⟨e1,k1⟩:=gd.dat b o hd e x;⟨e1,λk=> .inl (k1 k)⟩,gd.ma,gd.live,gd.sU,λb o e z=>z.elim (gd.sub b o e) λhw=>by rw[Fw b hw]at e;cases e⟩
theorem uM{A:Around}{env:Env}{t:gh}{src:ME}{body:MS}{dC iter:Expr}{l:List Stmt}{pos:Pos}{jf:Expr→Prop}(d7:kA c sc src iter jf)(yc:gG c src=0)(uL: ∀env x,foldedSetIterable iter env x=pure x)(ht:mV c asg t dC)(DB:t.vars.all (c.ow · ==0)=true)
  (hb:kE c A env asg body l) (d9:jf dC) (dG:xW c t 0=true) (he:env.scope=sc):DA c A env asg (.sT t src body) (.For dC iter l [] pos):=by
 intro s σ K C own out Q E p oo hr hP
 refine ai (Option.bind_eq_some_iff.mp hr) λd hd hr=>?_
 refine ai (Option.bind_eq_some_iff.mp hr) λitems hi hr=>?_
 rw[exec_For]
 refine wpAny_bind (wpAny_standAt (wpAny_bind (wpAny_mono (d7 A env s σ _ d items (λit s₃=>wpAny (model c.prog c.w) A (runOwn (.forLoop dC it l [] env) env) Q E s₃) E he p.pre hd hi λI W h₁ h₂ tk x1 x2 hW sR=>?_) (λv s₁ h₁=>?_) λ_ _ x=>x)))
 ·have wk:=sR (qz h₁ K W) ⟨.inr ⟨yc,λb o hd e z hw=>⟨o,hd,e,z.1,hw⟩⟩,λb z=>by obtain⟨_,_,_,_,z⟩:=z;exact z⟩
  rw[yc]at wk
  exact wpAny_runOwn (h:=none) (Ah ht DB hb d9 dG p oo x1 x2 hW wk hr hP λf s' h=>h)
 ·exact wpAny_bind (wpAny_of_eq (uL env v) (wpAny_bind (wpAny_standAt (wpAny_bind (wpAny_holding h₁)))))
theorem Ai{t:gh}{src:ME}{body:MS}{dC iter:Expr}{l:List Stmt}{pos:Pos}{jf:Expr→Prop}(d7:kA c sc src iter jf)(yc:gG c src=0)(uL: ∀env x,foldedSetIterable iter env x=pure x)(ht:mV c asg t dC)(DB:t.vars.all (c.ow · ==0)=true)
  (hb:bV c sc asg body l) (d9:jf dC) (dG:xW c t 0=true):dI c sc asg (.sT t src body) (.For dC iter l [] pos):=
 λA env s σ K C own out Q E he=>uM d7 yc uL ht DB (hb.at he) d9 dG he s σ K C own out Q E
theorem uN{A:Around}{env:Env}{a b:MS}{st:Stmt}{l:List Stmt}(ha:DA c A env asg a st)(hb:kE c A env asg b l):kE c A env asg (.seq a b) (st::l):=by
 intro s σ K C own out Q E p oo hr hP
 refine ai (Option.bind_eq_some_iff.mp hr) λo ho hr=>?_
 refine wpAny_execs_cons (ha s σ K C own o _ E p oo ho ?_)
 cases o with
 |nx σ'=>exact λh' tk K' dB a' o' g=>hb _ σ' K' C dB out Q E a' o' hr (hP.later g)
 |rt d=>cases hr;exact hP
end
end Mine.Internal
end
section
open PySem PyProof.Rows
namespace Mine.Internal
section
variable{prog:Program}{w:World}{A:Around}{E:Value→Shared→Prop}{s:Shared}
end
section
variable{c:Cx}{sc:Scope}{asg:Str→Bool}
theorem Act.Hb{A:Around}{env:Env}{s:Shared}{σ:ah}{K C:Addr→Prop}{own:Nat→Option Addr}(p:Act c A env s σ K C asg own){x:Nat}{a:Addr}{l':List D}{fi:Array Value}{e':Nat}{h':Heap}{tk:Nat}(hx:own x=some a)(hs:Heap.SameBut a s.heap h')
  (ho:h'.get? a=some (seqObj "list" fi e')) (hr:aF (λb=>K b∧C b) s.heap l' fi.toList) (hl:l'.length≤bW):
  Act c A env {s with heap:=h',toks:=tk} (upd σ x (.list l')) K C asg own∧jQ env own own K K s.heap h':=by
 obtain⟨name,l,vs,e,q0,q1,q2,q3,q4,q5,q6,q7,q8,q9,Rv⟩:=p.cO x a hx
 have nd: ∀b o,¬cQ o→s.heap.get? b=some o→h'.get? b=some o:=λb o hd e1=>(hs.2 b λh=>by subst h;rw[q5]at e1;cases e1;exact hd (.inl ⟨_,_,rfl⟩)).trans e1
 have kK:bj K s.heap h':=λb o hb _ e1=>(hs.2 b λh=>q8 (h▸hb)).trans e1
 have back: ∀b,h'.get? b=none→s.heap.get? b=none:=λb e1=>by
  by_cases hb:b=a
  ·subst hb;rw[ho]at e1;cases e1
  ·rw[←hs.2 b hb];exact e1
 have nm: ∀{n v},cE env s.heap n v→cE env h' n v:=λ{n v} k=>by
  rcases k with⟨hl,m,⟨o,es,ep,ho,hd,r⟩,hv⟩|⟨hl,b,ha,⟨o,ho,hd⟩⟩
  ·exact .inl ⟨hl,m,⟨o,es,ep,nd _ _ (bP hd r.1) ho,hd,r⟩,hv⟩
  ·exact .inr ⟨hl,b,ha,⟨o,nd _ _ (hO hd) ho,hd⟩⟩
 refine⟨⟨p.room,p.fn,p.gl,p.bl,λb o e1=>(hs.2 b λh=>by subst h;rw[q9]at e1;cases e1).trans (p.top b o e1),λb e1=>p.hK b (back b e1),λb e1=>p.hC b (back b e1),
  λy hy=>let⟨b,v,h1,⟨o,ho,hd⟩⟩:=p.cell y hy;⟨b,v,h1,⟨o,nd _ _ (hO hd) ho,hd⟩⟩,p.apart,p.nodup,let⟨m,⟨o,es,ep,ho,hd,r⟩⟩:=p.loc;⟨m,⟨o,es,ep,nd _ _ (bP hd r.1) ho,hd,r⟩⟩,p.hL,p.dS,?_,?_,p.eC⟩,
  ⟨λb o hd e1 h1=>⟨(hs.2 b λh=>by subst h;exact h1 x hx).trans e1,λk=>k⟩,λb o hd e1 _ _=>nd b o hd e1,λb o e1=>?_,λy b o hy _=>⟨y,hy⟩,λ_ _ _ k=>k⟩⟩
 ·intro y d zX h1 h2 h3 h4
  have hy:y≠x:=λh=>by subst h;rw[hx]at h4;cases h4
  simp only[upd,hy,if_false]at h1
  refine bK (p.var y d zX h1 h2 h3 h4) λv r1 r2 r3=>?_
  exact⟨v,nm r1,r2.du kK r3,r3.du kK⟩
 ·intro y b hy
  by_cases I7:y=x
  ·subst I7
   rw[hx]at hy;cases hy
   exact⟨name,l',fi,e',q0,q1,q2,by simp[upd],nm q4,ho,hr.dat λb o z hd e=>⟨kK b o z.1 hd e,z⟩,hl,q8,q9,Rv⟩
  ·refine oq (p.cO y b hy) λNd l2 UZ e2 r=>?_
   have Zo:b≠a:=λh=>I7 (p.eC y x b hy (h▸hx))
   exact⟨Nd,l2,UZ,e2,r.lv,r.nt,r.sees,by unfold upd;rw[if_neg I7];exact r.val,nm r.named,(hs.2 b Zo).trans r.obj,r.rep.dat λb o z hd e=>⟨kK b o z.1 hd e,z⟩,r.lim,r.nK,r.nT,r.out⟩
 ·by_cases hb:b=a
  ·subst hb;exact⟨_,ho⟩
  ·exact⟨o,(hs.2 b hb).trans e1⟩
theorem bq.same{σ:ah}{own:Nat→Option Addr}(oo:bq c σ own){x:Nat}{d d':D}(hx:σ x=some d):bq c (Mine.Internal.upd σ x d') own:=λy=>by
 by_cases hy:y=x
 ·subst hy;rw[oo y,hx];simp[Mine.Internal.upd]
 ·rw[oo y];simp[Mine.Internal.upd,hy]
theorem DC{σ:ah}{own:Nat→Option Addr}(oo:bq c σ own){x:Nat}{d:D}(hw:c.ow x≠0)(hx:σ x=some d): ∃a,own x=some a:=by
 have:=oo x
 rw[hx]at this
 have hb:(c.ow x != 0)=true:=by simpa using hw
 rw[hb]at this
 exact Option.isSome_iff_exists.mp this
end
end Mine.Internal
end
section
open PySem PyProof.Rows
namespace Mine.Internal
section
variable{c:Cx}{sc:Scope}{asg:Str→Bool}
theorem Aj{A:Around}{env:Env}{s:Shared}{σ:ah}{K C:Addr→Prop}{own:Nat→Option Addr}(p:Act c A env s σ K C asg own){x:Nat}{n:Str}{a:Addr}{l:List D}(hx:own x=some a)(hn:c.nt[x]? =some n)(hσ:σ x=some (.list l)):
  cE env s.heap n (.ref a)∧ ∃vs e,s.heap.get? a=some (seqObj "list" vs e)∧aF (λb=>K b∧C b) s.heap l vs.toList∧l.length≤bW:=by
 obtain⟨name,l',vs,e,q0,q1,q2,q3,q4,q5,q6,q7,q8,q9,Rv⟩:=p.cO x a hx
 replace q1:=hn▸q1
 obtain rfl:=Option.some.inj q1
 replace q3:=hσ▸q3
 cases q3
 exact⟨q4,vs,e,q5,q6,q7⟩
noncomputable def Hc(x:Expr)(name:Str)(apos pos:Pos)(xs:List Expr):Prop:=
 ∀env,∃pl,eval (.Call (.Attribute x name apos) xs [] pos) env=(do
   let ov←eval x env
   standAt apos.atName
   let(f,first)←holding [ov] (getMethod ov name pl)
   callWith pos f first (backTo pos (starEach xs env)) [])
end
end Mine.Internal
end
section
open PySem PyProof.Rows
namespace Mine.Internal
section
variable{c:Cx}{sc:Scope}{asg:Str→Bool}
theorem Hd{xs:List Nat}{e:ME}{v:Expr}{elts:List Expr}{k:Nat}{He pos:Pos}(hn:dF c asg xs elts)(DB:xs.all (c.ow · ==0)=true)(xZ:ay c sc e v)(h0:gG c e=0)
  (C6: ∀env:Env,env.scope=sc→swapsWithSole [.Tuple elts k He] v pos.line env=pure false) (C7: ∀env:Env,env.scope=sc→swappedStores [.Tuple elts k He] v env=pure none):dI c sc asg (.MT xs e) (.Assign [.Tuple elts k He] v pos):=by
 intro A env s σ K C own out Q E he p oo hr hP
 have rn: ∃l σ',(ar c.Φ e).v σ=some (.tup l)∧bb xs l σ=some σ'∧out= .nx σ':=by
  refine ai (aK hr) λd hd h=>?_
  refine ai (aK h) λl hl h=>?_
  refine ai (omap h) λσ' h1 h2=>?_
  rw[zz hl]at hd
  exact⟨l,σ',hd,h1,h2.symm⟩
 refine b8 rn λl σ' hd hb Nf=>?_
 subst Nf
 refine Assign_Tuple (xZ A env s σ _ _ _ E he p.pre hd λw h1 t1 x1 r1 _=>?_) (C6 env he) (C7 env he)
 rw[h0]at r1
 have p1:=p.next (tk:=t1) x1
 refine uI (t:= .many xs) (n:=0) (.many hn) p1 (show eA (.many xs) (.tup l) σ=some σ' from hb) r1 (aZ.mono r1 λ_ _ z=>z.1) rfl λh' tk a sf=>?_
 have a':Act c A env {s with heap:=h',toks:=tk} σ' K C asg (fI own xs):=a
 rw[nr oo DB]at a'
 exact hP h' tk K own a' (oo.many DB λy hy=>eD hb y hy) ((jQ.ext x1).trans (.soft sf λ_ _ e=> .inl e))
end
end Mine.Internal
end
section
open PySem PyProof.Rows
namespace Mine.Internal
section
variable{c:Cx}{sc:Scope}{asg:Str→Bool}
end
end Mine.Internal
end
section
open PySem PyProof.Rows
namespace Mine.Internal
theorem lA{kd:Str→Option NameKind}{x:Str}: ∀(b:List (Str×Value)) (m:Str→Option Value),x ∉ b.map (·.1)→bindL kd b m x=m x
 | [],m,_=>rfl
 |(n,v)::r,m,h=>by
  rw[List.map_cons,List.mem_cons,not_or]at h
  unfold bindL
  rw[lA r _ h.2]
  split
  ·dsimp only;rw[if_neg h.1]
  ·rfl
theorem fK{kd:Str→Option NameKind}{x:Str}{v:Value}: ∀(b:List (Str×Value)) (m:Str→Option Value),(b.map (·.1)).Nodup→(x,v)∈b→kd x=some .local→bindL kd b m x=some v
 |(n,u)::r,m,hn,h,hk=>by
  rw[List.map_cons,List.nodup_cons]at hn
  unfold bindL
  rcases List.mem_cons.mp h with e|e
  ·cases e
   rw[lA r _ hn.1,if_pos hk];simp
  ·exact fK r _ hn.2 e hk
theorem lB{kd:Str→Option NameKind}{x:Str}: ∀(b:List (Str×Value)) (m:Str→Option Value),x ∉ b.map (·.1)→bindC kd b m x=m x
 | [],m,_=>rfl
 |(n,v)::r,m,h=>by
  simp only[List.map_cons,List.mem_cons,not_or]at h
  unfold bindC
  rw[lB r _ h.2]
  split
  ·rfl
  ·dsimp only;rw[if_neg h.1]
theorem iP{kd:Str→Option NameKind}{x:Str}{v:Value}: ∀(b:List (Str×Value)) (m:Str→Option Value),(b.map (·.1)).Nodup→(x,v)∈b→kd x≠some .local→bindC kd b m x=some v
 |(n,u)::r,m,hn,h,hk=>by
  rw[List.map_cons,List.nodup_cons]at hn
  unfold bindC
  rcases List.mem_cons.mp h with e|e
  ·cases e
   rw[lB r _ hn.1,if_neg hk];simp
  ·exact iP r _ hn.2 e hk
structure Fn where
 name:Str
 params:Arguments
 body:List Stmt
 scope:Scope
 ps:List Str
noncomputable def bU(f:Fn):Bool:=
 f.scope.kind== .function&& !f.scope.isCoroutine&& !f.scope.isGenerator&&decide ((f.scope.names.map (·.1)).Nodup)&&decide f.ps.Nodup&&
  (f.scope.names.all λx=> !(x.2== .free))&&f.ps.all λn=>f.scope.names.lookup n==some .local||f.scope.names.lookup n==some .cell
section
variable{c:Cx}
theorem kF{f:Fn}{A:Around}{s s₁:Shared}{a:Addr}{fd:FuncData}{Z K:Addr→Prop}{vals:List Value}{σ:ah}(gH:fd.scope=f.scope)(sV:fd.globals=mainGlobals)(Uz:fd.builtins=builtinsNs)(hf:bU f=true)(hlen:vals.length=f.ps.length)(cm:jo (c.k+1) A)(Ng:c.nt.Nodup)(jt:Ext c.hT s.heap)(hZ: ∀a,s.heap.get? a=none→Z a)(hK: ∀a,s.heap.get? a=none→K a)
  (x:InCallC s (callEnvC fd s.heap.objs.size a).locals (bindL (callEnvC fd s.heap.objs.size a).kindOf (f.ps.zip vals) λ_=>none)
   (callEnvC fd s.heap.objs.size a).cells (bindC (callEnvC fd s.heap.objs.size a).kindOf (f.ps.zip vals) λ_=>none) s₁)
  (U0: ∀i d n,σ i=some d→c.nt[i]? =some n→ ∃v,(n,v)∈f.ps.zip vals∧aw (λa=>K a∧Z a) s.heap (c.lv i) d v∧aZ K s.heap d v):
  Act c (A.deeper (callEnvC fd s.heap.objs.size a)) (callEnvC fd s.heap.objs.size a) s₁ σ K Z (aW f.scope) noOwn:=by
 simp only[bU,Bool.and_eq_true,beq_iff_eq,Bool.not_eq_true',decide_eq_true_eq]at hf
 refine aX hf λNh h5=>?_
 obtain⟨⟨⟨⟨⟨h1,_⟩,_⟩,h2⟩,h3⟩,h4⟩:=Nh
 have h4:=List.all_eq_true.mp h4
 generalize Ak:callEnvC fd s.heap.objs.size a=env at x ⊢
 have e1:env.scope=f.scope:=by rw[←Ak,←gH];rfl
 have e2:env.locals=s.heap.objs.size:=by rw[←Ak];rfl
 have e3:env.cells=cellsFrom (s.heap.objs.size+1) f.scope.names []:=by rw[←Ak,←gH];rfl
 have hk: ∀n,env.kindOf n=f.scope.names.lookup n:=λn=>by unfold Env.kindOf;rw[e1]
 have hx:Ext s.heap s₁.heap:=x.toInCall.keep
 have Al: ∀n,env.kindOf n≠some .free:=λn e=>by
  rw[hk]at e
  have:=h4 _ (mem_of_lookup e)
  simp at this
 have gj: ∀n,env.kindOf n=some .cell→ ∃b,env.cells.lookup n=some b∧s₁.heap.IsCell b (bindC env.kindOf (f.ps.zip vals) (λ_=>none) n)∧s.heap.get? b=none:=λn e=>by
  rw[hk]at e
  refine ai (cL f.scope.names (s.heap.objs.size+1) [] (mem_of_lookup e)) λb q1 q2=>?_
  rw[←e3]at q1
  exact⟨b,q1,x.cell n b q1,gone (Nat.le_trans (Nat.le_succ _) q2)⟩
 have Am:((f.ps.zip vals).map (·.1)).Nodup:=by
  rw[List.map_fst_zip (Nat.le_of_eq hlen.symm)]
  exact h3
 refine⟨⟨cm.handled,?_,?_⟩,by rw[e1];exact h1,by rw[←Ak];exact sV,by rw[←Ak];exact Uz,jt.trans hx,λb e=>hK b (aE hx e),λb e=>hZ b (aE hx e),λn hn=>?_,λn m b q1 q2=>?_,Ng,⟨_,x.toInCall.ns⟩,?_,λn hn=>?_,λi d n q1 q2 q3 _=>?_,λ_ _ h=>(by cases h),λ_ _ _ h=>(by cases h)⟩
 ·show A.depth+1+c.k<recursionLimit
  exact Si cm.depth
 ·show A.units+3+10*c.k+20<cLine
  exact WQ cm.units
 ·rcases hn with hn|hn
  ·refine bK (gj n hn) λb q1 q2 _=>?_
   exact⟨b,_,q1,q2⟩
  ·exact absurd hn (Al n)
 ·exact name_of_addr x.apart (mem_of_lookup q1) (mem_of_lookup q2)
 ·rw[e2];exact aE jt (gone (Nat.le_refl _))
 ·simp only[aW,Bool.or_eq_true,beq_iff_eq]at hn
  rcases hn with hn|hn
  ·exact .inl ((hk n).trans hn)
  ·refine bK (gj n ((hk n).trans hn)) λb q1 _ q2=>?_
   exact .inr ⟨(hk n).trans hn,b,q1,aE jt q2⟩
 ·refine bK (U0 i d n q1 q2) λv r1 r2 r3=>?_
  refine⟨v,?_,r2.ext hx,r3.ext hx⟩
  rcases q3 with q3|q3|q3
  ·exact .inl ⟨q3,_,x.toInCall.ns,fK _ _ Am r1 q3⟩
  ·refine bK (gj n q3) λb w1 w2 _=>?_
   rw[iP _ _ Am r1 (by rw[q3];decide)]at w2
   exact .inr ⟨.inl q3,b,w1,w2⟩
  ·exact absurd q3 (Al n)
end
end Mine.Internal
end
section
open PySem PyProof.Rows
namespace Mine.Internal
noncomputable def eF(Φ:Nat→List D→Option D)(m:MS)(xs:List Nat)(ds:List D):Option D:=
 (bb xs ds λ_=>none).bind λσ=>(run Φ m σ).bind λo=>match o with
  | .rt d=>some d
  |_=>none
theorem ec: ∀{xs:List Nat} {ds:List D} {σ σ':ah} {i:Nat} {d:D},bb xs ds σ=some σ'→σ' i=some d→σ i=some d∨ ∃k:Nat,xs[k]? =some i∧ds[k]? =some d
 | [],[],σ,σ',i,d,h,e=>by cases h;exact .inl e
 |x::xs,y::ds,σ,σ',i,d,h,e=>by
  rcases ec (show bb xs ds (upd σ x y)=some σ' from h) e with h1|⟨k,h1,h2⟩
  ·simp only[upd]at h1
   split at h1
   ·rename_i hi;cases h1;exact .inr ⟨0,by simp[hi],rfl⟩
   ·exact .inl h1
  ·exact .inr ⟨k+1,by simpa using h1,by simpa using h2⟩
 | [],_::_,_,_,_,_,h,_=>by cases h
 |_::_,[],_,_,_,_,h,_=>by cases h
theorem dQ.get{Z:Addr→Prop}{h:Heap}: ∀{ns:List Nat} {ds:List D} {vs:List Value} {k:Nat} {d:D},dQ Z h ns ds vs→ds[k]? =some d→ ∃n v,ns[k]? =some n∧vs[k]? =some v∧aw Z h n d v
 |_,_,_,k,d,.nil,e=>by simp at e
 |_,_,_,0,d,.cons r rs,e=>by simp at e;subst e;exact⟨_,_,rfl,rfl,r⟩
 |_,_,_,k+1,d,.cons r rs,e=>by
  rw[List.getElem?_cons_succ]at e
  refine b8 (rs.get e) λn v h1 h2 h3=>?_
  exact⟨n,v,by simpa using h1,by simpa using h2,h3⟩
theorem dQ.length{Z:Addr→Prop}{h:Heap}: ∀{ns:List Nat} {ds:List D} {vs:List Value},dQ Z h ns ds vs→vs.length=ns.length
 |_,_,_,.nil=>rfl
 |_,_,_,.cons _ rs=>by simp[rs.length]
noncomputable def FnAt(f:Fn)(a:Addr)(h:Heap):Prop:= ∃o pm cd doc,h.get? a=some o∧o.data= .func (Calls.docDef f.name f.params f.body f.scope pm cd doc)∧h.CodeRec cd f.name
noncomputable def dX(f:Fn):Prop:= ∀pm cd doc vals,vals.length=f.ps.length→bindArgs (Calls.docDef f.name f.params f.body f.scope pm cd doc) ⟨vals,[]⟩=pure (f.ps.zip vals)
section
variable{c:Cx}
theorem An{f:Fn}{A:Around}{s:Shared}{a:Addr}{vs:List Value}{Q:Value→Shared→Prop}{E:Value→Shared→Prop}(hf:bU f=true)(cn:dX f)(cm:jo (c.k+1) A)(cf:s.heap.NoLimit)(gg:FnAt f a s.heap)(hlen:vs.length=f.ps.length)
  (h: ∀pm cd doc s₁,InCallC s (callEnvC (Calls.docDef f.name f.params f.body f.scope pm cd doc) s.heap.objs.size a).locals (bindL (callEnvC (Calls.docDef f.name f.params f.body f.scope pm cd doc) s.heap.objs.size a).kindOf (f.ps.zip vs) λ_=>none)
   (callEnvC (Calls.docDef f.name f.params f.body f.scope pm cd doc) s.heap.objs.size a).cells (bindC (callEnvC (Calls.docDef f.name f.params f.body f.scope pm cd doc) s.heap.objs.size a).kindOf (f.ps.zip vs) λ_=>none) s₁→
   wpAny (model c.prog c.w) (A.deeper (callEnvC (Calls.docDef f.name f.params f.body f.scope pm cd doc) s.heap.objs.size a)) (execs f.body (callEnvC (Calls.docDef f.name f.params f.body f.scope pm cd doc) s.heap.objs.size a)) (λfl s'=> ∃v,fl= .ret v∧Q v s') (λ_ _=>False) s₁):
  wpAny (model c.prog c.w) A (call (.ref a) vs) Q E s:=by
 refine eh gg λo pm cd doc ho hd CL=>?_
 have oE:=hf
 simp only[bU,Bool.and_eq_true,beq_iff_eq,Bool.not_eq_true',decide_eq_true_eq]at oE
 refine aX oE λNi h5=>?_
 obtain⟨⟨⟨⟨⟨h1,Aa⟩,qA⟩,h2⟩,h3⟩,h4⟩:=Ni
 refine wpAny_call (codeAny_call_cells (fd:=Calls.docDef f.name f.params f.body f.scope pm cd doc) (body:=f.body) (fu cm.depth) ho hd cf CL rfl (cn pm cd doc vs hlen) rfl (λx hx=>?_) (λs₁ hx=>?_) Aa qA h1)
 ·have hm:x.1∈f.ps:=(List.of_mem_zip (show(x.1,x.2)∈f.ps.zip vs from hx)).1
  have:=List.all_eq_true.mp h5 x.1 hm
  simp only[Bool.or_eq_true,beq_iff_eq]at this
  rcases this with h|h
  ·exact .inl h
  ·refine ai (cL f.scope.names (s.heap.objs.size+1) [] (mem_of_lookup h)) λb q1 _=>?_
   exact .inr ⟨h,by rw[show(Calls.docDef f.name f.params f.body f.scope pm cd doc).scope=f.scope from rfl,q1];rfl⟩
 ·exact wpAny_mono (h pm cd doc s₁ hx) (λfl s' ⟨v,e,q⟩=>by subst e;exact q) λ_ _ x=>x.elim
theorem DD{f:Fn}{m:MS}{xs:List Nat}(hf:bU f=true)(cn:dX f)(Ng:c.nt.Nodup)(Nj:xs.map (λx=>c.nt[x]?)=f.ps.map some)(hw:xs.all (c.ow · ==0)=true)(hb:bV c f.scope (aW f.scope) m f.body)
  {A:Around} {s:Shared} {Z:Addr→Prop} {a:Addr} {ds:List D} {vs:List Value} {r:D} {Q:Value→Shared→Prop} {E:Value→Shared→Prop} (cm:jo (c.k+1) A) (jt:Ext c.hT s.heap) (cf:s.heap.NoLimit) (gg:FnAt f a s.heap) (hr:dQ Z s.heap (xs.map c.lv) ds vs)
  (hZ: ∀a,s.heap.get? a=none→Z a) (hd:eF c.Φ m xs ds=some r) (hQ: ∀v h' tk,Ext s.heap h'→aZ Z h' r v→(c.fr=true→ja Z s.heap h' r v)→Q v {s with heap:=h',toks:=tk}):wpAny (model c.prog c.w) A (call (.ref a) vs) Q E s:=by
 have tZ:xs.length=f.ps.length:=by have:=congrArg List.length Nj;simpa using this
 have hlen:vs.length=f.ps.length:=by rw[hr.length,List.length_map,tZ]
 refine ai (Option.bind_eq_some_iff.mp hd) λσ hσ hd=>?_
 refine ai (Option.bind_eq_some_iff.mp hd) λout ho hd=>?_
 cases out with
 |nx _=>cases hd
 |rt d=>
  cases hd
  refine An hf cn cm cf gg hlen λpm cd doc s₁ x=>?_
  have act:=kF (c:=c) (σ:=σ) (K:=λ_=>True) (Z:=Z) rfl rfl rfl hf hlen cm Ng jt hZ (λ_ _=>trivial) x λi d n h1 h2=>by
   rcases ec hσ h1 with h3|⟨k,h3,h4⟩
   ·cases h3
   ·refine b8 (hr.get h4) λlv v q1 q2 q3=>?_
    rw[List.getElem?_map,h3]at q1
    cases q1
    refine⟨v,?_,q3.mE λ_ _ _ z=>⟨trivial,z⟩,q3.all⟩
    have hk:(f.ps)[k]? =some n:=by
     have:=congrArg (λl=>l[k]?) Nj
     simp only[List.getElem?_map,h3,Option.map_some,h2]at this
     cases hp:f.ps[k]? with
     |none=>rw[hp]at this;cases this
     |some n'=>rw[hp]at this;cases this;rfl
    have hz:(f.ps.zip vs)[k]? =some (n,v):=by rw[List.getElem?_zip_eq_some];exact⟨hk,q2⟩
    exact List.mem_of_getElem? hz
  have oo:bq c σ noOwn:=λy=>by
   cases hy:σ y with
   |none=>simp[noOwn]
   |some d'=>
    rcases ec hσ hy with h3|⟨k,h3,_⟩
    ·cases h3
    ·have:=List.all_eq_true.mp hw y (List.mem_of_getElem? h3)
     simp only[beq_iff_eq]at this
     simp[noOwn,this]
  have C6: ∃h1 ua,s₁={s with heap:=h1,toks:=ua}:=x.toInCall.same
  refine cg C6 λh1 ua Nk=>?_
  subst Nk
  refine hb _ _ _ σ _ Z noOwn (.rt r) _ _ rfl act oo ho λv h' tk K' dB g r' f'=>⟨v,rfl,hQ v h' tk (λb o e=>?_) r' λq=>(f' q).back λb o e=>⟨o,x.toInCall.keep b o e⟩⟩
  have e1:=x.toInCall.keep b o e
  by_cases Nl:cQ o
  ·exact(g.dat b o Nl e1 λ_ h=>by cases h).1
  ·refine g.ma b o Nl e1 (λh=>?_) λn _ h=>?_
   ·have:=x.toInCall.fresh
    rw[←h]at this
    exact absurd (Heap.lt_size e) (Nat.not_lt.mpr this)
   ·have h2:=x.above n b (mem_of_lookup h)
    have h3:=x.toInCall.fresh
    have h4:=Heap.lt_size e
    exact absurd (Nat.lt_of_lt_of_le h4 (Nat.le_trans h3 (Nat.le_of_lt h2))) (Nat.lt_irrefl _)
end
end Mine.Internal
end
section
open PySem PyProof.Rows
namespace Mine.Internal
section
variable{prog:Program}{w:World}{A:Around}{E:Value→Shared→Prop}{s:Shared}{Z:Addr→Prop}{Q:Value→Shared→Prop}
end
end Mine.Internal
namespace Mine.Internal
section
variable{c:Cx}
theorem b9{d:D}{v:Value}{b:Addr}:given [d] [v] b↔(∃l,d= .lM l)∧v= .ref b:=by
 constructor
 ·rintro ⟨i,l,h1,h2⟩
  cases i with
  |zero=>simp at h1 h2;exact⟨⟨l,h1⟩,h2⟩
  |succ i=>simp at h1
 ·rintro ⟨⟨l,rfl⟩,rfl⟩
  exact⟨0,l,rfl,rfl⟩
end
end Mine.Internal
end
section
open PySem PyProof.Rows
namespace Mine.Internal
section
variable{c:Cx}
end
end Mine.Internal
end
section
open PySem PyProof.Rows
namespace Mine.Internal
structure Ent where
 f:Fn
 m:MS
 xs:List Nat
 nt:List Str
 lv:Nat→Nat
 ow:Nat→Nat
noncomputable def Ent.go(e:Ent)(Φ:Nat→List D→Option D)(ds:List D):Option D:=eF Φ e.m e.xs ds
noncomputable def Ent.pl(e:Ent):List Nat:=e.xs.map e.lv
noncomputable def qB:List Ent→Nat→List D→Option D
 | [],_,_=>none
 |e::es,i,ds=>if i=es.length then e.go (qB es) ds else qB es i ds
theorem sW: ∀(l:List Ent) (i:Nat) (ds:List D),l.length≤i→qB l i ds=none
 | [],_,_,_=>rfl
 |e::l,i,ds,hl=>by
  simp only[List.length_cons]at hl
  show(if i=l.length then _ else qB l i ds)=none
  rw[if_neg (by exact Nat.ne_of_gt ‹_›)]
  exact sW l i ds (by exact Nat.le_of_lt ‹_›)
noncomputable def Cx.of(base:Cx)(es:List Ent)(e:Ent):Cx:=
 {base with nt:=e.nt,lv:=e.lv,ow:=e.ow,Φ:=qB es,sD:=λi=>((es.reverse[i]?).map λe=>e.f.name).getD Str.empty,wi:=λi=>((es.reverse[i]?).map Ent.pl).getD [],Fl:=λ_=>false,k:=es.length,fr:=false}
noncomputable def eN(base:Cx)(f:Fn):Prop:= ∃a,base.mg f.name=some (.ref a)∧FnAt f a base.hT
structure lP(base:Cx):Prop where
 g:base.hT.Ns mainGlobals base.mg
 b:base.hT.Ns builtinsNs base.mb
 bn: ∀x v,base.bn x=some v→base.mg x=none∧base.mb x=some v
 lim:base.hT.NoLimit
theorem FnAt.keeps{f:Fn}{a:Addr}{h h':Heap}(x:FnAt f a h)(k:Ext h h'):FnAt f a h':=let⟨o,pm,cd,doc,h1,h2,h3⟩:=x;⟨o,pm,cd,doc,k _ _ h1,h2,h3.keeps k⟩
section
variable{base:Cx}
theorem uO(hb:lP base){e:Ent}(hn:e.nt.Nodup):(base.of [] e).Ok where
 g:=hb.g
 b:=hb.b
 bn:=hb.bn
 nodup:=hn
 calls f ds r h:=by cases h
 cons:=trivial
structure pF(base:Cx)(es:List Ent)(e:Ent):Prop where
 scope:bU e.f=true
 bind:dX e.f
 gl:eN base e.f
 ps:e.xs.map (λx=>e.nt[x]?)=e.f.ps.map some
 ow:e.xs.all (e.ow · ==0)=true
 body:bV (base.of es e) e.f.scope (aW e.f.scope) e.m e.f.body
theorem jR{k k':Nat}{A:Around}(h:jo k A)(hk:k'≤k):jo k' A:=⟨h.handled,Nat.lt_of_le_of_lt (Nat.add_le_add_left hk _) h.depth,WR h.units hk⟩
theorem DE(hb:lP base){es:List Ent}{e:Ent}(hn:e.nt.Nodup)(ok:(base.of es e).Ok)(eo:pF base es e){e':Ent}(U1:e'.nt.Nodup):(base.of (e::es) e').Ok where
 g:=hb.g
 b:=hb.b
 bn:=hb.bn
 nodup:=U1
 calls i ds r h:=by
  have h:(if i=es.length then e.go (qB es) ds else qB es i ds)=some r:=h
  by_cases hi:i=es.length
  ·rw[if_pos hi]at h
   have Ao:(e::es).reverse[i]? =some e:=by rw[List.reverse_cons,hi];simp
   have e1:(base.of (e::es) e').sD i=e.f.name:=by show(((e::es).reverse[i]?).map λe=>e.f.name).getD Str.empty=_;rw[Ao];rfl
   have e2:(base.of (e::es) e').wi i=e.pl:=by show(((e::es).reverse[i]?).map Ent.pl).getD []=_;rw[Ao];rfl
   refine ai eo.gl λa ha gg=>?_
   refine⟨a,by rw[e1];exact ha,?_,?_⟩
   ·refine eh gg λo pm cd doc h1 h2 _=>?_
    exact⟨o,_,h1,h2⟩
   ·intro A s Z vs Q E cm jt kD hZ zV hQ
    refine⟨?_,?_⟩
    ·refine eh gg λo pm cd doc h1 h2 _=>?_
     exact⟨o,_,jt _ _ h1,h2⟩
    ·rw[e2]at kD
     exact DD (c:=base.of es e) eo.scope eo.bind hn eo.ps eo.ow eo.body cm jt (hb.lim.keeps jt) (gg.keeps jt) kD hZ h λv h' tk hx hr hf=>hQ v h' tk (λb o _ e=>hx b o e) hr λMl=>nomatch Ml
  ·rw[if_neg hi]at h
   have cy:i<es.length:=by
    cases Nat.lt_or_ge i es.length with
    |inl h'=>exact h'
    |inr h'=>rw[sW es i ds h']at h;cases h
   have Ao:(e::es).reverse[i]? =es.reverse[i]? :=by rw[List.reverse_cons,List.getElem?_append_left (by simpa using cy)]
   have e1:(base.of (e::es) e').sD i=(base.of es e).sD i:=by
    show(((e::es).reverse[i]?).map λe=>e.f.name).getD Str.empty=((es.reverse[i]?).map λe=>e.f.name).getD Str.empty
    rw[Ao]
   have e2:(base.of (e::es) e').wi i=(base.of es e).wi i:=by
    show(((e::es).reverse[i]?).map Ent.pl).getD []=((es.reverse[i]?).map Ent.pl).getD []
    rw[Ao]
   refine bK (ok.calls i ds r h) λa h1 h2 h3=>?_
   refine⟨a,by rw[e1];exact h1,h2,λA s Z vs Q E cm jt kD hZ zV hQ=>?_⟩
   rw[e2]at kD
   exact h3 A s Z vs Q E (jR cm (Nat.le_succ _)) jt kD hZ zV hQ
 cons:=trivial
end
end Mine.Internal
end
section
open PySem PySem.W PyProof.Rows
set_option Elab.async false
namespace Mine.Internal
noncomputable def fnAt(p:Program)(i:Nat)(ps:List Str):Fn:=
 match p.main.body[i]? with
 |some (.FunctionDef name args body _ _ _ scope _ _ _)=>⟨name,args,body,scope,ps⟩
 |_=>⟨Str.empty,⟨[],[],none,[],[],none,[]⟩,[],⟨.module,[],false,false,[]⟩,ps⟩
noncomputable def cR(names:List Str)(x:Str):Option Value:=if names.contains x then bootBuiltins x else none
noncomputable abbrev gq(q:Program)(j:Nat)(f:Fn):Prop:=((recsOf q)[j]?).map (λd=>(d.name,d.params,d.body,d.scope))=some (f.name,f.params,f.body,f.scope)
inductive Chain(base:Cx):List Ent→Prop
 |nil:Chain base []
 |cons {e es}:e.nt.Nodup→((base.of es e).Ok→pF base es e)→Chain base es→Chain base (e::es)
theorem Aq{base:Cx}(hb:lP base){es:List Ent}(ch:Chain base es): ∀e:Ent,e.nt.Nodup→(base.of es e).Ok:=by
 induction ch with
 |nil=>exact λe hn=>uO hb hn
 | @cons e es hn he _ ih=>exact λe' U1=>DE hb hn (ih e hn) (he (ih e hn)) U1
end Mine.Internal
end
section
open PySem PySem.W PyProof.Rows
namespace Mine.Internal
theorem aT{n:Nat}(h:Nat.ble n 1=true):n≤1:=Nat.le_of_ble_eq_true h
theorem ge1{n:Nat}(h:Nat.ble 1 n=true):1≤n:=Nat.le_of_ble_eq_true h
theorem Zp{n:Nat}(h:Nat.beq n 0=false):n≠0:=λe=>by subst e;cases h
theorem sX{c:Cx}(h:c.Ok):c.fz.Ok:=⟨h.g,h.b,h.bn,h.nodup,h.calls,h.cons⟩
theorem eU{l:List Comprehension}(h:l.all (λg=>g.is_async==0)=true): ∀g∈l,g.is_async=0:=λg hg=>by simpa using List.all_eq_true.mp h g hg
theorem vals1{α:Type}{P:List α→Prop}(h: ∀a,P [a])(l:List α)(hl:l.length=1):P l:=by
 cases l with
 |nil=>cases hl
 |cons a l=>cases l with
  |nil=>exact h a
  |cons _ _=>cases hl
theorem vals2{α:Type}{P:List α→Prop}(h: ∀a b,P [a,b])(l:List α)(hl:l.length=2):P l:=by
 cases l with
 |nil=>cases hl
 |cons a l=>exact vals1 (P:=λl=>P (a::l)) (h a) l (Nat.succ.inj hl)
theorem bind1{f:Fn}(h1:f.ps.length=1)(h: ∀pm cd doc a,bindArgs (Calls.docDef f.name f.params f.body f.scope pm cd doc) ⟨[a],[]⟩=pure (f.ps.zip [a])):dX f:=
 λpm cd doc vals hl=>vals1 (P:=λvals=>bindArgs (Calls.docDef f.name f.params f.body f.scope pm cd doc) ⟨vals,[]⟩=pure (f.ps.zip vals)) (h pm cd doc) vals (hl.trans h1)
theorem wB{f:Fn}(h1:f.ps.length=2)(h: ∀pm cd doc a b,bindArgs (Calls.docDef f.name f.params f.body f.scope pm cd doc) ⟨[a,b],[]⟩=pure (f.ps.zip [a,b])):dX f:=
 λpm cd doc vals hl=>vals2 (P:=λvals=>bindArgs (Calls.docDef f.name f.params f.body f.scope pm cd doc) ⟨vals,[]⟩=pure (f.ps.zip vals)) (h pm cd doc) vals (hl.trans h1)
end Mine.Internal
end
section
open PySem PyProof.Rows
namespace Mine.Internal
noncomputable def cb(h:Heap)(I:Addr):Prop:= ∃o x,h.get? I=some o∧o.cls= .type "list_iterator"∧o.data= .fields #[.none,x]
theorem cb.ext{h h':Heap}{I:Addr}(x:cb h I)(k: ∀o,h.get? I=some o→h'.get? I=some o):cb h' I:=
 let⟨o,v,h1,h2,h3⟩:=x;⟨o,v,k o h1,h2,h3⟩
theorem cb.typeIs{s:Shared}{I:Addr}(x:cb s.heap I):s.TypeIs (.ref I) "list_iterator":=let⟨o,_,h1,h2,_⟩:=x;⟨o,h1,h2⟩
section
variable{prog:Program}{w:World}{A:Around}{E:Value→Shared→Prop}{s:Shared}{R:Result→Shared→Prop}
theorem pG{α:Type}{Q:α→Shared→Prop}(hh:A.handled=none)(h: ∀h' e,Ext s.heap h'→({s with heap:=h'}:Shared).TypeIs (.ref e) "StopIteration"→E (.ref e) {s with heap:=h'}):wpAny (model prog w) A (Builtin.SmallTypes.stopIteration:Sem α) Q E s:=by
 show wpAny _ _ (newExc (.type "StopIteration") [] >>= _) _ _ _
 refine wpAny_bind ?_
 dsimp only[newExc,newTuple]
 refine wpAny_bind (wpAny_newObj_type ?_ (by size_fits))
 refine wpAny_bind (m:=firstArgMember _ _) (wpAny_of_eq (a:=Value.none) (by first|rfl|(simp only[firstArgMember];rfl)) ?_)
 refine wpAny_newObj_type ?_ (by size_fits)
 dsimp only[raiseNew]
 refine wpAny_bind (wpAny_handled ?_)
 rw[hh]
 refine wpAny_bind (wpAny_pure (wpAny_throw (h _ _ ((Ext.push _ _).trans (Ext.push _ _)) ⟨_,Heap.get?_push_size _ rfl,rfl⟩)))
theorem Ar{it l:Addr}{i:Nat}{items:Array Value}{Q:Option Value→Shared→Prop}(hh:A.handled=none)(d7:s.heap.IsListIter it l i)(hl:s.heap.IsList l items)(hx:items[i]? =none)
  (hQ: ∀h',Heap.ExtBut it s.heap h'→cb h' it→Q none {s with heap:=h'}):wpAny (model prog w) A (pyNext (.ref it)) Q E s:=by
 refine aO λXq kq=>?_
 refine bK (id d7) λo ho hc hd=>?_
 obtain⟨ol,Zq,_,nl,MN⟩:=hl
 refine kq ?_
 unfold pyNext
 refine wpAny_bind (wpAny_attempt (wpAny_callSpecial?_slot (name:=Str.ofString "__next__") d7.typeIs slot_listiter_next
  (wpAny_call_entry slot_listiter_next d7.typeIs entry_listiter_next ?_ (args_listiter_next _))))
 show wpAny _ _ (field (.ref it) 0 >>= _) _ _ s
 refine wpAny_bind (wpAny_field ho hd (x:= .ref l) rfl ?_)
 show wpAny _ _ (if(Value.ref l==Value.none)=true then _ else _) _ _ s
 refine bw (show¬((Value.ref l==Value.none)=true)from Bool.false_ne_true) ?_
 show wpAny _ _ (field (.ref it) 1 >>= _) _ _ s
 refine wpAny_bind (wpAny_field ho hd (x:= .int i 0) rfl ?_)
 show wpAny _ _ (seqItems? (.ref l) >>= _) _ _ s
 refine wpAny_bind (wpAny_seqItems Zq MN ?_)
 simp only[Int.toNat_natCast,hx]
 refine wpAny_bind (wpAny_rule (wpAny_bind (wpAny_setField ho hd (by simp) ?_)))
 have sp:cb (s.heap.update it (Obj.mapFields (·.setIfInBounds 0 .none))) it:=
  ⟨_,.int i 0,Heap.get?_update_self _ ho (Obj.isFreed_of_fields (Obj.data_mapFields hd _)),(Obj.cls_mapFields ..).trans hc,by rw[Obj.data_mapFields hd];simp⟩
 refine pG hh λh' e x ht=>?_
 refine wpAny_bind (wpAny_isInstance (T:= "StopIteration") (b:=true) ht isSubtype_stop ?_)
 exact wpAny_pure (hQ _ (λb o hb e=>x b o ((Heap.SameBut.update ..).extBut b o hb e)) (sp.ext λo e=>x it o e))
theorem uP{I:Addr}{Q:Option Value→Shared→Prop}(hh:A.handled=none)(d7:cb s.heap I)(hQ: ∀h',Ext s.heap h'→Q none {s with heap:=h'}):wpAny (model prog w) A (pyNext (.ref I)) Q E s:=by
 refine aO λXq kq=>?_
 refine b8 (id d7) λo x ho hc hd=>?_
 refine kq ?_
 unfold pyNext
 refine wpAny_bind (wpAny_attempt (wpAny_callSpecial?_slot (name:=Str.ofString "__next__") d7.typeIs slot_listiter_next
  (wpAny_call_entry slot_listiter_next d7.typeIs entry_listiter_next ?_ (args_listiter_next _))))
 show wpAny _ _ (field (.ref I) 0 >>= _) _ _ s
 refine wpAny_bind (wpAny_field ho hd (x:= .none) rfl ?_)
 show wpAny _ _ (if(Value.none==Value.none)=true then _ else _) _ _ s
 refine dD (show(Value.none==Value.none)=true from rfl) ?_
 refine wpAny_bind (wpAny_rule (wpAny_bind (pG (A:=A.in1) hh λh' e x ht=>?_)))
 refine wpAny_bind (wpAny_isInstance (T:= "StopIteration") (b:=true) ht isSubtype_stop ?_)
 exact wpAny_pure (hQ _ x)
theorem uQ{I a:Addr}{items:Array Value}(hh:A.handled=none)(hn:items.size≤sizeLine)(S:Addr)(Nm:S≠I)(Zr:S≠a)(U2:a≠I)(res:Value):
  ∀(k i:Nat) (s:Shared) (acc:Array Value) (c:Nat),items.size-i=k→i≤items.size→s.heap.IsListIter I a i→s.heap.IsList a items→s.heap.get? S=some {cls:= .type "list",dict:=none,data:= .seq acc c,slots:= #[]}→acc=items.extract 0 i→
  (∀h' tk c',(∀b o,b≠S→b≠I→s.heap.get? b=some o→h'.get? b=some o)→cb h' I→h'.get? S=some {cls:= .type "list",dict:=none,data:= .seq items c',slots:= #[]}→R (.ok (.ret res)) {s with heap:=h',toks:=tk})→
  codeAny (model prog w) A (.builtin "list.extend.loop" ⟨[.ref S,.ref I,res],[]⟩) R s:=by
 intro k
 induction k with
 |zero=>
  intro i s acc c hk hi d7 hl hS DF hR
  have MW:i=items.size:=Nat.le_antisymm hi (Nat.le_of_sub_eq_zero hk)
  subst MW
  refine codeAny_builtin F.entry_extend_loop ?_
  rw[Around.under_plainId F.plain_extend_loop _]
  skip
  refine wpAny_bind (Ar hh d7 hl (by simp) λh' hx hs=>?_)
  refine wpAny_pure (hR h' s.toks c (λb o _ hb e=>hx b o hb e) hs ?_)
  rw[hx S _ Nm hS,DF]
  simp
 |succ k ih=>
  intro i s acc c hk hi d7 hl hS DF hR
  have cy:i<items.size:=Nat.lt_of_sub_pos (by rw[hk];exact Nat.succ_pos k)
  refine codeAny_builtin F.entry_extend_loop ?_
  rw[Around.under_plainId F.plain_extend_loop _]
  skip
  refine wpAny_bind (wpAny_pyNext_list_item d7 hl (x:=items[i]) (by simp[cy]) λh' uF hs=>?_)
  have Xx:h'.get? S=_:=(hs.2 S Nm).trans hS
  skip
  refine wpAny_bind ?_
  have jC:acc.size=i:=by rw[DF,Array.size_extract];exact Nat.min_eq_left hi
  have As: ∀b,b≠S→(h'.update S (Obj.mapSeq (·.push items[i]))).get? b=h'.get? b:=λb hb=>Heap.get?_update_other _ _ (Ne.symm hb)
  refine wpAny_updateSeq Xx rfl (wpAny_pure ⟨plainId_quiet F.plain_extend_loop _,ih (i+1) _ (acc.push items[i]) _ (lj hk) cy ?_ ?_ (Heap.get?_update_self _ Xx rfl) ?_ λdA tk c' U3 qo U4=>?_⟩)
   (by rw[jC];exact Nat.le_trans ‹_› ‹_›) (by show(acc.push items[i]).size≤sizeLine+1;rw[Array.size_push,jC];exact Nat.succ_le_succ (Nat.le_trans hi hn))
  ·refine ai uF λo ho r=>?_
   exact⟨o,(As I (Ne.symm Nm)).trans ho,r⟩
  ·refine ai hl λo ho r=>?_
   exact⟨o,(As a (Ne.symm Zr)).trans ((hs.2 a U2).trans ho),r⟩
  ·rw[DF]
   simp
  ·exact hR dA tk c' (λb o h1 h2 e=>U3 b o h1 h2 ((As b h1).trans ((hs.2 b h2).trans e))) qo U4
end
section
variable{prog:Program}{w:World}{A:Around}{E:Value→Shared→Prop}{s:Shared}
theorem pH{I S:Addr}{res:Value}{Q:PySem.Fin→Shared→Prop}(ht:s.TypeIs (.ref I) "list_iterator")(Nm:S≠I)(Nn: ∀(Q:Value→Shared→Prop) E,Q (.ref I) s→wpAny (model prog w) A (pyIter (.ref I)) Q E s)
  (hQ:Q (.again (.builtin "list.extend.loop" ⟨[.ref S,.ref I,res],[]⟩)) s):wpAny (model prog w) A (Builtin.List.listExtendWith (.ref S) (.ref I) res) Q E s:=by
 have h1:Builtin.List.listSameRef (.ref S) (.ref I)=false:=by simp[Builtin.List.listSameRef,Nm]
 unfold Builtin.List.listExtendWith
 refine wpAny_bind (wpAny_typeOf ht ?_)
 refine bw (by rw[h1];decide) ?_
 refine wpAny_bind (Nn _ _ ?_)
 refine wpAny_bind (wpAny_holding ?_)
 unfold Builtin.List.listLengthHint
 refine wpAny_bind (wpAny_specialOf ht F.nolen_li ?_)
 skip
 refine wpAny_bind (wpAny_specialOf ht F.hint_li ?_)
 (generalize U5:("list_iterator.__length_hint__":String)=Xy;(fail_if_success (clear U5 Xy));wp_delta;rw[show splitId Xy=some ("list_iterator","__length_hint__")from by subst U5;decide+kernel];subst U5)
 refine wpAny_bind (wpAny_isInstance (b:=true) ht (by rw[isSubtype_type];kernel_rfl) ?_)
 refine wpAny_pure ?_
 refine bw (by decide) ?_
 exact wpAny_pure hQ
theorem oF{I a:Addr}{items:Array Value}{Q:List Value→Shared→Prop}(hh:A.handled=none)(d7:s.heap.IsListIter I a 0)(hl:s.heap.IsList a items)(U2:a≠I)(hn:items.size≤sizeLine)
  (hQ: ∀h' tk,(∀b o,b≠I→s.heap.get? b=some o→h'.get? b=some o)→cb h' I→Q items.toList {s with heap:=h',toks:=tk}):wpAny (model prog w) A (collect (.ref I)) Q E s:=by
 have Gy:I<s.heap.objs.size:=oB d7
 have Sy:a<s.heap.objs.size:=o8 hl
 unfold collect
 refine wpAny_bind (wpAny_runValue (codeAny_builtin F.entry_proto_collect ?_))
 rw[Around.under_plainId F.plain_proto_collect _]
 skip
 refine wpAny_bind (wpAny_newObj_type ?_)
 refine wpAny_pure ⟨plainId_quiet F.plain_list_iadd _,codeAny_builtin F.entry_list_iadd ?_⟩
 rw[Around.under_plainId F.plain_list_iadd _]
 have x1:=Ext.push s.heap {cls:= .type "list",data:= .seq ([]:List Value).toArray}
 have Hg:(s.heap.push {cls:= .type "list",data:= .seq ([]:List Value).toArray}).IsListIter I a 0:=let⟨o,ho,r⟩:=d7;⟨o,x1 _ _ ho,r⟩
 have GB:(s.heap.push {cls:= .type "list",data:= .seq ([]:List Value).toArray}).IsList a items:=let⟨o,ho,r⟩:=hl;⟨o,x1 _ _ ho,r⟩
 skip
 refine pH Hg.typeIs (Nat.ne_of_gt Gy) (λQ E h=>wpAny_pyIter_listiter Hg h) ⟨plainId_quiet F.plain_extend_loop _,?_⟩
 refine uQ hh hn s.heap.objs.size (Nat.ne_of_gt Gy) (Nat.ne_of_gt Sy) U2 _ items.size 0 _ #[] 0 (by rfl) (Nat.zero_le _) Hg GB (Heap.get?_push_size _ rfl) (by simp) λh' tk c' hk hs hS=>?_
 skip
 refine wpAny_bind (wpAny_load hS ?_)
 exact wpAny_pure (hQ h' tk (λb o hb e=>hk b o (Nat.ne_of_lt (Heap.lt_size e)) hb (x1 b o e)) hs)
theorem uR{I:Addr}{Q:Value→Shared→Prop}(hh:A.handled=none)(d7:cb s.heap I)
  (hQ: ∀h' tk k,Ext s.heap h'→h'.get? s.heap.objs.size=some {cls:= .type "list",dict:=none,data:= .seq #[] k,slots:= #[]}→Q (.ref s.heap.objs.size) {s with heap:=h',toks:=tk}):wpAny (model prog w) A (call (.type "list") [.ref I]) Q E s:=by
 have Gy:I<s.heap.objs.size:=let⟨_,_,ho,_⟩:=d7;Heap.lt_size ho
 refine callType_codes (Q₁:=λobj s₁=>obj= .ref s.heap.objs.size∧s₁={s with heap:=s.heap.push {cls:= .type "list",data:= .seq #[]}}) F.called_list (F.typeCall_list_1 _) F.entry_list_init
  (code_list_new _ ⟨rfl,rfl⟩) λobj s₁ h₁=>?_
 obtain⟨rfl,rfl⟩:=h₁
 have x1:=Ext.push s.heap {cls:= .type "list",data:= .seq ([]:List Value).toArray}
 have hS:(s.heap.push {cls:= .type "list",data:= .seq #[]}).get? s.heap.objs.size=some {cls:= .type "list",data:= .seq #[]}:=Heap.get?_push_size _ rfl
 refine⟨⟨_,hS,rfl⟩,F.args_list_init_2 _ _,?_⟩
 show wpAny _ A.in1.in1 (do let old←Builtin.List.listItems (.ref s.heap.objs.size);Builtin.List.listUpdate (.ref s.heap.objs.size) (λ_=> #[]);letGo old.toList.reverse;Builtin.List.listExtendWith (.ref s.heap.objs.size) (.ref I) .none) _ _ _
 refine wpAny_bind ?_
 unfold Builtin.List.listItems
 refine wpAny_bind (wpAny_seqItems hS rfl (wpAny_pure ?_))
 skip
 refine wpAny_bind (wpAny_updateSeq hS rfl ?_)
 have hS₂:=Heap.get?_update_self (Obj.mapSeq (λ_=>(#[]:Array Value))) hS rfl
 have As: ∀b o,b≠s.heap.objs.size→s.heap.get? b=some o→((s.heap.push {cls:= .type "list",data:= .seq #[]}).update s.heap.objs.size (Obj.mapSeq (λ_=>(#[]:Array Value)))).get? b=some o:=
  λb o hb e=>(Heap.get?_update_other _ _ (Ne.symm hb)).trans (x1 b o e)
 refine wpAny_bind (wpAny_letGo ?_)
 have sp:cb ((s.heap.push {cls:= .type "list",data:= .seq #[]}).update s.heap.objs.size (Obj.mapSeq (λ_=>(#[]:Array Value)))) I:=d7.ext λo e=>As I o (Nat.ne_of_lt Gy) e
 refine pH sp.typeIs (Nat.ne_of_gt Gy) (λQ E h=>?_) ⟨plainId_quiet F.plain_extend_loop _,codeAny_builtin F.entry_extend_loop ?_⟩
 ·refine wpAny_pyIter_slot sp.typeIs slot_listiter_iter (wpAny_call_entry slot_listiter_iter sp.typeIs entry_listiter_iter ?_ (args_listiter_iter _))
  skip
  exact wpAny_pure ⟨_,rfl,"list_iterator",_,sp.typeIs,slot_listiter_next.lookup,h⟩
 ·rw[Around.under_plainId F.plain_extend_loop _]
  skip
  refine wpAny_bind (uP hh sp λh' hx=>?_)
  exact wpAny_pure ⟨rfl,hQ h' _ _ (λb o e=>hx b o (As b o (Nat.ne_of_lt (Heap.lt_size e)) e)) (hx _ _ hS₂)⟩
end
open Classical in
noncomputable def mask(h:Heap)(p:Addr→Prop):Heap:=⟨h.objs.mapIdx λi o=>if p i then o else{o with data:= .freed},h.life⟩
theorem dv{h:Heap}{p:Addr→Prop}{b:Addr}(hb:p b):(mask h p).get? b=h.get? b:=by
 unfold mask Heap.get?
 simp only[Array.getElem?_mapIdx]
 cases h.objs[b]? with
 |none=>rfl
 |some o=>simp only[Option.map_some,if_pos hb]
theorem cW{h:Heap}{p:Addr→Prop}{b:Addr}(hb: ¬p b):(mask h p).get? b=none:=by
 unfold mask Heap.get?
 simp only[Array.getElem?_mapIdx]
 cases h.objs[b]? with
 |none=>rfl
 |some o=>simp only[Option.map_some,if_neg hb]
theorem eV{h:Heap}{p:Addr→Prop}{b:Addr}{o:Obj}(e:(mask h p).get? b=some o):p b∧h.get? b=some o:=by
 by_cases hb:p b
 ·exact⟨hb,by rw[←dv hb];exact e⟩
 ·rw[cW hb]at e;cases e
end Mine.Internal
end
section
open PySem PyProof.Rows
namespace Mine.Internal
noncomputable def ju(M:Model)(A:Around)(E:Value→Shared→Prop){α:Type}(m:StateT SortSt Sem α)(Q:α→SortSt→Shared→Prop)(st:SortSt)(s:Shared):Prop:=wpAny M A (m.run st) (λr s'=>Q r.1 r.2 s') E s
section
variable{M:Model}{A:Around}{E:Value→Shared→Prop}{s:Shared}{st:SortSt}{α β:Type}
theorem aH{a:α}{Q:α→SortSt→Shared→Prop}(h:Q a st s):ju M A E (pure a) Q st s:=by
 unfold ju;rw[StateT.run_pure];exact wpAny_pure h
theorem aI{m:StateT SortSt Sem α}{f:α→StateT SortSt Sem β}{Q:β→SortSt→Shared→Prop}(h:ju M A E m (λa aU s'=>ju M A E (f a) Q aU s') st s):ju M A E (m >>= f) Q st s:=by
 unfold ju at h ⊢;rw[StateT.run_bind]
 exact wpAny_bind (wpAny_mono h (λ_ _ h'=>h') λ_ _ e=>e)
theorem eG{m:StateT SortSt Sem α}{Q Q':α→SortSt→Shared→Prop}(h:ju M A E m Q st s)(hq: ∀a aU s',Q a aU s'→Q' a aU s'):ju M A E m Q' st s:=wpAny_mono h (λ_ _ h'=>hq _ _ _ h') λ_ _ e=>e
theorem fX{m:StateT SortSt Sem α}{Q:α→SortSt→Shared→Prop}(h:wpS M A E s m (λa aU=>Q a aU s) st):ju M A E m Q st s:=wpAny_mono h (λ_ _ ⟨e,q⟩=>by subst e;exact q) λ_ _ e=>e
theorem eW{c:Prop} [Decidable c]{t e:StateT SortSt Sem α}{Q:α→SortSt→Shared→Prop}(h1:c→ju M A E t Q st s)(h2: ¬c→ju M A E e Q st s):ju M A E (if c then t else e) Q st s:=by
 split
 ·exact h1 ‹_›
 ·exact h2 ‹_›
theorem DG{q:Prop} [Decidable q]{t e:StateT SortSt Sem α}{Q:α→SortSt→Shared→Prop}{X:SortSt→Prop}(tl: ∀cw,X cw→ju M A E e Q cw s)(h:q→(∀cw,X cw→ju M A E e Q cw s)→ju M A E t Q st s)(h': ¬q→X st):ju M A E (if q then t else e) Q st s:=
 eW (λhq=>h hq tl) λhq=>tl _ (h' hq)
theorem eg{a b:Nat}{f:Nat→β→StateT SortSt Sem (ForInStep β)}(I:Nat→β→SortSt→Shared→Prop){Q:β→SortSt→Shared→Prop}
  (Np: ∀i c st s,a≤i→i<b→I i c st s→ju M A E (f i c) (λr aU s'=>match r with| .done c'=>Q c' aU s'| .yield c'=>I (i+1) c' aU s') st s)
  (U6: ∀c st s,I (max a b) c st s→Q c st s) {c:β} (h:I a c st s):ju M A E (forIn [a:b] c f) Q st s:=by
 rw[Std.Legacy.Range.forIn_eq_forIn_range']
 have jC:([a:b]:Std.Legacy.Range).size=b-a:=by simp[Std.Legacy.Range.size]
 show ju M A E (forIn (List.range' a ([a:b]:Std.Legacy.Range).size 1) c f) Q st s
 rw[jC]
 have key: ∀n a' c' aU s',a≤a'→a'+n=max a b→I a' c' aU s'→ju M A E (forIn (List.range' a' n 1) c' f) Q aU s':=by
  intro n
  induction n with
  |zero=>intro a' c' aU s' _ h2 h3;rw[List.range'_zero,List.forIn_nil];exact aH (U6 _ _ _ (by rw[←h2];exact h3))
  |succ n ih=>
   intro a' c' aU s' h1 h2 h3
   rw[List.range'_succ,List.forIn_cons]
   refine aI (eG (Np a' c' aU s' h1 (Gi h1 h2) h3) λr ee s2 h'=>?_)
   cases r with
   |done b'=>exact aH h'
   |yield b'=>exact ih _ _ _ _ (Nat.le_succ_of_le h1) (mu h2) h'
 exact key _ a c st s (Nat.le_refl _) CV h
end
structure lQ(P:Keyed→Prop)(l0:List Keyed)(h:Nat):Prop where
 hh:h<l0.length
 two:2≤l0.length
 bad: ∀x,l0[h]? =some x→ ¬P x
 ok: ∀i x,i≠h→l0[i]? =some x→P x
structure kH(prog:Program)(w:World)(A:Around)(s:Shared)(P:Keyed→Prop)(kd:SortKind)(l0:List Keyed)(F:SortSt→Shared→Prop):Prop where
 lt: ∀(E:Value→Shared→Prop) (x y:Keyed) (st:SortSt) (Q:Option Bool→SortSt→Shared→Prop),x∈l0→y∈l0→kindOf st=kd→(P x∨P y)→(P x→P y→ ∀b,Q (some b) st s)→((¬P x∨ ¬P y)→ ∀aU s',arrOf aU=arrOf st→F aU s'→Q none aU s')→ju (model prog w) A E (lt' x y) Q st s
inductive kJ(P:Keyed→Prop)(kd:SortKind)(l0:List Keyed)(h n:Nat)(st:SortSt):Prop
 |mk (pre:List Keyed) (hl:pre.length=n) (hp: ∀x∈pre,P x∧x∈l0) (ha:arrOf st=(pre++l0.drop n).toArray) (hk:kindOf st=kd) (hn:n≤h)
inductive Fz(F:SortSt→Shared→Prop)(N:Nat)(st:SortSt)(s:Shared):Prop
 |mk (hs:(arrOf st).size=N) (f:F st s)
section
variable{prog:Program}{w:World}{A:Around}{E:Value→Shared→Prop}{s:Shared}{P:Keyed→Prop}{kd:SortKind}{l0:List Keyed}{h n:Nat}{F:SortSt→Shared→Prop}{st:SortSt}
theorem lQ.get(m:lQ P l0 h){i:Nat}(hi:i<l0.length): ∃x,l0[i]? =some x∧x∈l0∧(i=h→ ¬P x)∧(i≠h→P x):=
 ⟨l0[i],List.getElem?_eq_getElem hi,List.getElem_mem _,λe=>m.bad _ (by rw[←e];exact List.getElem?_eq_getElem hi),λe=>m.ok i _ e (List.getElem?_eq_getElem hi)⟩
theorem kJ.at(x:kJ P kd l0 h n st)(m:lQ P l0 h){i:Nat}(hi:i<n): ∃y,(arrOf st)[i]? =some y∧y∈l0∧P y:=by
 induction x with|mk pre hl hp ha hk hn=>
 subst hl
 refine⟨pre[i],?_,(hp _ (List.getElem_mem _)).2,(hp _ (List.getElem_mem _)).1⟩
 rw[ha,List.getElem?_toArray,List.getElem?_append_left hi,List.getElem?_eq_getElem hi]
theorem kJ.next(x:kJ P kd l0 h n st)(m:lQ P l0 h): ∃y,(arrOf st)[n]? =some y∧y∈l0∧(n=h→ ¬P y)∧(n≠h→P y):=by
 induction x with|mk pre hl hp ha hk hn=>
 have hh:=m.hh
 refine aO λXq kq=>?_
 refine jD (m.get (i:=n) (by exact Nat.lt_of_le_of_lt ‹_› ‹_›)) λy h1 h2 h3 h4=>?_
 refine kq ?_
 refine⟨y,?_,h2,h3,h4⟩
 rw[ha,List.getElem?_toArray,List.getElem?_append_right (Nat.le_of_eq hl),hl,Nat.sub_self,List.getElem?_drop];exact h1
theorem kJ.size(x:kJ P kd l0 h n st)(m:lQ P l0 h):(arrOf st).size=l0.length:=by
 induction x with|mk pre hl hp ha hk hn=>
 have hh:=m.hh
 rw[ha,List.size_toArray,List.length_append,List.length_drop,hl];exact Nat.add_sub_of_le (Nat.le_of_lt (Nat.lt_of_le_of_lt hn hh))
theorem kJ.le(x:kJ P kd l0 h n st):n≤h:=by induction x with|mk pre hl hp ha hk hn=>exact hn
theorem kJ.kind(x:kJ P kd l0 h n st):kindOf st=kd:=by induction x with|mk pre hl hp ha hk hn=>exact hk
theorem kJ.succ(x:kJ P kd l0 h n st)(m:lQ P l0 h)(hn:n≠h):kJ P kd l0 h (n+1) st:=by
 induction x with|mk pre hl hp ha hk hle=>
 have hh:=m.hh
 refine jD (m.get (i:=n) (by exact Nat.lt_of_le_of_lt ‹_› ‹_›)) λy h1 h2 h3 h4=>?_
 refine .mk (pre++ [y]) (by simp[hl]) (λz hz=>?_) ?_ hk (Nat.lt_of_le_of_ne hle hn)
 ·rcases List.mem_append.mp hz with hz|hz
  ·exact hp z hz
  ·rw[List.mem_singleton.mp hz];exact⟨h4 hn,h2⟩
 ·have cy:n<l0.length:=Nat.lt_of_le_of_lt hle hh
  have e:l0.drop n=y::l0.drop (n+1):=by
   rw[List.drop_eq_getElem_cons cy];congr 1
   rw[List.getElem?_eq_getElem cy]at h1;exact Option.some.inj h1
  rw[ha,e];simp
theorem I9(hC:kH prog w A s P kd l0 F){i j:Nat}{x y:Keyed}{Q:Option Bool→SortSt→Shared→Prop}(hk:kindOf st=kd)(hi:(arrOf st)[i]? =some x)(hj:(arrOf st)[j]? =some y)(hx:x∈l0)(hy:y∈l0)(ho:P x∨P y)
  (h1:P x→P y→ ∀b,Q (some b) st s) (h2:(¬P x∨ ¬P y)→ ∀aU s',arrOf aU=arrOf st→F aU s'→Q none aU s'):ju (model prog w) A E (ltAt' i j) Q st s:=by
 rw[ltAt'_eq]
 refine aI (fX (wpS_get ?_))
 show ju _ _ _ (do let x←elem' (arrOf st) i;let y←elem' (arrOf st) j;lt' x y) Q st s
 rw[elem'_eq,elem'_eq,hi,hj]
 exact aI (aH (aI (aH (hC.lt E x y st Q hx hy hk ho h1 h2))))
theorem Au(m:lQ P l0 h){n a:Nat}(x:kJ P kd l0 h n st)(ha:a≤n){i j:Nat}(hi:i=a)(hj:j=n){Q:Unit→SortSt→Shared→Prop}(hQ: ∀aU,kJ P kd l0 h n aU→Q () aU s):ju (model prog w) A E (reverseSlice' i j) Q st s:=by
 subst hi hj
 induction x with|mk pre hl hp U7 hk hn=>
 rw[reverseSlice'_eq]
 refine fX (wpS_modify (hQ _ (.mk (pre.take i++(pre.drop i).reverse) (by rw[List.length_append,List.length_reverse,List.length_take,List.length_drop,hl,Nat.min_eq_left ha,Nat.add_sub_of_le ha]) (λz hz=>hp z ?_) ?_ hk hn)))
 ·rcases List.mem_append.mp hz with hz|hz
  ·exact List.mem_of_mem_take hz
  ·exact List.mem_of_mem_drop (List.mem_reverse.mp hz)
 ·show mirror (arrOf st) _ _ _=_
  have e:=lu (pre.take i) (pre.drop i) (l0.drop j)
  rw[List.take_append_drop]at e
  have e1:(pre.take i).length=i:=by rw[List.length_take,hl];exact Nat.min_eq_left ha
  have e2:(pre.drop i).length=j-i:=by rw[List.length_drop,hl]
  rw[U7]
  rw[e1]at e
  rw[show i+(pre.drop i).length=j by rw[e2];exact Nat.add_sub_of_le ha]at e
  exact e
theorem yd(hC:kH prog w A s P kd l0 F)(m:lQ P l0 h){Q:Option Nat→SortSt→Shared→Prop}(ha:arrOf st=l0.toArray)(hk:kindOf st=kd)
  (h1: ∀n aU,1≤n→kJ P kd l0 h n aU→Q (some n) aU s) (h2: ∀aU s',Fz F l0.length aU s'→Q none aU s'):ju (model prog w) A E (countRun' 0 l0.length) Q st s:=by
 have hh:=m.hh
 have hN:=m.two
 have Xz: ∀i,i<l0.length→ ∃y,(arrOf st)[i]? =some y∧y∈l0∧(i=h→ ¬P y)∧(i≠h→P y):=λi hi=>by
  refine aO λXq kq=>?_
  refine jD (m.get hi) λy q1 q2 q3 q4=>?_
  refine kq ?_
  exact⟨y,by rw[ha,List.getElem?_toArray];exact q1,q2,q3,q4⟩
 have fz: ∀{cw ee:SortSt} {s':Shared},(arrOf cw).size=l0.length→arrOf ee=arrOf cw→F ee s'→Fz F l0.length ee s':=λe1 e2 f=> .mk (by rw[e2];exact e1) f
 have Nq:(arrOf st).size=l0.length:=by rw[ha];simp
 rw[countRun'_eq]
 refine aI (eG (eg (I:=λi c aU s'=>s'=s∧aU=st∧c=(none,i)∧(i=1∨i≤h)) (Q:=λc aU s'=>(s'=s∧aU=st∧ ∃n,c=(none,n)∧1≤n∧n<h)∨((∃n,c=(some none,n))∧Fz F l0.length aU s')) ?step1 ?fin1 ⟨rfl,rfl,rfl,.inl rfl⟩) ?post1)
 case fin1=>
  rintro c aU s' ⟨_,_,_,hi⟩
  exact(YB hh hN hi).elim
 case step1=>
  rintro i c aU s' E6 IT ⟨rfl,rfl,rfl,hi⟩
  refine aO λXq kq=>?_
  refine jD (Xz i IT) λx x1 x2 x3 x4=>?_
  refine jD (Xz (i-1) (by exact Nat.sub_lt_of_lt ‹_›)) λy y1 y2 y3 y4=>?_
  refine kq ?_
  have ho:P x∨P y:=by
   by_cases e:i=h
   ·exact .inr (y4 (CW e E6))
   ·exact .inl (x4 e)
  refine aI (I9 hC hk (by rw[Nat.zero_add];exact x1) (by rw[Nat.zero_add];exact y1) x2 y2 ho (λpx py b=>?_) λhb aU s' e f=>?_)
  ·have e1:i≠h:=λe=>x3 e px
   have e2:i-1≠h:=λe=>y3 e py
   cases b with
   |true=>exact aH (.inl ⟨rfl,rfl,i,rfl,E6,WU hi e1 e2⟩)
   |false=>exact aH ⟨rfl,rfl,rfl,.inr (WU hi e1 e2)⟩
  ·exact aH (.inr ⟨⟨i,rfl⟩,fz Nq e f⟩)
 case post1=>
  rintro c aU s' (⟨rfl,rfl,n,rfl,n1,n2⟩|⟨⟨n,rfl⟩,f⟩)
  rotate_left
  ·exact aH (h2 _ _ f)
  have sn:kJ P kd l0 h n aU:=by
   refine .mk (l0.take n) (by rw[List.length_take];exact Nat.min_eq_left (Nat.le_of_lt (Nat.lt_trans n2 hh))) (λz hz=>?_) (by rw[List.take_append_drop];exact ha) hk (by exact Nat.le_of_lt ‹_›)
   obtain⟨i,hi,rfl⟩:=List.getElem_of_mem hz
   rw[List.length_take]at hi
   rw[List.getElem_take]
   exact⟨m.ok i _ (Nat.ne_of_lt (Nat.lt_trans (Nat.lt_of_lt_of_le hi (Nat.min_le_left _ _)) n2)) (List.getElem?_eq_getElem (Nat.lt_of_lt_of_le hi (Nat.min_le_right _ _))),List.getElem_mem _⟩
  dsimp only
  refine eW (λe1=>absurd (beq_iff_eq.mp e1) (Nat.ne_of_lt (Nat.lt_trans n2 hh))) λ_=>?_
  refine DG (X:=λcw=>kJ P kd l0 h n cw) (λcw hX=>?tl) (λhn tl=>?one) λ_=>sn
  case one=>
   refine aO λXq kq=>?_
   refine bK (sn.at m (i:=0) (by assumption)) λx x1 x2 x3=>?_
   refine bK (sn.at m (i:=n-1) (by exact Nat.sub_lt ‹_› Nat.one_pos)) λy y1 y2 y3=>?_
   refine kq ?_
   refine aI (I9 hC hk x1 (by rw[Nat.zero_add];exact y1) x2 y2 (.inl x3) (λ_ _ b=>?_) λhb=>absurd hb (by simp[x3,y3]))
   cases b with
   |true=>exact aH (h1 n _ n1 sn)
   |false=>exact aI (Au m sn (Nat.zero_le _) rfl (by rw[Nat.zero_add]) λcw h1=>tl cw h1)
  case tl=>
   refine aI (fX (dp ?_))
   have s1:=hX.succ m (by exact Nat.ne_of_lt ‹_›)
   refine aI (eG (eg (I:=λi c aU s1=>s1=s'∧ ∃q,c=(none,i,q)∧q+1≤i∧kJ P kd l0 h i aU)
    (Q:=λc aU s1=>(s1=s'∧ ∃i q,c=(none,i,q)∧q+1≤i∧kJ P kd l0 h i aU)∨((∃n,c=(some none,n))∧Fz F l0.length aU s1)) ?step2 ?fin2 ⟨rfl,0,rfl,by exact Nat.succ_pos _,s1⟩) ?post2)
   case fin2=>
    rintro c ee s2 ⟨_,q,_,_,x⟩
    exact absurd (Nat.le_trans (Nat.le_max_right _ _) x.le) (Nat.not_le.mpr hh)
   case step2=>
    rintro i c ee s2 E6 IT ⟨rfl,q,rfl,hq,x⟩
    refine aO λXq kq=>?_
    refine jD (x.next m) λu u1 u2 u3 u4=>?_
    refine bK (x.at m (i:=i-1) (Nat.sub_lt (Nat.lt_of_lt_of_le (Nat.succ_pos n) E6) Nat.one_pos)) λv v1 v2 v3=>?_
    refine kq ?_
    refine aI (I9 hC x.kind (by rw[Nat.zero_add];exact u1) (by rw[Nat.zero_add];exact v1) u2 v2 (.inr v3) (λpx _ b=>?_) λhb aU s' e f=>?_)
    ·have ne:i≠h:=λe=>u3 e px
     cases b with
     |true=>
      dsimp only
      simp only[if_true]
      refine eW (λU8=>?_) λU8=>aH ⟨rfl,0,rfl,Nat.succ_le_succ (Nat.zero_le i),x.succ m ne⟩
      exact aI (Au m x (a:=i-(q+1)) (by exact Nat.sub_le _ _) (by rw[Nat.zero_add]) (by rw[Nat.zero_add]) λkc h3=>aH ⟨rfl,0,rfl,Nat.succ_le_succ (Nat.zero_le i),h3.succ m ne⟩)
     |false=>
      dsimp only
      simp only[Bool.false_eq_true,if_false]
      refine aI (I9 hC x.kind (by rw[Nat.zero_add];exact v1) (by rw[Nat.zero_add];exact u1) v2 u2 (.inl v3) (λ_ _ b=>?_) λhb=>absurd hb (by simp[v3,px]))
      cases b with
      |true=>exact aH (.inl ⟨rfl,i,q,rfl,hq,x⟩)
      |false=>exact aH ⟨rfl,q+1,rfl,by exact Nat.succ_lt_succ ‹_›,x.succ m ne⟩
    ·exact aH (.inr ⟨⟨_,rfl⟩,fz (x.size m) e f⟩)
   case post2=>
    rintro c ee s2 (⟨rfl,i,q,rfl,hq,x⟩|⟨⟨n,rfl⟩,f⟩)
    rotate_left
    ·exact aH (h2 _ _ f)
    dsimp only
    have t3: ∀kc,kJ P kd l0 h i kc→ ∀(f3:Nat→Option (Option Nat)×Nat→StateT SortSt Sem (ForInStep (Option (Option Nat)×Nat))) (g:Option (Option Nat)×Nat→StateT SortSt Sem (Option Nat)),
      (∀y n,f3 y (none,n)=(do
       let x←ltAt' (0+n) (0+n-1)
       match x with
       |some qn=>if qn=true then pure (ForInStep.done (none,n))else pure (ForInStep.yield (none,n+1))
       |_=>pure (ForInStep.done (some none,n))))→(∀n,g (none,n)=pure (some n))→(∀n,g (some none,n)=pure none)→
      ju (model prog w) A E (do let r←forIn [i:l0.length] (none,i) f3;g r) Q kc s2:=by
     intro kc x3 f3 g hf Zs Zt
     refine aI (eG (eg (I:=λi c aU s1=>s1=s2∧c=(none,i)∧1≤i∧kJ P kd l0 h i aU)
      (Q:=λc aU s1=>(s1=s2∧ ∃i,c=(none,i)∧1≤i∧kJ P kd l0 h i aU)∨((∃n,c=(some none,n))∧Fz F l0.length aU s1)) ?step3 ?fin3 ⟨rfl,rfl,Nat.le_trans (Nat.succ_le_succ (Nat.zero_le q)) hq,x3⟩) ?post3)
     case fin3=>
      rintro c v5 s4 ⟨_,_,_,x⟩
      exact absurd (Nat.le_trans (Nat.le_max_right _ _) x.le) (Nat.not_le.mpr hh)
     case step3=>
      rintro i c v5 s4 E6 IT ⟨rfl,rfl,hi,x⟩
      refine aO λXq kq=>?_
      refine jD (x.next m) λu u1 u2 u3 u4=>?_
      refine bK (x.at m (i:=i-1) (Nat.sub_lt hi Nat.one_pos)) λv v1 v2 v3=>?_
      refine kq ?_
      rw[hf]
      refine aI (I9 hC x.kind (by rw[Nat.zero_add];exact u1) (by rw[Nat.zero_add];exact v1) u2 v2 (.inr v3) (λpx _ b=>?_) λhb aU s' e f=>?_)
      ·have ne:i≠h:=λe=>u3 e px
       cases b with
       |true=>exact aH (.inl ⟨rfl,i,rfl,hi,x⟩)
       |false=>exact aH ⟨rfl,rfl,by exact Nat.succ_pos _,x.succ m ne⟩
      ·exact aH (.inr ⟨⟨_,rfl⟩,fz (x.size m) e f⟩)
     case post3=>
      rintro c v5 s4 (⟨rfl,i,rfl,hi,x⟩|⟨⟨n,rfl⟩,f⟩)
      ·rw[Zs];exact aH (h1 i _ hi x)
      ·rw[Zt];exact aH (h2 _ _ f)
    refine eW (λU8=>?_) λU8=>?_
    ·refine aI (Au m x (a:=i-(q+1)) (by exact Nat.sub_le _ _) (by rw[Nat.zero_add]) (by rw[Nat.zero_add]) λkc x3=>?_)
     refine aI (Au m x3 (Nat.zero_le _) rfl (by rw[Nat.zero_add]) λv5 x4=>?_)
     exact t3 v5 x4 _ _ (λ_ _=>rfl) (λ_=>rfl) λ_=>rfl
    ·refine aI (Au m x (Nat.zero_le _) rfl (by rw[Nat.zero_add]) λv5 x4=>?_)
     exact t3 v5 x4 _ _ (λ_ _=>rfl) (λ_=>rfl) λ_=>rfl
end
end Mine.Internal
end
section
open PySem PyProof.Rows
namespace Mine.Internal
section
variable{prog:Program}{w:World}{A:Around}{E:Value→Shared→Prop}{s:Shared}{P:Keyed→Prop}{kd:SortKind}{l0:List Keyed}{h:Nat}{F:SortSt→Shared→Prop}{st:SortSt}
theorem Nr(m:lQ P l0 h){k l:Nat}(x:kJ P kd l0 h k st)(hl:l≤k)(hk:k≠h){i j:Nat}(hi:i=k)(hj:j=l){Q:Unit→SortSt→Shared→Prop}(hQ: ∀aU,kJ P kd l0 h (k+1) aU→Q () aU s):ju (model prog w) A E (moveDown' i j) Q st s:=by
 subst hi hj
 have x1:=x.succ m hk
 have hh:=m.hh
 induction x with|mk pre hlen hp U7 Ja hn=>
 have cy:i<l0.length:=by exact Nat.lt_of_le_of_lt ‹_› ‹_›
 refine jD (m.get cy) λy y1 y2 y3 y4=>?_
 have e:l0.drop i=y::l0.drop (i+1):=by
  rw[List.drop_eq_getElem_cons cy];congr 1
  rw[List.getElem?_eq_getElem cy]at y1;exact Option.some.inj y1
 rw[moveDown'_eq]
 refine fX (wpS_modify (hQ _ (.mk (pre.take j++ [y]++pre.drop j) (by rw[List.length_append,List.length_append,List.length_take,List.length_drop,hlen,Nat.min_eq_left hl];show j+1+(i-j)=i+1;rw[Nat.add_right_comm,Nat.add_sub_of_le hl]) (λz hz=>?_) ?_ Ja (Nat.lt_of_le_of_ne hn hk))))
 ·simp only[List.mem_append,List.mem_singleton]at hz
  rcases hz with(hz|hz)|hz
  ·exact hp z (List.mem_of_mem_take hz)
  ·rw[hz];exact⟨y4 hk,y2⟩
  ·exact hp z (List.mem_of_mem_drop hz)
 ·show bubble (arrOf st) _ _=_
  have b:=lx (pre.take j) (pre.drop j) y (l0.drop (i+1))
  rw[List.take_append_drop]at b
  have e1:(pre.take j).length=j:=by rw[List.length_take,hlen];exact Nat.min_eq_left hl
  have e2:(pre.drop j).length=i-j:=by rw[List.length_drop,hlen]
  rw[e1,e2,Nat.add_sub_of_le hl]at b
  rw[U7,e]
  simpa using b
theorem Av(hC:kH prog w A s P kd l0 F)(m:lQ P l0 h){n Fx:Nat}{Q:Bool→SortSt→Shared→Prop}(x:kJ P kd l0 h n st)(hn:1≤n)(hf:h<Fx)
  (h2: ∀aU s',Fz F l0.length aU s'→Q false aU s'):ju (model prog w) A E (binarySort' 0 Fx n) Q st s:=by
 have hh:=m.hh
 have fz: ∀{cw ee:SortSt} {s':Shared},(arrOf cw).size=l0.length→arrOf ee=arrOf cw→F ee s'→Fz F l0.length ee s':=λe1 e2 f=> .mk (by rw[e2];exact e1) f
 rw[binarySort'_eq]
 refine aI (eG (eg (I:=λk c aU s'=>s'=s∧c=(none,())∧kJ P kd l0 h k aU) (Q:=λc aU s'=>c=(some false,())∧Fz F l0.length aU s') ?step ?fin ⟨rfl,rfl,by rw[Nat.max_eq_left hn];exact x⟩) ?post)
 case fin=>
  rintro c aU s' ⟨_,_,y⟩
  exact absurd (Nat.le_trans (Nat.le_max_right _ _) y.le) (Nat.not_le.mpr hf)
 case post=>
  rintro c aU s' ⟨rfl,f⟩
  exact aH (h2 _ _ f)
 case step=>
  rintro k c aU s' xx CF ⟨rfl,rfl,y⟩
  refine jD (y.next m) λu u1 u2 u3 u4=>?_
  refine aI (eG (eg (I:=λi c cw s1=>s1=s'∧cw=aU∧ ∃l q,c=(none,l,q)∧l≤q∧q≤k∧(k=h→i=0∧l<q))
   (Q:=λc cw s1=>(s1=s'∧cw=aU∧k≠h∧ ∃l q,c=(none,l,q)∧l≤k)∨((∃l q,c=(some false,l,q))∧Fz F l0.length cw s1)) ?istep ?ifin ⟨rfl,rfl,0,k,rfl,by exact Nat.zero_le _,by exact Nat.le_refl _,λ_=>⟨rfl,Nat.lt_of_lt_of_le Nat.one_pos (Nat.le_trans (Nat.le_max_right n 1) xx)⟩⟩) ?ipost)
  case ifin=>
   rintro c cw s1 ⟨rfl,rfl,l,q,rfl,q1,q2,q3⟩
   exact .inl ⟨rfl,rfl,λe=>YC (q3 e).1 (Nat.le_trans (Nat.le_max_right n 1) xx),l,q,rfl,by exact Nat.le_trans ‹_› ‹_›⟩
  case istep=>
   rintro i c cw s1 E6 IT ⟨rfl,rfl,l,q,rfl,q1,q2,q3⟩
   dsimp only
   refine eW (λe=>aH (.inl ⟨rfl,rfl,λe'=>absurd (q3 e').2 (Nat.not_lt.mpr e),l,q,rfl,Nat.le_trans q1 q2⟩)) λe=>?_
   refine bK (y.at m (i:=(l+q)/2) (Nat.lt_of_lt_of_le (gP (Nat.lt_of_not_le e)).2 q2)) λv v1 v2 v3=>?_
   refine aI (I9 hC y.kind (by rw[Nat.zero_add];exact u1) (by rw[Nat.zero_add];exact v1) u2 v2 (.inr v3) (λpx _ b=>?_) λhb aU s' e f=>?_)
   ·have ne:k≠h:=λe=>u3 e px
    cases b with
    |true=>exact aH ⟨rfl,rfl,l,(l+q)/2,rfl,(gP (Nat.lt_of_not_le e)).1,Nat.le_trans (Nat.le_of_lt (gP (Nat.lt_of_not_le e)).2) q2,λe=>absurd e ne⟩
    |false=>exact aH ⟨rfl,rfl,(l+q)/2+1,q,rfl,(gP (Nat.lt_of_not_le e)).2,q2,λe=>absurd e ne⟩
   ·exact aH (.inr ⟨⟨_,_,rfl⟩,fz (y.size m) e f⟩)
  case ipost=>
   rintro c cw s1 (⟨rfl,rfl,ne,l,q,rfl,q1⟩|⟨⟨l,q,rfl⟩,f⟩)
   ·exact aI (Nr m y q1 ne (by rw[Nat.zero_add]) (by rw[Nat.zero_add]) λee y2=>aH ⟨rfl,rfl,y2⟩)
   ·exact aH ⟨rfl,f⟩
theorem Aw(hC:kH prog w A s P kd l0 F)(m:lQ P l0 h){Q:Unit→SortSt→Shared→Prop}(ha:arrOf st=l0.toArray)(hk:kindOf st=kd)(hm:h<minRun' l0.length l0.length 0)
  (h2: ∀aU s',Fz F l0.length aU s'→Q () aU s'):ju (model prog w) A E sortRuns' Q st s:=by
 have hh:=m.hh
 have jC:(arrOf st).size=l0.length:=by rw[ha];simp
 rw[sortRuns'_eq]
 refine aI (fX (wpS_get ?_))
 rw[show((arrOf st).size)=l0.length from jC]
 dsimp only
 refine aI (eG (eg (I:=λi c aU s'=>i=0∧s'=s∧aU=st∧c=(none,0)) (Q:=λc aU s'=>(∃n,c=(some (),n))∧Fz F l0.length aU s') ?step ?fin ⟨rfl,rfl,rfl,rfl⟩) ?post)
 case fin=>
  rintro c aU s' ⟨hi,_⟩
  exact absurd hi (Nat.ne_of_gt (Nat.lt_of_lt_of_le (Nat.lt_of_le_of_lt (Nat.zero_le h) hh) (Nat.le_max_right 0 _)))
 case post=>
  rintro c aU s' ⟨⟨n,rfl⟩,f⟩
  exact aH (h2 _ _ f)
 case step=>
  rintro i c aU s' _ _ ⟨rfl,rfl,rfl,rfl⟩
  refine eW (λe=>by exfalso;have e':0≥l0.length:=e;exact absurd e' (Nat.not_le.mpr (Nat.lt_of_le_of_lt (Nat.zero_le h) hh))) λ_=>?_
  rw[show l0.length-0=l0.length by rfl]
  refine aI (yd hC m ha hk (λn cw hn x=>?_) λcw s1 f=>aH ⟨⟨_,rfl⟩,f⟩)
  dsimp only
  have hle:=x.le
  refine eW (λ_=>?_) (λe=>by exfalso;exact e (by exact Nat.lt_of_le_of_lt ‹_› ‹_›))
  refine aI (fX (dp ?_))
  refine aI (Av hC m x hn (Nat.lt_min.mpr ⟨hh,hm⟩) λee s2 f=>?_)
  exact eW (λ_=>aH ⟨⟨_,rfl⟩,f⟩) λe=>absurd rfl e
end
structure nu(prog:Program)(w:World)(P:Keyed→Prop)(kd:SortKind)(s:Shared)(vs:List Value)(h:Nat)(X:Shared→Shared→Addr→Prop):Prop where
 mix:lQ P (vs.map dup) h
 run:h<minRun' vs.length vs.length 0
 cmp: ∀(A:Around) (s':Shared),A.handled=none→(∀b o,s.heap.get? b=some o→s'.heap.get? b=some o)→kH prog w A s' P kd (vs.map dup) λst mD=> ∃e,failedOf st=some (.ref e)∧X s' mD e
 kind: ∀(A:Around) (s':Shared) (E:Value→Shared→Prop) (Q:SortKind→Shared→Prop),(∀b o,s.heap.get? b=some o→s'.heap.get? b=some o)→Q kd s'→wpAny (model prog w) A (keyKind' vs.toArray) Q E s'
inductive Ax(pm:Str→Prop)(s s':Shared)(e:Addr):Prop
 |mk (h':Heap) (tk:Nat) (t:Tok) (msg:Str) (hm:pm msg) (hs:s'={s with heap:=h',toks:=tk}) (m:Heap.MadeExcOf s.heap h' e (.type "TypeError") [.str msg t])
section
variable{prog:Program}{w:World}{A:Around}{E:Value→Shared→Prop}{s:Shared}{P:Keyed→Prop}{kd:SortKind}{h:Nat}{pm:Str→Prop}
theorem oH{a:Addr}{vs:List Value}{n:Nat}{Q:Fin→Shared→Prop}(hh:A.handled=none)(ho:s.heap.get? a=some (seqObj "list" vs.toArray n))(hz:vs.length≤sizeLine)
  (hR: ∀s':Shared,(∀b o,b≠a→s.heap.get? b=some o→s'.heap.get? b=some o)→nu prog w P kd s' vs h (Ax pm))
  (hE: ∀h1 h' tk e msg t,(∀b o,b≠a→s.heap.get? b=some o→h1.get? b=some o)→Heap.MadeExcOf h1 h' e (.type "TypeError") [.str msg t]→pm msg→E (.ref e) {s with heap:=h',toks:=tk}):
  wpAny (model prog w) A (Builtin.«list.sort» ⟨[.ref a],[]⟩) Q E s:=by
 rw[list_sort_plain]
 have ha:a<s.heap.objs.size:=Heap.lt_size ho
 refine wpAny_bind (listItems_at ho rfl ?_)
 refine wpAny_bind (listUpdate_at ho rfl ?_ (by simpa using hz) (by simp))
 obtain⟨e1,oA⟩: ∃e1,(s.heap.update a (Obj.mapSeq λ_=> #[])).get? a=some (seqObj "list" #[] e1):=⟨_,get?_update_seq ho (λ_=> #[])⟩
 refine wpAny_bind (seqEpoch_at oA rfl ?_)
 refine wpAny_bind (wpAny_newTuple ?_ (by simpa using hz))
 refine wpAny_bind (wpAny_newList ?_)
 refine wpAny_holding ?_
 have zx:(((s.heap.update a (Obj.mapSeq λ_=> #[])).push (seqObj "tuple" vs.toArray 0)).push (seqObj "list" #[] 0)).get? a=some (seqObj "list" #[] e1):=by
  rw[Heap.get?_push_ne _ _ _ (by rw[size_push',Heap.size_update];exact Nat.ne_of_lt (Nat.lt_succ_of_lt ha)),Heap.get?_push_ne _ _ _ (by rw[Heap.size_update];exact Nat.ne_of_lt ha)]
  exact oA
 skip
 have k6: ∀b o,b≠a→s.heap.get? b=some o→(((s.heap.update a (Obj.mapSeq λ_=> #[])).push (seqObj "tuple" vs.toArray 0)).push (seqObj "list" #[] 0)).get? b=some o:=λb o hb e=>
  Heap.get?_push_of_some _ (Heap.get?_push_of_some _ ((Heap.get?_update_other _ _ (Ne.symm hb)).trans e))
 have De:=hR {s with heap:=((s.heap.update a (Obj.mapSeq λ_=> #[])).push (seqObj "tuple" vs.toArray 0)).push (seqObj "list" #[] 0)} k6
 generalize ((s.heap.update a (Obj.mapSeq λ_=> #[])).push (seqObj "tuple" vs.toArray 0)).push (seqObj "list" #[] 0)=h6 at *
 dsimp only
 have h2: ¬vs.toArray.size<2:=by have:=De.mix.two;rw[List.length_map]at this;rw[List.size_toArray];exact Nat.not_lt.mpr ‹_›
 rw[if_neg h2,if_neg h2]
 refine wpAny_bind (De.kind A _ _ _ (λ_ _ e=>e) ?_)
 refine wpAny_bind (wpAny_mono (Aw (st:=SortSt.mk' kd (vs.toArray.zip vs.toArray) #[] 7 none)
   (Q:=λ_ aU s'=>Fz (λst mD=> ∃e,failedOf st=some (.ref e)∧Ax pm {s with heap:=h6} mD e) (vs.map dup).length aU s')
   (De.cmp A _ hh λ_ _ e=>e) De.mix (gT vs) rfl (by rw[List.length_map];exact De.run) λaU s' f=>f) ?_ λ_ _ e=>e)
 rintro ⟨⟨⟩,aU⟩ s' f
 obtain⟨hs,e,hf,x⟩:=f
 obtain⟨h',tk,t,msg,hm,rfl,mx⟩:=x
 dsimp only at hs hf ⊢
 have U9:h'.get? a=some (seqObj "list" #[] e1):=mx.keeps _ _ zx
 refine wpAny_bind (seqEpoch_at U9 rfl ?_)
 have fB:e≠a:=λq=>by have:=mx.new;rw[q]at this;rw[show h6.get? a=some (seqObj "list" #[] e1)from zx]at this;cases this
 refine wpAny_bind (listUpdate_at U9 rfl ?_ (hsz2:=by rw[Array.size_map,hs,List.length_map];exact Nat.le_succ_of_le ‹_›))
 rw[hf]
 refine wpAny_bind (wpAny_rule (wpAny_throw ?_))
 refine bK mx.there λt0 q1 q2 q3=>?_
 have Nt:t0≠a:=λq=>by rw[q]at q2;rw[show h6.get? a=some (seqObj "list" #[] e1)from zx]at q2;cases q2
 refine hE (h6.update a (Obj.mapSeq λ_=>(arrOf aU).map (λx:Keyed=>x.2))) _ tk e msg t (λb o hb e=>(Heap.get?_update_other _ _ (Ne.symm hb)).trans (k6 b o hb e)) ?_ hm
 refine⟨λb o hb=>?_,?_,t0,?_,?_,?_⟩
 ·by_cases q:b=a
  ·subst q
   rw[get?_update_seq zx]at hb
   rw[get?_update_seq U9]
   exact hb
  ·rw[Heap.get?_update_other _ _ (Ne.symm q)]at hb ⊢
   exact mx.keeps b o hb
 ·rw[Heap.get?_update_other _ _ (Ne.symm fB)];exact mx.new
 ·rw[Heap.get?_update_other _ _ (Ne.symm fB)];exact q1
 ·rw[Heap.get?_update_other _ _ (Ne.symm Nt)];exact q2
 ·rw[Heap.get?_update_other _ _ (Ne.symm Nt)];exact q3
theorem uS{x:Value}{Q:Value→Shared→Prop}(hh:A.handled=none)
  (GG:wpAny (model prog w) A.in1 (collect x) (λvs s₁=>vs.length≤sizeLine∧nu prog w P kd s₁ vs h (Ax pm)∧
   ∀h1 h' tk e msg t,(∀b o,s₁.heap.get? b=some o→h1.get? b=some o)→Heap.MadeExcOf h1 h' e (.type "TypeError") [.str msg t]→pm msg→E (.ref e) {s₁ with heap:=h',toks:=tk}) E s):
  wpAny (model prog w) A (call (.builtin "sorted") [x]) Q E s:=by
 refine Calls.call_function_entry kind_sorted plain_sorted entry_sorted (args_sorted1 _) ?_
 unfold Builtin.«sorted»
 refine wpAny_bind (m:=checkCount "sorted" 1 1 _) (wpAny_pure ?_)
 refine wpAny_bind (wpAny_mono GG (λvs s₁ hv=>?_) λ_ _ e=>e)
 refine gM hv λhz hR hE=>?_
 refine wpAny_bind (wpAny_newList ?_ (by simpa using hz))
 have CG:(s₁.heap.push (seqObj "list" vs.toArray 0)).get? s₁.heap.objs.size=some (seqObj "list" vs.toArray 0):=Heap.get?_push_size _ rfl
 have hold: ∀b o,s₁.heap.get? b=some o→b≠s₁.heap.objs.size:=λb o e=>Nat.ne_of_lt (Heap.lt_size e)
 show wpAny _ _ _ _ _ {s₁ with heap:=s₁.heap.push (seqObj "list" vs.toArray 0)}
 refine wpAny_bind (wpAny_holding (wpAny_call_entry slot_list_sort ⟨_,CG,rfl⟩ entry_list_sort (oH (P:=P) (kd:=kd) (h:=h) (pm:=pm) hh CG hz (λs' ou=>?_) λh1 h' tk e msg t k mx hm=>hE h1 h' tk e msg t (λb o e=>k b o (hold b o e) (Heap.get?_push_of_some _ e)) mx hm) (args_list_sort _)))
 have hk: ∀b o,s₁.heap.get? b=some o→s'.heap.get? b=some o:=λb o e=>ou b o (hold b o e) (Heap.get?_push_of_some _ e)
 exact⟨hR.mix,hR.run,λA mD hh qo=>hR.cmp A mD hh λb o e=>qo b o (hk b o e),λA mD E Q qo=>hR.kind A mD E Q λb o e=>qo b o (hk b o e)⟩
end
end Mine.Internal
end
section
open PySem PyProof.Rows
namespace Mine.Internal
noncomputable def lR(x:D):List D→List D
 | []=> [x]
 |y::l=>if gE y x then y::lR x l else x::y::l
noncomputable def bg:List D→List D
 | []=> []
 |x::l=>lR x (bg l)
structure eH(O:KeyOrd)(κ:D→O.α)(l:List D):Prop where
 lt: ∀x∈l,∀y∈l,gE x y=O.blt (κ x) (κ y)
noncomputable def uT(O:KeyOrd)(κ:D→O.α)(k:O.α)(x:D):Bool:= !O.blt (κ x) k&& !O.blt k (κ x)
section
variable{O:KeyOrd}{κ:D→O.α}{l:List D}
theorem fY{k:O.α}{x:D}:uT O κ k x=true↔κ x=k:=by
 unfold uT
 constructor
 ·intro h
  simp only[Bool.and_eq_true,Bool.not_eq_true']at h
  exact O.total _ _ h.1 h.2
 ·rintro rfl
  simp[O.irrefl]
theorem pI(x:D)(l:List D):(lR x l).Perm (x::l):=by
 induction l with
 |nil=>exact .refl _
 |cons y l ih=>
  unfold lR
  split
  ·exact(ih.cons y).trans (.swap x y l)
  ·exact .refl _
theorem cI(l:List D):(bg l).Perm l:=by
 induction l with
 |nil=>exact .refl _
 |cons x l ih=>exact(pI x _).trans (ih.cons x)
theorem dx(l:List D):(bg l).length=l.length:=(cI l).length_eq
theorem eH.tail{x:D}(k:eH O κ (x::l)):eH O κ l:=⟨λa ha b hb=>k.lt a (List.mem_cons_of_mem _ ha) b (List.mem_cons_of_mem _ hb)⟩
theorem eH.perm{m:List D}(k:eH O κ l)(p:m.Perm l):eH O κ m:=⟨λa ha b hb=>k.lt a (p.mem_iff.mp ha) b (p.mem_iff.mp hb)⟩
theorem ye{x:D}{m:List D}(k:eH O κ (x::m))(q:O.α):(lR x m).filter (uT O κ q)=(x::m).filter (uT O κ q):=by
 induction m with
 |nil=>rfl
 |cons y m ih=>
  have kx:eH O κ (x::m):=⟨λa ha b hb=>k.lt a (by rcases List.mem_cons.mp ha with h|h;exact h▸List.mem_cons_self ..;exact List.mem_cons_of_mem _ (List.mem_cons_of_mem _ h)) b (by rcases List.mem_cons.mp hb with h|h;exact h▸List.mem_cons_self ..;exact List.mem_cons_of_mem _ (List.mem_cons_of_mem _ h))⟩
  unfold lR
  split
  ·rename_i h
   rw[k.lt y (by simp) x (by simp)]at h
   rw[List.filter_cons,ih kx,List.filter_cons,List.filter_cons,List.filter_cons]
   by_cases e1:uT O κ q x=true
   ·by_cases e2:uT O κ q y=true
    ·rw[fY]at e1 e2
     rw[e1,e2,O.irrefl]at h;cases h
    ·simp[e1,e2]
   ·simp[e1]
  ·rfl
theorem uU(k:eH O κ l)(q:O.α):(bg l).filter (uT O κ q)=l.filter (uT O κ q):=by
 induction l with
 |nil=>rfl
 |cons x l ih=>
  have:=ye (k.perm (m:=x::bg l) ((cI l).cons x)) q
  show(lR x (bg l)).filter _=_
  rw[this,List.filter_cons,ih k.tail,List.filter_cons]
noncomputable def sY(O:KeyOrd)(κ:D→O.α)(l:List D):Prop:=l.Pairwise λx y=>O.blt (κ y) (κ x)=false
theorem Ay{x:D}{m:List D}(k:eH O κ (x::m))(h:sY O κ m):sY O κ (lR x m):=by
 induction m with
 |nil=>exact List.pairwise_singleton _ _
 |cons y m ih=>
  have kx:eH O κ (x::m):=⟨λa ha b hb=>k.lt a (by rcases List.mem_cons.mp ha with h|h;exact h▸List.mem_cons_self ..;exact List.mem_cons_of_mem _ (List.mem_cons_of_mem _ h)) b (by rcases List.mem_cons.mp hb with h|h;exact h▸List.mem_cons_self ..;exact List.mem_cons_of_mem _ (List.mem_cons_of_mem _ h))⟩
  obtain⟨h1,h2⟩:=List.pairwise_cons.mp h
  have e:=k.lt y (by simp) x (by simp)
  unfold lR
  split
  ·rename_i cy
   replace cy:=e▸cy
   refine List.pairwise_cons.mpr ⟨λz hz=>?_,ih kx h2⟩
   rcases List.mem_cons.mp ((pI x m).mem_iff.mp hz)with rfl|hz
   ·cases hq:O.blt (κ z) (κ y)with
    |false=>rfl
    |true=>have:=O.trans _ _ _ cy hq;rw[O.irrefl]at this;cases this
   ·exact h1 z hz
  ·rename_i cy
   replace cy:=e▸cy
   have XA:O.blt (κ y) (κ x)=false:=by simpa using cy
   refine List.pairwise_cons.mpr ⟨λz hz=>?_,h⟩
   rcases List.mem_cons.mp hz with rfl|hz
   ·exact XA
   ·cases hq:O.blt (κ z) (κ x)with
    |false=>rfl
    |true=>
     rcases O.negTrans _ (κ y) _ hq with h3|h3
     ·rw[h1 z hz]at h3;cases h3
     ·replace h3:=XA▸h3
      cases h3
theorem kN(k:eH O κ l):sY O κ (bg l):=by
 induction l with
 |nil=>exact .nil
 |cons x l ih=>exact Ay (k.perm ((cI l).cons x)) (ih k.tail)
theorem uV: ∀{r r':List D},sY O κ r→sY O κ r'→(∀q,r.filter (uT O κ q)=r'.filter (uT O κ q))→r=r':=by
 intro r
 induction r with
 |nil=>
  intro r' _ _ h
  cases r' with
  |nil=>rfl
  |cons y r'=>
   have:=h (κ y)
   rw[List.filter_nil,List.filter_cons,if_pos (fY.mpr rfl)]at this
   cases this
 |cons x r ih=>
  intro r' s1 s2 h
  cases r' with
  |nil=>
   have:=h (κ x)
   rw[List.filter_nil,List.filter_cons,if_pos (fY.mpr rfl)]at this
   cases this
  |cons y r'=>
   obtain⟨a1,a2⟩:=List.pairwise_cons.mp s1
   obtain⟨b1,b2⟩:=List.pairwise_cons.mp s2
   have hx:x∈(y::r').filter (uT O κ (κ x)):=by rw[←h,List.filter_cons,if_pos (fY.mpr rfl)];exact List.mem_cons_self ..
   have hy:y∈(x::r).filter (uT O κ (κ y)):=by rw[h,List.filter_cons,if_pos (fY.mpr rfl)];exact List.mem_cons_self ..
   have e1:O.blt (κ x) (κ y)=false:=by
    rcases List.mem_cons.mp (List.mem_filter.mp hx).1 with e|e
    ·rw[e];exact O.irrefl _
    ·exact b1 x e
   have e2:O.blt (κ y) (κ x)=false:=by
    rcases List.mem_cons.mp (List.mem_filter.mp hy).1 with e|e
    ·rw[e];exact O.irrefl _
    ·exact a1 y e
   have ek:κ x=κ y:=O.total _ _ e1 e2
   have Zu:x=y:=by
    have:=h (κ x)
    rw[List.filter_cons,if_pos (fY.mpr rfl),List.filter_cons,if_pos (fY.mpr ek.symm)]at this
    exact(List.cons.inj this).1
   subst Zu
   congr 1
   refine ih a2 b2 λq=>?_
   have:=h q
   rw[List.filter_cons,List.filter_cons]at this
   split at this
   ·exact(List.cons.inj this).2
   ·exact this
theorem ic{f:Value→D}{vs out:List Value}(k:eH O κ (vs.map f))(h1:Ord.dk (C:=⟨O,λx=>κ (f x.1)⟩) (out.map dup))(h2:Ord.bf ⟨O,λx=>κ (f x.1)⟩ (out.map dup) (vs.map dup)):out.map f=bg (vs.map f):=by
 refine uV (O:=O) (κ:=κ) ?_ (kN k) λq=>?_
 ·unfold sY
  rw[List.pairwise_map]
  exact(List.pairwise_map.mp h1).imp λh=>h
 ·rw[uU k]
  have e: ∀ws:List Value,(ws.map f).filter (uT O κ q)=((ws.map dup).filter (Ord.E9 ⟨O,λx=>κ (f x.1)⟩ q)).map λx=>f x.1:=λws=>by
   induction ws with
   |nil=>rfl
   |cons w ws ih=>
    rw[List.map_cons,List.map_cons,List.filter_cons,List.filter_cons,ih]
    show(if uT O κ q (f w)=true then _ else _)=(if uT O κ q (f w)=true then _ else _:List Keyed).map _
    split <;> rfl
  rw[e,e,h2 q]
end
end Mine.Internal
end
section
end
section
open PySem PyProof.Rows
namespace Mine.Internal
inductive gy(base:Heap)(l:List Env)(h h':Heap)(e:Addr)(cls:Value)(m:Option Str):Prop
 |mk (a0:Value) (fl:Heap.FlyingW base l e cls a0 h') (tup: ∀msg,m=some msg→ ∃t tk,a0= .ref t∧h'.TupAt t [.str msg tk]) (up:h.UpToSlots h')
inductive kP(h h':Heap)(e:Addr):Value→Option Str→Prop
 |made {cls:Value} {msg:Str} (tk:Tok) (m:Heap.MadeExcOf h h' e cls [.str msg tk]):kP h h' e cls (some msg)
 |new {X:String} (m:Heap.NewExc h h' e X):kP h h' e (.type X) none
inductive nv(base:Heap)(env:Env)(outer:List Env)(h h':Heap)(e:Addr)(cls:Value)(m:Option Str):Prop
 |made (h1:Heap) (st:base.StaysIn h1) (fl:h1.FunFrames base (env::outer)) (up:h.UpToSlots h1) (x:kP h1 h' e cls m)
 |held (a0:Value) (hl:Heap.HeldW base (env::outer) e cls a0 env.locals h') (tup: ∀msg,m=some msg→ ∃t tk,a0= .ref t∧h'.TupAt t [.str msg tk]) (up:h.UpToSlots h')
section
variable{M:Model}{A:Around}{E:Value→Shared→Prop}{s:Shared}{base h:Heap}{env:Env}{outer:List Env}{e:Addr}{cls:Value}{m:Option Str}
theorem nv.leave{Q:Unit→Shared→Prop}(x:nv base env outer h s.heap e cls m)(fq:A.frames=some (env::outer))(hf:env.frame=some env.locals)
  (hQ: ∀h',gy base outer h h' e cls m→Q () {s with heap:=h'}):wpAny M A (leaving env (.ref e)) Q E s:=by
 cases x with
 |made h1 st fl up x=>
  cases x with
  |made tk m=>exact wpAny_leaves_madeW fq hf st fl m λh' t k1 k2 _ k4=>hQ h' ⟨.ref t,k1,λmsg q=>by cases q;exact⟨t,tk,rfl,k2⟩,(up.trans (.of_keeps m.keeps)).trans k4⟩
  |new m=>
   refine b8 m.there λob t xu xv Nu=>?_
   have fresh:base.get? e=none:=by
    cases q:base.get? e with
    |none=>rfl
    |some o=>have:=st e o q;rw[m.new]at this;cases this
   refine wpAny_leaving_firstW (a0:=t) fq (fl.of_keeps λb o hb _=>⟨o,m.keeps b o hb,rfl⟩) hf xu (λb o hb=>m.keeps b o (st b o hb)) fresh Nu rfl rfl λh' hL=>?_
   refine aO λXq kq=>?_
   refine za hL λk1 Nv k3 k4=>?_
   obtain⟨_,_,k2⟩:=Nv
   refine kq ?_
   rw[xv]at k3
   exact hQ h' ⟨t,⟨k1,fresh,k2,k3⟩,λ_ q=>(by cases q),(up.trans (.of_keeps m.keeps)).trans k4⟩
 |held a0 hl tup up=>
  unfold leaving
  refine wpAny_bind (wpAny_noteFrame_againW hf hl.2.2.2 ?_)
  refine wpAny_landsW hl λh' Dd k=>?_
  refine za Dd λk1 k2 Nw k4=>?_
  obtain⟨_,_,k3⟩:=Nw
  exact hQ h' ⟨a0,⟨k1,k2,k3,k4⟩,λmsg q=>let⟨t,tk,e1,e2⟩:=tup msg q;⟨t,tk,e1,e2.of_slots k⟩,up.trans k⟩
theorem fZ{α:Type}{c msg:String}{Q:α→Shared→Prop}(hp:PlainExc c)(hh:A.handled=none)
  (h: ∀h' tk t e,Heap.MadeExcOf s.heap h' e (.type c) [.str (Str.ofString msg) t]→E (.ref e) {s with heap:=h',toks:=tk}) (hm:(msg:Str).length≤sizeLine:=by size_fits):
  wpAny M A (raiseErrorMade c msg:Sem α) Q E s:=by
 unfold raiseErrorMade
 refine wpAny_bind (wpAny_mkStr (wpAny_bind ?_) hm)
 unfold newExc newTuple
 refine wpAny_bind (wpAny_newObj_type ?_)
 refine wpAny_bind (m:=firstArgMember _ _) (wpAny_of_eq (a:=Value.none) (by simp only[firstArgMember,hp.first];rfl) ?_)
 rw[hp.own]
 refine wpAny_newObj_type ?_
 unfold raiseNew
 refine wpAny_bind (wpAny_handled ?_)
 rw[hh]
 first
  |refine wpAny_throw ?_
  |refine wpAny_bind (wpAny_pure (wpAny_throw ?_))
 refine h _ _ s.toks _ ⟨λb o hb=>Heap.get?_push_of_some _ (Heap.get?_push_of_some _ hb),Heap.get?_none_of_le (by simp),s.heap.objs.size,Heap.get?_push_size _ rfl,Heap.get?_none_of_le (Nat.le_refl _),?_⟩
 exact Heap.get?_push_of_some _ (Heap.get?_push_size _ rfl)
end
structure ny(c:Cx)(A:Around)(env:Env)(s:Shared)(σ:ah)(K C:Addr→Prop)(asg:Str→Bool)(base h0:Heap)(outer:List Env):Prop where
 act:Act c A env s σ K C asg noOwn
 oo:bq c σ noOwn
 frames:A.frames=some (env::outer)
 fr:env.frame=some env.locals
 fl:s.heap.FunFrames base (env::outer)
 st:base.StaysIn s.heap
 up:h0.UpToSlots s.heap
 nl:h0.get? env.locals=none
 nc: ∀x b,env.cells.lookup x=some b→h0.get? b=none
 bh: ∀b,h0.get? b=none→base.get? b=none
 tb:Ext c.hT base
section
variable{c:Cx}{A:Around}{env:Env}{s:Shared}{σ:ah}{K C:Addr→Prop}{asg:Str→Bool}{base h0:Heap}{outer:List Env}
theorem ny.next(x:ny c A env s σ K C asg base h0 outer){σ':ah}{K':Addr→Prop}{h':Heap}{tk:Nat}(act:Act c A env {s with heap:=h',toks:=tk} σ' K' C asg noOwn)(oo:bq c σ' noOwn)(g:jQ env noOwn noOwn K K' s.heap h'):
  ny c A env {s with heap:=h',toks:=tk} σ' K' C asg base h0 outer:=by
 have keep: ∀b o,s.heap.get? b=some o→b≠env.locals→(∀y,env.cells.lookup y≠some b)→h'.get? b=some o:=λb o e h1 h2=>by
  by_cases hd:cQ o
  ·exact(g.dat b o hd e λ_ h=>by cases h).1
  ·exact g.ma b o hd e h1 λy _=>h2 y
 have old: ∀b o,h0.get? b=some o→b≠env.locals∧ ∀y,env.cells.lookup y≠some b:=λb o e=>
  ⟨λq=>(by rw[q,x.nl]at e;cases e),λy q=>(by rw[x.nc y b q]at e;cases e)⟩
 have Zv: ∀{l:List Env},s.heap.FunFrames base l→(∀en∈l,∀L,en.frame=some L→h'.get? L=s.heap.get? L∨ ∃o,h'.get? L=some o∧ ∀vs,o.data≠ .fields vs)→h'.FunFrames base l:=by
  intro l
  induction l with
  |nil=>exact λ_ _=>trivial
  |cons en l ih=>
   intro f k
   refine gM f λf1 Nx f2=>?_
   obtain⟨L,o,q1,q2,q3,q4⟩:=Nx
   refine⟨f1,?_,ih f2 λZx h=>k Zx (List.mem_cons_of_mem _ h)⟩
   rcases k en (List.mem_cons_self ..) L q1 with h|⟨o',h1,h2⟩
   ·exact⟨L,o,q1,q2,h.trans q3,q4⟩
   ·exact⟨L,o',q1,q2,h1,h2⟩
 refine⟨act,oo,x.frames,x.fr,?_,λb o e=>?_,λb o e hn=>?_,x.nl,x.nc,x.bh,x.tb⟩
 ·refine Zv x.fl λen y8 L hL=>?_
  by_cases hl:L=env.locals
  ·subst hl
   refine aO λXq kq=>?_
   refine eh act.loc λm o es ep ho hd _=>?_
   refine kq ?_
   exact .inr ⟨o,ho,λvs q=>by rw[hd]at q;cases q⟩
  ·obtain⟨_,o,ho,mi⟩:=x.fl.mem (b:=L) (List.mem_filterMap.mpr ⟨en,y8,hL⟩)
   by_cases hc: ∃y,env.cells.lookup y=some L∧(env.kindOf y=some .cell∨env.kindOf y=some .free)
   ·refine aO λXq kq=>?_
    refine ai hc λy hy hk=>?_
    obtain⟨a,v,h1,o',eu,fo⟩:=act.cell y hk
    refine kq ?_
    replace h1:=hy▸h1
    obtain rfl:=Option.some.inj h1
    exact .inr ⟨o',eu,λvs q=>by rw[fo]at q;cases q⟩
   ·left
    rw[ho]
    by_cases hd:cQ o
    ·exact(g.dat L o hd ho λ_ h=>by cases h).1
    ·exact g.ma L o hd ho hl λy hk q=>hc ⟨y,q,.inl hk⟩
 ·have e':=x.st b o e
  have e0: ∃o',h0.get? b=some o':=by
   cases q:h0.get? b with
   |some o'=>exact⟨o',rfl⟩
   |none=>rw[x.bh b q]at e;cases e
  refine au e0 λo' e0=>?_
  refine aX (old b o' e0) λn1 n2=>?_
  exact keep b o e' n1 n2
 ·refine au (x.up b o e hn) λsl e'=>?_
  refine aX (old b o e) λn1 n2=>?_
  exact⟨sl,keep b _ e' n1 n2⟩
end
end Mine.Internal
end
section
open PySem PyProof.Rows
namespace Mine.Internal
theorem yf(v:Value):firstOfTuple' v=(do
  if(←typeOf v) != .type "tuple" then return none
  return (←Builtin.List.listItems v)[0]?):=rfl
section
variable{M:Model}{A:Around}{E:Value→Shared→Prop}{s:Shared}{τ:Value→String}
theorem sZ: ∀{vs:List Value} {Q:List (Option Value)→Shared→Prop},(∀v∈vs,s.TypeIs v (τ v)∧(Value.type (τ v) != .type "tuple")=true)→Q (vs.map λ_=>none) s→wpAny M A (vs.mapM firstOfTuple') Q E s:=by
 intro vs
 induction vs with
 |nil=>intro Q _ h;rw[List.mapM_nil];exact wpAny_pure h
 |cons v vs ih=>
  intro Q hv h
  rw[List.mapM_cons]
  refine aX (hv v (List.mem_cons_self ..)) λh1 h2=>?_
  refine wpAny_bind ?_
  rw[yf]
  refine wpAny_bind (wpAny_typeOf h1 ?_)
  refine dD h2 ?_
  exact wpAny_pure (wpAny_bind (ih (λu hu=>hv u (List.mem_cons_of_mem _ hu)) (wpAny_pure h)))
theorem s8: ∀{vs:List Value} {Q:List Value→Shared→Prop},(∀v∈vs,s.TypeIs v (τ v))→Q (vs.map λv=> .type (τ v)) s→wpAny M A (vs.mapM typeOf) Q E s:=by
 intro vs
 induction vs with
 |nil=>intro Q _ h;rw[List.mapM_nil];exact wpAny_pure h
 |cons v vs ih=>
  intro Q hv h
  rw[List.mapM_cons]
  exact wpAny_bind (wpAny_typeOf (hv v (List.mem_cons_self ..)) (wpAny_bind (ih (λu hu=>hv u (List.mem_cons_of_mem _ hu)) (wpAny_pure h))))
theorem wC{v0:Value}{vs:List Value}{Q:SortKind→Shared→Prop}(hv: ∀v∈v0::vs,s.TypeIs v (τ v)∧(Value.type (τ v) != .type "tuple")=true)
  (hQ:Q (if(v0::vs).all (λv=>τ v==τ v0)then oneType' else general') s):wpAny M A (keyKind' (v0::vs).toArray) Q E s:=by
 rw[keyKind'_eq,List.mapM_toArray,map_eq_pure_bind]
 refine wpAny_bind (wpAny_bind (sZ hv (wpAny_pure ?_)))
 refine bw (by simp) ?_
 refine bw (by simp) ?_
 rw[oneTypeOnly'_eq,List.mapM_toArray,map_eq_pure_bind]
 refine wpAny_bind (wpAny_bind (wpAny_bind (s8 (τ:=τ) (λv Rl=>(hv v Rl).1) (wpAny_pure ?_))))
 have h0:(List.map (λv=>Value.type (τ v)) (v0::vs)).toArray[0]? =some (Value.type (τ v0)):=by simp
 rw[h0]
 dsimp only
 have e:((List.map (λv=>Value.type (τ v)) (v0::vs)).toArray.all λx=>x==Value.type (τ v0))=(v0::vs).all (λv=>τ v==τ v0):=by
  rw[List.all_toArray,List.all_map]
  congr 1
  funext v
  show(Value.type (τ v)==Value.type (τ v0))=(τ v==τ v0)
  by_cases e:τ v=τ v0
  ·rw[e,beq_self_eq_true,beq_self_eq_true]
  ·rw[beq_eq_false_iff_ne.mpr e,beq_eq_false_iff_ne.mpr (λq=>e (Value.type.inj q))]
 rw[e]
 cases hb:(v0::vs).all (λv=>τ v==τ v0)with
 |true=>
  rw[hb]at hQ
  exact wpAny_pure (wpAny_pure hQ)
 |false=>
  rw[hb]at hQ
  exact wpAny_pure (wpAny_pure hQ)
end
noncomputable def yg(h:Heap)(a:Addr):Int:=((h.get? a).map λo=>match o.data with| .seq xs _=>TU (xs.getD 0 .none)|_=>0).getD 0
noncomputable def iW(h:Heap)(v:Value):D:=
 match v with
 | .int i _=> .int i
 | .str x _=> .str x
 | .ref a=> .obj a (yg h a)
 |_=> .none
noncomputable def qC(d:D):Int:=
 match d with
 | .int i=>i
 | .obj _ m=>m
 |_=>0
noncomputable def Az(d:D):List Nat:=
 match d with
 | .str x=>x.cps.toList
 |_=> []
noncomputable def pJ(h:Heap):Ord:=⟨mM,λx=>qC (iW h x.1)⟩
noncomputable def AA(h:Heap):Ord:=⟨strKind.toKeyOrd,λx=>Az (iW h x.1)⟩
noncomputable def DH(x:Keyed):Prop:= ∃i t,x.1= .str i t
noncomputable def Hh(h:Heap)(x:Keyed):Prop:= ∃a m t,x.1= .ref a∧h.PlainList a #[.int m t]
theorem qD{h:Heap}{a:Addr}{m:Int}{t:Tok}(i:h.PlainList a #[.int m t]):yg h a=m:=by
 refine au i λn ho=>?_
 unfold yg
 rw[ho];rfl
noncomputable def DI(h h':Heap):Prop:= ∀a xs n,h.get? a=some {cls:= .type "list",data:= .seq xs n}→h'.get? a=some {cls:= .type "list",data:= .seq xs n}
section
variable{prog:Program}{w:World}{s:Shared}{h:Heap}
theorem DJ(A:Around)(s:Shared):dm prog w A s (pJ h) isInt oneType':=⟨λE x y st Q hx hy hk hQ=>by
 refine cg hx λa t e1=>?_
 refine cg hy λb u e2=>?_
 rw[lt'_eq]
 refine wpS_bind (wpS_get ?_)
 rw[hk,e1,e2,keyLt'_oneType]
 have hl:(pJ h).lt x y=decide (a<b):=by show decide (qC (iW h x.1)<qC (iW h y.1))=_;rw[e1,e2];rfl
 rw[hl]at hQ
 refine wpS_bind (wpS_lift (wpAny_attempt (oneLt_int ⟨rfl,?_⟩)))
 exact wpS_pure hQ⟩
theorem DK(A:Around)(s:Shared):dm prog w A s (AA h) DH oneType':=⟨λE x y st Q hx hy hk hQ=>by
 refine cg hx λa t e1=>?_
 refine cg hy λb u e2=>?_
 rw[lt'_eq]
 refine wpS_bind (wpS_get ?_)
 rw[hk,e1,e2,keyLt'_oneType]
 have hl:(AA h).lt x y=decide (a.cps.toList<b.cps.toList):=by show decide (Az (iW h x.1)<Az (iW h y.1))=_;rw[e1,e2];rfl
 rw[hl]at hQ
 refine wpS_bind (wpS_lift (wpAny_attempt (oneLt_str ⟨rfl,?_⟩)))
 exact wpS_pure hQ⟩
theorem DM(A:Around)(s:Shared)(hx:DI h s.heap)(hu:A.units<cLine):dm prog w A s (pJ h) (Hh h) oneType':=⟨λE x y st Q px py hk hQ=>by
 refine aO λXq kq=>?_
 refine xo px λa m t e1 i1=>?_
 refine xo py λb n u e2 i2=>?_
 refine kq ?_
 rw[lt'_eq]
 refine wpS_bind (wpS_get ?_)
 rw[hk,e1,e2,keyLt'_oneType]
 have hl:(pJ h).lt x y=decide (m<n):=by
  show decide (qC (iW h x.1)<qC (iW h y.1))=_
  rw[e1,e2]
  show decide (yg h a<yg h b)=_
  rw[qD i1,qD i2]
 rw[hl]at hQ
 refine au i1 λk1 o1=>?_
 refine au i2 λk2 o2=>?_
 refine wpS_bind (wpS_lift (wpAny_attempt (xD ⟨k1,hx _ _ _ o1⟩ ⟨k2,hx _ _ _ o2⟩ hu ⟨rfl,?_⟩)))
 exact wpS_pure hQ⟩
inductive cY:List D→Prop
 |kI {l:List D} (h: ∀d∈l,∃i,d= .int i):cY l
 |kS {l:List D} (h: ∀d∈l,∃i,d= .str i):cY l
 |kO {l:List D} (h: ∀d∈l,∃a i,d= .obj a i):cY l
theorem s9{l:List D}: ∀{vs:List Value},cY l→aF (λ_=>True) h l vs→vs.map (iW h)=l:=by
 have key: ∀{d:D} {v:Value},aZ (λ_=>True) h d v→((∃i,d= .int i)∨(∃i,d= .str i)∨ ∃a i,d= .obj a i)→iW h v=d:=by
  rintro d v r (⟨i,rfl⟩|⟨i,rfl⟩|⟨a,i,rfl⟩)
  ·refine au r λt Ny=>?_
   subst Ny
   rfl
  ·refine au r λt Nz=>?_
   subst Nz
   rfl
  ·obtain⟨rfl,_,t,p⟩:=r
   show D.obj a (yg h a)=_
   rw[qD p]
 intro vs ok r
 have all: ∀d∈l,(∃i,d= .int i)∨(∃i,d= .str i)∨ ∃a i,d= .obj a i:=by
  cases ok with
  |kI k=>exact λd hd=> .inl (k d hd)
  |kS k=>exact λd hd=> .inr (.inl (k d hd))
  |kO k=>exact λd hd=> .inr (.inr (k d hd))
 clear ok
 induction l generalizing vs with
 |nil=>cases r;rfl
 |cons d l ih=>
  refine b8 r λv ws NA r1 rs=>?_
  subst NA
  rw[List.map_cons,key r1 (all d (List.mem_cons_self ..)),ih rs λx hx=>all x (List.mem_cons_of_mem _ hx)]
structure Fy(prog:Program)(w:World)(h:Heap)(s:Shared)(l:List D)(vs:List Value)(C:Ord)(P:Keyed→Prop):Prop where
 ready:kj prog w C P oneType' s vs
 out: ∀out:List Value,C.dk (out.map dup)→C.bf (out.map dup) (vs.map dup)→out.map (iW h)=bg l∧out.Perm vs
theorem kQ{M:Model}{A:Around}{E:Value→Shared→Prop}{T:String}(hT:(Value.type T != .type "tuple")=true){vs:List Value}{Q:SortKind→Shared→Prop}(h2:2≤vs.length)(hv: ∀v∈vs,s.TypeIs v T)(hQ:Q oneType' s):wpAny M A (keyKind' vs.toArray) Q E s:=by
 match vs,h2 with
 |v0::v1::vs,_=>
  refine wC (τ:=λ_=>T) (λv h=>⟨hv v h,hT⟩) ?_
  rw[if_pos (by simp)]
  exact hQ
theorem AB{l:List D}{vs:List Value}(ok:cY l)(r:aF (λ_=>True) h l vs): ∃C P,∀s:Shared,DI h s.heap→Fy prog w h s l vs C P:=by
 have hm:=s9 ok r
 have perm: ∀{C:Ord} {out:List Value},C.bf (out.map dup) (vs.map dup)→out.Perm vs:=λh2=>by
  have:=(h2.perm).map (λx:Keyed=>x.1)
  simpa [List.map_map,dup,Function.comp_def]using this
 have mem: ∀{d:D},d∈vs.map (iW h)→d∈l:=λhd=>hm▸hd
 have item: ∀v∈vs,∃d∈l,aZ (λ_=>True) h d v:=λv hv=>r.SI hv
 cases ok with
 |kI k=>
  have hi: ∀v∈vs,∃i t,v=Value.int i t:=λv hv=>by
   refine ai (item v hv) λd hd rd=>?_
   refine au (k d hd) λi NB=>?_
   subst NB
   refine au rd λt NC=>?_
   subst NC
   exact⟨i,t,rfl⟩
  refine⟨pJ h,isInt,λs hs=>⟨⟨λv hv=>hi v hv,λA s' _ _=>DJ A s',λA s' E Q hx h2 hQ=>kQ (T:= "int") rfl h2 (λv hv=>?_) hQ⟩,λout h1 h2=>⟨?_,perm h2⟩⟩⟩
  ·refine cg (hi v hv) λi t ND=>?_
   subst ND
   rfl
  ·rw[←hm]
   refine ic (O:=mM) (κ:=qC) ⟨λx hx y hy=>?_⟩ h1 h2
   refine au (k x (mem hx)) λi NF=>?_
   subst NF
   refine au (k y (mem hy)) λj NG=>?_
   subst NG
   rfl
 |kS k=>
  have hi: ∀v∈vs,∃i t,v=Value.str i t:=λv hv=>by
   refine ai (item v hv) λd hd rd=>?_
   refine au (k d hd) λi NH=>?_
   subst NH
   refine au rd λt NI=>?_
   subst NI
   exact⟨i,t,rfl⟩
  refine⟨AA h,DH,λs hs=>⟨⟨λv hv=>hi v hv,λA s' _ _=>DK A s',λA s' E Q hx h2 hQ=>kQ (T:= "str") rfl h2 (λv hv=>?_) hQ⟩,λout h1 h2=>⟨?_,perm h2⟩⟩⟩
  ·refine cg (hi v hv) λi t NJ=>?_
   subst NJ
   rfl
  ·rw[←hm]
   refine ic (O:=strKind.toKeyOrd) (κ:=Az) ⟨λx hx y hy=>?_⟩ h1 h2
   refine au (k x (mem hx)) λi NK=>?_
   subst NK
   refine au (k y (mem hy)) λj NL=>?_
   subst NL
   rfl
 |kO k=>
  have hi: ∀v∈vs,Hh h (dup v):=λv hv=>by
   refine ai (item v hv) λd hd rd=>?_
   refine cg (k d hd) λa i NM=>?_
   subst NM
   obtain⟨rfl,_,t,p⟩:=rd
   exact⟨a,i,t,rfl,p⟩
  refine⟨pJ h,Hh h,λs hs=>⟨⟨hi,λA s' hu hx=>DM A s' (λa xs n e=>hx _ _ (hs a xs n e)) hu,λA s' E Q hx h2 hQ=>kQ (T:= "list") rfl h2 (λv hv=>?_) hQ⟩,λout h1 h2=>⟨?_,perm h2⟩⟩⟩
  ·obtain⟨a,i,t,e,n,ho⟩:=hi v hv
   obtain rfl:=(show v= .ref a from e)
   exact⟨_,hx _ _ (hs _ _ _ ho),rfl⟩
  ·rw[←hm]
   refine ic (O:=mM) (κ:=qC) ⟨λx hx y hy=>?_⟩ h1 h2
   refine cg (k x (mem hx)) λa i NN=>?_
   subst NN
   refine cg (k y (mem hy)) λb j NO=>?_
   subst NO
   rfl
end
end Mine.Internal
end
section
open PySem PyProof.Rows
namespace Mine.Internal
noncomputable def wD:Str:=Str.ofString "Value cannot be converted to a float"
theorem oJ(x y:Value):keyLt' general' x y=oneLt' false x y:=rfl
section
variable{prog:Program}{w:World}{M:Model}{A:Around}{E:Value→Shared→Prop}{s:Shared}
theorem nz{α:Type}{m:Sem α}{Q:α→SortSt→Shared→Prop}{st:SortSt}(h:wpAny M A m (λa s'=>Q a st s') E s):ju M A E (liftM m:StateT SortSt Sem α) Q st s:=by
 unfold ju
 show wpAny M A ((StateT.lift m:StateT SortSt Sem α).run st) _ E s
 rw[StateT.run_lift]
 exact wpAny_bind (wpAny_mono h (λa s' h'=>wpAny_pure h') λ_ _ e=>e)
noncomputable def lC(Ta Tb:String):String:=s!"'{"<"}' not supported between instances of '{shownName Ta}' and '{shownName Tb}'"
theorem lD{a b:Value}{Ta Tb XB XC:String}{Q:Value→Shared→Prop}(hh:A.handled=none)(ha: ∀s':Shared,s'.TypeIs a Ta)(hb: ∀s':Shared,s'.TypeIs b Tb)
  (fB:(Value.type Ta != Value.type Tb)=true) (mS:isSubtype (.type Tb) (.type Ta)=pure false) (h1:Slot Ta (cmpInfo .Lt).2.1 XB) (h2:Slot Tb (cmpInfo .Lt).2.2 XC)
  (Va:(Value.type Ta==Value.type "builtin_function_or_method")=false) (Zy:(Value.type Tb==Value.type "builtin_function_or_method")=false)
  (hc:wpAny M A (call (.builtin XB) [a,b]) (λv s₁=>v= .notImplemented∧wpAny M A (call (.builtin XC) [b,a]) (λv s₂=>v= .notImplemented∧
   ∀h' tk t e,Heap.MadeExcOf s₂.heap h' e (.type "TypeError") [.str (Str.ofString (lC Ta Tb)) t]→E (.ref e) {s₂ with heap:=h',toks:=tk}) E s₁) E s)
  (hv: [a,b].any Value.onHeap=false) (hm:(Str.ofString (lC Ta Tb)).length≤sizeLine):
  wpAny M A (richCompare .Lt a b) Q E s:=by
 simp only[richCompare,cmpInfo,(ha s).oneThing_none]at h1 h2 ⊢
 refine wpAny_holding ?_
 refine wpAny_bind (wpAny_cRoomFor_or (.inl hv) ?_)
 refine wpAny_bind (wpAny_typeOf (ha s) (wpAny_bind (wpAny_typeOf (hb s) ?_)))
 simp only[fB,if_true]
 refine wpAny_bind (wpAny_of_eq mS ?_)
 simp only[Bool.false_eq_true,if_false,Bool.not_false,if_true]
 refine wpAny_bind (m:=tryCompare a _ b) (wpAny_tryCompare_declines (ha s) h1 (wpAny_mono hc (λv s₁ h₁=>⟨h₁.1,?_⟩) λ_ _ x=>x))
 refine wpAny_bind (m:=tryCompare b _ a) (wpAny_tryCompare_declines (hb s₁) h2 (wpAny_mono h₁.2 (λv s₂ h₂=>⟨h₂.1,?_⟩) λ_ _ x=>x))
 exact wpAny_bind (wpAny_rule (wpAny_bind (wpAny_typeNameOf' (ha s₂) Va (wpAny_bind (wpAny_typeNameOf' (hb s₂) Zy (fZ plainExc_TypeError hh h₂.2 hm))))))
theorem uW{i:Int}{t:Tok}{x:Str}{u:Tok}{Q:Value→Shared→Prop}(hh:A.handled=none)
  (h: ∀h' tk t e,Heap.MadeExcOf s.heap h' e (.type "TypeError") [.str (Str.ofString (lC "int" "str")) t]→E (.ref e) {s with heap:=h',toks:=tk}):
  wpAny (model prog w) A (richCompare .Lt (.int i t) (.str x u)) Q E s:=by
 refine lD hh (λs'=>typeIs_int s' i t) (λs'=>typeIs_str s' x u) (by decide) isSubtype_str_int slot_int_lt PySem.slot_str_gt (by decide) (by decide) ?_ rfl (by show _≤sizeLine;rw[sizeLine_eq];decide+kernel)
 refine wpAny_call_entry slot_int_lt (typeIs_int s i t) entry_int_lt
  (show wpAny _ _ (do rule "int.binary.not-an-int";ret .notImplemented) _ _ s from wpAny_bind (wpAny_rule (wpAny_pure ⟨_,rfl,rfl,?_⟩))) (args_int_lt _ _)
 exact wpAny_call_entry PySem.slot_str_gt (typeIs_str s x u) PySem.entry_str_gt
  (show wpAny _ _ (do rule "str.__gt__.not-a-str";ret .notImplemented) _ _ s from wpAny_bind (wpAny_rule (wpAny_pure ⟨_,rfl,rfl,h⟩))) (PySem.args_str_gt _ _)
theorem uX{i:Int}{t:Tok}{x:Str}{u:Tok}{Q:Value→Shared→Prop}(hh:A.handled=none)
  (h: ∀h' tk t e,Heap.MadeExcOf s.heap h' e (.type "TypeError") [.str (Str.ofString (lC "str" "int")) t]→E (.ref e) {s with heap:=h',toks:=tk}):
  wpAny (model prog w) A (richCompare .Lt (.str x u) (.int i t)) Q E s:=by
 refine lD hh (λs'=>typeIs_str s' x u) (λs'=>typeIs_int s' i t) (by decide) PySem.F.sub_int_str PySem.F.slot_str_lt PySem.F.slot_int_gt_refl (by decide) (by decide) ?_ rfl (by show _≤sizeLine;rw[sizeLine_eq];decide+kernel)
 refine wpAny_call_entry PySem.F.slot_str_lt (typeIs_str s x u) PySem.F.entry_str_lt
  (show wpAny _ _ (do rule "str.__lt__.not-a-str";ret .notImplemented) _ _ s from wpAny_bind (wpAny_rule (wpAny_pure ⟨_,rfl,rfl,?_⟩))) (PySem.F.args_str_lt_2 _ _)
 exact wpAny_call_entry PySem.F.slot_int_gt_refl (typeIs_int s i t) PySem.F.entry_int_gt
  (show wpAny _ _ (do rule "int.binary.not-an-int";ret .notImplemented) _ _ s from wpAny_bind (wpAny_rule (wpAny_pure ⟨_,rfl,rfl,h⟩))) (PySem.F.args_int_gt_2 _ _)
noncomputable def bH(m:Str):Prop:=(m==wD)=false
theorem Hi:bH (Str.ofString (lC "int" "str")):=by unfold bH;decide+kernel
theorem Hj:bH (Str.ofString (lC "str" "int")):=by unfold bH;decide+kernel
theorem DN{l0:List Keyed}(hh:A.handled=none)(hl: ∀x∈l0,isInt x∨DH x):kH prog w A s isInt general' l0 λst mD=> ∃e,failedOf st=some (.ref e)∧Ax bH s mD e:=⟨λE x y st Q hx hy hk ho h1 h2=>by
 have bad: ∀{Ta Tb:String},bH (Str.ofString (lC Ta Tb))→(¬isInt x∨ ¬isInt y)→ ∀h' tk t e,Heap.MadeExcOf s.heap h' e (.type "TypeError") [.str (Str.ofString (lC Ta Tb)) t]→
   Q none (SortSt.mk' (kindOf st) (arrOf st) (pendingOf st) (gallopOf st) (some (.ref e))) {s with heap:=h',toks:=tk}:=λhb hn h' tk t e m=>h2 hn _ _ rfl ⟨e,rfl,h',tk,t,_,hb,rfl,m⟩
 rw[lt'_eq]
 refine aI (fX (wpS_get ?_))
 rw[hk,oJ,oneLt'_eq]
 simp only[Bool.false_eq_true,if_false]
 have DO: ∀{z:Keyed},DH z→ ¬isInt z:=λ⟨i,t,e⟩ ⟨j,u,e'⟩=>by rw[e]at e';cases e'
 rcases hl x hx with px|px <;> rcases hl y hy with py|py
 ·refine cg (id px) λa t e1=>?_
  refine cg (id py) λb u e2=>?_
  rw[e1,e2]
  refine aI (nz (wpAny_attempt (wpAny_bind (m:=richCompare .Lt (.int a t) (.int b u)) ?_)))
  refine(show wpAny (model prog w) A (compareOp .Lt (.int a t) (.int b u)) _ _ _ from lt_int ?_)
  exact wpAny_truthy_bool (aH (h1 px py _))
 ·refine cg (id px) λa t e1=>?_
  refine cg (id py) λb u e2=>?_
  rw[e1,e2]
  refine aI (nz (wpAny_attempt (wpAny_bind (m:=richCompare .Lt (.int a t) (.str b u)) (uW hh λh' tk t' e m=>?_))))
  exact aI (fX (wpS_modify (aH (bad Hi (.inr (DO py)) h' tk t' e m))))
 ·refine cg (id px) λa t e1=>?_
  refine cg (id py) λb u e2=>?_
  rw[e1,e2]
  refine aI (nz (wpAny_attempt (wpAny_bind (m:=richCompare .Lt (.str a t) (.int b u)) (uX hh λh' tk t' e m=>?_))))
  exact aI (fX (wpS_modify (aH (bad Hj (.inl (DO px)) h' tk t' e m))))
 ·rcases ho with h|h
  ·exact absurd h (DO px)
  ·exact absurd h (DO py)⟩
structure pK(l:List D)(h:Nat):Prop where
 two:2≤l.length
 at_: ∃x,l[h]? =some (.str x)
 ok: ∀i d,i≠h→l[i]? =some d→ ∃n,d= .int n
 run:h<minRun' l.length l.length 0
theorem yh{l:List D}{vs:List Value}{h:Nat}(m:pK l h)(r:aF (λ_=>True) s.heap l vs):nu prog w isInt general' s vs h (Ax bH):=by
 refine au m.at_ λx hx=>?_
 have hlen:=r.length
 have hh:h<l.length:=(List.getElem?_eq_some_iff.mp hx).1
 have Vb: ∀{i:Nat} {d:D},l[i]? =some d→ ∃v,vs[i]? =some v∧aZ (λ_=>True) s.heap d v:=λe=>r.get e
 have vals: ∀(i:Nat) (v:Value),vs[i]? =some v→(i=h→ ∃t,v= .str x t)∧(i≠h→ ∃n t,v= .int n t):=λi v hv=>by
  have hi:i<l.length:=hlen▸(List.getElem?_eq_some_iff.mp hv).1
  refine ai (Vb (List.getElem?_eq_getElem hi)) λu hu ru=>?_
  replace hu:=hv▸hu
  obtain rfl:=Option.some.inj hu
  constructor
  ·rintro rfl
   rw[List.getElem?_eq_getElem hi]at hx
   rw[Option.some.inj hx]at ru
   exact ru
  ·intro e
   refine au (m.ok i _ e (List.getElem?_eq_getElem hi)) λn hn=>?_
   replace ru:=hn▸ru
   exact⟨n,ru⟩
 have AD: ∀{i:Nat} {z:Keyed},(vs.map dup)[i]? =some z→ ∃v,vs[i]? =some v∧z=dup v:=λe=>by
  rw[List.getElem?_map]at e
  refine ai (Option.map_eq_some_iff.mp e) λv hv NP=>?_
  subst NP
  exact⟨v,hv,rfl⟩
 refine⟨⟨by rw[List.length_map,hlen];exact hh,by rw[List.length_map,hlen];exact m.two,λz hz=>?_,λi z hi hz=>?_⟩,by rw[hlen];exact m.run,λA s' ha _=>DN ha λz hz=>?_,λA s' E Q cv hQ=>?_⟩
 ·refine ai (AD hz) λv hv NQ=>?_
  subst NQ
  refine au ((vals h v hv).1 rfl) λt NR=>?_
  subst NR
  rintro ⟨_,_,e⟩
  cases e
 ·refine ai (AD hz) λv hv NS=>?_
  subst NS
  refine cg ((vals i v hv).2 hi) λn t NT=>?_
  subst NT
  exact⟨n,t,rfl⟩
 ·refine ai (List.mem_map.mp hz) λv hv NU=>?_
  subst NU
  obtain⟨i,hi,rfl⟩:=List.getElem_of_mem hv
  by_cases e:i=h
  ·refine au ((vals i _ (List.getElem?_eq_getElem hi)).1 e) λt ht=>?_
   exact .inr ⟨x,t,ht⟩
  ·refine cg ((vals i _ (List.getElem?_eq_getElem hi)).2 e) λn t ht=>?_
   exact .inl ⟨n,t,ht⟩
 ·have hτ: ∀v∈vs,s'.TypeIs v (match v with| .str .. => "str"|_=> "int")∧(Value.type (match v with| .str .. => "str"|_=> "int") != .type "tuple")=true:=λv hv=>by
   obtain⟨i,hi,rfl⟩:=List.getElem_of_mem hv
   by_cases e:i=h
   ·refine au ((vals i _ (List.getElem?_eq_getElem hi)).1 e) λt ht=>?_
    rw[ht];exact⟨rfl,rfl⟩
   ·refine cg ((vals i _ (List.getElem?_eq_getElem hi)).2 e) λn t ht=>?_
    rw[ht];exact⟨rfl,rfl⟩
  refine cg (List.exists_cons_of_ne_nil (l:=vs) (λe=>by rw[e]at hlen;exact absurd (hlen▸m.two) (by decide))) λv0 fi NV=>?_
  subst NV
  refine wC (τ:=λv=>match v with| .str .. => "str"|_=> "int") hτ ?_
  rw[if_neg]
  ·exact hQ
  intro fA
  have fA:=List.all_eq_true.mp fA
  have other: ∃j,j≠h∧j<l.length:=by
   have:=m.two
   by_cases e:h=0
   ·exact⟨1,by rw[e];decide,by assumption⟩
   ·exact⟨0,λq=>e q.symm,by exact Nat.lt_of_succ_lt ‹_›⟩
  refine ai other λj hj Uy=>?_
  have Rg:j<(v0::fi).length:=by rw[hlen];exact Uy
  have CD:h<(v0::fi).length:=by rw[hlen];exact hh
  refine au ((vals h _ (List.getElem?_eq_getElem CD)).1 rfl) λt ht=>?_
  refine cg ((vals j _ (List.getElem?_eq_getElem Rg)).2 hj) λn u hn=>?_
  have q1:=fA _ (List.getElem_mem CD)
  have q2:=fA _ (List.getElem_mem Rg)
  replace q1:=ht▸q1
  replace q2:=hn▸q2
  have q1:=eq_of_beq q1
  have q2:=eq_of_beq q2
  replace q2:=q1.symm▸q2
  exact absurd (show("int":String)= "str" from q2) (by decide)
end
end Mine.Internal
end
section
open PySem PyProof.Rows
namespace Mine.Internal
noncomputable def nA(prog:Program)(w:World)(A:Around)(s:Shared)(x:Value)(vs:List Value)(g:Addr→Prop):Prop:=
 ∀(Q:List Value→Shared→Prop) (E:Value→Shared→Prop),(∀h1 ua,(∀b o,¬g b→s.heap.get? b=some o→h1.get? b=some o)→(∀b,g b→cb h1 b)→Q vs {s with heap:=h1,toks:=ua})→wpAny (model prog w) A.in1 (collect x) Q E s
noncomputable def rowOf:D→Option (List D)
 | .list l=>some l
 | .lM l=>some l
 |_=>none
section
variable{prog:Program}{w:World}{A:Around}{E:Value→Shared→Prop}{s:Shared}{Z:Addr→Prop}
theorem collects{d:D}{v:Value}{l:List D}{n:Nat}(hh:A.handled=none)(hl:rowOf d=some l)(hr:aw Z s.heap n d v)(hn:n≤1):
  ∃vs,aF (λ_=>True) s.heap l vs∧(aF Z s.heap l vs)∧l.length≤bW∧nA prog w A s v vs (given [d] [v]):=by
 have hz:=bY
 cases d <;> first|(cases hl;done)|skip
 ·cases hl
  refine ft (iL rfl (hr.le hn)) λa vs NW hlen hp jd=>?_
  subst NW
  have dG:=jd.length
  refine⟨vs,jd.mono λ_ _ _=>trivial,jd,hlen,λQ E hQ=>?_⟩
  refine collect_list hp.isList (hQ _ s.toks (λb o _ e=>?_) λb hb=>by obtain⟨⟨l,e⟩,_⟩:=b9.mp hb;cases e) (IS dG hlen hz)
  rw[Heap.get?_update_other _ _ (λe'=>Nat.lt_irrefl _ (e'▸Heap.lt_size e))]
  exact Heap.get?_push_of_some _ e
 ·cases hl
  refine aO λXq kq=>?_
  refine CS (aw.plain hr rfl) λI a vs NX W2 W3 fB hlen d7 jr jd=>?_
  subst NX
  refine kq ?_
  have dG:=jd.length
  refine⟨vs,jd.mono λ_ _ _=>trivial,jd,hlen,λQ E hQ=>?_⟩
  refine oF hh d7 jr fB (IS dG hlen hz) λh' tk k sp=>hQ h' tk (λb o hb e=>k b o (λq=>hb (b9.mpr ⟨⟨_,rfl⟩,by rw[q]⟩)) e) λb hb=>?_
  refine aX (b9.mp hb) λ_ e=>?_
  cases e
  exact sp
theorem uY{v:Value}{vs:List Value}{l:List D}{g:Addr→Prop}{Q:Value→Shared→Prop}(hu:A.units+6<cLine)(ok:cY l)(r:aF (λ_=>True) s.heap l vs)(rz:aF Z s.heap l vs)(hl:l.length≤bW)(hc:nA prog w A s v vs g)(hg: ∀b,g b→ ∃o,s.heap.get? b=some o∧ ∀xs n,o.data≠ .seq xs n)
  (hZ: ∀a,s.heap.get? a=none→Z a) (Zz: ∀b,g b→Z b)
  (hQ: ∀D' h' tk out k,(∀b o,¬g b→s.heap.get? b=some o→h'.get? b=some o)→(∀b,g b→cb h' b)→Z D'→h'.get? D'=some (seqObj "list" out k)→aF Z h' (bg l) out.toList→Q (.ref D') {s with heap:=h',toks:=tk}):
  wpAny (model prog w) A (call (.builtin "sorted") [v]) Q E s:=by
 have hz:=bY
 obtain⟨C,P,hS⟩: ∃C P,∀s':Shared,DI s.heap s'.heap→Fy prog w s.heap s' l vs C P:=AB ok r
 -- ql items are data ZA no iterator bears
 have flat: ∀d∈l,(∃i,d= .int i)∨(∃i,d= .str i)∨ ∃a i,d= .obj a i:=by
  cases ok with
  |kI k=>exact λd hd=> .inl (k d hd)
  |kS k=>exact λd hd=> .inr (.inl (k d hd))
  |kO k=>exact λd hd=> .inr (.inr (k d hd))
 have item: ∀(h':Heap),(∀b o,¬g b→s.heap.get? b=some o→h'.get? b=some o)→ ∀(Z':Addr→Prop) {d:D} {v:Value},d∈l→aZ Z' s.heap d v→aZ Z' h' d v:=by
  intro h' hk Z' d v hd rd
  rcases flat d hd with⟨i,rfl⟩|⟨i,rfl⟩|⟨a,i,rfl⟩
  ·exact rd
  ·exact rd
  ·obtain⟨e,z,t,n,ho⟩:=rd
   refine⟨e,z,t,n,hk a _ (λVc=>?_) ho⟩
   refine ai (hg a Vc) λo q1 q2=>?_
   replace q1:=ho▸q1
   obtain rfl:=Option.some.inj q1
   exact q2 _ _ rfl
 refine uj (C:=C) (P:=P) (kd:=oneType') hu (hc _ _ λh1 ua xx Vd=>?_)
 have dG:=r.length
 have jG:DI s.heap h1:=λa xs n e=>xx a _ (λVc=>by
  refine ai (hg a Vc) λo q1 q2=>?_
  replace q1:=e▸q1
  obtain rfl:=Option.some.inj q1
  exact q2 _ _ rfl) e
 obtain⟨S1,S2⟩:=hS {s with heap:=h1,toks:=ua} jG
 refine⟨IS dG hl hz,S1,λout h' D e hk hD ho q1 q2=>?_⟩
 refine aX (S2 out q1 q2) λe1 e2=>?_
 have CF: ∀b o,¬g b→s.heap.get? b=some o→h'.get? b=some o:=λb o hb e=>hk b o (xx b o hb e)
 refine hQ D h' ua out.toArray e CF (λb hb=>(Vd b hb).ext λo e=>hk b o e) ?_ ho ?_
 ·by_cases tY:g D
  ·exact Zz D tY
  ·refine hZ D ?_
   cases e':s.heap.get? D with
   |none=>rfl
   |some o=>exact absurd (Heap.lt_size (xx D o tY e')) (Nat.not_lt.mpr hD)
 ·refine aF.of_get (by rw[dx,←dG];exact e2.length_eq) λi d v xu xv=>?_
  have hv:v∈vs:=e2.mem_iff.mp (List.mem_of_getElem? xv)
  obtain⟨j,hj,rfl⟩:=List.getElem_of_mem hv
  refine ai (rz.get' (List.getElem?_eq_getElem hj)) λd' fo rd=>?_
  have dt:d=d':=by
   have a1:(out.map (iW s.heap))[i]? =some (iW s.heap vs[j]):=by rw[List.getElem?_map,xv];rfl
   rw[e1,xu]at a1
   have a2:(vs.map (iW s.heap))[j]? =some (iW s.heap vs[j]):=by rw[List.getElem?_map,List.getElem?_eq_getElem hj];rfl
   rw[s9 ok r,fo]at a2
   exact Option.some.inj (a1.trans a2.symm)
  subst dt
  exact item h' CF Z (List.mem_of_getElem? fo) rd
theorem uZ{v:Value}{vs:List Value}{l:List D}{h:Nat}{g:Addr→Prop}{Q:Value→Shared→Prop}(hh:A.handled=none)(m:pK l h)(r:aF (λ_=>True) s.heap l vs)(hl:l.length≤bW)(hc:nA prog w A s v vs g)
  (hE: ∀h1 h' tk e msg t,(∀b o,¬g b→s.heap.get? b=some o→h1.get? b=some o)→(∀b,g b→cb h1 b)→Heap.MadeExcOf h1 h' e (.type "TypeError") [.str msg t]→bH msg→E (.ref e) {s with heap:=h',toks:=tk}):
  wpAny (model prog w) A (call (.builtin "sorted") [v]) Q E s:=by
 have hz:=bY
 have dG:=r.length
 refine uS (P:=isInt) (kd:=general') (h:=h) (pm:=bH) hh (hc _ _ λh1 ua xx Vd=>⟨IS dG hl hz,yh m (aF.of_get dG λi d w xu xv=>?_),λh2 h' tk e msg t k mx hm=>hE h2 h' tk e msg t (λb o hb e=>k b o (xx b o hb e)) (λb hb=>(Vd b hb).ext λo e=>k b o e) mx hm⟩)
 refine ai (r.get xu) λw' h3 r3=>?_
 replace h3:=xv▸h3
 obtain rfl:=Option.some.inj h3
 by_cases e:i=h
 ·refine au m.at_ λx hx=>?_
  rw[e,hx]at xu
  obtain rfl:=Option.some.inj xu
  exact r3
 ·refine au (m.ok i d e xu) λn NY=>?_
  subst NY
  exact r3
end
end Mine.Internal
end
section
open PySem PyProof.Rows
namespace Mine.Internal
set_option genCtorIdx true in
inductive XK where
 |dj|past|kind (b:Bool)|val
noncomputable def XK.ok(X:Value)(k:XK)(cls:Value)(m:Option Str):Prop:=
 match k with
 | .dj=>cls=X∧m=some (Str.ofString "no median for empty data")
 | .past=>cls= .type "OverflowError"
 | .kind b=>cls= .type "TypeError"∧ ∃msg,m=some msg∧(msg==wD)=b
 | .val=>cls= .type "ValueError"
noncomputable def ub(c:Cx)(X:Value)(sc:Scope)(asg:Str→Bool)(P:ah→XK→Prop)(l:List Stmt):Prop:=
 ∀(A:Around) (env:Env) (s:Shared) (σ:ah) (K C:Addr→Prop) (base h0:Heap) (outer:List Env) (k:XK) (Q:Flow→Shared→Prop) (E:Value→Shared→Prop),env.scope=sc→ny c A env s σ K C asg base h0 outer→P σ k→
  (∀h' tk e cls m,k.ok X cls m→nv base env outer h0 h' e cls m→E (.ref e) {s with heap:=h',toks:=tk})→wpAny (model c.prog c.w) A (execs l env) Q E s
noncomputable def NZ(c:Cx)(X:Value)(sc:Scope)(asg:Str→Bool)(P:ah→XK→Prop)(st:Stmt):Prop:=
 ∀(A:Around) (env:Env) (s:Shared) (σ:ah) (K C:Addr→Prop) (base h0:Heap) (outer:List Env) (k:XK) (Q:Flow→Shared→Prop) (E:Value→Shared→Prop),env.scope=sc→ny c A env s σ K C asg base h0 outer→P σ k→
  (∀h' tk e cls m,k.ok X cls m→nv base env outer h0 h' e cls m→E (.ref e) {s with heap:=h',toks:=tk})→wpAny (model c.prog c.w) A (exec st env) Q E s
noncomputable def Ry(c:Cx)(X:Value)(sc:Scope)(P:ah→XK→Prop)(x:Expr):Prop:=
 ∀(A:Around) (env:Env) (s:Shared) (σ:ah) (Z:Addr→Prop) (k:XK) (Q:Value→Shared→Prop) (E:Value→Shared→Prop),env.scope=sc→lN c A env s σ Z→P σ k→
  (∀h1 h' tk e cls m,k.ok X cls m→Ext s.heap h1→kP h1 h' e cls m→E (.ref e) {s with heap:=h',toks:=tk})→wpAny (model c.prog c.w) A (eval x env) Q E s
section
variable{c:Cx}{X:Value}{sc:Scope}{asg:Str→Bool}{P P':ah→XK→Prop}
theorem ny.ext{A:Around}{env:Env}{s:Shared}{σ:ah}{K C:Addr→Prop}{base h0:Heap}{outer:List Env}(x:ny c A env s σ K C asg base h0 outer){h1:Heap}(hx:Ext s.heap h1):
  base.StaysIn h1∧h1.FunFrames base (env::outer)∧h0.UpToSlots h1:=
 ⟨λb o e=>hx b o (x.st b o e),x.fl.of_keeps λb o e _=>⟨o,hx b o e,rfl⟩,x.up.trans (.of_keeps hx)⟩
theorem Ve{x:Expr}{pos:Pos}(h:Ry c X sc P x):NZ c X sc asg P (.Return (some x) pos):=λA env s σ K C base h0 outer k Q E he xa hP hE=>by
 refine wpAny_Return_some (h A env s σ _ k _ E he xa.act.pre hP λh1 h' tk e cls m hk hx x=>?_)
 refine gM (xa.ext hx) λq1 q2 q3=>?_
 exact hE h' tk e cls m hk (.made h1 q1 q2 q3 x)
theorem ie{st:Stmt}{l:List Stmt}(h:NZ c X sc asg P st):ub c X sc asg P (st::l):=λA env s σ K C base h0 outer k Q E he xa hP hE=>
 wpAny_execs_cons (h A env s σ K C base h0 outer k _ E he xa hP hE)
theorem lS{a:MS}{st:Stmt}{l:List Stmt}(ha:dI c sc asg a st)(hw: ∀x,c.ow x=0)(h:ub c X sc asg P l):ub c X sc asg (λσ k=> ∃σ',run c.Φ a σ=some (.nx σ')∧P σ' k) (st::l):=by
 intro A env s σ K C base h0 outer k Q E he xa ⟨σ',hr,hP⟩ hE
 refine wpAny_execs_cons (ha A env s σ K C noOwn _ _ E he xa.act xa.oo hr λh' tk K' dB act oo g=>?_)
 have ro:dB=noOwn:=funext λx=>by
  have:=oo x
  rw[hw x]at this
  simp at this
  exact this
 subst ro
 exact h A env _ σ' K' C base h0 outer k Q E he (xa.next act oo g) hP hE
theorem AE{t:ME}{x:Expr}{l1 l2:List Stmt}{pos:Pos}(ht:dN c sc t x)(h1:ub c X sc asg P l1)(h2:ub c X sc asg P' l2):
  NZ c X sc asg (λσ k=>((ar c.Φ t).t σ=some true∧P σ k)∨((ar c.Φ t).t σ=some false∧P' σ k)) (.If x l1 l2 pos):=by
 intro A env s σ K C base h0 outer k Q E he xa hP hE
 have nx: ∀{h':Heap} {tk:Nat},Ext s.heap h'→ny c A env {s with heap:=h',toks:=tk} σ K C asg base h0 outer:=λhx=>
  xa.next (xa.act.next hx) xa.oo (.ext hx)
 rcases hP with⟨e1,hP⟩|⟨e1,hP⟩
 ·exact wpAny_If (ht A env s σ _ true _ E he xa.act.pre e1 λh' tk hx=>h1 A env _ σ K C base h0 outer k Q E he (nx hx) hP hE)
 ·exact wpAny_If (ht A env s σ _ false _ E he xa.act.pre e1 λh' tk hx=>h2 A env _ σ K C base h0 outer k Q E he (nx hx) hP hE)
theorem td{l:List Stmt}:ub c X sc asg (λ_ _=>False) l:=λA env s σ K C base h0 outer k Q E he xa hP hE=>hP.elim
end
end Mine.Internal
end
section
open PySem PyProof.Rows
namespace Mine.Internal
noncomputable def Fn.fd(f:Fn)(pm cd doc dV:Value):FuncData:={Calls.docDef f.name f.params f.body f.scope pm cd doc with defaults:=dV}
noncomputable def ig(f:Fn)(dV:Value)(a:Addr)(h:Heap):Prop:= ∃o pm cd doc,h.get? a=some o∧o.data= .func (f.fd pm cd doc dV)∧h.CodeRec cd f.name
noncomputable def pL(f:Fn)(dV:Value)(h:Heap):Prop:= ∀(s:Shared) pm cd doc vals,Ext h s.heap→vals.length=f.ps.length→BindsTo s (f.fd pm cd doc dV) ⟨vals,[]⟩ (f.ps.zip vals)
theorem FnAt.d{f:Fn}{a:Addr}{h:Heap}(x:FnAt f a h):ig f .none a h:=x
theorem dX.d{f:Fn}{h:Heap}(x:dX f):pL f .none h:=λs pm cd doc vals _ hl M A E Q hQ=>by
 rw[show bindArgs (f.fd pm cd doc .none) ⟨vals,[]⟩=pure (f.ps.zip vals)from x pm cd doc vals hl]
 exact wpAny_pure hQ
theorem ig.keeps{f:Fn}{dV:Value}{a:Addr}{h h':Heap}(x:ig f dV a h)(k:Ext h h'):ig f dV a h':=let⟨o,pm,cd,doc,h1,h2,h3⟩:=x;⟨o,pm,cd,doc,k _ _ h1,h2,h3.keeps k⟩
theorem te{prog:Program}{w:World}{A:Around}{s:Shared}{R:Result→Shared→Prop}{a:Addr}{o:Obj}{fd:FuncData}{body:List Stmt}{vals:List Value}{binds:List (Str×Value)}
  (cm:A.depth<recursionLimit) (ho:s.heap.get? a=some o) (N0:o.data= .func fd) (cf:s.heap.NoLimit) (CL:s.heap.CodeRec fd.code fd.qualname) (fL:fd.body= .stmts body) (cn:BindsTo s fd ⟨vals,[]⟩ binds) (Vf:fd.closure= [])
  (sQ: ∀x∈binds,fd.scope.names.lookup x.1=some .local∨(fd.scope.names.lookup x.1=some .cell∧((cellsFrom (s.heap.objs.size+1) fd.scope.names []).lookup x.1).isSome=true))
  (h: ∀s₁,InCallC s (callEnvC fd s.heap.objs.size a).locals (bindL (callEnvC fd s.heap.objs.size a).kindOf binds λ_=>none) (callEnvC fd s.heap.objs.size a).cells (bindC (callEnvC fd s.heap.objs.size a).kindOf binds λ_=>none) s₁→
   wpAny (model prog w) (A.deeper (callEnvC fd s.heap.objs.size a)) (execs body (callEnvC fd s.heap.objs.size a)) (λf s'=>R (.ok (.ret (match f with| .ret v=>v|_=> .none))) s')
    (λe s'=>wpAny (model prog w) (A.deeper (callEnvC fd s.heap.objs.size a)) (leaving (callEnvC fd s.heap.objs.size a) e) (λ_ mD=>R (.error e) mD) (λe' mD=>R (.error e') mD) s') s₁)
  (Aa:fd.scope.isCoroutine=false) (qA:fd.scope.isGenerator=false) (hk:fd.scope.kind= .function):codeAny (model prog w) A (.call (.ref a) ⟨vals,[]⟩) R s:=by
 refine codeAny_call_function cm ho N0 Aa qA fL CL (cn _ _ _ _ ?_)
 rw[Vf]
 refine wpAny_newFunctionEnv_cells hk sQ λenv he s' x=>?_
 subst he
 exact⟨cf.keeps x.toInCall.keep,codeAny_func (h s' x)⟩
section
variable{c:Cx}{X:Value}{dV:Value}
theorem pN{f:Fn}{A:Around}{s:Shared}{a:Addr}{vs:List Value}{Q:Value→Shared→Prop}{E:Value→Shared→Prop}(hf:bU f=true){hT:Heap}(cn:pL f dV hT)(ZB:Ext hT s.heap)(cm:jo (c.k+1) A)(cf:s.heap.NoLimit)(gg:ig f dV a s.heap)(hlen:vs.length=f.ps.length)
  (h: ∀env s₁,env.scope=f.scope→env.frame=some env.locals→env.locals=s.heap.objs.size→env.scope.kind≠ .module→InCallC s env.locals (bindL env.kindOf (f.ps.zip vs) λ_=>none) env.cells (bindC env.kindOf (f.ps.zip vs) λ_=>none) s₁→
   (∀{σ:ah} {K Z:Addr→Prop},c.nt.Nodup→Ext c.hT s.heap→(∀a,s.heap.get? a=none→Z a)→(∀a,s.heap.get? a=none→K a)→
    (∀i d n,σ i=some d→c.nt[i]? =some n→ ∃v,(n,v)∈f.ps.zip vs∧aw (λa=>K a∧Z a) s.heap (c.lv i) d v∧aZ K s.heap d v)→Act c (A.deeper env) env s₁ σ K Z (aW f.scope) noOwn)→
   wpAny (model c.prog c.w) (A.deeper env) (execs f.body env) (λfl s'=> ∃v,fl= .ret v∧Q v s') (λe s'=>wpAny (model c.prog c.w) (A.deeper env) (leaving env e) (λ_ mD=>E e mD) E s') s₁):
  wpAny (model c.prog c.w) A (call (.ref a) vs) Q E s:=by
 refine aO λXq kq=>?_
 refine eh gg λo pm cd doc ho hd CL=>?_
 have oE:=hf
 simp only[bU,Bool.and_eq_true,beq_iff_eq,Bool.not_eq_true',decide_eq_true_eq]at oE
 refine aX oE λZC h5=>?_
 obtain⟨⟨⟨⟨⟨h1,Aa⟩,qA⟩,h2⟩,h3⟩,h4⟩:=ZC
 refine kq ?_
 refine wpAny_call (te (fd:=f.fd pm cd doc dV) (body:=f.body) (fu cm.depth) ho hd cf CL rfl (cn s pm cd doc vs ZB hlen) rfl (λx hx=>?_) (λs₁ hx=>?_) Aa qA h1)
 ·have hm:x.1∈f.ps:=(List.of_mem_zip (show(x.1,x.2)∈f.ps.zip vs from hx)).1
  have:=List.all_eq_true.mp h5 x.1 hm
  simp only[Bool.or_eq_true,beq_iff_eq]at this
  rcases this with h|h
  ·exact .inl h
  ·refine ai (cL f.scope.names (s.heap.objs.size+1) [] (mem_of_lookup h)) λb q1 _=>?_
   exact .inr ⟨h,by rw[show(f.fd pm cd doc dV).scope=f.scope from rfl,q1];rfl⟩
 ·refine wpAny_mono (h _ s₁ rfl rfl rfl (by show f.scope.kind≠ .module;rw[h1];simp) hx λ{σ K Z} n1 n2 n3 n4 n5=>kF rfl rfl rfl hf hlen cm n1 n2 n3 n4 hx n5) (λfl s' ⟨v,e,q⟩=>by subst e;exact q) λ_ _ x=>x
set_option genCtorIdx true in
inductive Res where
 |told (d:D)|exc (k:XK)
noncomputable def jS(X:Value)(r:Res)(g Z:Addr→Prop)(base:Heap)(outer:List Env)(s:Shared)(Q:Value→Shared→Prop)(E:Value→Shared→Prop):Prop:=
 match r with
 | .told d=> ∀v h' tk,base.StaysIn h'→s.heap.UpToSlots h'→(∀b,g b→cb h' b)→aZ Z h' d v→Q v {s with heap:=h',toks:=tk}
 | .exc k=> ∀B e h' tk cls m,base.StaysIn B→(∀b,g b→cb B b)→k.ok X cls m→gy B outer s.heap h' e cls m→E (.ref e) {s with heap:=h',toks:=tk}
theorem lE{h base B:Heap}: ∀{l:List Env},h.FunFrames base l→(∀L o,h.get? L=some o→(∀vs,o.data≠ .fields vs)→base.get? L=none→B.get? L=none)→h.FunFrames B l
 | [],_,_=>trivial
 |_::_,⟨f1,⟨L,o,q1,q2,q3,q4⟩,f2⟩,k=>⟨f1,⟨L,o,q1,k L o q3 q4 q2,q3,q4⟩,lE f2 k⟩
theorem u0{h:Heap}{b:Addr}{o:Obj}(x:cb h b)(e:h.get? b=some o)(hn: ∀vs,o.data≠ .fields vs):False:=by
 refine b8 x λo' _ h1 _ h2=>?_
 replace e:=h1▸e
 obtain rfl:=Option.some.inj e
 exact hn _ h2
theorem jv{h:Heap}{b:Addr}(h':h.objs.size≤b):h.get? b=none:=Heap.get?_none_of_le h'
theorem va{f:Fn}{A:Around}{s s₁:Shared}{vs:List Value}{env:Env}{σ:ah}{K Z:Addr→Prop}{asg:Str→Bool}{base:Heap}{outer:List Env}(fq:A.frames=some outer)(Dd:s.heap.FunFrames base outer)(gD:base.StaysIn s.heap)(Jb:Ext c.hT base)
  (hf:env.frame=some env.locals) (hL:env.locals=s.heap.objs.size) (hk:env.scope.kind≠ .module) (ix:InCallC s env.locals (bindL env.kindOf (f.ps.zip vs) λ_=>none) env.cells (bindC env.kindOf (f.ps.zip vs) λ_=>none) s₁)
  (act:Act c (A.deeper env) env s₁ σ K Z asg noOwn) (oo:bq c σ noOwn):ny c (A.deeper env) env s₁ σ K Z asg base s.heap outer:=by
 have bh: ∀b,s.heap.get? b=none→base.get? b=none:=λb hb=>by
  cases q:base.get? b with
  |none=>rfl
  |some o=>rw[gD b o q]at hb;cases hb
 have x1:Ext s.heap s₁.heap:=ix.toInCall.keep
 have nl:s.heap.get? env.locals=none:=jv (by rw[hL];exact Nat.le_refl _)
 refine⟨act,oo,Around.frames_deeper fq,hf,⟨hk,?_,Dd.of_keeps λb o e _=>⟨o,x1 b o e,rfl⟩⟩,λb o e=>x1 b o (gD b o e),.of_keeps x1,nl,λx b hx=>jv ?_,bh,Jb⟩
 ·refine aO λXq kq=>?_
  refine eh act.loc λm o es ep ho hd _=>?_
  refine kq ?_
  exact⟨env.locals,o,hf,bh _ nl,ho,λvs q=>by rw[hd]at q;cases q⟩
 ·have h2:=ix.above x b (mem_of_lookup hx)
  rw[hL]at h2
  exact Nat.le_of_lt h2
theorem AF{f:Fn}{m:MS}{x:Nat}{n:Str}{xs:List Nat}{ns:List Str}{rest:List Stmt}{P:ah→XK→Prop}{np fp ap bG pos:Pos}(ok:c.Ok)(hf:bU f=true)(cn:pL f dV c.hT)(iZ:f.ps=n::ns)(hx:c.nt[x]? =some n)(Nj:xs.map (λx=>c.nt[x]?)=ns.map some)(vb:aR n=true)(hw: ∀y,c.ow y=0)(dG: ∀y,c.lv y=0)
  (fL:f.body= .Assign [.Name n np] (.Call (.Name (Str.ofString "sorted") fp) [.Name n ap] [] bG) pos::rest) (cX:c.bn (Str.ofString "sorted")=some (.builtin "sorted")) (Hk:f.scope.names.lookup (Str.ofString "sorted")=some .globalImplicit)
  (hb:bV c f.scope (aW f.scope) m rest) (N1:ub c X f.scope (aW f.scope) P rest)
  {A:Around} {s:Shared} {Z:Addr→Prop} {a:Addr} {d:D} {v:Value} {ds:List D} {vs:List Value} {l:List D} {σ0:ah} {r:Res} {base:Heap} {outer:List Env} {Q:Value→Shared→Prop} {E:Value→Shared→Prop}
  (cm:jo (c.k+1) A) (jt:Ext c.hT s.heap) (cf:s.heap.NoLimit) (gg:ig f dV a s.heap) (fq:A.frames=some outer) (Dd:s.heap.FunFrames base outer) (gD:base.StaysIn s.heap) (Jb:Ext c.hT base) (ZD: ∀b,given [d] [v] b→base.get? b=none) (JY: ∀b,given [d] [v] b→c.hT.get? b=none)
  (Hl:rowOf d=some l) (DP:aZ Z s.heap d v) (jd:dQ (λb=> ¬given [d] [v] b∧Z b) s.heap (xs.map c.lv) ds vs) (hσ0:bb xs ds (λ_=>none)=some σ0)
  (hZ: ∀a,s.heap.get? a=none→Z a)
  (hr:(cY l∧((∃d',r= .told d'∧run c.Φ m (upd σ0 x (.list (bg l)))=some (.rt d'))∨ ∃k,r= .exc k∧P (upd σ0 x (.list (bg l))) k))∨(r= .exc (.kind false)∧ ∃h,pK l h))
  (hQ:jS X r (given [d] [v]) Z base outer s Q E):wpAny (model c.prog c.w) A (call (.ref a) (v::vs)) Q E s:=by
 have tZ:xs.length=ns.length:=by have:=congrArg List.length Nj;simpa using this
 have hlen:(v::vs).length=f.ps.length:=by rw[iZ,List.length_cons,List.length_cons,jd.length,List.length_map,tZ]
 refine pN hf cn jt cm cf gg hlen λenv s₁ gH tf hL Vg ix tg=>?_
 have sV: ∀b,given [d] [v] b→ ∃o,s.heap.get? b=some o∧cQ o∧(∀xs n,o.data≠ .seq xs n)∧Z b:=λb hb=>by
  refine aO λXq kq=>?_
  obtain⟨⟨l,rfl⟩,rfl⟩:=b9.mp hb
  refine xq DP λI a' fi e hz GC fB hl ZE _=>?_
  obtain⟨o,ho,hc,dt⟩:=ZE
  refine kq ?_
  cases e
  exact⟨o,ho,bx dt,λxs n q=>(by rw[dt]at q;cases q),hz⟩
 have act:=tg (σ:=σ0) (K:=λb=> ¬given [d] [v] b) (Z:=Z) ok.nodup jt hZ (λb e hb=>by obtain⟨o,ho,_⟩:=sV b hb;rw[ho]at e;cases e) λi d' n' h1 h2=>by
  rcases ec hσ0 h1 with h3|⟨k,h3,h4⟩
  ·cases h3
  ·refine aO λXq kq=>?_
   refine b8 (jd.get h4) λlv v' q1 q2 q3=>?_
   refine kq ?_
   rw[List.getElem?_map,h3]at q1
   obtain rfl:=Option.some.inj q1
   have q4:=q3
   rw[dG i]at q4
   refine⟨v',?_,q3,(show aZ (λb=> ¬given [d] [v] b∧Z b) s.heap d' v' from q4).mono λ_ _ z=>z.1⟩
   have hk:ns[k]? =some n':=by
    have:=congrArg (λl=>l[k]?) Nj
    simp only[List.getElem?_map,h3,Option.map_some,h2]at this
    cases hp:ns[k]? with
    |none=>rw[hp]at this;cases this
    |some n''=>rw[hp]at this;cases this;rfl
   rw[iZ]
   have hz:((n::ns).zip (v::vs))[k+1]? =some (n',v'):=by rw[List.getElem?_zip_eq_some];exact⟨by simpa using hk,by simpa using q2⟩
   exact List.mem_of_getElem? hz
 have oo: ∀σ:ah,bq c σ noOwn:=λσ y=>by simp[noOwn,hw y]
 have xa:=va (f:=f) (vs:=v::vs) fq Dd gD Jb tf hL Vg ix act (oo σ0)
 have hk: ∀n,env.kindOf n=f.scope.names.lookup n:=λn=>by unfold Env.kindOf;rw[gH]
 obtain⟨h1,ua,rfl⟩: ∃h1 ua,s₁={s with heap:=h1,toks:=ua}:=ix.toInCall.same
 have x1:Ext s.heap h1:=ix.toInCall.keep
 have oE:=hf
 simp only[bU,Bool.and_eq_true,beq_iff_eq,Bool.not_eq_true',decide_eq_true_eq]at oE
 have Vh:=List.all_eq_true.mp oE.2 n (by rw[iZ];exact List.mem_cons_self ..)
 simp only[Bool.or_eq_true,beq_iff_eq]at Vh
 have Vi:aW f.scope n=true:=by simp only[aW,Bool.or_eq_true,beq_iff_eq];exact Vh
 have nm:cE env h1 n v:=by
  have hz:(n,v)∈f.ps.zip (v::vs):=by rw[iZ];exact List.mem_cons_self ..
  have N5:((f.ps.zip (v::vs)).map (·.1)).Nodup:=by
   rw[List.map_fst_zip (Nat.le_of_eq hlen.symm)]
   exact oE.1.1.2
  rcases Vh with h|h
  ·exact .inl ⟨(hk n).trans h,_,ix.toInCall.ns,fK _ _ N5 hz ((hk n).trans h)⟩
  ·refine da (act.cell n (.inl ((hk n).trans h))) λb v0 q1 q2=>?_
   have:=ix.cell n b q1
   rw[iP _ _ N5 hz (by rw[hk n,h];decide)]at this
   exact .inr ⟨.inl ((hk n).trans h),b,q1,this⟩
 simp only[aR,Bool.and_eq_true,Bool.not_eq_true']at vb
 rw[fL]
 refine wpAny_execs_cons (wpAny_Assign_Name ?_ rfl)
 show wpAny _ _ (eval (.Name (Str.ofString "sorted") fp) env >>= λfv=>callWith bG fv [] (backTo bG (starEach [.Name n ap] env)) []) _ _ _
 refine wpAny_bind (fF gH act.pre ok cX Hk (by decide) ?_)
 refine Calls.callWith_builtin (cF bG rfl) ?_
 rw[a7 (x:= .Name n ap) rfl]
 refine Calls.evalArgs_plain (Calls.spliced_cons (wpAny_Name (jL act.fn nm vb.2 (Calls.spliced_nil ?_)) vb.1))
 refine jD (collects (prog:=c.prog) (w:=c.w) (A:=A.deeper env) (s:={s with heap:=h1,toks:=ua}) (Z:=Z) act.room.handled Hl (n:=0) (show aw Z h1 0 d v from DP.ext x1) (Nat.zero_le _)) λws r1 r2 I0 hc=>?_
 have leave: ∀{B:Heap} {e:Addr} {cls:Value} {m:Option Str} {h':Heap} {tk:Nat} {k:XK},r= .exc k→base.StaysIn B→(∀b,given [d] [v] b→cb B b)→k.ok X cls m→nv B env outer s.heap h' e cls m→
   wpAny (model c.prog c.w) (A.deeper env) (leaving env (.ref e)) (λ_ mD=>E (.ref e) mD) E {s with heap:=h',toks:=tk}:=λ{B e cls m h' tk k} er hB FA hk x=>by
  subst er
  exact x.leave (s:={s with heap:=h',toks:=tk}) (Around.frames_deeper fq) tf λdA ZF=>hQ B e dA tk cls m hB FA hk ZF
 -- zt stays for good,with ql spent Jc
 have part: ∀h2:Heap,(∀b o,¬given [d] [v] b→h1.get? b=some o→h2.get? b=some o)→(∀b,given [d] [v] b→cb h2 b)→
   ∃B:Heap,base.StaysIn B∧(∀b,given [d] [v] b→cb B b)∧B.StaysIn h2∧(∀b,s.heap.get? b=none→B.get? b=none)∧h2.FunFrames B (env::outer):=λh2 hk sp=>by
  have nf: ∀{b:Addr} {o:Obj},h1.get? b=some o→(∀vs,o.data≠ .fields vs)→ ¬given [d] [v] b:=λ{b o} e hn hb=>by
   refine aO λXq kq=>?_
   obtain⟨⟨l',rfl⟩,rfl⟩:=b9.mp hb
   refine xq DP λI a' fi e' _ _ _ _ Vj _=>?_
   obtain⟨o',ho,_,dt⟩:=Vj
   refine kq ?_
   cases e'
   rw[x1 _ _ ho]at e
   obtain rfl:=Option.some.inj e
   exact hn _ dt
  have sb:base.StaysIn h2:=λb o e=>hk b o (λhb=>by rw[ZD b hb]at e;cases e) (xa.st b o e)
  refine⟨mask h2 λb=>base.get? b≠none∨given [d] [v] b,λb o e=>?_,λb hb=>(sp b hb).ext λo e=>?_,λb o e=>(eV e).2,λb e=>?_,?_⟩
  ·rw[dv (.inl (by rw[e];simp))]
   exact sb b o e
  ·rw[dv (.inr hb)]
   exact e
  ·cases q:(mask h2 λb=>base.get? b≠none∨given [d] [v] b).get? b with
   |none=>rfl
   |some o=>
    rcases(eV q).1 with h|h
    ·exact absurd (xa.bh b e) h
    ·refine ai (sV b h) λo' ho _=>?_
     rw[ho]at e;cases e
  ·refine lE (xa.fl.of_keeps λb o e hn=>⟨o,hk b o (nf e hn) e,rfl⟩) λL o e hn hb=>cW λq=>?_
   rcases q with q|q
   ·exact q hb
   ·exact u0 (sp L q) e hn
 rcases hr with⟨Vk,hr⟩|⟨rfl,h,hm⟩
 ·refine uY (Z:=Z) (df act.room) Vk r1 r2 I0 hc (λb hb=>?_) (λb e=>hZ b (aE x1 e)) (λb hb=>(sV b hb).choose_spec.2.2.2) λD' h2 t2 out k CJ ZG ZH hD hi=>?_
  ·refine aO λXq kq=>?_
   refine jD (sV b hb) λo ho _ ZI _=>?_
   refine kq ?_
   exact⟨o,x1 b o ho,ZI⟩
  have act2:Act c (A.deeper env) env {s with heap:=h2,toks:=t2} σ0 (λ_=>True) Z (aW f.scope) noOwn:=by
   refine act.change ⟨λb o z _ e=>CJ b o z e,λb o dt e _=>CJ b o (λhb=>?_) e,λb o e=>CJ b o (λhb=>?_) (act.top b o e),λ_ _ _ h=>(by cases h)⟩ (λ_ _=>trivial) (λ_ _=>trivial) (λb e=>?_) λ_ _ h=>by cases h
   ·refine bK (sV b hb) λo' q1 q2 _=>?_
    have:=x1 b o' q1
    rw[show h1.get? b=some o from e]at this
    obtain rfl:=Option.some.inj this
    exact dt q2
   ·rw[JY b hb]at e;cases e
   ·by_cases hb:given [d] [v] b
    ·exact(sV b hb).choose_spec.2.2.2
    ·refine act.hC b ?_
     show h1.get? b=none
     cases e':h1.get? b with
     |none=>rfl
     |some o=>rw[CJ b o hb e']at e;cases e
  refine aO λXq kq=>?_
  refine zc (part h2 CJ ZG) λB hB FA Vl XD Vm=>?_
  refine kq ?_
  have ZJ:ny c (A.deeper env) env {s with heap:=h2,toks:=t2} σ0 (λ_=>True) Z (aW f.scope) B s.heap outer:=by
   have nf: ∀{b:Addr} {o:Obj},h1.get? b=some o→(∀vs,o.data≠ .fields vs)→ ¬given [d] [v] b:=λ{b o} e hn hb=>by
    refine aO λXq kq=>?_
    obtain⟨⟨l',rfl⟩,rfl⟩:=b9.mp hb
    refine xq DP λI a' fi e' _ _ _ _ Vn _=>?_
    obtain⟨o',ho,_,dt⟩:=Vn
    refine kq ?_
    cases e'
    rw[x1 _ _ ho]at e
    obtain rfl:=Option.some.inj e
    exact hn _ dt
   refine⟨act2,oo σ0,xa.frames,xa.fr,Vm,Vl,λb o e hn=>?_,xa.nl,xa.nc,XD,λb o e=>hB b o (Jb b o e)⟩
   refine aO λXq kq=>?_
   refine au (xa.up b o e hn) λsl e1=>?_
   refine kq ?_
   exact⟨sl,CJ b _ (nf e1 hn) e1⟩
  have z9:(bg l).length≤bW:=by rw[dx];exact I0
  have rep:aZ (λa=>True∧Z a) h2 (.list (bg l)) (.ref D'):=⟨D',out.toList,rfl,⟨trivial,ZH⟩,z9,⟨k,hD⟩,hi.mono λ_ _ z=>⟨trivial,z⟩⟩
  refine kC (s:={s with heap:=h2,toks:=t2}) (h1:=h2) (t1:=t2) (Q:=λfl s'=>match fl with| .next=>wpAny (model c.prog c.w) (A.deeper env) (execs rest env) (λfl s'=> ∃v,fl= .ret v∧Q v s') (λe s'=>wpAny (model c.prog c.w) (A.deeper env) (leaving env e) (λ_ mD=>E e mD) E s') s'|f=> ∃v,f= .ret v∧Q v s') act2 (oo σ0) hx Vi (hw x) (.refl _) rep λh3 t3 K3 Vo a3 o3 g3=>?_
  have ro:Vo=noOwn:=funext λy=>by
   have:=o3 y
   rw[hw y]at this
   simp at this
   exact this
  subst ro
  have Rz:=ZJ.next a3 o3 g3
  rcases hr with⟨d',rfl,Vp⟩|⟨k,er,hP⟩
  ·refine hb _ _ _ _ _ Z noOwn (.rt d') _ _ gH a3 o3 Vp λv' h4 t4 K4 lO g4 r4 _=>⟨v',rfl,?_⟩
   have keep: ∀b o,h3.get? b=some o→b≠env.locals→(∀y,env.cells.lookup y≠some b)→h4.get? b=some o:=λb o e n1 n2=>by
    by_cases dt:cQ o
    ·exact(g4.dat b o dt e λ_ h=>by cases h).1
    ·exact g4.ma b o dt e n1 λy _=>n2 y
   have old: ∀b o,s.heap.get? b=some o→b≠env.locals∧ ∀y,env.cells.lookup y≠some b:=λb o e=>
    ⟨λq=>(by rw[q,xa.nl]at e;cases e),λy q=>(by rw[xa.nc y b q]at e;cases e)⟩
   refine hQ v' h4 t4 (λb o e=>?_) (λb o e hn=>?_) (λb hb=>(FA b hb).ext λo e=>?_) r4
   ·refine aX (old b o (gD b o e)) λn1 n2=>?_
    exact keep b o (Rz.st b o (hB b o e)) n1 n2
   ·refine au (Rz.up b o e hn) λsl e1=>?_
    refine aX (old b o e) λn1 n2=>?_
    exact⟨sl,keep b _ e1 n1 n2⟩
   ·refine ai (sV b hb) λo' eu _=>?_
    refine aX (old b o' eu) λn1 n2=>?_
    exact keep b o (Rz.st b o e) n1 n2
  ·exact N1 _ _ _ _ _ Z B s.heap outer k _ _ gH Rz hP λh' tk e cls m hk x=>leave er hB FA hk x
 ·refine uZ act.room.handled hm r1 I0 hc λh2 h' tk e msg t k sp mx ZK=>?_
  refine aO λXq kq=>?_
  refine zc (part h2 k sp) λB hB FA Vl XD Vm=>?_
  refine kq ?_
  refine leave (k:= .kind false) rfl hB FA ⟨rfl,msg,rfl,ZK⟩ ?_
  refine .made h2 Vl Vm (λb o e hn=>?_) (.made t mx)
  refine au (xa.up b o e hn) λsl e1=>?_
  refine⟨sl,k b _ (λhb=>?_) e1⟩
  obtain⟨⟨l',rfl⟩,rfl⟩:=b9.mp hb
  refine xq DP λI a' fi e' _ _ _ _ Vq _=>?_
  obtain⟨o',ho,_,dt⟩:=Vq
  cases e'
  rw[ho]at e
  obtain rfl:=Option.some.inj e
  exact hn _ dt
end
end Mine.Internal
end
section
open PySem PyProof.Rows
namespace Mine.Internal
section
variable{c:Cx}{sc:Scope}{asg:Str→Bool}
theorem qE{x:Str}{C:Addr}{msg:Str}{np bG pos ap:Pos}{sk:Nat}(ok:c.Ok)(O:OwnClsQ x C [.type "ValueError",.type "Exception",.type "BaseException",.type "object"] "ValueError.__new__" c.mg c.hT)
  (hs:sc.names.lookup x=some .globalImplicit) (d9:aR x=true) (hm:msg=Str.ofString "no median for empty data"):
  NZ c (.ref C) sc asg (λ_ k=>k= .dj) (.Raise (some (.Call (.Name x np) [.Constant (.str msg) sk ap] [] bG)) none pos):=by
 intro A env s σ K C' base h0 outer k Q E he xa hP hE
 refine aO λXq kq=>?_
 obtain⟨tl,N,nm,q,bs,hdct,sn,sub,ab,col,dd,k0,k1,k2,k3,k5,mN,hC,hN,Vr,T⟩:=O.own.obj
 refine kq ?_
 refine wpAny_Raise_call_subT (C:=C) (nm:=nm) (q:=q) (N:=N) (bs:=bs) (bm:=tl) (hdct:=hdct) (sn:=sn) (sub:=sub) (ab:=ab) (col:=col) (dd:=dd) (k0:=k0) (k1:=k1) (k2:=k2) (k3:=k3) (k5:=k5)
  PySem.F.excBase_ValueError (mN:=mN) (T.hasType PySem.F.excBase_ValueError.hasBase) xa.act.room.handled ?_ Vr ?_
 ·exact cF bG rfl
 ·refine jM he xa.act.pre ok O.bound hs d9 ⟨rfl,?_⟩
  rw[a7 (x:= .Constant (.str msg) sk ap) rfl]
  refine Calls.evalArgs_plain (Calls.spliced_cons (wpAny_Constant_str (pos:=ap) (k:=sk) (Calls.spliced_nil ⟨rfl,?_,xa.act.top _ _ hC,hN.keeps xa.act.top,T.keeps xa.act.top,λh' e m=>?_⟩)))
  ·show 1≤sizeLine
   rw[sizeLine_eq];decide
  ·subst hP
   subst hm
   exact hE h' _ e _ _ ⟨rfl,rfl⟩ (.made s.heap xa.st xa.fl xa.up (.made _ m))
end
end Mine.Internal
end
section
open PySem PyProof.Rows
namespace Mine.Internal
theorem DQ:typeLookup (.type "str") (dunder "truediv")=pure none:=by rw[typeLookup_type,builtinLookup_eq_fast];kernel_rfl
theorem AG:typeLookup (.type "str") (dunderR "truediv")=pure none:=by rw[typeLookup_type,builtinLookup_eq_fast];kernel_rfl
theorem AH:typeLookup (.type "list") (dunder "truediv")=pure none:=by rw[typeLookup_type,builtinLookup_eq_fast];kernel_rfl
theorem yi:typeLookup (.type "list") (dunderR "truediv")=pure none:=by rw[typeLookup_type,builtinLookup_eq_fast];kernel_rfl
theorem nB:fillsNumberSlot (.type "str") "truediv"=pure false:=by
 simp only[fillsNumberSlot]
 rw[DQ,AG]
 rfl
theorem lT:fillsNumberSlot (.type "list") "truediv"=pure false:=by
 simp only[fillsNumberSlot]
 rw[AH,yi]
 rfl
noncomputable def kU(Ta Tb:String):String:=s!"unsupported operand type(s) for {"/"}: '{shownName Ta}' and '{shownName Tb}'"
theorem yj(a:Int)(t:Tok)(l:Addr)(items:Array Value)(n:Nat)(d:Option Addr)(sl:Array (Option Value)):
  Meets (Builtin.«int.__rtruediv__» ⟨[.int a t,.ref l],[]⟩) (λ_ R s=>s.heap.get? l=some {cls:= .type "list",dict:=d,data:= .seq items n,slots:=sl}∧R (.ok (.ret Value.notImplemented)) s):=
 .of_wp λprog w A R s h=>by obtain⟨hp,g,d,tk,os⟩:=s;obtain⟨hl,h⟩:=h;wp_walk;exact⟨_,rfl,h⟩
theorem AI(a:Int)(t:Tok)(x:Str)(u:Tok):
  Meets (Builtin.«int.__rtruediv__» ⟨[.int a t,.str x u],[]⟩) (λ_ R s=>R (.ok (.ret Value.notImplemented)) s):=
 .of_wp λprog w A R s h=>by obtain⟨hp,g,d,tk,os⟩:=s;wp_walk;exact⟨_,rfl,h⟩
section
variable{M:Model}{A:Around}{E:Value→Shared→Prop}{s:Shared}
theorem jT{a:Value}{T:String}{i:Int}{t:Tok}{Q:Value→Shared→Prop}(hh:A.handled=none)(ZL:(Value.type T==Value.type "int")=false)(ha:s.TypeIs a T)(hf:fillsNumberSlot (.type T) "truediv"=pure false)
  (Va:(Value.type T==Value.type "builtin_function_or_method")=false)
  (hc:wpAny M A (call (.builtin "int.__rtruediv__") [.int i t,a]) (λv s'=>v= .notImplemented∧s'=s) E s) (hm:(Str.ofString (kU T "int")).length≤sizeLine)
  (hE: ∀h' tk t e,Heap.MadeExcOf s.heap h' e (.type "TypeError") [.str (Str.ofString (kU T "int")) t]→E (.ref e) {s with heap:=h',toks:=tk}):
  wpAny M A (binaryOp .Div a (.int i t)) Q E s:=by
 unfold binaryOp
 refine wpAny_holding ?_
 refine wpAny_bind (wpAny_binaryOp1_right_declines (nm:= "truediv") ZL ha (typeIs_int s i t) hf F.fills_int_truediv F.slot_int_rtruediv (wpAny_mono hc (λv s' h'=>⟨h'.1,?_⟩) λ_ _ e=>e))
 refine aO λXq kq=>?_
 obtain⟨_,rfl⟩:=h'
 refine kq ?_
 refine wpAny_bind (m:=(pure ():Sem Unit)) (wpAny_pure ?_)
 exact wpAny_bind (wpAny_typeNameOf' ha Va (wpAny_bind (wpAny_typeNameOf' (typeIs_int _ i t) (by decide) (fZ plainExc_TypeError hh hE hm))))
end
section
variable{prog:Program}{w:World}{A:Around}{E:Value→Shared→Prop}{s:Shared}
theorem DR{x:Str}{u:Tok}{i:Int}{t:Tok}{Q:Value→Shared→Prop}(hh:A.handled=none)
  (hE: ∀h' tk t e,Heap.MadeExcOf s.heap h' e (.type "TypeError") [.str (Str.ofString (kU "str" "int")) t]→E (.ref e) {s with heap:=h',toks:=tk}):
  wpAny (model prog w) A (binaryOp .Div (.str x u) (.int i t)) Q E s:=
 jT hh (by decide) (typeIs_str s x u) nB (by decide)
  (call_meets F.slot_int_rtruediv (typeIs_int s i t) F.entry_int_rtruediv (F.args_int_rtruediv_2 _ _) (AI i t x u) ⟨rfl,rfl⟩) (by show _≤sizeLine;rw[sizeLine_eq];decide+kernel) hE
theorem AJ{l:Addr}{items:Array Value}{i:Int}{t:Tok}{Q:Value→Shared→Prop}(hh:A.handled=none)(hl:s.heap.PlainList l items)
  (hE: ∀h' tk t e,Heap.MadeExcOf s.heap h' e (.type "TypeError") [.str (Str.ofString (kU "list" "int")) t]→E (.ref e) {s with heap:=h',toks:=tk}):
  wpAny (model prog w) A (binaryOp .Div (.ref l) (.int i t)) Q E s:=by
 refine au hl λn ho=>?_
 exact jT hh (by decide) ⟨_,ho,rfl⟩ lT (by decide)
  (call_meets F.slot_int_rtruediv (typeIs_int s i t) F.entry_int_rtruediv (F.args_int_rtruediv_2 _ _) (yj i t l items n none #[]) ⟨ho,rfl,rfl⟩) (by show _≤sizeLine;rw[sizeLine_eq];decide+kernel) hE
theorem AK{a b:Int}{t u:Tok}{Q:Value→Shared→Prop}(hh:A.handled=none)(hb:b≠0)(hi:Float64.isInf (quot a b)=true)
  (hE: ∀h' tk e,Heap.NewExc s.heap h' e "OverflowError"→E (.ref e) {s with heap:=h',toks:=tk}):
  wpAny (model prog w) A (binaryOp .Div (.int a t) (.int b u)) Q E s:=
 Flt.div_ii hh (λh=>absurd h hb) (λ_ _=>hE) λ_ h=>absurd hi h
theorem ti:bH (Str.ofString (kU "str" "int")):=by unfold bH;decide+kernel
theorem qF:bH (Str.ofString (kU "list" "int")):=by unfold bH;decide+kernel
end
section
variable{c:Cx}{X:Value}{sc:Scope}
noncomputable def qG(d:D)(b:Int)(k:XK):Prop:=(∃a,d= .int a∧b≠0∧Float64.isInf (quot a b)=true∧k= .past)∨(∃x,d= .str x∧k= .kind false)∨(∃l,d= .list l∧k= .kind false)
theorem Vs{t:ME}{x:Expr}{b:Int}{bk:Nat}{bp pos:Pos}(ht:ay c sc t x)(hl:gG c t≤1):Ry c X sc (λσ k=> ∃d,(ar c.Φ t).v σ=some d∧qG d b k) (.BinOp x .Div (.Constant (.int b) bk bp) pos):=by
 intro A env s σ Z k Q E he p ⟨d,hd,hb⟩ hE
 have hh:=p.room.handled
 refine wpAny_BinOp (ht A env s σ Z d _ E he p hd λv h1 t1 x1 r1 _=>wpAny_Constant_int ?_)
 have r1:=r1.le hl
 rcases hb with⟨a,rfl,h0,hi,rfl⟩|⟨z,rfl,rfl⟩|⟨l,rfl,rfl⟩
 ·refine au (aG r1) λu N7=>?_
  subst N7
  exact AK hh h0 hi λh' tk e n=>hE h1 h' tk e _ _ rfl x1 (.new n)
 ·refine au (aw.plain r1 rfl) λu N8=>?_
  subst N8
  exact DR hh λh' tk t e m=>hE h1 h' tk e _ _ ⟨rfl,_,rfl,ti⟩ x1 (.made t m)
 ·refine aO λXq kq=>?_
  refine ft (fD r1) λa vs N9 _ i _=>?_
  subst N9
  refine kq ?_
  exact AJ hh i λh' tk t e m=>hE h1 h' tk e _ _ ⟨rfl,_,rfl,qF⟩ x1 (.made t m)
end
end Mine.Internal
end
section
open PySem PySem.W PyProof.Rows
set_option maxRecDepth 100000
namespace Mine.Internal
noncomputable def nC(T:String):String:=s!"float() argument must be a string or a real number, not '{shownName T}'"
noncomputable def FC(T:String):Around→(Result→Shared→Prop)→Shared→Prop:=λA R s=>
 A.handled=none∧ ∀h' tk t e,Heap.MadeExcOf s.heap h' e (.type "TypeError") [.str (Str.ofString (nC T)) t]→R (.error (.ref e)) {s with heap:=h',toks:=tk}
theorem nE:Meets (Builtin.«float.__new__» ⟨[.type "float",.none],[]⟩) (FC "NoneType"):=
 Flt.meets_float_new_of _ λprog w A R s hs=>by
  refine wpAny_bind (wpAny_callSpecial?_none (T:= "NoneType") rfl Flt.none_float ?_)
  refine wpAny_bind (wpAny_specialOf (T:= "NoneType") rfl Flt.none_index ?_)
  have f1:=Flt.none_buffer
  obtain⟨hp,g,d,tk,os⟩:=s
  repeat (any_goals (first|exact fZ plainExc_TypeError hs.1 (λh' tk t e hx=>hs.2 h' tk t e hx) (by decide+kernel)|(refine wpAny_specialOf (T:= "NoneType") rfl Flt.none_buffer ?_)|wp_step))
theorem list_float:typeLookup (.type "list") (Str.ofString "__float__")=pure none:=by rw[typeLookup_type,builtinLookup_eq_fast];kernel_rfl
theorem list_index:typeLookup (.type "list") (Str.ofString "__index__")=pure none:=by rw[typeLookup_type,builtinLookup_eq_fast];kernel_rfl
theorem lF:typeLookup (.type "list") (Str.ofString "__buffer__")=pure none:=by rw[typeLookup_type,builtinLookup_eq_fast];kernel_rfl
set_option maxHeartbeats 2000000 in
theorem nF(l:Addr)(items:Array Value)(n:Nat):Meets (Builtin.«float.__new__» ⟨[.type "float",.ref l],[]⟩) (λA R s=>s.heap.get? l=some {cls:= .type "list",data:= .seq items n}∧FC "list" A R s):=
 Flt.meets_float_new_of _ λprog w A R s hs=>by
  obtain⟨hl,hs⟩:=hs
  have hT:s.TypeIs (.ref l) "list":=⟨_,hl,rfl⟩
  refine wpAny_bind (wpAny_callSpecial?_none hT list_float ?_)
  refine wpAny_bind (wpAny_specialOf hT list_index ?_)
  have f1:=lF
  obtain⟨hp,g,d,tk,os⟩:=s
  repeat (any_goals (first|exact fZ plainExc_TypeError hs.1 (λh' tk t e hx=>hs.2 h' tk t e hx) (by decide+kernel)|(refine wpAny_specialOf hT lF ?_)|wp_step))
section
variable{prog:Program}{w:World}{A:Around}{E:Value→Shared→Prop}{s:Shared}{Q:Value→Shared→Prop}
theorem vc(hh:A.handled=none)(h: ∀h' tk t e,Heap.MadeExcOf s.heap h' e (.type "TypeError") [.str (Str.ofString (nC "NoneType")) t]→E (.ref e) {s with heap:=h',toks:=tk}):
  wpAny (model prog w) A (call (.type "float") [.none]) Q E s:=call_float_1 nE ⟨hh,h⟩
theorem float_list{l:Addr}{items:Array Value}(hh:A.handled=none)(hl:s.heap.PlainList l items)(h: ∀h' tk t e,Heap.MadeExcOf s.heap h' e (.type "TypeError") [.str (Str.ofString (nC "list")) t]→E (.ref e) {s with heap:=h',toks:=tk}):
  wpAny (model prog w) A (call (.type "float") [.ref l]) Q E s:=by
 refine au hl λn ho=>?_
 exact call_float_1 (nF l items n) ⟨ho,hh,h⟩
theorem qH:bH (Str.ofString (nC "NoneType")):=by unfold bH;decide+kernel
theorem qI:bH (Str.ofString (nC "list")):=by unfold bH;decide+kernel
end
section
variable{c:Cx}{X:Value}{sc:Scope}
noncomputable def ij(d:D)(k:XK):Prop:=
 (∃a,d= .int a∧2^1024-2^970≤a.natAbs∧k= .past)∨(∃x,d= .str x∧Num.parseText? x=none∧(reprText x).length+40≤sizeLine∧k= .val)∨(d= .none∧k= .kind false)∨(((∃l,d= .list l)∨ ∃a m,d= .obj a m)∧k= .kind false)
theorem AL{Z:Addr→Prop}{h:Heap}{d:D}{v:Value}(hs:(∃l,d= .list l)∨ ∃a m,d= .obj a m)(r:aw Z h 1 d v): ∃a vs,v= .ref a∧h.PlainList a vs:=by
 rcases hs with⟨l,rfl⟩|⟨a,m,rfl⟩
 ·refine ft (fD r) λa vs e _ i _=>?_
  exact⟨a,vs.toArray,e,i⟩
 ·obtain⟨e,_,t,i⟩:=aw.plain r rfl
  exact⟨_,_,e,i⟩
theorem AM{t:ME}{x:Expr}{fp bG:Pos}(ok:c.Ok)(cX:c.bn (Str.ofString "float")=some (.type "float"))(Hk:sc.names.lookup (Str.ofString "float")=some .globalImplicit)(gD:isStar x=false)(ht:ay c sc t x)(hl:gG c t≤1):
  Ry c X sc (λσ k=> ∃d,(ar c.Φ t).v σ=some d∧ij d k) (.Call (.Name (Str.ofString "float") fp) [x] [] bG):=by
 intro A env s σ Z k Q E he p ⟨d,hd,hb⟩ hE
 have hh:=p.room.handled
 show wpAny _ _ (eval (.Name (Str.ofString "float") fp) env >>= λfv=>callWith bG fv [] (backTo bG (starEach [x] env)) []) _ _ _
 refine wpAny_bind (fF he p ok cX Hk (by decide) ?_)
 refine PySem.callWith_type (cF bG (by simp[gD])) ?_
 rw[a7 gD]
 refine Calls.evalArgs_plain (Calls.spliced_cons (ht A env s σ Z d _ E he p hd λv h1 t1 x1 r1 _=>Calls.spliced_nil ?_))
 have r1:=r1.le hl
 rcases hb with⟨a,rfl,hi,rfl⟩|⟨z,rfl,hz,hs,rfl⟩|⟨rfl,rfl⟩|⟨hs,rfl⟩
 ·obtain⟨u,rfl⟩:=aG r1
  exact call_float_int_sharp hh (λ_ h' tk e n=>hE h1 h' tk e _ _ rfl x1 (.new n)) λh=>absurd hi (by exact Nat.not_le.mpr ‹_›)
 ·obtain⟨u,rfl⟩:=aw.plain r1 rfl
  exact Flt.call_float_str hh hs (λ_ h' tk e n=>hE h1 h' tk e _ _ rfl x1 (.new n)) λh=>by rw[hz]at h;cases h
 ·obtain rfl:=(show v= .none from aw.plain r1 rfl)
  exact vc hh λh' tk t e m=>hE h1 h' tk e _ _ ⟨rfl,_,rfl,qH⟩ x1 (.made t m)
 ·obtain⟨a,vs,rfl,i⟩:=AL hs r1
  exact float_list hh i λh' tk t e m=>hE h1 h' tk e _ _ ⟨rfl,_,rfl,qI⟩ x1 (.made t m)
end
end Mine.Internal
end
section
open PySem PyProof.Rows
namespace Mine.Internal
section
variable{c:Cx}{sc:Scope}{asg:Str→Bool}
theorem wF{b:UInt64}{k:Nat}{pos:Pos}:ay c sc (.aL (.cx b)) (.Constant (.float b) k pos):= .bE rfl λA env s σ Z d Q E he p hd hQ=>by
 obtain rfl:=Option.some.inj hd
 exact wpAny_Constant_float (hQ.atom (λ_=>⟨_,rfl⟩) rfl)
theorem tj{f:BI}{x:Str}{es:ME}{xs:List Expr}{pos np:Pos}(ok:c.Ok)(hf:f= .um)(hb:c.mg x=some (jc f))(hs:sc.names.lookup x=some .globalImplicit)(d9:aR x=true)(h:fh c sc es xs)(fB:xs.isEmpty=false)(h1:(Ds c es).all (· ≤1)=true):
  ay c sc (.bi f es) (.Call (.Name x np) xs [] pos):= .bE rfl λA env s σ Z d Q E he p hd hQ=>by
 refine ai (Option.bind_eq_some_iff.mp hd) λds uA hd=>?_
 skip
 refine wpAny_bind (jM he p ok hb hs d9 ?_)
 subst hf
 refine Calls.callWith_builtin (cF pos h.1) ?_
 exact qu h fB he p uA λvs h' tk hx hr=>Fj hd (sE hr h1) (p.next (tk:=tk) hx).new p.room.handled (df p.room) (hQ.later hx)
theorem pO{x:Str}{a b d:ME}{ea eb ed:Expr}{pos np kp:Pos}(ok:c.Ok)(hb:c.mg x=some (.builtin "_bisect.bisect_right"))(hs:sc.names.lookup x=some .globalImplicit)(d9:aR x=true)
  (ha:ay c sc a ea) (ui:ay c sc b eb) (fo:ay c sc d ed) (la:gG c a≤1) (lb:gG c b≤1) (ld:gG c d≤1) (sa:isStar ea=false) (sb:isStar eb=false):
  ay c sc (.bi .uo (.cons a (.cons b (.cons d .nil)))) (.Call (.Name x np) [ea,eb] [⟨some (Str.ofString "lo"),ed,kp⟩] pos):= .bE rfl λA env s σ Z r Q E he p hr hQ=>by
 refine ai (Option.bind_eq_some_iff.mp hr) λds uA hr=>?_
 refine ai (aK uA) λd1 e1 g1=>?_
 refine ai (omap g1) λZM f1 Oa=>?_
 subst Oa
 refine ai (aK f1) λd2 e2 g2=>?_
 refine ai (omap g2) λds2 f2 Ob=>?_
 subst Ob
 refine ai (aK f2) λd3 e3 g3=>?_
 refine ai (omap g3) λds3 f3 Oc=>?_
 subst Oc
 obtain rfl:=Option.some.inj f3
 show wpAny _ _ (eval (.Name x np) env >>= λfv=>callWith pos fv [] (backTo pos (starEach [ea,eb] env)) (backToKw pos (keywordEach [⟨some (Str.ofString "lo"),ed,kp⟩] env))) _ _ _
 refine wpAny_bind (jM he p ok hb hs d9 ?_)
 have st:starEach [ea,eb] env= [(false,eval ea env),(false,eval eb env)]:=by rw[a7 sa,a7 sb];rfl
 refine callWith_kw ?_ (by rw[a7 sa];rfl) (by rw[st];rfl) rfl rfl
 rw[st]
 refine Calls.spliced_cons (ha A env s σ Z d1 _ E he p e1 λv1 k1 t1 x1 r1 _=>?_)
 have p1:=p.next (tk:=t1) x1
 refine Calls.spliced_cons (ui A env _ σ Z d2 _ E he p1 e2 λv2 k2 t2 x2 r2 _=>Calls.spliced_nil ?_)
 have p2:=p1.next (tk:=t2) x2
 refine kws_cons (fo A env _ σ Z d3 _ E he p2 e3 λv3 k3 t3 x3 r3 _=>kws_nil ?_)
 have p3:=p2.next (tk:=t3) x3
 show wpAny _ _ (call (.builtin "_bisect.bisect_right") [v1,v2] [(Str.ofString "lo",v3)]) _ _ _
 refine ai (aK hr) λj h0 hr=>?_
 refine aX (eM hr) λUx hr=>?_
 refine ai (aK hr) λl h1 hr=>?_
 refine aX (eM hr) λOd e=>?_
 obtain⟨h2,h3,h4⟩:=Od
 obtain rfl:=Option.some.inj e
 have q1:=((r1.le la).ext x2).ext x3
 have q2:=(r2.le lb).ext x3
 refine ft (iL h1 q1) λa' ws Oe n i rr=>?_
 subst Oe
 refine au (qq (prog:=c.prog) (w:=c.w) (A:=A.in1) (right:=true) h2 h3 rr q2) λT hc=>?_
 have hl:=rr.length
 have q3:=r3.le ld
 rw[ba h0]at q3
 refine au (aG q3) λt Of=>?_
 subst Of
 refine au (Int.eq_ofNat_of_zero_le Ux) λm Og=>?_
 subst Og
 refine uz (i:=m) (by rw[List.size_toArray,hl];exact n) (df p.room) hc i.isList (by rw[List.size_toArray,hl];simpa using h4) λtk t=>?_
 rw[List.size_toArray,hl]
 exact(((hQ.later (t1:=t1) x1).later (t1:=t2) x2).later (t1:=t3) x3).atom (λ_=>⟨_,rfl⟩) rfl
theorem yk{a:ME}{x:Expr}{pos apos:Pos}(ha:ay c sc a x)(la:gG c a≤1)
  (Vt: ∀env,∃pl,eval (.Call (.Attribute x (Str.ofString "bit_length") apos) [] [] pos) env=(do
   let ov←eval x env
   standAt apos.atName
   let(f,first)←holding [ov] (getMethod ov (Str.ofString "bit_length") pl)
   callWith pos f first (backTo pos (starEach [] env)) [])):ay c sc (.bi .mH (.cons a .nil)) (.Call (.Attribute x (Str.ofString "bit_length") apos) [] [] pos):= .bE rfl λA env s σ Z d Q E he p hd hQ=>by
 refine ai (Option.bind_eq_some_iff.mp hd) λds uA hd=>?_
 refine ai (aK uA) λd1 e1 g1=>?_
 refine ai (omap g1) λZM f1 Oh=>?_
 subst Oh
 obtain rfl:=Option.some.inj f1
 refine ai (omap (show(d1.int?.map λa=>D.int (Builtin.Int.intBits a))=some d from hd)) λi h2 Oi=>?_
 subst Oi
 rw[ba h2]at e1
 refine au (Vt env) λpl tZ=>?_
 refine MethodCall_ (pl:=pl) (ha A env s σ Z _ _ E he p e1 λv1 k1 t1 x1 r1 _=>?_) tZ
 refine au (aG (r1.le la)) λt Oj=>?_
 subst Oj
 with_reducible refine getMethod_int_bit_length ?_
 dsimp only
 refine callWith_method0 (call_int_bit_length ?_)
 exact(hQ.later (t1:=t1) x1).atom (λ_=>⟨_,rfl⟩) rfl
theorem Hm{m:MS}{body orelse fin:List Stmt}{hs:List ExceptHandler}{pos:Pos}(hb:bV c sc asg m body)(fB:hs≠ [])(ho:orelse= [])(hf:fin= []):dI c sc asg m (.Try body hs orelse fin pos):=by
 subst ho hf
 intro A env s σ K C own out Q E he p oo hr hP
 cases hs with
 |nil=>exact absurd rfl fB
 |cons h0 hs=>
  refine wpAny_Try_except (hb A env s σ K C own out _ _ he p oo hr ?_)
  cases out with
  |nx σ'=>exact λh' tk K' dB p' o' g=>wpAny_execs_nil (hP h' tk K' dB p' o' g)
  |rt d=>exact hP
end
end Mine.Internal
end
section
open PySem PyProof.Rows
namespace Mine.Internal
section
variable{c:Cx}{X:Value}{sc:Scope}{asg:Str→Bool}{P P':ah→XK→Prop}
theorem xor{l:List Stmt}(h1:ub c X sc asg P l)(h2:ub c X sc asg P' l):ub c X sc asg (λσ k=>P σ k∨P' σ k) l:=λA env s σ K C base h0 outer k Q E he xa hP hE=>
 hP.elim (λh=>h1 A env s σ K C base h0 outer k Q E he xa h hE) λh=>h2 A env s σ K C base h0 outer k Q E he xa h hE
end
end Mine.Internal
end
section
open PySem PyProof.Rows
namespace Mine.Internal
noncomputable def FD(h:Heap)(e:Addr)(c:Value):Prop:= ∃oe vs,h.get? e=some oe∧oe.data= .fields vs∧vs[2]? =some c
noncomputable abbrev tm(h:Heap)(e:Addr):Prop:=FD h e .none
section
variable{M:Model}{A:Around}{E:Value→Shared→Prop}{s:Shared}
theorem nG{base:Heap}{env:Env}{outer:List Env}{L e:Addr}{oe:Obj}{vs:Array Value}{a0 c2:Value}{Q:Unit→Shared→Prop}
  (fq:A.frames=some (env::outer)) (hl:s.heap.FunFrames base (env::outer)) (hf:env.frame=some L) (Hn:base.StaysIn s.heap) (y8:base.get? e=none)
  (he:s.heap.get? e=some oe) (hd:oe.data= .fields vs) (h1:vs[1]? =some .none) (h0:vs[0]? =some a0) (h2:vs[2]? =some c2)
  (h: ∀h',Heap.HeldW base (env::outer) e oe.cls a0 L h'→FD h' e c2→s.heap.UpToSlots h'→Q () {s with heap:=h'}):wpAny M A (noteFrame (.ref e) env) Q E s:=by
 have jC:1<vs.size:=(Array.getElem?_eq_some_iff.mp h1).1
 have Vu:e ∉ (env::outer).filterMap (·.frame):=λhm=>by
  obtain⟨_,o,ho,mi⟩:=hl.mem hm
  rw[he]at ho;injection ho with ho;subst ho;exact mi vs hd
 unfold noteFrame
 rw[hf]
 refine wpAny_bind (wpAny_field he hd h1 ?_)
 refine bw (by decide) ?_
 refine wpAny_bind (wpAny_frameOf_fun fq hl hf λh₁ hs₁=>?_)
 refine wpAny_bind (wpAny_entryPlaceOf λpl tZ=>?_)
 unfold EntryCells.newEntry newFields
 refine wpAny_bind (wpAny_newObj_type ?_ (tZ.sizeOk5 _ _ _ _ _))
 have he₁:h₁.get? e=some oe:=(hs₁.2.1 e Vu).trans he
 have kb₁:base.StaysIn h₁:=λb o vd=>(hs₁.2.1 b λhm=>by rw[(hl.mem hm).1]at vd;cases vd).trans (Hn b o vd)
 have he₂:=Heap.get?_push_of_some (h:=h₁) {cls:= .type "traceback",dict:=none,data:= .fields ([Value.none,.ref L,.none,rawInt L,.none]++(if pl.isEmpty then List.replicate 6 Value.none else pl)).toArray} he₁
 have AN:h₁.objs.size≠e:=Nat.ne_of_gt (Heap.lt_size he₁)
 have hd₃:=Obj.data_mapFields hd (·.setIfInBounds 1 (Value.ref h₁.objs.size))
 have he₃:=Heap.get?_update_self (Obj.mapFields (·.setIfInBounds 1 (Value.ref h₁.objs.size))) he₂ (Obj.isFreed_of_fields hd₃)
 have hT₃:=(Heap.get?_update_other (h₁.push {cls:= .type "traceback",dict:=none,data:= .fields ([Value.none,.ref L,.none,rawInt L,.none]++(if pl.isEmpty then List.replicate 6 Value.none else pl)).toArray})
  (Obj.mapFields (·.setIfInBounds 1 (Value.ref h₁.objs.size))) (Ne.symm AN)).trans (Heap.get?_push_size h₁ rfl)
 have keep: ∀b o,b≠e→h₁.get? b=some o→
   ((h₁.push {cls:= .type "traceback",dict:=none,data:= .fields ([Value.none,.ref L,.none,rawInt L,.none]++(if pl.isEmpty then List.replicate 6 Value.none else pl)).toArray}).update e (Obj.mapFields (·.setIfInBounds 1 (Value.ref h₁.objs.size)))).get? b=some o:=
  λb o ZN hb=>by
   rw[Heap.get?_update_other _ _ (Ne.symm ZN)]
   exact Heap.get?_push_of_some _ hb
 have dT: ∀b o,s.heap.get? b=some o→(∀vs,o.data≠ .fields vs)→b≠e:=λb o hb mi q=>by
  rw[q,he]at hb;injection hb with hb;subst hb;exact mi vs hd
 refine wpAny_setField he₂ hd jC (h _ ⟨λb o vd=>keep b o (λq=>by rw[q,y8]at vd;cases vd) (kb₁ b o vd),y8,hl.of_keeps λb o hb mi=>?_,?_⟩ ⟨_,_,he₃,hd₃,by rw[Array.getElem?_setIfInBounds_ne (by decide)];exact h2⟩ λb o hb mi=>?_)
 ·obtain⟨sl,hs⟩:=hs₁.2.2 b o hb
  exact⟨_,keep b _ (dT b o hb mi) hs,rfl⟩
 ·exact⟨_,_,h₁.objs.size,_,_,he₃,⟨Obj.cls_mapFields _ _,by rw[Array.getElem?_setIfInBounds_ne (by decide)];exact h0⟩,hd₃,by simp[jC],kb₁.fresh,AN,hT₃,rfl,by first|(simp;done)|(rcases tZ with rfl|⟨_,_,_,_,_,_,_,rfl⟩ <;> simp)⟩
 ·obtain⟨sl,hs⟩:=hs₁.2.2 b o hb
  exact⟨sl,keep b _ (dT b o hb mi) hs⟩
theorem lG{base:Heap}{l:List Env}{e:Addr}{cls a0 fl:Value}{Q:Unit→Shared→Prop}(Hn:base.StaysIn s.heap)(y8:base.get? e=none)(hl:s.heap.FunFrames base l)(ht:s.heap.TracedAtW base e cls a0 fl)(hn:tm s.heap e)
  (h: ∀h',Heap.FlyingW base l e cls a0 h'→tm h' e→s.heap.UpToSlots h'→Q () {s with heap:=h'}):wpAny M A (setFlight (.ref e) none) Q E s:=by
 refine aO λXq kq=>?_
 obtain⟨oe,vs,T,oT,ts,he,tn,hd,h1,Ho,AN,hT,y9,h3⟩:=ht
 have AO:3<ts.size:=(Array.getElem?_eq_some_iff.mp h3).1
 have other: ∀b,b≠T→(s.heap.update T (Obj.mapFields (·.setIfInBounds 3 .none))).get? b=s.heap.get? b:=λb hb=>Heap.get?_update_other _ _ (Ne.symm hb)
 have dT: ∀b o,s.heap.get? b=some o→(∀vs,o.data≠ .fields vs)→b≠T:=λb o hb mi q=>by
  rw[q,hT]at hb;injection hb with hb;subst hb;exact mi ts y9
 refine b8 hn λo2 UZ q1 q2 q3=>?_
 refine kq ?_
 refine wpAny_setFlight_none he hd h1 hT y9 AO (h _ ⟨λb o vd=>(other b λq=>by rw[q,Ho]at vd;cases vd).trans (Hn b o vd),y8,hl.of_keeps λb o hb mi=>⟨o,(other b (dT b o hb mi)).trans hb,rfl⟩,?_⟩
  ⟨o2,UZ,(other e (Ne.symm AN)).trans q1,q2,q3⟩ λb o hb mi=>⟨o.slots,(other b (dT b o hb mi)).trans hb⟩)
 exact⟨oe,vs,T,_,_,(other e (Ne.symm AN)).trans he,tn,hd,h1,Ho,AN,Heap.get?_update_self _ hT (Obj.isFreed_of_fields (Obj.data_mapFields y9 _)),Obj.data_mapFields y9 _,by simp[AO]⟩
end
end Mine.Internal
end
section
open PySem PyProof.Rows
namespace Mine.Internal
theorem oK:plainId "proto.unchain"=true:=by decide+kernel
theorem oN:entryFor table "proto.unchain"=some Builtin.«proto.unchain»:=entryFor_of_fast (by kernel_rfl)
section
variable{prog:Program}{w:World}{A:Around}{E:Value→Shared→Prop}{s:Shared}{env:Env}
theorem AP{α:Type}{e eo t:Addr}{X:Value}{Q:α→Shared→Prop}(hh:A.handled=some (.ref eo))(fB:e≠eo)(he:s.heap.get? e=some {cls:=X,data:= .fields #[.ref t,.none,.none,.none,.bool false,.none]})(hn:tm s.heap eo)
  (h:E (.ref e) {s with heap:=s.heap.update e (Obj.mapFields (·.setIfInBounds 2 (.ref eo)))}):wpAny (model prog w) A (raiseNew (.ref e):Sem α) Q E s:=by
 unfold raiseNew
 refine wpAny_bind (wpAny_handled ?_)
 rw[hh]
 dsimp only
 have hb:(Value.ref eo != Value.ref e)=true:=by simp[Ne.symm fB]
 refine dD hb ?_
 refine aO λXq kq=>?_
 refine b8 hn λoe vs h1 h2 h3=>?_
 refine kq ?_
 refine wpAny_bind (wpAny_holding (wpAny_runValue (codeAny_builtin oN ?_)))
 rw[Around.under_plainId oK _]
 show wpAny _ A.in1 (field (.ref eo) 2 >>= _) _ _ s
 refine wpAny_bind (wpAny_field h1 h2 h3 ?_)
 refine dD (show(Value.none==Value.none)=true from rfl) ?_
 refine wpAny_pure ?_
 refine wpAny_bind ?_
 unfold updateField
 refine wpAny_bind (wpAny_load he ?_)
 dsimp only
 refine dD (show 2<(#[Value.ref t,Value.none,Value.none,Value.none,Value.bool false,Value.none]:Array Value).size from by show 2<6;decide) ?_
 exact wpAny_update he (wpAny_throw h)
theorem f5{cls:String}(F:ExcRaiseFacts cls){x:Sem Value}{eo:Addr}{Q:Flow→Shared→Prop}(hh:A.handled=some (.ref eo))
  (h:wpAny (model prog w) A x (λv s₁=> ∃e t,v= .ref e∧e≠eo∧s₁.heap.get? e=some {cls:= .type cls,data:= .fields #[.ref t,.none,.none,.none,.bool false,.none]}∧tm s₁.heap eo∧
   E (.ref e) {s₁ with heap:=s₁.heap.update e (Obj.mapFields (·.setIfInBounds 2 (.ref eo)))}) E s):
  wpAny (model prog w) A (raiseStmt env (some x) none) Q E s:=by
 unfold raiseStmt
 refine wpAny_bind (wpAny_mono h (λv s₁ h₁=>?_) λ_ _ x=>x)
 refine aO λXq kq=>?_
 refine cz h₁ λe t Ol fB he hn hE=>?_
 subst Ol
 have key:wpAny (model prog w) A (raiseNew (.ref e):Sem Flow) Q E s₁:=AP hh fB he hn hE
 obtain⟨hp,g,d,tk,os⟩:=s₁
 refine kq ?_
 have mS:=F.isExc
 have XE:=F.plainMeta
 clear hE hn
 repeat (first|exact key|refine wpAny_loadPart he ?_|wp_step)
theorem AQ{cls:String}(F:ExcRaiseFacts cls){x:Expr}{pos:Pos}{eo:Addr}{Q:Flow→Shared→Prop}(hh:A.handled=some (.ref eo))
  (h:wpAny (model prog w) A (eval x env) (λv s₁=> ∃e t,v= .ref e∧e≠eo∧s₁.heap.get? e=some {cls:= .type cls,data:= .fields #[.ref t,.none,.none,.none,.bool false,.none]}∧tm s₁.heap eo∧
   E (.ref e) {s₁ with heap:=s₁.heap.update e (Obj.mapFields (·.setIfInBounds 2 (.ref eo)))}) E s):
  wpAny (model prog w) A (exec (.Raise (some x) none pos) env) Q E s:=by
 rw[arm_exec_Raise]
 first
  |exact wpAny_bind (wpAny_standAt (f5 F hh (wpAny_bind (wpAny_mono h (λv s₁ h₁=>wpAny_bind (wpAny_standAt (wpAny_pure h₁))) λ_ _ x=>x))))
  |(simp only[evalOpt,Option.map];exact wpAny_bind (wpAny_standAt (f5 F hh (wpAny_bind (wpAny_mono h (λv s₁ h₁=>wpAny_bind (wpAny_standAt (wpAny_pure h₁))) λ_ _ x=>x)))))
  |(show wpAny _ A (do standAt pos;raiseStmt env (some (do let v←eval x env;standAt pos;pure v)) none) Q E s;exact wpAny_bind (wpAny_standAt (f5 F hh (wpAny_bind (wpAny_mono h (λv s₁ h₁=>wpAny_bind (wpAny_standAt (wpAny_pure h₁))) λ_ _ x=>x)))))
end
end Mine.Internal
end
section
open PySem PyProof.Rows
namespace Mine.Internal
noncomputable def Hp(c:Cx)(X:Value)(sc:Scope)(asg:Str→Bool)(P:ah→XK→Prop)(l:List Stmt):Prop:=
 ∀(A:Around) (env:Env) (s:Shared) (σ:ah) (K C:Addr→Prop) (base h0:Heap) (outer:List Env) (k:XK) (Q:Flow→Shared→Prop) (E:Value→Shared→Prop),env.scope=sc→ny c A env s σ K C asg base h0 outer→P σ k→
  (∀h1 h' tk e cls m,k.ok X cls m→base.StaysIn h1→h1.FunFrames base (env::outer)→h0.UpToSlots h1→kP h1 h' e cls m→E (.ref e) {s with heap:=h',toks:=tk})→wpAny (model c.prog c.w) A (execs l env) Q E s
section
variable{c:Cx}{X:Value}{sc:Scope}{asg:Str→Bool}{P P':ah→XK→Prop}
theorem ZO{l:List Stmt}(h1:Hp c X sc asg P l)(h2:Hp c X sc asg P' l):Hp c X sc asg (λσ k=>P σ k∨P' σ k) l:=λA env s σ K C base h0 outer k Q E he xa hP hE=>
 hP.elim (λh=>h1 A env s σ K C base h0 outer k Q E he xa h hE) λh=>h2 A env s σ K C base h0 outer k Q E he xa h hE
theorem Om{n:Str}{x:Expr}{np pos:Pos}{l:List Stmt}(h:Ry c X sc P x)(hs: ∀env:Env,swapsWith x (some (.Name n np)) pos.line env=pure false):Hp c X sc asg P (.Assign [.Name n np] x pos::l):=λA env s σ K C base h0 outer k Q E he xa hP hE=>by
 refine wpAny_execs_cons (wpAny_Assign_Name (h A env s σ _ k _ E he xa.act.pre hP λh1 h' tk e cls m hk hx x=>?_) (hs env))
 refine gM (xa.ext hx) λq1 q2 q3=>?_
 exact hE h1 h' tk e cls m hk q1 q2 q3 x
theorem Vv{a:MS}{st:Stmt}{l:List Stmt}(ha:dI c sc asg a st)(hw: ∀x,c.ow x=0)(h:Hp c X sc asg P l):Hp c X sc asg (λσ k=> ∃σ',run c.Φ a σ=some (.nx σ')∧P σ' k) (st::l):=by
 intro A env s σ K C base h0 outer k Q E he xa ⟨σ',hr,hP⟩ hE
 refine wpAny_execs_cons (ha A env s σ K C noOwn _ _ E he xa.act xa.oo hr λh' tk K' dB act oo g=>?_)
 have ro:dB=noOwn:=funext λx=>by
  have:=oo x
  rw[hw x]at this
  simp at this
  exact this
 subst ro
 exact h A env _ σ' K' C base h0 outer k Q E he (xa.next act oo g) hP hE
theorem yl{h h':Heap}{e:Addr}{cls:Value}{m:Option Str}(x:kP h h' e cls m): ∃oe a0,h'.get? e=some oe∧oe.cls=cls∧oe.data= .fields #[a0,.none,.none,.none,.bool false,.none]∧(∀b o,h.get? b=some o→h'.get? b=some o)∧h.get? e=none∧
  ∀msg,m=some msg→ ∃t tk,a0= .ref t∧h'.TupAt t [.str msg tk]:=by
 cases x with
 |made tk m=>
  refine bK m.there λt he Nt ht=>?_
  exact⟨_,.ref t,he,rfl,rfl,m.keeps,m.new,λmsg q=>by cases q;exact⟨t,tk,rfl,_,_,ht,rfl,rfl⟩⟩
 |new m=>
  refine b8 m.there λob t h1 h2 h3=>?_
  exact⟨ob,t,h1,h2,h3,m.keeps,m.new,λ_ q=>(by cases q)⟩
theorem pP{M:Model}{A:Around}{E:Value→Shared→Prop}{s:Shared}{base:Heap}{l:List Env}{e L:Addr}{cls a0 fl:Value}{Q:Unit→Shared→Prop}(Hn:base.StaysIn s.heap)(y8:base.get? e=none)(hl:s.heap.FunFrames base l)(ht:s.heap.TracedAtW base e cls a0 fl)
  (h: ∀h',Heap.HeldW base l e cls a0 L h'→s.heap.UpToSlots h'→Q () {s with heap:=h'}):wpAny M A (setFlight (.ref e) (some L)) Q E s:=by
 refine aO λXq kq=>?_
 obtain⟨oe,vs,T,oT,ts,he,tn,hd,h1,Ho,AN,hT,y9,h3⟩:=ht
 refine kq ?_
 have AO:3<ts.size:=(Array.getElem?_eq_some_iff.mp h3).1
 have other: ∀b,b≠T→(s.heap.update T (Obj.mapFields (·.setIfInBounds 3 ((some L).elim Value.none λf=>rawInt f)))).get? b=s.heap.get? b:=λb hb=>Heap.get?_update_other _ _ (Ne.symm hb)
 have dT: ∀b o,s.heap.get? b=some o→(∀vs,o.data≠ .fields vs)→b≠T:=λb o hb mi q=>by
  rw[q,hT]at hb;injection hb with hb;subst hb;exact mi ts y9
 unfold setFlight
 refine wpAny_bind (wpAny_field he hd h1 ?_)
 refine dD (show(Value.ref T != Value.none)=true from by simp) ?_
 refine wpAny_setField hT y9 AO (h _ ⟨λb o vd=>(other b λq=>by rw[q,Ho]at vd;cases vd).trans (Hn b o vd),y8,hl.of_keeps λb o hb mi=>⟨o,(other b (dT b o hb mi)).trans hb,rfl⟩,?_⟩
  λb o hb mi=>⟨o.slots,(other b (dT b o hb mi)).trans hb⟩)
 exact⟨oe,vs,T,_,_,(other e (Ne.symm AN)).trans he,tn,hd,h1,Ho,AN,Heap.get?_update_self _ hT (Obj.isFreed_of_fields (Obj.data_mapFields y9 _)),Obj.data_mapFields y9 _,by simp[AO]⟩
theorem pQ{M:Model}{A:Around}{E:Value→Shared→Prop}{s:Shared}{base:Heap}{e:Addr}{cls a0 fl:Value}{Q:Value→Shared→Prop}(ht:s.heap.TracedAtW base e cls a0 fl)(h: ∀T,Q (.ref T) s):wpAny M A (field (.ref e) 1) Q E s:=by
 refine aO λXq kq=>?_
 refine Sg ht λoe vs T oT ts he tn hd h1 _=>?_
 refine kq ?_
 exact wpAny_field he hd h1 (h T)
theorem DS{α:Type}{M:Model}{A:Around}{E:Value→Shared→Prop}{s:Shared}{base:Heap}{l:List Env}{env:Env}{e L:Addr}{cls a0 fl:Value}{zt:String}{Q:α→Shared→Prop}(hf:env.frame=some L)(Hn:base.StaysIn s.heap)(y8:base.get? e=none)(hl:s.heap.FunFrames base l)(ht:s.heap.TracedAtW base e cls a0 fl)
  (h: ∀h',Heap.HeldW base l e cls a0 L h'→s.heap.UpToSlots h'→E (.ref e) {s with heap:=h'}):wpAny M A (PySem.passOn zt (.ref e) env:Sem α) Q E s:=by
 unfold PySem.passOn
 refine wpAny_bind (pQ ht λT=>?_)
 refine bw (by simp) ?_
 rw[hf]
 exact wpAny_bind (pP Hn y8 hl ht λh' a b=>wpAny_throw (h h' a b))
theorem eX{A:Around}{env:Env}{s:Shared}{E:Value→Shared→Prop}{x:Str}{pos:Pos}{v:Value}{Q:Value→Shared→Prop}(he:env.scope=sc)(fn:env.scope.kind= .function)(gl:env.globals=mainGlobals)(bl:env.builtins=builtinsNs)(top:Ext c.hT s.heap)(ok:c.Ok)(hb:c.bn x=some v)
  (hs:sc.names.lookup x=some .globalImplicit) (d9:aR x=true) (h:Q v s):wpAny (model c.prog c.w) A (eval (.Name x pos) env) Q E s:=by
 simp only[aR,Bool.and_eq_true,Bool.not_eq_true']at d9
 refine aX (ok.bn x v hb) λh1 h2=>?_
 refine Calls.Name_function_global fn (by unfold Env.kindOf;rw[he];exact hs) ?_ d9.1
 exact Calls.loadGlobal_builtin (mg:=c.mg) (mb:=c.mb) (by rw[gl];exact ok.g.keeps top) h1 (by rw[bl];exact ok.b.keeps top) h2 h
theorem wG:isSubtype (.type "ValueError") (.type "BaseException")=pure true:=by rw[isSubtype_type];kernel_rfl
theorem wH:isSubtype (.type ((Manifest.find? "ValueError").elim "type" λx=>x.metatype)) (.type "tuple")=pure false:=by
 rw[show((Manifest.find? "ValueError").elim "type" λx=>x.metatype)= "type" from by kernel_rfl,isSubtype_type];kernel_rfl
theorem Hq:isSubtype (.type "ValueError") (.type "ValueError")=pure true:=by rw[isSubtype_type];kernel_rfl
theorem Hr:isSubtype (.type "OverflowError") (.type "ValueError")=pure false:=by rw[isSubtype_type];kernel_rfl
theorem Hs:isSubtype (.type "TypeError") (.type "ValueError")=pure false:=by rw[isSubtype_type];kernel_rfl
noncomputable def dy:XK→XK
 | .val=> .kind true
 |k=>k
theorem Vw{body:List Stmt}{hp np bG rp xp jp kp pos:Pos}{sk:Nat}(ok:c.Ok)(hv:c.bn (Str.ofString "ValueError")=some (.type "ValueError"))(ht:c.bn (Str.ofString "TypeError")=some (.type "TypeError"))
  (gv:sc.names.lookup (Str.ofString "ValueError")=some .globalImplicit) (gt:sc.names.lookup (Str.ofString "TypeError")=some .globalImplicit) (hb:Hp c X sc asg P body) (Ng: ∀σ k,P σ k→k≠ .dj):
  NZ c X sc asg (λσ k=> ∃k',P σ k'∧k=dy k') (.Try body [.ExceptHandler (some (.Name (Str.ofString "ValueError") hp)) none [.Raise (some (.Call (.Name (Str.ofString "TypeError") np) [.JoinedStr [.Constant (.str wD) sk kp] jp] [] bG)) none rp] xp] [] [] pos):=by
 intro A env s σ K C base h0 outer k Q E he xa ⟨k',hP,hk⟩ hE
 have Vx:=Ng σ k' hP
 refine wpAny_Try_except (hb A env s σ K C base h0 outer k' _ _ he xa hP λh1 h' tk e cls m jO st fl up x=>?_)
 refine aO λXq kq=>?_
 refine CR (yl x) λoe a0 q1 q2 q3 q4 q5 q6=>?_
 refine kq ?_
 have y8:base.get? e=none:=by
  cases q:base.get? e with
  |none=>rfl
  |some o=>have:=st e o q;rw[q5]at this;cases this
 have aU:base.StaysIn h':=λb o e=>q4 b o (st b o e)
 have ZP:h'.FunFrames base (env::outer):=fl.of_keeps λb o e _=>⟨o,q4 b o e,rfl⟩
 have ZQ:h0.UpToSlots h':=up.trans (.of_keeps q4)
 have fn:=xa.act.fn
 have gl:=xa.act.gl
 have bl:=xa.act.bl
 refine nG (s:={s with heap:=h',toks:=tk}) xa.frames ZP xa.fr aU y8 q1 q3 rfl rfl rfl λh2 H2 N2 u2=>?_
 refine aO λXq kq=>?_
 refine za H2 λa1 a2 a3 a4=>?_
 refine kq ?_
 refine lG (s:={s with heap:=h2,toks:=tk}) a1 a2 a3 a4 N2 λh3 H3 N3 u3=>?_
 have RB:h0.UpToSlots h3:=(ZQ.trans u2).trans u3
 have oO:Ext c.hT h3:=λb o e=>H3.1 b o (xa.tb b o e)
 have Ht: ∀T:String,cls= .type T→({s with heap:=h3,toks:=tk}:Shared).TypeIs (.ref e) T:=λT hT=>by
  refine ai H3.there λob p1 p2=>?_
  exact⟨ob,p1,by rw[p2,q2,hT]⟩
 -- zt no clause takes ZR on
 have on: ∀T:String,cls= .type T→isSubtype (.type T) (.type "ValueError")=pure false→k'.ok X cls m→k=k'→wpAny (model c.prog c.w) A (handleBy (.ref e) env [.ExceptHandler (some (.Name (Str.ofString "ValueError") hp)) none [.Raise (some (.Call (.Name (Str.ofString "TypeError") np) [.JoinedStr [.Constant (.str wD) sk kp] jp] [] bG)) none rp] xp]) Q E {s with heap:=h3,toks:=tk}:=by
  intro T hT hs jO I3
  refine wpAny_handleBy_builtin (X:=T) (T:= "ValueError") (b:=false) wG wH hs (eX he fn gl bl oO ok hv gv (by decide) ⟨rfl,Ht T hT,?_⟩)
  skip
  refine wpAny_handleBy_nil (DS xa.fr H3.1 H3.2.1 H3.2.2.1 H3.2.2.2.at λh4 H4 u4=>?_)
  subst I3
  refine hE h4 tk e cls m jO (.held a0 (by rw[←q2];exact H4) (λmsg q=>?_) (RB.trans u4))
  refine da (q6 msg q) λt je e1 e2=>?_
  exact⟨t,je,e1,e2.of_slots ((u2.trans u3).trans u4)⟩
 cases k' with
 |dj=>exact absurd rfl Vx
 |past=>exact on "OverflowError" jO Hr jO hk
 |kind b=>exact on "TypeError" jO.1 Hs jO hk
 |val=>
  have hT:cls= .type "ValueError":=jO
  refine wpAny_handleBy_builtin (X:= "ValueError") (T:= "ValueError") (b:=true) wG wH Hq (eX he fn gl bl oO ok hv gv (by decide) ⟨rfl,Ht _ hT,?_⟩)
  refine jF rfl ?_
  refine lG H3.1 H3.2.1 H3.2.2.1 H3.2.2.2.at N3 λh4 H4 N4 u4=>?_
  have Vy:Ext c.hT h4:=λb o e=>H4.1 b o (xa.tb b o e)
  refine wpAny_execs_cons ?_
  have hh:(A.mark (some (.ref e))).handled=some (.ref e):=rfl
  refine AQ PySem.F.excRaise_TypeError hh (wpAny_Call_ofName (eX he fn gl bl Vy ok ht gt (by decide) ?_))
  refine callWith_excType (cF bG rfl) ?_
  rw[a7 (x:= .JoinedStr [.Constant (.str wD) sk kp] jp) rfl]
  refine Calls.evalArgs_plain (Calls.spliced_cons (wpAny_JoinedStr_one (pos:=jp) (wpAny_Constant_str (pos:=kp) (k:=sk) (Calls.spliced_nil ?_))))
  refine wpAny_call_exc PySem.F.excCall_TypeError (hrest:=by show 1≤sizeLine;rw[sizeLine_eq];decide) λh5 e2 hm=>?_
  refine aO λXq kq=>?_
  refine bK hm.there λt q7 q8 q9=>?_
  have fB:e2≠e:=λq=>by
   refine ai H4.there λob p1 _=>?_
   have:=hm.new
   replace this:=q▸this
   replace this:=p1▸this
   cases this
  refine b8 N4 λo4 ZS p1 p2 p3=>?_
  refine kq ?_
  refine⟨e2,t,rfl,fB,q7,⟨o4,ZS,hm.keeps _ _ p1,p2,p3⟩,?_⟩
  have Vz:base.get? e2=none:=by
   cases q:base.get? e2 with
   |none=>rfl
   |some o=>have:=H4.1 e2 o q;rw[show h4.get? e2=none from hm.new]at this;cases this
  have As: ∀b,b≠e2→(h5.update e2 (Obj.mapFields (·.setIfInBounds 2 (.ref e)))).get? b=h5.get? b:=λb hb=>Heap.get?_update_other _ _ (Ne.symm hb)
  have old: ∀b o,h4.get? b=some o→(h5.update e2 (Obj.mapFields (·.setIfInBounds 2 (.ref e)))).get? b=some o:=λb o q=>by
   rw[As b (λz=>by rw[z,show h4.get? e2=none from hm.new]at q;cases q)]
   exact hm.keeps b o q
  have at2:=Heap.get?_update_self (Obj.mapFields (·.setIfInBounds 2 (Value.ref e))) q7 (Obj.isFreed_of_fields (Obj.data_mapFields rfl _))
  have Nt:t≠e2:=λz=>by
   rw[z,q7]at q9
   exact absurd (congrArg Obj.cls (Option.some.inj q9)) (by simp)
  refine nG (L:=env.locals) (base:=base) (outer:=outer) (a0:= .ref t) (c2:= .ref e) xa.frames (H4.2.2.1.of_keeps λb o q _=>⟨o,old b o q,rfl⟩) xa.fr (λb o q=>old b o (H4.1 b o q)) Vz at2 (Obj.data_mapFields rfl _) rfl rfl rfl λh6 H6 N6 u6=>?_
  skip
  refine wpAny_bind (pQ H6.2.2.2 λT=>?_)
  refine bw (by simp) ?_
  rw[xa.fr]
  refine pP H6.1 H6.2.1 H6.2.2.1 H6.2.2.2 λh7 H7 u7=>?_
  subst hk
  have tup:h7.TupAt t [.str wD _]:=Heap.TupAt.of_slots (Heap.TupAt.of_slots (h:=h5.update e2 (Obj.mapFields (·.setIfInBounds 2 (.ref e)))) ⟨_,_,(As t Nt).trans q9,rfl,rfl⟩ u6) u7
  exact hE h7 _ e2 (.type "TypeError") (some wD) ⟨rfl,wD,rfl,by simp⟩ (.held (.ref t) H7 (λmsg q=>by cases q;exact⟨t,_,rfl,tup⟩) ((((RB.trans u4).trans (.of_keeps old)).trans u6).trans u7))
end
end Mine.Internal
end
section
open PySem PyProof.Rows
namespace Mine.Internal
noncomputable def ym(Φ:Nat→List D→Option D)(m:MS)(P:ah→XK→Prop)(σ0:ah)(l:List D)(r:Res):Prop:=
 (cY l∧((∃d',r= .told d'∧run Φ m (upd σ0 0 (.list (bg l)))=some (.rt d'))∨ ∃k,r= .exc k∧P (upd σ0 0 (.list (bg l))) k))∨(r= .exc (.kind false)∧ ∃h,pK l h)
structure dY(hT:Heap)(k:Nat)(A:Around)(s:Shared)(d:D)(v:Value)(l:List D)(Z:Addr→Prop)(base:Heap)(outer:List Env):Prop where
 room:jo k A
 frames:A.frames=some outer
 fl:s.heap.FunFrames base outer
 st:base.StaysIn s.heap
 tb:Ext hT base
 gb: ∀b,given [d] [v] b→base.get? b=none
 row:rowOf d=some l
 rep:aZ Z s.heap d v
 hZ: ∀a,s.heap.get? a=none→Z a
 zT: ∀b o,hT.get? b=some o→Z b
noncomputable def eY(prog:Program)(w:World)(X:Value)(hT:Heap)(a:Addr)(R:List D→Res→Prop):Prop:=
 ∀(A:Around) (s:Shared) (d:D) (v:Value) (l:List D) (r:Res) (Z:Addr→Prop) (base:Heap) (outer:List Env) (Q:Value→Shared→Prop) (E:Value→Shared→Prop),dY hT 3 A s d v l Z base outer→R l r→
  jS X r (given [d] [v]) Z base outer s Q E→wpAny (model prog w) A (call (.ref a) [v]) Q E s
section
variable{c:Cx}{X:Value}
theorem dY.top{hT:Heap}{k:Nat}{A:Around}{s:Shared}{d:D}{v:Value}{l:List D}{Z:Addr→Prop}{base:Heap}{outer:List Env}(p:dY hT k A s d v l Z base outer):Ext hT s.heap:=λb o e=>p.st b o (p.tb b o e)
theorem dY.gt{hT:Heap}{k:Nat}{A:Around}{s:Shared}{d:D}{v:Value}{l:List D}{Z:Addr→Prop}{base:Heap}{outer:List Env}(p:dY hT k A s d v l Z base outer)(b:Addr)(h:given [d] [v] b):hT.get? b=none:=by
 cases q:hT.get? b with
 |none=>rfl
 |some o=>have:=p.tb b o q;rw[p.gb b h]at this;cases this
theorem qJ{f:Fn}{m:MS}{n:Str}{rest:List Stmt}{P:ah→XK→Prop}{np fp ap bG pos:Pos}{a:Addr}(ok:c.Ok)(hk:c.k=0)(cf:c.hT.NoLimit)(hf:bU f=true)(cn:dX f)(iZ:f.ps= [n])(hx:c.nt[0]? =some n)(vb:aR n=true)(hw: ∀y,c.ow y=0)(dG: ∀y,c.lv y=0)
  (fL:f.body= .Assign [.Name n np] (.Call (.Name (Str.ofString "sorted") fp) [.Name n ap] [] bG) pos::rest) (cX:c.bn (Str.ofString "sorted")=some (.builtin "sorted")) (Hk:f.scope.names.lookup (Str.ofString "sorted")=some .globalImplicit)
  (hb:bV c f.scope (aW f.scope) m rest) (N1:ub c X f.scope (aW f.scope) P rest) (gg:FnAt f a c.hT):eY c.prog c.w X c.hT a (ym c.Φ m P λ_=>none):=λA s d v l r Z base outer Q E p hr hQ=>by
 refine AF (x:=0) (xs:= []) (ds:= []) (vs:= []) (σ0:=λ_=>none) (Z:=Z) ok hf cn.d iZ hx rfl vb hw dG fL cX Hk hb N1 (jR p.room (by rw[hk];decide)) p.top (cf.keeps p.top) (gg.keeps p.top).d p.frames p.fl p.st p.tb p.gb p.gt p.row p.rep .nil rfl p.hZ hr hQ
theorem DT{f:Fn}{m:MS}{n n2:Str}{rest:List Stmt}{P:ah→XK→Prop}{np fp ap bG pos:Pos}{a:Addr}{dV:Value}(ok:c.Ok)(hk:c.k=0)(cf:c.hT.NoLimit)(hf:bU f=true)(cn:pL f dV c.hT)(iZ:f.ps= [n,n2])(hx:c.nt[0]? =some n)(rE:c.nt[1]? =some n2)(vb:aR n=true)(hw: ∀y,c.ow y=0)(dG: ∀y,c.lv y=0)
  (fL:f.body= .Assign [.Name n np] (.Call (.Name (Str.ofString "sorted") fp) [.Name n ap] [] bG) pos::rest) (cX:c.bn (Str.ofString "sorted")=some (.builtin "sorted")) (Hk:f.scope.names.lookup (Str.ofString "sorted")=some .globalImplicit)
  (hb:bV c f.scope (aW f.scope) m rest) (N1:ub c X f.scope (aW f.scope) P rest) (gg:ig f dV a c.hT)
  {A:Around} {s:Shared} {d dw:D} {v vw:Value} {l:List D} {r:Res} {Z:Addr→Prop} {base:Heap} {outer:List Env} {Q:Value→Shared→Prop} {E:Value→Shared→Prop} (p:dY c.hT 1 A s d v l Z base outer) (VA:aZ (λb=> ¬given [d] [v] b∧Z b) s.heap dw vw)
  (hr:ym c.Φ m P (upd (λ_=>none) 1 dw) l r) (hQ:jS X r (given [d] [v]) Z base outer s Q E):wpAny (model c.prog c.w) A (call (.ref a) [v,vw]) Q E s:=by
 refine AF (x:=0) (xs:= [1]) (ds:= [dw]) (vs:= [vw]) (σ0:=upd (λ_=>none) 1 dw) (Z:=Z) ok hf cn iZ hx (by simp[rE]) vb hw dG fL cX Hk hb N1 (jR p.room (by rw[hk];decide)) p.top (cf.keeps p.top) (gg.keeps p.top) p.frames p.fl p.st p.tb p.gb p.gt p.row p.rep
  (.cons (by rw[dG];exact VA) .nil) rfl p.hZ hr hQ
end
end Mine.Internal
end
section
open PySem PyProof.Rows
namespace Mine.Internal
theorem Hu(C:Addr):isSubtype (.type "TypeError") (.ref C)=pure false:=by
 rw[isSubtype_type];rfl
theorem Hv(C:Addr):isSubtype (.type "OverflowError") (.ref C)=pure false:=by
 rw[isSubtype_type];rfl
section
variable{M:Model}{A:Around}{E:Value→Shared→Prop}
variable{C N:Addr}{nm q:Str}{bs bm:List Value}{hdct:Bool}
theorem AR{x:Str}{bmB:List Value}{newId:String}{mg:Str→Option Value}{X:String}{s:Shared}{e:Addr}{Q:Bool→Shared→Prop}(O:OwnClsQ x C bmB newId mg s.heap)(AS:bmB.contains (.type "BaseException")=true)(hX:s.TypeIs (.ref e) X)
  (mS:isSubtype (.type X) (.ref C)=pure false) (hq:Q false s):wpAny M A (excMatches (.ref e) (.ref C)) Q E s:=by
 refine aO λXq kq=>?_
 obtain⟨bm,N,nm,q,bs,hdct,sn,sub,ab,col,dd,k0,k1,k2,k3,k5,mN,hC,hN,hqn,T⟩:=O.obj
 have VB:=T.tail.hasType AS
 refine ai hX λoe he tn=>?_
 obtain⟨hh,g,d,tk,os⟩:=s
 refine kq ?_
 have VC:(Value.ref C::bm).contains (.type "BaseException")=true:=by rw[List.contains_cons,VB,Bool.or_true]
 have f:=tc_notTuple
 unfold excMatches
 repeat (first|(with_reducible refine wpAny_loadPart_at he ?_;rw[tn])|with_reducible refine wpAny_loadPart_at hC ?_|(with_reducible refine wpAny_isSubtype_exc hC ?_;rw[VC])|wp_step)
 all_goals exact hq
end
end Mine.Internal
end
section
open PySem PySem.Builtin.Str PySem.Builtin.BaseException PyProof.Rows
namespace Mine.Internal
noncomputable abbrev jh:List Value:= [.type "ValueError",.type "Exception",.type "BaseException",.type "object"]
structure dZ(h:Heap)(C:Addr):Prop where
 there: ∃nm q N bs hdct sn sub ab col dd k0 k1 k2 k3 k5 newId mN,h.get? C=some (excClassObj nm q C N bs jh hdct sn sub ab col dd k0 k1 k2 k3 k5 newId)∧h.Ns N mN∧mN (Str.ofString "__str__")=none
theorem dZ.keeps{h h':Heap}{C:Addr}(x:dZ h C)(k: ∀b o,h.get? b=some o→h'.get? b=some o):dZ h' C:=by
 obtain⟨nm,q,N,bs,hdct,sn,sub,ab,col,dd,k0,k1,k2,k3,k5,newId,mN,hC,hN,hm⟩:=x.there
 exact⟨nm,q,N,bs,hdct,sn,sub,ab,col,dd,k0,k1,k2,k3,k5,newId,mN,k _ _ hC,hN.keeps k,hm⟩
structure jw(h:Heap)(C e:Addr)(m:Str)(tk:Tok):Prop where
 cls:dZ h C
 obj: ∃o vs t,h.get? e=some o∧o.cls= .ref C∧o.data= .fields vs∧vs[0]? =some (.ref t)∧h.TupAt t [.str m tk]
theorem yn:lookupAlong jh (Str.ofString "__str__")=pure (some (.builtin "BaseException.__str__")):=by kernel_rfl
section
variable{prog:Program}{w:World}{M:Model}{A:Around}{E:Value→Shared→Prop}{s:Shared}{C e:Addr}{m:Str}{tk:Tok}
theorem AU{Q:Option Value→Shared→Prop}(x:dZ s.heap C)(hq:Q (some (.builtin "BaseException.__str__")) s):wpAny M A (typeLookup (.ref C) (Str.ofString "__str__")) Q E s:=by
 refine aO λXq kq=>?_
 obtain⟨nm,q,N,bs,hdct,sn,sub,ab,col,dd,k0,k1,k2,k3,k5,newId,mN,hC,hN,hm⟩:=x.there
 obtain⟨h,g,d,t,os⟩:=s
 refine kq ?_
 rw[typeLookup_eq]
 refine wpAny_bind (wpAny_mroOf_exc hC ?_)
 rw[lookupAlong_cons]
 refine wpAny_bind (wpAny_classOwn_exc hC hN ?_)
 rw[hm]
 exact wpAny_of_eq yn hq
theorem yo{Q:Unit→Shared→Prop}(x:jw s.heap C e m tk)(hq:Q () s):wpAny M A (checkBuiltinCall "BaseException.__str__" ⟨[.ref e],[]⟩) Q E s:=by
 refine aO λXq kq=>?_
 obtain⟨nm,q,N,bs,hdct,sn,sub,ab,col,dd,k0,k1,k2,k3,k5,newId,mN,hC,hN,hm⟩:=x.cls.there
 refine gO x.obj λo vs t hx hc _=>?_
 obtain⟨h,g,d,t,os⟩:=s
 refine kq ?_
 have hk:builtinKind "BaseException.__str__"=some .slot:=by decide+kernel
 have Hw:splitId "BaseException.__str__"=some ("BaseException","__str__"):=by decide+kernel
 have VC:(Value.ref C::jh).contains (.type "BaseException")=true:=by rw[List.contains_cons];simp
 have ha:=F.args_bexc_str (.ref e)
 simp only[checkBuiltinCall,hk,Hw]
 refine wpAny_bind ?_
 ·unfold isInstance
  repeat (first|(with_reducible refine wpAny_loadPart_at hx ?_;rw[hc])|(with_reducible refine wpAny_isSubtype_exc hC ?_;rw[VC])|wp_step)
  exact hq
theorem yp{Q:PySem.Fin→Shared→Prop}(x:jw s.heap C e m tk)(hq:Q (.done (.ret (.str m tk))) s):wpAny (model prog w) A (Builtin.«BaseException.__str__» ⟨[.ref e],[]⟩) Q E s:=by
 refine aO λXq kq=>?_
 obtain⟨o,vs,t,hx,hc,hd,h0,ot,k,ZT,_,ZU⟩:=x.obj
 refine kq ?_
 have key: ∀{Q:Value×List Value→Shared→Prop},Q (.ref t,[.str m tk]) s→wpAny (model prog w) A (bexcArgs (.ref e)) Q E s:=λ{Q} hq=>by
  unfold bexcArgs
  exact wpAny_bind (wpAny_field hx hd h0 (wpAny_bind (wpAny_seqItems ZT ZU (wpAny_pure hq))))
 unfold Builtin.«BaseException.__str__»
 repeat (first|with_reducible refine key ?_|wp_step)
 exact hq
theorem AV{Q:Value→Shared→Prop}(x:jw s.heap C e m tk)(hq:Q (.str m tk) s):wpAny (model prog w) A (call (.builtin "BaseException.__str__") [.ref e]) Q E s:=by
 refine wpAny_call (codeAny_call_builtin (F.excStr_ValueError).str.plain F.entry_bexc_str (yo x (yp x hq)))
theorem DU{Q:Value→Shared→Prop}(hu:A.units<cLine)(x:jw s.heap C e m tk)(hq:Q (.str m tk) s):wpAny (model prog w) A (Builtin.Str.strOf (.ref e)) Q E s:=by
 refine gO x.obj λo vs t hx hc _=>?_
 have key: ∀{Q:Option Value→Shared→Prop},Q (some (.str m tk)) s→wpAny (model prog w) A (callSpecial? (.ref e) (Str.ofString "__str__")) Q E s:=λ{Q} hq=>by
  simp only[callSpecial?,specialOf]
  refine wpAny_bind (wpAny_bind (wpAny_typeOf_ref hx ?_))
  rw[hc]
  refine AU x.cls ?_
  dsimp only
  rw[(F.excStr_ValueError).str.bind (.ref e)]
  exact wpAny_holding (wpAny_bind (wpAny_pure (wpAny_bind (AV x (wpAny_pure hq)))))
 unfold Builtin.Str.strOf
 repeat (first|with_reducible refine wpAny_cRoomFor hu ?_|with_reducible refine key ?_|wp_step)
 exact hq
theorem ve{Q:Value→Shared→Prop}(hu:A.units+2<cLine)(x:jw s.heap C e m tk)(h:Q (.str m tk) s):wpAny (model prog w) A (call (.type "str") [.ref e]) Q E s:=
 callType_new F.called_str (by decide) (F.typeCall_str_1 _) (F.newCall_str_1 _) (λobj=>F.args_object_init_2 obj _) F.entry_str_new
  (meets_str_new (S:=λA' R s'=>A'.units+1<cLine∧jw s'.heap C e m tk∧R (.ok (.ret (.str m tk))) s')
   λ_ _ A' _ _ hq=>DU (A:=A'.in1) hq.1 hq.2.1 hq.2.2)
  ⟨(show A.units+1+1<cLine from hu),x,typeIs_str _ _ _,h⟩
end
end Mine.Internal
end
section
open PySem PySem.W PyProof.Rows
namespace Mine.Internal
theorem gy.leave{M:Model}{A:Around}{E:Value→Shared→Prop}{s:Shared}{base h:Heap}{env:Env}{outer:List Env}{e:Addr}{cls:Value}{m:Option Str}{Q:Unit→Shared→Prop}(x:gy base (env::outer) h s.heap e cls m)(fq:A.frames=some (env::outer))(hf:env.frame=some env.locals)
  (hQ: ∀h',gy base outer h h' e cls m→Q () {s with heap:=h'}):wpAny M A (leaving env (.ref e)) Q E s:=by
 obtain⟨a0,fl,tup,up⟩:=x
 exact wpAny_leaves_onW fq hf fl λh' k1 k2=>hQ h' ⟨a0,k1,λmsg q=>let⟨t,tk,e1,e2⟩:=tup msg q;⟨t,tk,e1,e2.of_slots k2⟩,up.trans k2⟩
structure wI(h:Heap)(a:Addr)(name qual:Str)(params:Arguments)(body:Expr)(scope:Scope)(wn:Str)(vw:Value):Prop where
 there: ∃pm qK ct k,h.get? a=some {cls:= .type "function",data:= .func (kla_fn name qual params body scope [(wn,k)] pm qK ct)}∧h.CodeRec qK qual∧h.IsCell k (some vw)
section
variable{prog:Program}{w:World}{X:Value}{hT:Heap}{mg:Str→Option Value}
theorem DV{a ag:Addr}{name qual inn wn gn:Str}{params:Arguments}{scope:Scope}{gp p1 p2 bG:Pos}{vw:Value}{dw:D}{R:List D→Res→Prop}(hg:hT.Ns mainGlobals mg)(cf:hT.NoLimit)(ZV:mg gn=some (.ref ag))
  (hl:wI hT a name qual params (.Call (.Name gn gp) [.Name inn p1,.Name wn p2] [] bG) scope wn vw)
  (cn: ∀pm qK ct k v,bindArgs (kla_fn name qual params (.Call (.Name gn gp) [.Name inn p1,.Name wn p2] [] bG) scope [(wn,k)] pm qK ct) ⟨[v],[]⟩=pure [(inn,v)])
  (s1:scope.kind= .function) (s2:scope.isCoroutine=false) (s3:scope.isGenerator=false) (s4: ∀x∈scope.names,x.2≠ .cell) (s5:scope.names.lookup inn=some .local) (s6:scope.names.lookup wn=some .free) (s7:scope.names.lookup gn=some .globalImplicit)
  (o1:aR inn=true) (o2:aR wn=true) (o3:aR gn=true)
  (kD:aZ (λb=> ∃o,hT.get? b=some o) hT dw vw) (VD: ∃o fd,hT.get? ag=some o∧o.data= .func fd)
  (Oo: ∀{A:Around} {s:Shared} {d:D} {v:Value} {l:List D} {r:Res} {Z:Addr→Prop} {bs:Heap} {outer:List Env} {Q:Value→Shared→Prop} {E:Value→Shared→Prop},dY hT 1 A s d v l Z bs outer→aZ (λb=> ¬given [d] [v] b∧Z b) s.heap dw vw→
   R l r→jS X r (given [d] [v]) Z bs outer s Q E→wpAny (model prog w) A (call (.ref ag) [v,vw]) Q E s):eY prog w X hT a R:=by
 intro A s d v l r Z base outer Q E p hr hQ
 refine aO λXq kq=>?_
 refine eh hl.there λpm qK ct k ho CL gj=>?_
 refine kq ?_
 have top:=p.top
 have dep:=p.room.depth
 refine wpAny_call (kla_callFunE (fu dep) (top _ _ ho) rfl s2 s3 rfl (CL.keeps top) ?_)
 rw[cn]
 simp only[aR,Bool.and_eq_true,Bool.not_eq_true']at o1 o2 o3
 refine wpAny_pure (wpAny_newFunctionEnv s4 (λx hx=>by cases List.mem_singleton.mp hx;exact s5) (λh1 rA CK=>?_) s1)
 have x1:Ext s.heap h1:=λb o e=>(CK.2 b (Nat.ne_of_lt (Heap.lt_size e))).trans (Heap.get?_push_of_some _ e)
 have vf:Ext hT h1:=top.trans x1
 refine⟨cf.keeps vf,?_⟩
 have e1:(newEnv scope s.heap.objs.size mainGlobals [(wn,k)] (qual++ ".<locals>.") (some a) qK none builtinsNs).scope=scope:=rfl
 have e2:(newEnv scope s.heap.objs.size mainGlobals [(wn,k)] (qual++ ".<locals>.") (some a) qK none builtinsNs).locals=s.heap.objs.size:=rfl
 have e3:(newEnv scope s.heap.objs.size mainGlobals [(wn,k)] (qual++ ".<locals>.") (some a) qK none builtinsNs).frame=some s.heap.objs.size:=rfl
 have e4:(newEnv scope s.heap.objs.size mainGlobals [(wn,k)] (qual++ ".<locals>.") (some a) qK none builtinsNs).cells= [(wn,k)]:=rfl
 have e5:(newEnv scope s.heap.objs.size mainGlobals [(wn,k)] (qual++ ".<locals>.") (some a) qK none builtinsNs).globals=mainGlobals:=rfl
 show codeAny (model prog w) A (.expr _ (newEnv scope s.heap.objs.size mainGlobals [(wn,k)] (qual++ ".<locals>.") (some a) qK none builtinsNs)) _ _
 generalize newEnv scope s.heap.objs.size mainGlobals [(wn,k)] (qual++ ".<locals>.") (some a) qK none builtinsNs=env at e1 e2 e3 e4 e5 ⊢
 have hk: ∀n,env.kindOf n=scope.names.lookup n:=λn=>by unfold Env.kindOf;rw[e1]
 have Jd:env.scope.kind= .function:=by rw[e1];exact s1
 have nb: ∀b,s.heap.get? b=none→base.get? b=none:=λb e=>by
  cases q:base.get? b with
  |none=>rfl
  |some o=>have:=p.st b o q;rw[e]at this;cases this
 have hL:s.heap.get? s.heap.objs.size=none:=Heap.get?_none_of_le (Nat.le_refl _)
 refine kla_codeExpr ?_
 show wpAny _ _ (eval (.Name gn gp) env >>= λfv=>callWith bG fv [] (backTo bG (starEach [.Name inn p1,.Name wn p2] env)) []) _ _ _
 refine wpAny_bind (Calls.Name_function_global Jd (by rw[hk];exact s7) (Calls.loadGlobal_global (mg:=mg) (by rw[e5];exact hg.keeps vf) ZV ?_) o3.1)
 refine aO λXq kq=>?_
 refine da VD λof fd Oq Dt=>?_
 refine kq ?_
 refine Calls.callWith_function (o:=of) (fd:=fd) ?_
 have st:starEach [Expr.Name inn p1,.Name wn p2] env= [(false,eval (.Name inn p1) env),(false,eval (.Name wn p2) env)]:=by rw[a7 rfl,a7 rfl];rfl
 rw[st]
 refine Calls.evalArgs_plain (Calls.spliced_cons (wpAny_Name (wpAny_loadName_local Jd (by rw[hk];exact s5) (by rw[e2];exact rA) (v:=v) (show([(inn,v)]:List (Str×Value)).reverse.lookup inn=some v from by simp) ?_) o1.1))
 refine Calls.spliced_cons (wpAny_Name (wpAny_loadName_free Jd (by rw[hk];exact s6) (c:=k) (v:=vw) (by rw[e4];simp) (gj.keeps vf) (Calls.spliced_nil ?_) o2.2) o2.1)
 refine⟨⟨vf _ _ Oq,Dt⟩,?_⟩
 have fq:(A.deeper env).frames=some (env::outer):=Around.frames_deeper p.frames
 have tf:env.frame=some env.locals:=by rw[e3,e2]
 have RC:=p.room.units
 refine Oo (Z:=Z) (bs:=base) (outer:=env::outer) ⟨⟨p.room.handled,?_,?_⟩,fq,⟨by rw[e1,s1];decide,?_,p.fl.of_keeps λb o e _=>⟨o,x1 b o e,rfl⟩⟩,λb o e=>x1 b o (p.st b o e),p.tb,p.gb,p.row,p.rep.ext x1,λb e=>p.hZ b (aE x1 e),p.zT⟩
  ((kD.ext vf).mono λb _ ⟨o,hb⟩=>⟨λg=>(by rw[p.gt b g]at hb;cases hb),p.zT b o hb⟩) hr ?_
 ·show A.depth+1+1<recursionLimit
  exact Nat.lt_of_succ_lt ‹_›
 ·show A.units+3+10*1+20<cLine
  exact Nat.lt_of_le_of_lt (by rw[Nat.add_assoc,Nat.add_assoc,Nat.add_assoc A.units];exact Nat.add_le_add_left (by decide) _) RC
 ·refine aO λXq kq=>?_
  refine gO rA λo es ep q1 q2 _=>?_
  refine kq ?_
  exact⟨s.heap.objs.size,o,e3,nb _ hL,q1,λvs q=>by rw[q2]at q;cases q⟩
 ·cases r with
  |told d'=>exact λu h' tk q1 q2 q3 q4=>hQ u h' tk q1 ((Heap.UpToSlots.of_keeps x1).trans q2) q3 q4
  |exc k'=>
   intro B e h' tk cls m q1 q2 q3 q4
   refine gy.leave (s:={s with heap:=h',toks:=tk}) q4 fq tf λdA q5=>?_
   obtain⟨a0,f1,f2,f3⟩:=q5
   exact hQ B e dA tk cls m q1 q2 q3 ⟨a0,f1,f2,(Heap.UpToSlots.of_keeps x1).trans f3⟩
end
end Mine.Internal
end
section
open PySem PySem.W PyProof.Rows
namespace Mine.Internal
section
variable{M:Model}{A:Around}{E:Value→Shared→Prop}{s:Shared}{B h0:Heap}{env:Env}{outer:List Env}{e:Addr}{cls:Value}{m:Option Str}
theorem gy.Ot{Q:Unit→Shared→Prop}(x:gy B (env::outer) h0 s.heap e cls m)(fq:A.frames=some (env::outer))(hf:env.frame=some env.locals)(hQ: ∀h',gy B (env::outer) h0 h' e cls m→s.heap.UpToSlots h'→Q () {s with heap:=h'}):
  wpAny M A (noteFrame (.ref e) env) (λ_ s₂=>wpAny M A (setFlight (.ref e) none) Q E s₂) E s:=by
 obtain⟨a0,fl,tup,up⟩:=x
 refine wpAny_looks_onW fq hf fl λh1 k1 k2=>?_
 refine wpAny_landsW (s:={s with heap:=h1}) k1 λh2 k3 k4=>hQ h2 ⟨a0,k3,λmsg q=>?_,(up.trans k2).trans k4⟩ (k2.trans k4)
 refine da (tup msg q) λt tk q1 q2=>?_
 exact⟨t,tk,q1,(q2.of_slots k2).of_slots k4⟩
theorem gy.again{Q:Unit→Shared→Prop}(x:gy B (env::outer) h0 s.heap e cls m)(hQ: ∀h',gy B (env::outer) h0 h' e cls m→s.heap.UpToSlots h'→Q () {s with heap:=h'}):wpAny M A (setFlight (.ref e) none) Q E s:=by
 obtain⟨a0,fl,tup,up⟩:=x
 refine lands_againW fl λh2 k3 k4=>hQ h2 ⟨a0,k3,λmsg q=>?_,up.trans k4⟩ k4
 refine da (tup msg q) λt tk q1 q2=>?_
 exact⟨t,tk,q1,q2.of_slots k4⟩
theorem gy.typeIs{T:String}(x:gy B (env::outer) h0 s.heap e cls m)(h:cls= .type T):s.TypeIs (.ref e) T:=by
 obtain⟨a0,fl,_,_⟩:=x
 refine ai fl.there λob h1 h2=>?_
 exact⟨ob,h1,h2.trans h⟩
theorem gy.excAt{T:String}{msg:Str}(x:gy B (env::outer) h0 s.heap e cls (some msg))(h:cls= .type T): ∃t tk,s.heap.ExcAt e T (.ref t)∧s.heap.TupAt t [.str msg tk]:=by
 refine aO λXq kq=>?_
 obtain⟨a0,fl,tup,_⟩:=x
 refine da (tup msg rfl) λt tk Ou q=>?_
 subst Ou
 refine ft fl.first λoe vs h1 h2 h3 h4=>?_
 refine kq ?_
 exact⟨t,tk,⟨oe,vs,h1,h2.trans h,h3,h4⟩,q⟩
theorem gy.own{C:Addr}{msg:Str}(x:gy B (env::outer) h0 s.heap e cls (some msg))(h:cls= .ref C)(o:dZ s.heap C): ∃tk,jw s.heap C e msg tk:=by
 refine aO λXq kq=>?_
 obtain⟨a0,fl,tup,_⟩:=x
 refine da (tup msg rfl) λt tk Ov q=>?_
 subst Ov
 refine ft fl.first λoe vs h1 h2 h3 h4=>?_
 refine kq ?_
 exact⟨tk,o,oe,vs,t,h1,h2.trans h,h3,h4,q⟩
theorem gy.store{h h':Heap}{mm mo:Str→Option Value}(x:gy B (env::outer) h0 h e cls m)(Vx:h.Ns env.locals mo)(hf:env.frame=some env.locals)(hs:Heap.SameBut env.locals h h')(hn:h'.Ns env.locals mm)(nl:h0.get? env.locals=none):gy B (env::outer) h0 h' e cls m:=by
 refine aO λXq kq=>?_
 obtain⟨a0,⟨k1,k2,k3,oe,vs,T,oT,ts,he,tn,hd,h1,Ho,AN,hT,y9,h3⟩,tup,up⟩:=x
 refine gM (id k3) λf1 Ow f2=>?_
 obtain⟨L,oL,q1,q2,q3,q4⟩:=Ow
 refine kq ?_
 replace q1:=hf▸q1
 obtain rfl:=Option.some.inj q1
 have ne: ∀{b:Addr} {o:Obj} {vs:Array Value},h.get? b=some o→o.data= .fields vs→b≠env.locals:=λ{b o vs} e1 e2 z=>by
  rw[z,q3]at e1
  obtain rfl:=Option.some.inj e1
  exact q4 _ e2
 have fr: ∀{l:List Env},h.FunFrames B l→h'.FunFrames B l:=by
  intro l
  induction l with
  |nil=>exact λ_=>trivial
  |cons en l ih=>
   intro f
   refine gM f λg1 Ox g2=>?_
   obtain⟨L,o,r1,r2,r3,r4⟩:=Ox
   refine⟨g1,?_,ih g2⟩
   by_cases hl:L=env.locals
   ·refine aO λXq kq=>?_
    refine gO hn λo' es ep w1 w2 _=>?_
    refine kq ?_
    exact⟨L,o',r1,r2,by rw[hl];exact w1,λvs q=>by rw[w2]at q;cases q⟩
   ·exact⟨L,o,r1,r2,(hs.2 L hl).trans r3,r4⟩
 refine⟨a0,⟨λb o q=>(hs.2 b λz=>by rw[z,q2]at q;cases q).trans (k1 b o q),k2,fr k3,oe,vs,T,oT,ts,(hs.2 e (ne he hd)).trans he,tn,hd,h1,Ho,AN,(hs.2 T (ne hT y9)).trans hT,y9,h3⟩,λmsg q=>?_,λb o q mi=>?_⟩
 ·refine aO λXq kq=>?_
  obtain⟨t,tk,e1,ot,n,w1,w2,w3⟩:=tup msg q
  refine kq ?_
  refine⟨t,tk,e1,ot,n,(hs.2 t λz=>?_).trans w1,w2,w3⟩
  refine gO Vx λo' es ep v1 v2 _=>?_
  rw[z,v1]at w1
  obtain rfl:=Option.some.inj w1
  replace w3:=v2▸w3
  cases w3
 ·refine au (up b o q mi) λsl w=>?_
  exact⟨sl,(hs.2 b λz=>by rw[z,nl]at q;cases q).trans w⟩
theorem tq{A':Around}{n:Str}{xe:Expr}{rp pos:Pos}{Q:Flow→Shared→Prop}{E1 E2 E3:Value→Shared→Prop}(x:gy B (env::outer) h0 s.heap e cls m)(hf:env.frame=some env.locals)(Jd:env.scope.kind= .function)(hk:env.kindOf n=some .local)(rA: ∃mo,s.heap.Ns env.locals mo)(nl:h0.get? env.locals=none)
  (hx: ∀h3 t3 m3,gy B (env::outer) h0 h3 e cls m→h3.Ns env.locals m3→m3 n=some (.ref e)→wpAny M A' (eval xe env) (λv s4=> ∃h4 t4,s4={s with heap:=h4,toks:=t4}∧Ext h3 h4∧ ∀h5 t5,B.StaysIn h5→h0.UpToSlots h5→(∀b o,b≠env.locals→h4.get? b=some o→h5.get? b=some o)→Q (.ret v) {s with heap:=h5,toks:=t5}) E1 {s with heap:=h3,toks:=t3}):
  wpAny M A' (setFlight (.ref e) none) (λ_ s₂=>wpAny M A' (storeName env n (.ref e)) (λ_ s₃=>wpAny M A' (execs [.Return (some xe) rp] env)
   (λf s₄=>wpAny M A (do bindName env n .none;unbindBehindTheSuite env n pos) (λ_ s₅=>Q f s₅) E s₄) E1 s₃) E2 s₂) E3 s:=by
 refine au rA λmo ZW=>?_
 refine x.again λh2 x2 u2=>?_
 have XF:=u2.ns ZW
 refine wpAny_storeName_local hk XF (λh3 AW Xo=>?_) (by rw[Jd];rfl)
 have x3:=x2.store XF hf Xo AW nl
 refine wpAny_execs_cons (wpAny_Return_some (wpAny_mono (hx h3 _ _ x3 AW (by simp)) (λv s4 h=>?_) λ_ _ y=>y))
 refine b8 h λh4 t4 Oy x4 hQ=>?_
 subst Oy
 have VE:=AW.keeps x4
 refine wpAny_nameGoes_keeps hk VE (by rw[Jd];rfl) λh5 u XG AX=>?_
 refine aO λXq kq=>?_
 obtain⟨a0,⟨k1,k2,k3,_⟩,_,up⟩:=x3
 refine gM k3 λ_ Oz _=>?_
 obtain⟨L,oL,q1,q2,_⟩:=Oz
 refine kq ?_
 replace q1:=hf▸q1
 obtain rfl:=Option.some.inj q1
 have keep: ∀b o,b≠env.locals→h4.get? b=some o→h5.get? b=some o:=λb o hb q=>(AX.2 b hb).trans q
 refine hQ h5 _ (λb o q=>keep b o (λz=>by rw[z,q2]at q;cases q) (x4 b o (k1 b o q))) (λb o q mi=>?_) keep
 refine au (up b o q mi) λsl w=>?_
 exact⟨sl,keep b _ (λz=>by rw[z,nl]at q;cases q) (x4 _ _ w)⟩
end
end Mine.Internal
end
section
open PySem PySem.W PyProof.Rows
namespace Mine.Internal
section
variable{M:Model}{A:Around}{E:Value→Shared→Prop}{s:Shared}{env:Env}
theorem iQ{x y:Expr}{k:Nat}{pos:Pos}{Q:Value→Shared→Prop}(hx:isStar x=false)(hy:isStar y=false)
  (h:wpAny M A (eval x env) (λv1 s1=>wpAny M A (eval y env) (λv2 s2=>Q (.ref s2.heap.objs.size) {s2 with heap:=s2.heap.push {cls:= .type "tuple",data:= .seq #[v1,v2]}}) E s1) E s):
  wpAny M A (eval (.Tuple [x,y] k pos) env) Q E s:=by
 have st:starEach [x,y] env= [(false,eval x env),(false,eval y env)]:=by rw[a7 hx,a7 hy];rfl
 refine wpAny_Tuple ?_
 rw[st]
 refine Calls.spliced_cons (wpAny_mono h (λv1 s1 h1=>Calls.spliced_cons (wpAny_mono h1 (λv2 s2 h2=>Calls.spliced_nil ⟨?_,h2⟩) λ_ _ y=>y)) λ_ _ y=>y)
 show 2≤sizeLine
 rw[sizeLine_eq];decide
end
section
variable{c:Cx}{sc:Scope}{A:Around}{E:Value→Shared→Prop}{s:Shared}{env:Env}
theorem tr{n:Str}{fp ap bG:Pos}{v:Value}{mm:Str→Option Value}{Q:Value→Shared→Prop}(he:env.scope=sc)(fn:env.scope.kind= .function)(gl:env.globals=mainGlobals)(bl:env.builtins=builtinsNs)(top:Ext c.hT s.heap)(ok:c.Ok)
  (hb:c.bn (Str.ofString "str")=some (.type "str")) (hs:sc.names.lookup (Str.ofString "str")=some .globalImplicit) (hk:env.kindOf n=some .local) (ho:aR n=true) (hn:s.heap.Ns env.locals mm) (hv:mm n=some v)
  (h:wpAny (model c.prog c.w) A (call (.type "str") [v]) Q E s):wpAny (model c.prog c.w) A (eval (.Call (.Name (Str.ofString "str") fp) [.Name n ap] [] bG) env) Q E s:=by
 simp only[aR,Bool.and_eq_true,Bool.not_eq_true']at ho
 show wpAny _ _ (eval (.Name (Str.ofString "str") fp) env >>= λfv=>callWith bG fv [] (backTo bG (starEach [.Name n ap] env)) []) _ _ _
 refine wpAny_bind (eX he fn gl bl top ok hb hs (by decide) ?_)
 refine PySem.callWith_type (cF bG rfl) ?_
 rw[a7 rfl]
 exact Calls.evalArgs_plain (Calls.spliced_cons (wpAny_Name (wpAny_loadName_local fn hk hn hv (Calls.spliced_nil h)) ho.1))
end
end Mine.Internal
end
section
open PySem PySem.W PyProof.Rows
set_option Elab.async false
namespace Mine.Internal.dU
noncomputable abbrev pw:Program:=PySem.Challenge.pw_dn0166_12
noncomputable def names:List Str:= [Str.ofString "sorted",Str.ofString "len",Str.ofString "float",Str.ofString "divmod",Str.ofString "str",Str.ofString "abs",Str.ofString "max",Str.ofString "range",Str.ofString "type",Str.ofString "int",Str.ofString "list",Str.ofString "iter",Str.ofString "OverflowError",Str.ofString "TypeError",Str.ofString "ValueError"]
noncomputable def jU:Fn:=fnAt pw 4 [Str.ofString "data"]
noncomputable def eZ:Fn:=fnAt pw 5 [Str.ofString "data"]
noncomputable def jV:Fn:=fnAt pw 3 [Str.ofString "data"]
noncomputable def sN(x:Nat):MS:= .asg x (.bi .len (.cons (.var 0) .nil))
noncomputable def pR:MS:= .seq (sN 1) (.seq (.ite (.cmp .Eq (.var 1) (.aL (.int 0))) (.seq .fail .skip) .skip)
 (.seq (.ret (.item (.var 0) (.bin .FloorDiv (.var 1) (.aL (.int 2))))) .skip))
noncomputable def ji(Φ:Nat→List D→Option D)(σ:ah)(k:XK):Prop:= ∃σ',run Φ (sN 1) σ=some (.nx σ')∧(((ar Φ (.cmp .Eq (.var 1) (.aL (.int 0)))).t σ'=some true∧k= .dj)∨((ar Φ (.cmp .Eq (.var 1) (.aL (.int 0)))).t σ'=some false∧False))
noncomputable def sI:MS:= .ite (.cmp .Eq (.var 1) (.aL (.int 0))) (.seq .fail .skip) .skip
noncomputable def odd:ME:= .cmp .Eq (.bin .Mod (.var 1) (.aL (.int 2))) (.aL (.int 1))
noncomputable def yq:MS:= .seq (sN 1) (.seq sI
 (.seq (.ite odd (.seq (.ret (.item (.var 0) (.bin .FloorDiv (.var 1) (.aL (.int 2))))) .skip) (.seq (.ret (.item (.var 0) (.bin .Sub (.bin .FloorDiv (.var 1) (.aL (.int 2))) (.aL (.int 1))))) .skip)) .skip))
noncomputable def two:ME:= .bin .Add (.item (.var 0) (.bin .Sub (.var 2) (.aL (.int 1)))) (.item (.var 0) (.var 2))
noncomputable def sH:MS:= .asg 2 (.bin .FloorDiv (.var 1) (.aL (.int 2)))
noncomputable def vg:MS:= .seq (sN 1) (.seq sI
 (.seq (.ite odd (.seq (.ret (.item (.var 0) (.bin .FloorDiv (.var 1) (.aL (.int 2))))) .skip) (.seq sH (.seq (.ret (.bin .Div two (.aL (.int 2)))) .skip))) .skip))
noncomputable def wJ(Φ:Nat→List D→Option D)(σ:ah)(k:XK):Prop:= ∃σ1,run Φ (sN 1) σ=some (.nx σ1)∧ ∃σ2,run Φ sI σ1=some (.nx σ2)∧
 (((ar Φ odd).t σ2=some true∧False)∨((ar Φ odd).t σ2=some false∧ ∃σ3,run Φ sH σ2=some (.nx σ3)∧ ∃d,(ar Φ two).v σ3=some d∧qG d 2 k))
structure tu(c:Cx)(nt:List Str)(C:Addr):Prop where
 ok:c.Ok
 prog:c.prog=pw
 bn:c.bn=cR names
 nt:c.nt=nt
 lv:c.lv=λ_=>0
 ow:c.ow=λ_=>0
 fr:c.fr=false
 own:OwnClsQ (Str.ofString "StatisticsError") C [.type "ValueError",.type "Exception",.type "BaseException",.type "object"] "ValueError.__new__" c.mg c.hT
theorem OA{c:Cx}{C:Addr}(h:tu c [Str.ofString "data",Str.ofString "n"] C):bV c eZ.scope (aW eZ.scope) pR eZ.body.tail∧ub c (.ref C) eZ.scope (aW eZ.scope) (ji c.Φ) eZ.body.tail:=by
 obtain⟨ok,hp,cX,AY,dG,how,fq,O⟩:=h
 obtain⟨prog,w,mg,mb,hT,bn,nt,lv,ow,Φ,sD,wi,Fl,k,fr,Ro⟩:=c
 dsimp only at hp cX AY dG how fq O
 subst hp AY dG how fq
 have bJ:bn (Str.ofString "len")=some (.builtin "len"):=by rw[cX];kernel_rfl
 refine⟨?_,?_⟩
 ·unfold pR sN
  exact av (a6 rfl rfl rfl (aD (f:= .len) ok bJ rfl rfl (ae (af rfl rfl rfl) rfl ak) rfl rfl) rfl (λ_ _=>rfl))
   (av (cH (aB (af rfl rfl rfl) aq rfl) (av iO az) az)
   (av (dh (aJ (af rfl rfl rfl) (ao (af rfl rfl rfl) aq (aT rfl) (aT rfl)) (aT rfl) (λ_ _=>rfl)) rfl rfl) az))
 ·unfold ji sN
  exact lS (a6 rfl rfl rfl (aD (f:= .len) ok bJ rfl rfl (ae (af rfl rfl rfl) rfl ak) rfl rfl) rfl (λ_ _=>rfl)) (λ_=>rfl)
   (ie (AE (aB (af rfl rfl rfl) aq rfl) (ie (qE ok O (by kernel_rfl) (by decide) rfl)) td))
theorem VF{c:Cx}{C:Addr}(h:tu c [Str.ofString "data",Str.ofString "n"] C):bV c jU.scope (aW jU.scope) yq jU.body.tail∧ub c (.ref C) jU.scope (aW jU.scope) (ji c.Φ) jU.body.tail:=by
 obtain⟨ok,hp,cX,AY,dG,how,fq,O⟩:=h
 obtain⟨prog,w,mg,mb,hT,bn,nt,lv,ow,Φ,sD,wi,Fl,k,fr,Ro⟩:=c
 dsimp only at hp cX AY dG how fq O
 subst hp AY dG how fq
 have bJ:bn (Str.ofString "len")=some (.builtin "len"):=by rw[cX];kernel_rfl
 refine⟨?_,?_⟩
 ·unfold yq sN sI odd
  exact av (a6 rfl rfl rfl (aD (f:= .len) ok bJ rfl rfl (ae (af rfl rfl rfl) rfl ak) rfl rfl) rfl (λ_ _=>rfl))
   (av (cH (aB (af rfl rfl rfl) aq rfl) (av iO az) az)
   (av (cH (aB (ao (af rfl rfl rfl) aq (aT rfl) (aT rfl)) aq rfl) (av (dh (aJ (af rfl rfl rfl) (ao (af rfl rfl rfl) aq (aT rfl) (aT rfl)) (aT rfl) (λ_ _=>rfl)) rfl rfl) az) (av (dh (aJ (af rfl rfl rfl) (ao (ao (af rfl rfl rfl) aq (aT rfl) (aT rfl)) aq (aT rfl) (aT rfl)) (aT rfl) (λ_ _=>rfl)) rfl rfl) az)) az))
 ·unfold ji sN
  exact lS (a6 rfl rfl rfl (aD (f:= .len) ok bJ rfl rfl (ae (af rfl rfl rfl) rfl ak) rfl rfl) rfl (λ_ _=>rfl)) (λ_=>rfl)
   (ie (AE (aB (af rfl rfl rfl) aq rfl) (ie (qE ok O (by kernel_rfl) (by decide) rfl)) td))
theorem VG{c:Cx}{C:Addr}(h:tu c [Str.ofString "data",Str.ofString "n",Str.ofString "i"] C):bV c jV.scope (aW jV.scope) vg jV.body.tail∧ub c (.ref C) jV.scope (aW jV.scope) (λσ k=>ji c.Φ σ k∨wJ c.Φ σ k) jV.body.tail:=by
 obtain⟨ok,hp,cX,AY,dG,how,fq,O⟩:=h
 obtain⟨prog,w,mg,mb,hT,bn,nt,lv,ow,Φ,sD,wi,Fl,k,fr,Ro⟩:=c
 dsimp only at hp cX AY dG how fq O
 subst hp AY dG how fq
 have bJ:bn (Str.ofString "len")=some (.builtin "len"):=by rw[cX];kernel_rfl
 refine⟨?_,xor ?_ ?_⟩
 ·unfold vg sN sI odd sH two
  exact av (a6 rfl rfl rfl (aD (f:= .len) ok bJ rfl rfl (ae (af rfl rfl rfl) rfl ak) rfl rfl) rfl (λ_ _=>rfl))
   (av (cH (aB (af rfl rfl rfl) aq rfl) (av iO az) az)
   (av (cH (aB (ao (af rfl rfl rfl) aq (aT rfl) (aT rfl)) aq rfl) (av (dh (aJ (af rfl rfl rfl) (ao (af rfl rfl rfl) aq (aT rfl) (aT rfl)) (aT rfl) (λ_ _=>rfl)) rfl rfl) az) (av (a6 rfl rfl rfl (ao (af rfl rfl rfl) aq (aT rfl) (aT rfl)) rfl (λ_ _=>rfl)) (av (dh (ao (ao (aJ (af rfl rfl rfl) (ao (af rfl rfl rfl) aq (aT rfl) (aT rfl)) (aT rfl) (λ_ _=>rfl)) (aJ (af rfl rfl rfl) (af rfl rfl rfl) (aT rfl) (λ_ _=>rfl)) (aT rfl) (aT rfl)) aq (aT rfl) (aT rfl)) rfl rfl) az))) az))
 ·unfold ji sN
  exact lS (a6 rfl rfl rfl (aD (f:= .len) ok bJ rfl rfl (ae (af rfl rfl rfl) rfl ak) rfl rfl) rfl (λ_ _=>rfl)) (λ_=>rfl)
   (ie (AE (aB (af rfl rfl rfl) aq rfl) (ie (qE ok O (by kernel_rfl) (by decide) rfl)) td))
 ·unfold wJ sN sI odd sH two
  exact lS (a6 rfl rfl rfl (aD (f:= .len) ok bJ rfl rfl (ae (af rfl rfl rfl) rfl ak) rfl rfl) rfl (λ_ _=>rfl)) (λ_=>rfl)
   (lS (cH (aB (af rfl rfl rfl) aq rfl) (av iO az) az) (λ_=>rfl)
   (ie (AE (aB (ao (af rfl rfl rfl) aq (aT rfl) (aT rfl)) aq rfl) td (lS (a6 rfl rfl rfl (ao (af rfl rfl rfl) aq (aT rfl) (aT rfl)) rfl (λ_ _=>rfl)) (λ_=>rfl) (ie (Ve (Vs (ao (aJ (af rfl rfl rfl) (ao (af rfl rfl rfl) aq (aT rfl) (aT rfl)) (aT rfl) (λ_ _=>rfl)) (aJ (af rfl rfl rfl) (af rfl rfl rfl) (aT rfl) (λ_ _=>rfl)) (aT rfl) (aT rfl)) (aT rfl))))))))
noncomputable def jx:Fn:=fnAt pw 6 [Str.ofString "data",Str.ofString "interval"]
noncomputable def gN:MS:= .asg 2 (.bi .len (.cons (.var 0) .nil))
noncomputable def gI:MS:= .ite (.not (.var 2)) (.seq .fail .skip) .skip
noncomputable def gX:MS:= .asg 3 (.item (.var 0) (.bin .FloorDiv (.var 2) (.aL (.int 2))))
noncomputable def gB:MS:= .asg 4 (.bi .um (.cons (.var 0) (.cons (.var 3) .nil)))
noncomputable def gJ:MS:= .asg 5 (.bi .uo (.cons (.var 0) (.cons (.var 3) (.cons (.var 4) .nil))))
noncomputable def gW:MS:= .asg 1 (.bi .float (.cons (.var 1) .nil))
noncomputable def gY:MS:= .asg 3 (.bi .float (.cons (.var 3) .nil))
noncomputable def gL:MS:= .asg 6 (.bin .Sub (.var 3) (.bin .Div (.var 1) (.aL (.cx 4611686018427387904))))
noncomputable def gC:MS:= .asg 7 (.var 4)
noncomputable def gF:MS:= .asg 8 (.bin .Sub (.var 5) (.var 4))
noncomputable def gR:MS:= .ret (.bin .Add (.var 6) (.bin .Div (.bin .Mult (.var 1) (.bin .Sub (.bin .Div (.var 2) (.aL (.int 2))) (.var 7))) (.var 8)))
noncomputable def yr:MS:= .seq gN (.seq gI (.seq gX (.seq gB (.seq gJ (.seq (.seq gW (.seq gY .skip)) (.seq gL (.seq gC (.seq gF (.seq gR .skip)))))))))
noncomputable def qL(Φ:Nat→List D→Option D)(σ:ah)(k:XK):Prop:= ∃σ',run Φ gN σ=some (.nx σ')∧(((ar Φ (.not (.var 2))).t σ'=some true∧k= .dj)∨((ar Φ (.not (.var 2))).t σ'=some false∧False))
noncomputable def Hx(Φ:Nat→List D→Option D)(σ:ah)(k:XK):Prop:=(∃d,(ar Φ (.var 1)).v σ=some d∧ij d k)∨ ∃σ',run Φ gW σ=some (.nx σ')∧ ∃d,(ar Φ (.var 3)).v σ'=some d∧ij d k
noncomputable def yt(Φ:Nat→List D→Option D)(σ:ah)(k:XK):Prop:= ∃σ1,run Φ gN σ=some (.nx σ1)∧ ∃σ2,run Φ gI σ1=some (.nx σ2)∧ ∃σ3,run Φ gX σ2=some (.nx σ3)∧ ∃σ4,run Φ gB σ3=some (.nx σ4)∧ ∃σ5,run Φ gJ σ4=some (.nx σ5)∧
 ∃k',Hx Φ σ5 k'∧k=dy k'
theorem AZ{d:D}{k:XK}(h:ij d k):k≠ .dj:=by
 rintro rfl
 rcases h with⟨_,_,_,h⟩|⟨_,_,_,_,h⟩|⟨_,h⟩|⟨_,h⟩ <;> cases h
theorem VH{c:Cx}{C:Addr}(h:tu c [Str.ofString "data",Str.ofString "interval",Str.ofString "n",Str.ofString "x",Str.ofString "i",Str.ofString "j",Str.ofString "L",Str.ofString "cf",Str.ofString "f"] C)
  (qM:c.mg (Str.ofString "bisect_left")=some (.builtin "_bisect.bisect_left")) (qN:c.mg (Str.ofString "bisect_right")=some (.builtin "_bisect.bisect_right")):
  bV c jx.scope (aW jx.scope) yr jx.body.tail∧ub c (.ref C) jx.scope (aW jx.scope) (λσ k=>qL c.Φ σ k∨yt c.Φ σ k) jx.body.tail:=by
 obtain⟨ok,hp,cX,AY,dG,how,fq,O⟩:=h
 obtain⟨prog,w,mg,mb,hT,bn,nt,lv,ow,Φ,sD,wi,Fl,k,fr,Ro⟩:=c
 dsimp only at hp cX AY dG how fq O qM qN
 subst hp AY dG how fq
 have bJ:bn (Str.ofString "len")=some (.builtin "len"):=by rw[cX];kernel_rfl
 have ik:bn (Str.ofString "float")=some (.type "float"):=by rw[cX];kernel_rfl
 have VI:bn (Str.ofString "ValueError")=some (.type "ValueError"):=by rw[cX];kernel_rfl
 have VJ:bn (Str.ofString "TypeError")=some (.type "TypeError"):=by rw[cX];kernel_rfl
 refine⟨?_,xor ?_ ?_⟩
 ·unfold yr gN gI gX gB gJ gW gY gL gC gF gR
  exact av (a6 rfl rfl rfl (aD (f:= .len) ok bJ rfl rfl (ae (af rfl rfl rfl) rfl ak) rfl rfl) rfl (λ_ _=>rfl)) (av (cH (kr (hF (af rfl rfl rfl) (λ_=>rfl) (λ_ _=>rfl))) (av iO az) az) (av (a6 rfl rfl rfl (aJ (af rfl rfl rfl) (ao (af rfl rfl rfl) aq (aT rfl) (aT rfl)) (aT rfl) (λ_ _=>rfl)) rfl (λ_ _=>rfl)) (av (a6 rfl rfl rfl (tj ok rfl qM rfl rfl (ae (af rfl rfl rfl) rfl (ae (af rfl rfl rfl) rfl ak)) rfl rfl) rfl (λ_ _=>rfl)) (av (a6 rfl rfl rfl (pO ok qN rfl rfl (af rfl rfl rfl) (af rfl rfl rfl) (af rfl rfl rfl) (aT rfl) (aT rfl) (aT rfl) rfl rfl) rfl (λ_ _=>rfl)) (av (Hm (av (a6 rfl rfl rfl (aD (f:= .float) ok ik rfl rfl (ae (af rfl rfl rfl) rfl ak) rfl rfl) rfl (λ_ _=>rfl)) (av (a6 rfl rfl rfl (aD (f:= .float) ok ik rfl rfl (ae (af rfl rfl rfl) rfl ak) rfl rfl) rfl (λ_ _=>rfl)) az)) (by simp) rfl rfl) (av (a6 rfl rfl rfl (ao (af rfl rfl rfl) (ao (af rfl rfl rfl) wF (aT rfl) (aT rfl)) (aT rfl) (aT rfl)) rfl (λ_ _=>rfl)) (av (a6 rfl rfl rfl (af rfl rfl rfl) rfl (λ_ _=>rfl)) (av (a6 rfl rfl rfl (ao (af rfl rfl rfl) (af rfl rfl rfl) (aT rfl) (aT rfl)) rfl (λ_ _=>rfl)) (av (dh (ao (af rfl rfl rfl) (ao (ao (af rfl rfl rfl) (ao (ao (af rfl rfl rfl) aq (aT rfl) (aT rfl)) (af rfl rfl rfl) (aT rfl) (aT rfl)) (aT rfl) (aT rfl)) (af rfl rfl rfl) (aT rfl) (aT rfl)) (aT rfl) (aT rfl)) rfl rfl) az)))))))))
 ·unfold qL gN
  exact lS (a6 rfl rfl rfl (aD (f:= .len) ok bJ rfl rfl (ae (af rfl rfl rfl) rfl ak) rfl rfl) rfl (λ_ _=>rfl)) (λ_=>rfl) (ie (AE (kr (hF (af rfl rfl rfl) (λ_=>rfl) (λ_ _=>rfl))) (ie (qE ok O (by kernel_rfl) (by decide) rfl)) td))
 ·unfold yt Hx gN gI gX gB gJ gW
  exact lS (a6 rfl rfl rfl (aD (f:= .len) ok bJ rfl rfl (ae (af rfl rfl rfl) rfl ak) rfl rfl) rfl (λ_ _=>rfl)) (λ_=>rfl) (lS (cH (kr (hF (af rfl rfl rfl) (λ_=>rfl) (λ_ _=>rfl))) (av iO az) az) (λ_=>rfl) (lS (a6 rfl rfl rfl (aJ (af rfl rfl rfl) (ao (af rfl rfl rfl) aq (aT rfl) (aT rfl)) (aT rfl) (λ_ _=>rfl)) rfl (λ_ _=>rfl)) (λ_=>rfl) (lS (a6 rfl rfl rfl (tj ok rfl qM rfl rfl (ae (af rfl rfl rfl) rfl (ae (af rfl rfl rfl) rfl ak)) rfl rfl) rfl (λ_ _=>rfl)) (λ_=>rfl) (lS (a6 rfl rfl rfl (pO ok qN rfl rfl (af rfl rfl rfl) (af rfl rfl rfl) (af rfl rfl rfl) (aT rfl) (aT rfl) (aT rfl) rfl rfl) rfl (λ_ _=>rfl)) (λ_=>rfl) (ie
   (Vw ok VI VJ (by kernel_rfl) (by kernel_rfl) (ZO (Om (AM ok ik (by kernel_rfl) rfl (af rfl rfl rfl) (aT rfl)) (λ_=>rfl)) (Vv (a6 rfl rfl rfl (aD (f:= .float) ok ik rfl rfl (ae (af rfl rfl rfl) rfl ak) rfl rfl) rfl (λ_ _=>rfl)) (λ_=>rfl) (Om (AM ok ik (by kernel_rfl) rfl (af rfl rfl rfl) (aT rfl)) (λ_=>rfl))))
    (λσ k h=>h.elim (λ⟨_,_,h⟩=>AZ h) λ⟨_,_,_,_,h⟩=>AZ h)))))))
end Mine.Internal.dU
end
section
open PySem PySem.W PyProof.Rows
set_option Elab.async false
namespace Mine.Internal.dU
noncomputable abbrev VK:List Value:= [.type "ValueError",.type "Exception",.type "BaseException",.type "object"]
noncomputable abbrev Φ0:Nat→List D→Option D:=qB []
noncomputable def qO(f:Fn)(m:MS)(xs:List Nat)(nt:List Str):Ent:={f:=f,m:=m,xs:=xs,nt:=nt,lv:=λ_=>0,ow:=λ_=>0}
structure Ctx(base:Cx)(C:Addr):Prop where
 b:lP base
 prog:base.prog=pw
 bn:base.bn=cR names
 own:OwnClsQ (Str.ofString "StatisticsError") C VK "ValueError.__new__" base.mg base.hT
theorem Ctx.oP{base:Cx}{C:Addr}(h:Ctx base C){f:Fn}{m:MS}{xs:List Nat}{nt:List Str}(hn:nt.Nodup):tu (base.of [] (qO f m xs nt)) nt C:=⟨uO h.b (e:=qO f m xs nt) hn,h.prog,h.bn,rfl,rfl,rfl,rfl,h.own⟩
theorem Ctx.sorted{base:Cx}{C:Addr}(h:Ctx base C):base.bn (Str.ofString "sorted")=some (.builtin "sorted"):=by rw[h.bn];kernel_rfl
noncomputable def yu:=ym Φ0 yq (ji Φ0) λ_=>none
noncomputable def pS:=ym Φ0 pR (ji Φ0) λ_=>none
noncomputable def yv:=ym Φ0 vg (λσ k=>ji Φ0 σ k∨wJ Φ0 σ k) λ_=>none
noncomputable def A0(d:D):=ym Φ0 yr (λσ k=>qL Φ0 σ k∨yt Φ0 σ k) (upd (λ_=>none) 1 d)
theorem DW{base:Cx}{C:Addr}(h:Ctx base C){a:Addr}(gg:FnAt jU a base.hT):eY pw base.w (.ref C) base.hT a yu:=by
 refine aX (VF (h.oP (f:=jU) (m:=yq) (xs:= [0]) (of_decide_eq_true (by kernel_rfl)))) λr1 r2=>?_
 rw[←h.prog]
 exact qJ (c:=base.of [] (qO jU yq [0] [Str.ofString "data",Str.ofString "n"])) (h.oP (of_decide_eq_true (by kernel_rfl))).ok rfl h.b.lim (by kernel_rfl) (bind1 rfl (λ_ _ _ _=>rfl)) rfl rfl rfl (λ_=>rfl) (λ_=>rfl) rfl h.sorted (by kernel_rfl) r1 r2 gg
theorem A1{base:Cx}{C:Addr}(h:Ctx base C){a:Addr}(gg:FnAt eZ a base.hT):eY pw base.w (.ref C) base.hT a pS:=by
 obtain⟨r1,r2⟩:=OA (h.oP (f:=eZ) (m:=pR) (xs:= [0]) (of_decide_eq_true (by kernel_rfl)))
 rw[←h.prog]
 exact qJ (c:=base.of [] (qO eZ pR [0] [Str.ofString "data",Str.ofString "n"])) (h.oP (of_decide_eq_true (by kernel_rfl))).ok rfl h.b.lim (by kernel_rfl) (bind1 rfl (λ_ _ _ _=>rfl)) rfl rfl rfl (λ_=>rfl) (λ_=>rfl) rfl h.sorted (by kernel_rfl) r1 r2 gg
theorem DX{base:Cx}{C:Addr}(h:Ctx base C){a:Addr}(gg:FnAt jV a base.hT):eY pw base.w (.ref C) base.hT a yv:=by
 obtain⟨r1,r2⟩:=VG (h.oP (f:=jV) (m:=vg) (xs:= [0]) (of_decide_eq_true (by kernel_rfl)))
 rw[←h.prog]
 exact qJ (c:=base.of [] (qO jV vg [0] [Str.ofString "data",Str.ofString "n",Str.ofString "i"])) (h.oP (of_decide_eq_true (by kernel_rfl))).ok rfl h.b.lim (by kernel_rfl) (bind1 rfl (λ_ _ _ _=>rfl)) rfl rfl rfl (λ_=>rfl) (λ_=>rfl) rfl h.sorted (by kernel_rfl) r1 r2 gg
theorem A2{base:Cx}{C:Addr}(h:Ctx base C){a:Addr}{dV:Value}(cn:pL jx dV base.hT)(gg:ig jx dV a base.hT)(hl:base.mg (Str.ofString "bisect_left")=some (.builtin "_bisect.bisect_left"))(hr:base.mg (Str.ofString "bisect_right")=some (.builtin "_bisect.bisect_right"))
  {A:Around} {s:Shared} {d dw:D} {v vw:Value} {l:List D} {r:Res} {Z:Addr→Prop} {bs:Heap} {outer:List Env} {Q:Value→Shared→Prop} {E:Value→Shared→Prop} (p:dY base.hT 1 A s d v l Z bs outer) (VA:aZ (λb=> ¬given [d] [v] b∧Z b) s.heap dw vw)
  (rn:A0 dw l r) (hQ:jS (.ref C) r (given [d] [v]) Z bs outer s Q E):wpAny (model pw base.w) A (call (.ref a) [v,vw]) Q E s:=by
 refine aX (VH (h.oP (f:=jx) (m:=yr) (xs:= [0,1]) (of_decide_eq_true (by kernel_rfl))) hl hr) λr1 r2=>?_
 rw[←h.prog]
 exact DT (c:=base.of [] (qO jx yr [0,1] [Str.ofString "data",Str.ofString "interval",Str.ofString "n",Str.ofString "x",Str.ofString "i",Str.ofString "j",Str.ofString "L",Str.ofString "cf",Str.ofString "f"])) (h.oP (of_decide_eq_true (by kernel_rfl))).ok rfl h.b.lim (by kernel_rfl) cn rfl rfl rfl rfl (λ_=>rfl) (λ_=>rfl) rfl h.sorted (by kernel_rfl) r1 r2 gg p VA rn hQ
end Mine.Internal.dU
end
section
open PySem PySem.W PyProof.Rows
set_option Elab.async false
namespace Mine.Internal.dU
theorem A3{T:Addr}{o:Obj}{v1:Value}{n:Nat}{hT:Heap}(ho:hT.get? T=some o)(hd:o.data= .seq #[v1] n):pL jx (.ref T) hT:=λs pm cd doc vals hx hl=>
 vals2 (P:=λvals=>BindsTo s (jx.fd pm cd doc (.ref T)) ⟨vals,[]⟩ (jx.ps.zip vals)) (λa b M A E Q hQ=>by
  show wpAny M A (seqItems? (Value.ref T) >>= _) Q E s
  refine wpAny_bind (wpAny_seqItems (hx _ _ ho) hd ?_)
  exact wpAny_pure hQ) vals hl
end Mine.Internal.dU
end
section
open PySem PySem.W PyProof.Rows
set_option Elab.async false
namespace Mine.Internal.dU
noncomputable def FE:FuncData:=jx.fd (.str (Str.ofString "cpy313.statistics") 317) (.ref 83) .none (.ref 77)
structure Seen(h:Heap):Prop where
 fn:h.get? 84=some {cls:= .type "function",data:= .func FE}
 dflt:h.get? 77=some {cls:= .type "tuple",data:= .seq #[.float 4607182418800017408 362] 0}
 code:h.CodeRec (.ref 83) (Str.ofString "median_grouped")
 left:h.nsMap mainGlobals (Str.ofString "bisect_left")=some (.builtin "_bisect.bisect_left")
 right:h.nsMap mainGlobals (Str.ofString "bisect_right")=some (.builtin "_bisect.bisect_right")
 FF:h.nsMap mainGlobals (Str.ofString "median_grouped")=some (.ref 84)
 exc:h.nsMap mainGlobals (Str.ofString "StatisticsError")=some (.ref 52)
 cls: ∃o c,h.get? 52=some o∧o.data= .cls c∧c.ns=51∧c.mro= [.ref 52,.type "ValueError",.type "Exception",.type "BaseException",.type "object"]
 str:(h.get? 51).isSome=true∧h.nsMap 51 (Str.ofString "__str__")=none
noncomputable def tv(o:Obj):Option Value:=match o.data with
 | .fields vs=>vs[1]?
 |_=>none
noncomputable def wK(o:Obj):Option (Addr×List Value):=match o.data with
 | .cls c=>some (c.ns,c.mro)
 |_=>none
theorem fN{h h':Heap}{a:Addr}{x:Str}(k: ∀b o,h.get? b=some o→h'.get? b=some o)(hs:(h.get? a).isSome=true):h'.nsMap a x=h.nsMap a x:=by
 refine au (Option.isSome_iff_exists.mp hs) λo ho=>?_
 unfold Heap.nsMap
 rw[ho,k a o ho]
theorem map_some{h:Heap}{a:Addr}{x:Str}{v:Value}(e:h.nsMap a x=some v):(h.get? a).isSome=true:=by
 unfold Heap.nsMap at e
 split at e
 ·rename_i q;rw[q];rfl
 ·cases e
noncomputable def hook:Hook where
 α:=Option Obj×Option Obj×Option (Option Value)×(Option Value×Option Value×Option Value×Option Value)×Option (Option (Addr×List Value))×Bool×Option Value
 obs s:=(s.heap.get? 84,s.heap.get? 77,(s.heap.get? 83).map tv,(s.heap.nsMap mainGlobals (Str.ofString "bisect_left"),s.heap.nsMap mainGlobals (Str.ofString "bisect_right"),s.heap.nsMap mainGlobals (Str.ofString "median_grouped"),s.heap.nsMap mainGlobals (Str.ofString "StatisticsError")),
  (s.heap.get? 52).map wK,(s.heap.get? 51).isSome,s.heap.nsMap 51 (Str.ofString "__str__"))
 val _:=(some {cls:= .type "function",data:= .func FE},some {cls:= .type "tuple",data:= .seq #[.float 4607182418800017408 362] 0},some (some (.str (Str.ofString "median_grouped") 364)),
  (some (.builtin "_bisect.bisect_left"),some (.builtin "_bisect.bisect_right"),some (.ref 84),some (.ref 52)),some (some (51,[.ref 52,.type "ValueError",.type "Exception",.type "BaseException",.type "object"])),true,none)
 says _ h:=Seen h
 of w s e:=by
  simp only[Prod.mk.injEq]at e
  refine Se e λe1 e2 e3 OB e8 e9 ZX=>?_
  obtain⟨e4,e5,e6,e7⟩:=OB
  refine⟨e1,e2,?_,e4,e5,e6,e7,?_,e9,ZX⟩
  ·refine ai (Option.map_eq_some_iff.mp e3) λo ho e3=>?_
   unfold tv at e3
   split at e3
   ·rename_i vs hd
    exact⟨83,o,vs,_,rfl,ho,hd,e3⟩
   ·cases e3
  ·refine ai (Option.map_eq_some_iff.mp e8) λo ho e8=>?_
   unfold wK at e8
   split at e8
   ·rename_i c hd
    have e8:=Option.some.inj e8
    simp only[Prod.mk.injEq]at e8
    exact⟨o,c,ho,hd,e8.1,e8.2⟩
   ·cases e8
 keeps w h h' x k:=by
  obtain⟨x1,x2,x3,x4,x5,x6,x7,⟨o,c,x8,x9⟩,XH,ZY⟩:=x
  refine au (Option.isSome_iff_exists.mp XH) λp hp=>?_
  exact⟨k _ _ x1,k _ _ x2,x3.keeps k,(fN k (map_some x4)).trans x4,(fN k (map_some x5)).trans x5,(fN k (map_some x6)).trans x6,(fN k (map_some x7)).trans x7,⟨o,c,k _ _ x8,x9⟩,by rw[k _ _ hp];rfl,(fN k XH).trans ZY⟩
end Mine.Internal.dU
end
section
open PySem PySem.W PyProof.Rows
namespace Mine.Internal
noncomputable def fO:Res→D
 | .told d=> .tup [.str (Str.ofString "told"),d]
 | .exc k=>match k with
  | .dj=> .tup [.str (Str.ofString "none"),.str (Str.ofString "no median for empty data")]
  | .past=> .tup [.str (Str.ofString "past"),.str (Str.ofString "")]
  | .kind b=> .tup [.str (Str.ofString "kind"),.bool b]
  | .val=> .any
section
variable{prog:Program}{w:World}{A:Around}{E:Value→Shared→Prop}{s:Shared}{env:Env}
theorem jj{e C:Addr}{x:Str}{bmB:List Value}{newId:String}{mg:Str→Option Value}{X:String}{t:Expr}{n:Option Str}{body:List Stmt}{pos:Pos}{rest:List ExceptHandler}{Q:Flow→Shared→Prop}(AS:bmB.contains (.type "BaseException")=true)
  (mS:isSubtype (.type X) (.ref C)=pure false)
  (h:wpAny (model prog w) (A.mark (some (.ref e))) (eval t env) (λc s₁=>c= .ref C∧OwnClsQ x C bmB newId mg s₁.heap∧s₁.TypeIs (.ref e) X∧wpAny (model prog w) A (handleBy (.ref e) env rest) Q E s₁)
   (notedBy (model prog w) (A.mark (some (.ref e))) env (cameBackBy (model prog w) A env E)) s):
  wpAny (model prog w) A (handleBy (.ref e) env (.ExceptHandler (some t) n body pos::rest)) Q E s:=by
 refine wpAny_handleBy_cons (codeAny_handlers_test (wpAny_mono h (λc s₁ h₁=>?_) λ_ _ y=>y)) (by intro q;cases q)
 refine za h₁ λOC O hX hk=>?_
 subst OC
 exact AR O AS hX mS hk
theorem jW{h:Heap}{t:Addr}{v1 v2:Value}{n:Nat}{d1 d2:D}(ht:h.get? t=some {cls:= .type "tuple",data:= .seq #[v1,v2] n})(r1:aZ (λ_=>True) h d1 v1)(r2:aZ (λ_=>True) h d2 v2):aZ (λ_=>True) h (.tup [d1,d2]) (.ref t):=
 ⟨t,[v1,v2],rfl,trivial,(show 2≤bW by decide),⟨_,ht,rfl,_,rfl⟩,⟨v1,_,rfl,r1,v2,_,rfl,r2,rfl⟩⟩
end
theorem wL:isSubtype (.type "OverflowError") (.type "BaseException")=pure true:=by rw[isSubtype_type];kernel_rfl
theorem wM:isSubtype (.type ((Manifest.find? "OverflowError").elim "type" λx=>x.metatype)) (.type "tuple")=pure false:=by
 rw[show((Manifest.find? "OverflowError").elim "type" λx=>x.metatype)= "type" from by kernel_rfl,isSubtype_type];kernel_rfl
theorem DY:isSubtype (.type "TypeError") (.type "BaseException")=pure true:=by rw[isSubtype_type];kernel_rfl
theorem DZ:isSubtype (.type ((Manifest.find? "TypeError").elim "type" λx=>x.metatype)) (.type "tuple")=pure false:=by
 rw[show((Manifest.find? "TypeError").elim "type" λx=>x.metatype)= "type" from by kernel_rfl,isSubtype_type];kernel_rfl
theorem Hy:isSubtype (.type "OverflowError") (.type "OverflowError")=pure true:=by rw[isSubtype_type];kernel_rfl
theorem Hz:isSubtype (.type "TypeError") (.type "OverflowError")=pure false:=by rw[isSubtype_type];kernel_rfl
theorem HA:isSubtype (.type "TypeError") (.type "TypeError")=pure true:=by rw[isSubtype_type];kernel_rfl
section
variable{c:Cx}{sc:Scope}{A:Around}{E:Value→Shared→Prop}{s:Shared}{env:Env}
theorem yw{n1 n2:Str}{p1 p2 bG:Pos}{a:Addr}{v:Value}{mm:Str→Option Value}{Q:Value→Shared→Prop}(fn:env.scope.kind= .function)(xx:env.kindOf n1=some .local)(CF:env.kindOf n2=some .local)(o1:aR n1=true)(o2:aR n2=true)(hn:s.heap.Ns env.locals mm)
  (Mr:mm n1=some (.ref a)) (RD:mm n2=some v) (hf: ∃o fd,s.heap.get? a=some o∧o.data= .func fd) (h:wpAny (model c.prog c.w) A (call (.ref a) [v]) Q E s):wpAny (model c.prog c.w) A (eval (.Call (.Name n1 p1) [.Name n2 p2] [] bG) env) Q E s:=by
 simp only[aR,Bool.and_eq_true,Bool.not_eq_true']at o1 o2
 show wpAny _ _ (eval (.Name n1 p1) env >>= λfv=>callWith bG fv [] (backTo bG (starEach [.Name n2 p2] env)) []) _ _ _
 refine wpAny_bind (wpAny_Name (wpAny_loadName_local fn xx hn Mr ?_) o1.1)
 refine aO λXq kq=>?_
 refine da hf λof fd Oq Dt=>?_
 refine kq ?_
 refine Calls.callWith_function (o:=of) (fd:=fd) ?_
 rw[a7 (x:= .Name n2 p2) rfl]
 exact Calls.evalArgs_plain (Calls.spliced_cons (wpAny_Name (wpAny_loadName_local fn CF hn RD (Calls.spliced_nil ⟨⟨Oq,Dt⟩,h⟩)) o2.1))
end
end Mine.Internal
end
section
open PySem PySem.W PyProof.Rows
namespace Mine.Internal
noncomputable abbrev OD:Str:=Str.ofString "told"
noncomputable abbrev wN:Str:=Str.ofString "none"
noncomputable abbrev wO:Str:=Str.ofString "past"
noncomputable abbrev wQ:Str:=Str.ofString "kind"
noncomputable abbrev oQ:Str:=Str.ofString "error"
noncomputable abbrev yx:Str:=Str.ofString "act"
noncomputable abbrev dz:Str:=Str.ofString "items"
noncomputable abbrev FG:Str:=Str.ofString "StatisticsError"
noncomputable abbrev Je:Str:=Str.ofString "OverflowError"
noncomputable abbrev Jf:Str:=Str.ofString "TypeError"
noncomputable abbrev tw:Str:=Str.ofString "str"
structure tA(c:Cx)(C:Addr)(env:Env)(sc:Scope)(bs h0:Heap):Prop where
 ok:c.Ok
 own:OwnClsQ FG C jh "ValueError.__new__" c.mg c.hT
 os:dZ c.hT C
 tb:Ext c.hT bs
 gH:env.scope=sc
 fn:env.scope.kind= .function
 gl:env.globals=mainGlobals
 bl:env.builtins=builtinsNs
 fr:env.frame=some env.locals
 nl:h0.get? env.locals=none
 nb:bs.get? env.locals=none
 err:env.kindOf oQ=some .local
 kS:sc.names.lookup FG=some .globalImplicit
 kO:sc.names.lookup Je=some .globalImplicit
 kT:sc.names.lookup Jf=some .globalImplicit
 kR:sc.names.lookup tw=some .globalImplicit
 bO:c.bn Je=some (.type "OverflowError")
 bT:c.bn Jf=some (.type "TypeError")
 bR:c.bn tw=some (.type "str")
section
variable{c:Cx}{C:Addr}{env:Env}{sc:Scope}{bs B h0:Heap}{A:Around}{E:Value→Shared→Prop}{s:Shared}{outer:List Env}{e:Addr}{cls:Value}{m:Option Str}
theorem gy.base(x:gy B (env::outer) h0 s.heap e cls m):B.StaysIn s.heap:=let⟨_,⟨k,_⟩,_,_⟩:=x;k
theorem gy.up(x:gy B (env::outer) h0 s.heap e cls m):h0.UpToSlots s.heap:=let⟨_,_,_,k⟩:=x;k
theorem gy.HB(x:gy B (env::outer) h0 s.heap e cls m): ∃oe,s.heap.get? e=some oe∧oe.cls=cls:=let⟨_,k,_,_⟩:=x;k.there
theorem f6{Q:Value→Shared→Prop}{np:Pos}(F:tA c C env sc bs h0)(top:Ext c.hT s.heap)(h:Q (.ref C) s):wpAny (model c.prog c.w) A (eval (.Name FG np) env) Q E s:=by
 refine Calls.Name_function_global F.fn (by unfold Env.kindOf;rw[F.gH];exact F.kS) (Calls.loadGlobal_global (mg:=c.mg) (by rw[F.gl];exact F.ok.g.keeps top) F.own.bound h) (by decide)
theorem A4{k1:Nat}{p1 p2 p3 p4 p5 p6 p7 p8:Pos}{k2:Nat}{rest:List ExceptHandler}{Q:Flow→Shared→Prop}{mo:Str→Option Value}{msg:Str}(F:tA c C env sc bs h0)(hB:bs.StaysIn B)(rA:s.heap.Ns env.locals mo)(hu:A.units+6<cLine)(x:gy B (env::outer) h0 s.heap e (.ref C) (some msg))
  (hQ: ∀v h' tk,B.StaysIn h'→h0.UpToSlots h'→aZ (λ_=>True) h' (.tup [.str wN,.str msg]) v→Q (.ret v) {s with heap:=h',toks:=tk}):
  wpAny (model c.prog c.w) A (handleBy (.ref e) env (.ExceptHandler (some (.Name FG p1)) (some oQ) [.Return (some (.Tuple [.Constant (.str wN) k1 p2,.Call (.Name tw p3) [.Name oQ p4] [] p5] k2 p6)) p7] p8::rest)) Q E s:=by
 have top:Ext c.hT s.heap:=λb o q=>x.base b o (hB b o (F.tb b o q))
 refine handleBy_own_as (bmB:=jh) (by decide) (f6 F top ⟨rfl,F.own.keeps top,x.HB,?_⟩)
 refine tq x F.fr F.fn F.err ⟨mo,rA⟩ F.nl λh3 t3 m3 x3 AW VL=>?_
 have OE:gy B (env::outer) h0 ({s with heap:=h3,toks:=t3}:Shared).heap e (.ref C) (some msg):=x3
 have oO:Ext c.hT h3:=λb o q=>OE.base b o (hB b o (F.tb b o q))
 obtain⟨tk,hx⟩:=OE.own rfl (F.os.keeps oO)
 refine iQ rfl rfl (wpAny_Constant_str ?_)
 refine tr F.gH F.fn F.gl F.bl oO F.ok F.bR F.kR F.err rfl AW VL (ve (by exact kf (a:=A.units) (m:=2) hu (by decide)) hx ?_)
 refine⟨_,_,rfl,Ext.push _ _,λh5 t5 q1 q2 q3=>hQ _ h5 t5 q1 q2 (jW (q3 _ _ ?_ (Heap.get?_push_size _ rfl)) ⟨_,rfl⟩ ⟨_,rfl⟩)⟩
 exact λq=>Nat.lt_irrefl _ (q▸AW.lt)
theorem A5{k1 k2 k3:Nat}{p1 p2 p3 p4 p5 p6 p7 p8 p9 Jg:Pos}{rest:List ExceptHandler}{Q:Flow→Shared→Prop}{mo:Str→Option Value}{msg:Str}(F:tA c C env sc bs h0)(hB:bs.StaysIn B)(rA:s.heap.Ns env.locals mo)(hu:A.units+6<cLine)(x:gy B (env::outer) h0 s.heap e (.type "TypeError") (some msg))
  (hQ: ∀v h' tk,B.StaysIn h'→h0.UpToSlots h'→aZ (λ_=>True) h' (.tup [.str wQ,.bool (msg==wD)]) v→Q (.ret v) {s with heap:=h',toks:=tk}):
  wpAny (model c.prog c.w) A (handleBy (.ref e) env (.ExceptHandler (some (.Name Jf p1)) (some oQ) [.Return (some (.Tuple [.Constant (.str wQ) k1 p2,.Compare (.Call (.Name tw p3) [.Name oQ p4] [] p5) [.Eq] [.Constant (.str wD) k3 p9] Jg] k2 p6)) p7] p8::rest)) Q E s:=by
 have top:Ext c.hT s.heap:=λb o q=>x.base b o (hB b o (F.tb b o q))
 refine wpAny_handleBy_builtin_as (X:= "TypeError") (T:= "TypeError") (b:=true) DY DZ HA (eX F.gH F.fn F.gl F.bl top F.ok F.bT F.kT (by decide) ⟨rfl,x.typeIs rfl,?_⟩)
 refine jF rfl ?_
 refine tq x F.fr F.fn F.err ⟨mo,rA⟩ F.nl λh3 t3 m3 x3 AW VL=>?_
 have OE:gy B (env::outer) h0 ({s with heap:=h3,toks:=t3}:Shared).heap e (.type "TypeError") (some msg):=x3
 have oO:Ext c.hT h3:=λb o q=>OE.base b o (hB b o (F.tb b o q))
 refine aO λXq kq=>?_
 refine da (OE.excAt rfl) λt tk hx ht=>?_
 refine kq ?_
 refine iQ rfl rfl (wpAny_Constant_str (wpAny_Compare1 ?_ rfl))
 refine tr F.gH F.fn F.gl F.bl oO F.ok F.bR F.kR F.err rfl AW VL (PySem.P.str_of_exc_one PySem.F.excStr_TypeError (by exact kf (a:=A.units) (m:=2) hu (by decide)) hx ht (wpAny_Constant_str ?_))
 refine qp (x:= .str msg) (y:= .str wD) (b:=msg==wD) rfl ⟨_,rfl⟩ ⟨_,rfl⟩ hu ?_
 refine⟨_,_,rfl,Ext.push _ _,λh5 t5 q1 q2 q3=>hQ _ h5 t5 q1 q2 (jW (q3 _ _ ?_ (Heap.get?_push_size _ rfl)) ⟨_,rfl⟩ rfl)⟩
 exact λq=>Nat.lt_irrefl _ (q▸AW.lt)
theorem A6{k1 k2 k3:Nat}{p1 p2 p3 p4 p5 p6:Pos}{rest:List ExceptHandler}{Q:Flow→Shared→Prop}(F:tA c C env sc bs h0)(hB:bs.StaysIn B)(x:gy B (env::outer) h0 s.heap e (.type "OverflowError") m)
  (hQ: ∀v h' tk,B.StaysIn h'→h0.UpToSlots h'→aZ (λ_=>True) h' (.tup [.str wO,.str (Str.ofString "")]) v→Q (.ret v) {s with heap:=h',toks:=tk}):
  wpAny (model c.prog c.w) A (handleBy (.ref e) env (.ExceptHandler (some (.Name Je p1)) none [.Return (some (.Tuple [.Constant (.str wO) k1 p2,.Constant (.str (Str.ofString "")) k3 p3] k2 p4)) p5] p6::rest)) Q E s:=by
 have top:Ext c.hT s.heap:=λb o q=>x.base b o (hB b o (F.tb b o q))
 refine wpAny_handleBy_builtin (X:= "OverflowError") (T:= "OverflowError") (b:=true) wL wM Hy (eX F.gH F.fn F.gl F.bl top F.ok F.bO F.kO (by decide) ⟨rfl,x.typeIs rfl,?_⟩)
 refine jF rfl ?_
 refine x.again λh2 x2 u2=>?_
 have CM:gy B (env::outer) h0 ({s with heap:=h2}:Shared).heap e (.type "OverflowError") m:=x2
 refine wpAny_execs_cons (wpAny_Return_some (iQ rfl rfl (wpAny_Constant_str (wpAny_Constant_str ?_))))
 exact hQ _ _ _ (λb o q=>Ext.push _ _ _ _ (CM.base b o q)) (CM.up.trans (.of_keeps (Ext.push _ _))) (jW (Heap.get?_push_size _ rfl) ⟨_,rfl⟩ ⟨_,rfl⟩)
end
end Mine.Internal
end
section
open PySem PySem.W PyProof.Rows
namespace Mine.Internal
section
variable{c:Cx}{C:Addr}
theorem D0{r:Res}{X:Value}{k:XK}{cls:Value}{m:Option Str}(hr:r= .exc k)(hv:r≠ .exc .val)(hk:k.ok X cls m):
  (cls=X∧m=some (Str.ofString "no median for empty data")∧fO r= .tup [.str wN,.str (Str.ofString "no median for empty data")])∨
  (cls= .type "OverflowError"∧fO r= .tup [.str wO,.str (Str.ofString "")])∨ ∃msg,cls= .type "TypeError"∧m=some msg∧fO r= .tup [.str wQ,.bool (msg==wD)]:=by
 subst hr
 cases k with
 |dj=>exact .inl ⟨hk.1,hk.2,rfl⟩
 |past=>exact .inr (.inl ⟨hk,rfl⟩)
 |kind b=>
  refine aO λXq kq=>?_
  obtain⟨h1,msg,h2,h3⟩:=hk
  refine kq ?_
  exact .inr (.inr ⟨msg,h1,h2,by rw[h3];rfl⟩)
 |val=>exact absurd rfl hv
theorem HC{f:Fn}{k1 k2 k3 k4 k5 k6 k7 k8 k9:Nat}{p1 p2 p3 p4 p5 p6 p7 p8 p9 q1 q2 q3 q4 q5 q6 q7 q8 q9 r1 r2 r3 r4 r5 r6 r7 r8 r9 t1 t2 t3 t4:Pos}(ok:c.Ok)(hf:bU f=true)(cn:dX f)(iZ:f.ps= [yx,dz])(cf:c.hT.NoLimit)
  (fL:f.body= [.Try [.Return (some (.Tuple [.Constant (.str OD) k1 p1,.Call (.Name yx p2) [.Name dz p3] [] p4] k2 p5)) p6] [
   .ExceptHandler (some (.Name FG q1)) (some oQ) [.Return (some (.Tuple [.Constant (.str wN) k3 q2,.Call (.Name tw q3) [.Name oQ q4] [] q5] k4 q6)) q7] q8,
   .ExceptHandler (some (.Name Je r1)) none [.Return (some (.Tuple [.Constant (.str wO) k5 r2,.Constant (.str (Str.ofString "")) k6 r3] k7 r4)) r5] r6,
   .ExceptHandler (some (.Name Jf r7)) (some oQ) [.Return (some (.Tuple [.Constant (.str wQ) k8 r8,.Compare (.Call (.Name tw r9) [.Name oQ t1] [] t2) [.Eq] [.Constant (.str wD) k9 t3] t4] k9 p7)) p8] p9] [] [] q9])
  (own:OwnClsQ FG C jh "ValueError.__new__" c.mg c.hT) (os:dZ c.hT C)
  (ka:f.scope.names.lookup yx=some .local) (ki:f.scope.names.lookup dz=some .local) (ke:f.scope.names.lookup oQ=some .local) (kS:f.scope.names.lookup FG=some .globalImplicit) (kO:f.scope.names.lookup Je=some .globalImplicit) (kT:f.scope.names.lookup Jf=some .globalImplicit) (kR:f.scope.names.lookup tw=some .globalImplicit)
  (bO:c.bn Je=some (.type "OverflowError")) (bT:c.bn Jf=some (.type "TypeError")) (bR:c.bn tw=some (.type "str"))
  {aS aA:Addr} (gg:FnAt f aS c.hT) (CN: ∃o fd,c.hT.get? aA=some o∧o.data= .func fd) {R:List D→Res→Prop} (tg:eY c.prog c.w (.ref C) c.hT aA R)
  {A:Around} {s:Shared} {d:D} {v:Value} {l:List D} {r:Res} {bs:Heap} {outer:List Env} {Q:Value→Shared→Prop} {E:Value→Shared→Prop} (p:dY c.hT (max 4 (c.k+1)) A s d v l (λ_=>True) bs outer) (hr:R l r) (hv:r≠ .exc .val)
  (hQ: ∀v' h' tk,bs.StaysIn h'→s.heap.UpToSlots h'→(∀b,given [d] [v] b→cb h' b)→aZ (λ_=>True) h' (fO r) v'→Q v' {s with heap:=h',toks:=tk}):
  wpAny (model c.prog c.w) A (call (.ref aS) [.ref aA,v]) Q E s:=by
 have top:=p.top
 refine pN hf cn.d top (jR p.room (Nat.le_max_right ..)) (cf.keeps top) (gg.keeps top).d (by rw[iZ];rfl) λenv s₁ gH tf hL Vg ix OF=>?_
 have act:=OF (σ:=λ_=>none) (K:=λ_=>True) (Z:=λ_=>True) ok.nodup top (λ_ _=>trivial) (λ_ _=>trivial) (λi d n h1 _=>by cases h1)
 have hk: ∀n,env.kindOf n=f.scope.names.lookup n:=λn=>by unfold Env.kindOf;rw[gH]
 refine cg ix.toInCall.same λh1 ua OG=>?_
 subst OG
 have x1:Ext s.heap h1:=ix.toInCall.keep
 have nl:s.heap.get? env.locals=none:=jv (by rw[hL];exact Nat.le_refl _)
 have XI: ∀b,s.heap.get? b=none→bs.get? b=none:=λb e=>by
  cases q:bs.get? b with
  |none=>rfl
  |some o=>have:=p.st b o q;rw[e]at this;cases this
 have F:tA c C env f.scope bs s.heap:=⟨ok,own,os,p.tb,gH,act.fn,act.gl,act.bl,tf,nl,XI _ nl,(hk _).trans ke,kS,kO,kT,kR,bO,bT,bR⟩
 have vf:Ext c.hT h1:=top.trans x1
 have N5:((f.ps.zip [Value.ref aA,v]).map (·.1)).Nodup:=by rw[iZ];show [yx,dz].Nodup;decide
 have v1:bindL env.kindOf (f.ps.zip [.ref aA,v]) (λ_=>none) yx=some (.ref aA):=fK _ _ N5 (by rw[iZ];exact .head _) ((hk _).trans ka)
 have v2:bindL env.kindOf (f.ps.zip [.ref aA,v]) (λ_=>none) dz=some v:=fK _ _ N5 (by rw[iZ];exact .tail _ (.head _)) ((hk _).trans ki)
 have rA:=ix.toInCall.ns
 have RC:=p.room.units
 have ZZ:=p.room.depth
 have h4:4≤max 4 (c.k+1):=Nat.le_max_left ..
 have fq:(A.deeper env).frames=some (env::outer):=Around.frames_deeper p.frames
 have hu:(A.deeper env).units+6<cLine:=WO (m:=9) RC (by decide)
 rw[fL]
 refine wpAny_execs_cons (wpAny_Try_except (wpAny_execs_cons (wpAny_Return_some (iQ rfl rfl (wpAny_Constant_str ?_)))))
 refine yw act.fn ((hk _).trans ka) ((hk _).trans ki) rfl rfl rA v1 v2 (let⟨o,fd,e1,e2⟩:=CN;⟨o,fd,vf _ _ e1,e2⟩) ?_
 refine tg (A.deeper env) _ d v l r (λ_=>True) bs (env::outer) _ _ ⟨⟨p.room.handled,?_,?_⟩,fq,⟨Vg,?_,p.fl.of_keeps λb o e _=>⟨o,x1 b o e,rfl⟩⟩,λb o e=>x1 b o (p.st b o e),p.tb,p.gb,p.row,p.rep.ext x1,λ_ _=>trivial,λ_ _ _=>trivial⟩ hr ?_
 ·exact Nat.lt_of_le_of_lt (Nat.add_le_add_left h4 A.depth) ZZ
 ·show A.units+3+10*3+20<cLine
  exact WQ (k:=3) (WR RC h4)
 ·refine aO λXq kq=>?_
  refine gO rA λo es ep q1 q2 _=>?_
  refine kq ?_
  exact⟨env.locals,o,tf,XI _ nl,q1,λvs q=>by rw[q2]at q;cases q⟩
 ·cases r with
  |told d'=>
   intro u h' tk q1 q2 q3 q4
   have up:s.heap.UpToSlots h':=(Heap.UpToSlots.of_keeps x1).trans q2
   refine⟨_,rfl,hQ _ _ tk (λb o e=>Ext.push _ _ _ _ (q1 b o e)) (up.trans (.of_keeps (Ext.push _ _))) (λb hb=>(q3 b hb).ext λo e=>Ext.push _ _ _ _ e) (jW (Heap.get?_push_size _ rfl) ⟨_,rfl⟩ (q4.ext (Ext.push _ _)))⟩
  |exc k=>
   intro B e h' tk cls m hB FA Z0 x0
   have x:gy B (env::outer) s.heap ({s with heap:=h',toks:=tk}:Shared).heap e cls m:=by
    obtain⟨a0,y1,y2,y3⟩:=x0
    exact⟨a0,y1,y2,(Heap.UpToSlots.of_keeps x1).trans y3⟩
   have RE:h'.Ns env.locals _:=x0.up (s:={s with heap:=h',toks:=tk}).ns rA
   refine x.Ot fq tf λh2 x2 u2=>?_
   have CM:gy B (env::outer) s.heap ({s with heap:=h2,toks:=tk}:Shared).heap e cls m:=x2
   have CE:=u2.ns RE
   have fin: ∀{d2:D},fO (.exc k)=d2→ ∀v' h5 t5,B.StaysIn h5→s.heap.UpToSlots h5→aZ (λ_=>True) h5 d2 v'→ ∃v,Flow.ret v'= .ret v∧Q v {s with heap:=h5,toks:=t5}:=λe2 v' h5 t5 w1 w2 w3=>
    ⟨v',rfl,hQ v' h5 t5 (λb o e=>w1 b o (hB b o e)) w2 (λb hb=>(FA b hb).ext λo e=>w1 b o e) (by rw[e2];exact w3)⟩
   have top2:Ext c.hT h2:=λb o q=>CM.base b o (hB b o (p.tb b o q))
   rcases D0 rfl hv Z0 with⟨rfl,rfl,e2⟩|⟨rfl,e2⟩|⟨msg,rfl,rfl,e2⟩
   ·exact A4 F hB CE hu CM (fin e2)
   ·exact jj (X:= "OverflowError") (bmB:=jh) (by decide) (Hv C) (f6 F top2 ⟨rfl,own.keeps top2,CM.typeIs rfl,A6 F hB CM (fin e2)⟩)
   ·refine jj (X:= "TypeError") (bmB:=jh) (by decide) (Hu C) (f6 F top2 ⟨rfl,own.keeps top2,CM.typeIs rfl,?_⟩)
    refine wpAny_handleBy_builtin (X:= "TypeError") (T:= "OverflowError") (b:=false) wL wM Hz (eX gH act.fn act.gl act.bl top2 ok bO kO (by decide) ⟨rfl,CM.typeIs rfl,?_⟩)
    exact A5 F hB CE hu CM (fin e2)
end
end Mine.Internal
end
section
open PySem PySem.W PyProof.Rows
set_option Elab.async false
namespace Mine.Internal.dU
noncomputable def yy:Fn:=fnAt pw 9 [yx,dz]
theorem Ctx.str{base:Cx}{C:Addr}(h:Ctx base C){x:Str}{v:Value}(hx:cR names x=some v):base.bn x=some v:=by rw[h.bn];exact hx
theorem HD{base:Cx}{C:Addr}(h:Ctx base C)(os:dZ base.hT C){aS aA:Addr}(gg:FnAt yy aS base.hT)(CN: ∃o fd,base.hT.get? aA=some o∧o.data= .func fd){R:List D→Res→Prop}(tg:eY pw base.w (.ref C) base.hT aA R)
  {A:Around} {s:Shared} {d:D} {v:Value} {l:List D} {r:Res} {bs:Heap} {outer:List Env} {Q:Value→Shared→Prop} {E:Value→Shared→Prop} (p:dY base.hT 4 A s d v l (λ_=>True) bs outer) (hr:R l r) (hv:r≠ .exc .val)
  (hQ: ∀v' h' tk,bs.StaysIn h'→s.heap.UpToSlots h'→(∀b,given [d] [v] b→cb h' b)→aZ (λ_=>True) h' (fO r) v'→Q v' {s with heap:=h',toks:=tk}):
  wpAny (model pw base.w) A (call (.ref aS) [.ref aA,v]) Q E s:=by
 have ok:(base.of [] (qO yy .skip [] [])).Ok:=uO h.b (e:=qO yy .skip [] []) List.nodup_nil
 rw[←h.prog]at tg ⊢
 exact HC (c:=base.of [] (qO yy .skip [] [])) ok (by kernel_rfl) (wB rfl (λ_ _ _ _ _=>rfl)) rfl h.b.lim rfl h.own os (by kernel_rfl) (by kernel_rfl) (by kernel_rfl) (by kernel_rfl) (by kernel_rfl) (by kernel_rfl) (by kernel_rfl)
  (h.str (by kernel_rfl)) (h.str (by kernel_rfl)) (h.str (by kernel_rfl)) gg CN tg p hr hv hQ
end Mine.Internal.dU
end
section
open PySem PySem.W PyProof.Rows
set_option Elab.async false
namespace Mine.Internal.dU
noncomputable def wR:MS:=(.seq (.asg 3 (.bin .Add (.comp (.var 4) (.one 4) (.var 0) (.cons (.cmp .Lt (.var 4) (.item (.var 0) (.var 2))) .nil) .nil) (.comp (.var 4) (.one 4) (.rZ (.var 0) .nil (.var 2) .nil) (.cons (.cmp .Eq (.var 4) (.item (.var 0) (.var 2))) .nil) .nil)))
  (.seq (.ite (.cmp .Eq (.bi .len (.cons (.var 3) .nil)) (.var 1)) (.seq (.ret (.item (.var 0) (.var 2)))
  .skip) .skip)
  .skip))
noncomputable def f0:Fn:=fnAt pw 10 [(Str.ofString "items"),(Str.ofString "place")]
noncomputable def m0:MS:=(.seq (.sT (.one 2) (.bi .range (.cons (.bi .len (.cons (.var 0) .nil)) .nil)) wR)
  .skip)
noncomputable def e0:Ent:={f:=f0,m:=m0,xs:= [0,1],nt:= [(Str.ofString "items"),(Str.ofString "place"),(Str.ofString "k"),(Str.ofString "ahead"),(Str.ofString "x")],lv:=λ_=>0,ow:=λ_=>0}
noncomputable def f1:Fn:=fnAt pw 11 [(Str.ofString "total")]
noncomputable def m1:MS:=(.seq (.asg 1 (.bi .max (.cons (.aL (.int 0)) (.cons (.bin .Sub (.bi .mH (.cons (.bi .abs (.cons (.var 0) .nil)) .nil)) (.aL (.int 53))) .nil))))
  (.seq (.MT [2,3] (.bi .divmod (.cons (.bi .abs (.cons (.var 0) .nil)) (.cons (.bin .Pow (.aL (.int 2)) (.var 1)) .nil))))
  (.seq (.ite (.cmp .Gt (.bin .Add (.bin .Mult (.aL (.int 2)) (.var 3)) (.bin .Mod (.var 2) (.aL (.int 2)))) (.bin .Pow (.aL (.int 2)) (.var 1))) (.seq (.aug 2 .Add (.aL (.int 1)))
  .skip) .skip)
  (.seq (.ite (.cmp .GtE (.bin .Mult (.var 2) (.bin .Pow (.aL (.int 2)) (.var 1))) (.bin .Pow (.aL (.int 2)) (.aL (.int 1025)))) (.seq (.ret (.tup (.cons (.aL (.str (Str.ofString "past"))) (.cons (.aL (.str (Str.ofString ""))) .nil))))
  .skip) .skip)
  (.seq (.ret (.tup (.cons (.aL (.str (Str.ofString "told"))) (.cons (.bin .Div (.bin .Mult (.bin .Mult (.var 2) (.bin .Pow (.aL (.int 2)) (.var 1))) (.oC (.cmp .Lt (.var 0) (.aL (.int 0))) (.neg (.aL (.int 1))) (.aL (.int 1)))) (.aL (.int 2))) .nil))))
  .skip)))))
noncomputable def e1:Ent:={f:=f1,m:=m1,xs:= [0],nt:= [(Str.ofString "total"),(Str.ofString "shift"),(Str.ofString "part"),(Str.ofString "rest")],lv:=λ_=>0,ow:=λ_=>0}
noncomputable def f2:Fn:=fnAt pw 12 [(Str.ofString "items"),(Str.ofString "faults")]
noncomputable def m2:MS:=(.seq (.ite (.cmp .Eq (.var 0) (.lst .nil)) (.seq (.ret (.bin .Mult (.lst (.cons (.tup (.cons (.aL (.str (Str.ofString "none"))) (.cons (.aL (.str (Str.ofString "no median for empty data"))) .nil))) .nil)) (.bin .Add (.aL (.int 3)) (.bi .len (.cons (.var 1) .nil)))))
  .skip) .skip)
  (.seq (.ite (.cmp .NotEq (.comp (.var 6) (.one 6) (.var 0) (.cons (.cmp .IsNot (.bi .type (.cons (.var 6) .nil)) (.bi .type (.cons (.item (.var 0) (.aL (.int 0))) .nil))) .nil) .nil) (.lst .nil)) (.seq (.ret (.bin .Mult (.lst (.cons (.tup (.cons (.aL (.str (Str.ofString "kind"))) (.cons (.aL (.bool false)) .nil))) .nil)) (.bin .Add (.aL (.int 3)) (.bi .len (.cons (.var 1) .nil)))))
  .skip) .skip)
  (.seq (.asg 2 (.call 0 (.cons (.var 0) (.cons (.bin .FloorDiv (.bin .Sub (.bi .len (.cons (.var 0) .nil)) (.aL (.int 1))) (.aL (.int 2))) .nil))))
  (.seq (.asg 3 (.call 0 (.cons (.var 0) (.cons (.bin .FloorDiv (.bi .len (.cons (.var 0) .nil)) (.aL (.int 2))) .nil))))
  (.seq (.asg 4 (.tup (.cons (.aL (.str (Str.ofString "told"))) (.cons (.var 3) .nil))))
  (.seq (.ite (.cmp .Eq (.bin .Mod (.bi .len (.cons (.var 0) .nil)) (.aL (.int 2))) (.aL (.int 0))) (.seq (.asg 4 (.oC (.cmp .Is (.bi .type (.cons (.var 2) .nil)) (.tW "int")) (.call 1 (.cons (.bin .Add (.var 2) (.var 3)) .nil)) (.tup (.cons (.aL (.str (Str.ofString "kind"))) (.cons (.aL (.bool false)) .nil)))))
  .skip) .skip)
  (.seq (.asg 5 (.tup (.cons (.aL (.str (Str.ofString "kind"))) (.cons (.cmp .Is (.bi .type (.cons (.var 3) .nil)) (.tW "str")) .nil))))
  (.seq (.ite (.cmp .Is (.bi .type (.cons (.var 3) .nil)) (.tW "int")) (.seq (.asg 5 (.call 1 (.cons (.bin .Mult (.aL (.int 2)) (.var 3)) .nil)))
  .skip) (.seq (.ite (.CI .And (.cons (.cmp .Is (.bi .type (.cons (.var 3) .nil)) (.tW "str")) (.cons (.cmp .NotIn (.aL (.str (Str.ofString "?"))) (.var 3)) .nil))) (.seq (.asg 5 (.tup (.cons (.aL (.str (Str.ofString "told"))) (.cons (.oC (.cmp .In (.aL (.str (Str.ofString "."))) (.var 3)) (.bin .Add (.bi .int (.cons (.rZ (.var 3) .nil (.neg (.aL (.int 2))) .nil) .nil)) (.aL (.cx 4602678819172646912))) (.bin .Div (.bi .int (.cons (.var 3) .nil)) (.aL (.int 1)))) .nil))))
  .skip) .skip)
  .skip))
  (.seq (.ret (.bin .Add (.lst (.cons (.tup (.cons (.aL (.str (Str.ofString "told"))) (.cons (.var 2) .nil))) (.cons (.tup (.cons (.aL (.str (Str.ofString "told"))) (.cons (.var 3) .nil))) (.cons (.var 4) .nil)))) (.comp (.oC (.cmp .Is (.var 7) (.aL .none)) (.var 5) (.var 7)) (.one 7) (.var 1) .nil .nil)))
  .skip)))))))))
noncomputable def e2:Ent:={f:=f2,m:=m2,xs:= [0,1],nt:= [(Str.ofString "items"),(Str.ofString "faults"),(Str.ofString "low"),(Str.ofString "high"),(Str.ofString "half"),(Str.ofString "last"),(Str.ofString "x"),(Str.ofString "fault")],lv:=λ_=>0,ow:=λ_=>0}
noncomputable def f3:Fn:=fnAt pw 13 [(Str.ofString "said"),(Str.ofString "due")]
noncomputable def m3:MS:=(.seq (.ite (.CI .Or (.cons (.cmp .NotEq (.item (.var 0) (.aL (.int 0))) (.item (.var 1) (.aL (.int 0)))) (.cons (.cmp .IsNot (.bi .type (.cons (.item (.var 0) (.aL (.int 1))) .nil)) (.bi .type (.cons (.item (.var 1) (.aL (.int 1))) .nil))) .nil))) (.seq (.ret (.aL (.bool false)))
  .skip) .skip)
  (.seq (.ret (.oC (.cmp .Is (.bi .type (.cons (.item (.var 1) (.aL (.int 1))) .nil)) (.tW "list")) (.cmp .Is (.item (.var 0) (.aL (.int 1))) (.item (.var 1) (.aL (.int 1)))) (.cmp .Eq (.item (.var 0) (.aL (.int 1))) (.item (.var 1) (.aL (.int 1))))))
  .skip))
noncomputable def e3:Ent:={f:=f3,m:=m3,xs:= [0,1],nt:= [(Str.ofString "said"),(Str.ofString "due")],lv:=λ_=>0,ow:=λ_=>0}
theorem qP{base:Cx}(h:base.bn=cR names):base.bn (Str.ofString "len")=some (.builtin "len"):=by rw[h];kernel_rfl
theorem tB{base:Cx}(h:base.bn=cR names):base.bn (Str.ofString "range")=some (.type "range"):=by rw[h];kernel_rfl
theorem HE{base:Cx}(h:base.bn=cR names):base.bn (Str.ofString "max")=some (.builtin "max"):=by rw[h];kernel_rfl
theorem HF{base:Cx}(h:base.bn=cR names):base.bn (Str.ofString "abs")=some (.builtin "abs"):=by rw[h];kernel_rfl
theorem yz{base:Cx}(h:base.bn=cR names):base.bn (Str.ofString "divmod")=some (.builtin "divmod"):=by rw[h];kernel_rfl
theorem qQ{base:Cx}(h:base.bn=cR names):base.bn (Str.ofString "type")=some (.type "type"):=by rw[h];kernel_rfl
theorem HG{base:Cx}(h:base.bn=cR names):base.bn (Str.ofString "int")=some (.type "int"):=by rw[h];kernel_rfl
theorem A7{base:Cx}(h:base.bn=cR names):base.bn (Str.ofString "str")=some (.type "str"):=by rw[h];kernel_rfl
theorem wU{base:Cx}(h:base.bn=cR names):base.bn (Str.ofString "list")=some (.type "list"):=by rw[h];kernel_rfl
theorem r0{base:Cx}(cX:base.bn=cR names)(sV:eN base f0)(ok:(base.of [] e0).Ok):pF base [] e0:=by
 have bJ:=qP cX
 have nH:=tB cX
 refine⟨by kernel_rfl,wB rfl (λ_ _ _ _ _=>rfl),sV,by kernel_rfl,rfl,?_⟩
 show bV _ _ _ m0 _
 unfold m0
 exact(av (Ai (cK (aD (f:= .range) ok nH rfl rfl (ae (aD (f:= .len) ok bJ rfl rfl (ae (af rfl rfl rfl) rfl ak) rfl rfl) rfl ak) rfl rfl)) rfl (λ_ _=>rfl) (.one rfl rfl) rfl (av (a6 rfl rfl rfl (ao (fJ ok ⟨(cK (af rfl rfl rfl)),λ_ _=>rfl,trivial,rfl,(eU rfl),(.one rfl rfl),(mY (aB (af rfl rfl rfl) (aJ (af rfl rfl rfl) (af rfl rfl rfl) (aT rfl) (λ_ _=>rfl)) rfl) eT),(tail_nil (af rfl rfl rfl) rfl rfl),rfl,rfl⟩) (fJ ok ⟨(cK (hJ (af rfl rfl rfl) (aT rfl) cS (fH (af rfl rfl rfl) (aT rfl) rfl) cS)),λ_ _=>rfl,trivial,rfl,(eU rfl),(.one rfl rfl),(mY (aB (af rfl rfl rfl) (aJ (af rfl rfl rfl) (af rfl rfl rfl) (aT rfl) (λ_ _=>rfl)) rfl) eT),(tail_nil (af rfl rfl rfl) rfl rfl),rfl,rfl⟩) (aT rfl) (aT rfl)) rfl (λ_ _=>rfl))
  (av (cH (aB (aD (f:= .len) ok bJ rfl rfl (ae (af rfl rfl rfl) rfl ak) rfl rfl) (af rfl rfl rfl) rfl) (av (dh (aJ (af rfl rfl rfl) (af rfl rfl rfl) (aT rfl) (λ_ _=>rfl)) rfl rfl)
  az) az)
  az)) trivial rfl)
  az)
theorem r1{base:Cx}(cX:base.bn=cR names)(sV:eN base f1)(ok:(base.of [e0] e1).Ok):pF base [e0] e1:=by
 have HH:=HE cX
 have A8:=HF cX
 have yA:=yz cX
 refine⟨by kernel_rfl,bind1 rfl (λ_ _ _ _=>rfl),sV,by kernel_rfl,rfl,?_⟩
 show bV _ _ _ m1 _
 unfold m1
 exact(av (a6 rfl rfl rfl (aD (f:= .max) ok HH rfl rfl (ae aq rfl (ae (ao (yk (aD (f:= .abs) ok A8 rfl rfl (ae (af rfl rfl rfl) rfl ak) rfl rfl) (aT rfl) (λ_=>⟨_,rfl⟩)) aq (aT rfl) (aT rfl)) rfl ak)) rfl rfl) rfl (λ_ _=>rfl))
  (av (Hd (.cons rfl rfl (.cons rfl rfl .nil)) rfl (aD (f:= .divmod) ok yA rfl rfl (ae (aD (f:= .abs) ok A8 rfl rfl (ae (af rfl rfl rfl) rfl ak) rfl rfl) rfl (ae (ao aq (af rfl rfl rfl) (aT rfl) (aT rfl)) rfl ak)) rfl rfl) rfl (λ_ _=>rfl) (λ_ _=>rfl))
  (av (cH (aB (ao (ao aq (af rfl rfl rfl) (aT rfl) (aT rfl)) (ao (af rfl rfl rfl) aq (aT rfl) (aT rfl)) (aT rfl) (aT rfl)) (ao aq (af rfl rfl rfl) (aT rfl) (aT rfl)) rfl) (av (G6 rfl rfl rfl rfl rfl aq (.inl rfl))
  az) az)
  (av (cH (aB (ao (af rfl rfl rfl) (ao aq (af rfl rfl rfl) (aT rfl) (aT rfl)) (aT rfl) (aT rfl)) (ao aq aq (aT rfl) (aT rfl)) rfl) (av (dh (bN (ae a8 rfl (ae a8 rfl ak)) rfl) rfl rfl)
  az) az)
  (av (dh (bN (ae a8 rfl (ae (ao (ao (ao (af rfl rfl rfl) (ao aq (af rfl rfl rfl) (aT rfl) (aT rfl)) (aT rfl) (aT rfl)) (fG (aB (af rfl rfl rfl) aq rfl) (zU aq) aq) (aT rfl) (aT rfl)) aq (aT rfl) (aT rfl)) rfl ak)) rfl) rfl rfl)
  az)))))
theorem r2{base:Cx}(cX:base.bn=cR names)(sV:eN base f2)(ok:(base.of [e1,e0] e2).Ok):pF base [e1,e0] e2:=by
 have bJ:=qP cX
 have cZ:=qQ cX
 have qR:=HG cX
 have qS:=A7 cX
 refine⟨by kernel_rfl,wB rfl (λ_ _ _ _ _=>rfl),sV,by kernel_rfl,rfl,?_⟩
 show bV _ _ _ m2 _
 unfold m2
 exact(av (cH (aB (af rfl rfl rfl) (bF ak rfl) rfl) (av (dh (ao (bF (ae (bN (ae a8 rfl (ae a8 rfl ak)) rfl) rfl ak) rfl) (ao aq (aD (f:= .len) (sX ok) bJ rfl rfl (ae (af rfl rfl rfl) rfl ak) rfl rfl) (aT rfl) (aT rfl)) (aT rfl) (aT rfl)) rfl rfl)
  az) az)
  (av (cH (aB (fJ ok ⟨(cK (af rfl rfl rfl)),λ_ _=>rfl,trivial,rfl,(eU rfl),(.one rfl rfl),(mY (aB (aD (f:= .type) ok cZ rfl rfl (ae (af rfl rfl rfl) rfl ak) rfl rfl) (aD (f:= .type) ok cZ rfl rfl (ae (aJ (af rfl rfl rfl) aq (aT rfl) (λ_ _=>rfl)) rfl ak) rfl rfl) rfl) eT),(tail_nil (af rfl rfl rfl) rfl rfl),rfl,rfl⟩) (bF ak rfl) rfl) (av (dh (ao (bF (ae (bN (ae a8 rfl (ae dR rfl ak)) rfl) rfl ak) rfl) (ao aq (aD (f:= .len) (sX ok) bJ rfl rfl (ae (af rfl rfl rfl) rfl ak) rfl rfl) (aT rfl) (aT rfl)) (aT rfl) (aT rfl)) rfl rfl)
  az) az)
  (av (a6 rfl rfl rfl (kt (f:=0) ok rfl rfl (ae (af rfl rfl rfl) rfl (ae (ao (ao (aD (f:= .len) ok bJ rfl rfl (ae (af rfl rfl rfl) rfl ak) rfl rfl) aq (aT rfl) (aT rfl)) aq (aT rfl) (aT rfl)) rfl ak)) rfl rfl) rfl (λ_ _=>rfl))
  (av (a6 rfl rfl rfl (kt (f:=0) ok rfl rfl (ae (af rfl rfl rfl) rfl (ae (ao (aD (f:= .len) ok bJ rfl rfl (ae (af rfl rfl rfl) rfl ak) rfl rfl) aq (aT rfl) (aT rfl)) rfl ak)) rfl rfl) rfl (λ_ _=>rfl))
  (av (a6 rfl rfl rfl (bN (ae a8 rfl (ae (af rfl rfl rfl) rfl ak)) rfl) rfl (λ_ _=>rfl))
  (av (cH (aB (ao (aD (f:= .len) ok bJ rfl rfl (ae (af rfl rfl rfl) rfl ak) rfl rfl) aq (aT rfl) (aT rfl)) aq rfl) (av (a6 rfl rfl rfl (fG (aB (aD (f:= .type) ok cZ rfl rfl (ae (af rfl rfl rfl) rfl ak) rfl rfl) (ko ok qR rfl rfl) rfl) (call_one (f:=1) ok rfl rfl (pq (ao (af rfl rfl rfl) (af rfl rfl rfl) (aT rfl) (aT rfl)) (λ_=>rfl)) rfl rfl) (bN (ae a8 rfl (ae dR rfl ak)) rfl)) rfl (λ_ _=>rfl))
  az) az)
  (av (a6 rfl rfl rfl (bN (ae a8 rfl (ae (mQ (aD (f:= .type) ok cZ rfl rfl (ae (af rfl rfl rfl) rfl ak) rfl rfl) (ko ok qS rfl rfl) rfl) rfl ak)) rfl) rfl (λ_ _=>rfl))
  (av (cH (aB (aD (f:= .type) ok cZ rfl rfl (ae (af rfl rfl rfl) rfl ak) rfl rfl) (ko ok qR rfl rfl) rfl) (av (a6 rfl rfl rfl (call_one (f:=1) ok rfl rfl (pq (ao aq (af rfl rfl rfl) (aT rfl) (aT rfl)) (λ_=>rfl)) rfl rfl) rfl (λ_ _=>rfl))
  az) (av (cH (pv (jN (aB (aD (f:= .type) ok cZ rfl rfl (ae (af rfl rfl rfl) rfl ak) rfl rfl) (ko ok qS rfl rfl) rfl) (jN (aB a8 (af rfl rfl rfl) rfl) wm))) (av (a6 rfl rfl rfl (bN (ae a8 rfl (ae (fG (aB a8 (af rfl rfl rfl) rfl) (ao (aD (f:= .int) ok qR rfl rfl (ae (hJ (af rfl rfl rfl) (aT rfl) cS (fH (zU aq) (aT rfl) rfl) cS) rfl ak) rfl rfl) wF (aT rfl) (aT rfl)) (ao (aD (f:= .int) ok qR rfl rfl (ae (af rfl rfl rfl) rfl ak) rfl rfl) aq (aT rfl) (aT rfl))) rfl ak)) rfl) rfl (λ_ _=>rfl))
  az) az)
  az))
  (av (dh (ao (bF (ae (bN (ae a8 rfl (ae (af rfl rfl rfl) rfl ak)) rfl) rfl (ae (bN (ae a8 rfl (ae (af rfl rfl rfl) rfl ak)) rfl) rfl (ae (af rfl rfl rfl) rfl ak))) rfl) (fJ (sX ok) ⟨(cK (af rfl rfl rfl)),λ_ _=>rfl,trivial,rfl,(eU rfl),(.one rfl rfl),eT,(tail_nil (fG (aB (af rfl rfl rfl) hH rfl) (af rfl rfl rfl) (af rfl rfl rfl)) rfl rfl),rfl,rfl⟩) (aT rfl) (aT rfl)) rfl rfl)
  az)))))))))
theorem r3{base:Cx}(cX:base.bn=cR names)(sV:eN base f3)(ok:(base.of [e2,e1,e0] e3).Ok):pF base [e2,e1,e0] e3:=by
 have cZ:=qQ cX
 have mj:=wU cX
 refine⟨by kernel_rfl,wB rfl (λ_ _ _ _ _=>rfl),sV,by kernel_rfl,rfl,?_⟩
 show bV _ _ _ m3 _
 unfold m3
 exact(av (cH (pv (jN (aB (aJ (af rfl rfl rfl) aq (aT rfl) (λ_ _=>rfl)) (aJ (af rfl rfl rfl) aq (aT rfl) (λ_ _=>rfl)) rfl) (jN (aB (aD (f:= .type) ok cZ rfl rfl (ae (aJ (af rfl rfl rfl) aq (aT rfl) (λ_ _=>rfl)) rfl ak) rfl rfl) (aD (f:= .type) ok cZ rfl rfl (ae (aJ (af rfl rfl rfl) aq (aT rfl) (λ_ _=>rfl)) rfl ak) rfl rfl) rfl) wm))) (av (dh dR rfl rfl)
  az) az)
  (av (dh (fG (aB (aD (f:= .type) (sX ok) cZ rfl rfl (ae (aJ (af rfl rfl rfl) aq (aT rfl) (λ_ _=>rfl)) rfl ak) rfl rfl) (ko (sX ok) mj rfl rfl) rfl) (mQ (aJ (af rfl rfl rfl) aq (aT rfl) (λ_ _=>rfl)) (aJ (af rfl rfl rfl) aq (aT rfl) (λ_ _=>rfl)) rfl) (mQ (aJ (af rfl rfl rfl) aq (aT rfl) (λ_ _=>rfl)) (aJ (af rfl rfl rfl) aq (aT rfl) (λ_ _=>rfl)) rfl)) rfl rfl)
  az))
theorem ch{base:Cx}(cX:base.bn=cR names)(h0:eN base f0)(h1:eN base f1)(h2:eN base f2)(h3:eN base f3):Chain base [e3,e2,e1,e0]:=
 .cons (of_decide_eq_true (by kernel_rfl)) (r3 cX h3) (.cons (of_decide_eq_true (by kernel_rfl)) (r2 cX h2) (.cons (of_decide_eq_true (by kernel_rfl)) (r1 cX h1) (.cons (of_decide_eq_true (by kernel_rfl)) (r0 cX h0) .nil)))
end Mine.Internal.dU
end
section
open PySem PySem.W PyProof.Rows
namespace Mine.Internal
noncomputable def ip(P:Addr)(pos:Pos)(qual:Str)(h hG:Heap):Prop:= ∃ps,h.get? P=some (tabObj ps)∧TriplesOk ps.toList∧(codeAmong pos ps.toList=none∨ ∃cd,codeAmong pos ps.toList=some (.ref cd)∧hG.CodeRec (.ref cd) qual)
noncomputable def iq(h hG h':Heap):Heap:=mask h' λb=>h.get? b=none∨ ∃o,hG.get? b=some o
theorem iR(ps:Array Value):cQ (tabObj ps):=bx rfl
theorem fP{h hG h':Heap}{b:Addr}(e:h.get? b=none):(iq h hG h').get? b=h'.get? b:=dv (.inl e)
theorem yB{h hG h':Heap}{b:Addr}{o:Obj}(e:hG.get? b=some o):(iq h hG h').get? b=h'.get? b:=dv (.inr ⟨o,e⟩)
theorem yC{h hG h':Heap}:Ext (iq h hG h') h':=λ_ _ e=>(eV e).2
theorem yD{h hG h':Heap}{b:Addr}{o:Obj}(e1:h.get? b=some o)(e2:hG.get? b=none):(iq h hG h').get? b=none:=cW λq=>by
 rcases q with q|⟨_,q⟩
 ·replace q:=e1▸q
  cases q
 ·replace q:=e2▸q
  cases q
theorem CodeRec.move{h h':Heap}{cd:Value}{q:Str}(x:h.CodeRec cd q)(k: ∀a o,cd= .ref a→h.get? a=some o→h'.get? a=some o):h'.CodeRec cd q:=by
 refine CT x λc oc vs t OH h1 h2 h3=>?_
 subst OH
 exact⟨c,oc,vs,t,rfl,k c oc rfl h1,h2,h3⟩
section
variable{c:Cx}
theorem A9{f:Fn}{wn:Str}{params:Arguments}{body:Expr}{scope:Scope}{eO nJ:Pos}{mg:Str→Option Value}{cc P ag:Addr}(hf:bU f=true)(cn:dX f)(iZ:f.ps= [wn])(kw:f.scope.names.lookup wn=some .cell)
  (fL:f.body= [.Return (some (.Lambda params body scope eO)) nJ]) (HI: ∀env:Env,defaultsOf params env=([],[]))
  (hY: ∀x∈scope.names,x.2= .free→x.1=wn) (Ba: ∀env:Env,ck env scope.names []= [(wn,(env.cells.lookup wn).getD 0)]) (VM:mainGlobals≠P)
  {A:Around} {s:Shared} {vw:Value} {Q:Value→Shared→Prop} {E:Value→Shared→Prop} (cm:jo (c.k+1) A) (cf:s.heap.NoLimit) (gg:FnAt f ag s.heap) (Bb: ∀o fd,s.heap.get? ag=some o→o.data= .func fd→fd.code= .ref cc) (C:CodeHd s.heap cc P) (hg:s.heap.Ns mainGlobals mg) (hb:s.heap.BuiltinsAt mg P)
  {hG:Heap} (RF:Ext hG s.heap) (T:ip P eO (f.name++ ".<locals>."++ "<lambda>") s.heap hG)
  (hQ: ∀fa h' tk,(∀b o,b≠P→s.heap.get? b=some o→h'.get? b=some o)→wI (iq s.heap hG h') fa "<lambda>" (f.name++ ".<locals>."++ "<lambda>") params body scope wn vw→ip P eO (f.name++ ".<locals>."++ "<lambda>") h' (iq s.heap hG h')→Q (.ref fa) {s with heap:=h',toks:=tk}):
  wpAny (model c.prog c.w) A (call (.ref ag) [vw]) Q E s:=by
 refine aO λXq kq=>?_
 refine eh gg λo pm cd doc ho hd CL=>?_
 have Z1:cd= .ref cc:=Bb o _ ho hd
 subst Z1
 have oE:=hf
 simp only[bU,Bool.and_eq_true,beq_iff_eq,Bool.not_eq_true',decide_eq_true_eq]at oE
 refine aX oE λOI h5=>?_
 obtain⟨⟨⟨⟨⟨h1,Aa⟩,qA⟩,h2⟩,h3⟩,h4⟩:=OI
 refine kq ?_
 have hlen: [vw].length=f.ps.length:=by rw[iZ];rfl
 refine wpAny_call (codeAny_call_cells (fd:=Calls.docDef f.name f.params f.body f.scope pm (.ref cc) doc) (body:=f.body) (fu cm.depth) ho hd cf CL rfl (cn pm (.ref cc) doc [vw] hlen) rfl (λx hx=>?_) (λs₁ ix=>?_) Aa qA h1)
 ·have hm:x.1∈f.ps:=(List.of_mem_zip (show(x.1,x.2)∈f.ps.zip [vw]from hx)).1
  have:=List.all_eq_true.mp h5 x.1 hm
  simp only[Bool.or_eq_true,beq_iff_eq]at this
  rcases this with h|h
  ·exact .inl h
  ·refine ai (cL f.scope.names (s.heap.objs.size+1) [] (mem_of_lookup h)) λb q1 _=>?_
   exact .inr ⟨h,by rw[show(Calls.docDef f.name f.params f.body f.scope pm (.ref cc) doc).scope=f.scope from rfl,q1];rfl⟩
 have e1:(callEnvC (Calls.docDef f.name f.params f.body f.scope pm (.ref cc) doc) s.heap.objs.size ag).scope=f.scope:=rfl
 have e2:(callEnvC (Calls.docDef f.name f.params f.body f.scope pm (.ref cc) doc) s.heap.objs.size ag).globals=mainGlobals:=rfl
 have e3:(callEnvC (Calls.docDef f.name f.params f.body f.scope pm (.ref cc) doc) s.heap.objs.size ag).code= .ref cc:=rfl
 have e4:(callEnvC (Calls.docDef f.name f.params f.body f.scope pm (.ref cc) doc) s.heap.objs.size ag).qual=f.name++ ".<locals>.":=rfl
 have e5:(callEnvC (Calls.docDef f.name f.params f.body f.scope pm (.ref cc) doc) s.heap.objs.size ag).cells=cellsFrom (s.heap.objs.size+1) f.scope.names []:=rfl
 generalize callEnvC (Calls.docDef f.name f.params f.body f.scope pm (.ref cc) doc) s.heap.objs.size ag=env at ix e1 e2 e3 e4 e5 ⊢
 have hk: ∀n,env.kindOf n=f.scope.names.lookup n:=λn=>by unfold Env.kindOf;rw[e1]
 refine aO λXq kq=>?_
 refine cg ix.toInCall.same λh' ua OJ=>?_
 subst OJ
 have x1:Ext s.heap h':=ix.toInCall.keep
 refine ai (cL f.scope.names (s.heap.objs.size+1) [] (mem_of_lookup kw)) λk q1 q2=>?_
 replace q1:=e5.symm▸q1
 have gj:h'.IsCell k (some vw):=by
  have:=ix.cell wn k q1
  rw[iP _ _ (by rw[iZ];show [wn].Nodup;simp) (by rw[iZ];exact .head _) (by rw[hk,kw];decide)]at this
  exact this
 have z4:closureFor scope env=pure [(wn,k)]:=by
  rw[fj λx hx hf=>by rw[hY x hx hf,q1];rfl,Ba,q1];rfl
 have C1:CodeHd h' cc P:=C.keeps x1
 refine CR hb λbm ob b1 b2 b3 b4 b5 b6=>?_
 have Dw:h'.BuiltinsAt mg P:=⟨bm,ob,b1,b2,b3,b4,x1 _ _ b5,b6⟩
 refine bK T λps t1 t2 t3=>?_
 refine kq ?_
 have Z2:k≠P:=λe=>by
  refine ai gj λo' eu fo=>?_
  rw[e,x1 _ _ t1]at eu
  obtain rfl:=Option.some.inj eu
  cases fo
 rw[fL]
 refine wpAny_execs_cons (wpAny_Return_some (kla_eval (HI env) ?_))
 rw[e4]
 have VN:s.heap.objs.size≤h'.objs.size:=Nat.le_trans ix.toInCall.fresh (Nat.le_of_lt ix.toInCall.ns.lt)
 have nk:s.heap.get? k=none:=Heap.get?_none_of_le (Nat.le_trans (Nat.le_succ _) q2)
 rcases t3 with t3|⟨yE,t3,t4⟩
 ·refine kla_makeFunction (s:={s with heap:=h',toks:=ua}) (ps:=ps) z4 e2 (hg.keeps x1) e3 C1 (x1 _ _ t1) t2 t3 VM Dw λc' OK h2 tk hx gf cy D6 Jb=>?_
  have k2: ∀b o,b≠P→s.heap.get? b=some o→h2.get? b=some o:=λb o hb e=>hx b o hb (x1 b o e)
  have nc:s.heap.get? c'=none:=Heap.get?_none_of_le (Nat.le_trans VN gf)
  have FH:(iq s.heap hG (h2.push (kla_obj (Str.ofString "<lambda>") (f.name++ ".<locals>."++ "<lambda>") params body scope [(wn,k)] ((mg "__name__").getD .none) c' OK))).CodeRec (.ref c') (f.name++ ".<locals>."++ "<lambda>"):=
   CodeRec.move (D6.keeps (Ext.push _ _)) λa o e1 e2=>by cases e1;exact(fP nc).trans e2
  refine(hQ _ _ tk (λb o hb e=>Heap.get?_push_of_some _ (k2 b o hb e)) ⟨_,_,OK,k,(fP (Heap.get?_none_of_le (Nat.le_trans VN (Nat.le_trans gf (Nat.le_of_lt cy))))).trans (Heap.get?_push_size _ rfl),FH,?_⟩
   ⟨_,Ext.push _ _ _ _ Jb,by rw[Array.toList_append];exact TriplesOk_snoc _ _ _ _ t2,.inr ⟨c',by rw[Array.toList_append];exact codeAmong_snoc _ t2 t3,FH⟩⟩)
  refine ai gj λo' eu fo=>?_
  exact⟨o',(fP nk).trans (Heap.get?_push_of_some _ (hx k o' Z2 eu)),fo⟩
 ·refine kla_makeFunctionHit (s:={s with heap:=h',toks:=ua}) (ps:=ps) z4 e2 (hg.keeps x1) e3 C1 (x1 _ _ t1) t2 t3 Dw λOK h2 tk hx gf=>?_
  have D6:(iq s.heap hG (h2.push {cls:= .type "function",data:= .func (kla_fn (Str.ofString "<lambda>") (f.name++ ".<locals>."++ "<lambda>") params body scope [(wn,k)] ((mg "__name__").getD .none) (.ref yE) OK)})).CodeRec (.ref yE) (f.name++ ".<locals>."++ "<lambda>"):=
   CodeRec.move t4 λa o _ e2=>(yB e2).trans (Heap.get?_push_of_some _ (hx _ _ (x1 _ _ (RF _ _ e2))))
  refine(hQ _ _ tk (λb o hb e=>Heap.get?_push_of_some _ (hx _ _ (x1 b o e))) ⟨_,_,OK,k,(fP (Heap.get?_none_of_le (Nat.le_trans VN gf))).trans (Heap.get?_push_size _ rfl),D6,?_⟩
   ⟨_,Ext.push _ _ _ _ (hx _ _ (x1 _ _ t1)),t2,.inr ⟨yE,t3,D6⟩⟩)
  refine ai gj λo' eu fo=>?_
  exact⟨o',(fP nk).trans (Heap.get?_push_of_some _ (hx k o' eu)),fo⟩
end
end Mine.Internal
end
section
open PySem PySem.W PyProof.Rows
namespace Mine.Internal
noncomputable def gd(P D' L:Addr)(W:Addr→Prop)(h:Heap):Heap:=mask h λb=>b≠P∧b≠D'∧ ¬W b∧b≠L
theorem vh{P D' L:Addr}{W:Addr→Prop}{h:Heap}:Ext (gd P D' L W h) h:=λ_ _ e=>(eV e).2
theorem wV{P D' L:Addr}{W:Addr→Prop}{h:Heap}{b:Addr}(h1:b≠P)(h2:b≠D')(h3: ¬W b)(h4:b≠L):(gd P D' L W h).get? b=h.get? b:=dv ⟨h1,h2,h3,h4⟩
theorem FI{P D' L:Addr}{W:Addr→Prop}{h h':Heap}(k:Ext (gd P D' L W h) h'):Ext (gd P D' L W h) (gd P D' L W h'):=λb o e=>(dv (eV e).1).trans (k b o e)
theorem HJ{P D' L:Addr}{W:Addr→Prop}{h:Heap}:(gd P D' L W h).get? P=none:=cW λq=>q.1 rfl
theorem HK{P D' L:Addr}{W:Addr→Prop}{h:Heap}:(gd P D' L W h).get? D'=none:=cW λq=>q.2.1 rfl
theorem HL{P D' L:Addr}{W:Addr→Prop}{h:Heap}:(gd P D' L W h).get? L=none:=cW λq=>q.2.2.2 rfl
theorem D7{P D' L:Addr}{W:Addr→Prop}{h:Heap}{b:Addr}(hb:W b):(gd P D' L W h).get? b=none:=cW λq=>q.2.2.1 hb
noncomputable def ir(R:Addr→D→Prop):List Addr→List D→Prop
 | [],ds=>ds= []
 |a::as,ds=> ∃d tX,ds=d::tX∧R a d∧ir R as tX
theorem ir.imp{R R':Addr→D→Prop}(k: ∀a d,R a d→R' a d): ∀{as:List Addr} {ds:List D},ir R as ds→ir R' as ds
 | [],_,h=>h
 |_::_,_,⟨d,tX,e,r,h⟩=>⟨d,tX,e,k _ _ r,h.imp k⟩
theorem ir.snoc{R:Addr→D→Prop}{a:Addr}{d:D}(r:R a d): ∀{as:List Addr} {ds:List D},ir R as ds→ir R (as++ [a]) (ds++ [d])
 | [],_,h=>by rw[show _=([]:List D)from h];exact⟨d,[],rfl,r,rfl⟩
 |_::_,_,⟨d',tX,e,r',h⟩=>⟨d',tX++ [d],by rw[e];rfl,r',h.snoc r⟩
theorem ir.length{R:Addr→D→Prop}: ∀{as:List Addr} {ds:List D},ir R as ds→as.length=ds.length
 | [],_,h=>by rw[show _=([]:List D)from h];rfl
 |_::_,_,⟨_,_,e,_,h⟩=>by rw[e,List.length_cons,List.length_cons,h.length]
theorem ir.get{R:Addr→D→Prop}: ∀{as:List Addr} {ds:List D} {i:Nat} {a:Addr},ir R as ds→as[i]? =some a→ ∃d,ds[i]? =some d∧R a d
 | [],_,_,_,_,e=>by simp at e
 |a::as,_,0,a',⟨d,tX,e,r,h⟩,e'=>by simp at e';subst e';subst e;exact⟨d,rfl,r⟩
 |a::as,_,i+1,a',⟨d,tX,e,r,h⟩,e'=>by
  subst e
  rw[List.getElem?_cons_succ]at e'
  refine ai (h.get e') λd' h1 h2=>?_
  exact⟨d',by rw[List.getElem?_cons_succ];exact h1,h2⟩
noncomputable def lU(qual:Str)(params:Arguments)(body:Expr)(scope:Scope)(wn:Str)(h:Heap)(a:Addr)(d:D):Prop:= ∃vw,wI h a "<lambda>" qual params body scope wn vw∧aZ (λ_=>True) h d vw
theorem lU.ext{qual:Str}{params:Arguments}{body:Expr}{scope:Scope}{wn:Str}{h h':Heap}{a:Addr}{d:D}(k:Ext h h')(x:lU qual params body scope wn h a d):lU qual params body scope wn h' a d:=by
 refine ai x λvw OL r=>?_
 obtain⟨pm,qK,ct,c,h1,h2,h3⟩:=OL
 exact⟨vw,⟨pm,qK,ct,c,k _ _ h1,h2.keeps k,h3.keeps k⟩,r.ext k⟩
theorem lU.move{qual:Str}{params:Arguments}{body:Expr}{scope:Scope}{wn:Str}{h h':Heap}{a:Addr}{d:D}(k: ∀b o,(∀es n,o.data= .dict es n→ ¬StrKeys es)→h.get? b=some o→h'.get? b=some o)(x:lU qual params body scope wn h a d):lU qual params body scope wn h' a d:=by
 obtain⟨vw,⟨pm,qK,ct,c,h1,⟨cd,oc,vs,t,e,h2,h3,h4⟩,⟨ok,h5,h6⟩⟩,r⟩:=x
 exact⟨vw,⟨pm,qK,ct,c,k _ _ (λ_ _ q=>by cases q) h1,⟨cd,oc,vs,t,e,k _ _ (λ_ _ q=>by rw[h3]at q;cases q) h2,h3,h4⟩,ok,k _ _ (λ_ _ q=>by rw[h6]at q;cases q) h5,h6⟩,
  r.dat λb o _ hd e=>⟨k b o (λes n q hs=>bP q hs hd) e,trivial⟩⟩
theorem ip.to{P:Addr}{pos:Pos}{qual:Str}{h h' hG XJ:Heap}(x:ip P pos qual h hG)(k: ∀ps,h.get? P=some (tabObj ps)→h'.get? P=some (tabObj ps))(kG:Ext hG XJ):ip P pos qual h' XJ:=by
 refine bK x λps h1 h2 h3=>?_
 exact⟨ps,k _ h1,h2,h3.imp id λ⟨cd,e,r⟩=>⟨cd,e,r.keeps kG⟩⟩
structure vi(c:Cx)(f:Fn)(cP wn:Str)(params:Arguments)(body:Expr)(scope:Scope)(eO nJ:Pos)(cc P ag:Addr):Prop where
 hf:bU f=true
 cn:dX f
 iZ:f.ps= [wn]
 kw:f.scope.names.lookup wn=some .cell
 fL:f.body= [.Return (some (.Lambda params body scope eO)) nJ]
 HI: ∀env:Env,defaultsOf params env=([],[])
 hY: ∀x∈scope.names,x.2= .free→x.1=wn
 Ba: ∀env:Env,ck env scope.names []= [(wn,(env.cells.lookup wn).getD 0)]
 VM:mainGlobals≠P
 gg:FnAt f ag c.hT
 Bb: ∀o fd,c.hT.get? ag=some o→o.data= .func fd→fd.code= .ref cc
 C:CodeHd c.hT cc P
 hb:c.hT.BuiltinsAt c.mg P
 lim:c.hT.NoLimit
 nP:c.hT.get? P=none
 gn:c.mg cP=some (.ref ag)
noncomputable abbrev Fn.lq(f:Fn):Str:=f.name++ ".<locals>."++ "<lambda>"
section
variable{c:Cx}
theorem vi.go{f:Fn}{cP wn:Str}{params:Arguments}{body:Expr}{scope:Scope}{eO nJ:Pos}{cc P ag:Addr}(F:vi c f cP wn params body scope eO nJ cc P ag)(ok:c.Ok)
  {A:Around} {s:Shared} {vw:Value} {Q:Value→Shared→Prop} {E:Value→Shared→Prop} (cm:jo 1 A) (top:Ext c.hT s.heap) {hG:Heap} (RF:Ext hG s.heap) (T:ip P eO f.lq s.heap hG)
  (hQ: ∀fa h' tk,(∀b o,b≠P→s.heap.get? b=some o→h'.get? b=some o)→wI (iq s.heap hG h') fa "<lambda>" f.lq params body scope wn vw→ip P eO f.lq h' (iq s.heap hG h')→Q (.ref fa) {s with heap:=h',toks:=tk}):
  wpAny (model c.prog c.w) A (call (.ref ag) [vw]) Q E s:=by
 refine aO λXq kq=>?_
 refine CR F.hb λbm ob b1 b2 b3 b4 b5 b6=>?_
 refine kq ?_
 exact A9 (c:={c with k:=0}) F.hf F.cn F.iZ F.kw F.fL F.HI F.hY F.Ba F.VM cm (F.lim.keeps top) (F.gg.keeps top) (λo fd e h=>by
  refine Gd F.gg λo' _ _ _ e' _=>?_
  have:=top _ _ e'
  replace this:=e▸this
  obtain rfl:=Option.some.inj this
  exact F.Bb o fd e' h) (F.C.keeps top) (ok.g.keeps top) ⟨bm,ob,b1,b2,b3,b4,top _ _ b5,b6⟩ RF T hQ
theorem Act.RG{A:Around}{env:Env}{s:Shared}{σ:ah}{K C:Addr→Prop}{asg:Str→Bool}(p:Act c A env s σ K C asg noOwn){hG:Heap}(x:Ext hG s.heap)(hL:hG.get? env.locals=none)(ha: ∀x,asg x=true→env.kindOf x=some .local):Act (c.at hG) A env s σ K C asg noOwn where
 room:=p.room
 fn:=p.fn
 gl:=p.gl
 bl:=p.bl
 top:=x
 hK:=p.hK
 hC:=p.hC
 cell:=p.cell
 apart:=p.apart
 nodup:=p.nodup
 loc:=p.loc
 hL:=hL
 dS:=λx h=> .inl (ha x h)
 var:=p.var
 cO:=λ_ _ h=>by cases h
 eC:=p.eC
theorem Act.bare{A:Around}{env:Env}{s:Shared}{σ:ah}{K K' C C':Addr→Prop}{asg:Str→Bool}{own:Nat→Option Addr}(p:Act c A env s σ K C asg own)(hK: ∀a,s.heap.get? a=none→K' a)(hC: ∀a,s.heap.get? a=none→C' a):Act c A env s (λ_=>none) K' C' asg noOwn where
 room:=p.room
 fn:=p.fn
 gl:=p.gl
 bl:=p.bl
 top:=p.top
 hK:=hK
 hC:=hC
 cell:=p.cell
 apart:=p.apart
 nodup:=p.nodup
 loc:=p.loc
 hL:=p.hL
 dS:=p.dS
 var:=λ_ _ _ h=>by cases h
 cO:=λ_ _ h=>by cases h
 eC:=λ_ _ _ h=>by cases h
end
end Mine.Internal
end
section
open PySem PySem.W PyProof.Rows
namespace Mine.Internal
section
variable{c:Cx}{sc:Scope}
inductive OM(c:Cx)(asg:Str→Bool)(f:Fn)(wn:Str)(params:Arguments)(body:Expr)(scope:Scope)(eO:Pos)(P:Addr)(hG:Heap)(A:Around)(env:Env)(s:Shared)(D':Addr)(W:Addr→Prop)(St:Nat→Heap→Prop)(items:List D):Nat→Shared→Prop
 |mk (i:Nat) (h:Heap) (tk:Nat) (n':Nat) (cs:List Addr) (jr:i≤items.length) (gD:St i h) (p:Act (c.at hG) A env {s with heap:=h,toks:=tk} (λ_=>none) (λb=>b≠D'∧ ¬W b∧b≠P) (λ_=>True) asg noOwn)
   (ho:h.get? D'=some (seqObj "list" (cs.map Value.ref).toArray n')) (hl:ir (lU f.lq params body scope wn (gd P D' env.locals W h)) cs (items.take i)) (T:ip P eO f.lq h (gd P D' env.locals W h)):OM c asg f wn params body scope eO P hG A env s D' W St items (items.length+1-i) {s with heap:=h,toks:=tk}
theorem vj{l:List D}{i:Nat}{d:D}(h:l[i]? =some d):l.take (i+1)=l.take i++ [d]:=by
 rw[List.take_add_one,h];rfl
theorem Bc{asg:Str→Bool}{f:Fn}{cP wn:Str}{params:Arguments}{body:Expr}{scope cs:Scope}{eO nJ p1 p2 p3 p4 bG:Pos}{iter:Expr}{cc P ag:Addr}{iw:Nat}(F:vi c f cP wn params body scope eO nJ cc P ag)(ok:c.Ok)(hk:1≤c.k)
  {hG h₁:Heap} {A:Around} {env:Env} {s:Shared} {I D':Addr} {W:Addr→Prop} {items:List D} {n:Nat} {R:Result→Shared→Prop}
  (w:cT c.prog c.w A (λb=>b≠P∧True) (λb=>b≠D'∧ ¬W b∧b≠P) h₁ I W jP 0 items s.heap) (hx:Ext c.hT hG) (gH:env.scope=sc) (ha:asg wn=true) (ON:c.nt[iw]? =some wn) (gk:sc.names.lookup cP=some .globalImplicit) (lk:sc.names.lookup wn=some .local) (o1:aR cP=true) (o2:aR wn=true)
  (sS: ∀x,asg x=true→env.kindOf x=some .local) (p:Act (c.at hG) A env s (λ_=>none) (λb=>b≠D'∧ ¬W b∧b≠P) (λ_=>True) asg noOwn) (Z3:hG.get? P=none) (Z4:hG.get? D'=none) (Z5: ∀b,W b→hG.get? b=none)
  (ho:s.heap.get? D'=some (seqObj "list" #[] n)) (T:ip P eO f.lq s.heap (gd P D' env.locals W s.heap)) (xX: ¬W D') (RH:P≠D') (Jh: ¬W P)
  (hR: ∀h tk n' cs,Act (c.at hG) A env {s with heap:=h,toks:=tk} (λ_=>none) (λb=>b≠D'∧ ¬W b∧b≠P) (λ_=>True) asg noOwn→h.get? D'=some (seqObj "list" (cs.map Value.ref).toArray n')→ir (lU f.lq params body scope wn (gd P D' env.locals W h)) cs items→
   ip P eO f.lq h (gd P D' env.locals W h)→(∀b,W b→ ∃o,h.get? b=some o∧cQ o)→ ∀h' je,(∀b o,¬W b→h.get? b=some o→h'.get? b=some o)→R (.ok .next) {s with heap:=h',toks:=je}):
  codeAny (model c.prog c.w) A (.compLoop (.ListComp (.Call (.Name cP p1) [.Name wn p2] [] p3) [⟨.Name wn p4,iter,[],0⟩] cs bG) 0 (.ref I) (.ref D') env) R s:=by
 refine aO λXq kq=>?_
 refine da w λSt Md w gD=>?_
 refine kq ?_
 have eS: ∀g∈ [(⟨.Name wn p4,iter,[],0⟩:Comprehension)],g.is_async=0:=λg hg=>by cases List.mem_singleton.mp hg;rfl
 refine pC rfl eS (OM c asg f wn params body scope eO P hG A env s D' W St items) ?_ (items.length+1) (.mk 0 s.heap s.toks n [] (Nat.zero_le _) gD p ho rfl T)
 intro k s' E hh
 induction hh with|mk i h tk n' RJ jr gD p ho hl T=>
 by_cases cy:i<items.length
 ·refine ai (qv cy) λd hd _=>?_
  refine bK T λps tp Z6 Z7=>?_
  refine w.item i _ _ E d gD hd (λb e=>⟨λh'=>(by subst h';rw[show h.get? b=none from e]at tp;cases tp),trivial⟩) λv h1 t1 G0 k1 r1 MB=>?_
  refine au p.loc λmL XM=>?_
  have DL:D'≠env.locals:=λe=>by
   refine gO XM λo es ep h2 h3 _=>?_
   rw[←e,show h.get? D'=some _ from ho]at h2
   obtain rfl:=Option.some.inj h2
   cases h3
  have PL:P≠env.locals:=λe=>by
   refine gO XM λo es ep h2 h3 _=>?_
   rw[←e,show h.get? P=some _ from tp]at h2
   obtain rfl:=Option.some.inj h2
   cases h3
  have kG:Ext hG (gd P D' env.locals W h):=λb o e=>(wV (λq=>by rw[q,Z3]at e;cases e) (λq=>by rw[q,Z4]at e;cases e) (λq=>by rw[Z5 b q]at e;cases e) (λq=>by rw[q,show hG.get? env.locals=none from p.hL]at e;cases e)).trans (p.top b o e)
  have q0:=p.RG (hG:=gd P D' env.locals W h) vh HL sS
  have D1:=k1 _ _ xX ho
  have P1:=k1 _ _ Jh tp
  have Dz:Off env (λb=>b≠D'∧ ¬W b∧b≠P) noOwn (gd P D' env.locals W h) h h1:=⟨λb o hb _ e=>k1 b o hb.2.1 e,λb o dt e _=>k1 b o (λhw=>by obtain⟨o',e',d'⟩:=w.live i h b gD hw;rw[e]at e';cases e';exact dt d') e,
   λb o e=>k1 b o (λhw=>by rw[D7 hw]at e;cases e) (q0.top b o e),λ_ _ _ h=>by cases h⟩
  have z7: ∀a,h1.get? a=none→h.get? a=none:=λa e=>by
   cases e':h.get? a with
   |none=>rfl
   |some o=>
    by_cases hw:W a
    ·refine ai (w.jg i v h1 a G0 hw) λo' rq _=>?_
     replace e:=rq▸e
     cases e
    ·rw[k1 a o hw e']at e;cases e
  have q1:=q0.off (tk:=t1) Dz z7
  refine w.go i _ _ E v _ trivial G0 λh2 ee k2=>?_
  have D2:=k2 _ _ xX D1
  have P2:=k2 _ _ Jh P1
  have xY:Off env (λb=>b≠D'∧ ¬W b∧b≠P) noOwn (gd P D' env.locals W h) h1 h2:=⟨λb o hb _ e=>k2 b o hb.2.1 e,λb o dt e _=>k2 b o (λhw=>by obtain⟨o',e',d'⟩:=w.jg i v h1 b G0 hw;rw[e]at e';cases e';exact dt d') e,
   λb o e=>k2 b o (λhw=>by rw[D7 hw]at e;cases e) (q1.top b o e),λ_ _ _ h=>by cases h⟩
  have z8: ∀a,h2.get? a=none→h1.get? a=none:=λa e=>by
   cases e':h1.get? a with
   |none=>rfl
   |some o=>
    by_cases hw:W a
    ·refine ai (w.live (i+1) h2 a ee hw) λo' rq _=>?_
     replace e:=rq▸e
     cases e
    ·rw[k2 a o hw e']at e;cases e
  have q2:=q1.off (tk:=t1) xY z8
  refine eR (cG q2 ha λh3 t3 st=>?_)
  have k3:=st.toSoft
  have D3:=k3.dat _ _ trivial (.inl ⟨_,_,rfl⟩) D2
  have P3:=k3.dat _ _ trivial (iR _) P2
  have RB:Ext (gd P D' env.locals W h) h3:=st.top q2.top
  have q3:=(q2.stored (tk:=t3) (d:= .any) ON st (.cB (show aZ _ _ .any v from trivial)) trivial).bare (K':=λb=>b≠D'∧ ¬W b∧b≠P) (λa e=>q2.hK a (st.back a e)) (λ_ _=>trivial)
  have T3:ip P eO f.lq h3 (gd P D' env.locals W h3):=⟨ps,P3,Z6,Z7.imp id λ⟨cd,e,r⟩=>⟨cd,e,r.keeps (FI RB)⟩⟩
  refine wpAny_of_eq (a:=true) (by unfold hU;rw[List.forIn_nil]) ?_
  refine jF rfl ?_
  show wpAny _ A (eval (.Name cP p1) env >>= λfv=>callWith p3 fv [] (backTo p3 (starEach [.Name wn p2] env)) []) _ _ _
  have XN:Ext c.hT (gd P D' env.locals W h):=hx.trans kG
  have oO:Ext c.hT h3:=XN.trans q3.top
  refine wpAny_bind (jM gH (q3.pre.base XN) ok F.gn gk o1 ?_)
  refine aO λXq kq=>?_
  refine eh F.gg λof pm cd doc Oq Dt _=>?_
  refine kq ?_
  refine Calls.callWith_function (o:=of) (fd:=Calls.docDef f.name f.params f.body f.scope pm cd doc) ?_
  rw[a7 (x:= .Name wn p2) rfl]
  simp only[aR,Bool.and_eq_true,Bool.not_eq_true']at o2
  refine Calls.evalArgs_plain (Calls.spliced_cons (wpAny_Name (jL (c:=c) (s:={s with heap:=h3,toks:=t3}) q3.fn st.here o2.2 (Calls.spliced_nil ⟨⟨oO _ _ Oq,Dt⟩,?_⟩)) o2.1))
  refine F.go ok (jR q3.room hk) oO vh T3 λfa h4 t4 x4 lam T4=>?_
  have D4:h4.get? D'=_:=x4 _ _ (Ne.symm RH) D3
  refine aO λXq kq=>?_
  refine bK (id T4) λps4 P4 _ _=>?_
  refine kq ?_
  have lcs:RJ.length=i:=by rw[hl.length,List.length_take];exact Nat.min_eq_left jr
  have hz:=bY
  have Z8:=w.size
  refine wpAny_list_append_plain (items:=(RJ.map Value.ref).toArray) ⟨n',D4⟩ (λh5 RK AX=>?_) (by rw[List.size_toArray,List.length_map];exact IS lcs (Nat.le_trans jr Z8) hz)
  refine au RK λn5 RK=>?_
  have VO:Off env (λb=>b≠D'∧ ¬W b∧b≠P) noOwn (gd P D' env.locals W h) h3 h4:=⟨λb o hb _ e=>x4 b o hb.2.2 e,λb o dt e _=>x4 b o (λq=>by rw[q,P3]at e;cases e;exact dt (iR _)) e,
   λb o e=>x4 b o (λq=>by rw[q,HJ]at e;cases e) (q3.top b o e),λ_ _ _ h=>by cases h⟩
  have OO: ∀a,h4.get? a=none→h3.get? a=none:=λa e=>by
   cases e':h3.get? a with
   |none=>rfl
   |some o=>
    by_cases hw:a=P
    ·rw[hw,P4]at e;cases e
    ·rw[x4 a o hw e']at e;cases e
  have q4:=q3.off (tk:=t4) VO OO
  have VP:Off env (λb=>b≠D'∧ ¬W b∧b≠P) noOwn (gd P D' env.locals W h) h4 h5:=⟨λb o hb _ e=>(AX.2 b hb.1).trans e,λb o dt e _=>(AX.2 b λq=>by rw[q,D4]at e;cases e;exact dt (.inl ⟨_,_,rfl⟩)).trans e,
   λb o e=>(AX.2 b λq=>by rw[q,HK]at e;cases e).trans (q4.top b o e),λ_ _ _ h=>by cases h⟩
  have OP: ∀a,h5.get? a=none→h4.get? a=none:=λa e=>by
   by_cases hw:a=D'
   ·rw[hw,RK]at e;cases e
   ·rw[←AX.2 a hw];exact e
  have q5:=q4.off (tk:=t4) VP OP
  have JZ:St (i+1) h5:=w.frame _ _ _ ee ((w.keep _ _ ee).trans λb o hb dt e=>(AX.2 b hb.1).trans (x4 b o hb.2.2 (k3.dat b o trivial dt e)))
   λb o hb dt e=>(AX.2 b λq=>xX (q▸hb)).trans (x4 b o (λq=>Jh (q▸hb)) (k3.dat b o trivial dt e))
  have xm:Ext (iq h3 (gd P D' env.locals W h3) h4) (gd P D' env.locals W h5):=λb o e=>by
   have nb: ∀{b':Addr},(∃o,h3.get? b'=some o)→(gd P D' env.locals W h3).get? b'=none→b≠b':=λ⟨o',h⟩ hn q=>by
    subst q;rw[yD h hn]at e;cases e
   have bD:=nb ⟨_,D3⟩ HK
   refine(wV (nb ⟨_,P3⟩ HJ) bD (λhw=>?_) (nb ?_ HL)).trans ((AX.2 b bD).trans (yC b o e))
   ·refine aO λXq kq=>?_
    refine ai (w.live (i+1) h2 b ee hw) λo' e' d'=>?_
    refine kq ?_
    exact nb ⟨o',k3.dat b o' trivial d' e'⟩ (D7 hw) rfl
   ·refine Gd q3.loc λm3 o3 _ _ Nu _=>?_
    exact⟨o3,Nu⟩
  have new:lU f.lq params body scope wn (gd P D' env.locals W h5) fa d:=by
   refine⟨v,?_,MB.dat λa o z dt e=>⟨?_,trivial⟩⟩
   ·refine aO λXq kq=>?_
    obtain⟨Bd,qK,ct,k',zo,gA,SD⟩:=lam
    refine kq ?_
    exact⟨Bd,qK,ct,k',xm _ _ zo,gA.keeps xm,SD.keeps xm⟩
   ·have z':a≠D'∧ ¬W a∧a≠P:=by
     rcases z with z|z
     ·exact z
     ·refine⟨λq=>?_,λhw=>?_,λq=>?_⟩
      ·rw[q,show h.get? D'=some _ from ho]at z;cases z
      ·refine ai (w.live i h a gD hw) λo' e' _=>?_
       replace z:=e'▸z
       cases z
      ·rw[q,show h.get? P=some _ from tp]at z;cases z
    refine(wV z'.2.2 z'.1 z'.2.1 λq=>?_).trans ((AX.2 a z'.1).trans (x4 a o z'.2.2 (k3.dat a o trivial dt (k2 a o z'.2.1 e))))
    refine eh q1.loc λm1 Z9 es ep e1 e2 r=>?_
    rw[q,show h1.get? env.locals=some Z9 from e1]at e
    obtain rfl:=Option.some.inj e
    exact bP e2 r.1 dt
  refine⟨_,iC jr,.mk (i+1) h5 t4 n5 (RJ++ [fa]) cy JZ (q5.RG (hG:=hG) (kG.trans q5.top) p.hL sS) ?_ ?_ (T4.to (λps e=>(AX.2 P RH).trans e) xm)⟩
  ·rw[RK,List.map_append,List.map_cons,List.map_nil,List.push_toArray]
  ·rw[vj hd]
   exact(hl.imp λa d x=>x.ext (FI q5.top)).snoc new
 ·have MD:i=items.length:=Nat.le_antisymm jr (Nat.not_lt.mp cy)
  subst MD
  replace hl:=List.take_length▸hl
  exact w.done _ _ E gD λh' je k'=>hR h tk n' RJ p ho hl T (λb hb=>w.live _ _ b gD hb) h' je k'
end
end Mine.Internal
end
section
open PySem PySem.W PyProof.Rows
namespace Mine.Internal
section
variable{c:Cx}{sc:Scope}
theorem Be{f:Fn}{cP wn:Str}{params:Arguments}{body:Expr}{scope cs:Scope}{eO nJ p1 p2 p3 p4 bG:Pos}{iter:Expr}{cc P ag:Addr}{iw xw:Nat}(F:vi c f cP wn params body scope eO nJ cc P ag)(ok:c.Ok)(hk:1≤c.k)
  (d7:kA c sc (.var xw) iter jP) (uL: ∀env x,foldedSetIterable iter env x=pure x) (dG:c.lv xw=0) (ON:c.nt[iw]? =some wn) (VQ:nh c sc cs [iw]=true) (gk:(ng cs sc).names.lookup cP=some .globalImplicit) (lk:(ng cs sc).names.lookup wn=some .local) (ha:aW cs wn=true)
  (sS: ∀x,cs.names.lookup x=some .cell→False) (o1:aR cP=true) (o2:aR wn=true)
  {A:Around} {env:Env} {s:Shared} {σ:ah} {asg:Str→Bool} {items:List D} {Q:Value→Shared→Prop} {E:Value→Shared→Prop} (he:env.scope=sc) (p:Act c A env s σ (λb=>b≠P) (λ_=>True) asg noOwn) (hd:σ xw=some (.list items))
  (hP:s.heap.get? P=some (tabObj #[]))
  (hQ: ∀D' h' tk n xs,(∀b o,b≠P→s.heap.get? b=some o→h'.get? b=some o)→s.heap.get? D'=none→h'.get? D'=some (seqObj "list" (xs.map Value.ref).toArray n)→(∀hT,(∀b o,h'.get? b=some o→b≠P→b≠env.locals→hT.get? b=some o)→ir (lU f.lq params body scope wn hT) xs items)→(∃ps,h'.get? P=some (tabObj ps))→
   Q (.ref D') {s with heap:=h',toks:=tk}):
  wpAny (model c.prog c.w) A (eval (.ListComp (.Call (.Name cP p1) [.Name wn p2] [] p3) [⟨.Name wn p4,iter,[],0⟩] cs bG) env) Q E s:=by
 have OQ:=pD VQ
 have eS: ∀g∈ [(⟨.Name wn p4,iter,[],0⟩:Comprehension)],g.is_async=0:=λg hg=>by cases List.mem_singleton.mp hg;rfl
 have hY: ∀x∈cs.names,x.2= .free→(env.cells.lookup x.1).isSome=true:=λx hx hk=>by
  obtain⟨n,k⟩:=x
  dsimp only at hk;subst hk
  have h1:=bZ OQ.nodup hx
  refine da (p.pre.cell n (by unfold Env.kindOf;rw[he];exact OQ.free n h1)) λa v h2 _=>?_
  dsimp only;rw[h2];rfl
 rw[eval_ListComp]
 refine wpAny_comprehension_free rfl (λx=>uL env x) (fj hY) OQ.kind (λx hx hl=>?_) ?_
 ·obtain⟨n,k⟩:=x
  dsimp only at hl;subst hl
  exact bZ OQ.nodup hx
 refine d7 A env s σ (λb=>b≠P∧True) (.list items) items _ E he p.pre (by show(σ xw).bind aV=_;rw[hd];rfl) rfl λI W h₁ h₂ tk x1 x2 hW sR=>?_
 refine wpAny_newList ?_
 refine wy ?_
 have act:=enter (tk:=tk) ok p.pre he OQ x1 x2 hW
 show codeAny (model c.prog c.w) A (.compStart (.ListComp (.Call (.Name cP p1) [.Name wn p2] [] p3) [⟨.Name wn p4,iter,[],0⟩] cs bG) 0 (.ref I) (.ref h₂.objs.size) {newEnv cs ((h₂.push (seqObj "list" #[] 0)).objs.size) env.globals (cellsFrom ((h₂.push (seqObj "list" #[] 0)).objs.size+1) cs.names (ck env cs.names [])) env.qual none .none (some env) builtinsNs with scope:=relabel cs env})
  (compPost (model c.prog c.w) A E none Q (.ref h₂.objs.size) (h₂.push (seqObj "list" #[] 0)).objs.size) {s with heap:=pushCells ((h₂.push (seqObj "list" #[] 0)).push {cls:= .type "dict",data:= .dict #[]}) cs.names,toks:=tk}
 generalize MQ:({newEnv cs ((h₂.push (seqObj "list" #[] 0)).objs.size) env.globals (cellsFrom ((h₂.push (seqObj "list" #[] 0)).objs.size+1) cs.names (ck env cs.names [])) env.qual none .none (some env) builtinsNs with scope:=relabel cs env}:Env)=ni at act ⊢
 have hL:ni.locals=(h₂.push (seqObj "list" #[] 0)).objs.size:=by rw[←MQ];rfl
 have gH:ni.scope=ng cs sc:=by rw[←MQ];exact qw he
 generalize MR:pushCells ((h₂.push (seqObj "list" #[] 0)).push {cls:= .type "dict",data:= .dict #[]}) cs.names=H5 at act ⊢
 have I5:Ext h₂ H5:=MR▸((Ext.push _ _).trans (Ext.push _ _)).trans (cU _ _)
 have Ad:H5.get? h₂.objs.size=some (seqObj "list" #[] 0):=by
  rw[←MR]
  exact cU _ _ _ _ (Heap.get?_push_of_some _ (Heap.get?_push_size _ rfl))
 have jC:(h₂.push (seqObj "list" #[] 0)).objs.size=h₂.objs.size+1:=Heap.size_push ..
 have tY:h₂.get? h₂.objs.size=none:=gone (Nat.le_refl _)
 have Fs:h₂.get? (h₂.push (seqObj "list" #[] 0)).objs.size=none:=gone (by rw[jC];exact Nat.le_succ _)
 have xX: ¬W h₂.objs.size:=λhw=>by obtain⟨o,ho⟩:=(hW _ hw).2;rw[tY]at ho;cases ho
 have G4:h₂.objs.size≠(h₂.push (seqObj "list" #[] 0)).objs.size:=by rw[jC];exact Nat.ne_of_lt (Nat.lt_succ_self _)
 have CO:=x2 _ _ (x1 _ _ hP)
 have RH:P≠h₂.objs.size:=λq=>by rw[q,tY]at CO;cases CO
 have Jh: ¬W P:=λhw=>by have:=x1 _ _ hP;rw[(hW P hw).1]at this;cases this
 have wk:cT c.prog c.w A (λb=>b≠P∧True) (λa=>a≠h₂.objs.size∧ ¬W a∧a≠P) h₁ I W jP 0 items H5:=by
  have:=(sR (λa=>a≠h₂.objs.size∧ ¬W a∧a≠P) ⟨.inr ⟨dG,λb o _ e z hw=>⟨λq=>(by rw[q]at e;rw[x2 _ _ e]at tY;cases tY),hw,z.1⟩⟩,λb z=>z.2.1⟩).ext I5
  rw[show gG c (.var xw)-1=0 by rw[show gG c (.var xw)=0 from dG]]at this
  exact this
 have FJ: ∀x,aW cs x=true→ni.kindOf x=some .local:=λx h=>by
  unfold Env.kindOf
  rw[gH]
  unfold ng
  rw[fW]
  simp only[aW,Bool.or_eq_true,beq_iff_eq]at h
  rcases h with h|h
  ·rw[h];rfl
  ·exact absurd h (sS x)
 have q:=(act.bare (K':=λb=>b≠h₂.objs.size∧ ¬W b∧b≠P) (C':=λ_=>True) (λa e=>⟨(act.hK a e).1,(act.hK a e).2,λq=>by rw[q,show H5.get? P=_ from I5 _ _ CO]at e;cases e⟩) (λ_ _=>trivial)).RG (hG:=gd P h₂.objs.size ni.locals W H5) vh HL FJ
 have xG: ∀b o,b≠P→s.heap.get? b=some o→(gd P h₂.objs.size ni.locals W H5).get? b=some o:=λb o hb e=>
  (wV hb (λq=>by rw[q]at e;rw[x2 _ _ (x1 _ _ e)]at tY;cases tY) (λhw=>by have:=x1 _ _ e;rw[(hW b hw).1]at this;cases this) (λq=>by rw[q,hL]at e;rw[x2 _ _ (x1 _ _ e)]at Fs;cases Fs)).trans (I5 _ _ (x2 _ _ (x1 _ _ e)))
 have top:Ext c.hT (gd P h₂.objs.size ni.locals W H5):=λb o e=>xG b o (λq=>by rw[q,F.nP]at e;cases e) (p.top b o e)
 have fin:codeAny (model c.prog c.w) A (.compLoop (.ListComp (.Call (.Name cP p1) [.Name wn p2] [] p3) [⟨.Name wn p4,iter,[],0⟩] cs bG) 0 (.ref I) (.ref h₂.objs.size) ni) (compPost (model c.prog c.w) A E none Q (.ref h₂.objs.size) (h₂.push (seqObj "list" #[] 0)).objs.size) {s with heap:=H5,toks:=tk}:=by
  refine Bc F ok hk wk top gH ha ON gk lk o1 o2 FJ q HJ HK (λb hb=>D7 hb) Ad ⟨#[],I5 _ _ CO,trivial,.inl rfl⟩ xX RH Jh λh je n' xs pa Da la T' lv h' qs k'=>?_
  refine aO λXq kq=>?_
  refine au pa.loc λmm Ft=>?_
  rw[hL]at Ft
  refine gO Ft λo es ep I6 dt r=>?_
  refine kq ?_
  have nWC: ¬W (h₂.push (seqObj "list" #[] 0)).objs.size:=λhw=>by obtain⟨o',e',d'⟩:=lv _ hw;rw[show h.get? _=some o from I6]at e';cases e';exact bP dt r.1 d'
  refine⟨mm,⟨o,es,ep,k' _ _ nWC I6,dt,r⟩,λdA hs=>?_⟩
  have ext: ∀b o,b≠P→s.heap.get? b=some o→dA.get? b=some o:=λb o hb e=>
   (hs.2 b λq=>by rw[q]at e;rw[x2 _ _ (x1 _ _ e)]at Fs;cases Fs).trans (k' b o (λhw=>by have:=x1 _ _ e;rw[(hW b hw).1]at this;cases this) (pa.top b o (xG b o hb e)))
  refine hQ _ dA qs n' xs ext (aE (x1.trans x2) tY) ((hs.2 _ G4).trans (k' _ _ xX Da)) ?lams ?tab
  case lams=>
   intro hT kT
   refine la.imp λa d x=>x.move λb o nd e=>?_
   have z:=eV e
   refine kT b o ((hs.2 b λq=>z.1.2.2.2 (q.trans hL.symm)).trans (k' b o z.1.2.2.1 z.2)) z.1.1 λq=>?_
   refine eh p.loc λm0 o0 es0 ep0 w1 w2 w3=>?_
   have w4:=pa.top _ _ (xG _ _ (λq=>by rw[q,hP]at w1;cases w1;cases w2) w1)
   rw[q]at z
   rw[show h.get? env.locals=_ from w4]at z
   cases z.2
   exact nd _ _ w2 w3.1
  case tab=>
   refine ai T' λps w1 _=>?_
   refine⟨ps,(hs.2 P λq=>?_).trans (k' _ _ Jh w1)⟩
   rw[q]at CO
   rw[CO]at Fs;cases Fs
 refine mX rfl eS fin λE'=>?_
 refine aO λXq kq=>?_
 refine da wk λSt Md UQ st=>?_
 refine kq ?_
 exact UQ.self 0 _ _ E' st fin
end
end Mine.Internal
end
section
open PySem PySem.W PyProof.Rows
namespace Mine.Internal
section
variable{c:Cx}{sc:Scope}{asg:Str→Bool}
theorem vk{x:Str}{a:Addr}{pos:Pos}(ok:c.Ok)(hb:c.mg x=some (.ref a))(hs:sc.names.lookup x=some .globalImplicit)(d9:aR x=true):ay c sc (.aL (.fn a)) (.Name x pos):=λA env s σ Z d Q E he p hd hQ=>by
 obtain rfl:=Option.some.inj hd
 exact jM he p ok hb hs d9 (hQ _ s.heap s.toks (.refl _) (.cB rfl) λh=>by cases h)
theorem D8{f:Fn}{an m1 m2 m3 cP wn ws:Str}{params:Arguments}{body:Expr}{scope cs:Scope}{eO nJ np q1 q2 q3 lp bp pos p1 p2 p3 p4 p5 bG:Pos}{cc P ag a1 a2 a3:Addr}{ax iw xw:Nat}(F:vi c f cP wn params body scope eO nJ cc P ag)(ok:c.Ok)(hk:1≤c.k)
  (h1:c.mg m1=some (.ref a1)) (h2:c.mg m2=some (.ref a2)) (h3:c.mg m3=some (.ref a3)) (k1:sc.names.lookup m1=some .globalImplicit) (k2:sc.names.lookup m2=some .globalImplicit) (k3:sc.names.lookup m3=some .globalImplicit) (e1:aR m1=true) (e2:aR m2=true) (e3:aR m3=true)
  (hxw:c.nt[xw]? =some ws) (hws:mP sc ws=true) (hwo:aR ws=true) (dG:c.lv xw=0) (hax:c.nt[ax]? =some an) (OR:asg an=true)
  (ON:c.nt[iw]? =some wn) (VQ:nh c sc cs [iw]=true) (gk:(ng cs sc).names.lookup cP=some .globalImplicit) (lk:(ng cs sc).names.lookup wn=some .local) (ha:aW cs wn=true)
  (sS: ∀x,cs.names.lookup x=some .cell→False) (o1:aR cP=true) (o2:aR wn=true) (hsw: ∀env:Env,swapsWith (.BinOp (.List [.Name m1 q1,.Name m2 q2,.Name m3 q3] lp) .Add (.ListComp (.Call (.Name cP p1) [.Name wn p2] [] p3) [⟨.Name wn p4,.Name ws p5,[],0⟩] cs bG) bp) (some (.Name an np)) pos.line env=pure false)
  {A:Around} {env:Env} {s:Shared} {σ:ah} {items:List D} {Q:Flow→Shared→Prop} {E:Value→Shared→Prop} (he:env.scope=sc) (hnc: ∀x,env.kindOf x≠some .cell) (p:Act c A env s σ (λb=>b≠P) (λ_=>True) asg noOwn) (hd:σ xw=some (.list items)) (jr:items.length+3≤bW)
  (hP:s.heap.get? P=some (tabObj #[]))
  (hQ: ∀h' tk xs,Act c A env {s with heap:=h',toks:=tk} (upd σ ax (.list ([.fn a1,.fn a2,.fn a3]++xs.map .fn))) (λb=>b≠P) (λ_=>True) asg noOwn→(∀hT,(∀b o,h'.get? b=some o→b≠P→b≠env.locals→hT.get? b=some o)→ir (lU f.lq params body scope wn hT) xs items)→(∃ps,h'.get? P=some (tabObj ps))→
   Q .next {s with heap:=h',toks:=tk}):
  wpAny (model c.prog c.w) A (exec (.Assign [.Name an np] (.BinOp (.List [.Name m1 q1,.Name m2 q2,.Name m3 q3] lp) .Add (.ListComp (.Call (.Name cP p1) [.Name wn p2] [] p3) [⟨.Name wn p4,.Name ws p5,[],0⟩] cs bG) bp) pos) env) Q E s:=by
 have lst:ay c sc (.lst (.cons (.aL (.fn a1)) (.cons (.aL (.fn a2)) (.cons (.aL (.fn a3)) .nil)))) (.List [.Name m1 q1,.Name m2 q2,.Name m3 q3] lp):=
  bF (ae (vk ok h1 k1 e1) rfl (ae (vk ok h2 k2 e2) rfl (ae (vk ok h3 k3 e3) rfl ak))) rfl
 refine wpAny_Assign_Name (wpAny_BinOp (lst A env s σ (λb=>b≠P∧True) (.list [.fn a1,.fn a2,.fn a3]) _ E he p.pre (by rfl) λv1 k1 t1 x1 r1 _=>?_)) (hsw env)
 have p1:=p.next (tk:=t1) x1
 refine Be F ok hk (cK (af hxw hws hwo)) (λ_ _=>rfl) dG ON VQ gk lk ha sS o1 o2 he p1 hd (x1 _ _ hP) λD' h4 tk n xs ext nD get lams tab=>?_
 obtain⟨ps,iZ⟩:=tab
 have hlen:xs.length=items.length:=(lams h4 λb o e _ _=>e).length
 have rx:aZ (λb=>b≠P∧True) h4 (.list [.fn a1,.fn a2,.fn a3]) v1:=(show aZ _ k1 _ v1 from r1).change λa o z e=>⟨ext a o z.1 e,z⟩
 have hDP:D'≠P:=λq=>by rw[q,show k1.get? P=_ from x1 _ _ hP]at nD;cases nD
 have rxs: ∀l:List Addr,aF (λb=>b≠P∧True) h4 (l.map .fn) (l.map Value.ref):=λl=>by
  induction l with
  |nil=>rfl
  |cons a l ih=>exact⟨_,_,rfl,rfl,ih⟩
 have ry:aZ (λb=>b≠P∧True) h4 (.list (xs.map .fn)) (.ref D'):=⟨D',xs.map Value.ref,rfl,⟨hDP,trivial⟩,by rw[List.length_map,hlen];exact Nat.le_trans (Nat.le_add_right ..) jr,⟨n,get⟩,rxs xs⟩
 have off:Off env (λb=>b≠P) noOwn c.hT k1 h4:=⟨λb o hb _ e=>ext b o hb e,λb o dt e _=>ext b o (λq=>by rw[q,show k1.get? P=_ from x1 _ _ hP]at e;cases e;exact dt (iR _)) e,
  λb o e=>ext b o (λq=>by rw[q,F.nP]at e;cases e) (p1.top b o e),λ_ _ _ h=>by cases h⟩
 have p4:=p1.off (tk:=tk) off λa e=>by
  cases e':k1.get? a with
  |none=>rfl
  |some o=>
   by_cases hw:a=P
   ·rw[hw,iZ]at e;cases e
   ·rw[ext a o hw e']at e;cases e
 refine zH (o:= .Add) (x:= .list [.fn a1,.fn a2,.fn a3]) (y:= .list (xs.map .fn)) (r:= .list ([.fn a1,.fn a2,.fn a3]++xs.map .fn)) (Z:=λb=>b≠P∧True) ?_ (.cB rx) (.cB ry) (λa e=>⟨λq=>?_,trivial⟩) p.room.handled λv h5 t5 x5 r5 _=>?_
 ·show bC _=_
  unfold bC
  rw[if_pos]
  rw[List.length_append,List.length_map,hlen,Nat.add_comm]
  exact jr
 ·subst q
  exact absurd (Heap.lt_size iZ) (Nat.not_lt.mpr e)
 have p5:=p4.next (tk:=t5) x5
 refine cG p5 OR λh6 t6 st=>?_
 have p6:=p5.stored (tk:=t6) hax st (.cB r5) (r5.mono λ_ _ z=>z.1)
 rw[show d5 noOwn ax=noOwn from funext λy=>by simp[d5,noOwn]]at p6
 refine hQ h6 t6 xs p6 (λhT kT=>lams hT λb o e n1 n2=>kT b o ?_ n1 n2) ⟨ps,st.toSoft.dat _ _ trivial (iR _) (x5 _ _ iZ)⟩
 by_cases dt:cQ o
 ·exact st.toSoft.dat b o trivial dt (x5 b o e)
 ·exact st.toSoft.ma b o dt (x5 b o e) n2 λx hx=>absurd hx (hnc x)
end
end Mine.Internal
end
section
open PySem PySem.W PyProof.Rows
namespace Mine.Internal
noncomputable abbrev iu:Str:=Str.ofString "acts"
noncomputable abbrev lH:Str:=Str.ofString "dues"
noncomputable abbrev Bf:Str:=Str.ofString "kept"
noncomputable abbrev nK:Str:=Str.ofString "k"
noncomputable abbrev nL:Str:=Str.ofString "turn"
noncomputable abbrev tC:Str:=Str.ofString "_law_say"
noncomputable abbrev pT:Str:=Str.ofString "_law_same"
noncomputable abbrev Bg:Str:=Str.ofString "iter"
noncomputable abbrev wW:Str:=Str.ofString "list"
noncomputable def OS(c:Cx)(X:Value)(aS:Addr):Prop:=
 ∀(aA:Addr) (R:List D→Res→Prop) (A:Around) (s:Shared) (d:D) (v:Value) (l:List D) (r:Res) (bs:Heap) (outer:List Env) (Q:Value→Shared→Prop) (E:Value→Shared→Prop),(∃o fd,c.hT.get? aA=some o∧o.data= .func fd)→eY c.prog c.w X c.hT aA R→
  dY c.hT 4 A s d v l (λ_=>True) bs outer→R l r→r≠ .exc .val→
  (∀v' h' tk,bs.StaysIn h'→s.heap.UpToSlots h'→(∀b,given [d] [v] b→cb h' b)→aZ (λ_=>True) h' (fO r) v'→Q v' {s with heap:=h',toks:=tk})→wpAny (model c.prog c.w) A (call (.ref aS) [.ref aA,v]) Q E s
structure Bh(c:Cx)(A:Around)(env:Env)(sc:Scope)(X:Value)(aS:Addr):Prop where
 ok:c.Ok
 gH:env.scope=sc
 lv: ∀x,c.lv x=0
 ow: ∀x,c.ow x=0
 kd: ∀x,env.kindOf x≠some .cell∧env.kindOf x≠some .free
 frs:A.frames=some [env]
 fre:env.frame=some env.locals
 gS:c.mg tC=some (.ref aS)
 fS: ∃o fd,c.hT.get? aS=some o∧o.data= .func fd
 kS:sc.names.lookup tC=some .globalImplicit
 kM:sc.names.lookup pT=some .globalImplicit
 fM:c.sD 3=pT
 pM:c.wi 3= [0,0]
 k4:c.k=4
 n4:c.nt[4]? =some iu
 n7:c.nt[7]? =some dz
 n11:c.nt[11]? =some Bf
 n12:c.nt[12]? =some lH
 XO:c.nt[13]? =some nK
 n14:c.nt[14]? =some nL
 i4:mP sc iu=true
 i11:mP sc Bf=true
 i12:mP sc lH=true
 XQ:mP sc nK=true
 l7:sc.names.lookup dz=some .local
 XR:sc.names.lookup nL=some .local
 bI:c.bn Bg=some (.builtin "iter")
 kI:sc.names.lookup Bg=some .globalImplicit
 bL:c.bn wW=some (.type "list")
 kL:sc.names.lookup wW=some .globalImplicit
 say:OS c X aS
section
variable{c:Cx}{A:Around}{env:Env}{s:Shared}{σ:ah}{K C:Addr→Prop}{asg:Str→Bool}
theorem Act.slots{G:Addr→Prop}{h':Heap}{tk:Nat}(p:Act c A env s σ K C asg noOwn)(dG: ∀x,c.lv x=0)(Ja: ∀x,env.kindOf x≠some .cell∧env.kindOf x≠some .free)(VR: ∀b,G b→ ¬K b)(RL: ∀b,G b→c.hT.get? b=none)
  (gD: ∀b o,b≠env.locals→ ¬G b→s.heap.get? b=some o→h'.get? b=some o) (up:s.heap.UpToSlots h') (sp: ∀b,G b→ ∃o,h'.get? b=some o):Act c A env {s with heap:=h',toks:=tk} σ K C asg noOwn:=by
 have back: ∀a,h'.get? a=none→s.heap.get? a=none:=λa e=>by
  cases q:s.heap.get? a with
  |none=>rfl
  |some o=>
   by_cases hL:a=env.locals
   ·refine au p.loc λm hm=>?_
    refine xo (up.ns hm) λo' _ _ h1 _=>?_
    rw[hL,h1]at e;cases e
   ·by_cases hG:G a
    ·refine au (sp a hG) λo' h1=>?_
     replace e:=h1▸e
     cases e
    ·rw[gD a o hL hG q]at e;cases e
 have move: ∀(Z:Addr→Prop) (a:Addr) (o:Obj),(Z a→K a)→Z a→cQ o→s.heap.get? a=some o→h'.get? a=some o:=λZ a o hZ z hd e=>gD a o (λq=>by
  refine eh p.loc λm o' es ep h1 h2 r=>?_
  rw[q,h1]at e
  obtain rfl:=Option.some.inj e
  exact bP h2 r.1 hd) (λg=>VR a g (hZ z)) e
 exact{
  room:=p.room,fn:=p.fn,gl:=p.gl,bl:=p.bl
  top:=λb o e=>gD b o (λq=>by rw[q,p.hL]at e;cases e) (λg=>by rw[RL b g]at e;cases e) (p.top b o e)
  hK:=λa e=>p.hK a (back a e)
  hC:=λa e=>p.hC a (back a e)
  cell:=λy hy=>absurd hy (λh=>h.elim (Ja y).1 (Ja y).2)
  apart:=p.apart,nodup:=p.nodup
  loc:=let⟨m,hm⟩:=p.loc;⟨m,up.ns hm⟩
  hL:=p.hL,dS:=p.dS
  var:=λx d name h1 h2 h3 h4=>by
   refine bK (p.var x d name h1 h2 h3 h4) λv q1 q2 q3=>?_
   refine⟨v,?_,?_,q3.dat λa o z hd e=>⟨move K a o id z hd e,z⟩⟩
   ·rcases q1 with⟨hl,m,hn,hv⟩|⟨hl,_⟩
    ·exact .inl ⟨hl,m,up.ns hn,hv⟩
    ·exact absurd hl (λh=>h.elim (Ja name).1 (Ja name).2)
   ·rw[dG x]at q2 ⊢
    exact(show aZ (λa=>K a∧C a) s.heap d v from q2).dat λa o z hd e=>⟨move _ a o (λz=>z.1) z hd e,z⟩
  cO:=λ_ _ h=>by cases h
  eC:=λ_ _ _ h=>by cases h}
end
section
variable{c:Cx}{A:Around}{env:Env}{sc:Scope}{X:Value}{aS:Addr}
theorem pU(F:Bh c A env sc X aS){s:Shared}{σ:ah}{K C:Addr→Prop}{asg:Str→Bool}{nx:Str}{d oR:D}{v:Value}{l:List D}{r:Res}{aA:Addr}{R:List D→Res→Prop}{mm:Str→Option Value}{p1 p2 p3 p4 p5 p6 p7 p8 p9 Jg VS:Pos}{Q:Value→Shared→Prop}{E:Value→Shared→Prop}
  (p:Act c A env s σ K C asg noOwn) (rA:s.heap.Ns env.locals mm) (hv:mm nx=some v) (OT:sc.names.lookup nx=some .local) (RE:aR nx=true) (kD:aZ (λ_=>True) s.heap d v) (Hl:rowOf d=some l) (VR: ∀b,given [d] [v] b→ ¬K b) (RL: ∀b,given [d] [v] b→c.hT.get? b=none)
  (tg:(ar c.Φ (.item (.var 4) (.var 13))).v σ=some (.fn aA)) (CN: ∃o fd,c.hT.get? aA=some o∧o.data= .func fd) (hA:eY c.prog c.w X c.hT aA R) (hr:R l r) (VT:r≠ .exc .val) (D9:(ar c.Φ (.item (.var 12) (.var 13))).v σ=some oR) (hdi: ∀m,oR≠ .lM m) (OU:c.Φ 3 [fO r,oR]=some (.bool true))
  (hQ: ∀h' tk,Act c A env {s with heap:=h',toks:=tk} σ K C asg noOwn→(∀b o,b≠env.locals→ ¬given [d] [v] b→s.heap.get? b=some o→h'.get? b=some o)→h'.Ns env.locals mm→(∀b,given [d] [v] b→cb h' b)→Q (.bool true) {s with heap:=h',toks:=tk}):
  wpAny (model c.prog c.w) A (eval (.Call (.Name pT p1) [.Call (.Name tC p2) [.Subscript (.Name iu p3) (.Name nK p4) p5,.Name nx p6] [] p7,.Subscript (.Name lH p8) (.Name nK p9) Jg] [] VS) env) Q E s:=by
 refine aO λXq kq=>?_
 refine bK (F.ok.calls 3 _ _ OU) λaM hM OV hc=>?_
 obtain⟨oM,fdM,hoM,hfM⟩:=OV
 refine kq ?_
 rw[F.fM]at hM
 have evA:ay c sc (.item (.var 4) (.var 13)) (.Subscript (.Name iu p3) (.Name nK p4) p5):=aJ (af F.n4 F.i4 rfl) (af F.XO F.XQ rfl) (by rw[show gG c (.var 13)=0 from F.lv 13];exact Nat.zero_le _) λ_ _=>rfl
 have evD:ay c sc (.item (.var 12) (.var 13)) (.Subscript (.Name lH p8) (.Name nK p9) Jg):=aJ (af F.n12 F.i12 rfl) (af F.XO F.XQ rfl) (by rw[show gG c (.var 13)=0 from F.lv 13];exact Nat.zero_le _) λ_ _=>rfl
 have VU:env.kindOf nx=some .local:=by unfold Env.kindOf;rw[F.gH];exact OT
 show wpAny _ _ (eval (.Name pT p1) env >>= λfv=>callWith VS fv [] (backTo VS (starEach [.Call (.Name tC p2) [.Subscript (.Name iu p3) (.Name nK p4) p5,.Name nx p6] [] p7,.Subscript (.Name lH p8) (.Name nK p9) Jg] env)) []) _ _ _
 refine wpAny_bind (jM F.gH p.pre F.ok hM F.kM (by decide) ?_)
 refine Calls.callWith_function (o:=oM) (fd:=fdM) ?_
 rw[a7 (x:= .Call (.Name tC p2) [.Subscript (.Name iu p3) (.Name nK p4) p5,.Name nx p6] [] p7) rfl,a7 (x:= .Subscript (.Name lH p8) (.Name nK p9) Jg) rfl]
 refine Calls.evalArgs_plain (Calls.spliced_cons ?_)
 show wpAny _ _ (eval (.Name tC p2) env >>= λfv=>callWith p7 fv [] (backTo p7 (starEach [.Subscript (.Name iu p3) (.Name nK p4) p5,.Name nx p6] env)) []) _ _ _
 refine wpAny_bind (jM F.gH p.pre F.ok F.gS F.kS (by decide) ?_)
 refine aO λXq kq=>?_
 refine da F.fS λoS fdS hoS hfS=>?_
 refine kq ?_
 refine Calls.callWith_function (o:=oS) (fd:=fdS) ?_
 rw[a7 (x:= .Subscript (.Name iu p3) (.Name nK p4) p5) rfl,a7 (x:= .Name nx p6) rfl]
 refine Calls.evalArgs_plain (Calls.spliced_cons (evA A env s σ _ _ _ E F.gH p.pre tg λv1 h1 t1 x1 r1 _=>?_))
 obtain rfl:=(show v1= .ref aA from r1.all)
 have q1:=p.next (tk:=t1) x1
 have HM:=rA.keeps x1
 simp only[aR,Bool.and_eq_true,Bool.not_eq_true']at RE
 refine Calls.spliced_cons (wpAny_Name (wpAny_loadName_local (s:={s with heap:=h1,toks:=t1}) p.fn VU HM hv (Calls.spliced_nil ⟨⟨q1.top _ _ hoS,hfS⟩,?_⟩)) RE.1)
 have RF: ∀b,given [d] [v] b→ ∃o,h1.get? b=some o∧ ∃vs,o.data= .fields vs:=λb hb=>by
  refine aO λXq kq=>?_
  obtain⟨⟨l',rfl⟩,rfl⟩:=b9.mp hb
  refine xq kD λI a' fi e' _ _ _ _ OW _=>?_
  obtain⟨o',ho,_,dt⟩:=OW
  refine kq ?_
  cases e'
  exact⟨o',x1 _ _ ho,_,dt⟩
 have hLn: ∃o,h1.get? env.locals=some o∧ ∀vs,o.data≠ .fields vs:=by
  refine gO HM λo es ep e1 e2 _=>?_
  exact⟨o,e1,λvs q=>by rw[e2]at q;cases q⟩
 refine aO λXq kq=>?_
 refine ai hLn λoL CG hnL=>?_
 refine kq ?_
 have pre:dY c.hT 4 A {s with heap:=h1,toks:=t1} d v l (λ_=>True) (mask h1 λb=>b≠env.locals∧ ¬given [d] [v] b) [env]:=⟨by rw[←F.k4];exact p.room,F.frs,⟨by rw[p.fn];decide,⟨env.locals,oL,F.fre,cW λq=>q.1 rfl,CG,hnL⟩,trivial⟩,
  λb o e=>(eV e).2,λb o e=>(dv ⟨λq=>(by rw[q,p.hL]at e;cases e),λg=>(by rw[RL b g]at e;cases e)⟩).trans (q1.top b o e),λb g=>cW λq=>q.2 g,Hl,kD.ext x1,λ_ _=>trivial,λ_ _ _=>trivial⟩
 refine F.say aA R A _ d v l r _ [env] _ _ CN hA pre hr VT λv2 h2 t2 ee XS XT r2=>?_
 have tD: ∀b o,b≠env.locals→ ¬given [d] [v] b→h1.get? b=some o→h2.get? b=some o:=λb o n1 n2 e=>ee b o ((dv ⟨n1,n2⟩).trans e)
 have q2:=q1.slots (tk:=t2) F.lv F.kd VR RL tD XS λb g=>let⟨o,_,e,_⟩:=XT b g;⟨o,e⟩
 refine Calls.spliced_cons (evD A env _ σ _ _ _ E F.gH q2.pre D9 λv3 h3 t3 x3 r3 _=>Calls.spliced_nil ?_)
 have q3:=q2.next (tk:=t3) x3
 have XU: ∀b,¬given [fO r,oR] [v2,v3] b:=jq λd' fo m=>by
  rcases List.mem_cons.mp fo with rfl|fo
  ·cases r with
   |told _=>exact λh=>by cases h
   |exc k=>cases k <;> exact λh=>by cases h
  ·obtain rfl:=(List.mem_singleton.mp fo)
   exact hdi m
 refine⟨⟨q3.top _ _ hoM,hfM⟩,(hc A _ (λ_=>True) [v2,v3] _ E p.room q3.top (by rw[F.pM];exact .cons (r2.ext x3) (.cons (.cB r3.all) .nil)) (λ_ _=>trivial) (λb hb=>absurd hb (XU b)) λv4 h4 t4 hk r4 _=>?_).2⟩
 obtain rfl:=(show v4= .bool true from r4)
 have x4:Ext h3 h4:=λb o e=>hk b o (XU b) e
 exact hQ h4 t4 (q3.next x4) (λb o n1 n2 e=>x4 b o (x3 b o (tD b o n1 n2 (x1 b o e)))) (((XS.ns HM).keeps x3).keeps x4) λb g=>((XT b g).ext λo e=>x3 _ _ e).ext λo e=>x4 _ _ e
end
end Mine.Internal
end
section
open PySem PySem.W PyProof.Rows
namespace Mine.Internal
section
variable(Φ:Nat→List D→Option D)(RA:Addr→(List D→Res→Prop)→Prop)
structure HN(σ:ah)(l:List D)(aA:Addr)(R:List D→Res→Prop)(r:Res)(oR:D):Prop where
 items:σ 7=some (.list l)
 act:(ar Φ (.item (.var 4) (.var 13))).v σ=some (.fn aA)
 ra:RA aA R
 hr:R l r
 rv:r≠ .exc .val
 D9:(ar Φ (.item (.var 12) (.var 13))).v σ=some oR
 di: ∀m,oR≠ .lM m
 same:Φ 3 [fO r,oR]=some (.bool true)
 kept:(ar Φ (.cmp .NotEq (.var 7) (.var 11))).t σ=some false
noncomputable def tE(σ:ah):Prop:= ∃l aA R r oR,HN Φ RA σ l aA R r oR
noncomputable def nM(σ:ah):Option ah:=by classical exact if tE Φ RA σ then some (upd σ 14 .any)else none
theorem yF{σ σ':ah}(h:nM Φ RA σ=some σ'):tE Φ RA σ∧σ'=upd σ 14 .any:=by
 unfold nM at h
 split at h
 ·rename_i q;cases h;exact⟨q,rfl⟩
 ·cases h
theorem yG{σ:ah}(h:tE Φ RA σ):nM Φ RA σ=some (upd σ 14 .any):=by unfold nM;exact if_pos h
end
section
variable{c:Cx}{A:Around}{env:Env}{sc:Scope}{X:Value}{aS:Addr}{asg:Str→Bool}{RA:Addr→(List D→Res→Prop)→Prop}
theorem yH(x:Nat):d5 noOwn x=noOwn:=funext λy=>by simp[d5,noOwn]
theorem jy{l:List D}{v:Value}{b:Addr}: ¬given [.list l] [v] b:=λh=>by
 obtain⟨⟨_,e⟩,_⟩:=b9.mp h
 cases e
theorem Ea(F:Bh c A env sc X aS)(OX: ∀a R,RA a R→(∃o fd,c.hT.get? a=some o∧o.data= .func fd)∧eY c.prog c.w X c.hT a R)(i7:mP sc dz=true)(ht:asg nL=true)
  {k1 k2:Nat} {p1 p2 p3 p4 p5 p6 p7 p8 p9 q1 q2 q3 q4 q5 q6 q7 q8 q9 r1 r2 r3 r4 r5 r6 r7 r8 r9 t1 t2 t3 t4 t5 t6 t7 t8 t9 u1 u2 u3 u4 u5 u6 u7 u8 u9:Pos} {ee kc:Stmt}
  (e2:ee= .If (.BoolOp .Or [.UnaryOp .Not (.Call (.Name pT q1) [.Call (.Name tC q2) [.Subscript (.Name iu q3) (.Name nK q4) q5,.Name dz q6] [] q7,.Subscript (.Name lH q8) (.Name nK q9) r1] [] r2) r3,.Compare (.Name dz r4) [.NotEq] [.Name Bf r5] r6] r7) [.Return (some (.Constant (.bool false) k1 r8)) r9] [] t1)
  (e3:kc= .If (.BoolOp .Or [.UnaryOp .Not (.Call (.Name pT t2) [.Call (.Name tC t3) [.Subscript (.Name iu t4) (.Name nK t5) t6,.Name nL t7] [] t8,.Subscript (.Name lH t9) (.Name nK u1) u2] [] u3) u4,.Compare (.Call (.Name wW u5) [.Name nL u6] [] u7) [.NotEq] [.List [] u8] p6] p7) [.Return (some (.Constant (.bool false) k2 p8)) p9] [] u9):
  kE c A env asg (.Ru (nM c.Φ RA)) [.Assign [.Name nL p1] (.Call (.Name Bg p2) [.Name dz p3] [] p4) p5,ee,kc]:=by
 intro s σ K C own out Q E p oo hr hP
 refine aO λXq kq=>?_
 refine ai (omap hr) λσ' hσ' OY=>?_
 subst OY
 obtain⟨⟨l,aA,R,r,oR,T⟩,rfl⟩:=yF _ _ hσ'
 have ro:own=noOwn:=funext λy=>by
  have:=oo y
  rw[F.ow y]at this
  simp at this
  exact this
 subst ro
 refine aX (OX aA R T.ra) λCN hA=>?_
 refine bK (p.var 7 _ _ T.items F.n7 (l9 F.gH i7) rfl) λv0 nm0 _ rv0=>?_
 refine kq ?_
 have Bi: ∀{h:Heap} {n:Str} {v:Value},cE env h n v→ ∃m,h.Ns env.locals m∧m n=some v:=λ{h n v} x=>by
  rcases x with⟨_,m,h1,h2⟩|⟨hk,_⟩
  ·exact⟨m,h1,h2⟩
  ·exact absurd hk (λh=>h.elim (F.kd n).1 (F.kd n).2)
 have OZ: ∀{h:Heap} {b:Addr} {o:Obj},(∃m,h.Ns env.locals m)→cQ o→h.get? b=some o→b≠env.locals:=λ{h b o} x hd e q=>by
  refine eh x λm o' es ep h1 h2 hr=>?_
  rw[q,h1]at e;cases e
  exact bP h2 hr.1 hd
 -- turn=iter(items)
 refine wpAny_execs_cons (wpAny_Assign_Name (zW (pos:=p4) (np:=p2) F.ok F.bI F.kI (af (pos:=p3) F.n7 i7 rfl) (F.lv 7) rfl A env s σ _ (.lM l) _ E F.gH p.pre (by show(((σ 7).bind aV).bind wc)=_;rw[T.items];rfl) λv h1 t1 x1 g1 new=>?_) rfl)
 have XV:aZ (λ_=>True) h1 (.lM l) v:=g1.all
 refine aO λXq kq=>?_
 refine xq (id XV) λI a' fi ev _ _ _ _ O0 _=>?_
 obtain⟨oI,hoI,_,hdI⟩:=O0
 refine kq ?_
 subst ev
 have nI:s.heap.get? I=none:=new l rfl I rfl
 have q1:=p.shrink (tk:=t1) (W:=(· =I)) x1 λb hb=>by subst hb;exact⟨nI,oI,hoI⟩
 refine cG q1 ht λh2 t2 st=>?_
 have q2:=q1.stored (tk:=t2) (d:= .any) F.n14 st (.cB (show aZ _ _ .any _ from trivial)) trivial
 rw[yH]at q2
 refine ai (Bi st.here) λm2 CE RD=>?_
 have hv0:m2 dz=some v0:=by
  refine ai (Bi (st.sF dz v0 (by decide) (nm0.keep x1))) λm' e1 e2=>?_
  rw[zY CE e1];exact e2
 have tD: ∀b o,cQ o→s.heap.get? b=some o→h2.get? b=some o:=λb o hd e=>st.toSoft.dat b o trivial hd (x1 b o e)
 have rep2:aZ (λ_=>True) h2 (.list l) v0:=rv0.dat λa o _ hd e=>⟨tD a o hd e,trivial⟩
 have VV:aZ (λ_=>True) h2 (.lM l) (.ref I):=XV.dat λa o _ hd e=>⟨st.toSoft.dat a o trivial hd e,trivial⟩
 -- ql row itself
 subst e2
 refine wpAny_execs_cons (wpAny_If (isTrue_or (isTrue_not (wpAny_isTrue_value ?_))))
 refine pU F q2 CE hv0 F.l7 rfl rep2 rfl (λb g=>absurd g jy) (λb g=>absurd g jy) T.act CN hA T.hr T.rv T.D9 T.di T.same λh3 t3 q3 k3 AW _=>wpAny_truthy_bool ?_
 refine fU (by decide) ?_
 refine isTrue_or (aB (af F.n7 i7 rfl) (af F.n11 F.i11 rfl) rfl A env _ _ _ false _ E F.gH q3.pre (show(ar c.Φ (.cmp .NotEq (.var 7) (.var 11))).t σ=some false from T.kept) λh4 t4 x4=>?_)
 refine fU (by decide) ?_
 refine isTrue_or_nil ?_
 refine fU (by decide) ?_
 refine wpAny_execs_nil ?_
 have q4:=q3.next (tk:=t4) x4
 have VE:=AW.keeps x4
 have FK: ∀b o,b≠env.locals→h2.get? b=some o→h4.get? b=some o:=λb o n e=>x4 b o (k3 b o n jy e)
 have VW:aZ (λ_=>True) h4 (.lM l) (.ref I):=VV.dat λa o _ hd e=>⟨FK a o (OZ ⟨m2,CE⟩ hd e) e,trivial⟩
 have gI: ∀b,given [.lM l] [.ref I] b↔b=I:=λb=>⟨λg=>by obtain⟨_,e⟩:=b9.mp g;cases e;rfl,λe=>b9.mpr ⟨⟨l,rfl⟩,by rw[e]⟩⟩
 -- one by one
 subst e3
 refine wpAny_execs_cons (wpAny_If (isTrue_or (isTrue_not (wpAny_isTrue_value ?_))))
 refine pU F q4 VE RD F.XR rfl VW rfl (λb g hk=>hk.2 ((gI b).mp g)) (λb g=>by rw[(gI b).mp g];exact aE p.top nI) T.act CN hA T.hr T.rv T.D9 T.di T.same λh5 t5 q5 k5 XG sp=>wpAny_truthy_bool ?_
 refine fU (by decide) ?_
 have hT5:Ext c.hT h5:=q5.top
 have sp5:cb h5 I:=sp I ((gI I).mpr rfl)
 refine isTrue_or (wpAny_isTrue_Compare1 ?_ rfl)
 show wpAny _ _ (eval (.Name wW u5) env >>= λfv=>callWith u7 fv [] (backTo u7 (starEach [.Name nL u6] env)) []) _ _ _
 refine wpAny_bind (eX F.gH p.fn p.gl p.bl hT5 F.ok F.bL F.kL (by decide) ?_)
 refine PySem.callWith_type (cF u7 rfl) ?_
 rw[a7 rfl]
 refine Calls.evalArgs_plain (Calls.spliced_cons (wpAny_Name (wpAny_loadName_local p.fn (by unfold Env.kindOf;rw[F.gH];exact F.XR) XG RD (Calls.spliced_nil (uR p.room.handled sp5 λh6 t6 k6 x6 zx=>?_))) (by decide)))
 have q6:=q5.next (tk:=t6) x6
 refine bF ak rfl A env _ _ _ (.list []) _ E F.gH q6.pre rfl λv7 h7 t7 x7 r7 _=>?_
 refine qp (o:= .NotEq) (x:= .list []) (y:= .list []) (b:=false) rfl ⟨_,[],rfl,trivial,Nat.zero_le _,⟨k6,x7 _ _ zx⟩,rfl⟩ r7.all (df p.room) (wpAny_truthy_bool ?_)
 refine fU (by decide) ?_
 refine isTrue_or_nil ?_
 refine fU (by decide) ?_
 refine wpAny_execs_nil (wpAny_execs_nil ?_)
 have q7:=q6.next (tk:=t7) x7
 have Bj: ∀b o,b≠env.locals→b≠I→h2.get? b=some o→h7.get? b=some o:=λb o n1 n2 e=>x7 b o (x6 b o (k5 b o n1 (λg=>n2 ((gI b).mp g)) (FK b o n1 e)))
 have RM: ∀b o,s.heap.get? b=some o→b≠I:=λb o e q=>by rw[q,nI]at e;cases e
 refine hP h7 t7 _ noOwn q7 (λy=>?_) ⟨λb o hd e _=>⟨Bj b o (OZ p.loc hd e) (RM b o e) (tD b o hd e),λk=>⟨k,RM b o e⟩⟩,λb o hd e n1 n2=>Bj b o n1 (RM b o e) (st.toSoft.ma b o hd (x1 b o e) n1 n2),λb o e=>?_,λy b o hy _=>⟨y,hy⟩,λb o _ k=>k.1⟩
 ·rw[F.ow y];simp[noOwn]
 ·by_cases hL:b=env.locals
  ·refine Gd q7.loc λm7 o7 _ _ e7 _=>?_
   exact⟨o7,by rw[hL];exact e7⟩
  ·refine au (st.toSoft.live b o (x1 b o e)) λo' e'=>?_
   exact⟨o',Bj b o' hL (RM b o e) e'⟩
end
end Mine.Internal
end
section
open PySem PyProof.Rows
namespace Mine.Internal
section
variable{c:Cx}{sc:Scope}{asg:Str→Bool}
theorem HO{x:Nat}{n:Str}{e:ME}{v:Expr}{np apos pos VX:Pos}(hn:c.nt[x]? =some n)(d9:aR n=true)(hw:c.ow x≠0)(xZ:ay c sc e v)(h0:gG c e=0)(hl2: ∀σ d,(ar c.Φ e).v σ=some d→ ∃m,d= .list m)(hx:isStar v=false)
  (Vt:Hc (.Name n np) "extend" apos pos [v]):dI c sc asg (.own x (.bin .Add (.var x) e)) (.Expr (.Call (.Attribute (.Name n np) "extend" apos) [v] [] pos) VX):=by
 intro A env s σ K C own out Q E he p oo hr hP
 have rn: ∃l m,σ x=some (.list l)∧(ar c.Φ e).v σ=some (.list m)∧(l++m).length≤bW∧out= .nx (upd σ x (.list (l++m))):=by
  refine aO λXq kq=>?_
  refine ai (aK hr) λd h1 h2=>?_
  refine ai (omap h2) λl' hl O1=>?_
  subst O1
  rw[ef hl]at h1
  refine ai (aK (show((σ x).bind aV).bind (λy=>((ar c.Φ e).v σ).bind λz=>bA .Add y z)=some (.list l')from h1)) λa ha h1=>?_
  refine ai (aK h1) λb hb h1=>?_
  refine au (hl2 σ b hb) λm O2=>?_
  subst O2
  have hσ: ∃d,σ x=some d:=by
   cases q:σ x with
   |none=>rw[q]at ha;cases ha
   |some d=>exact⟨d,rfl⟩
  refine au hσ λd0 hσ=>?_
  refine kq ?_
  have hi:=oo x
  replace hi:=hσ▸hi
  refine au (Option.isSome_iff_exists.mp (show(own x).isSome=true by rw[hi];simp[hw])) λaa OR=>?_
  refine oq (p.cO x aa OR) λ_ l _ _ q=>?_
  have hv:=q.val
  replace ha:=hv▸ha
  have:a= .list l:=(iJ (show aV (.list l)=some a from ha)).1.symm
  subst this
  refine aX (dE (show bC (l++m)=some (.list l')from h1)) λh3 h4=>?_
  cases h4
  exact⟨l,m,hv,hb,h3,rfl⟩
 refine aO λXq kq=>?_
 refine ft rn λl m hσ hm hlen O3=>?_
 subst O3
 simp only[aR,Bool.and_eq_true,Bool.not_eq_true']at d9
 refine au (DC oo hw hσ) λa ha=>?_
 obtain⟨nm,vs,k,ho,hr,Rj⟩:=Aj p ha hn hσ
 refine au (Vt env) λpl tZ=>?_
 refine kq ?_
 refine wpAny_Expr (MethodCall_ (pl:=pl) (wpAny_Name (jL p.fn nm d9.2 ?_) d9.1) tZ) ?_ ?_
 ·refine getMethod_list_of PySem.F.slot_list_extend PySem.F.type_list_extend ⟨_,ho,rfl,_,rfl⟩ ⟨_,ho,rfl⟩ ?_
  refine Calls.callWith_builtin (cF pos (by simp[hx])) ?_
  rw[a7 hx]
  refine Calls.evalArgs_plain (Calls.spliced_cons (xZ A env s σ _ _ _ E he p.pre hm λv1 h1 t1 x1 r1 _=>Calls.spliced_nil ?_))
  replace r1:=h0▸r1
  refine aO λXq kq=>?_
  obtain⟨b,ws,rfl,zb,Fe,⟨k2,G9⟩,XW⟩:=(show aZ (λa=>K a∧C a) h1 (.list m) v1 from r1)
  refine kq ?_
  have p1:=p.next (tk:=t1) x1
  have oA:=x1 _ _ ho
  have vZ:vs.size=l.length:=by simpa using hr.length
  have O4:ws.length=m.length:=XW.length
  have hz:=bY
  replace hlen:=List.length_append▸hlen
  have jC:vs.size+ws.length≤sizeLine:=by rw[vZ,O4];exact Nat.le_trans hlen hz
  refine call_meets PySem.F.slot_list_extend ⟨_,oA,rfl⟩ PySem.F.entry_list_extend (PySem.F.args_list_extend_2 _ _) (PySem.AutoSeq1.list_extend_list_list_0 a vs k b ws.toArray k2 ?_ (Nat.le_trans (Nat.le_add_right _ _) jC) (by rw[List.size_toArray];exact Nat.le_succ_of_le jC)) ⟨oA,G9,?_⟩
  ·rw[List.size_toArray]
   unfold Builtin.List.listTooLong
   have: ¬(vs.size+ws.length>sizeLine):=Nat.not_lt.mpr jC
   simp[this]
  ·have tV:=get?_update_seq oA (λx=>x++ws.toArray)
   have jd:aF (λb=>K b∧C b) h1 (l++m) (vs++ws.toArray).toList:=by
    rw[Array.toList_append]
    exact(hr.ext x1).append XW
   refine aX (p1.Hb (tk:=t1) ha (Heap.SameBut.update ..) tV jd (by rw[List.length_append];exact hlen)) λa2 g2=>?_
   exact hP _ t1 K own a2 (oo.same hσ) ((jQ.ext x1).trans g2)
 ·unfold interactive;rw[p.fn];rfl
 ·rfl
end
end Mine.Internal
end
section
open PySem PySem.W PyProof.Rows
set_option Elab.async false
set_option maxHeartbeats 4000000
namespace Mine.Internal.dU
noncomputable def aN:Fn:=fnAt pw 14 [(Str.ofString "script")]
noncomputable def VY:List Str:= [(Str.ofString "script"),(Str.ofString "numbers"),(Str.ofString "widths"),(Str.ofString "faults"),(Str.ofString "acts"),(Str.ofString "rows"),(Str.ofString "row"),(Str.ofString "items"),(Str.ofString "whole"),(Str.ofString "half"),(Str.ofString "texts"),(Str.ofString "kept"),(Str.ofString "dues"),(Str.ofString "k"),(Str.ofString "turn"),(Str.ofString "width"),(Str.ofString "x"),(Str.ofString "item")]
noncomputable def eL:Ent:={f:=aN,m:= .skip,xs:= [0],nt:=VY,lv:=λi=>if i=5 then 1 else 0,ow:=λi=>if i=5 then 1 else 0}
noncomputable def nN:Ent:={f:=aN,m:= .skip,xs:= [0],nt:=VY,lv:=λ_=>0,ow:=λ_=>0}
noncomputable abbrev cM:List Ent:= [e3,e2,e1,e0]
noncomputable def gK(i:Nat):Stmt:=(aN.body[i]?).getD (.Pass ⟨0,0,0,0⟩)
theorem Bk{Φ:Nat→List D→Option D}{es:ME}{σ:ah}{d:D}(h:(ar Φ (.lst es)).v σ=some d): ∃m,d= .list m:=by
 refine ai (aK (show((ar Φ es).l σ).bind bC=some d from h)) λ_ _ h=>?_
 exact⟨_,(dE h).2⟩
noncomputable def Eb:MS:=(.asg 1 (.bin .Add (.var 0) (.lst (.cons (.aL (.int 1)) (.cons (.aL (.int 2)) .nil)))))
noncomputable def HP:MS:=(.asg 2 (.lst (.cons (.aL (.int 0)) (.cons (.aL (.bool false)) (.cons (.aL (.str (Str.ofString "0.0"))) (.cons (.aL (.str (Str.ofString "0?"))) (.cons (.aL .none) (.cons (.lst (.cons (.aL (.int 0)) .nil)) (.cons (.bin .Pow (.aL (.int 2)) (.aL (.int 1024))) .nil)))))))))
noncomputable def HQ:MS:=(.asg 3 (.lst (.cons (.aL .none) (.cons (.aL .none) (.cons (.aL .none) (.cons (.tup (.cons (.aL (.str (Str.ofString "kind"))) (.cons (.aL (.bool true)) .nil))) (.cons (.tup (.cons (.aL (.str (Str.ofString "kind"))) (.cons (.aL (.bool false)) .nil))) (.cons (.tup (.cons (.aL (.str (Str.ofString "kind"))) (.cons (.aL (.bool false)) .nil))) (.cons (.tup (.cons (.aL (.str (Str.ofString "past"))) (.cons (.aL (.str (Str.ofString ""))) .nil))) .nil)))))))))
noncomputable def Bl:MS:=(.own 5 (.lst (.cons (.lst .nil) .nil)))
noncomputable def RN:MS:=(.asg 8 (.comp (.bin .Add (.var 16) (.bin .Mult (.bin .Pow (.aL (.int 2)) (.aL (.int 1024))) (.bin .Sub (.bin .Mod (.var 16) (.aL (.int 3))) (.aL (.int 1))))) (.one 16) (.var 6) .nil .nil))
noncomputable def wX:MS:=(.asg 9 (.bin .FloorDiv (.bi .len (.cons (.var 6) .nil)) (.aL (.int 2))))
noncomputable def RO:MS:=(.asg 10 (.comp (.bin .Add (.bin .Add (.item (.lst (.cons (.aL (.str (Str.ofString "?"))) (.cons (.aL (.str (Str.ofString ""))) (.cons (.aL (.str (Str.ofString ""))) .nil)))) (.bin .Mod (.var 16) (.aL (.int 3)))) (.bi .str (.cons (.bin .Mod (.var 16) (.aL (.int 1000))) .nil))) (.item (.lst (.cons (.aL (.str (Str.ofString ""))) (.cons (.aL (.str (Str.ofString ""))) (.cons (.aL (.str (Str.ofString ".5"))) .nil)))) (.bin .Mod (.var 16) (.aL (.int 3))))) (.one 16) (.var 6) .nil .nil))
noncomputable def Ec:MS:=(.own 5 (.bin .Add (.var 5) (.lst (.cons (.var 8) (.cons (.var 10) (.cons (.comp (.lst (.cons (.bin .Mod (.var 16) (.aL (.int 5))) .nil)) (.one 16) (.var 6) .nil .nil) (.cons (.bin .Add (.bin .Add (.rZ (.var 8) .nil (.var 9) .nil) (.lst (.cons (.aL (.str (Str.ofString "0"))) .nil))) (.rZ (.var 8) (.var 9) .nil .nil)) .nil)))))))
noncomputable def Bm:MS:= .seq RN (.seq wX (.seq RO (.seq Ec .skip)))
noncomputable def yI:MS:= .sT (.one 6) (.tup (.cons (.var 1) (.cons (.rZ (.var 1) (.aL (.int 1)) .nil .nil) .nil))) Bm
noncomputable def tF:MS:=(.asg 11 (.comp (.oC (.cmp .Is (.bi .type (.cons (.var 17) .nil)) (.tW "list")) (.bi .list (.cons (.var 17) .nil)) (.var 17)) (.one 17) (.var 7) .nil .nil))
noncomputable def Bn:MS:=(.asg 12 (.call 2 (.cons (.var 7) (.cons (.var 3) .nil))))
noncomputable def qz:ME:=(.bi .range (.cons (.bi .len (.cons (.var 4) .nil)) .nil))
noncomputable def HR:MS:=(.ret (.aL (.bool true)))
noncomputable def Ed(i:Nat):Stmt:=match gK 5 with
 | .For _ _ l _ _=>(l[i]?).getD (.Pass ⟨0,0,0,0⟩)
 |x=>x
structure XX(c:Cx)(sc:Scope)(me:ME)(x:Expr):Prop where
 of:ay c sc me x
structure FL(c:Cx)(sc:Scope)(asg:Str→Bool)(m:MS)(st:Stmt):Prop where
 of:dI c sc asg m st
theorem O5{c:Cx}{sc:Scope}{es:ME}{xs:List Expr}{pos:Pos}(h:fh c sc es xs)(h0:(Ds c es).all (· ==0)=true):XX c sc (.lst es) (.List xs pos):=⟨bF h h0⟩
theorem O6{c:Cx}{sc:Scope}{asg:Str→Bool}{x:Nat}{n:Str}{e:ME}{v:Expr}{np pos:Pos}(hx:c.nt[x]? =some n)(ha:asg n=true)(hw:c.ow x=0)(xZ:XX c sc e v)(h0:gG c e=0)
  (hs: ∀env:Env,env.scope=sc→swapsWith v (some (.Name n np)) pos.line env=pure false):FL c sc asg (.asg x e) (.Assign [.Name n np] v pos):=⟨a6 hx ha hw xZ.of h0 hs⟩
noncomputable def O7(i:Nat):Stmt:=match gK 6 with
 | .For _ _ l _ _=>(l[i]?).getD (.Pass ⟨0,0,0,0⟩)
 |x=>x
theorem VZ{base:Cx}(cX:base.bn=cR names)(ok:(base.of cM eL).Ok):dI (base.of cM eL) aN.scope (aW aN.scope) Eb (gK 0):=by
 unfold Eb
 exact(a6 rfl rfl rfl (ao (af rfl rfl rfl) (bF (ae aq rfl (ae aq rfl ak)) rfl) (aT rfl) (aT rfl)) rfl (λ_ _=>rfl))
theorem V0{base:Cx}(cX:base.bn=cR names)(ok:(base.of cM eL).Ok):FL (base.of cM eL) aN.scope (aW aN.scope) HP (gK 1):=by
 unfold HP
 exact(O6 rfl rfl rfl (O5 (ae aq rfl (ae dR rfl (ae a8 rfl (ae a8 rfl (ae hH rfl (ae (bF (ae aq rfl ak) rfl) rfl (ae (ao aq aq (aT rfl) (aT rfl)) rfl ak))))))) rfl) rfl (λ_ _=>rfl))
theorem V1{base:Cx}(cX:base.bn=cR names)(ok:(base.of cM eL).Ok):FL (base.of cM eL) aN.scope (aW aN.scope) HQ (gK 2):=by
 unfold HQ
 exact(O6 rfl rfl rfl (O5 (ae hH rfl (ae hH rfl (ae hH rfl (ae (bN (ae a8 rfl (ae dR rfl ak)) rfl) rfl (ae (bN (ae a8 rfl (ae dR rfl ak)) rfl) rfl (ae (bN (ae a8 rfl (ae dR rfl ak)) rfl) rfl (ae (bN (ae a8 rfl (ae a8 rfl ak)) rfl) rfl ak))))))) rfl) rfl (λ_ _=>rfl))
theorem O8{base:Cx}(cX:base.bn=cR names)(ok:(base.of cM eL).Ok):dI (base.of cM eL) aN.scope (aW aN.scope) Bl (gK 4):=by
 unfold Bl
 exact(G5 rfl rfl rfl rfl (ge1 rfl) (bF (ae (bF ak rfl) rfl ak) rfl) rfl (λ_ _=>rfl))
theorem rWh{base:Cx}(cX:base.bn=cR names)(ok:(base.of cM eL).Ok):dI (base.of cM eL) aN.scope (aW aN.scope) RN (Ed 0):=by
 unfold RN
 exact(qy ok ⟨(cK (af rfl rfl rfl)),λ_ _=>rfl,trivial,rfl,(eU rfl),(.one rfl rfl),eT,(tail_nil (ao (af rfl rfl rfl) (ao (ao aq aq (aT rfl) (aT rfl)) (ao (ao (af rfl rfl rfl) aq (aT rfl) (aT rfl)) aq (aT rfl) (aT rfl)) (aT rfl) (aT rfl)) (aT rfl) (aT rfl)) rfl rfl),rfl,rfl⟩ rfl rfl rfl (λenv h=>by cases env;dsimp only at h;subst h;rfl))
theorem O9{base:Cx}(cX:base.bn=cR names)(ok:(base.of cM eL).Ok):dI (base.of cM eL) aN.scope (aW aN.scope) wX (Ed 1):=by
 have bJ:=qP cX
 unfold wX
 exact(a6 rfl rfl rfl (ao (aD (f:= .len) ok bJ rfl rfl (ae (af rfl rfl rfl) rfl ak) rfl rfl) aq (aT rfl) (aT rfl)) rfl (λ_ _=>rfl))
theorem rTx{base:Cx}(cX:base.bn=cR names)(ok:(base.of cM eL).Ok):dI (base.of cM eL) aN.scope (aW aN.scope) RO (Ed 2):=by
 have qS:=A7 cX
 unfold RO
 exact(qy ok ⟨(cK (af rfl rfl rfl)),λ_ _=>rfl,trivial,rfl,(eU rfl),(.one rfl rfl),eT,(tail_nil (ao (ao (aJ (bF (ae a8 rfl (ae a8 rfl (ae a8 rfl ak))) rfl) (ao (af rfl rfl rfl) aq (aT rfl) (aT rfl)) (aT rfl) (λ_ _=>rfl)) (aD (f:= .str) ok qS rfl rfl (ae (ao (af rfl rfl rfl) aq (aT rfl) (aT rfl)) rfl ak) rfl rfl) (aT rfl) (aT rfl)) (aJ (bF (ae a8 rfl (ae a8 rfl (ae a8 rfl ak))) rfl) (ao (af rfl rfl rfl) aq (aT rfl) (aT rfl)) (aT rfl) (λ_ _=>rfl)) (aT rfl) (aT rfl)) rfl rfl),rfl,rfl⟩ rfl rfl rfl (λenv h=>by cases env;dsimp only at h;subst h;rfl))
theorem V2{base:Cx}(cX:base.bn=cR names)(ok:(base.of cM eL).Ok):dI (base.of cM eL) aN.scope (aW aN.scope) Ec (Ed 3):=by
 unfold Ec
 exact(HO rfl rfl (Zp rfl) (bF (ae (af rfl rfl rfl) rfl (ae (af rfl rfl rfl) rfl (ae (fJ ok ⟨(cK (af rfl rfl rfl)),λ_ _=>rfl,trivial,rfl,(eU rfl),(.one rfl rfl),eT,(tail_nil (bF (ae (ao (af rfl rfl rfl) aq (aT rfl) (aT rfl)) rfl ak) rfl) rfl rfl),rfl,rfl⟩) rfl (ae (ao (ao (hJ (af rfl rfl rfl) (aT rfl) cS (fH (af rfl rfl rfl) (aT rfl) rfl) cS) (bF (ae a8 rfl ak) rfl) (aT rfl) (aT rfl)) (hJ (af rfl rfl rfl) (aT rfl) (fH (af rfl rfl rfl) (aT rfl) rfl) cS cS) (aT rfl) (aT rfl)) rfl ak)))) rfl) rfl (λ_ _ h=>Bk h) rfl (λ_=>⟨_,rfl⟩))
theorem V3{base:Cx}(cX:base.bn=cR names)(ok:(base.of cM eL).Ok):dI (base.of cM eL) aN.scope (aW aN.scope) yI (gK 5):=by
 unfold yI
 exact(Ai (cK (bN (ae (af rfl rfl rfl) rfl (ae (hJ (af rfl rfl rfl) (aT rfl) (fH aq (aT rfl) rfl) cS cS) rfl ak)) rfl)) rfl (λ_ _=>rfl) (.one rfl rfl) rfl (av (rWh cX ok) (av (O9 cX ok) (av (rTx cX ok) (av (V2 cX ok) az)))) trivial rfl)
theorem Pa{base:Cx}(cX:base.bn=cR names)(ok:(base.of cM nN).Ok):dI (base.of cM nN) aN.scope (aW aN.scope) tF (O7 0):=by
 have cZ:=qQ cX
 have mj:=wU cX
 unfold tF
 exact(qy ok ⟨(cK (af rfl rfl rfl)),λ_ _=>rfl,trivial,rfl,(eU rfl),(.one rfl rfl),eT,(tail_nil (fG (aB (aD (f:= .type) ok cZ rfl rfl (ae (af rfl rfl rfl) rfl ak) rfl rfl) (ko ok mj rfl rfl) rfl) (aD (f:= .list) ok mj rfl rfl (ae (af rfl rfl rfl) rfl ak) rfl rfl) (af rfl rfl rfl)) rfl rfl),rfl,rfl⟩ rfl rfl rfl (λenv h=>by cases env;dsimp only at h;subst h;rfl))
theorem Pb{base:Cx}(cX:base.bn=cR names)(ok:(base.of cM nN).Ok):dI (base.of cM nN) aN.scope (aW aN.scope) Bn (O7 1):=by
 unfold Bn
 exact(a6 rfl rfl rfl (kt (f:=2) ok rfl rfl (ae (af rfl rfl rfl) rfl (ae (af rfl rfl rfl) rfl ak)) rfl rfl) rfl (λ_ _=>rfl))
theorem V4{base:Cx}(cX:base.bn=cR names)(ok:(base.of cM nN).Ok):dI (base.of cM nN) aN.scope (aW aN.scope) HR (gK 7):=by
 unfold HR
 exact(dh dR rfl rfl)
theorem itK{base:Cx}(cX:base.bn=cR names)(ok:(base.of cM nN).Ok){p1 p2 p3 p4 p5:Pos}:kA (base.of cM nN) aN.scope qz (.Call (.Name (Str.ofString "range") p1) [.Call (.Name (Str.ofString "len") p2) [.Name (Str.ofString "acts") p3] [] p4] [] p5) jP:=by
 have nH:=tB cX
 have bJ:=qP cX
 unfold qz
 exact(cK (aD (f:= .range) ok nH rfl rfl (ae (aD (f:= .len) ok bJ rfl rfl (ae (af rfl rfl rfl) rfl ak) rfl rfl) rfl ak) rfl rfl))
end Mine.Internal.dU
end
section
open PySem PySem.W PyProof.Rows
set_option Elab.async false
namespace Mine.Internal
theorem lI: ∀{ns:List Int} {n:Int},n∈ns→(if n==0 then 0 else n.natAbs.log2+1)≤WData.weightAll (ofPys (ns.map .int))
 |m::ns,n,h=>by
  rw[List.map_cons]
  skip
  rcases List.mem_cons.mp h with rfl|h
  ·skip
   exact Nat.le_trans (Nat.le_succ _) (Nat.le_add_right _ _)
  ·exact Nat.le_trans (lI h) (Nat.le_add_left _ _)
theorem yJ{l:OpenLaw}{w:World}{s₀ s₁:Shared}(Pc:l.most=some 63)(hbound:l.bound=none)
  {args:List WData} {vals:List Value} {as:List Addr} (HS:l.row.toRowW.claim.pre args=true) (Ee:WData.layableAll args=true) (DP:ReadsAllW l.row.toRowW.records (classAt s₀.heap) s₁.heap vals args as) (V5:WellAll w.params s₁.heap vals args) (GD: ∀a∈as,(a==sysModules)=false):
  ∃(ns:List Int) (a:Addr) (vs:List Value),vals= [.ref a]∧s₁.heap.IsList a vs.toArray∧IntsAre vs ns∧ns.length≤63∧ ∀n∈ns,n.natAbs.log2<2^20:=by
 have key: ∃(ns:List Int) (a:Addr) (vs:List Value),vals= [.ref a]∧s₁.heap.IsList a vs.toArray∧IntsAre vs ns∧ns.length≤63∧args= [ofPy (.list (ns.map .int))]:=by
  obtain⟨prog,name,about,foot,most,bound,writes⟩:=l
  subst Pc
  subst hbound
  wrow_args HS Ee DP V5 GD
  rename_i hL _ _ _ hI _ hc _
  exact⟨_,_,_,rfl,hL,hI,Int.ofNat_le.mp (Int.not_lt.mp hc),rfl⟩
 refine aO λXq kq=>?_
 refine Jz key λns a vs h1 h2 h3 h4 Pd=>?_
 subst Pd
 refine kq ?_
 refine⟨ns,a,vs,h1,h2,h3,h4,λn hn=>?_⟩
 refine gM (layableW_iff.mp (layW_cons Ee).1) λ_ _ hw=>?_
 have Rm:WData.weightAll (ofPys (ns.map .int))≤2^20:=hw
 have:=Nat.le_trans (lI hn) Rm
 by_cases h0:n=0
 ·subst h0;decide
 ·rw[if_neg (by simpa using h0)]at this
  exact this
end Mine.Internal
end
section
open PySem PyProof.Rows
namespace Mine.Internal
noncomputable def qT(R:D→D→Prop):List D→List D→Prop
 | [],l'=>l'= []
 |d::l,l'=> ∃d' t,l'=d'::t∧R d d'∧qT R l t
noncomputable def Bo(d d':D):Prop:=(∃a m,d= .list [.int m]∧d'= .obj a m)∨(d.isList=false∧d'=d)
noncomputable def wY(d d':D):Prop:= ∃l l',d= .list l∧d'= .list l'∧qT Bo l l'
noncomputable def Pe(d:D):Prop:=d.isList=false∨ ∃m,d= .list [.int m]
noncomputable def Ef(d:D):Prop:= ∃l,d= .list l∧ ∀x∈l,Pe x
theorem qT.length{R:D→D→Prop}: ∀{l l':List D},qT R l l'→l'.length=l.length
 | [],_,h=>by rw[show _=([]:List D)from h]
 |_::_,_,⟨_,_,e,_,h⟩=>by rw[e,List.length_cons,List.length_cons,h.length]
section
variable{Z:Addr→Prop}{h:Heap}
theorem qU{R:D→D→Prop}{p:D→Prop}(k: ∀d v,p d→aZ Z h d v→ ∃d',R d d'∧aZ Z h d' v): ∀{l:List D} {vs:List Value},(∀d∈l,p d)→aF Z h l vs→ ∃l',qT R l l'∧aF Z h l' vs
 | [],vs,_,r=>⟨[],rfl,r⟩
 |d::l,vs,hp,⟨v,ws,e,r,rs⟩=>by
  refine ai (k d v (hp d (.head _)) r) λd' h1 h2=>?_
  refine ai (qU k (λx hx=>hp x (.tail _ hx)) rs) λl' h3 h4=>?_
  exact⟨d'::l',⟨d',l',rfl,h1,h3⟩,v,ws,e,h2,h4⟩
theorem Bp(d:D)(v:Value)(hp:Pe d)(r:aZ Z h d v): ∃d',Bo d d'∧aZ Z h d' v:=by
 rcases hp with hd|⟨m,rfl⟩
 ·exact⟨d,.inr ⟨hd,rfl⟩,r⟩
 ·refine aO λXq kq=>?_
  obtain⟨a,vs,rfl,z,_,pl,w,ws,rfl,⟨t,rfl⟩,rfl⟩:=r
  refine kq ?_
  exact⟨.obj a m,.inl ⟨a,m,rfl,rfl⟩,rfl,z,t,pl⟩
theorem Bq(d:D)(v:Value)(hp:Ef d)(r:aZ Z h d v): ∃d',wY d d'∧aZ Z h d' v:=by
 refine aO λXq kq=>?_
 refine ai hp λl Pf hl=>?_
 subst Pf
 refine cz r λa vs Pg z hlen pl rs=>?_
 subst Pg
 refine ai (qU Bp hl rs) λl' h1 h2=>?_
 refine kq ?_
 exact⟨.list l',⟨l,l',rfl,rfl,h1⟩,a,vs,rfl,z,by rw[h1.length];exact hlen,pl,h2⟩
end
end Mine.Internal
end
section
open PySem PySem.W PyProof.Rows
set_option Elab.async false
namespace Mine.Internal.dU
noncomputable def iv:Fn:=fnAt pw 8 [Str.ofString "width"]
noncomputable abbrev Ph:Str:=Str.ofString "median_grouped"
noncomputable def lV:List D:= [.int 0,.bool false,.str (Str.ofString "0.0"),.str (Str.ofString "0?"),.none,.list [.int 0],.int (2^1024)]
noncomputable def iy:List D:= [.none,.none,.none,.tup [.str (Str.ofString "kind"),.bool true],.tup [.str (Str.ofString "kind"),.bool false],.tup [.str (Str.ofString "kind"),.bool false],.tup [.str (Str.ofString "past"),.str (Str.ofString "")]]
noncomputable abbrev Φ4:Nat→List D→Option D:=qB cM
noncomputable def vm(ns:List Int):List D:=ns.map .int++ [.int 1,.int 2]
noncomputable def σ0(ns:List Int):ah:=upd (λ_=>none) 0 (.CH ns)
noncomputable def σ3(ns:List Int):ah:=upd (upd (upd (σ0 ns) 1 (.list (vm ns))) 2 (.list lV)) 3 (.list iy)
noncomputable def lW(a1 a2 a3:Addr)(xs:List Addr):List D:= [.fn a1,.fn a2,.fn a3]++xs.map .fn
noncomputable def σ4(ns:List Int)(a1 a2 a3:Addr)(xs:List Addr):ah:=upd (σ3 ns) 4 (.list (lW a1 a2 a3 xs))
theorem cq{l:List D}(h:l.length≤bW):bC l=some (.list l):=if_pos h
theorem HT{ns:List Int}(h:ns.length≤63):run Φ4 Eb (σ0 ns)=some (.nx (upd (σ0 ns) 1 (.list (vm ns)))):=by
 have e:bC (ns.map D.int++ [.int 1,.int 2])=some (.list (vm ns)):=cq (by
  rw[List.length_append,List.length_map]
  exact Nat.le_trans (Nat.add_le_add_right h 2) (by decide))
 show Option.map (λd=>Out.nx (upd (σ0 ns) 1 d)) (bC (ns.map D.int++ [.int 1,.int 2]))=_
 rw[e];rfl
theorem HU{σ:ah}:run Φ4 HP σ=some (.nx (upd σ 2 (.list lV))):=by
 rfl
theorem HV{σ:ah}:run Φ4 HQ σ=some (.nx (upd σ 3 (.list iy))):=by
 rfl
structure Facts(base:Cx)(C:Addr):Prop where
 ctx:Ctx base C
 os:dZ base.hT C
 FF:ig jx (.ref 77) 84 base.hT
 dflt: ∃o v n,base.hT.get? 77=some o∧o.data= .seq #[v] n
 left:base.mg (Str.ofString "bisect_left")=some (.builtin "_bisect.bisect_left")
 right:base.mg (Str.ofString "bisect_right")=some (.builtin "_bisect.bisect_right")
 HW:base.mg Ph=some (.ref 84)
 low:eN base jU
 high:eN base eZ
 oP:eN base jV
 say:eN base yy
 h0:eN base f0
 h1:eN base f1
 h2:eN base f2
 h3:eN base f3
theorem lJ{base:Cx}{f:Fn}{h:Heap}(k:Ext base.hT h)(x:eN base f):eN {base with hT:=h} f:=let⟨a,h1,h2⟩:=x;⟨a,h1,h2.keeps k⟩
theorem Facts.up{base:Cx}{C:Addr}{h:Heap}(k:Ext base.hT h)(x:Facts base C):Facts {base with hT:=h} C where
 ctx:=⟨⟨x.ctx.b.g.keeps k,x.ctx.b.b.keeps k,x.ctx.b.bn,x.ctx.b.lim.keeps k⟩,x.ctx.prog,x.ctx.bn,x.ctx.own.keeps k⟩
 os:=x.os.keeps k
 FF:=x.FF.keeps k
 dflt:=let⟨o,v,n,h1,h2⟩:=x.dflt;⟨o,v,n,k _ _ h1,h2⟩
 left:=x.left
 right:=x.right
 HW:=x.HW
 low:=lJ k x.low
 high:=lJ k x.high
 oP:=lJ k x.oP
 say:=lJ k x.say
 h0:=lJ k x.h0
 h1:=lJ k x.h1
 h2:=lJ k x.h2
 h3:=lJ k x.h3
theorem Facts.ok{base:Cx}{C:Addr}(x:Facts base C){e:Ent}(hn:e.nt.Nodup):(base.of cM e).Ok:=Aq x.ctx.b (ch x.ctx.bn x.h0 x.h1 x.h2 x.h3) e hn
theorem vn:VY.Nodup:=of_decide_eq_true (by kernel_rfl)
theorem Facts.V6{base:Cx}{C:Addr}(x:Facts base C):(base.of cM eL).Ok:=x.ok (e:=eL) vn
theorem Facts.HX{base:Cx}{C:Addr}(x:Facts base C):(base.of cM nN).Ok:=x.ok (e:=nN) vn
theorem Br{base:Cx}{f:Fn}(x:eN base f): ∃a,base.mg f.name=some (.ref a)∧FnAt f a base.hT∧ ∃o fd,base.hT.get? a=some o∧o.data= .func fd:=by
 refine aO λXq kq=>?_
 refine ai x λa h1 h2=>?_
 refine eh (id h2) λo pm cd doc h3 h4 h5=>?_
 refine kq ?_
 exact⟨a,h1,h2,o,_,h3,h4⟩
noncomputable def qV(a1 a2 a3:Addr)(xs:List Addr)(a:Addr)(R:List D→Res→Prop):Prop:=(a=a1∧R=yu)∨(a=a2∧R=pS)∨(a=a3∧R=yv)∨ ∃(i:Nat) (dw:D),xs[i]? =some a∧lV[i]? =some dw∧R=A0 dw
noncomputable def jX:Arguments×Expr×Scope×Pos×Pos:=match iv.body with
 | [.Return (some (.Lambda p b s l)) r]=>(p,b,s,l,r)
 |_=>(⟨[],[],none,[],[],none,[]⟩,.Name Str.empty ⟨0,0,0,0⟩,⟨.module,[],false,false,[]⟩,⟨0,0,0,0⟩,⟨0,0,0,0⟩)
noncomputable abbrev Pj:Heap→Addr→D→Prop:=lU iv.lq jX.1 jX.2.1 jX.2.2.1 (Str.ofString "width")
theorem Facts.V7{base:Cx}{C:Addr}(x:Facts base C){a1 a2 a3:Addr}{xs:List Addr}(h1:base.mg jU.name=some (.ref a1))(h2:base.mg eZ.name=some (.ref a2))(h3:base.mg jV.name=some (.ref a3))(hl:ir (Pj base.hT) xs lV):
  ∀a R,qV a1 a2 a3 xs a R→(∃o fd,base.hT.get? a=some o∧o.data= .func fd)∧eY pw base.w (.ref C) base.hT a R:=by
 have one: ∀{f:Fn} {a:Addr},eN base f→base.mg f.name=some (.ref a)→FnAt f a base.hT∧ ∃o fd,base.hT.get? a=some o∧o.data= .func fd:=λ{f a} y h=>by
  refine bK (Br y) λa' q1 q2 q3=>?_
  replace q1:=h▸q1
  cases q1
  exact⟨q2,q3⟩
 rintro a R (⟨rfl,rfl⟩|⟨rfl,rfl⟩|⟨rfl,rfl⟩|⟨i,dw,e1,e2,rfl⟩)
 ·exact⟨(one x.low h1).2,DW x.ctx (one x.low h1).1⟩
 ·exact⟨(one x.high h2).2,A1 x.ctx (one x.high h2).1⟩
 ·exact⟨(one x.oP h3).2,DX x.ctx (one x.oP h3).1⟩
 ·refine aO λXq kq=>?_
  obtain⟨d,e3,vw,lam,rep⟩:=hl.get e1
  replace e3:=e2▸e3
  obtain rfl:=Option.some.inj e3
  obtain⟨pm,qK,ct,k,q1,q2,q3⟩:=id lam
  refine xo x.dflt λog v n g1 g2=>?_
  refine kq ?_
  refine⟨⟨_,_,q1,rfl⟩,?_⟩
  refine DV (hT:=base.hT) (mg:=base.mg) (dw:=dw) (gn:=Ph) (inn:=Str.ofString "items") (wn:=Str.ofString "width") x.ctx.b.g x.ctx.b.lim x.HW lam (λ_ _ _ _ _=>rfl) rfl rfl rfl (by decide) rfl rfl rfl rfl rfl rfl (rep.change λa o _ e=>⟨e,⟨o,e⟩⟩) ?_
   (A2 x.ctx (A3 g1 g2) x.FF x.left x.right)
  refine aO λXq kq=>?_
  refine eh x.FF λo Bd yE qW r1 r2 _=>?_
  refine kq ?_
  exact⟨o,_,r1,r2⟩
end Mine.Internal.dU
end
section
open PySem PySem.W PyProof.Rows
set_option Elab.async false
namespace Mine.Internal.dU
theorem Eg:aN.body= [gK 0,gK 1,gK 2,gK 3,gK 4,gK 5,gK 6,gK 7]:=rfl
theorem RP{env:Env}(he:env.scope=aN.scope)(x:Str):env.kindOf x≠some .cell∧env.kindOf x≠some .free:=by
 have fA:aN.scope.names.all (λx=> !(x.2== .cell)&& !(x.2== .free))=true:=by kernel_rfl
 have key: ∀k,env.kindOf x=some k→(!(k== .cell)&& !(k== .free))=true:=λk h=>by
  unfold Env.kindOf at h
  rw[he]at h
  exact List.all_eq_true.mp fA (x,k) (mem_of_lookup h)
 exact⟨λh=>by have:=key _ h;simp at this,λh=>by have:=key _ h;simp at this⟩
theorem V8{env:Env}(he:env.scope=aN.scope)(x:Str)(h:aW aN.scope x=true):env.kindOf x=some .local:=by
 have hk:env.kindOf x=aN.scope.names.lookup x:=by unfold Env.kindOf;rw[he]
 simp only[aW,Bool.or_eq_true,beq_iff_eq]at h
 rcases h with h|h
 ·exact hk.trans h
 ·exact absurd (hk.trans h) (RP he x).1
theorem HY{base:Cx}{σ:ah}{own:Nat→Option Addr}(oo:bq (base.of cM eL) σ own)(h5:σ 5=none):own=noOwn:=funext λx=>by
 have h:=oo x
 have e:(base.of cM eL).ow x=if x=5 then 1 else 0:=rfl
 rw[e]at h
 by_cases hx:x=5
 ·subst hx;rw[h5]at h;simpa [noOwn]using h
 ·rw[if_neg hx]at h;simpa [noOwn]using h
theorem Bs{c:Cx}{A:Around}{env:Env}{s:Shared}{σ:ah}{K K' C:Addr→Prop}{asg:Str→Bool}(p:Act c A env s σ K' C asg noOwn)(mS: ∀b,K' b→K b)(hK: ∀a,s.heap.get? a=none→K a):Act c A env s σ K C asg noOwn:=
 p.change (h':=s.heap) (tk:=s.toks) (.ext p.top (.refl _)) mS hK p.hC λ_ _ h=>by cases h
theorem Eh{l:List (Str×NameKind)}{y:Str}(h:(l.all λx=> !(x.2== .cell))=true)(e:l.lookup y=some .cell):False:=by
 have:=List.all_eq_true.mp h _ (mem_of_lookup e)
 simp at this
set_option maxHeartbeats 400000 in
theorem HZ{base:Cx}{C cc P ag:Addr}(x:Facts base C)(g:vi (base.of cM eL) iv (Str.ofString "_law_grouped") (Str.ofString "width") jX.1 jX.2.1 jX.2.2.1 jX.2.2.2.1 jX.2.2.2.2 cc P ag)
  {A:Around} {env:Env} {s:Shared} {ns:List Int} {Q:Flow→Shared→Prop} {E:Value→Shared→Prop} (he:env.scope=aN.scope) (p:Act (base.of cM eL) A env s (σ0 ns) (λb=>b≠P) (λ_=>True) (aW aN.scope) noOwn) (hlen:ns.length≤63)
  (hP:s.heap.get? P=some (tabObj #[]))
  (hQ: ∀h' tk a1 a2 a3 xs,base.mg jU.name=some (.ref a1)→base.mg eZ.name=some (.ref a2)→base.mg jV.name=some (.ref a3)→Act (base.of cM eL) A env {s with heap:=h',toks:=tk} (σ4 ns a1 a2 a3 xs) (λb=>b≠P) (λ_=>True) (aW aN.scope) noOwn→
   (∀hT,(∀b o,h'.get? b=some o→b≠P→b≠env.locals→hT.get? b=some o)→ir (Pj hT) xs lV)→(∃ps,h'.get? P=some (tabObj ps))→
   wpAny (model base.prog base.w) A (execs [gK 4,gK 5,gK 6,gK 7] env) Q E {s with heap:=h',toks:=tk}):
  wpAny (model base.prog base.w) A (execs aN.body env) Q E s:=by
 have ok:=x.V6
 refine aO λXq kq=>?_
 refine ai x.low λa1 h1 _=>?_
 refine ai x.high λa2 h2 _=>?_
 refine ai x.oP λa3 h3 _=>?_
 refine kq ?_
 rw[Eg]
 have b0:FL (base.of cM eL) aN.scope (aW aN.scope) Eb (gK 0):=⟨VZ x.ctx.bn ok⟩
 have b1:=V0 x.ctx.bn ok
 have b2:=V1 x.ctx.bn ok
 generalize gK 0=Xv at b0 ⊢
 generalize gK 1=cw at b1 ⊢
 generalize gK 2=ee at b2 ⊢
 have step: ∀{s:Shared} {σ σ':ah} {m:MS} {st:Stmt} {rest:List Stmt},FL (base.of cM eL) aN.scope (aW aN.scope) m st→Act (base.of cM eL) A env s σ (λb=>b≠P) (λ_=>True) (aW aN.scope) noOwn→s.heap.get? P=some (tabObj #[])→run Φ4 m σ=some (.nx σ')→σ 5=none→σ' 5=none→
   (∀h' tk,Act (base.of cM eL) A env {s with heap:=h',toks:=tk} σ' (λb=>b≠P) (λ_=>True) (aW aN.scope) noOwn→h'.get? P=some (tabObj #[])→wpAny (model base.prog base.w) A (execs rest env) Q E {s with heap:=h',toks:=tk})→
   wpAny (model base.prog base.w) A (execs (st::rest) env) Q E s:=λ{s σ σ' m st rest} hs p hP hr n1 n2 k=>by
  have oo:bq (base.of cM eL) σ noOwn:=λy=>by
   by_cases hy:y=5
   ·subst hy;rw[n1];simp[noOwn]
   ·have e:(base.of cM eL).ow y=if y=5 then 1 else 0:=rfl
    rw[e,if_neg hy];simp[noOwn]
  refine wpAny_execs_cons (hs.of A env s σ _ _ noOwn (.nx σ') _ E he p oo hr λh' tk K' dB a' o' ch=>?_)
  obtain rfl:=(HY o' n2)
  have V9:=(ch.dat P _ (iR _) hP λ_ h=>by cases h).1
  exact k h' tk (Bs a' (λb kb q=>by subst q;exact ch.sub _ _ hP kb rfl) λa e q=>by subst q;rw[show h'.get? a=none from e]at V9;cases V9) V9
 refine step b0 p hP (HT hlen) rfl rfl λh' tk p1 hP1=>?_
 refine step b1 p1 hP1 HU rfl rfl λh' tk p2 CO=>?_
 refine step b2 p2 CO HV rfl rfl λh' tk p3 hP3=>?_
 refine wpAny_execs_cons ?_
 refine D8 (c:=base.of cM eL) (ax:=4) (iw:=15) (xw:=2) (items:=lV) (an:=iu) (wn:=Str.ofString "width") (ws:=Str.ofString "widths") (m1:=jU.name) (m2:=eZ.name) (m3:=jV.name) g ok (show 1≤4 by decide) h1 h2 h3 (by kernel_rfl) (by kernel_rfl) (by kernel_rfl) (by kernel_rfl) (by kernel_rfl) (by kernel_rfl)
  rfl (by kernel_rfl) rfl rfl rfl (by kernel_rfl) rfl (by kernel_rfl) (by kernel_rfl) (by kernel_rfl) (by kernel_rfl) (λy h=>?_) rfl rfl (λ_=>rfl) he (λy=>(RP he y).1) p3 rfl (by decide) hP3 λh' tk xs p4 lams tab=>hQ h' tk a1 a2 a3 xs h1 h2 h3 p4 lams tab
 exact Eh (by kernel_rfl) h
end Mine.Internal.dU
end
section
open PySem PySem.W PyProof.Rows
set_option Elab.async false
namespace Mine.Internal.dU
noncomputable def Pk(RA:Addr→(List D→Res→Prop)→Prop):MS:= .seq tF (.seq Bn (.seq (.sT (.one 13) qz (.Ru (nM Φ4 RA))) .skip))
noncomputable def wZ(RA:Addr→(List D→Res→Prop)→Prop):MS:= .sT (.one 7) (.var 5) (Pk RA)
noncomputable def Bt(RA:Addr→(List D→Res→Prop)→Prop)(σ:ah):Prop:= ∃σ6 rows,run Φ4 yI (upd σ 5 (.list [.list []]))=some (.nx σ6)∧σ6 5=some (.list rows)∧(∀r∈rows,Ef r)∧ ∀eI,qT wY rows eI→ ∃σ7,run Φ4 (wZ RA) (upd σ6 5 (.list eI))=some (.nx σ7)
theorem Pl{base:Cx}{C:Addr}(x:Facts base C){A:Around}{env:Env}(he:env.scope=aN.scope)(fq:A.frames=some [env])(tf:env.frame=some env.locals): ∃aS,Bh (base.of cM nN) A env aN.scope (.ref C) aS:=by
 refine bK (Br x.say) λaS h1 h2 h3=>?_
 refine⟨aS,⟨x.HX,he,λ_=>rfl,λ_=>rfl,RP he,fq,tf,h1,h3,by kernel_rfl,by kernel_rfl,by kernel_rfl,rfl,rfl,rfl,rfl,rfl,rfl,rfl,rfl,by kernel_rfl,by kernel_rfl,by kernel_rfl,by kernel_rfl,by kernel_rfl,by kernel_rfl,x.ctx.str (by kernel_rfl),by kernel_rfl,x.ctx.str (by kernel_rfl),by kernel_rfl,?_⟩⟩
 intro aA R A' s d v l r bs outer Q E CN hA pre hr VT hQ
 rw[show(base.of cM nN).prog=pw from x.ctx.prog]at hA ⊢
 exact HD x.ctx x.os h2 CN hA pre hr VT hQ
theorem Ei{base:Cx}{C:Addr}(x:Facts base C){RA:Addr→(List D→Res→Prop)→Prop}(OX: ∀a R,RA a R→(∃o fd,base.hT.get? a=some o∧o.data= .func fd)∧eY pw base.w (.ref C) base.hT a R){A:Around}{env:Env}(he:env.scope=aN.scope)(fq:A.frames=some [env])(tf:env.frame=some env.locals):
  DA (base.of cM nN) A env (aW aN.scope) (wZ RA) (gK 6):=by
 obtain⟨aS,F⟩:=Pl x he fq tf
 have ok:=x.HX
 have k1:=(Pa x.ctx.bn ok).at (A:=A) he
 have k2:=(Pb x.ctx.bn ok).at (A:=A) he
 unfold wZ Pk
 have Wa: ∀a R,RA a R→(∃o fd,(base.of cM nN).hT.get? a=some o∧o.data= .func fd)∧eY (base.of cM nN).prog (base.of cM nN).w (.ref C) (base.of cM nN).hT a R:=λa R h=>by
  rw[show(base.of cM nN).prog=pw from x.ctx.prog]
  exact OX a R h
 exact uM (cK (af rfl (by kernel_rfl) rfl)) rfl (λ_ _=>rfl) (.one rfl (by kernel_rfl)) rfl
  (uN k1 (uN k2 (uN (uM (itK x.ctx.bn ok) rfl (λ_ _=>rfl) (.one rfl (by kernel_rfl)) rfl (Ea F Wa (by kernel_rfl) (by kernel_rfl) rfl rfl) trivial rfl he) (az.at he)))) trivial rfl he
theorem disown{base:Cx}{A:Around}{env:Env}{s:Shared}{σ:ah}{K:Addr→Prop}{own:Nat→Option Addr}{rows:List D}(p:Act (base.of cM eL) A env s σ K (λ_=>True) (aW aN.scope) own)(oo:bq (base.of cM eL) σ own)(h5:σ 5=some (.list rows))(hr: ∀r∈rows,Ef r):
  ∃eI K',qT wY rows eI∧Act (base.of cM nN) A env s (upd σ 5 (.list eI)) K' (λ_=>True) (aW aN.scope) noOwn:=by
 have hi:=oo 5
 replace hi:=h5▸hi
 refine au (Option.isSome_iff_exists.mp (show(own 5).isSome=true by rw[hi];rfl)) λa ha=>?_
 refine aO λXq kq=>?_
 refine oq (p.cO 5 a ha) λname l vs e q=>?_
 have hv:=q.val
 replace hv:=h5▸hv
 cases hv
 refine ai (qU Bq hr q.rep) λeI c1 c2=>?_
 refine kq ?_
 have As: ∀x,x≠5→own x=none:=λx hx=>by
  have h:=oo x
  have e:(base.of cM eL).ow x=if x=5 then 1 else 0:=rfl
  rw[e,if_neg hx]at h
  simpa using h
 refine⟨eI,λb=>K b∨b=a,c1,?_⟩
 exact{
  room:=p.room,fn:=p.fn,gl:=p.gl,bl:=p.bl,top:=p.top
  hK:=λb e=> .inl (p.hK b e)
  hC:=p.hC
  cell:=p.cell,apart:=p.apart,nodup:=p.nodup,loc:=p.loc,hL:=p.hL,dS:=p.dS
  var:=λx d n g1 g2 g3 _=>by
   by_cases hx:x=5
   ·subst hx
    simp only[upd,if_true]at g1
    obtain rfl:=Option.some.inj g1
    have hn:=q.nt
    rw[show(base.of cM eL).nt[5]? =some n from g2]at hn
    obtain rfl:=Option.some.inj hn
    have lim:eI.length≤bW:=by rw[c1.length];exact q.lim
    refine⟨.ref a,q.named,⟨a,vs.toList,rfl,⟨.inr rfl,trivial⟩,lim,⟨e,q.obj⟩,c2.mono λ_ _ z=>⟨.inl z.1,trivial⟩⟩,⟨a,vs.toList,rfl,.inr rfl,lim,⟨e,q.obj⟩,c2.mono λ_ _ z=> .inl z.1⟩⟩
   ·simp only[upd,hx,if_false]at g1
    refine bK (p.var x d n g1 g2 g3 (As x hx)) λv w1 w2 w3=>?_
    have e:(base.of cM eL).lv x=if x=5 then 1 else 0:=rfl
    rw[e,if_neg hx]at w2
    exact⟨v,w1,(show aZ (λb=>K b∧True) s.heap d v from w2).mono λ_ _ z=>⟨.inl z.1,trivial⟩,w3.mono λ_ _ z=> .inl z⟩
  cO:=λ_ _ h=>by cases h
  eC:=λ_ _ _ h=>by cases h}
theorem H0{base:Cx}{C:Addr}(x:Facts base C){RA:Addr→(List D→Res→Prop)→Prop}(OX: ∀a R,RA a R→(∃o fd,base.hT.get? a=some o∧o.data= .func fd)∧eY pw base.w (.ref C) base.hT a R){A:Around}{env:Env}(he:env.scope=aN.scope)(fq:A.frames=some [env])(tf:env.frame=some env.locals)
  {s:Shared} {σ:ah} {K:Addr→Prop} {Q:Flow→Shared→Prop} {E:Value→Shared→Prop} (p:Act (base.of cM eL) A env s σ K (λ_=>True) (aW aN.scope) noOwn) (n5:σ 5=none) (h2:Bt RA σ)
  (hQ: ∀h' tk,Ext base.hT h'→(∀b o,cQ o→s.heap.get? b=some o→h'.get? b=some o)→Q (.ret (.bool true)) {s with heap:=h',toks:=tk}):
  wpAny (model base.prog base.w) A (execs [gK 4,gK 5,gK 6,gK 7] env) Q E s:=by
 refine aO λXq kq=>?_
 refine ft h2 λσ6 rows r1 r2 r3 r4=>?_
 refine kq ?_
 have b4:FL (base.of cM eL) aN.scope (aW aN.scope) Bl (gK 4):=⟨O8 x.ctx.bn x.V6⟩
 have b5:FL (base.of cM eL) aN.scope (aW aN.scope) yI (gK 5):=⟨V3 x.ctx.bn x.V6⟩
 have b6:=Ei x OX he fq tf
 have b7:FL (base.of cM nN) aN.scope (aW aN.scope) HR (gK 7):=⟨V4 x.ctx.bn x.HX⟩
 generalize gK 4=v5 at b4 ⊢
 generalize gK 5=JZ at b5 ⊢
 generalize gK 6=st6 at b6 ⊢
 generalize gK 7=st7 at b7 ⊢
 have oo:bq (base.of cM eL) σ noOwn:=λy=>by
  by_cases hy:y=5
  ·subst hy;rw[n5];simp[noOwn]
  ·have e:(base.of cM eL).ow y=if y=5 then 1 else 0:=rfl
   rw[e,if_neg hy];simp[noOwn]
 refine wpAny_execs_cons (b4.of A env s σ _ _ noOwn (.nx (upd σ 5 (.list [.list []]))) _ E he p oo rfl λh4 t4 K4 lO p4 o4 g4=>?_)
 refine wpAny_execs_cons (b5.of A env _ _ _ _ lO (.nx σ6) _ E he p4 o4 r1 λh5 t5 K5 aaM p5 o5 g5=>?_)
 refine aO λXq kq=>?_
 refine da (disown p5 o5 r2 r3) λeI K6 c1 p6=>?_
 refine au (r4 eI c1) λσ7 r7=>?_
 refine kq ?_
 have o6: ∀σ,bq (base.of cM nN) σ noOwn:=λσ y=>by
  have e:(base.of cM nN).ow y=0:=rfl
  rw[e];simp[noOwn]
 refine wpAny_execs_cons (b6 _ _ _ _ noOwn (.nx σ7) _ E p6 (o6 _) r7 λh7 t7 K7 Wb p7 o7 g7=>?_)
 have ro:Wb=noOwn:=funext λy=>by
  have h:=o7 y
  have e:(base.of cM nN).ow y=0:=rfl
  rw[e]at h
  simpa [noOwn]using h
 subst ro
 refine wpAny_execs_cons (b7.of A env _ _ _ _ noOwn (.rt (.bool true)) _ E he p7 o7 rfl λv h8 t8 K8 aaN g8 r8 _=>?_)
 obtain rfl:=(show v= .bool true from r8)
 have g:=g4.trans g5
 refine hQ h8 t8 (λb o e=>?_) λb o hd e=>(g8.dat b o hd (g7.dat b o hd (g.dat b o hd e λ_ h=>by cases h).1 λ_ h=>by cases h).1 λ_ h=>by cases h).1
 have e7:=p7.top b o e
 by_cases hd:cQ o
 ·exact(g8.dat b o hd e7 λ_ h=>by cases h).1
 ·exact g8.ma b o hd e7 (λq=>by rw[q,show base.hT.get? env.locals=none from p7.hL]at e;cases e) λy hk=>absurd hk (RP he y).1
end Mine.Internal.dU
end
section
open PySem PySem.W PyProof.Rows
namespace Mine.Internal
noncomputable def uc(h h':Heap):Prop:= ∀b o,o≠tabObj #[]→h.get? b=some o→h'.get? b=some o
section
variable{h h':Heap}
theorem uc.Ej{cd:Value}{q:Str}(k:uc h h')(x:h.CodeRec cd q):h'.CodeRec cd q:=by
 refine CT x λc oc vs t e h1 h2 h3=>?_
 refine⟨c,oc,vs,t,e,k c oc (λq=>?_) h1,h2,h3⟩
 subst q
 cases h2
 simp at h3
theorem uc.ns{a:Addr}{m:Str→Option Value}(k:uc h h')(x:h.Ns a m):h'.Ns a m:=
 let⟨o,es,ep,e,hd,r⟩:=x;⟨o,es,ep,k _ _ (λq=>by rw[q]at hd;cases hd) e,hd,r⟩
theorem uc.FN{f:Fn}{dV:Value}{a:Addr}(k:uc h h')(x:ig f dV a h):ig f dV a h':=
 let⟨o,pm,cd,doc,h1,h2,h3⟩:=x;⟨o,pm,cd,doc,k _ _ (λq=>by rw[q]at h2;cases h2) h1,h2,k.Ej h3⟩
theorem uc.fnAt{f:Fn}{a:Addr}(k:uc h h')(x:FnAt f a h):FnAt f a h':=k.FN x
theorem uc.tail{bmB tl:List Value}(k:uc h h')(x:OwnTailQ h bmB tl):OwnTailQ h' bmB tl:=by
 induction x with
 |base=>exact .base
 |own hA hN hq _ ih=>exact .own (k _ _ (λq=>by cases q) hA) (k.ns hN) hq ih
theorem uc.own{x:Str}{C:Addr}{bmB:List Value}{newId:String}{mg:Str→Option Value}(k:uc h h')(O:OwnClsQ x C bmB newId mg h):OwnClsQ x C bmB newId mg h':=by
 refine aO λXq kq=>?_
 obtain⟨hb,bm,N,nm,q,bs,hdct,sn,sub,ab,col,dd,k0,k1,k2,k3,k5,mN,hC,hN,hq,T⟩:=O
 refine kq ?_
 exact⟨hb,bm,N,nm,q,bs,hdct,sn,sub,ab,col,dd,k0,k1,k2,k3,k5,mN,k _ _ (λq=>by cases q) hC,k.ns hN,hq,k.tail T⟩
theorem uc.str{C:Addr}(k:uc h h')(x:dZ h C):dZ h' C:=by
 refine aO λXq kq=>?_
 obtain⟨nm,q,N,bs,hdct,sn,sub,ab,col,dd,k0,k1,k2,k3,k5,newId,mN,hC,hN,hm⟩:=x.there
 refine kq ?_
 exact⟨nm,q,N,bs,hdct,sn,sub,ab,col,dd,k0,k1,k2,k3,k5,newId,mN,k _ _ (λq=>by cases q) hC,k.ns hN,hm⟩
end
end Mine.Internal
end
section
open PySem PySem.W PyProof.Rows
set_option Elab.async false
namespace Mine.Internal.dU
noncomputable def FO(q:Program)(L:List Str)(x:Str):Bool:=
 !startupNames.contains x&& !(looseW q L).contains x&& !((recsOf q).map (·.name)).contains x&& !((litsOf q).map (·.1)).contains x&& !((clssOf q (looseW q L)).map (·.name)).contains x&& !(x==Str.ofString "__name__")
structure XY(q:Program)(L:List Str):Prop where
 free:names.all (FO q L)=true
 spec:specOf q FG=some ("ValueError.__new__",jh)
 low: ∃j,gq q j jU
 high: ∃j,gq q j eZ
 oP: ∃j,gq q j jV
 say: ∃j,gq q j yy
 h0: ∃j,gq q j f0
 h1: ∃j,gq q j f1
 h2: ∃j,gq q j f2
 h3: ∃j,gq q j f3
 FF: ∃j,gq q j iv
 law: ∃j,gq q j aN
theorem Bu{q:Program}{L:List Str}{R:WRecords}{XP:(Str→Option Value)→Heap→Prop}{w:World}{s₀:Shared}{mg mb:Str→Option Value}{h h':Heap}(Q:XY q L)(G:Ground q L R XP w s₀ mg mb h)(Y:Seen h)(k:uc h h')(cf:h'.NoLimit){base:Cx}(e1:base.prog=pw)(e2:base.mg=mg)(e3:base.mb=mb)(e4:base.hT=h')(e5:base.bn=cR names):
  ∃C,Facts base C:=by
 refine ai (G.T.ownAt Q.spec) λC O _=>?_
 have gl: ∀{f:Fn},(∃j,gq q j f)→eN base f:=λ{f} hj=>by
  refine au hj λj hj=>?_
  refine ai (Option.map_eq_some_iff.mp hj) λd hd he=>?_
  simp only[Prod.mk.injEq]at he
  refine za he λe1 SF e3' e4'=>?_
  refine Ge (G.T.fn d (List.mem_of_getElem? hd)) λa o pm cd doc h1 h2 h3 h4=>?_
  rw[e1]at h1 h4
  rw[e1,SF,e3',e4']at h3
  exact⟨a,by rw[e2];exact h1,by rw[e4];exact k.fnAt ⟨o,pm,cd,doc,h2,h3,h4⟩⟩
 have RQ: ∀x,mg x=h.nsMap mainGlobals x:=λx=>congrFun G.T.g.eq_nsMap x
 refine⟨C,⟨⟨⟨by rw[e4,e2];exact k.ns G.T.g,by rw[e4,e3];exact k.ns G.T.b,λx v hx=>?_,by rw[e4];exact cf⟩,e1,e5,by rw[e2,e4];exact k.own O⟩,?_,?_,?_,by rw[e2,RQ];exact Y.left,by rw[e2,RQ];exact Y.right,by rw[e2,RQ];exact Y.FF,
  gl Q.low,gl Q.high,gl Q.oP,gl Q.say,gl Q.h0,gl Q.h1,gl Q.h2,gl Q.h3⟩⟩
 ·replace hx:=e5▸hx
  unfold cR at hx
  split at hx
  ·rename_i hc
   have hf:=List.all_eq_true.mp Q.free x (by simpa using hc)
   simp only[FO,Bool.and_eq_true,Bool.not_eq_true',List.contains_eq_mem,decide_eq_false_iff_not,beq_eq_false_iff_ne]at hf
   refine aO λXq kq=>?_
   refine aX hf λPm g6=>?_
   obtain⟨⟨⟨⟨g1,g2⟩,g3⟩,g4⟩,g5⟩:=Pm
   refine kq ?_
   rw[e2,e3]
   refine⟨G.T.free x g1 g2 g3 g4 g5,?_⟩
   rw[G.T.builtins x g6];exact hx
  ·cases hx
 ·rw[e4]
  refine k.str ⟨?_⟩
  refine aO λXq kq=>?_
  obtain⟨hb,bm,N,nm,q',bs,hdct,sn,sub,ab,col,dd,k0,k1,k2,k3,k5,mN,hC,hN,hq,T⟩:=O
  have XZ:C=52:=by
   rw[RQ]at hb
   have:=Y.exc
   replace this:=hb▸this
   cases this;rfl
  refine ft Y.cls λo c c1 c2 c3 c4=>?_
  refine kq ?_
  rw[XZ,c1]at hC
  have hC':=Option.some.inj hC
  subst hC'
  cases c2
  have VB:bm=jh:=(List.cons.inj c4).2
  have hN1:N=51:=c3
  subst VB
  refine⟨nm,q',N,bs,hdct,sn,sub,ab,col,dd,k0,k1,k2,k3,k5,"ValueError.__new__",mN,by rw[XZ];exact c1,hN,?_⟩
  have:=congrFun hN.eq_nsMap (Str.ofString "__str__")
  rw[this,hN1];exact Y.str.2
 ·rw[e4]
  exact k.FN ⟨_,_,_,_,Y.fn,rfl,Y.code⟩
 ·rw[e4]
  exact⟨_,_,_,k _ _ (λq=>by cases q) Y.dflt,rfl⟩
theorem Bv{q:Program}{f:Fn}(h: ∃j,gq q j f): ∃d∈recsOf q,d.name=f.name∧d.params=f.params∧d.body=f.body∧d.scope=f.scope:=by
 refine au h λj hj=>?_
 refine ai (Option.map_eq_some_iff.mp hj) λd hd he=>?_
 simp only[Prod.mk.injEq]at he
 exact⟨d,List.mem_of_getElem? hd,he⟩
noncomputable abbrev H8:OpenLaw:=PySem.Challenge.rw_dn0166_12
set_option maxHeartbeats 1000000 in
theorem H9{q:Program}{L:List Str}{XP:(Str→Option Value)→Heap→Prop}{d:DefRec}(Q:XY q L)(hd:d.name=aN.name)
  (vo: ∀ns:List Int,ns.length≤63→(∀n∈ns,n.natAbs.log2<2^20)→ ∀a1 a2 a3 xs,xs.length=7→Bt (qV a1 a2 a3 xs) (σ4 ns a1 a2 a3 xs)):
  WalkO q L XP hook.says H8.row.toRowW d [] (λf vs=>call f vs):=by
 intro w s₀ s₁ mg mb G Y fa o pm cd doc dV kV ho dt CL hD X0 hg args vals as HS Ee DP V5 GD
 refine aO λXq kq=>?_
 refine Jz (yJ (l:=H8) rfl rfl HS Ee DP V5 GD) λns a vs Pn hL hI hlen Po=>?_
 subst Pn
 refine zc (Bv Q.FF) λdg X1 n1 n2 n3 n4=>?_
 refine Sh (G.T.tab dg X1) λag og fd cc P t1 t2 t3 t4 t5 t6=>?_
 refine kq ?_
 have hT:TabsAt [(cc,P)] s₁.heap:=λq hq=>by cases List.mem_singleton.mp hq;exact⟨CodeHd.of t5 t6,t6.2⟩
 have RS:s₁.heap.get? P=some (tabObj #[]):=t6.2
 have T':=ghost_top hT G.T
 have bar:uc s₁.heap (ghostOf s₁.heap [(cc,P)]):=λb o hn e=>ghost_get hT e hn
 have nP:(ghostOf s₁.heap [(cc,P)]).get? P=none:=hideAll_none _ (List.mem_singleton.mpr rfl)
 have back:Ext (ghostOf s₁.heap [(cc,P)]) s₁.heap:=λb o e=>of_hideAll _ e
 let base:Cx:={prog:=pw,w:=w,mg:=mg,mb:=mb,hT:=ghostOf s₁.heap [(cc,P)],bn:=cR names,nt:= [],lv:=λ_=>0,ow:=λ_=>0,Φ:=λ_ _=>none,sD:=λ_=>Str.empty,wi:=λ_=> [],Fl:=λ_=>false,k:=0}
 refine au (Bu (base:=base) Q G Y bar T'.nolimit rfl rfl rfl rfl rfl) λC x=>?_
 -- ql X2 function
 refine aO λXq kq=>?_
 refine zc (Bv Q.law) λdl MN l1 l2 l3 l4=>?_
 refine Ge (G.T.fn dl MN) λa' o' Bd yE qW w1 w2 w3 w4=>?_
 refine kq ?_
 rw[l1]at w1 w4
 rw[l1,l2,l3,l4]at w3
 have OR:a'=fa:=by
  rw[hd,w1]at X0
  cases X0;rfl
 subst OR
 have Pp:H8.row.toRowW.prog=pw:=rfl
 rw[Pp]
 refine enter_call (kn_post hT (λ_ _=>rfl) ?_)
 have hf:bU aN=true:=by kernel_rfl
 have oE:=hf
 simp only[bU,Bool.and_eq_true,beq_iff_eq,Bool.not_eq_true',decide_eq_true_eq]at oE
 refine aO λXq kq=>?_
 refine aX oE λPq g5=>?_
 obtain⟨⟨⟨⟨⟨g1,Aa⟩,qA⟩,g2⟩,g3⟩,g4⟩:=Pq
 refine kq ?_
 have cn:dX aN:=bind1 rfl (λ_ _ _ _=>rfl)
 refine codeAny_call_cells (fd:=Calls.docDef aN.name aN.params aN.body aN.scope Bd yE qW) (body:=aN.body) (by decide) w2 w3 G.T.nolimit w4 rfl (cn Bd yE qW [.ref a] rfl) rfl (λx hx=>?_) (λs₂ ix=>?_) Aa qA g1
 ·have hm:x.1∈aN.ps:=(List.of_mem_zip (show(x.1,x.2)∈aN.ps.zip [.ref a]from hx)).1
  have:=List.all_eq_true.mp g5 x.1 hm
  simp only[Bool.or_eq_true,beq_iff_eq]at this
  rcases this with h|h
  ·exact .inl h
  ·refine ai (cL aN.scope.names (s₁.heap.objs.size+1) [] (mem_of_lookup h)) λb q1 _=>?_
   exact .inr ⟨h,by rw[show(Calls.docDef aN.name aN.params aN.body aN.scope Bd yE qW).scope=aN.scope from rfl,q1];rfl⟩
 have aP:a≠P:=λq=>by
  refine bK hL λoL e1 e2 _=>?_
  rw[q,RS]at e1
  obtain rfl:=Option.some.inj e1
  cases e2
 have cm:jo ((base.of cM eL).k+1) callerA:=by
  refine⟨rfl,?_,?_⟩
  ·show callerA.depth+5<recursionLimit
   decide
  ·show callerA.units+10*5+20<cLine
   decide
 have p0:=kF (c:=base.of cM eL) (σ:=σ0 ns) (K:=λb=>b≠P) (Z:=λ_=>True) (fd:=Calls.docDef aN.name aN.params aN.body aN.scope Bd yE qW) (vals:= [.ref a]) rfl rfl rfl hf rfl cm vn back (λ_ _=>trivial) (λb e q=>by subst q;rw[RS]at e;cases e) ix λi d n h1 h2=>by
  have hi:i=0∧d= .CH ns:=by
   unfold σ0 upd at h1
   by_cases hi:i=0
   ·rw[if_pos hi]at h1
    obtain rfl:=Option.some.inj h1
    exact⟨hi,rfl⟩
   ·rw[if_neg hi]at h1;cases h1
  refine aX hi λPr Ps=>?_
  subst Pr
  subst Ps
  obtain rfl:=Option.some.inj h2
  have X3:ns.length≤bW:=Nat.le_trans hlen (by decide)
  exact⟨.ref a,.head _,⟨a,vs,rfl,⟨aP,trivial⟩,X3,hL,hI⟩,⟨a,vs,rfl,aP,X3,hL,hI⟩⟩
 have he:(callEnvC (Calls.docDef aN.name aN.params aN.body aN.scope Bd yE qW) s₁.heap.objs.size a').scope=aN.scope:=rfl
 have tf:(callEnvC (Calls.docDef aN.name aN.params aN.body aN.scope Bd yE qW) s₁.heap.objs.size a').frame=some (callEnvC (Calls.docDef aN.name aN.params aN.body aN.scope Bd yE qW) s₁.heap.objs.size a').locals:=rfl
 generalize callEnvC (Calls.docDef aN.name aN.params aN.body aN.scope Bd yE qW) s₁.heap.objs.size a'=env at ix p0 he tf ⊢
 refine cg ix.toInCall.same λh2 I8 Pt=>?_
 subst Pt
 have x12:Ext s₁.heap h2:=ix.toInCall.keep
 have CO:h2.get? P=some (tabObj #[]):=x12 _ _ RS
 have hgr:vi (base.of cM eL) iv (Str.ofString "_law_grouped") (Str.ofString "width") jX.1 jX.2.1 jX.2.2.1 jX.2.2.2.1 jX.2.2.2.2 cc P ag:=by
  refine aO λXq kq=>?_
  refine Ge (G.T.fn dg X1) λa2 o2 pm2 cd2 Wc v1 v2 v3 v4=>?_
  replace t1:=v1▸t1
  cases t1
  rw[n1]at v1 v4
  rw[n1,n2,n3,n4]at v3
  refine CR T'.bmain λbm ob b1 b2 b3 b4 b5 b6=>?_
  refine kq ?_
  refine⟨by kernel_rfl,bind1 rfl (λ_ _ _ _=>rfl),rfl,by kernel_rfl,rfl,λ_=>rfl,λx hx rE=>?_,λ_=>rfl,λq=>?_,bar.fnAt ⟨o2,pm2,cd2,Wc,v2,v3,v4⟩,λo fd' e h=>?_,(ghost_code hT).1,⟨bm,ob,b1,b2,λq=>?_,λq=>?_,b3,b4,b5,b6⟩,T'.nolimit,nP,v1⟩
  ·have fA:(jX.2.2.1.names.all λx=> !(x.2== .free)||x.1==Str.ofString "width")=true:=by kernel_rfl
   have:=List.all_eq_true.mp fA x hx
   replace this:=rE▸this
   simpa using this
  ·refine gO G.T.g λoG es ep e1 e2 _=>?_
   rw[q,RS]at e1
   obtain rfl:=Option.some.inj e1
   cases e2
  ·have e':=back _ _ e
   rw[t2]at e'
   obtain rfl:=Option.some.inj e'
   replace h:=t3▸h
   cases h
   exact t4
  ·refine gO T'.g λoG es ep e1 e2 _=>?_
   rw[q,e1]at b3
   obtain rfl:=Option.some.inj b3
   replace b6:=e2▸b6
   cases b6
  ·rw[q,nP]at b3;cases b3
 have fq:(callerA.deeper env).frames=some [env]:=Around.frames_deeper rfl
 refine HZ (base:=base) x hgr he p0 hlen CO λh' tk a1 a2 a3 xs m1 m2 m3 p4 lams tab=>?_
 have k:Ext base.hT (mask h' λb=>b≠P∧b≠env.locals):=λb o e=>(dv ⟨λq=>(by rw[q,show base.hT.get? P=none from nP]at e;cases e),λq=>(by rw[q,show base.hT.get? env.locals=none from p4.hL]at e;cases e)⟩).trans (p4.top b o e)
 have hl:=lams (mask h' λb=>b≠P∧b≠env.locals) λb o e e1 e2=>(dv ⟨e1,e2⟩).trans e
 have x1:=x.up k
 have p5:Act (({base with hT:=mask h' λb=>b≠P∧b≠env.locals}:Cx).of cM eL) (callerA.deeper env) env _ _ _ _ _ noOwn:=p4.RG (hG:=mask h' λb=>b≠P∧b≠env.locals) (λb o e=>(eV e).2) (cW λq=>q.2 rfl) (V8 he)
 refine au tab λps iZ=>?_
 refine H0 (base:={base with hT:=mask h' λb=>b≠P∧b≠env.locals}) x1 (x1.V7 m1 m2 m3 hl) he fq tf p5 rfl (vo ns hlen Po a1 a2 a3 xs hl.length) λh8 t8 k8 d8=>?_
 exact⟨⟨.inl ⟨.bool true,.bool true,[],rfl,λ_=>rfl,.bool _,by wrow_post,λ_=>⟨.nil,λ_ h=>by cases h⟩⟩,λb o e=>k8 b o (k b o e),rfl,hg⟩,⟨ps,d8 P _ (iR _) iZ⟩,trivial⟩
end Mine.Internal.dU
end
section
open PySem
namespace Mine.Internal
section
variable{Φ:Nat→List D→Option D}{σ:ah}
@[simp] theorem bS(σ:ah)(x:Nat)(d:D):upd σ x d x=some d:=by simp[upd]
@[simp] theorem jz(σ:ah){x y:Nat}(d:D)(h:y≠x):upd σ x d y=σ y:=by simp[upd,h]
noncomputable def oU(r:Option D):Option D:=r.bind aV
@[simp] theorem Pu(i:Int):oU (some (.int i))=some (.int i):=rfl
@[simp] theorem Ji(i:Bool):oU (some (.bool i))=some (.bool i):=rfl
@[simp] theorem Jj(l:List D):oU (some (.list l))=some (.list l):=rfl
@[simp] theorem Pw(l:List D):oU (some (.tup l))=some (.tup l):=rfl
@[simp] theorem Px(l:List Int):oU (some (.CH l))=some (.CH l):=rfl
@[simp] theorem Py(l:Str):oU (some (.str l))=some (.str l):=rfl
@[simp] theorem Jk:oU (some .none)=some .none:=rfl
@[simp] theorem RT(l:String):oU (some (.ty l))=some (.ty l):=rfl
@[simp] theorem Pz(l:UInt64):oU (some (.cx l))=some (.cx l):=rfl
@[simp] theorem v_var(x:Nat):(ar Φ (.var x)).v σ=oU (σ x):=rfl
@[simp] theorem X4(d:D):(ar Φ (.aL d)).v σ=some d:=rfl
@[simp] theorem X5(n:String):(ar Φ (.tW n)).v σ=some (.ty n):=rfl
noncomputable def PA(d:D):Option D:=d.int?.map λi=> .int (-i)
@[simp] theorem PB(i:Int):PA (.int i)=some (.int (-i)):=rfl
@[simp] theorem FP(a:ME):(ar Φ (.neg a)).v σ=((ar Φ a).v σ).bind PA:=rfl
@[simp] theorem v_not(a:ME):(ar Φ (.not a)).v σ=((ar Φ a).v σ).bind λd=>(cD d).map λb=> .bool (!b):=rfl
@[simp] theorem FQ(a:ME):(ar Φ (.not a)).t σ=((ar Φ a).t σ).map (!·):=rfl
@[simp] theorem PC(o:Operator)(a b:ME):(ar Φ (.bin o a b)).v σ=((ar Φ a).v σ).bind λx=>((ar Φ b).v σ).bind λy=>bA o x y:=rfl
@[simp] theorem PD(o:CmpOp)(a b:ME):(ar Φ (.cmp o a b)).v σ=((ar Φ a).v σ).bind λx=>((ar Φ b).v σ).bind λy=>(dr o x y).map .bool:=rfl
@[simp] theorem PE(o:CmpOp)(a b:ME):(ar Φ (.cmp o a b)).t σ=((ar Φ a).v σ).bind λx=>((ar Φ b).v σ).bind λy=>dr o x y:=rfl
@[simp] theorem X6(o:BoolOp)(es:ME):(ar Φ (.CI o es)).v σ=(ar Φ es).bo o σ:=rfl
@[simp] theorem Bw(o:BoolOp)(es:ME):(ar Φ (.CI o es)).t σ=(ar Φ es).ts o σ:=rfl
@[simp] theorem FR(t a b:ME):(ar Φ (.oC t a b)).v σ=((ar Φ t).t σ).bind λr=>if r then(ar Φ a).v σ else(ar Φ b).v σ:=rfl
@[simp] theorem X7(t a b:ME):(ar Φ (.oC t a b)).t σ=((ar Φ t).t σ).bind λr=>if r then(ar Φ a).t σ else(ar Φ b).t σ:=rfl
@[simp] theorem Wd(t a b:ME):(ar Φ (.oC t a b)).it σ=((ar Φ t).t σ).bind λr=>if r then(ar Φ a).it σ else(ar Φ b).it σ:=rfl
@[simp] theorem PF(es:ME):(ar Φ (.lst es)).v σ=((ar Φ es).l σ).bind bC:=rfl
noncomputable def pV(l:List D):Option D:=if l.length≤bW then some (.tup l)else none
@[simp] theorem PG(es:ME):(ar Φ (.tup es)).v σ=((ar Φ es).l σ).bind pV:=rfl
@[simp] theorem Ia(a i:ME):(ar Φ (.item a i)).v σ=((ar Φ a).v σ).bind λx=>((ar Φ i).v σ).bind λy=>o9 x y:=rfl
noncomputable def gs(Φ:Nat→List D→Option D)(a:ME)(σ:ah):Option D:=if isNil a then some .none else(ar Φ a).v σ
@[simp] theorem kW:gs Φ .nil σ=some .none:=rfl
@[simp] theorem Jl(x:Nat):gs Φ (.var x) σ=(ar Φ (.var x)).v σ:=rfl
@[simp] theorem Jm(x:D):gs Φ (.aL x) σ=(ar Φ (.aL x)).v σ:=rfl
@[simp] theorem Jn(o:Operator)(a b:ME):gs Φ (.bin o a b) σ=(ar Φ (.bin o a b)).v σ:=rfl
@[simp] theorem yK(a:ME):gs Φ (.neg a) σ=(ar Φ (.neg a)).v σ:=rfl
@[simp] theorem PH(f:BI)(a:ME):gs Φ (.bi f a) σ=(ar Φ (.bi f a)).v σ:=rfl
@[simp] theorem Ib(a b:ME):gs Φ (.item a b) σ=(ar Φ (.item a b)).v σ:=rfl
@[simp] theorem Jo(l:List D):fg (.list l) .none .none .none=some (.list (ff l none none none)):=rfl
@[simp] theorem yL(l:List D)(a:Int):fg (.list l) (.int a) .none .none=some (.list (ff l (some a) none none)):=rfl
@[simp] theorem yM(l:List D)(b:Int):fg (.list l) .none (.int b) .none=some (.list (ff l none (some b) none)):=rfl
@[simp] theorem Jp(l:List D)(a b:Int):fg (.list l) (.int a) (.int b) .none=some (.list (ff l (some a) (some b) none)):=rfl
@[simp] theorem nO{a:ME}(h:isNil a=false):gs Φ a σ=(ar Φ a).v σ:=by simp[gs,h]
@[simp] theorem Bx(a lo hi st:ME):(ar Φ (.rZ a lo hi st)).v σ=((ar Φ a).v σ).bind λx=>(gs Φ lo σ).bind λl=>(gs Φ hi σ).bind λh=>(gs Φ st σ).bind λs=>fg x l h s:=rfl
@[simp] theorem Ic(f:BI)(es:ME):(ar Φ (.bi f es)).v σ=((ar Φ es).l σ).bind λl=>iI f l:=rfl
@[simp] theorem Ek(f:Nat)(e:ME):(ar Φ (.call f (.cons e .nil))).v σ=((ar Φ e).it σ).bind λd=>Φ f [d]:=by
 show(((if isNil .nil then(ar Φ e).it σ else none)).map λd=> [d]).bind (λl=>Φ f l)=_
 cases(ar Φ e).it σ <;> rfl
@[simp] theorem El(f:Nat)(e e2 es:ME):(ar Φ (.call f (.cons e (.cons e2 es)))).v σ=((ar Φ (.cons e (.cons e2 es))).l σ).bind λds=>(ds.mapM aV).bind λl=>Φ f l:=by
 show((((ar Φ (.cons e (.cons e2 es))).l σ).bind λds=>ds.mapM aV)).bind (λl=>Φ f l)=_
 rw[Option.bind_assoc]
@[simp] theorem Ie(elt:ME)(t:gh)(src ifs rest:ME):(ar Φ (.comp elt t src ifs rest)).v σ=((ar Φ src).v σ).bind λd=>(de d).bind λitems=>
   (gi (λd=>(eA t d (erase σ (t.vars++dM rest))).bind λσ1=>((ar Φ ifs).i σ1).bind λok=>
    if ok then(ar Φ rest).g (λσ'=>((ar Φ elt).v σ').map λr=> [r]) σ1 else some []) items).bind bC:=rfl
@[simp] theorem X8:(ar Φ .nil).l σ=some []:=rfl
@[simp] theorem eJ(e es:ME):(ar Φ (.cons e es)).l σ=((ar Φ e).v σ).bind λd=>((ar Φ es).l σ).map λds=>d::ds:=rfl
@[simp] theorem X9:(ar Φ .nil).i σ=some true:=rfl
@[simp] theorem Ig(e es:ME):(ar Φ (.cons e es)).i σ=((ar Φ e).t σ).bind λb=>if b then(ar Φ es).i σ else some false:=rfl
@[simp] theorem PI(k:ah→Option (List D)):(ar Φ .nil).g k σ=k σ:=rfl
@[simp] theorem Ya(t:gh)(src ifs rest:ME)(k:ah→Option (List D)):(ar Φ (.gen t src ifs rest)).g k σ=((ar Φ src).v σ).bind λd=>(de d).bind λitems=>gi (λd=>(eA t d σ).bind λσ1=>((ar Φ ifs).i σ1).bind λok=>if ok then(ar Φ rest).g k σ1 else some []) items:=rfl
@[simp] theorem We(o:BoolOp):(ar Φ .nil).ts o σ=some (o== .And):=rfl
@[simp] theorem vp(e es:ME):(ar Φ (.cons e es)).ts .And σ=((ar Φ e).t σ).bind λb=>if b then(ar Φ es).ts .And σ else some false:=by
 show(((ar Φ e).t σ).bind λb=>match BoolOp.And,b with| .And,false=>some false| .Or,true=>some true|_,_=>(ar Φ es).ts .And σ)=_
 congr 1;funext b;cases b <;> rfl
@[simp] theorem FT(e es:ME):(ar Φ (.cons e es)).ts .Or σ=((ar Φ e).t σ).bind λb=>if b then some true else(ar Φ es).ts .Or σ:=by
 show(((ar Φ e).t σ).bind λb=>match BoolOp.Or,b with| .And,false=>some false| .Or,true=>some true|_,_=>(ar Φ es).ts .Or σ)=_
 congr 1;funext b;cases b <;> rfl
@[simp] theorem Wf(o:BoolOp)(e:ME):(ar Φ (.cons e .nil)).bo o σ=(ar Φ e).v σ:=rfl
@[simp] theorem Wg(e e2 es:ME):(ar Φ (.cons e (.cons e2 es))).bo .And σ=((ar Φ e).v σ).bind λd=>(cD d).bind λb=>if b then(ar Φ (.cons e2 es)).bo .And σ else some d:=by
 show(((ar Φ e).v σ).bind λd=>(cD d).bind λb=>match BoolOp.And,b with| .And,false=>some d| .Or,true=>some d|_,_=>(ar Φ (.cons e2 es)).bo .And σ)=_
 congr 1;funext d;congr 1;funext b;cases b <;> rfl
@[simp] theorem Yb(e e2 es:ME):(ar Φ (.cons e (.cons e2 es))).bo .Or σ=((ar Φ e).v σ).bind λd=>(cD d).bind λb=>if b then some d else(ar Φ (.cons e2 es)).bo .Or σ:=by
 show(((ar Φ e).v σ).bind λd=>(cD d).bind λb=>match BoolOp.Or,b with| .And,false=>some d| .Or,true=>some d|_,_=>(ar Φ (.cons e2 es)).bo .Or σ)=_
 congr 1;funext d;congr 1;funext b;cases b <;> rfl
@[simp] theorem RU(a:ME):(ar Φ (.iter a)).it σ=((ar Φ a).v σ).bind wc:=rfl
@[simp] theorem Wh(x:Nat):(ar Φ (.var x)).it σ=((ar Φ (.var x)).v σ).bind aV:=rfl
@[simp] theorem Wi(x:D):(ar Φ (.aL x)).it σ=((ar Φ (.aL x)).v σ).bind aV:=rfl
@[simp] theorem RV(elt:ME)(t:gh)(src ifs rest:ME):(ar Φ (.comp elt t src ifs rest)).it σ=((ar Φ (.comp elt t src ifs rest)).v σ).bind aV:=rfl
@[simp] theorem Wj(a lo hi st:ME):(ar Φ (.rZ a lo hi st)).it σ=((ar Φ (.rZ a lo hi st)).v σ).bind aV:=rfl
@[simp] theorem RW(a lo:ME):(ar Φ (.item a lo)).it σ=((ar Φ (.item a lo)).v σ).bind aV:=rfl
@[simp] theorem Wk(o:Operator)(a lo:ME):(ar Φ (.bin o a lo)).it σ=((ar Φ (.bin o a lo)).v σ).bind aV:=rfl
@[simp] theorem Wl(a:ME):(ar Φ (.lst a)).it σ=((ar Φ (.lst a)).v σ).bind aV:=rfl
@[simp] theorem Yc(f:BI)(a:ME):(ar Φ (.bi f a)).it σ=((ar Φ (.bi f a)).v σ).bind aV:=rfl
@[simp] theorem RX(f:Nat)(a:ME):(ar Φ (.call f a)).it σ=((ar Φ (.call f a)).v σ).bind aV:=rfl
@[simp] theorem FU(x:Nat):(ar Φ (.var x)).t σ=((ar Φ (.var x)).v σ).bind cD:=rfl
@[simp] theorem Yd(x:D):(ar Φ (.aL x)).t σ=cD x:=rfl
@[simp] theorem Wm(f:Nat)(es:ME):(ar Φ (.call f es)).t σ=((ar Φ (.call f es)).v σ).bind cD:=rfl
@[simp] theorem aaX(f:BI)(es:ME):(ar Φ (.bi f es)).t σ=((ar Φ (.bi f es)).v σ).bind cD:=rfl
@[simp] theorem Ye(o:Operator)(a b:ME):(ar Φ (.bin o a b)).t σ=((ar Φ (.bin o a b)).v σ).bind cD:=rfl
@[simp] theorem Jq(i:Int):aV (.int i)=some (.int i):=rfl
@[simp] theorem Ih(i:List D):aV (.list i)=some (.list i):=rfl
@[simp] theorem Jr(i:List D):aV (.tup i)=some (.tup i):=rfl
@[simp] theorem Ii(i:Bool):aV (.bool i)=some (.bool i):=rfl
@[simp] theorem Js(i:Str):aV (.str i)=some (.str i):=rfl
@[simp] theorem Jt(i:List Int):aV (.CH i)=some (.CH i):=rfl
@[simp] theorem Ij(i:List D):wc (.list i)=some (.lM i):=rfl
@[simp] theorem Ju:isNil .nil=true:=rfl
@[simp] theorem Ik(b:Bool):cD (.bool b)=some b:=rfl
@[simp] theorem yN(i:Int):cD (.int i)=some (i != 0):=rfl
@[simp] theorem RY(a b:Int):bA .Add (.int a) (.int b)=some (.int (a+b)):=rfl
@[simp] theorem RZ(a b:Int):bA .Sub (.int a) (.int b)=some (.int (a-b)):=rfl
@[simp] theorem qX(a b:Int)(h:b≠0):bA .Mod (.int a) (.int b)=some (.int (a.fmod b)):=by
 show(if b=0 then none else some (D.int (a.fmod b)))=_
 rw[if_neg h]
@[simp] theorem Em(a b:Int)(h:b≠0)(h':b.natAbs<2^30):bA .FloorDiv (.int a) (.int b)=some (.int (a.fdiv b)):=by
 show(if b=0 then none else if b.natAbs<2^30 then some (D.int (a.fdiv b))else none)=_
 rw[if_neg h,if_pos h']
theorem jY{a b:Int}(h:(dc a||dc b)=true):bA .Mult (.int a) (.int b)=some (.int (a*b)):=by
 show(if(dc a||dc b)=true then some (D.int (a*b))else none)=_
 rw[h];rfl
@[simp] theorem R0(l m:List D):bA .Add (.list l) (.list m)=bC (l++m):=rfl
@[simp] theorem PJ(l:List Int)(m:List D):bA .Add (.CH l) (.list m)=bC (l.map .int++m):=rfl
@[simp] theorem PK(l:List D)(m:List Int):bA .Add (.list l) (.CH m)=bC (l++m.map .int):=rfl
theorem En{l:List D}{n:Int}(h:dW n=true):bA .Mult (.list l) (.int n)=bC (List.replicate n.toNat l).flatten:=by
 show(if dW n=true then _ else none)=_
 rw[h];rfl
theorem cq{l:List D}(h:l.length≤bW):bC l=some (.list l):=by simp[bC,h]
theorem nQ{l:List D}(h:l.length≤bW):pV l=some (.tup l):=by simp[pV,h]
@[simp] theorem Il:bC []=some (.list []):=rfl
@[simp] theorem PM(a:D):bC [a]=some (.list [a]):=cq (by simp[bW])
@[simp] theorem PN(a b:D):bC [a,b]=some (.list [a,b]):=cq (by simp[bW])
@[simp] theorem PO(a b c:D):bC [a,b,c]=some (.list [a,b,c]):=cq (by simp[bW])
@[simp] theorem PQ(a b c d:D):bC [a,b,c,d]=some (.list [a,b,c,d]):=cq (by simp[bW])
@[simp] theorem R1(a b:D):pV [a,b]=some (.tup [a,b]):=nQ (by simp[bW])
@[simp] theorem R2(a b c:D):pV [a,b,c]=some (.tup [a,b,c]):=nQ (by simp[bW])
@[simp] theorem R3(a b c d:D):pV [a,b,c,d]=some (.tup [a,b,c,d]):=nQ (by simp[bW])
@[simp] theorem vq(l:List D):de (.list l)=some l:=rfl
@[simp] theorem Jv(l:List D):de (.tup l)=some l:=rfl
theorem yO{a b c:Int}(h:jJ a b c=true):de (.Ff a b c)=some ((bB a b c).map .int):=by simp[de,h]
@[simp] theorem nR(l:List D):iI .len [.list l]=some (.int l.length):=rfl
@[simp] theorem FV(i:Int):iI .type [.int i]=some (.ty "int"):=rfl
@[simp] theorem R4(a b:Int):iI .max [.int a,.int b]=some (.int (if b>a then b else a)):=rfl
@[simp] theorem Wn(a:Int):iI .abs [.int a]=some (.int a.natAbs):=rfl
theorem pW{b:Int}(h:dW b=true):iI .range [.int b]=some (.Ff 0 b 1):=by
 show(if dW b=true then _ else none)=_
 rw[h];rfl
@[simp] theorem Wo(a b:Int):dr .Lt (.int a) (.int b)=some (decide (a<b)):=rfl
@[simp] theorem cmp_gt(a b:Int):dr .Gt (.int a) (.int b)=some (decide (a>b)):=rfl
@[simp] theorem Wq(a b:Int):dr .GtE (.int a) (.int b)=some (decide (a≥b)):=rfl
@[simp] theorem By(a b:Int):dr .Eq (.int a) (.int b)=some (a==b):=rfl
@[simp] theorem Wr(a b:Int):dr .NotEq (.int a) (.int b)=some (a != b):=rfl
@[simp] theorem w0(a b:Str):dr .Eq (.str a) (.str b)=some (a==b):=rfl
@[simp] theorem R5(a b:List D):dr .Eq (.list a) (.list b)=IZ (.list (a.map dq)) (.list (b.map dq)):=rfl
@[simp] theorem Eo(a b:List D):dr .NotEq (.list a) (.list b)=(IZ (.list (a.map dq)) (.list (b.map dq))).map (!·):=rfl
@[simp] theorem yP(a b:String):dr .IsNot (.ty a) (.ty b)=some (a != b):=rfl
@[simp] theorem Ep(a b:Bool):dr .Eq (.bool a) (.bool b)=some (a==b):=rfl
@[simp] theorem R6(a b:Bool):dr .NotEq (.bool a) (.bool b)=some (a != b):=rfl
theorem tG{f:D→D→Option Bool}{a b:D}{l m:List D}{x y:Bool}(h1:f a b=some x)(h2:eP f l m=some y):eP f (a::l) (b::m)=some (x&&y):=by
 show(f a b).bind (λx=>(eP f l m).map λy=>x&&y)=_
 rw[h1,h2];rfl
theorem vr(n:Nat)(l:List D):(∀d∈l,xE n d d=some true)→eP (xE n) l l=some true:=by
 induction l with
 |nil=>exact λ_=>rfl
 |cons a l ih=>exact λh=>tG (h a (List.mem_cons_self ..)) (ih λd hd=>h d (List.mem_cons_of_mem _ hd))
theorem eq_nil(l:List D):IZ (.list l) (.list [])=some l.isEmpty:=by
 cases l <;> rfl
noncomputable def Bz(k:ah→Option Out):Out→Option Out
 | .nx σ=>k σ
 |o=>some o
@[simp] theorem PR(k:ah→Option Out)(σ:ah):Bz k (.nx σ)=k σ:=rfl
@[simp] theorem PS(k:ah→Option Out)(d:D):Bz k (.rt d)=some (.rt d):=rfl
@[simp] theorem PT:run Φ .skip σ=some (.nx σ):=rfl
@[simp] theorem run_seq(a b:MS):run Φ (.seq a b) σ=(run Φ a σ).bind (Bz (run Φ b)):=by
 skip
 apply congrArg;funext o;cases o <;> rfl
@[simp] theorem iS(x:Nat)(e:ME):run Φ (.asg x e) σ=((ar Φ e).v σ).map λd=> .nx (upd σ x d):=rfl
noncomputable def PU(σ:ah)(x:Nat)(d:D):Option Out:=d.i9.map λl=> .nx (upd σ x (.list l))
@[simp] theorem Jw(x:Nat)(l:List D):PU σ x (.list l)=some (.nx (upd σ x (.list l))):=rfl
@[simp] theorem Er(x:Nat)(e:ME):run Φ (.own x e) σ=((ar Φ e).v σ).bind (PU σ x):=rfl
noncomputable def PV(σ:ah)(xs:List Nat)(d:D):Option Out:=d.GJ.bind λl=>(bb xs l σ).map .nx
@[simp] theorem BA(xs:List Nat)(l:List D):PV σ xs (.tup l)=(bb xs l σ).map .nx:=rfl
@[simp] theorem Es(xs:List Nat)(e:ME):run Φ (.MT xs e) σ=((ar Φ e).v σ).bind (PV σ xs):=rfl
@[simp] theorem Et:bb [] [] σ=some σ:=rfl
@[simp] theorem CP(x:Nat)(xs:List Nat)(d:D)(ds:List D):bb (x::xs) (d::ds) σ=bb xs ds (upd σ x d):=rfl
@[simp] theorem fQ(x:Nat)(d:D):eA (.one x) d σ=some (upd σ x d):=rfl
@[simp] theorem Im(xs:List Nat)(l:List D):eA (.many xs) (.tup l) σ=bb xs l σ:=rfl
theorem Eu{x:Nat}{o:Operator}{e:ME}{a b:Int}(h:σ x=some (.int a))(h':(ar Φ e).v σ=some (.int b)):run Φ (.aug x o e) σ=(bA o (.int a) (.int b)).map λd=> .nx (upd σ x d):=by
 show((σ x).bind D.int?).bind (λa=>((ar Φ e).v σ).bind λb=>b.int?.bind λb=>(bA o (.int a) (.int b)).map λd=>Out.nx (upd σ x d))=_
 rw[h,h'];rfl
@[simp] theorem f7(t:ME)(a b:MS):run Φ (.ite t a b) σ=((ar Φ t).t σ).bind λr=>if r then run Φ a σ else run Φ b σ:=rfl
@[simp] theorem mn(t:gh)(src:ME)(body:MS):run Φ (.sT t src body) σ=((ar Φ src).v σ).bind λd=>(de d).bind λitems=>cV (run Φ body) t items σ:=rfl
@[simp] theorem Ew(e:ME):run Φ (.ret e) σ=((ar Φ e).v σ).map .rt:=rfl
@[simp] theorem PW:run Φ .fail σ=none:=rfl
noncomputable def PX:Out→Option D
 | .rt d=>some d
 |_=>none
@[simp] theorem R7(d:D):PX (.rt d)=some d:=rfl
theorem BB(m:MS)(xs:List Nat)(ds:List D):eF Φ m xs ds=(bb xs ds λ_=>none).bind λσ=>(run Φ m σ).bind PX:=by
 unfold eF
 apply congrArg;funext σ;apply congrArg;funext o;cases o <;> rfl
@[simp] theorem PY(x:Nat):(gh.one x).vars= [x]:=rfl
@[simp] theorem Jx(x:List Nat):(gh.many x).vars=x:=rfl
@[simp] theorem FW:dM .nil= []:=rfl
@[simp] theorem FX(t:gh)(src ifs rest:ME):dM (.gen t src ifs rest)=t.vars++dM rest:=rfl
@[simp] theorem Jy{σ:ah}{xs:List Nat}{x:Nat}(h:xs.contains x=false):erase σ xs x=σ x:=by unfold erase;rw[h];rfl
end
end Mine.Internal
end
section
open PySem
namespace Mine.Internal
theorem pX(n k:Nat):pn n (k:Int)=min k n:=by unfold pn;rw[if_neg (Int.not_lt.mpr (Int.natCast_nonneg k))];exact zf k n
theorem vt{α:Type}(l:List α)(k:Nat):ff l (some (k:Int)) none none=l.drop k:=by
 rw[jn];simp only[wg,y7,pX]
 rw[List.take_of_length_le (by simp)]
 rcases Nat.le_total k l.length with h|h
 ·rw[Nat.min_eq_left h]
 ·rw[Nat.min_eq_right h];simp[h]
theorem BC{α:Type}(l:List α)(k:Nat):ff l none (some (k:Int)) none=l.take k:=by
 rw[jn];simp only[wg,y7,pX,List.drop_zero,Nat.sub_zero]
 rcases Nat.le_total k l.length with h|h
 ·rw[Nat.min_eq_left h]
 ·rw[Nat.min_eq_right h,List.take_of_length_le (Nat.le_refl _),List.take_of_length_le h]
theorem BD(a b:Int):bB a b 1=(List.range (b-a).toNat).map λ(i:Nat)=>a+(i:Int):=by
 unfold bB Builtin.Range.rangeSize
 have:(if(1:Int)>0 then(if a<b then(b-a-1)/1+1 else 0)else(if a>b then(a-b-1)/(-1)+1 else 0)).toNat=(b-a).toNat:=by
  rw[if_pos (by decide)];split
  ·rw[Int.ediv_one,Int.sub_add_cancel]
  ·rename_i h;exact(Int.toNat_of_nonpos (Int.sub_nonpos_of_le (Int.not_lt.mp h))).symm
 rw[this];simp
theorem Ex(n:Nat):bB 0 (n:Int) 1=(List.range n).map λ(i:Nat)=>(i:Int):=by
 rw[BD];simp
theorem Io{i:Int}{k:Nat}(h: -(k:Int)≤i)(h':i≤k):i.natAbs≤k:=by
 refine Int.ofNat_le.mp ?_
 rcases Int.le_total 0 i with q|q
 ·rw[Int.natAbs_of_nonneg q];exact h'
 ·rw[Int.ofNat_natAbs_of_nonpos q];exact Int.neg_le_of_neg_le h
theorem jZ{i:Int}(h: -1048576≤i)(h':i≤1048576):dW i=true:=by
 exact Nat.ble_eq_true_of_le (show i.natAbs≤1099511627776 from Nat.le_trans (Io (k:=1048576) h h') (by decide))
theorem BE{a b:Int}(h1: -1048576≤a)(h2:a≤1048576)(h3: -1048576≤b)(h4:b≤1048576)(h5:b-a≤1048576):jJ a b 1=true:=by
 have hl:bW=1048576:=rfl
 unfold jJ
 rw[jZ h1 h2,jZ h3 h4,BD]
 simp[hl]
 exact⟨by decide,h5⟩
theorem BF{α:Type}{e:α→D}{f:D→Option (List D)}{g:α→List D}{l:List α}(h: ∀a∈l,f (e a)=some (g a)):gi f (l.map e)=some (l.flatMap g):=by
 induction l with
 |nil=>rfl
 |cons a l ih=>
  rw[List.map_cons]
  unfold gi
  rw[h a (by simp),ih λb hb=>h b (by simp[hb])]
  simp
theorem qY{α:Type}{e:α→D}{f:D→Option (List D)}{p:α→Bool}{g:α→D}{l:List α}(h: ∀a∈l,f (e a)=some (if p a then [g a]else [])):gi f (l.map e)=some ((l.filter p).map g):=by
 rw[BF h]
 congr 1
 clear h
 induction l with
 |nil=>rfl
 |cons a l ih=>
  rw[List.flatMap_cons,ih,List.filter_cons]
  split <;> simp_all
theorem pY{f:ah→Option Out}{t:gh}(items:List D)(I:Nat→ah→Prop){σ:ah}(h0:I 0 σ)
  (step: ∀(i:Nat) (d:D) (σ:ah),items[i]? =some d→I i σ→ ∃σ1 σ2,eA t d σ=some σ1∧f σ1=some (.nx σ2)∧I (i+1) σ2): ∃σ',cV f t items σ=some (.nx σ')∧I items.length σ':=by
 have: ∀(k i:Nat) (σ:ah),i+k=items.length→I i σ→ ∃σ',cV f t (items.drop i) σ=some (.nx σ')∧I items.length σ':=by
  intro k
  induction k with
  |zero=>
   intro i σ hi hI
   have:i=items.length:=hi
   subst this
   rw[List.drop_length]
   exact⟨σ,rfl,hI⟩
  |succ k ih=>
   intro i σ hi hI
   have cy:i<items.length:=qh hi
   rw[List.drop_eq_getElem_cons cy]
   refine b8 (step i _ σ (List.getElem?_eq_getElem cy) hI) λσ1 σ2 hb hf jI=>?_
   refine ai (ih (i+1) σ2 (mu hi) jI) λσ' h1 h2=>?_
   refine⟨σ',?_,h2⟩
   unfold cV
   rw[hb]
   simp only[Option.bind_some,hf,h1]
 exact this items.length 0 σ (by exact Nat.add_comm _ _) h0
end Mine.Internal
end
section
open PySem
namespace Mine.Internal
theorem yQ{α:Type}{f:ah→Option Out}{x:Nat}(e:α→D)(l:List α)(I:Nat→ah→Prop){σ:ah}(h0:I 0 σ)
  (step: ∀(i:Nat) (a:α) (σ:ah),l[i]? =some a→I i σ→ ∃σ2,f (upd σ x (e a))=some (.nx σ2)∧I (i+1) σ2): ∃σ',cV f (.one x) (l.map e) σ=some (.nx σ')∧I l.length σ':=by
 obtain⟨σ',h1,h2⟩:=pY (f:=f) (t:= .one x) (l.map e) I h0 λi d σ hd hI=>by
  rw[List.getElem?_map]at hd
  refine ai (Option.map_eq_some_iff.mp hd) λa ha PZ=>?_
  subst PZ
  refine ai (step i a σ ha hI) λσ2 h1 h2=>?_
  exact⟨_,σ2,rfl,h1,h2⟩
 rw[List.length_map]at h2
 exact⟨σ',h1,h2⟩
theorem tH{f:ah→Option Out}{x:Nat}(n:Nat)(g:Nat→D)(I:Nat→ah→Prop){σ:ah}(h0:I 0 σ)
  (step: ∀(i:Nat) (σ:ah),i<n→I i σ→ ∃σ2,f (upd σ x (g i))=some (.nx σ2)∧I (i+1) σ2): ∃σ',cV f (.one x) ((List.range n).map g) σ=some (.nx σ')∧I n σ':=by
 obtain⟨σ',h1,h2⟩:=yQ (f:=f) (x:=x) g (List.range n) I h0 λi a σ ha hI=>by
  obtain⟨hi,rfl⟩:=List.getElem?_eq_some_iff.mp ha
  rw[List.getElem_range]
  exact step i σ (by simpa using hi) hI
 rw[List.length_range]at h2
 exact⟨σ',h1,h2⟩
theorem Ey{n:Nat}(d:D):(List.replicate n [d]).flatten=List.replicate n d:=by
 induction n with
 |zero=>rfl
 |succ n ih=>simp[List.replicate_succ,ih]
theorem tI{b:Int}(n:Nat)(hb:b=n)(h:n≤1048576):de (.Ff 0 b 1)=some ((List.range n).map λ(i:Nat)=>D.int (i:Int)):=by
 subst hb
 rw[yO (BE (by exact Int.natCast_nonneg _) (by exact Int.natCast_nonneg _) (by exact Int.natCast_nonneg _) (by exact Int.ofNat_le.mpr ‹_›) (by exact Int.ofNat_le.mpr ‹_›)),Ex,List.map_map];rfl
end Mine.Internal
end
section
open PySem
namespace Mine.Internal
section
variable{Φ:Nat→List D→Option D}{σ σ':ah}{b m m':MS}{x:Nat}{e:ME}{d:D}{r:Option Out}
theorem pZ{xs:List Nat}{ds:List D}(hb:bb xs ds (λ_=>none)=some σ)(h:run Φ m σ=some (.rt d)):eF Φ m xs ds=some d:=by
 rw[BB,hb,Option.bind_some,h];rfl
theorem cu(h:(ar Φ e).v σ=some d)(k:run Φ b (upd σ x d)=r):run Φ (.seq (.asg x e) b) σ=r:=by
 rw[run_seq,iS,h];exact k
theorem Ip{l:List D}(h:(ar Φ e).v σ=some (.list l))(k:run Φ b (upd σ x (.list l))=r):run Φ (.seq (.own x e) b) σ=r:=by
 rw[run_seq,Er,h];exact k
theorem dJ(h:(ar Φ e).v σ=some d):run Φ (.seq (.ret e) b) σ=some (.rt d):=by
 rw[run_seq,Ew,h];rfl
theorem w5(h:(ar Φ e).t σ=some true)(h':run Φ m σ=some (.nx σ'))(k:run Φ b σ'=r):run Φ (.seq (.ite e m m') b) σ=r:=by
 rw[run_seq,f7,h,Option.bind_some,if_pos rfl,h'];exact k
theorem j2(h:(ar Φ e).t σ=some false)(h':run Φ m' σ=some (.nx σ'))(k:run Φ b σ'=r):run Φ (.seq (.ite e m m') b) σ=r:=by
 rw[run_seq,f7,h,Option.bind_some,if_neg (by decide),h'];exact k
theorem j3(h:(ar Φ e).t σ=some false)(k:run Φ b σ=r):run Φ (.seq (.ite e m .skip) b) σ=r:=j2 h rfl k
theorem fR(h:(ar Φ e).t σ=some true)(h':run Φ m σ=some (.rt d)):run Φ (.seq (.ite e m m') b) σ=some (.rt d):=by
 rw[run_seq,f7,h,Option.bind_some,if_pos rfl,h'];rfl
theorem Iq{o:Operator}{p q:Int}(hx:σ x=some (.int p))(h:(ar Φ e).v σ=some (.int q))(hd:bA o (.int p) (.int q)=some d)(k:run Φ b (upd σ x d)=r):run Φ (.seq (.aug x o e) b) σ=r:=by
 rw[run_seq,Eu hx h,hd];exact k
theorem Ir{xs:List Nat}{l:List D}(h:(ar Φ e).v σ=some (.tup l))(hb:bb xs l σ=some σ')(k:run Φ b σ'=r):run Φ (.seq (.MT xs e) b) σ=r:=by
 rw[run_seq,Es,h,Option.bind_some,BA,hb];exact k
end
section
variable{Φ:Nat→List D→Option D}{σ:ah}{elt src ifs:ME}{x:Nat}{α:Type}{l:List α}{e g:α→D}{p:α→Bool}
theorem fb{d:D}(hs:(ar Φ src).v σ=some d)(hd:de d=some (l.map e))(hl:l.length≤bW)(h: ∀a∈l,(ar Φ ifs).i (upd (erase σ [x]) x (e a))=some (p a)∧(p a=true→(ar Φ elt).v (upd (erase σ [x]) x (e a))=some (g a))):
  (ar Φ (.comp elt (.one x) src ifs .nil)).v σ=some (.list ((l.filter p).map g)):=by
 rw[Ie,hs,Option.bind_some,hd,Option.bind_some,qY (p:=p) (g:=g),Option.bind_some,cq (by rw[List.length_map];exact Nat.le_trans (List.length_filter_le _ _) hl)]
 intro a ha
 obtain⟨h1,h2⟩:=h a ha
 rw[fQ,Option.bind_some]
 show((ar Φ ifs).i (upd (erase σ [x]) x (e a))).bind _=_
 rw[h1,Option.bind_some]
 cases hp:p a with
 |false=>rfl
 |true=>simp only[if_true,PI];show((ar Φ elt).v (upd (erase σ [x]) x (e a))).map _=_;rw[h2 hp];rfl
theorem comp_map{d:D}(hs:(ar Φ src).v σ=some d)(hd:de d=some (l.map e))(hl:l.length≤bW)(h: ∀a∈l,(ar Φ elt).v (upd (erase σ [x]) x (e a))=some (g a)):
  (ar Φ (.comp elt (.one x) src .nil .nil)).v σ=some (.list (l.map g)):=by
 have:=fb (Φ:=Φ) (ifs:= .nil) (p:=λ_=>true) hs hd hl λa ha=>⟨rfl,λ_=>h a ha⟩
 rwa[List.filter_eq_self.mpr λ_ _=>rfl]at this
end
section
variable{Φ:Nat→List D→Option D}{σ:ah}{l m:List Int}
@[simp high] theorem BG (e:ME):(ar Φ (.cons e .nil)).i σ=(ar Φ e).t σ:=by
 rw[Ig]
 cases(ar Φ e).t σ with
 |none=>rfl
 |some b=>cases b <;> rfl
end
end Mine.Internal
end
section
open PySem
namespace Mine.Internal
section
variable{Φ:Nat→List D→Option D}{σ:ah}{a b c:ME}{x y z d:D}
theorem aj{i:Nat}(h:σ i=some d)(hi:aV d=some d):(ar Φ (.var i)).v σ=some d:=by rw[v_var,h];exact hi
theorem aQ{o:Operator}(ha:(ar Φ a).v σ=some x)(hb:(ar Φ b).v σ=some y)(h:bA o x y=some d):(ar Φ (.bin o a b)).v σ=some d:=by rw[PC,ha,hb];exact h
theorem bu(ha:(ar Φ a).v σ=some x)(hb:(ar Φ b).v σ=some y)(h:o9 x y=some d):(ar Φ (.item a b)).v σ=some d:=by rw[Ia,ha,hb];exact h
theorem It{i:Int}(ha:(ar Φ a).v σ=some (.int i)):(ar Φ (.neg a)).v σ=some (.int (-i)):=by rw[FP,ha];rfl
theorem bt{f:BI}(ha:(ar Φ a).v σ=some x)(h:iI f [x]=some d):(ar Φ (.bi f (.cons a .nil))).v σ=some d:=by rw[Ic,eJ,ha];exact h
theorem vv{f:BI}(ha:(ar Φ a).v σ=some x)(hb:(ar Φ b).v σ=some y)(h:iI f [x,y]=some d):(ar Φ (.bi f (.cons a (.cons b .nil)))).v σ=some d:=by rw[Ic,eJ,eJ,ha,hb];exact h
theorem Iu{f:BI}(ha:(ar Φ a).v σ=some x)(hb:(ar Φ b).v σ=some y)(hc:(ar Φ c).v σ=some z)(h:iI f [x,y,z]=some d):(ar Φ (.bi f (.cons a (.cons b (.cons c .nil))))).v σ=some d:=by rw[Ic,eJ,eJ,eJ,ha,hb,hc];exact h
theorem dO(ha:(ar Φ a).v σ=some x)(hb:(ar Φ b).v σ=some y):(ar Φ (.tup (.cons a (.cons b .nil)))).v σ=some (.tup [x,y]):=by rw[PG,eJ,eJ,ha,hb];rfl
theorem qa:(ar Φ .nil).l σ=some []:=rfl
theorem fT{es:ME}{l:List D}(ha:(ar Φ a).v σ=some x)(h:(ar Φ es).l σ=some l):(ar Φ (.cons a es)).l σ=some (x::l):=by rw[eJ,ha,h];rfl
theorem kX{es:ME}{l:List D}(h:(ar Φ es).l σ=some l)(hl:l.length≤bW):(ar Φ (.lst es)).v σ=some (.list l):=by rw[PF,h];exact cq hl
theorem nS{l m:List D}(ha:(ar Φ a).v σ=some (.list l))(hb:(ar Φ b).v σ=some (.list m))(hl:(l++m).length≤bW):(ar Φ (.bin .Add a b)).v σ=some (.list (l++m)):=aQ ha hb (cq hl)
theorem bz{o:CmpOp}{r:Bool}(ha:(ar Φ a).v σ=some x)(hb:(ar Φ b).v σ=some y)(h:dr o x y=some r):(ar Φ (.cmp o a b)).t σ=some r:=by rw[PE,ha,hb];exact h
theorem vz{o:CmpOp}{r:Bool}(ha:(ar Φ a).v σ=some x)(hb:(ar Φ b).v σ=some y)(h:dr o x y=some r):(ar Φ (.cmp o a b)).v σ=some (.bool r):=by rw[PD,ha,hb];exact congrArg (Option.map D.bool) h
theorem kY(ht:(ar Φ a).t σ=some true)(h:(ar Φ b).v σ=some d):(ar Φ (.oC a b c)).v σ=some d:=by rw[FR,ht];exact h
theorem jA(ht:(ar Φ a).t σ=some false)(h:(ar Φ c).v σ=some d):(ar Φ (.oC a b c)).v σ=some d:=by rw[FR,ht];exact h
theorem tJ{f:Nat}(h:(ar Φ a).it σ=some x)(hf:Φ f [x]=some d):(ar Φ (.call f (.cons a .nil))).v σ=some d:=by rw[Ek,h];exact hf
theorem nU{f:Nat}(ha:(ar Φ a).v σ=some x)(hb:(ar Φ b).v σ=some y)(hx:aV x=some x)(hy:aV y=some y)(hf:Φ f [x,y]=some d):(ar Φ (.call f (.cons a (.cons b .nil)))).v σ=some d:=by
 rw[El,eJ,eJ,ha,hb]
 show(([x,y].mapM aV).bind λl=>Φ f l)=_
 rw[List.mapM_cons,List.mapM_cons,hx,hy];exact hf
theorem FY(h:(ar Φ a).v σ=some x)(hx:aV x=some x)(he:(ar Φ a).it σ=((ar Φ a).v σ).bind aV):(ar Φ a).it σ=some x:=by rw[he,h];exact hx
theorem FZ{l:List D}{k:Nat}(ha:(ar Φ a).v σ=some (.list l))(hb:(ar Φ b).v σ=some (.int (k:Int)))(hn:isNil b=false):(ar Φ (.rZ a .nil b .nil)).v σ=some (.list (l.take k)):=by
 rw[Bx,ha,Option.bind_some,kW,Option.bind_some,nO hn,hb,Option.bind_some,Option.bind_some,yM,BC]
theorem w6{l:List D}{k:Nat}(ha:(ar Φ a).v σ=some (.list l))(hb:(ar Φ b).v σ=some (.int (k:Int)))(hn:isNil b=false):(ar Φ (.rZ a b .nil .nil)).v σ=some (.list (l.drop k)):=by
 rw[Bx,ha,Option.bind_some,nO hn,hb,Option.bind_some,kW,Option.bind_some,Option.bind_some,yL,vt]
theorem vA(ha:(ar Φ a).t σ=some true){r:Bool}(hb:(ar Φ b).t σ=some r):(ar Φ (.CI .And (.cons a (.cons b .nil)))).t σ=some r:=by
 rw[Bw,vp,ha,Option.bind_some,if_pos rfl,vp,hb];cases r <;> rfl
theorem P0(ha:(ar Φ a).t σ=some false):(ar Φ (.CI .And (.cons a (.cons b .nil)))).t σ=some false:=by rw[Bw,vp,ha];rfl
theorem P5(ha:(ar Φ a).t σ=some false)(hb:(ar Φ b).t σ=some false):(ar Φ (.CI .Or (.cons a (.cons b .nil)))).t σ=some false:=by rw[Bw,FT,ha,Option.bind_some,if_neg (by decide),FT,hb];rfl
theorem dK{b' m:MS}{σ':ah}{r:Option Out}(h:run Φ m σ=some (.nx σ'))(k:run Φ b' σ'=r):run Φ (.seq m b') σ=r:=by rw[run_seq,h];exact k
end
end Mine.Internal
end
section
open PySem PyProof.Rows
namespace Mine.Internal
noncomputable def cnt(x:D)(l:List D):Nat:=l.countP (gE · x)
noncomputable def eqv(x y:D):Bool:= !gE x y&& !gE y x
noncomputable def rank(l:List D)(k:Nat)(y:D):Nat:=cnt y l+(l.take k).countP (eqv · y)
section
variable{O:KeyOrd}{κ:D→O.α}{l m:List D}{x:D}
theorem eH.Yf(k:eH O κ l){x:D}(hx:x∈l):gE x x=false:=by rw[k.lt x hx x hx];exact O.irrefl _
theorem j4(k:eH O κ (x::m))(h:sY O κ m): ∀{p:Nat} {y:D},m[p]? =some y→(p<cnt x m↔gE y x=true):=by
 induction m with
 |nil=>intro p y e;simp at e
 |cons z m ih=>
  intro p y e
  obtain⟨h1,h2⟩:=List.pairwise_cons.mp h
  have kx:eH O κ (x::m):=⟨λa ha b hb=>k.lt a (by rcases List.mem_cons.mp ha with h|h;exact h▸List.mem_cons_self ..;exact List.mem_cons_of_mem _ (List.mem_cons_of_mem _ h)) b (by rcases List.mem_cons.mp hb with h|h;exact h▸List.mem_cons_self ..;exact List.mem_cons_of_mem _ (List.mem_cons_of_mem _ h))⟩
  have e1:=k.lt z (by simp) x (by simp)
  -- if ql first one is not Ws,none is
  have none:gE z x=false→ ∀w∈m,gE w x=false:=λhz w hw=>by
   replace hz:=e1▸hz
   have e2:=k.lt w (by simp[hw]) x (by simp)
   rw[e2]
   cases q:O.blt (κ w) (κ x)with
   |false=>rfl
   |true=>
    rcases O.negTrans _ (κ z) _ q with h3|h3
    ·rw[h1 w hw]at h3;cases h3
    ·replace h3:=hz▸h3
     cases h3
  unfold cnt at ih ⊢
  rw[List.countP_cons]
  cases hz:gE z x with
  |true=>
   rw[if_pos rfl]
   cases p with
   |zero=>simp at e;subst e;simp[hz]
   |succ p=>
    rw[List.getElem?_cons_succ]at e
    rw[Nat.add_lt_add_iff_right]
    exact ih kx h2 e
  |false=>
   have c0:m.countP (gE · x)=0:=List.countP_eq_zero.mpr λw hw=>by rw[none hz w hw];decide
   rw[c0]
   cases p with
   |zero=>simp at e;subst e;simp[hz]
   |succ p=>
    rw[List.getElem?_cons_succ]at e
    have:=none hz y (List.mem_of_getElem? e)
    simp[this]
theorem Ez(k:eH O κ (x::m))(h:sY O κ m)(p:Nat):(lR x m)[p]? =if p<cnt x m then m[p]? else if p=cnt x m then some x else m[p-1]? :=by
 induction m generalizing p with
 |nil=>cases p <;> simp[lR,cnt]
 |cons z m ih=>
  obtain⟨h1,h2⟩:=List.pairwise_cons.mp h
  have kx:eH O κ (x::m):=⟨λa ha b hb=>k.lt a (by rcases List.mem_cons.mp ha with h|h;exact h▸List.mem_cons_self ..;exact List.mem_cons_of_mem _ (List.mem_cons_of_mem _ h)) b (by rcases List.mem_cons.mp hb with h|h;exact h▸List.mem_cons_self ..;exact List.mem_cons_of_mem _ (List.mem_cons_of_mem _ h))⟩
  unfold lR
  cases hz:gE z x with
  |true=>
   rw[if_pos rfl]
   have hc:cnt x (z::m)=cnt x m+1:=by unfold cnt;rw[List.countP_cons,hz,if_pos rfl]
   rw[hc]
   cases p with
   |zero=>simp
   |succ p=>
    rw[List.getElem?_cons_succ,ih kx h2 p,List.getElem?_cons_succ]
    by_cases a:p<cnt x m
    ·rw[if_pos a,if_pos (show p+1<cnt x m+1 by exact Nat.succ_lt_succ ‹_›)]
    ·rw[if_neg a,if_neg (show¬p+1<cnt x m+1 from λq=>a (Nat.lt_of_succ_lt_succ q))]
     by_cases b:p=cnt x m
     ·rw[if_pos b,if_pos (congrArg (· +1) b)]
     ·rw[if_neg b,if_neg (show¬p+1=cnt x m+1 from λq=>b (Nat.succ.inj q)),Nat.add_sub_cancel]
      obtain⟨q,rfl⟩: ∃q,p=q+1:=⟨p-1,(Nat.sub_add_cancel (Nat.lt_of_le_of_lt (Nat.zero_le _) (Nat.lt_of_le_of_ne (Nat.not_lt.mp a) λe=>b e.symm))).symm⟩
      rw[List.getElem?_cons_succ];rfl
  |false=>
   rw[if_neg (by decide)]
   have hc:cnt x (z::m)=0:=by
    rcases Nat.eq_zero_or_pos (cnt x (z::m))with q|q
    ·exact q
    ·have:=(j4 k h (p:=0) (y:=z) rfl).mp q
     replace this:=hz▸this
     cases this
   rw[hc,if_neg (Nat.not_lt_zero _)]
   cases p with
   |zero=>simp
   |succ p=>simp
theorem EA(k:eH O κ l):(∀(i:Nat) (y:D),l[i]? =some y→(bg l)[rank l i y]? =some y)∧ ∀p,p<l.length→ ∃(i:Nat) (y:D),l[i]? =some y∧rank l i y=p:=by
 induction l with
 |nil=>exact⟨λi y e=>by simp at e,λp h=>by simp at h⟩
 |cons x l ih=>
  refine aX (ih k.tail) λGH IX=>?_
  have ks:eH O κ (x::bg l):=k.perm ((cI l).cons x)
  have hs:=kN k.tail
  have cc:cnt x (bg l)=cnt x l:=(cI l).countP_eq _
  have hx:gE x x=false:=k.Yf (by simp)
  have r0:rank (x::l) 0 x=cnt x l:=by
   unfold rank cnt
   rw[List.take_zero,List.countP_nil,List.countP_cons,hx];rfl
  have rs: ∀(i:Nat) (y:D),y∈l→rank (x::l) (i+1) y=rank l i y+if gE y x=true then 0 else 1:=λi y hy=>by
   unfold rank cnt
   rw[List.take_succ_cons,List.countP_cons,List.countP_cons]
   have e1:=k.lt x (by simp) y (by simp[hy])
   have e2:=k.lt y (by simp[hy]) x (by simp)
   unfold eqv
   cases a:gE x y with
   |true=>
    have b:gE y x=false:=by
     cases b:gE y x with
     |false=>rfl
     |true=>
      replace a:=e1▸a
      replace b:=e2▸b
      have:=O.trans _ _ _ a b
      rw[O.irrefl]at this;cases this
    rw[b];simp;lia
   |false=>cases b:gE y x <;> simp <;> rfl
  have at_: ∀p,(bg (x::l))[p]? =if p<cnt x l then(bg l)[p]? else if p=cnt x l then some x else(bg l)[p-1]? :=λp=>by
   have:=Ez ks hs p
   replace this:=cc▸this
   exact this
  refine⟨λi y e=>?_,λp hp=>?_⟩
  ·cases i with
   |zero=>
    simp at e;subst e
    rw[r0,at_,if_neg (Nat.lt_irrefl _),if_pos rfl]
   |succ i=>
    rw[List.getElem?_cons_succ]at e
    have hy:=List.mem_of_getElem? e
    have g:=GH i y e
    have pl:=j4 ks hs g
    replace pl:=cc▸pl
    rw[rs i y hy,at_]
    cases b:gE y x with
    |true=>
     rw[if_pos rfl,Nat.add_zero,if_pos (pl.mpr b)];exact g
    |false=>
     have: ¬rank l i y<cnt x l:=λq=>by rw[pl.mp q]at b;cases b
     rw[if_neg (show¬false=true by decide),if_neg (show¬rank l i y+1<cnt x l from λq=>this (Nat.lt_of_succ_lt q)),if_neg (show¬rank l i y+1=cnt x l from λq=>this (q▸Nat.lt_succ_self _)),Nat.add_sub_cancel];exact g
  ·rcases Nat.lt_trichotomy p (cnt x l)with h|h|h
   ·have tZ:p<l.length:=Nat.lt_of_lt_of_le h List.countP_le_length
    refine aO λXq kq=>?_
    refine da (IX p tZ) λi y e r=>?_
    refine kq ?_
    have g:=GH i y e
    have pl:=j4 ks hs g
    rw[cc,r]at pl
    exact⟨i+1,y,by rw[List.getElem?_cons_succ];exact e,by rw[rs i y (List.mem_of_getElem? e),if_pos (pl.mp h),r];rfl⟩
   ·exact⟨0,x,rfl,by rw[r0,h]⟩
   ·have tZ:p-1<l.length:=by rw[List.length_cons]at hp;exact Nat.lt_of_lt_of_le (Nat.sub_lt (Nat.lt_of_le_of_lt (Nat.zero_le _) h) Nat.one_pos) (Nat.le_of_lt_succ hp)
    refine da (IX (p-1) tZ) λi y e r=>?_
    have g:=GH i y e
    have pl:=j4 ks hs g
    rw[cc,r]at pl
    have nb: ¬gE y x=true:=λq=>absurd (pl.mpr q) (Nat.not_lt.mpr (Nat.le_sub_one_of_lt h))
    exact⟨i+1,y,by rw[List.getElem?_cons_succ];exact e,by rw[rs i y (List.mem_of_getElem? e),if_neg nb,r];exact Nat.sub_add_cancel (Nat.lt_of_le_of_lt (Nat.zero_le _) h)⟩
end
end Mine.Internal
end
section
open PySem PyProof.Rows
namespace Mine.Internal.dU
structure Yg(l:List D):Prop where
 lM: ∀d∈l,aV d=some d
 lt: ∀x∈l,∀y∈l,dr .Lt x y=some (gE x y)
 eq: ∀x∈l,∀y∈l,dr .Eq x y=some (eqv x y)
 keys: ∃(O:KeyOrd) (κ:D→O.α),eH O κ l
theorem BH{a b:Int}:(a==b)=(!decide (a<b)&& !decide (b<a)):=by
 rcases Int.lt_trichotomy a b with h|h|h
 ·rw[beq_eq_false_iff_ne.mpr (Int.ne_of_lt h),decide_eq_true h];rfl
 ·subst h;rw[beq_self_eq_true,decide_eq_false (Int.lt_irrefl a)];rfl
 ·rw[beq_eq_false_iff_ne.mpr (Int.ne_of_gt h),decide_eq_true h,Bool.not_true,Bool.and_false]
theorem BJ{l:List D}(h:cY l):Yg l:=by
 cases h with
 |kI h=>
  refine⟨λd hd=>?_,λx hx y hy=>?_,λx hx y hy=>?_,mM,qC,⟨λx hx y hy=>?_⟩⟩
  ·refine au (h d hd) λi P6=>?_
   subst P6
   rfl
  ·refine au (h x hx) λi P7=>?_
   subst P7
   refine au (h y hy) λj P8=>?_
   subst P8
   rfl
  ·refine au (h x hx) λi P9=>?_
   subst P9
   refine au (h y hy) λj Qa=>?_
   subst Qa
   exact congrArg some BH
  ·refine au (h x hx) λi Qb=>?_
   subst Qb
   refine au (h y hy) λj Qc=>?_
   subst Qc
   rfl
 |kS h=>
  refine⟨λd hd=>?_,λx hx y hy=>?_,λx hx y hy=>?_,strKind.toKeyOrd,Az,⟨λx hx y hy=>?_⟩⟩
  ·refine au (h d hd) λi Qd=>?_
   subst Qd
   rfl
  ·refine au (h x hx) λi Qe=>?_
   subst Qe
   refine au (h y hy) λj Qf=>?_
   subst Qf
   rfl
  ·refine au (h x hx) λi Qg=>?_
   subst Qg
   refine au (h y hy) λj Qh=>?_
   subst Qh
   refine congrArg some ?_
   show(i==j)=(!decide (i.cps.toList<j.cps.toList)&& !decide (j.cps.toList<i.cps.toList))
   rw[Bool.eq_iff_iff]
   simp only[beq_iff_eq,Bool.and_eq_true,Bool.not_eq_true',decide_eq_false_iff_not]
   constructor
   ·rintro rfl
    exact⟨List.lt_irrefl _,List.lt_irrefl _⟩
   ·rintro ⟨h1,h2⟩
    have:=List.le_antisymm (List.not_lt.mp h2) (List.not_lt.mp h1)
    cases i;cases j
    congr 1
    exact Array.toList_inj.mp this
  ·refine au (h x hx) λi Qi=>?_
   subst Qi
   refine au (h y hy) λj Qj=>?_
   subst Qj
   rfl
 |kO h=>
  refine⟨λd hd=>?_,λx hx y hy=>?_,λx hx y hy=>?_,mM,qC,⟨λx hx y hy=>?_⟩⟩
  ·refine cg (h d hd) λa i Qk=>?_
   subst Qk
   rfl
  ·refine cg (h x hx) λa i Ql=>?_
   subst Ql
   refine cg (h y hy) λb j Qm=>?_
   subst Qm
   rfl
  ·refine cg (h x hx) λa i Qn=>?_
   subst Qn
   refine cg (h y hy) λb j Qo=>?_
   subst Qo
   show some ((i==j)&&true)=some (!decide (i<j)&& !decide (j<i))
   rw[Bool.and_true,BH]
  ·refine cg (h x hx) λa i Qp=>?_
   subst Qp
   refine cg (h y hy) λb j Qq=>?_
   subst Qq
   rfl
theorem tK{f:ah→Option Out}{x:Nat}(g:Nat→D)(I:ah→Prop){n k:Nat}{d:D}(hk:k<n){σ:ah}(h0:I σ)
  (step: ∀(i:Nat) (σ:ah),i<k→I σ→ ∃σ2,f (upd σ x (g i))=some (.nx σ2)∧I σ2) (d7: ∀σ,I σ→f (upd σ x (g k))=some (.rt d)):cV f (.one x) ((List.range n).map g) σ=some (.rt d):=by
 have key: ∀(m a:Nat) (σ:ah),a+m=k→I σ→cV f (.one x) ((List.range' a (n-a)).map g) σ=some (.rt d):=by
  intro m
  induction m with
  |zero=>
   intro a σ ha hI
   have ha:a=k:=ha
   subst ha
   obtain⟨c,hc⟩: ∃c,n-a=c+1:=⟨n-a-1,jE hk⟩
   rw[hc,List.range'_succ,List.map_cons]
   unfold cV
   rw[fQ,Option.bind_some,d7 σ hI];rfl
  |succ m ih=>
   intro a σ ha hI
   refine aO λXq kq=>?_
   obtain⟨c,hc⟩: ∃c,n-a=c+1:=⟨n-a-1,jE (Nat.lt_trans (qh ha) hk)⟩
   refine ai (step a σ (qh ha) hI) λσ2 h1 h2=>?_
   refine kq ?_
   rw[hc,List.range'_succ,List.map_cons]
   unfold cV
   rw[fQ,Option.bind_some,h1]
   have:=ih (a+1) σ2 (mu ha) h2
   rw[show n-(a+1)=c from lj hc]at this
   exact this
 have:=key k 0 σ (by exact Nat.add_comm _ _) h0
 rw[Nat.sub_zero,←List.range_eq_range']at this
 exact this
theorem least{P:Nat→Prop}(h: ∃i,P i): ∃k,P k∧ ∀i,i<k→ ¬P i:=by
 refine au h λi hi=>?_
 induction i using Nat.strongRecOn with
 |ind i ih=>
  by_cases q: ∃j,j<i∧P j
  ·refine ai q λj hj hP=>?_
   exact ih j hj hP
  ·exact⟨i,hi,λj hj hP=>q ⟨j,hj,hP⟩⟩
theorem item_at{l:List D}{k:Nat}{y:D}(h:l[k]? =some y):o9 (.list l) (.int (k:Int))=some y:=by
 have hk:=(List.getElem?_eq_some_iff.mp h).1
 show(Dg l.length (k:Int)).bind (l[·]?)=some y
 unfold Dg
 rw[if_pos (by exact Int.natCast_nonneg _),if_pos (by exact Int.ofNat_lt.mpr ‹_›),Int.toNat_natCast];exact h
theorem F0{Φ:Nat→List D→Option D}{l:List D}(c:Yg l)(hl:l.length≤1000){p:Nat}{y:D}(hp:(bg l)[p]? =some y):eF Φ m0 [0,1] [.list l,.int (p:Int)]=some y:=by
 obtain⟨O,κ,ks⟩:=c.keys
 have tZ:p<l.length:=by rw[←dx];exact(List.getElem?_eq_some_iff.mp hp).1
 obtain⟨r1,r2⟩:=EA ks
 -- ql first place of this rank
 have ex: ∃(i:Nat),∃z,l[i]? =some z∧rank l i z=p:=r2 p tZ
 classical
 obtain⟨k,⟨z,hz,hr⟩,Wt⟩: ∃k,(∃z,l[k]? =some z∧rank l k z=p)∧ ∀i,i<k→ ¬ ∃z,l[i]? =some z∧rank l i z=p:=least ex
 have hzy:z=y:=by
  have:=r1 k z hz
  rw[hr,hp]at this
  exact(Option.some.inj this).symm
 subst hzy
 have hL:l.length≤bW:=Nat.le_trans hl (by decide)
 have hk:=(List.getElem?_eq_some_iff.mp hz).1
 refine pZ (σ:=upd (upd (λ_=>none) 0 (.list l)) 1 (.int (p:Int))) rfl ?_
 -- a turn
 have turn: ∀(i:Nat) (w:D) (σ:ah),l[i]? =some w→σ 0=some (.list l)→σ 1=some (.int (p:Int))→run Φ wR (upd σ 2 (.int (i:Int)))=
   if rank l i w=p then some (.rt w)else some (.nx (upd (upd σ 2 (.int (i:Int))) 3 (.list (l.filter (gE · w)++(l.take i).filter (eqv · w))))):=λi w σ hw h0 h1=>by
  have Yh:=List.mem_of_getElem? hw
  have c1:(ar Φ (.comp (.var 4) (.one 4) (.var 0) (.cons (.cmp .Lt (.var 4) (.item (.var 0) (.var 2))) .nil) .nil)).v (upd σ 2 (.int (i:Int)))=some (.list ((l.filter (gE · w)).map id)):=
   fb (e:=id) (g:=id) (d:= .list l) (aj h0 rfl) (by simp) hL λa ha=>⟨(BG _).trans (bz (aj (bS ..) (c.lM a ha)) (bu (aj (d:= .list l) h0 rfl) (aj (d:= .int (i:Int)) rfl rfl) (item_at hw)) (c.lt a ha w Yh)),λ_=>aj (bS ..) (c.lM a ha)⟩
  have c2:(ar Φ (.comp (.var 4) (.one 4) (.rZ (.var 0) .nil (.var 2) .nil) (.cons (.cmp .Eq (.var 4) (.item (.var 0) (.var 2))) .nil) .nil)).v (upd σ 2 (.int (i:Int)))=some (.list (((l.take i).filter (eqv · w)).map id)):=
   fb (e:=id) (g:=id) (d:= .list (l.take i)) (FZ (aj h0 rfl) (aj rfl rfl) rfl) (by simp) (Nat.le_trans (List.length_take_le' ..) hL) λa ha=>⟨(BG _).trans (bz (aj (bS ..) (c.lM a (List.mem_of_mem_take ha))) (bu (aj (d:= .list l) h0 rfl) (aj (d:= .int (i:Int)) rfl rfl) (item_at hw)) (c.eq a (List.mem_of_mem_take ha) w Yh)),λ_=>aj (bS ..) (c.lM a (List.mem_of_mem_take ha))⟩
  rw[List.map_id]at c1 c2
  have len:(l.filter (gE · w)++(l.take i).filter (eqv · w)).length=rank l i w:=by
   unfold rank cnt
   rw[List.length_append,List.countP_eq_length_filter,List.countP_eq_length_filter]
  have lim:(l.filter (gE · w)++(l.take i).filter (eqv · w)).length≤bW:=by
   rw[List.length_append]
   have a1:(l.filter (gE · w)).length≤l.length:=List.length_filter_le _ _
   have a2:((l.take i).filter (eqv · w)).length≤l.length:=Nat.le_trans (List.length_filter_le _ _) (List.length_take_le' ..)
   exact Nat.le_trans (Nat.add_le_add a1 a2) (Nat.le_trans (Nat.add_le_add hl hl) (by decide))
  unfold wR
  refine cu (nS c1 c2 lim) ?_
  have ht:(ar Φ (.cmp .Eq (.bi .len (.cons (.var 3) .nil)) (.var 1))).t (upd (upd σ 2 (.int (i:Int))) 3 (.list (l.filter (gE · w)++(l.take i).filter (eqv · w))))=some (decide (rank l i w=p)):=by
   refine bz (bt (aj rfl rfl) (nR _)) (aj h1 rfl) ?_
   rw[len,By]
   refine congrArg some ?_
   rw[Bool.eq_iff_iff]
   rw[beq_iff_eq,decide_eq_true_eq]
   exact Int.ofNat_inj
  by_cases R8:rank l i w=p
  ·rw[if_pos R8]
   rw[decide_eq_true R8]at ht
   exact fR ht (dJ (bu (aj (d:= .list l) h0 rfl) (aj (d:= .int (i:Int)) rfl rfl) (item_at hw)))
  ·rw[if_neg R8]
   rw[decide_eq_false R8]at ht
   exact j3 ht rfl
 unfold m0
 have hs:(ar Φ (.bi .range (.cons (.bi .len (.cons (.var 0) .nil)) .nil))).v (upd (upd (λ_=>none) 0 (.list l)) 1 (.int (p:Int)))=some (.Ff 0 (l.length:Int) 1):=by
  exact bt (bt (aj rfl rfl) (nR _)) (pW (jZ (by exact Int.natCast_nonneg _) (by exact Int.ofNat_le.mpr ‹_›)))
 rw[run_seq,mn,hs,Option.bind_some,tI l.length rfl (Nat.le_trans hl (by decide)),Option.bind_some]
 have:=tK (f:=run Φ wR) (x:=2) (λi=>D.int (i:Int)) (λσ=>σ 0=some (.list l)∧σ 1=some (.int (p:Int))) (n:=l.length) (k:=k) (d:=z) hk (σ:=upd (upd (λ_=>none) 0 (.list l)) 1 (.int (p:Int))) ⟨by simp,by simp⟩ (λi σ hi ⟨g0,g1⟩=>?_) λσ ⟨g0,g1⟩=>?_
 ·rw[this];rfl
 ·have jr:i<l.length:=by exact Nat.lt_trans ‹_› ‹_›
  have ne:rank l i l[i]≠p:=λq=>Wt i hi ⟨l[i],List.getElem?_eq_getElem jr,q⟩
  exact⟨_,(turn i l[i] σ (List.getElem?_eq_getElem jr) g0 g1).trans (if_neg ne),g0,g1⟩
 ·rw[turn k z σ hz g0 g1,if_pos hr]
end Mine.Internal.dU
end
section
open PySem PySem.Flt PySem.Float64
set_option exponentiation.threshold 4000
namespace Mine.Internal
noncomputable def KK:Nat:=2^1073
theorem vB:0<KK:=Nat.two_pow_pos _
theorem BK:(2:Nat)^1074=2*KK:=by
 unfold KK
 rw[Nat.pow_succ,Nat.mul_comm]
noncomputable def Fin(x:UInt64):Prop:= ∃a m e,decode x= .fin a m e
theorem Qr{n:Nat}(h:n<2^53): ∃t,t<infMag∧V t=n*KK:=by
 by_cases h0:n=0
 ·exact⟨0,Nat.succ_pos _,by rw[h0,V_zero,Nat.zero_mul]⟩
 ·have l1:n.log2≤52:=Nat.le_of_lt_succ ((Nat.log2_lt h0).mpr h)
  have q1:2^52≤n*2^(52-n.log2):=by
   have:=Nat.mul_le_mul_right (2^(52-n.log2)) (Nat.log2_self_le h0)
   rwa[←Nat.pow_add,Nat.add_sub_of_le l1]at this
  have q2:n*2^(52-n.log2)<2^53:=by
   have:=Nat.mul_lt_mul_of_pos_right (Nat.lt_log2_self (n:=n)) (Nat.two_pow_pos (52-n.log2))
   rwa[←Nat.pow_add,Nat.succ_add,Nat.add_sub_of_le l1]at this
  refine⟨(1021+n.log2)*2^52+n*2^(52-n.log2),Nat.lt_of_lt_of_le (Nat.add_lt_add_of_le_of_lt (Nat.mul_le_mul_right _ (Nat.add_le_add_left l1 1021)) q2) (by decide),?_⟩
  rw[V_at (Nat.le_of_lt q2) (.inl q1),Nat.mul_assoc,←Nat.pow_add,Nat.add_left_comm,Nat.sub_add_cancel l1]
  exact congrArg (n * ·) (show 2^(1021+52)=KK from rfl)
structure Hf(x:UInt64)(h:Int):Prop where
 fin:Fin x
 vl:val x=h*(KK:Int)
theorem yR{a b:Nat}(h:dist a b≤0):a=b:=by
 have e:=Nat.eq_zero_of_le_zero h
 exact Nat.le_antisymm (Nat.le_of_sub_eq_zero (Nat.eq_zero_of_add_eq_zero_right e)) (Nat.le_of_sub_eq_zero (Nat.eq_zero_of_add_eq_zero_left e))
theorem Qs{t:Nat}(h:t<infMag):V t≤(2^53-1)*2^2045:=by
 have e:infMag-1=2045*2^52+(2^53-1):=rfl
 have:=V_mono (show t≤infMag-1 from Nat.le_sub_one_of_lt h)
 rwa[e,V_at (by decide) (.inl (by decide))]at this
theorem j5{r:UInt64}{neg:Bool}{W D t0:Nat}(hr:Right r neg W D)(hD:0<D)(hW:W=D*V t0)(h:t0<infMag):Fin r∧val r=sgn neg (V t0):=by
 obtain⟨t,e,t1,t2,t3⟩:=hr
 have cy:t<infMag:=by
  refine Nat.lt_of_le_of_ne t1 λq=>?_
  have q3:=t2.mp q
  rw[hW,Nat.mul_left_comm 2 D]at q3
  have q6:=Nat.le_trans (Nat.le_of_mul_le_mul_left q3 hD) (Nat.mul_le_mul_left 2 (Qs h))
  rw[←Nat.mul_assoc]at q6
  exact absurd (Nat.le_of_mul_le_mul_right q6 (Nat.two_pow_pos _)) (by decide)
 have h0:=(t3 cy t0).1
 rw[show dist W (D*V t0)=0 by rw[hW,dist,Nat.sub_self]]at h0
 have hv:V t=V t0:=Nat.eq_of_mul_eq_mul_left hD ((yR h0).symm.trans hW)
 subst e
 obtain⟨m,e,d1,_⟩:=decode_pack neg cy
 exact⟨⟨_,_,_,d1⟩,by rw[val_pack neg cy,hv]⟩
theorem Hf.of{r:UInt64}{neg:Bool}{W D n:Nat}(hr:Right r neg W D)(hD:0<D)(hW:W=D*(n*KK))(h:n<2^53):Hf r (sgn neg n):=by
 obtain⟨t0,q1,q2⟩:=Qr h
 obtain⟨k1,k2⟩:=j5 (t0:=t0) hr hD (by rw[q2];exact hW) q1
 exact⟨k1,by rw[k2,q2];exact sgn_mul neg n KK⟩
theorem mq(s:Int):sgn (decide (s<0)) s.natAbs=s:=by
 unfold sgn
 by_cases h:s<0
 ·rw[decide_eq_true h,if_pos rfl,Int.ofNat_natAbs_of_nonpos (Int.le_of_lt h),Int.neg_neg]
 ·rw[decide_eq_false h,if_neg (by decide),Int.natAbs_of_nonneg (Int.not_lt.mp h)]
theorem lK{h k:Int}(hk:0<k):h*k<0↔h<0:=
 ⟨λq=>Int.not_le.mp λw=>absurd q (Int.not_lt.mpr (Int.mul_nonneg w (Int.le_of_lt hk))),λq=>Int.mul_neg_of_neg_of_pos q hk⟩
theorem w7(j:Int):decide (j<0)=decide (2*j<0):=decide_eq_decide.mpr (by rw[Int.mul_comm];exact(lK (by decide)).symm)
theorem EB{x:UInt64}{a:Bool}{m:Nat}{e:Int}(h:decode x= .fin a m e):val x=sgn a (val x).natAbs:=by
 rw[val_natAbs h,←val_eq h]
theorem BL(h:Int):(h*(KK:Int)).natAbs=h.natAbs*KK:=by rw[Int.natAbs_mul,Int.natAbs_natCast]
theorem Iv{a:Bool}{h:Int}(e:h*(KK:Int)=sgn a (h.natAbs*KK)):sgn a h.natAbs=h:=by
 have:=vB
 rw[sgn_mul]at e
 exact(Int.eq_of_mul_eq_mul_right (by decide) e).symm
theorem Hf.sg{x:UInt64}{h:Int}(q:Hf x h): ∃a m e,decode x= .fin a m e∧sgn a h.natAbs=h:=by
 obtain⟨⟨a,m,e,hd⟩,hv⟩:=q
 have:=EB hd
 rw[hv,BL]at this
 exact⟨a,m,e,hd,Iv this⟩
theorem Hf.ofInt(j:Int)(h:j.natAbs<2^52):Hf (Float64.ofInt j) (2*j):=by
 have r:=ofInt_right j
 rw[BK]at r
 have:=Hf.of (n:=2*j.natAbs) r (by decide) (by rw[Nat.one_mul,←Nat.mul_assoc,Nat.mul_comm 2]) (Nat.lt_of_lt_of_le (Nat.mul_lt_mul_of_pos_left h (by decide:0<2)) (by decide))
 rwa[←lX,w7,mq]at this
theorem Hf.quot(s:Int)(h:s.natAbs<2^52):Hf (quot s 2) s:=by
 have r:Right (Float64.ofFrac (decide (s<0)) s.natAbs 2) (decide (s<0)) (s.natAbs*KK) 1:=ofFrac_right (by decide) (by rw[BK,Nat.mul_one,Nat.mul_comm 2,Nat.mul_assoc]) (by decide)
 have:=Hf.of r (by decide) (Nat.one_mul _).symm (Nat.lt_trans h (by decide))
 rw[mq]at this
 unfold Mine.Internal.quot
 rwa[show decide ((2:Int)<0)=false from rfl,Bool.bne_false]
theorem Hf.add{x y:UInt64}{h k:Int}(hx:Hf x h)(hy:Hf y k)(q:(h+k).natAbs<2^53):Hf (Float64.add x y) (h+k):=by
 obtain⟨a,m,e,d1,s1⟩:=hx.sg
 obtain⟨b,l,f,d2,s2⟩:=hy.sg
 obtain⟨r1,r2⟩:=add_right d1 d2
 have e1:val x+val y=(h+k)*(KK:Int):=by rw[hx.vl,hy.vl,Int.add_mul]
 have kp:=vB
 by_cases z:h+k=0
 ·rw[r1 (by rw[e1,z,Int.zero_mul]),z]
  have hz:(0:Nat)<infMag:=by decide
  obtain⟨m',e',d3,_⟩:=decode_pack (a&&b) hz
  exact⟨⟨_,_,_,d3⟩,by rw[Float64.zero,val_pack _ hz,V_zero];cases(a&&b) <;> simp[sgn]⟩
 ·have r:=r2 (by rw[e1];exact Int.mul_ne_zero z (by decide))
  rw[e1,BL]at r
  have:=Hf.of r (by decide) (Nat.one_mul _).symm q
  rwa[decide_eq_decide.mpr (lK (by decide)),mq]at this
theorem Hf.neg{y:UInt64}{k:Int}(hy:Hf y k):Hf (Float64.neg y) (-k):=by
 obtain⟨b,l,f,d2,s2⟩:=hy.sg
 exact⟨⟨_,_,_,neg_decode d2⟩,by rw[neg_val d2,hy.vl,Int.neg_mul]⟩
theorem Hf.sub{x y:UInt64}{h k:Int}(hx:Hf x h)(hy:Hf y k)(q:(h-k).natAbs<2^53):Hf (Float64.sub x y) (h-k):=by
 have e:=Int.sub_eq_add_neg (a:=h) (b:=k)
 rw[e]at q ⊢
 have:=hx.add hy.neg q
 unfold Float64.sub
 exact this
theorem BM:Hf Float64.half 1:=by
 have hz:1022*2^52<infMag:=by decide
 obtain⟨m',e',d3,_⟩:=decode_pack false hz
 refine⟨⟨_,_,_,d3⟩,?_⟩
 unfold half
 rw[val_pack _ hz,show 1022*2^52=1021*2^52+2^52 by decide,V_at (by decide) (.inl (Nat.le_refl _)),←Nat.pow_add,Int.one_mul]
 unfold sgn KK
 rw[if_neg (by decide)]
theorem Hf.vC{x:UInt64}{h:Int}(hx:Hf x h):Float64.isInf x=false:=by
 obtain⟨a,m,e,d⟩:=hx.fin
 unfold Float64.isInf;rw[d]
theorem EC{n:Int}(h:n.natAbs≤2): ¬Over n:=by
 intro w
 have:2^1024-2^970≤2:=Nat.le_trans w h
 exact absurd this (by decide)
theorem BN{s:Int}(h:s.natAbs<2^50):bA .Div (.int s) (.int 2)=some (.cx (quot s 2)):=by
 show(if(2:Int)=0 then none else if Float64.isInf (quot s 2)=true then none else some (D.cx (quot s 2)))=_
 rw[if_neg (by decide),(Hf.quot s (Nat.lt_trans h (by decide))).vC,if_neg (by decide)]
end Mine.Internal
end
section
open PySem PySem.Flt PySem.Float64
set_option exponentiation.threshold 4000
namespace Mine.Internal
theorem vD(m:Nat):halfEven m 1=m:=by
 unfold halfEven
 simp[Nat.mod_one]
theorem nV{k:Nat}(n d:Nat)(hk:0<k):halfEven (n*k) (d*k)=halfEven n d:=by
 unfold halfEven
 rw[Nat.mul_div_mul_right _ _ hk,Nat.mul_mod_mul_right]
 dsimp only
 rw[←Nat.mul_assoc]
 have e1:(2*(n%d)*k>d*k)=(2*(n%d)>d):=propext (Nat.mul_lt_mul_right hk)
 have e2:(2*(n%d)*k==d*k)=(2*(n%d)==d):=by
  rw[Bool.eq_iff_iff,beq_iff_eq,beq_iff_eq];exact Nat.mul_right_cancel_iff hk
 simp only[e1,e2]
theorem vE(m d:Nat)(hd:0<d):halfEven (m*d) d=m:=by
 have:=nV m 1 hd
 rwa[Nat.one_mul,vD]at this
theorem shift_nat(n d b k:Nat):shift n d (-((b:Int)-(k:Int)))=if b≤k then(n*2^(k-b),d)else(n,d*2^(b-k)):=by
 unfold shift
 rw[Int.neg_sub]
 by_cases h:b≤k
 ·rw[if_pos h,if_pos (Int.sub_nonneg_of_le (Int.ofNat_le.mpr h)),Int.toNat_sub]
 ·rw[if_neg h,if_neg λq=>h (Int.ofNat_le.mp (Int.le_of_sub_nonneg q)),Int.neg_sub,Int.toNat_sub]
noncomputable def hx(n:Nat):Nat:=if 52≤n.log2 then halfEven n (2^(n.log2-52))else n*2^(52-n.log2)
theorem BO{n c:Nat}(l2:2^n.log2≤n):(shift n (2^c) (-((n.log2:Int)-(c:Int)))).1≥(shift n (2^c) (-((n.log2:Int)-(c:Int)))).2:=by
 rw[shift_nat]
 by_cases h:n.log2≤c
 ·rw[if_pos h]
  have:=Nat.mul_le_mul_right (2^(c-n.log2)) l2
  rwa[←Nat.pow_add,Nat.add_sub_of_le h]at this
 ·rw[if_neg h]
  show 2^c*2^(n.log2-c)≤n
  rwa[←Nat.pow_add,Nat.add_sub_of_le (Nat.le_of_not_le h)]
theorem BP(n c:Nat):halfEven (shift n (2^c) (-((n.log2:Int)-((c+52:Nat):Int)))).1 (shift n (2^c) (-((n.log2:Int)-((c+52:Nat):Int)))).2=hx n:=by
 rw[shift_nat]
 unfold hx
 generalize n.log2=b
 by_cases h2:52≤b
 ·rw[if_pos h2]
  obtain⟨j,rfl⟩:=Nat.exists_eq_add_of_le' h2
  rw[Nat.add_sub_cancel,Nat.add_sub_add_right]
  by_cases h:j≤c
  ·rw[if_pos (Nat.add_le_add_right h 52)]
   have e:2^c=2^j*2^(c-j):=by rw[←Nat.pow_add,Nat.add_sub_of_le h]
   rw[e]
   exact nV _ _ (Nat.two_pow_pos _)
  ·rw[if_neg λq=>h (Nat.le_of_add_le_add_right q)]
   show halfEven n (2^c*2^(j+52-(c+52)))=_
   rw[Nat.add_sub_add_right,←Nat.pow_add,Nat.add_sub_of_le (Nat.le_of_not_le h)]
 ·have h3:=Nat.le_of_not_le h2
  rw[if_neg h2,if_pos (Nat.le_trans h3 (Nat.le_add_left _ _)),Nat.add_sub_assoc h3,Nat.pow_add,Nat.mul_comm (2^c),←Nat.mul_assoc]
  exact vE _ _ (Nat.two_pow_pos _)
theorem j6{n:Nat}(c k:Nat)(hn:n≠0)(hk:c+52+k=1074):roundMag n (2^c)=min infMag ((n.log2+k)*2^52+hx n):=by
 have ge:=BO (c:=c) (Nat.log2_self_le hn)
 have e1:(n.log2:Int)-(c:Int)-52=(n.log2:Int)-((c+52:Nat):Int):=Int.sub_sub ..
 have e2:max ((n.log2:Int)-((c+52:Nat):Int)) (-1074)=(n.log2:Int)-((c+52:Nat):Int):=
  Int.max_eq_left (Int.le_trans (Int.neg_le_neg (Int.ofNat_le.mpr (hk▸Nat.le_add_right _ _))) (Int.sub_eq_add_neg▸Int.le_add_of_nonneg_left (Int.natCast_nonneg _)))
 have e3:((n.log2:Int)-((c+52:Nat):Int)+1074).toNat=n.log2+k:=by
  have:(1074:Int)=((c+52:Nat):Int)+(k:Int):=congrArg Int.ofNat hk.symm
  rw[this,←Int.add_assoc,Int.sub_add_cancel,←Int.natCast_add,Int.toNat_natCast]
 unfold roundMag
 rw[if_neg (by simpa using hn),Nat.log2_two_pow]
 dsimp only
 rw[if_pos ge,e1,e2,e3,BP]
theorem cN{n:Nat}(hn:n≠0):roundMag n 2=min infMag ((n.log2+1021)*2^52+hx n):=j6 1 1021 hn rfl
theorem qZ{n:Nat}(hn:n≠0):roundMag n 1=min infMag ((n.log2+1022)*2^52+hx n):=j6 0 1022 hn rfl
end Mine.Internal
end
section
open PySem PySem.Flt PySem.Float64
set_option exponentiation.threshold 4000
namespace Mine.Internal
noncomputable def hs(n:Nat):Nat:=n.log2+1-53
noncomputable def hp(n:Nat):Nat:=halfEven n (2^hs n)
theorem Qt(n d:Nat):n/d≤halfEven n d:=by
 unfold halfEven
 dsimp only
 split
 ·exact Nat.le_succ _
 ·exact Nat.le_refl _
theorem Qu(n d:Nat):halfEven n d≤n/d+1:=by
 unfold halfEven
 dsimp only
 split
 ·exact Nat.le_refl _
 ·exact Nat.le_succ _
theorem iz{n:Nat}(h:n.log2<52):hp n*2^hs n=n∧hs n=0∧hp n=n:=by
 have e:hs n=0:=Nat.sub_eq_zero_of_le (Nat.le_succ_of_le h)
 have e2:hp n=n:=by unfold hp;rw[e,Nat.pow_zero,vD]
 exact⟨by rw[e,e2,Nat.pow_zero,Nat.mul_one],e,e2⟩
theorem BQ{n:Nat}(h:52≤n.log2):hx n=hp n:=by
 unfold hx hp hs
 rw[if_pos h,show n.log2+1-53=n.log2-52 by rfl]
theorem j7{b:Nat}(h:52≤b):2^b=2^52*2^(b-52)∧2^(b+1)=2^53*2^(b-52):=by
 have e:2^b=2^52*2^(b-52):=by rw[←Nat.pow_add,Nat.add_sub_of_le h]
 refine⟨e,?_⟩
 rw[Nat.pow_succ,e,Nat.mul_right_comm]
theorem iT{n:Nat}(hn:n≠0)(h:52≤n.log2):2^52≤hp n∧hp n≤2^53:=by
 have l1:2^n.log2≤n:=Nat.log2_self_le hn
 have l2:n<2^(n.log2+1):=Nat.lt_log2_self
 rw[(j7 h).1]at l1
 rw[(j7 h).2]at l2
 have hd:0<2^(n.log2-52):=Nat.two_pow_pos _
 exact⟨Nat.le_trans ((Nat.le_div_iff_mul_le hd).mpr l1) (Qt _ _),Nat.le_trans (Qu _ _) ((Nat.div_lt_iff_lt_mul hd).mpr l2)⟩
theorem w9{m b:Nat}(h1:2^b≤m)(h2:m<2^(b+1)):m.log2=b:=by
 have hm:m≠0:=Nat.ne_of_gt (Nat.lt_of_lt_of_le (Nat.two_pow_pos b) h1)
 exact Nat.le_antisymm (Nat.le_of_lt_succ ((Nat.log2_lt hm).mpr h2)) ((Nat.le_log2 hm).mpr h1)
theorem BR(b k P:Nat):(b+1+k)*P+P=(b+k)*P+(P+P):=by
 rw[Nat.add_right_comm b 1 k,Nat.add_mul (b+k) 1,Nat.one_mul,Nat.add_assoc]
theorem BU(n:Nat):roundMag (hp n*2^hs n) 2=roundMag n 2:=by
 rcases Nat.lt_or_ge n.log2 52 with hb|hb
 ·rw[(iz hb).1]
 ·have hn:n≠0:=λe=>by rw[e]at hb;exact absurd hb (by decide)
  obtain⟨b1,b2⟩:=iT hn hb
  obtain⟨e1,e2⟩:=j7 hb
  rw[cN hn,BQ hb,show hs n=n.log2-52 from rfl]
  generalize hp n=p at *
  generalize n.log2=b at *
  have pos:0<2^(b-52):=Nat.two_pow_pos _
  have fB:p*2^(b-52)≠0:=Nat.mul_ne_zero (Nat.ne_of_gt (Nat.lt_of_lt_of_le (Nat.two_pow_pos 52) b1)) (Nat.ne_of_gt pos)
  rcases Nat.lt_or_ge p (2^53)with hp|hp
  ·have lg:(p*2^(b-52)).log2=b:=w9 (by rw[e1];exact Nat.mul_le_mul_right _ b1) (by rw[e2];exact Nat.mul_lt_mul_of_pos_right hp pos)
   rw[cN fB]
   unfold hx
   rw[lg,if_pos hb,vE _ _ pos]
  ·have hp:p=2^53:=Nat.le_antisymm b2 hp
   subst hp
   rw[←e2]at fB ⊢
   have lg:(2^(b+1)).log2=b+1:=Nat.log2_two_pow
   rw[cN fB]
   unfold hx
   have e3:2^(b+1)=2^52*2^(b+1-52):=(j7 (Nat.le_succ_of_le hb)).1
   have e4:(b+1+1021)*2^52+2^52=(b+1021)*2^52+2^53:=by
    rw[Nat.pow_succ 2 52,Nat.mul_two];exact BR _ _ _
   rw[lg,if_pos (Nat.le_succ_of_le hb),e3,vE _ _ (Nat.two_pow_pos _),e4]
theorem ED(n:Nat):roundMag n 2=infMag↔2^1025≤hp n*2^hs n:=by
 by_cases h0:n=0
 ·subst h0
  rw[(iz (by decide)).1]
  exact⟨λh=>absurd (show 0=infMag from h) (by decide),λh=>absurd h (Nat.not_le.mpr (Nat.two_pow_pos _))⟩
 ·rcases Nat.lt_or_ge n.log2 52 with hb|hb
  ·rw[(iz hb).1,cN h0]
   have l2:n<2^(n.log2+1):=Nat.lt_log2_self
   have rE:hx n<2^53:=by
    unfold hx
    have h:=Nat.mul_lt_mul_of_pos_right l2 (Nat.two_pow_pos (52-n.log2))
    rw[←Nat.pow_add,Nat.succ_add,Nat.add_sub_of_le (Nat.le_of_lt hb)]at h
    rwa[if_neg (Nat.not_le.mpr hb)]
   have n2:n<2^1025:=Nat.lt_of_lt_of_le l2 (Nat.pow_le_pow_right (by decide) (Nat.le_trans hb (by decide)))
   have n3:(n.log2+1021)*2^52+hx n<infMag:=Nat.lt_of_lt_of_le (Nat.add_lt_add_of_le_of_lt (Nat.mul_le_mul_right _ (Nat.add_le_add_right (Nat.le_of_lt hb) 1021)) rE) (by decide)
   exact⟨λh=>absurd (h▸Nat.min_le_right _ _) (Nat.not_le.mpr n3),λh=>absurd n2 (Nat.not_lt.mpr h)⟩
  ·obtain⟨b1,b2⟩:=iT h0 hb
   obtain⟨e1,e2⟩:=j7 hb
   rw[cN h0,BQ hb,show hs n=n.log2-52 from rfl]
   generalize hp n=p at *
   generalize n.log2=b at *
   have key:min infMag ((b+1021)*2^52+p)=infMag↔infMag≤(b+1021)*2^52+p:=⟨λh=>h▸Nat.min_le_right _ _,λh=>Nat.min_eq_left h⟩
   rw[key]
   rcases Nat.lt_trichotomy b 1024 with h|h|h
   ·have n3:(b+1021)*2^52+p<infMag:=Nat.lt_of_le_of_lt (Nat.add_le_add (Nat.mul_le_mul_right _ (Nat.add_le_add_right (Nat.le_of_lt_succ h) 1021)) b2) (by decide)
    have n4:p*2^(b-52)<2^1025:=Nat.lt_of_le_of_lt (e2▸Nat.mul_le_mul_right _ b2) (Nat.pow_lt_pow_right (by decide) (Nat.succ_lt_succ h))
    exact⟨λq=>absurd q (Nat.not_le.mpr n3),λq=>absurd q (Nat.not_le.mpr n4)⟩
   ·subst h
    rw[show(2:Nat)^1025=2^53*2^(1024-52)from e2,show infMag=(1024+1021)*2^52+2^53 from rfl]
    exact⟨λq=>Nat.mul_le_mul_right _ (Nat.le_of_add_le_add_left q),λq=>Nat.add_le_add_left (Nat.le_of_mul_le_mul_right q (Nat.two_pow_pos _)) _⟩
   ·have n3:infMag≤(b+1021)*2^52+p:=Nat.le_trans (by decide:infMag≤(1025+1021)*2^52+2^52) (Nat.add_le_add (Nat.mul_le_mul_right _ (Nat.add_le_add_right h 1021)) b1)
    have n4:2^1025≤p*2^(b-52):=Nat.le_trans (Nat.pow_le_pow_right (by decide) h) (e1▸Nat.mul_le_mul_right _ b1)
    exact⟨λ_=>n4,λ_=>n3⟩
theorem BV{n:Nat}(h0:n≠0)(lg:(2*n).log2=n.log2+1):hx (2*n)=hx n:=by
 unfold hx
 rw[lg,Nat.mul_comm 2 n]
 generalize n.log2=b
 by_cases h:52≤b
 ·rw[if_pos h,if_pos (Nat.le_succ_of_le h),Nat.succ_sub h,Nat.pow_succ]
  exact nV _ _ (by decide)
 ·have h:=Nat.lt_of_not_le h
  rw[if_neg (Nat.not_le.mpr h)]
  by_cases h2:52≤b+1
  ·have:b=51:=Nat.le_antisymm (Nat.le_of_lt_succ h) (Nat.le_of_succ_le_succ h2)
   subst this
   exact vD _
  ·rw[if_neg h2,jE h,Nat.pow_succ,Nat.mul_right_comm,Nat.mul_assoc]
   rfl
theorem BW(n:Nat):roundMag (2*n) 2=roundMag n 1:=by
 by_cases h0:n=0
 ·subst h0;rfl
 ·have lg:(2*n).log2=n.log2+1:=w9 (by rw[Nat.pow_succ'];exact Nat.mul_le_mul_left _ (Nat.log2_self_le h0)) (by rw[Nat.pow_succ'];exact Nat.mul_lt_mul_of_pos_left Nat.lt_log2_self (by decide))
  rw[cN (Nat.mul_ne_zero (by decide) h0),qZ h0,lg,BV h0 lg,Nat.add_right_comm n.log2 1]
end Mine.Internal
end
section
open PySem PySem.Flt PySem.Float64
set_option exponentiation.threshold 4000
namespace Mine.Internal
theorem BX(neg:Bool):decode (pack neg infMag)= .inf neg:=by cases neg <;> kernel_rfl
theorem yS{x:UInt64}{b:Bool}(h:decode x= .inf b):isInf x=true:=by unfold isInf;rw[h]
theorem yT{x:UInt64}{a:Bool}{m:Nat}{e:Int}(h:decode x= .fin a m e):isInf x=false:=by unfold isInf;rw[h]
theorem isInf_pack(neg:Bool){t:Nat}(h:t≤infMag):isInf (pack neg t)=true↔t=infMag:=by
 have e:=BX neg
 have d:=λq:t<infMag=>decode_pack neg q
 generalize infMag=M at *
 by_cases h2:t=M
 ·subst h2
  exact⟨λ_=>rfl,λ_=>yS e⟩
 ·obtain⟨m,f,hd,_⟩:=d (Nat.lt_of_le_of_ne h h2)
  exact⟨λq=>(by rw[yT hd]at q;cases q),λq=>absurd q h2⟩
theorem F1(n d:Nat):roundMag n d≤infMag:=by rw[roundMag_min];exact Nat.min_le_left _ _
theorem tL(T:Int):quot T 2=pack (decide (T<0)) (roundMag T.natAbs 2):=by
 show ofFrac (decide (T<0) != decide ((2:Int)<0)) T.natAbs 2=_
 rw[show decide ((2:Int)<0)=false from rfl,Bool.bne_false,ofFrac]
noncomputable def rt(T:Int):Int:=((hp T.natAbs*2^hs T.natAbs:Nat):Int)*if T<0 then -1 else 1
theorem Iw{n:Nat}(h:n≠0):hp n*2^hs n≠0:=by
 rcases Nat.lt_or_ge n.log2 52 with hb|hb
 ·rw[(iz hb).1];exact h
 ·exact Nat.mul_ne_zero (Nat.ne_of_gt (Nat.lt_of_lt_of_le (Nat.two_pow_pos 52) (iT h hb).1)) (Nat.ne_of_gt (Nat.two_pow_pos _))
theorem Iy(T:Int):(rt T).natAbs=hp T.natAbs*2^hs T.natAbs:=by
 unfold rt
 rw[Int.natAbs_mul,Int.natAbs_natCast]
 split <;> exact Nat.mul_one _
theorem Iz(T:Int):(rt T<0)↔T<0:=by
 unfold rt
 by_cases h:T<0
 ·rw[if_pos h]
  exact⟨λ_=>h,λ_=>Int.mul_neg_of_pos_of_neg (Int.natCast_pos.mpr (Nat.pos_of_ne_zero (Iw (Int.natAbs_ne_zero.mpr (Int.ne_of_lt h))))) (by decide)⟩
 ·rw[if_neg h]
  exact⟨λq=>absurd q (Int.not_lt.mpr (Int.mul_nonneg (Int.natCast_nonneg _) (by decide))),λq=>absurd q h⟩
theorem EE(T:Int):quot (rt T) 2=quot T 2:=by
 rw[tL,tL,Iy,BU,decide_eq_decide.mpr (Iz T)]
theorem rb(T:Int):isInf (quot T 2)=true↔2^1025≤hp T.natAbs*2^hs T.natAbs:=by
 rw[tL,isInf_pack _ (F1 _ _)]
 exact ED _
theorem jB(h:Int):quot (2*h) 2=Float64.ofInt h:=by
 rw[tL]
 rw[ofInt,ofFrac]
 rw[lX,BW,←w7]
theorem yU(x:UInt64):x=pack (x.toNat/2^63==1) (x.toNat%2^63):=by
 have hx:x.toNat/2^63<2:=Nat.div_lt_of_lt_mul x.toNat_lt
 have d:=Nat.div_add_mod x.toNat (2^63)
 have:((if(x.toNat/2^63==1)=true then 2^63 else 0)+x.toNat%2^63)=x.toNat:=by
  by_cases h:x.toNat/2^63=1
  ·rw[h,Nat.mul_one]at d
   rwa[if_pos (beq_iff_eq.mpr h)]
  ·rw[Nat.lt_one_iff.mp (Nat.lt_of_le_of_ne (Nat.le_of_lt_succ hx) h),Nat.mul_zero]at d
   rwa[if_neg λq=>h (beq_iff_eq.mp q)]
 unfold pack
 rw[this]
 exact(UInt64.ofNat_toNat).symm
theorem tM{t:Nat}(lo:2047*2^52≤t)(hi:t<2^63)(b:Nat):(2^52*(2048*b)+t)/2^52%2048=2047:=by
 rw[Nat.mul_add_div (Nat.two_pow_pos _),Nat.div_eq_of_lt_le lo (Nat.lt_of_lt_of_le hi (by decide)),Nat.mul_add_mod]
theorem EF{x:UInt64}(h:x.toNat/2^52%2048=2047){a:Bool}{m:Nat}{e:Int}:decode x≠ .fin a m e:=by
 have d:decode x=if x.toNat%2^52==0 then .inf (x.toNat/2^63==1)else .nan:=by
  unfold decode;dsimp only;rw[h];rfl
 rw[d]
 split
 ·exact λh=>nomatch h
 ·exact λh=>nomatch h
theorem Fin.V{x:UInt64}(h:Fin x): ∃neg t,t<infMag∧x=pack neg t∧val x=sgn neg (V t):=by
 have e:=yU x
 generalize (x.toNat/2^63==1)=neg at e
 have ht:x.toNat%2^63<2^63:=Nat.mod_lt _ (Nat.two_pow_pos _)
 generalize x.toNat%2^63=t at e ht
 rcases Nat.lt_or_ge t infMag with q|q
 ·exact⟨neg,t,q,e,by rw[e];exact val_pack neg q⟩
 ·obtain⟨a,m,f,hd⟩:=h
  rw[e]at hd
  refine absurd hd (EF ?_)
  rw[pack_toNat neg ht]
  cases neg
  ·exact tM q ht 0
  ·exact tM q ht 1
theorem j8(a:Bool):sgn a 0=0:=by cases a <;> rfl
theorem tN(b:Bool):Fin (Float64.zero b)∧val (Float64.zero b)=0:=by
 have hz:(0:Nat)<infMag:=by decide
 obtain⟨m',e',d3,_⟩:=decode_pack b hz
 exact⟨⟨_,_,_,d3⟩,by rw[Float64.zero,val_pack _ hz,V_zero,j8]⟩
theorem F2{x z:UInt64}(hx:Fin x)(hz:Fin z)(h0:val z=0):Fin (Float64.add x z)∧val (Float64.add x z)=val x:=by
 obtain⟨a,m,e,d1⟩:=id hx
 obtain⟨b,l,f,d2⟩:=hz
 obtain⟨r1,r2⟩:=add_right d1 d2
 rw[h0,Int.add_zero]at r1 r2
 by_cases q:val x=0
 ·rw[r1 q,q];exact tN _
 ·refine aO λXq kq=>?_
  obtain⟨neg,t,ht,_,hv⟩:=hx.V
  have r:=r2 q
  have ab:(val x).natAbs=V t:=by rw[hv,sgn_natAbs]
  obtain⟨k1,k2⟩:=j5 (t0:=t) r (by decide) (by rw[ab,Nat.one_mul]) ht
  refine kq ?_
  refine⟨k1,k2.trans ?_⟩
  rw[←ab];exact mq (val x)
theorem Qv{x:UInt64}(hx:Fin x):Fin (Float64.neg x)∧val (Float64.neg x)= -val x:=by
 obtain⟨a,m,e,d1⟩:=hx
 exact⟨⟨_,_,_,neg_decode d1⟩,neg_val d1⟩
theorem Qw{x z:UInt64}(hx:Fin x)(hz:Fin z)(h0:val z=0):Fin (Float64.sub x z)∧val (Float64.sub x z)=val x:=by
 obtain⟨k1,k2⟩:=Qv hz
 rw[Float64.sub]
 exact F2 hx k1 (by rw[k2,h0];rfl)
theorem Qx{z y:UInt64}(hz:Fin z)(h0:val z=0)(hy:Fin y):Fin (Float64.mul z y)∧val (Float64.mul z y)=0:=by
 obtain⟨a,m,e,d1⟩:=hz
 obtain⟨b,l,f,d2⟩:=hy
 have r:=mul_right d1 d2
 rw[h0]at r
 obtain⟨k1,k2⟩:=j5 (t0:=0) r (Nat.two_pow_pos _) (by rw[V_zero];simp) (by decide)
 exact⟨k1,by rw[k2,V_zero,j8]⟩
theorem F3{z y:UInt64}(hz:Fin z)(h0:val z=0)(hy:Fin y)(hn:val y≠0):Fin (Float64.div z y)∧val (Float64.div z y)=0:=by
 obtain⟨a,m,e,d1⟩:=hz
 obtain⟨b,k,f,d2⟩:=hy
 have hk:k≠0:=λq=>hn (by rw[val_eq d2,q,Nat.zero_mul,j8])
 have r:=div_right d1 d2 hk
 rw[h0]at r
 obtain⟨k1,k2⟩:=j5 (t0:=0) r (Int.natAbs_pos.mpr hn) (by rw[V_zero];simp) (by decide)
 exact⟨k1,by rw[k2,V_zero,j8]⟩
theorem BY{x y:UInt64}(hx:Fin x)(hy:Fin y)(h:val x=val y):(Float64.cmp x y==some Ordering.eq)=true:=by
 obtain⟨a,m,e,d1⟩:=hx
 obtain⟨b,k,f,d2⟩:=hy
 rw[cmp_right d1 d2,h]
 simp[compare,compareOfLessAndEq]
theorem Hf.BZ{x:UInt64}{h:Int}(q:Hf x h):Fin x:=q.fin
theorem vF{neg:Bool}{t:Nat}(h:t≤infMag)(hi:isInf (pack neg t)=false):Fin (pack neg t):=by
 have hi:t≠infMag:=λq=>by rw[(isInf_pack neg h).mpr q]at hi;cases hi
 obtain⟨m,e,d,_⟩:=decode_pack neg (Nat.lt_of_le_of_ne h hi)
 exact⟨_,_,_,d⟩
theorem EG{x i:UInt64}{n c f:Int}(hx:Fin x)(hi:Fin i)(h0:val i=0)(hn:n.natAbs<2^40)(hc:c.natAbs<2^40)(hf:f.natAbs<2^40)(Wu:f≠0)(two:UInt64)(h2:two=4611686018427387904):
  Fin (Float64.add (Float64.sub x (Float64.div i two)) (Float64.div (Float64.mul i (Float64.sub (quot n 2) (Float64.ofInt c))) (Float64.ofInt f)))∧val (Float64.add (Float64.sub x (Float64.div i two)) (Float64.div (Float64.mul i (Float64.sub (quot n 2) (Float64.ofInt c))) (Float64.ofInt f)))=val x:=by
 have Qy:Fin two∧val two≠0:=by
  subst h2
  have:(4611686018427387904:UInt64)=Float64.ofInt 2:=by kernel_rfl
  rw[this]
  have q:=Hf.ofInt 2 (by decide)
  exact⟨q.BZ,by rw[q.vl];have:=vB;decide⟩
 obtain⟨a1,a2⟩:=F3 hi h0 Qy.1 Qy.2
 obtain⟨b1,b2⟩:=Qw hx a1 a2
 have hh:Hf (Float64.sub (quot n 2) (Float64.ofInt c)) (n-2*c):=(Hf.quot n (Nat.lt_trans hn (by decide))).sub (Hf.ofInt c (Nat.lt_trans hc (by decide))) (CU hn hc)
 obtain⟨c1,c2⟩:=Qx hi h0 hh.BZ
 have Yi:=Hf.ofInt f (Nat.lt_trans hf (by decide))
 obtain⟨d1,d2⟩:=F3 c1 c2 Yi.BZ (by rw[Yi.vl];exact Int.mul_ne_zero (Int.mul_ne_zero (by decide) Wu) (by decide))
 obtain⟨e1,e2⟩:=F2 b1 d1 d2
 exact⟨e1,e2.trans b2⟩
end Mine.Internal
end
section
open PySem PySem.Flt PySem.Float64 PyProof.Rows
set_option exponentiation.threshold 4000
namespace Mine.Internal.dU
noncomputable def F4:D:= .tup [.str (Str.ofString "past"),.str (Str.ofString "")]
noncomputable def bM(d:D):D:= .tup [.str (Str.ofString "told"),d]
noncomputable def gu(T:Int):D:=if 2^1025≤hp T.natAbs*2^hs T.natAbs then F4 else bM (.cx (quot T 2))
theorem rf{b:Nat}(h:b≤4194304):bA .Pow (.int 2) (.int (b:Int))=some (.int (((2^b:Nat):Int))):=by
 show(if 0≤(b:Int)∧(Builtin.Int.intBits 2:Int)*(b:Int)≤2^27 then some (D.int (2^(b:Int).toNat))else none)=_
 have e:(Builtin.Int.intBits 2:Int)=2:=by decide
 rw[e,if_pos ⟨Int.natCast_nonneg _,Int.le_trans (Int.mul_le_mul_of_nonneg_left (Int.ofNat_le.mpr h) (by decide)) (by decide)⟩,Int.toNat_natCast,Int.natCast_pow];rfl
theorem tO(n:Nat):Builtin.Int.intBits (n:Int)=if n=0 then 0 else n.log2+1:=by
 unfold Builtin.Int.intBits
 by_cases h:n=0
 ·subst h;rfl
 ·rw[if_neg h,if_neg (by simpa using h),Int.natAbs_natCast]
theorem B0{n:Nat}(h:n≤2^53):dc (n:Int)=true:=by
 unfold dc
 rw[tO]
 apply Nat.ble_eq_true_of_le
 by_cases h0:n=0
 ·rw[if_pos h0];decide
 ·rw[if_neg h0]
  have:n.log2<54:=(Nat.log2_lt h0).mpr (Nat.lt_of_le_of_lt h (by decide))
  exact Nat.le_trans this (by decide)
theorem Qz{a:Nat}{b:Int}(h:a≤2^53):bA .Mult (.int (a:Int)) (.int b)=some (.int ((a:Int)*b)):=jY (by rw[B0 h];rfl)
theorem EH(a k:Nat):(if(a:Int)-(k:Int)>0 then(a:Int)-(k:Int)else 0)=((a-k:Nat):Int):=by
 split
 ·exact(Int.ofNat_sub (Int.ofNat_le.mp (Int.le_of_lt (Int.lt_of_sub_pos ‹_›)))).symm
 ·rw[Nat.sub_eq_zero_of_le (Int.ofNat_le.mp (Int.le_of_sub_nonpos (Int.not_lt.mp ‹_›)))];rfl
theorem Wv(n:Nat):(if(Builtin.Int.intBits (n:Int):Int)-53>0 then(Builtin.Int.intBits (n:Int):Int)-53 else 0)=(hs n:Int):=by
 rw[tO]
 unfold hs
 by_cases h:n=0
 ·subst h;rfl
 ·rw[if_neg h]
  exact EH (n.log2+1) 53
theorem yV{a b:Nat}(h:a≤b):a.log2≤b.log2:=by
 by_cases h0:a=0
 ·subst h0;exact Nat.zero_le _
 ·exact(Nat.le_log2 (Nat.ne_of_gt (Nat.lt_of_lt_of_le (Nat.pos_of_ne_zero h0) h))).mpr (Nat.le_trans (Nat.log2_self_le h0) h)
theorem EI(b:Nat):b/30≤(b+1-53)/30+2:=by
 rw[←Nat.add_mul_div_left _ 2 (by decide)]
 exact Nat.div_le_div_right (Nat.le_trans (Nat.le_of_succ_le_succ (Nat.le_add_of_sub_le (Nat.le_refl (b+1-53)))) (Nat.add_le_add_left (by decide:52≤30*2) _))
theorem IA(n:Nat):Builtin.divisionGoesByPylong (n:Int) ((2^hs n:Nat):Int)=false:=by
 unfold Builtin.divisionGoesByPylong
 have fB:((2^hs n:Nat):Int)≠0:=Int.ne_of_gt (Int.natCast_pos.mpr (Nat.two_pow_pos _))
 have h2:(((2^hs n:Nat):Int)==0)=false:=by simpa using fB
 simp only[h2,Int.natAbs_natCast,Nat.log2_two_pow,Bool.false_eq_true,if_false,Bool.and_eq_false_iff,decide_eq_false_iff_not]
 right
 by_cases h:n=0
 ·subst h
  simp
 ·have h3:((n:Int)==0)=false:=by simpa using h
  simp only[h3,Bool.false_eq_true,if_false]
  exact Nat.not_lt.mpr (Nat.le_trans (Nat.succ_le_succ (EI _)) (Nat.add_le_add_left (by decide:3≤151) _))
theorem Yj{a b d:Nat}(hb:b<2):a+b>d↔a>d∨a=d∧b=1:=by
 rcases Nat.lt_or_eq_of_le (Nat.le_of_lt_succ hb)with h|h
 ·rw[Nat.lt_one_iff.mp h]
  exact⟨.inl,λq=>q.elim id λq=>absurd q.2 (by decide)⟩
 ·subst h
  exact⟨λq=>(Nat.lt_or_eq_of_le (Nat.le_of_lt_succ q)).imp id λe=>⟨e.symm,rfl⟩,λq=>Nat.lt_succ_of_le (q.elim Nat.le_of_lt λq=>Nat.le_of_eq q.1.symm)⟩
theorem EJ(n d:Nat):(if 2*(n%d)+n/d%2>d then n/d+1 else n/d)=halfEven n d:=by
 unfold halfEven
 dsimp only
 by_cases h:2*(n%d)+n/d%2>d
 ·rw[if_pos h,if_pos]
  simp only[Bool.or_eq_true,Bool.and_eq_true,decide_eq_true_eq,beq_iff_eq]
  exact(Yj (Nat.mod_lt _ (by decide))).mp h
 ·rw[if_neg h,if_neg]
  simp only[Bool.or_eq_true,Bool.and_eq_true,decide_eq_true_eq,beq_iff_eq]
  exact λq=>h ((Yj (Nat.mod_lt _ (by decide))).mpr q)
theorem QA(n:Nat):hp n≤2^53:=by
 by_cases h:n.log2<52
 ·rw[(iz h).2.2]
  by_cases h0:n=0
  ·subst h0;decide
  ·exact Nat.le_of_lt (Nat.lt_of_lt_of_le ((Nat.log2_lt h0).mp h) (by decide))
 ·exact(iT (λe=>by subst e;exact h (by decide)) (Nat.le_of_not_lt h)).2
theorem QB{n s:Nat}(h:Builtin.divisionGoesByPylong (n:Int) ((2^s:Nat):Int)=false):iI .divmod [.int (n:Int),.int ((2^s:Nat):Int)]=some (.tup [.int ((n/2^s:Nat):Int),.int ((n%2^s:Nat):Int)]):=by
 show(if((2^s:Nat):Int)≠0∧Builtin.divisionGoesByPylong (n:Int) ((2^s:Nat):Int)=false then some (D.tup [.int ((n:Int).fdiv ((2^s:Nat):Int)),.int ((n:Int).fmod ((2^s:Nat):Int))])else none)=_
 have hp:0<2^s:=Nat.two_pow_pos s
 generalize 2^s=d at *
 rw[if_pos ⟨Int.ne_of_gt (Int.natCast_pos.mpr hp),h⟩,Int.fdiv_eq_ediv_of_nonneg _ (Int.natCast_nonneg _),Int.fmod_eq_emod_of_nonneg _ (Int.natCast_nonneg _),Int.natCast_ediv,Int.natCast_emod]
theorem EK{Φ:Nat→List D→Option D}(T:Int)(hT:T.natAbs.log2≤2097152):eF Φ m1 [0] [.int T]=some (gu T):=by
 unfold m1
 refine pZ (σ:=upd (λ_=>none) 0 (.int T)) rfl ?_
 unfold gu
 have hq:=EE T
 have ho:=rb T
 have hr:rt T=((hp T.natAbs*2^hs T.natAbs:Nat):Int)*if T<0 then -1 else 1:=rfl
 have hle:=QA T.natAbs
 have R9:(if 2*(T.natAbs%2^hs T.natAbs)+T.natAbs/2^hs T.natAbs%2>2^hs T.natAbs then T.natAbs/2^hs T.natAbs+1 else T.natAbs/2^hs T.natAbs)=hp T.natAbs:=EJ T.natAbs (2^hs T.natAbs)
 have hdm:=QB (IA T.natAbs)
 have hmx:=Wv T.natAbs
 have Rn:hs T.natAbs≤2097152:=Nat.le_trans (Nat.le_trans (Nat.sub_le_sub_left (by decide:1≤53) _) (Nat.le_of_eq (Nat.add_sub_cancel ..))) hT
 have QC:iI .abs [.int T]=some (.int (T.natAbs:Int)):=rfl
 generalize hp T.natAbs=p at *
 generalize hs T.natAbs=s at *
 generalize T.natAbs=n at *
 have Ww:=rf (b:=s) (Nat.le_trans Rn (by decide))
 have Wx:bA .Pow (.int 2) (.int 1025)=some (.int ((2^1025:Nat):Int)):=rf (b:=1025) (by decide)
 generalize (2:Nat)^1025=B at *
 generalize n/2^s=q at *
 generalize n%2^s=r at *
 generalize 2^s=d at *
 have Wy:iI .max [.int 0,.int ((Builtin.Int.intBits (n:Int):Int)-53)]=some (.int (s:Int)):=congrArg (λi=>some (D.int i)) hmx
 refine cu (vv rfl (aQ (bt (bt (aj rfl rfl) QC) rfl) rfl rfl) Wy) (Ir (vv (bt (aj (d:= .int T) rfl rfl) QC) (aQ rfl (aj rfl rfl) Ww) hdm) rfl ?_)
 have key: ∀σ:ah,σ 0=some (.int T)→σ 1=some (.int (s:Int))→σ 2=some (.int (p:Int))→run Φ (.seq (.ite (.cmp .GtE (.bin .Mult (.var 2) (.bin .Pow (.aL (.int 2)) (.var 1))) (.bin .Pow (.aL (.int 2)) (.aL (.int 1025)))) (.seq (.ret (.tup (.cons (.aL (.str (Str.ofString "past"))) (.cons (.aL (.str (Str.ofString ""))) .nil))))
  .skip) .skip)
  (.seq (.ret (.tup (.cons (.aL (.str (Str.ofString "told"))) (.cons (.bin .Div (.bin .Mult (.bin .Mult (.var 2) (.bin .Pow (.aL (.int 2)) (.var 1))) (.oC (.cmp .Lt (.var 0) (.aL (.int 0))) (.neg (.aL (.int 1))) (.aL (.int 1)))) (.aL (.int 2))) .nil))))
  .skip)) σ=some (.rt (if B≤p*d then F4 else bM (.cx (quot T 2)))):=λσ g0 g1 g2=>by
  have hm:bA .Mult (.int (p:Int)) (.int (d:Int))=some (.int (((p*d:Nat):Int))):=by rw[Qz hle,Int.natCast_mul]
  have e1:(ar Φ (.bin .Mult (.var 2) (.bin .Pow (.aL (.int 2)) (.var 1)))).v σ=some (.int ((p*d:Nat):Int)):=aQ (aj g2 rfl) (aQ rfl (aj g1 rfl) Ww) hm
  have et:(ar Φ (.cmp .GtE (.bin .Mult (.var 2) (.bin .Pow (.aL (.int 2)) (.var 1))) (.bin .Pow (.aL (.int 2)) (.aL (.int 1025))))).t σ=some (decide (B≤p*d)):=
   bz e1 (aQ rfl rfl Wx) (congrArg some (decide_eq_decide.mpr Int.ofNat_le))
  by_cases hB:B≤p*d
  ·rw[decide_eq_true hB]at et
   rw[if_pos hB]
   exact fR et (dJ (dO rfl rfl))
  ·rw[decide_eq_false hB]at et
   rw[if_neg hB]
   have Vr: ¬Float64.isInf (quot T 2)=true:=λh=>hB (ho.mp h)
   have e2:(ar Φ (.oC (.cmp .Lt (.var 0) (.aL (.int 0))) (.neg (.aL (.int 1))) (.aL (.int 1)))).v σ=some (.int (if T<0 then -1 else 1)):=by
    by_cases hT:T<0
    ·rw[if_pos hT];exact kY (bz (aj g0 rfl) rfl (congrArg some (decide_eq_true hT))) (It rfl)
    ·rw[if_neg hT];exact jA (bz (aj g0 rfl) rfl (congrArg some (decide_eq_false hT))) rfl
   have e3:bA .Mult (.int ((p*d:Nat):Int)) (.int (if T<0 then -1 else 1))=some (.int (rt T)):=by
    rw[hr]
    exact jY (by
     have:dc (if T<0 then -1 else 1)=true:=by split <;> decide
     rw[this,Bool.or_true])
   have e4:bA .Div (.int (rt T)) (.int 2)=some (.cx (quot T 2)):=by
    show(if(2:Int)=0 then none else if Float64.isInf (quot (rt T) 2)=true then none else some (D.cx (quot (rt T) 2)))=_
    rw[hq,if_neg (by decide),if_neg Vr]
   exact j3 et (dJ (dO rfl (aQ (aQ e1 e2 e3) rfl e4)))
 have Fc: ∀σ:ah,σ 1=some (.int (s:Int))→σ 2=some (.int (q:Int))→σ 3=some (.int (r:Int))→(ar Φ (.cmp .Gt (.bin .Add (.bin .Mult (.aL (.int 2)) (.var 3)) (.bin .Mod (.var 2) (.aL (.int 2)))) (.bin .Pow (.aL (.int 2)) (.var 1)))).t σ=some (decide (2*r+q%2>d)):=λσ g1 g2 g3=>by
  have e1:bA .Mult (.int 2) (.int (r:Int))=some (.int (2*(r:Int))):=jY (by rw[show dc 2=true by decide];rfl)
  refine bz (aQ (aQ rfl (aj g3 rfl) e1) (aQ (aj g2 rfl) rfl (qX _ _ (by decide))) rfl) (aQ rfl (aj g1 rfl) Ww) (congrArg some (decide_eq_decide.mpr ?_))
  rw[Int.fmod_eq_emod_of_nonneg _ (by decide)]
  rw[gt_iff_lt,gt_iff_lt,←Int.ofNat_lt,Int.natCast_add,Int.natCast_mul,Int.natCast_emod];exact Iff.rfl
 have ht:=Fc (upd (upd (upd (upd (λ_=>none) 0 (.int T)) 1 (.int (s:Int))) 2 (.int (q:Int))) 3 (.int (r:Int))) rfl rfl rfl
 by_cases h:2*r+q%2>d
 ·rw[if_pos h]at R9
  rw[decide_eq_true h]at ht
  refine w5 ht (Iq (p:=(q:Int)) (q:=1) (d:= .int (p:Int)) rfl rfl ?_ rfl) (key _ rfl rfl rfl)
  rw[←R9];rfl
 ·rw[if_neg h]at R9
  rw[decide_eq_false h]at ht
  subst R9
  exact j3 ht (key _ rfl rfl rfl)
end Mine.Internal.dU
end
section
open PySem PySem.Flt PySem.Float64 PyProof.Rows
set_option Elab.async false
namespace Mine.Internal
noncomputable def dg(d:Nat):List Nat:=if d<10 then [48+d]else if d<100 then [48+d/10,48+d%10]else [48+d/100,48+d/10%10,48+d%10]
noncomputable def iX(l:List Nat):Str:=⟨l.toArray⟩
noncomputable def ckT(d:Nat):Bool:=(Nat.toDigits 10 d).map Char.toNat==dg d
noncomputable def ck0(d:Nat):Bool:=parse? ((63::dg d).map Char.ofNat)==none
noncomputable def ck1(d:Nat):Bool:=parse? ((dg d).map Char.ofNat)==some (quot (d:Int) 1)
noncomputable def ck2(d:Nat):Bool:=parse? ((dg d++ [46,53]).map Char.ofNat)==some (Float64.add (Float64.ofInt (d:Int)) 4602678819172646912)
noncomputable def ckU(d:Nat):Bool:=Txt.slice (iX (dg d++ [46,53])) none (some (-2))==iX (dg d)
noncomputable def cJ(d:Nat):Bool:=ckT d&&(ck0 d&&(ck1 d&&(ck2 d&&ckU d)))
structure Ck(d:Nat):Prop where
 t:(Nat.toDigits 10 d).map Char.toNat=dg d
 a:parse? ((63::dg d).map Char.ofNat)=none
 b:parse? ((dg d).map Char.ofNat)=some (quot (d:Int) 1)
 c:parse? ((dg d++ [46,53]).map Char.ofNat)=some (Float64.add (Float64.ofInt (d:Int)) 4602678819172646912)
 u:Txt.slice (iX (dg d++ [46,53])) none (some (-2))=iX (dg d)
theorem QD{d:Nat}(h:cJ d=true):Ck d:=by
 unfold cJ at h
 simp only[Bool.and_eq_true]at h
 obtain⟨h1,h2,h3,h4,h5⟩:=h
 exact⟨eq_of_beq h1,eq_of_beq h2,eq_of_beq h3,eq_of_beq h4,eq_of_beq h5⟩
theorem c0:(List.range' 0 50).all cJ=true:=by decide+kernel
theorem c1:(List.range' 50 50).all cJ=true:=by decide+kernel
theorem c2:(List.range' 100 50).all cJ=true:=by decide+kernel
theorem c3:(List.range' 150 50).all cJ=true:=by decide+kernel
theorem c4:(List.range' 200 50).all cJ=true:=by decide+kernel
theorem c5:(List.range' 250 50).all cJ=true:=by decide+kernel
theorem c6:(List.range' 300 50).all cJ=true:=by decide+kernel
theorem c7:(List.range' 350 50).all cJ=true:=by decide+kernel
theorem c8:(List.range' 400 50).all cJ=true:=by decide+kernel
theorem c9:(List.range' 450 50).all cJ=true:=by decide+kernel
theorem c10:(List.range' 500 50).all cJ=true:=by decide+kernel
theorem c11:(List.range' 550 50).all cJ=true:=by decide+kernel
theorem c12:(List.range' 600 50).all cJ=true:=by decide+kernel
theorem c13:(List.range' 650 50).all cJ=true:=by decide+kernel
theorem c14:(List.range' 700 50).all cJ=true:=by decide+kernel
theorem c15:(List.range' 750 50).all cJ=true:=by decide+kernel
theorem c16:(List.range' 800 50).all cJ=true:=by decide+kernel
theorem c17:(List.range' 850 50).all cJ=true:=by decide+kernel
theorem c18:(List.range' 900 50).all cJ=true:=by decide+kernel
theorem c19:(List.range' 950 50).all cJ=true:=by decide+kernel
theorem B1: ∀q:Nat,q<20→(List.range' (50*q) 50).all cJ=true
 |0,_=>c0
 |1,_=>c1
 |2,_=>c2
 |3,_=>c3
 |4,_=>c4
 |5,_=>c5
 |6,_=>c6
 |7,_=>c7
 |8,_=>c8
 |9,_=>c9
 |10,_=>c10
 |11,_=>c11
 |12,_=>c12
 |13,_=>c13
 |14,_=>c14
 |15,_=>c15
 |16,_=>c16
 |17,_=>c17
 |18,_=>c18
 |19,_=>c19
 |n+20,h=>absurd h (Nat.not_lt.mpr (Nat.le_add_left 20 n))
theorem F5{d:Nat}(h:d<1000):Ck d:=QD (List.all_eq_true.mp (B1 (d/50) (Nat.div_lt_of_lt_mul h)) d (by rw[List.mem_range'];exact⟨d%50,Nat.mod_lt _ (by decide),by rw[Nat.one_mul,Nat.div_add_mod]⟩))
end Mine.Internal
end
section
open PySem PySem.Flt PySem.Float64 PyProof.Rows PySem.StrLaws PySem.W.KIN
set_option Elab.async false
set_option exponentiation.threshold 4000
namespace Mine.Internal
noncomputable def oV(c:Nat):Str:=if c=0 then Str.ofString "?" else Str.ofString ""
noncomputable def qb(c:Nat):Str:=if c=2 then Str.ofString ".5" else Str.ofString ""
noncomputable def tx(c d:Nat):Str:=(oV c++Str.ofString (toString (d:Int)))++qb c
inductive B2(t:Str):Prop
 |bad (h1:inD (.str (Str.ofString "?")) (.str t)=some true) (h2:PySem.W.Num.parseText? t=none) (h3:(reprText t).length≤1000)
 |whole (d:Int) (f:UInt64) (h1:inD (.str (Str.ofString "?")) (.str t)=some false) (h2:inD (.str (Str.ofString ".")) (.str t)=some false) (h3:iI .int [.str t]=some (.int d)) (h4:iI .float [.str t]=some (.cx f)) (h5:bA .Div (.int d) (.int 1)=some (.cx f)) (h6:Fin f)
 |half (d:Int) (f:UInt64) (t':Str) (h1:inD (.str (Str.ofString "?")) (.str t)=some false) (h2:inD (.str (Str.ofString ".")) (.str t)=some true) (h3:fg (.str t) .none (.int (-2)) .none=some (.str t')) (h3:iI .int [.str t']=some (.int d)) (h4:iI .float [.str t]=some (.cx f)) (h5:bA .Add (.int d) (.cx 4602678819172646912)=some (.cx f)) (h6:Fin f)
theorem CQ{x:Nat}(h:x<10):48≤48+x∧48+x≤57:=⟨Nat.le_add_right _ _,Nat.add_le_add_left (Nat.le_of_lt_succ h) 48⟩
theorem IB(d c:Nat)(h:d<1000)(hc:c∈dg d):48≤c∧c≤57:=by
 have m: ∀x,x%10<10:=λx=>Nat.mod_lt x (by decide)
 unfold dg at hc
 split at hc
 ·rw[List.mem_singleton]at hc
  subst hc;exact CQ ‹_›
 ·split at hc
  ·rcases List.mem_cons.mp hc with rfl|hc
   ·exact CQ (Nat.div_lt_of_lt_mul ‹_›)
   ·rw[List.mem_singleton]at hc
    subst hc;exact CQ (m _)
  ·rcases List.mem_cons.mp hc with rfl|hc
   ·exact CQ (Nat.div_lt_of_lt_mul h)
   ·rcases List.mem_cons.mp hc with rfl|hc
    ·exact CQ (m _)
    ·rw[List.mem_singleton]at hc
     subst hc;exact CQ (m _)
theorem three{c:Nat}(h:c<3):c=0∨c=1∨c=2:=by
 rcases Nat.lt_or_eq_of_le (Nat.le_of_lt_succ h)with h|h
 ·rcases Nat.lt_or_eq_of_le (Nat.le_of_lt_succ h)with h|h
  ·exact .inl (Nat.lt_one_iff.mp h)
  ·exact .inr (.inl h)
 ·exact .inr (.inr h)
theorem vG(d:Nat):(dg d).length≤3:=by
 unfold dg
 split
 ·exact(by decide:1≤3)
 ·split
  ·exact(by decide:2≤3)
  ·exact(by decide:3≤3)
theorem B3(l m:List Nat):iX l++iX m=iX (l++m):=by
 show(⟨l.toArray++m.toArray⟩:Str)=⟨(l++m).toArray⟩
 rw[List.append_toArray]
theorem vH{d:Nat}(h:d<1000):Str.ofString (toString (d:Int))=iX (dg d):=by
 have e:=signs_num d
 rw[(F5 h).t]at e
 have:(Str.ofString (toString (d:Int))).cps=(dg d).toArray:=by rw[←e]
 show _=(⟨(dg d).toArray⟩:Str)
 rw[←this]
theorem F6{c d:Nat}(h:d<1000):tx c d=iX (((if c=0 then [63]else [])++dg d)++if c=2 then [46,53]else []):=by
 have e1:oV c=iX (if c=0 then [63]else []):=by unfold oV;split <;> rfl
 have e2:qb c=iX (if c=2 then [46,53]else []):=by unfold qb;split <;> rfl
 rw[tx,e1,e2,vH h,B3,B3]
theorem F7(c:Nat)(l:List Nat):inD (.str (iX [c])) (.str (iX l))=some (decide (c∈l)):=by
 have:=found_one (iX l) c
 exact congrArg some this
theorem tP{l:List Nat}(h: ∀c∈l,c<128):PySem.W.Num.parseText? (iX l)=parse? (l.map Char.ofNat):=by
 unfold PySem.W.Num.parseText?
 have:(iX l).cps.all (· < 128)=true:=by
  show l.toArray.all (· < 128)=true
  rw[List.all_toArray,List.all_eq_true]
  intro c hc
  exact decide_eq_true (h c hc)
 rw[if_pos this]
 show parse? (l.toArray.toList.map Char.ofNat)=_
 rfl
theorem xb{l:List Nat}(h: ∀c∈l,c<128)(hl:l.length≤50):(reprText (iX l)).length≤1000:=by
 have:=reprText_len (iX l) λc hc=>Nat.lt_of_lt_of_le (h c hc) (by decide)
 have e:(iX l).length=l.length:=by show l.toArray.size=_;simp
 rw[e]at this
 exact Nat.le_trans this (Nat.le_trans (Nat.add_le_add_right (Nat.mul_le_mul_left 10 hl) 2) (by decide))
theorem B4{d:Nat}(h:d<1000):Fin (quot (d:Int) 1)∧Float64.isInf (quot (d:Int) 1)=false:=by
 have e:quot (d:Int) 1=Float64.ofInt (d:Int):=by
  unfold quot
  rw[show decide ((1:Int)<0)=false from rfl,Bool.bne_false,ofInt];rfl
 have q:=Hf.ofInt (d:Int) (ej h (by decide))
 rw[e]
 exact⟨q.BZ,q.vC⟩
theorem nW{d:Nat}(h:d<1000): ¬Over (d:Int):=λq=>by
 have:=(Hf.ofInt (d:Int) (ej h (by decide))).vC
 have e:=inf_of_over q
 rw[this]at e;cases e
theorem EL{c d:Nat}(hc:c<3)(hd:d<1000):B2 (tx c d):=by
 have k:=F5 hd
 have CQ:=IB d
 have len:=vG d
 have Wz: ∀l:List Nat,inD (.str (Str.ofString "?")) (.str (iX l))=some (decide (63∈l)):=F7 63
 have Yk: ∀l:List Nat,inD (.str (Str.ofString ".")) (.str (iX l))=some (decide (46∈l)):=F7 46
 have Yl: ¬63∈dg d:=λh=>absurd (CQ 63 hd h).2 (by decide)
 have n46: ¬46∈dg d:=λh=>absurd (CQ 46 hd h).1 (by decide)
 have lt: ∀x∈dg d,x<128:=λx hx=>Nat.lt_of_le_of_lt (CQ x hd hx).2 (by decide)
 have rd:iI .int [.str (iX (dg d))]=some (.int (d:Int)):=by
  have e:=num_reads (n:=(d:Int)) (Int.natCast_nonneg d) (Int.ofNat_lt.mpr (Nat.lt_trans hd (by decide)))
  rw[vH hd]at e
  show(if(iX (dg d)).length≤640 then(PySem.intText? (iX (dg d))).map D.int else none)=_
  have:(iX (dg d)).length=(dg d).length:=by show(dg d).toArray.size=_;simp
  rw[if_pos (by rw[this];exact Nat.le_trans len (by decide)),e];rfl
 have fl: ∀(l:List Nat) (f:UInt64),(∀x∈l,x<128)→l.length≤50→parse? (l.map Char.ofNat)=some f→iI .float [.str (iX l)]=some (.cx f):=λl f h1 h2 h3=>by
  show(if(reprText (iX l)).length≤10000 then(PySem.W.Num.parseText? (iX l)).map D.cx else none)=_
  rw[if_pos (Nat.le_trans (xb h1 h2) (by decide)),tP h1,h3];rfl
 rw[F6 hd]
 rcases three hc with rfl|rfl|rfl
 ·rw[if_pos rfl,if_neg (by decide),List.append_nil,List.singleton_append]
  have l1: ∀x∈63::dg d,x<128:=λx hx=>by
   rcases List.mem_cons.mp hx with rfl|hx
   ·decide
   ·exact lt x hx
  exact .bad (by rw[Wz,decide_eq_true (List.mem_cons_self ..)]) ((tP l1).trans k.a) (xb l1 (by rw[List.length_cons];exact Nat.le_trans (Nat.succ_le_succ len) (by decide)))
 ·rw[if_neg (by decide),if_neg (by decide),List.append_nil,List.nil_append]
  refine .whole (d:Int) (quot (d:Int) 1) (by rw[Wz,decide_eq_false Yl]) (by rw[Yk,decide_eq_false n46]) rd (fl _ _ lt (Nat.le_trans len (by decide)) k.b) ?_ (B4 hd).1
  show(if(1:Int)=0 then none else if Float64.isInf (quot (d:Int) 1)=true then none else some (D.cx (quot (d:Int) 1)))=_
  rw[(B4 hd).2];rfl
 ·rw[if_neg (by decide),if_pos rfl,List.nil_append]
  have l2: ∀x∈dg d++ [46,53],x<128:=λx hx=>by
   rcases List.mem_append.mp hx with hx|hx
   ·exact lt x hx
   ·exact List.all_eq_true.mp (by decide: [46,53].all (λx=>decide (x<128))=true) x hx |> of_decide_eq_true
  have ll:(dg d++ [46,53]).length≤50:=by rw[List.length_append];exact Nat.le_trans (Nat.add_le_add_right len 2) (by decide)
  have nq: ¬63∈dg d++ [46,53]:=λh=>by
   rcases List.mem_append.mp h with h|h
   ·exact Yl h
   ·simp at h
  refine .half (d:Int) (Float64.add (Float64.ofInt (d:Int)) 4602678819172646912) (iX (dg d)) (by rw[Wz,decide_eq_false nq]) (by rw[Yk,decide_eq_true (List.mem_append_right _ (List.mem_cons_self ..))]) ?_ rd (fl _ _ l2 ll k.c) ?_ ?_
  ·show(if(iX (dg d++ [46,53])).length≤bW then some (D.str (Txt.slice (iX (dg d++ [46,53])) none (some (-2))))else none)=_
   have:(iX (dg d++ [46,53])).length=(dg d++ [46,53]).length:=by show(dg d++ [46,53]).toArray.size=_;simp
   have h50:50≤bW:=by decide
   rw[if_pos (by exact Nat.le_trans ‹_› ‹_›),k.u]
  ·show(if Over (d:Int)then none else some (D.cx (Float64.add (Float64.ofInt (d:Int)) 4602678819172646912)))=_
   rw[if_neg (nW hd)]
  ·have e:(4602678819172646912:UInt64)=Float64.half:=by kernel_rfl
   rw[e]
   exact((Hf.ofInt (d:Int) (ej hd (by decide))).add BM (Nat.lt_trans (zg (P:=2000) (Nat.lt_of_le_of_lt (Nat.le_of_eq (lX _)) (Nat.mul_lt_mul_of_pos_left (show((d:Nat):Int).natAbs<1000 from hd) (by decide:0<2))) (by decide)) (by decide))).BZ
end Mine.Internal
end
section
open PySem PySem.Flt PySem.Float64 PyProof.Rows
set_option exponentiation.threshold 4000
namespace Mine.Internal.dU
section
variable{Φ:Nat→List D→Option D}{σ:ah}
theorem nX{b m m':MS}{e:ME}{d:D}(h:(ar Φ e).t σ=some false)(h':run Φ m' σ=some (.rt d)):run Φ (.seq (.ite e m m') b) σ=some (.rt d):=by
 rw[run_seq,f7,h,Option.bind_some,if_neg (by decide),h'];rfl
theorem xc{s:List D}(h:σ 0=some (.list s)):(ar Φ (.bi .len (.cons (.var 0) .nil))).v σ=some (.int (s.length:Int)):=bt (aj h rfl) rfl
theorem nY{s:List D}(h:σ 0=some (.list s))(x:Nat):run Φ (sN x) σ=some (.nx (upd σ x (.int (s.length:Int)))):=by
 unfold sN
 rw[iS,xc h];rfl
theorem WA{n k:Nat}:((n:Int)==(k:Int))=decide (n=k):=by
 rw[Bool.eq_iff_iff,beq_iff_eq,decide_eq_true_iff];exact Int.ofNat_inj
theorem QE{n:Nat}(h:σ 1=some (.int (n:Int))):(ar Φ (.cmp .Eq (.var 1) (.aL (.int 0)))).t σ=some (decide (n=0)):=
 bz (aj h rfl) rfl (congrArg some (WA (k:=0)))
theorem B5{n:Nat}(h:σ 1=some (.int (n:Int)))(hn:n≠0):run Φ sI σ=some (.nx σ):=by
 unfold sI
 rw[f7,QE h,decide_eq_false hn];rfl
theorem mod2{n:Nat}:bA .Mod (.int (n:Int)) (.int 2)=some (.int ((n%2:Nat):Int)):=by
 rw[qX _ _ (by decide),Int.fmod_eq_emod_of_nonneg _ (by decide)];rfl
theorem tQ{n:Nat}(h:σ 1=some (.int (n:Int))):(ar Φ odd).t σ=some (decide (n%2=1)):=
 bz (aQ (aj h rfl) rfl mod2) rfl (congrArg some (WA (k:=1)))
theorem nZ(n:Nat):bA .FloorDiv (.int (n:Int)) (.int 2)=some (.int ((n/2:Nat):Int)):=by
 rw[Em _ _ (by decide) (by decide),Int.fdiv_eq_ediv_of_nonneg _ (by decide)];rfl
theorem vI{n:Nat}{s:List D}{y:D}(h0:σ 0=some (.list s))(h:σ 1=some (.int (n:Int)))(hy:s[n/2]? =some y):(ar Φ (.item (.var 0) (.bin .FloorDiv (.var 1) (.aL (.int 2))))).v σ=some y:=
 bu (aj h0 rfl) (aQ (aj h rfl) rfl (nZ n)) (item_at hy)
theorem IC{n:Nat}(h:n≠0):bA .Sub (.int (n:Int)) (.int 1)=some (.int ((n-1:Nat):Int)):=congrArg (λi=>some (D.int i)) (Int.ofNat_sub (Nat.pos_of_ne_zero h)).symm
theorem tR{n:Nat}(h:2≤n):n/2≠0:=Nat.ne_of_gt (Nat.div_pos h (by decide))
theorem B6{n:Nat}{s:List D}{y:D}(h0:σ 0=some (.list s))(h:σ 1=some (.int (n:Int)))(hn:2≤n)(hy:s[n/2-1]? =some y):(ar Φ (.item (.var 0) (.bin .Sub (.bin .FloorDiv (.var 1) (.aL (.int 2))) (.aL (.int 1))))).v σ=some y:=
 bu (aj h0 rfl) (aQ (aQ (aj h rfl) rfl (nZ n)) rfl (IC (tR hn))) (item_at hy)
theorem rg{s:List D}{m:MS}{r:Option Out}(h:σ 0=some (.list s))(hn:s.length≠0)(k:run Φ m (upd σ 1 (.int (s.length:Int)))=r):run Φ (.seq (sN 1) (.seq sI m)) σ=r:=
 dK (nY h 1) (dK (B5 rfl hn) k)
theorem B7{s:List D}{y:D}(h:σ 0=some (.list s))(hn:s.length≠0)(hy:s[s.length/2]? =some y):run Φ pR σ=some (.rt y):=rg h hn (dJ (vI (s:=s) h rfl hy))
theorem EM{s:List D}{y:D}(h:σ 0=some (.list s))(hn:s.length≠0)(hy:s[(s.length-1)/2]? =some y):run Φ yq σ=some (.rt y):=by
 refine rg h hn ?_
 by_cases ho:s.length%2=1
 ·exact fR ((tQ rfl).trans (congrArg some (decide_eq_true ho))) (dJ (vI (s:=s) h rfl (by rw[rD ho];exact hy)))
 ·exact nX ((tQ rfl).trans (congrArg some (decide_eq_false ho))) (dJ (B6 (s:=s) h rfl (qg hn (vU ho)) (by rw[kg hn (vU ho)];exact hy)))
theorem B8{s:List D}{y:D}(h:σ 0=some (.list s))(ho:s.length%2=1)(hy:s[s.length/2]? =some y):run Φ vg σ=some (.rt y):=
 rg h (Gg ho) (fR ((tQ rfl).trans (congrArg some (decide_eq_true ho))) (dJ (vI (s:=s) h rfl hy)))
theorem F8{s:List D}{σ3:ah}{n:Nat}{x y d:D}(h0:σ3 0=some (.list s))(h2:σ3 2=some (.int ((n/2:Nat):Int)))(hn:2≤n)(hx:s[n/2-1]? =some x)(hy:s[n/2]? =some y)(hd:bA .Add x y=some d):(ar Φ two).v σ3=some d:=
 aQ (bu (aj h0 rfl) (aQ (aj h2 rfl) rfl (IC (tR hn))) (item_at hx)) (bu (aj h0 rfl) (aj h2 rfl) (item_at hy)) hd
theorem B9{n:Nat}(h:σ 1=some (.int (n:Int))):run Φ sH σ=some (.nx (upd σ 2 (.int ((n/2:Nat):Int)))):=by
 unfold sH
 rw[iS,aQ (aj h rfl) rfl (nZ n)];rfl
theorem Ca{s:List D}{x y d z:D}(h:σ 0=some (.list s))(hn:2≤s.length)(ho:s.length%2=0)(hx:s[s.length/2-1]? =some x)(hy:s[s.length/2]? =some y)(hd:bA .Add x y=some d)(hz:bA .Div d (.int 2)=some z):run Φ vg σ=some (.rt z):=
 rg h (zh hn) (nX ((tQ rfl).trans (congrArg some (decide_eq_false (vV ho)))) (dK (B9 rfl) (dJ (aQ (F8 (s:=s) (n:=s.length) h rfl hn hx hy hd) rfl hz))))
theorem EN{s:List D}{x y d:D}{k:XK}(h:σ 0=some (.list s))(hn:2≤s.length)(ho:s.length%2=0)(hx:s[s.length/2-1]? =some x)(hy:s[s.length/2]? =some y)(hd:bA .Add x y=some d)(hz:qG d 2 k):wJ Φ σ k:=
 ⟨_,nY h 1,_,B5 rfl (zh hn),.inr ⟨(tQ rfl).trans (congrArg some (decide_eq_false (vV ho))),_,B9 rfl,d,F8 (s:=s) (n:=s.length) h rfl hn hx hy hd,hz⟩⟩
theorem none_of{s:List D}(h:σ 0=some (.list s))(hn:s.length=0):ji Φ σ .dj∧qL Φ σ .dj:=by
 refine⟨⟨_,nY h 1,.inl ⟨(QE rfl).trans (congrArg some (decide_eq_true hn)),rfl⟩⟩,⟨_,nY h 2,.inl ⟨?_,rfl⟩⟩⟩
 rw[FQ,FU,aj (d:= .int (s.length:Int)) rfl rfl,hn];rfl
end
end Mine.Internal.dU
end
section
open PySem PySem.Flt PySem.Float64 PyProof.Rows
set_option exponentiation.threshold 4000
namespace Mine.Internal.dU
theorem vJ{dn:Nat→Bool}{p:Nat}(h: ∀i,p≤i→dn i=true): ∀(fuel lo hi:Nat),lo≤p→bX dn fuel lo hi≤p
 |0,lo,hi,hl=>hl
 |n+1,lo,hi,hl=>by
  unfold bX
  split
  ·cases q:dn ((lo+hi)/2)with
   |true=>rw[if_pos rfl];exact vJ h n _ _ hl
   |false=>
    rw[if_neg (by decide)]
    refine vJ h n _ _ ?_
    rcases Nat.lt_or_ge ((lo+hi)/2) p with w|w
    ·exact w
    ·rw[h _ w]at q;cases q
  ·exact hl
theorem vK{dn:Nat→Bool}{p:Nat}(h: ∀i,i≤p→dn i=false): ∀(fuel lo hi:Nat),hi-lo<fuel→p<hi→p<bX dn fuel lo hi
 |0,lo,hi,hf,_=>absurd hf (Nat.not_lt_zero _)
 |n+1,lo,hi,hf,hp=>by
  unfold bX
  split
  ·cases q:dn ((lo+hi)/2)with
   |true=>
    rw[if_pos rfl]
    refine vK h n _ _ (mr ‹_› hf).1 ?_
    rcases Nat.lt_or_ge p ((lo+hi)/2)with w|w
    ·exact w
    ·rw[h _ w]at q;cases q
   |false=>rw[if_neg (by decide)];exact vK h n _ _ (mr ‹_› hf).2 hp
  ·exact Nat.lt_of_lt_of_le hp (Nat.le_of_not_lt ‹_›)
theorem vL{dn:Nat→Bool}: ∀(fuel lo hi:Nat),lo≤hi→bX dn fuel lo hi≤hi
 |0,lo,hi,hl=>hl
 |n+1,lo,hi,hl=>by
  unfold bX
  split
  ·cases q:dn ((lo+hi)/2)with
   |true=>rw[if_pos rfl];exact Nat.le_trans (vL n _ _ (gP ‹_›).1) (Nat.le_of_lt (gP ‹_›).2)
   |false=>rw[if_neg (by decide)];exact vL n _ _ (gP ‹_›).2
  ·exact hl
structure Ordered(s:List D):Prop where
 kind: ∃k,k≠0∧ ∀d∈s,ca d=k
 up: ∀(i j:Nat) (x y:D),i≤j→s[i]? =some x→s[j]? =some y→gE y x=false
theorem vM{l:List D}(h:cY l):Ordered (bg l):=by
 obtain⟨O,κ,ks⟩:=(BJ h).keys
 have hp:=cI l
 have hs:=kN ks
 have Ym:eH O κ (bg l):=ks.perm hp
 refine⟨?_,λi j x y zl hx hy=>?_⟩
 ·cases h with
  |kI h=>exact⟨1,by decide,λd hd=>by obtain⟨i,rfl⟩:=h d (hp.mem_iff.mp hd);rfl⟩
  |kS h=>exact⟨2,by decide,λd hd=>by obtain⟨i,rfl⟩:=h d (hp.mem_iff.mp hd);rfl⟩
  |kO h=>exact⟨3,by decide,λd hd=>by obtain⟨a,i,rfl⟩:=h d (hp.mem_iff.mp hd);rfl⟩
 ·obtain⟨hi,rfl⟩:=List.getElem?_eq_some_iff.mp hx
  obtain⟨hj,rfl⟩:=List.getElem?_eq_some_iff.mp hy
  rcases Nat.lt_or_eq_of_le zl with w|w
  ·rw[Ym.lt _ (List.getElem_mem _) _ (List.getElem_mem _)]
   exact List.pairwise_iff_getElem.mp hs i j hi hj w
  ·subst w
   exact Ym.Yf (List.getElem_mem _)
section
variable{Φ:Nat→List D→Option D}{σ:ah}{s:List D}{x dw:D}
structure tS(Φ:Nat→List D→Option D)(σ:ah)(n i j:Nat)(x:D):Prop where
 lt:i<j
 le:j≤n
 rN:run Φ gN σ=some (.nx (upd σ 2 (.int (n:Int))))
 rI:run Φ gI (upd σ 2 (.int (n:Int)))=some (.nx (upd σ 2 (.int (n:Int))))
 rX:run Φ gX (upd σ 2 (.int (n:Int)))=some (.nx (upd (upd σ 2 (.int (n:Int))) 3 x))
 rB:run Φ gB (upd (upd σ 2 (.int (n:Int))) 3 x)=some (.nx (upd (upd (upd σ 2 (.int (n:Int))) 3 x) 4 (.int (i:Int))))
 rJ:run Φ gJ (upd (upd (upd σ 2 (.int (n:Int))) 3 x) 4 (.int (i:Int)))=some (.nx (upd (upd (upd (upd σ 2 (.int (n:Int))) 3 x) 4 (.int (i:Int))) 5 (.int (j:Int))))
theorem Cb(h:σ 0=some (.list s))(hn:s.length≠0)(o:Ordered s)(hx:s[s.length/2]? =some x)(d7:aV x=some x): ∃i j,tS Φ σ s.length i j x:=by
 refine ai o.kind λk hk CF=>?_
 have OT:ca x=k:=CF x (List.mem_of_getElem? hx)
 have fA:s.all (λd=>ca d==ca x)=true:=List.all_eq_true.mpr λd hd=>by rw[CF d hd,OT];exact beq_self_eq_true k
 have cy:s.length/2<s.length:=half_lt hn
 have bl:bX (fC false s x) (s.length+1) 0 s.length≤s.length/2:=vJ (λi hi=>by
  unfold fC
  cases q:s[i]? with
  |none=>rfl
  |some d=>
   show(!gE d x)=true
   rw[o.up _ _ x d hi hx q];rfl) _ _ _ (Nat.zero_le _)
 generalize hi:bX (fC false s x) (s.length+1) 0 s.length=i at bl
 have br:s.length/2<bX (fC true s x) (s.length+1) i s.length:=vK (λj hj=>by
  unfold fC
  obtain⟨d,q⟩: ∃d,s[j]? =some d:=⟨_,List.getElem?_eq_getElem (by exact Nat.lt_of_le_of_lt ‹_› ‹_›)⟩
  rw[q]
  exact o.up _ _ d x hj q hx) _ _ _ (Nat.lt_succ_of_le (Nat.sub_le _ _)) cy
 have bh:bX (fC true s x) (s.length+1) i s.length≤s.length:=vL _ _ _ (Nat.le_trans bl (Nat.le_of_lt cy))
 generalize hj:bX (fC true s x) (s.length+1) i s.length=j at br bh
 have b1:iI .um [.list s,x]=some (.int (i:Int)):=by
  show(if ca x≠0∧s.all (λd=>ca d==ca x)=true∧0≤s.length then some (D.int (bX (fC false s x) (s.length+1) 0 s.length))else none)=_
  rw[if_pos ⟨by rw[OT];exact hk,fA,Nat.zero_le _⟩,hi]
 have b2:iI .uo [.list s,x,.int (i:Int)]=some (.int (j:Int)):=by
  show(if 0≤(i:Int)then(if ca x≠0∧s.all (λd=>ca d==ca x)=true∧(i:Int).toNat≤s.length then some (D.int (bX (fC true s x) (s.length+1) (i:Int).toNat s.length))else none)else none)=_
  rw[if_pos (by exact Int.natCast_nonneg _),Int.toNat_natCast,if_pos ⟨by rw[OT];exact hk,fA,Nat.le_trans bl (Nat.le_of_lt cy)⟩,hj]
 have as: ∀{τ:ah} {e:ME} {d:D} (y:Nat),(ar Φ e).v τ=some d→run Φ (.asg y e) τ=some (.nx (upd τ y d)):=λ{τ e d} y h=>by rw[iS,h];rfl
 refine⟨i,j,by exact Nat.lt_of_le_of_lt ‹_› ‹_›,bh,nY h 2,?_,as 3 (bu (aj h rfl) (aQ (aj rfl rfl) rfl (nZ _)) (item_at hx)),as 4 (vv (aj h rfl) (aj rfl d7) b1),as 5 (Iu (aj h rfl) (aj rfl d7) (aj rfl rfl) b2)⟩
 unfold gI
 rw[f7,FQ,FU,aj (d:= .int (s.length:Int)) rfl rfl,Option.bind_some,yN]
 have:((s.length:Int) != 0)=true:=by simpa using hn
 rw[this];rfl
theorem xd{n i j:Nat}{k k':XK}(f:tS Φ σ n i j x)(hp:Hx Φ (upd (upd (upd (upd σ 2 (.int (n:Int))) 3 x) 4 (.int (i:Int))) 5 (.int (j:Int))) k')(e:k=dy k'):yt Φ σ k:=
 ⟨_,f.rN,_,f.rI,_,f.rX,_,f.rB,_,f.rJ,k',hp,e⟩
theorem EO{n i j:Nat}{k:XK}(f:tS Φ σ n i j x)(h1:σ 1=some dw)(d7:aV dw=some dw)(hb:ij dw k):yt Φ σ (dy k):=by
 exact xd f (.inl ⟨dw,aj h1 d7,hb⟩) rfl
theorem Cd{σ:ah}{w:UInt64}(h1:σ 1=some dw)(d7:aV dw=some dw)(hw:iI .float [dw]=some (.cx w)):run Φ gW σ=some (.nx (upd σ 1 (.cx w))):=by
 unfold gW
 rw[iS,bt (aj h1 d7) hw];rfl
theorem Ce{n i j:Nat}{k:XK}{w:UInt64}(f:tS Φ σ n i j x)(h1:σ 1=some dw)(d7:aV dw=some dw)(hw:iI .float [dw]=some (.cx w))(WB:aV x=some x)(hb:ij x k):yt Φ σ (dy k):=by
 exact xd f (.inr ⟨_,Cd h1 d7 hw,x,aj rfl WB,hb⟩) rfl
end
end Mine.Internal.dU
end
section
open PySem PySem.Flt PySem.Float64 PyProof.Rows
set_option exponentiation.threshold 4000
namespace Mine.Internal.dU
noncomputable def ID:UInt64:=4611686018427387904
noncomputable def IE(x i:UInt64)(n c f:Int):UInt64:=Float64.add (Float64.sub x (Float64.div i ID)) (Float64.div (Float64.mul i (Float64.sub (quot n 2) (Float64.ofInt c))) (Float64.ofInt f))
section
variable{Φ:Nat→List D→Option D}{σ:ah}{x dw:D}{b w:UInt64}
theorem QF(x y:UInt64):bA .Sub (.cx x) (.cx y)=some (.cx (Float64.sub x y)):=rfl
theorem QG(x y:UInt64):bA .Add (.cx x) (.cx y)=some (.cx (Float64.add x y)):=rfl
theorem IF(x:UInt64):bA .Div (.cx x) (.cx 4611686018427387904)=some (.cx (Float64.div x ID)):=by
 show(if Float64.isZero 4611686018427387904=true then none else some (D.cx (Float64.div x 4611686018427387904)))=_
 have:Float64.isZero 4611686018427387904=false:=by kernel_rfl
 rw[this];rfl
theorem IG{x:UInt64}{n:Nat}(h:n<1000):bA .Sub (.cx x) (.int (n:Int))=some (.cx (Float64.sub x (Float64.ofInt (n:Int)))):=by
 show(if Over (n:Int)then none else some (D.cx (Float64.sub x (Float64.ofInt (n:Int)))))=_
 rw[if_neg (nW h)]
theorem IH{x:UInt64}{n:Nat}(h:n<1000)(h0:n≠0):bA .Div (.cx x) (.int (n:Int))=some (.cx (Float64.div x (Float64.ofInt (n:Int)))):=by
 show(if(n:Int)=0 then none else if Over (n:Int)then none else some (D.cx (Float64.div x (Float64.ofInt (n:Int)))))=_
 rw[if_neg (show¬(n:Int)=0 from λe=>h0 (Int.ofNat.inj e)),if_neg (nW h)]
theorem QH(x y:UInt64):bA .Mult (.cx x) (.cx y)=some (.cx (Float64.mul x y)):=rfl
theorem II{n i j:Nat}(f:tS Φ σ n i j x)(hn:n<1000)(h1:σ 1=some dw)(d7:aV dw=some dw)(hw:iI .float [dw]=some (.cx w))(WB:aV x=some x)(hb:iI .float [x]=some (.cx b)):
  run Φ yr σ=some (.rt (.cx (IE b w (n:Int) (i:Int) ((j-i:Nat):Int)))):=by
 obtain⟨lt,le,r1,r2,r3,r4,r5⟩:=f
 have hj:(j:Int)-(i:Int)=((j-i:Nat):Int):=(Int.ofNat_sub (Nat.le_of_lt lt)).symm
 have q:(n:Int).natAbs<2^50:=ej hn (by decide)
 have hi:i<1000:=Nat.lt_trans lt (Nat.lt_of_le_of_lt le hn)
 have hf:j-i<1000:=Nat.lt_of_le_of_lt (Nat.sub_le _ _) (Nat.lt_of_le_of_lt le hn)
 have Wu:j-i≠0:=Nat.ne_of_gt (Nat.sub_pos_of_lt lt)
 refine dK r1 (dK r2 (dK r3 (dK r4 (dK r5 (dK (dK (Cd h1 d7 hw) (cu (bt (aj rfl WB) hb) rfl)) ?_)))))
 refine cu (aQ (aj rfl rfl) (aQ (aj rfl rfl) rfl (IF w)) (QF b _)) (cu (d:= .int (i:Int)) (aj rfl rfl) (cu (d:= .int ((j-i:Nat):Int)) (aQ (aj rfl rfl) (aj rfl rfl) (congrArg (λk=>some (D.int k)) hj)) (dJ ?_)))
 exact aQ (aj rfl rfl) (aQ (aQ (aj rfl rfl) (aQ (aQ (aj (d:= .int (n:Int)) rfl rfl) rfl (BN q)) (aj rfl rfl) (IG hi)) (QH w _)) (aj rfl rfl) (IH hf Wu)) (QG _ _)
theorem EP{b w:UInt64}{n i j:Nat}(hb:Fin b)(hw:Fin w)(h0:val w=0)(hn:n<1000)(cy:i<j)(hle:j≤n):Fin (IE b w (n:Int) (i:Int) ((j-i:Nat):Int))∧val (IE b w (n:Int) (i:Int) ((j-i:Nat):Int))=val b:=
 EG hb hw h0 (ej hn (by decide)) (ej (Nat.lt_trans cy (Nat.lt_of_le_of_lt hle hn)) (by decide)) (ej (Nat.lt_of_le_of_lt (Nat.sub_le _ _) (Nat.lt_of_le_of_lt hle hn)) (by decide)) (λe=>Nat.ne_of_gt (Nat.sub_pos_of_lt cy) (Int.ofNat.inj e)) ID rfl
end
end Mine.Internal.dU
end
section
open PySem PySem.Flt PySem.Float64 PyProof.Rows
namespace Mine.Internal.dU
noncomputable def n0:D→String
 | .int _=> "int"
 | .str _=> "str"
 | .obj _ _=> "list"
 |_=> ""
structure Plain(d:D):Prop where
 it:aV d=some d
 ty:iI .type [d]=some (.ty (n0 d))
noncomputable def jk(b:Bool):D:= .tup [.str (Str.ofString "kind"),.bool b]
noncomputable def QI:D:= .tup [.str (Str.ofString "none"),.str (Str.ofString "no median for empty data")]
section
variable{Φ:Nat→List D→Option D}{σ:ah}{l:List D}
theorem Cf(a b:String):dr .Is (.ty a) (.ty b)=some (a==b):=rfl
theorem j9{tag:Str}{a b:D}{ty:String}(ha:iI .type [a]=some (.ty ty))(hb:iI .type [b]=some (.ty ty))(h:(if ty= "list" then dr .Is a b else dr .Eq a b)=some true):
  eF Φ m3 [0,1] [.tup [.str tag,a],.tup [.str tag,b]]=some (.bool true):=by
 unfold m3
 refine pZ (σ:=upd (upd (λ_=>none) 0 (.tup [.str tag,a])) 1 (.tup [.str tag,b])) rfl ?_
 have e1:dr .NotEq (.str tag) (.str tag)=some false:=by
  show some (!(tag==tag))=some false
  rw[beq_self_eq_true];rfl
 have e2:dr .IsNot (.ty ty) (.ty ty)=some false:=by
  show some (ty != ty)=some false
  rw[bne_self_eq_false]
 refine j3 (P5 (bz (bu (aj rfl rfl) rfl rfl) (bu (aj rfl rfl) rfl rfl) e1) (bz (bt (bu (aj rfl rfl) rfl rfl) ha) (bt (bu (aj rfl rfl) rfl rfl) hb) e2)) (dJ ?_)
 by_cases q:ty= "list"
 ·rw[if_pos q]at h
  exact kY (bz (bt (bu (aj rfl rfl) rfl rfl) hb) rfl (congrArg some (beq_iff_eq.mpr q))) (vz (bu (aj rfl rfl) rfl rfl) (bu (aj rfl rfl) rfl rfl) h)
 ·rw[if_neg q]at h
  exact jA (bz (bt (bu (aj rfl rfl) rfl rfl) hb) rfl (congrArg some (beq_eq_false_iff_ne.mpr q))) (vz (bu (aj rfl rfl) rfl rfl) (bu (aj rfl rfl) rfl rfl) h)
theorem xf(l:List D):dr .Eq (.list l) (.list [])=some l.isEmpty∧dr .NotEq (.list l) (.list [])=some (!l.isEmpty):=by
 have:IZ (.list (l.map dq)) (.list [])=some l.isEmpty:=by
  rw[eq_nil];cases l <;> rfl
 exact⟨this,congrArg (Option.map (!·)) this⟩
theorem Cg:(ar Φ (.lst .nil)).v σ=some (.list []):=rfl
theorem rh(h0:σ 0=some (.list l)):(ar Φ (.cmp .Eq (.var 0) (.lst .nil))).t σ=some l.isEmpty:=bz (aj h0 rfl) Cg (xf l).1
noncomputable def ri:ME:= .comp (.var 6) (.one 6) (.var 0) (.cons (.cmp .IsNot (.bi .type (.cons (.var 6) .nil)) (.bi .type (.cons (.item (.var 0) (.aL (.int 0))) .nil))) .nil) .nil
theorem xg{x0:D}(h0:σ 0=some (.list l))(hx:l[0]? =some x0)(hl:l.length≤1000)(hp: ∀d∈l,Plain d):(ar Φ ri).v σ=some (.list (l.filter λd=>n0 d != n0 x0)):=by
 unfold ri
 have:=fb (Φ:=Φ) (σ:=σ) (elt:= .var 6) (src:= .var 0) (ifs:= .cons (.cmp .IsNot (.bi .type (.cons (.var 6) .nil)) (.bi .type (.cons (.item (.var 0) (.aL (.int 0))) .nil))) .nil) (x:=6) (l:=l) (e:=id) (g:=id) (p:=λd=>n0 d != n0 x0) (d:= .list l) (by simp[h0]) (by simp) (Nat.le_trans hl (by decide)) λa ha=>?_
 ·simpa using this
 ·have pa:=hp a ha
  have px:=hp x0 (List.mem_of_getElem? hx)
  have ei:o9 (.list l) (.int 0)=some x0:=item_at (k:=0) hx
  refine⟨(BG _).trans (bz (bt (aj (bS ..) pa.it) pa.ty) (bt (bu (aj (d:= .list l) h0 rfl) rfl ei) px.ty) (yP _ _)),λ_=>aj (bS ..) pa.it⟩
theorem xh{m:List D}(h:(ar Φ ri).v σ=some (.list m)):(ar Φ (.cmp .NotEq ri (.lst .nil))).t σ=some (!m.isEmpty):=bz h Cg (xf m).2
theorem v_all{fs:List D}{t:ME}{d:D}(h1:σ 1=some (.list fs))(hf:fs.length=7)(ht:(ar Φ t).v σ=some d):(ar Φ (.bin .Mult (.lst (.cons t .nil)) (.bin .Add (.aL (.int 3)) (.bi .len (.cons (.var 1) .nil))))).v σ=some (.list (List.replicate 10 d)):=by
 have e:bA .Mult (.list [d]) (.int (3+7))=some (.list (List.replicate 10 d)):=by
  rw[En (jZ (by decide) (by decide)),Ey]
  exact cq (by rw[List.length_replicate];decide)
 refine aQ (kX (fT ht qa) (show 1≤bW by decide)) (aQ rfl (bt (aj h1 rfl) (nR _)) rfl) ?_
 rw[hf];exact e
theorem vN{fs:List D}(hf:fs.length=7):eF Φ m2 [0,1] [.list [],.list fs]=some (.list (List.replicate 10 QI)):=by
 unfold m2
 refine pZ (σ:=upd (upd (λ_=>none) 0 (.list [])) 1 (.list fs)) rfl ?_
 exact fR (rh (l:= []) rfl) (dJ (v_all rfl hf rfl))
theorem n6{fs:List D}{x0 y:D}(hf:fs.length=7)(hx:l[0]? =some x0)(hl:l.length≤1000)(hp: ∀d∈l,Plain d)(hy:y∈l)(fB:n0 y≠n0 x0):eF Φ m2 [0,1] [.list l,.list fs]=some (.list (List.replicate 10 (jk false))):=by
 unfold m2
 refine pZ (σ:=upd (upd (λ_=>none) 0 (.list l)) 1 (.list fs)) rfl ?_
 have hle:l.isEmpty=false:=by
  cases l with
  |nil=>cases hy
  |cons _ _=>rfl
 refine j3 ((rh rfl).trans (congrArg some hle)) ?_
 have k:=xg (Φ:=Φ) (σ:=upd (upd (λ_=>none) 0 (.list l)) 1 (.list fs)) rfl hx hl hp
 refine fR ((xh k).trans ?_) (dJ (v_all rfl hf rfl))
 have:y∈l.filter λd=>n0 d != n0 x0:=List.mem_filter.mpr ⟨hy,by simpa using fB⟩
 revert this
 generalize l.filter (λd=>n0 d != n0 x0)=m
 intro this
 cases m with
 |nil=>cases this
 |cons _ _=>rfl
end
end Mine.Internal.dU
end
section
open PySem PySem.Flt PySem.Float64 PyProof.Rows
namespace Mine.Internal.dU
noncomputable def vO(last f:D):D:=match f with
 | .none=>last
 |f=>f
section
variable(Φ:Nat→List D→Option D)
noncomputable def iA(ev:Bool)(ty:String)(low high half:D):Prop:=
 if ev then(if ty= "int" then∃t,bA .Add low high=some t∧aV t=some t∧Φ 1 [t]=some half else half=jk false)else half=bM high
inductive f9:String→D→D→Prop
 |int {high last t:D} (h1:bA .Mult (.int 2) high=some t) (h2:aV t=some t) (h3:Φ 1 [t]=some last):f9 "int" high last
 |bad {high:D} (h1:inD (.str (Str.ofString "?")) high=some true):f9 "str" high (jk true)
 |half {high t' i f:D} (h1:inD (.str (Str.ofString "?")) high=some false) (h2:inD (.str (Str.ofString ".")) high=some true) (h3:fg high .none (.int (-2)) .none=some t') (h4:iI .int [t']=some i) (h5:bA .Add i (.cx 4602678819172646912)=some f):f9 "str" high (bM f)
 |whole {high i f:D} (h1:inD (.str (Str.ofString "?")) high=some false) (h2:inD (.str (Str.ofString ".")) high=some false) (h4:iI .int [high]=some i) (h5:bA .Div i (.int 1)=some f):f9 "str" high (bM f)
 |list {high:D}:f9 "list" high (jk false)
variable{Φ}
variable{σ:ah}{l:List D}
theorem QJ{x:Nat}{d:D}(h:σ x=some d)(p:Plain d)(n:String):(ar Φ (.cmp .Is (.bi .type (.cons (.var x) .nil)) (.tW n))).t σ=some (n0 d==n):=
 bz (bt (aj h p.it) p.ty) rfl (Cf _ _)
noncomputable def IJ:MS:= .seq (.ret (.bin .Add (.lst (.cons (.tup (.cons (.aL (.str (Str.ofString "told"))) (.cons (.var 2) .nil))) (.cons (.tup (.cons (.aL (.str (Str.ofString "told"))) (.cons (.var 3) .nil))) (.cons (.var 4) .nil)))) (.comp (.oC (.cmp .Is (.var 7) (.aL .none)) (.var 5) (.var 7)) (.one 7) (.var 1) .nil .nil))) .skip
theorem n8{fs:List D}{low high half last:D}(h1:σ 1=some (.list fs))(h2:σ 2=some low)(h3:σ 3=some high)(h4:σ 4=some half)(h5:σ 5=some last)(pl:aV low=some low)(ph:aV high=some high)(IK:aV half=some half)(IL:aV last=some last)(hf:fs.length=7)(zw: ∀f∈fs,f= .none∨ ∃m,f= .tup m):
  run Φ IJ σ=some (.rt (.list ([bM low,bM high,half]++fs.map (vO last)))):=by
 refine dJ (nS (kX (fT (dO rfl (aj h2 pl)) (fT (dO rfl (aj h3 ph)) (fT (aj h4 IK) qa))) (show 3≤bW by decide)) (comp_map (e:=id) (d:= .list fs) (aj h1 rfl) (by simp) (by rw[hf];decide) λf hm=>?_) (by rw[List.length_append,List.length_map,hf];exact(by decide:3+7≤bW)))
 rcases zw f hm with rfl|⟨m,rfl⟩
 ·exact kY (bz (x:= .none) (aj (bS ..) rfl) rfl rfl) (aj h5 IL)
 ·exact jA (bz (x:= .tup m) (aj (bS ..) rfl) rfl rfl) (aj (bS ..) rfl)
noncomputable def F9:MS:= .ite (.cmp .Eq (.bin .Mod (.bi .len (.cons (.var 0) .nil)) (.aL (.int 2))) (.aL (.int 0))) (.seq (.asg 4 (.oC (.cmp .Is (.bi .type (.cons (.var 2) .nil)) (.tW "int")) (.call 1 (.cons (.bin .Add (.var 2) (.var 3)) .nil)) (.tup (.cons (.aL (.str (Str.ofString "kind"))) (.cons (.aL (.bool false)) .nil))))) .skip) .skip
theorem yW{fs:List D}{low high half:D}{ty:String}(f0:σ 0=some (.list l))(f1:σ 1=some (.list fs))(f2:σ 2=some low)(f3:σ 3=some high)(f4:σ 4=some (bM high))(pl:Plain low)(ph:Plain high)(tl:n0 low=ty)(hh:iA Φ (decide (l.length%2=0)) ty low high half):
  ∃σ',run Φ F9 σ=some (.nx σ')∧σ' 1=some (.list fs)∧σ' 2=some low∧σ' 3=some high∧σ' 4=some half:=by
 have WC:(ar Φ (.cmp .Eq (.bin .Mod (.bi .len (.cons (.var 0) .nil)) (.aL (.int 2))) (.aL (.int 0)))).t σ=some (decide (l.length%2=0)):=bz (aQ (xc f0) rfl mod2) rfl (congrArg some (WA (k:=0)))
 have ht:=QJ (Φ:=Φ) f2 pl "int"
 replace ht:=tl▸ht
 unfold iA at hh
 unfold F9
 rw[f7,WC,Option.bind_some]
 cases q:decide (l.length%2=0)with
 |true=>
  rw[q,if_pos rfl]at hh
  refine⟨upd σ 4 half,?_,f1,f2,f3,rfl⟩
  rw[if_pos rfl]
  refine cu ?_ rfl
  by_cases qt:ty= "int"
  ·rw[if_pos qt]at hh
   refine bK hh λt a1 a2 a3=>?_
   exact kY (ht.trans (congrArg some (beq_iff_eq.mpr qt))) (tJ (FY (aQ (aj f2 pl.it) (aj f3 ph.it) a1) a2 rfl) a3)
  ·rw[if_neg qt]at hh
   rw[hh]
   exact jA (ht.trans (congrArg some (beq_eq_false_iff_ne.mpr qt))) (dO rfl rfl)
 |false=>
  rw[q,if_neg (by decide)]at hh
  exact⟨σ,rfl,f1,f2,f3,f4.trans (by rw[hh])⟩
noncomputable def Ga:MS:= .seq (.asg 5 (.tup (.cons (.aL (.str (Str.ofString "kind"))) (.cons (.cmp .Is (.bi .type (.cons (.var 3) .nil)) (.tW "str")) .nil)))) (.seq (.ite (.cmp .Is (.bi .type (.cons (.var 3) .nil)) (.tW "int")) (.seq (.asg 5 (.call 1 (.cons (.bin .Mult (.aL (.int 2)) (.var 3)) .nil))) .skip) (.seq (.ite (.CI .And (.cons (.cmp .Is (.bi .type (.cons (.var 3) .nil)) (.tW "str")) (.cons (.cmp .NotIn (.aL (.str (Str.ofString "?"))) (.var 3)) .nil))) (.seq (.asg 5 (.tup (.cons (.aL (.str (Str.ofString "told"))) (.cons (.oC (.cmp .In (.aL (.str (Str.ofString "."))) (.var 3)) (.bin .Add (.bi .int (.cons (.rZ (.var 3) .nil (.neg (.aL (.int 2))) .nil) .nil)) (.aL (.cx 4602678819172646912))) (.bin .Div (.bi .int (.cons (.var 3) .nil)) (.aL (.int 1)))) .nil)))) .skip) .skip) .skip)) IJ)
theorem IM{x t':D}(h:σ 3=some x)(hi:aV x=some x)(h3:fg x .none (.int (-2)) .none=some t'):(ar Φ (.rZ (.var 3) .nil (.neg (.aL (.int 2))) .nil)).v σ=some t':=by
 rw[Bx,aj h hi,Option.bind_some,kW,Option.bind_some,yK,FP];exact h3
theorem last_step{fs:List D}{low high half last:D}{ty:String}(p1:σ 1=some (.list fs))(p2:σ 2=some low)(p3:σ 3=some high)(p4:σ 4=some half)(pl:Plain low)(ph:Plain high)(th:n0 high=ty)(my:f9 Φ ty high last)(IK:aV half=some half)(IL:aV last=some last)(hf:fs.length=7)(zw: ∀f∈fs,f= .none∨ ∃m,f= .tup m):
  run Φ Ga σ=some (.rt (.list ([bM low,bM high,half]++fs.map (vO last)))):=by
 unfold Ga
 have WD:=ph.ty
 replace WD:=th▸WD
 have ER: ∀(d:D) (n:String),(ar Φ (.cmp .Is (.bi .type (.cons (.var 3) .nil)) (.tW n))).t (upd σ 5 d)=some (ty==n):=λd n=>(QJ (Φ:=Φ) (σ:=upd σ 5 d) (x:=3) p3 ph n).trans (by rw[th])
 have fin: ∀d,d=last→run Φ IJ (upd (upd σ 5 (jk (ty== "str"))) 5 d)=some (.rt (.list ([bM low,bM high,half]++fs.map (vO last)))):=λd e=>by
  subst e
  exact n8 p1 p2 p3 p4 rfl pl.it ph.it IK IL hf zw
 have nq: ∀{b:Bool},inD (.str (Str.ofString "?")) high=some b→(ar Φ (.cmp .NotIn (.aL (.str (Str.ofString "?"))) (.var 3))).t (upd σ 5 (jk (ty== "str")))=some (!b):=λ{b} h=>bz rfl (aj p3 ph.it) (congrArg (Option.map (!·)) h)
 refine cu (d:=jk (ty== "str")) (dO rfl (vz (bt (aj p3 ph.it) WD) rfl (Cf _ _))) ?_
 cases my with
 |int h1 h2 h3=>exact w5 (ER _ "int") (cu (tJ (FY (aQ rfl (aj p3 ph.it) h1) h2 rfl) h3) rfl) (fin _ rfl)
 |bad h1=>exact j2 (ER _ "int") (j3 (vA (ER _ "str") (nq h1)) rfl) (n8 p1 p2 p3 p4 rfl pl.it ph.it IK IL hf zw)
 | @half _ t' i f h1 h2 h3 h4 h5=>
  exact j2 (ER _ "int") (w5 (vA (ER _ "str") (nq h1)) (cu (dO rfl (kY (bz rfl (aj p3 ph.it) h2) (aQ (bt (IM p3 ph.it h3) h4) rfl h5))) rfl) rfl) (fin _ rfl)
 | @whole _ i f h1 h2 h4 h5=>
  exact j2 (ER _ "int") (w5 (vA (ER _ "str") (nq h1)) (cu (dO rfl (jA (bz rfl (aj p3 ph.it) h2) (aQ (bt (aj p3 ph.it) h4) rfl h5))) rfl) rfl) (fin _ rfl)
 |list=>exact j2 (ER _ "int") (j3 (P0 (ER _ "str")) rfl) (n8 p1 p2 p3 p4 rfl pl.it ph.it IK IL hf zw)
theorem ES{fs:List D}{x0 low high half last:D}{ty:String}(hf:fs.length=7)(zw: ∀f∈fs,f= .none∨ ∃m,f= .tup m)(hx:l[0]? =some x0)(hl:l.length≤66)(hp: ∀d∈l,Plain d)(Ht: ∀d∈l,n0 d=ty)(WE:Φ 0 [.list l,.int (((l.length-1)/2:Nat):Int)]=some low)(QK:Φ 0 [.list l,.int ((l.length/2:Nat):Int)]=some high)
  (ml:low∈l) (mh:high∈l) (hh:iA Φ (decide (l.length%2=0)) ty low high half) (my:f9 Φ ty high last) (IK:aV half=some half) (IL:aV last=some last):eF Φ m2 [0,1] [.list l,.list fs]=some (.list ([bM low,bM high,half]++fs.map (vO last))):=by
 unfold m2
 refine pZ (σ:=upd (upd (λ_=>none) 0 (.list l)) 1 (.list fs)) rfl ?_
 have hle:l.isEmpty=false:=by
  cases l with
  |nil=>cases hx
  |cons _ _=>rfl
 have hlen:l.length≠0:=by
  cases l with
  |nil=>cases hx
  |cons _ _=>exact Nat.succ_ne_zero _
 refine j3 ((rh rfl).trans (congrArg some hle)) ?_
 have k:=xg (Φ:=Φ) (σ:=upd (upd (λ_=>none) 0 (.list l)) 1 (.list fs)) rfl hx (Nat.le_trans hl (by decide)) hp
 have tx:n0 x0=ty:=Ht x0 (List.mem_of_getElem? hx)
 rw[List.filter_eq_nil_iff.mpr λd hd=>by rw[Ht d hd,tx];simp]at k
 refine j3 (xh k) ?_
 have pl:=hp low ml
 have ph:=hp high mh
 have g0:upd (upd (λ_=>none) 0 (.list l)) 1 (.list fs) 0=some (.list l):=rfl
 have g1:upd (upd (λ_=>none) 0 (.list l)) 1 (.list fs) 1=some (.list fs):=rfl
 generalize upd (upd (λ_=>none) 0 (.list l)) 1 (.list fs)=τ at g0 g1 ⊢
 clear k
 have GB:bA .Sub (.int (l.length:Int)) (.int 1)=some (.int ((l.length-1:Nat):Int)):=IC hlen
 refine cu (d:=low) (nU (aj g0 rfl) (aQ (aQ (xc g0) rfl GB) rfl (nZ _)) rfl rfl WE) (cu (d:=high) (nU (aj g0 rfl) (aQ (xc g0) rfl (nZ _)) rfl rfl QK) (cu (d:=bM high) (dO rfl (aj rfl ph.it)) ?_))
 have f2:upd (upd (upd τ 2 low) 3 high) 4 (bM high) 2=some low:=rfl
 have f3:upd (upd (upd τ 2 low) 3 high) 4 (bM high) 3=some high:=rfl
 have f4:upd (upd (upd τ 2 low) 3 high) 4 (bM high) 4=some (bM high):=rfl
 have f0:upd (upd (upd τ 2 low) 3 high) 4 (bM high) 0=some (.list l):=g0
 have f1:upd (upd (upd τ 2 low) 3 high) 4 (bM high) 1=some (.list fs):=g1
 generalize upd (upd (upd τ 2 low) 3 high) 4 (bM high)=ρ at f0 f1 f2 f3 f4 ⊢
 clear g0 g1
 have th:n0 high=ty:=Ht high mh
 have tl:n0 low=ty:=Ht low ml
 refine zc (yW f0 f1 f2 f3 f4 pl ph tl hh) λρ' hr p1 p2 p3 p4=>?_
 exact dK hr (last_step p1 p2 p3 p4 pl ph th my IK IL hf zw)
end
end Mine.Internal.dU
end
section
open PySem PySem.Flt PySem.Float64 PyProof.Rows
set_option exponentiation.threshold 4000
namespace Mine.Internal.dU
theorem Ch(ds:List D):Φ4 2 ds=eF (qB [e1,e0]) m2 [0,1] ds:=rfl
theorem Ci(ds:List D):Φ4 3 ds=eF (qB [e2,e1,e0]) m3 [0,1] ds:=rfl
theorem Gb(ds:List D):qB [e1,e0] 0 ds=eF (qB []) m0 [0,1] ds:=rfl
theorem QL(ds:List D):qB [e1,e0] 1 ds=eF (qB [e0]) m1 [0] ds:=rfl
structure Fits(l:List D)(r:Res)(oR:D):Prop where
 rv:r≠ .exc .val
 di: ∀m,oR≠ .lM m
 same:Φ4 3 [fO r,oR]=some (.bool true)
noncomputable def iB(R:List D→Res→Prop)(l:List D)(oR:D):Prop:= ∃r,R l r∧Fits l r oR
structure GoodW(l ds:List D):Prop where
 wid: ∀(i:Nat) (dw:D),lV[i]? =some dw→ ∃d,ds[i]? =some d∧iB (A0 dw) l d
noncomputable def Good(l:List D):Prop:= ∃d0 d1 d2 ds,Φ4 2 [.list l,.list iy]=some (.list ([d0,d1,d2]++ds))∧ds.length=7∧iB yu l d0∧iB pS l d1∧iB yv l d2∧GoodW l ds
theorem eK{l:List D}{k:XK}(h:k≠ .val):Fits l (.exc k) (fO (.exc k)):=by
 refine⟨λe=>h (by injection e),λm=>?_,?_⟩
 ·cases k with
  |dj=>exact λe=>by cases e
  |past=>exact λe=>by cases e
  |kind b=>exact λe=>by cases e
  |val=>exact absurd rfl h
 ·rw[Ci]
  have es: ∀x:Str,dr .Eq (.str x) (.str x)=some true:=λx=>(w0 x x).trans (congrArg some (beq_self_eq_true x))
  cases k with
  |dj=>exact j9 (ty:= "str") rfl rfl (es _)
  |past=>exact j9 (ty:= "str") rfl rfl (es _)
  |kind b=>exact j9 (ty:= "bool") rfl rfl ((Ep b b).trans (congrArg some (beq_self_eq_true b)))
  |val=>exact absurd rfl h
theorem xi{l:List D}{k:XK}(h:k≠ .val)(hd:Φ4 2 [.list l,.list iy]=some (.list (List.replicate 10 (fO (.exc k)))))(h1:yu l (.exc k))(h2:pS l (.exc k))(h3:yv l (.exc k))(h4: ∀dw,A0 dw l (.exc k)):Good l:=
 ⟨_,_,_,List.replicate 7 (fO (.exc k)),hd,List.length_replicate,⟨_,h1,eK h⟩,⟨_,h2,eK h⟩,⟨_,h3,eK h⟩,⟨λi dw e=>⟨fO (.exc k),by
  have:i<7:=(List.getElem?_eq_some_iff.mp e).1
  rw[List.getElem?_replicate,if_pos this],_,h4 dw,eK h⟩⟩⟩
theorem Cj:Good []:=by
 have ok:cY []:= .kI λd hd=>by cases hd
 have hn:=λ(σ:ah) (h:σ 0=some (.list (bg [])))=>none_of (Φ:=Φ0) (σ:=σ) (s:=bg []) h rfl
 refine xi (k:= .dj) (λe=>by cases e) ((Ch _).trans (vN rfl)) ?_ ?_ ?_ λdw=>?_
 ·exact .inl ⟨ok,.inr ⟨_,rfl,(hn _ (bS ..)).1⟩⟩
 ·exact .inl ⟨ok,.inr ⟨_,rfl,(hn _ (bS ..)).1⟩⟩
 ·exact .inl ⟨ok,.inr ⟨_,rfl,.inl (hn _ (bS ..)).1⟩⟩
 ·exact .inl ⟨ok,.inr ⟨_,rfl,.inl (hn _ (bS ..)).2⟩⟩
theorem vP{l:List D}{h:Nat}(m:pK l h)(hl:l.length≤1000):Good l:=by
 refine au m.at_ λx hx=>?_
 have hp: ∀d∈l,Plain d:=λd hd=>by
  refine au (List.getElem?_of_mem hd) λi e=>?_
  by_cases q:i=h
  ·subst q
   replace e:=hx▸e
   obtain rfl:=Option.some.inj e
   exact⟨rfl,rfl⟩
  ·refine au (m.ok i d q e) λn QM=>?_
   subst QM
   exact⟨rfl,rfl⟩
 have two:=m.two
 have get: ∀i,i<l.length→ ∃d,l[i]? =some d:=λi hi=>⟨_,List.getElem?_eq_getElem hi⟩
 have hd:Φ4 2 [.list l,.list iy]=some (.list (List.replicate 10 (fO (.exc (.kind false))))):=by
  rw[Ch]
  by_cases h0:h=0
  ·subst h0
   refine au (get 1 (by assumption)) λd e=>?_
   refine au (m.ok 1 d (by decide) e) λn QN=>?_
   subst QN
   exact n6 rfl hx hl hp (List.mem_of_getElem? e) (show "int"≠ "str" by decide)
  ·refine au (get 0 (by exact Nat.lt_of_succ_lt ‹_›)) λd e=>?_
   refine au (m.ok 0 d (λq=>h0 q.symm) e) λn QO=>?_
   subst QO
   exact n6 rfl e hl hp (List.mem_of_getElem? hx) (show "str"≠ "int" by decide)
 exact xi (λe=>by cases e) hd (.inr ⟨rfl,h,m⟩) (.inr ⟨rfl,h,m⟩) (.inr ⟨rfl,h,m⟩) λdw=> .inr ⟨rfl,h,m⟩
structure Told(y:D):Prop where
 pl:Plain y
 ne: ∀m,y≠ .lM m
 eq:(if n0 y= "list" then dr .Is y y else dr .Eq y y)=some true
theorem kZ{l:List D}{y:D}(t:Told y):Fits l (.told y) (bM y):=
 ⟨λe=>(by cases e),λm e=>(by cases e),by rw[Ci];exact j9 t.pl.ty t.pl.ty t.eq⟩
theorem tT{l:List D}{a b:UInt64}(ha:Fin a)(hb:Fin b)(h:val a=val b):Fits l (.told (.cx a)) (bM (.cx b)):=
 ⟨λe=>(by cases e),λm e=>(by cases e),by
  rw[Ci]
  exact j9 (ty:= "float") rfl rfl (show some (Float64.cmp a b==some Ordering.eq)=some true from congrArg some (BY ha hb h))⟩
inductive xj(high last:D):Prop
 |bad (k:XK) (hb:ij high k) (hk:k≠ .dj) (e:last=fO (.exc (dy k)))
 |ok (b:UInt64) (hf:iI .float [high]=some (.cx b)) (hb:Fin b) (e:last=bM (.cx b))
theorem Cm(k:XK):dy k≠ .val:=by cases k <;> exact λe=>by cases e
structure QP(l:List D)(ty:String)(low high half last:D):Prop where
 ok:cY l
 len:l.length≤66
 ne:l.length≠0
 pl: ∀d∈l,Told d
 Sa: ∀d∈l,n0 d=ty
 n9:(bg l)[(l.length-1)/2]? =some low
 lh:(bg l)[l.length/2]? =some high
 oa:iA (qB [e1,e0]) (decide (l.length%2=0)) ty low high half
 rj:f9 (qB [e1,e0]) ty high last
 hi:aV half=some half
 la:aV last=some last
 oP:l.length%2=0→ ∃d,bA .Add low high=some d∧((∃z b,bA .Div d (.int 2)=some z∧z= .cx b∧Fin b∧half=bM z)∨ ∃k,qG d 2 k∧k≠ .val∧half=fO (.exc k))
 out:xj high last
theorem Cn{dw:D}{i:Nat}(h:i<3)(e:lV[i]? =some dw):aV dw=some dw∧ ∃w,iI .float [dw]=some (.cx w)∧Fin w∧val w=0:=by
 have z:=tN false
 have ez:Float64.ofInt 0=Float64.zero false:=by kernel_rfl
 rcases three h with rfl|rfl|rfl
 ·obtain rfl:=Option.some.inj e
  refine⟨rfl,Float64.ofInt 0,?_,by rw[ez];exact z⟩
  show(if Over 0 then none else some (D.cx (Float64.ofInt 0)))=_
  rw[if_neg (EC (by decide))]
 ·obtain rfl:=Option.some.inj e
  exact⟨rfl,Float64.ofInt 0,rfl,by rw[ez];exact z⟩
 ·obtain rfl:=Option.some.inj e
  refine⟨rfl,Float64.zero false,?_,z⟩
  kernel_rfl
theorem ET{c:Nat}(h:c<4):c=0∨c=1∨c=2∨c=3:=by
 rcases Nat.lt_or_eq_of_le (Nat.le_of_lt_succ h)with h|h
 ·exact(three h).imp id (.imp id .inl)
 ·exact .inr (.inr (.inr h))
theorem Co:2^1024-2^970≤(2^1024:Int).natAbs:=by
 have e:(2^1024:Int).natAbs=2^1024:=by rw[Int.natAbs_pow];rfl
 rw[e];exact Nat.sub_le _ _
theorem Cp{dw:D}{i:Nat}(h:3≤i)(e:lV[i]? =some dw)(last:D):aV dw=some dw∧ ∃k,ij dw k∧dy k≠ .val∧(iy.map (vO last))[i]? =some (fO (.exc (dy k))):=by
 have:i<7:=(List.getElem?_eq_some_iff.mp e).1
 obtain⟨j,rfl⟩:=Nat.exists_eq_add_of_le' h
 rcases ET (Nat.lt_of_add_lt_add_right (n:=3) this)with rfl|rfl|rfl|rfl
 ·obtain rfl:=Option.some.inj e
  refine⟨rfl,.val,.inr (.inl ⟨_,rfl,?_,?_,rfl⟩),(λe=>by cases e),rfl⟩
  ·kernel_rfl
  ·exact of_decide_eq_true (by kernel_rfl)
 ·obtain rfl:=Option.some.inj e
  exact⟨rfl,.kind false,.inr (.inr (.inl ⟨rfl,rfl⟩)),(λe=>by cases e),rfl⟩
 ·obtain rfl:=Option.some.inj e
  exact⟨rfl,.kind false,.inr (.inr (.inr ⟨.inl ⟨_,rfl⟩,rfl⟩)),(λe=>by cases e),rfl⟩
 ·obtain rfl:=Option.some.inj e
  exact⟨rfl,.past,.inl ⟨_,rfl,Co,rfl⟩,(λe=>by cases e),rfl⟩
end Mine.Internal.dU
end
section
open PySem PySem.Flt PySem.Float64 PyProof.Rows
set_option exponentiation.threshold 4000
namespace Mine.Internal.dU
theorem Cq: ∀f∈iy,f= .none∨ ∃m,f= .tup m:=by
 intro f hf
 simp only[iy,List.mem_cons,List.not_mem_nil,or_false]at hf
 rcases hf with rfl|rfl|rfl|rfl|rfl|rfl|rfl
 ·exact .inl rfl
 ·exact .inl rfl
 ·exact .inl rfl
 ·exact .inr ⟨_,rfl⟩
 ·exact .inr ⟨_,rfl⟩
 ·exact .inr ⟨_,rfl⟩
 ·exact .inr ⟨_,rfl⟩
theorem od{l:List D}{ty:String}{low high half last:D}(r:QP l ty low high half last):Good l:=by
 have hp:=cI l
 have hlen:=dx l
 have ml:low∈l:=hp.mem_iff.mp (List.mem_of_getElem? r.n9)
 have mh:high∈l:=hp.mem_iff.mp (List.mem_of_getElem? r.lh)
 have tl:=r.pl low ml
 have th:=r.pl high mh
 obtain⟨x0,hx0⟩: ∃x0,l[0]? =some x0:=⟨_,List.getElem?_eq_getElem (Nat.pos_of_ne_zero r.ne)⟩
 have c:=BJ r.ok
 have len:=r.len
 have ne:=r.ne
 have hd:Φ4 2 [.list l,.list iy]=some (.list ([bM low,bM high,half]++iy.map (vO last))):=by
  rw[Ch]
  exact ES rfl Cq hx0 len (λd hd=>(r.pl d hd).pl) r.Sa (by rw[Gb];exact F0 c (Nat.le_trans len (by decide)) r.n9) (by rw[Gb];exact F0 c (Nat.le_trans len (by decide)) r.lh) ml mh r.oa r.rj r.hi r.la
 have sl:(bg l)[((bg l).length-1)/2]? =some low:=by rw[hlen];exact r.n9
 have sh:(bg l)[(bg l).length/2]? =some high:=by rw[hlen];exact r.lh
 have WG:(bg l).length≠0:=by rw[hlen];exact ne
 refine⟨_,_,_,_,hd,rfl,⟨_,.inl ⟨r.ok,.inl ⟨low,rfl,EM (bS ..) WG sl⟩⟩,kZ tl⟩,⟨_,.inl ⟨r.ok,.inl ⟨high,rfl,B7 (bS ..) WG sh⟩⟩,kZ th⟩,?_,⟨λi dw e=>?_⟩⟩
 ·have hh:=r.oa
  unfold iA at hh
  by_cases ho:l.length%2=0
  ·have ev:(bg l)[(bg l).length/2-1]? =some low:=by
    rw[←r.n9,hlen,kg ne ho]
   obtain⟨d,hd,⟨z,b,hz,rfl,hb,e⟩|⟨k,hk,hv,e⟩⟩:=r.oP ho
   ·rw[e]
    exact⟨_,.inl ⟨r.ok,.inl ⟨_,rfl,Ca (bS ..) (by rw[hlen];exact qg ne ho) (by rw[hlen];exact ho) ev sh hd hz⟩⟩,tT hb hb rfl⟩
   ·rw[e]
    exact⟨_,.inl ⟨r.ok,.inr ⟨k,rfl,.inr (EN (bS ..) (by rw[hlen];exact qg ne ho) (by rw[hlen];exact ho) ev sh hd hk)⟩⟩,eK hv⟩
  ·rw[decide_eq_false ho,if_neg (by decide)]at hh
   rw[hh]
   exact⟨_,.inl ⟨r.ok,.inl ⟨high,rfl,B8 (bS ..) (by rw[hlen];exact(Nat.mod_two_eq_zero_or_one _).resolve_left ho) sh⟩⟩,kZ th⟩
 ·refine cg (Cb (Φ:=Φ0) (σ:=upd (upd (λ_=>none) 1 dw) 0 (.list (bg l))) (bS ..) WG (vM r.ok) sh th.pl.it) λp q f=>?_
  have h1:upd (upd (λ_=>none) 1 dw) 0 (.list (bg l)) 1=some dw:=by rw[jz _ _ (by decide),bS]
  have hi:i<7:=(List.getElem?_eq_some_iff.mp e).1
  by_cases h3:i<3
  ·obtain⟨d7,w,hw,fw,vw⟩:=Cn h3 e
   have my:(iy.map (vO last))[i]? =some last:=by
    match i,h3 with
    |0,_=>rfl
    |1,_=>rfl
    |2,_=>rfl
   refine⟨last,my,?_⟩
   cases r.out with
   |bad k hb hk el=>
    rw[el]
    exact⟨_,.inl ⟨r.ok,.inr ⟨_,rfl,.inr (Ce f h1 d7 hw th.pl.it hb)⟩⟩,eK (Cm k)⟩
   |ok b hf hb el=>
    rw[el]
    have hn:(bg l).length<1000:=by rw[hlen];exact Nat.lt_of_le_of_lt len (by decide)
    refine aX (EP hb fw vw hn f.lt f.le) λv1 v2=>?_
    exact⟨_,.inl ⟨r.ok,.inl ⟨_,rfl,II f hn h1 d7 hw th.pl.it hf⟩⟩,tT v1 hb v2⟩
  ·obtain⟨d7,k,hb,hk,el⟩:=Cp (by exact Nat.le_of_not_lt ‹_›) e last
   exact⟨_,el,_,.inl ⟨r.ok,.inr ⟨_,rfl,.inr (EO f h1 d7 hb)⟩⟩,eK hk⟩
end Mine.Internal.dU
end
section
open PySem PySem.Flt PySem.Float64 PyProof.Rows
set_option exponentiation.threshold 4000
namespace Mine.Internal.dU
theorem Cr(i:Int):Told (.int i):=⟨⟨rfl,rfl⟩,λm e=>(by cases e),by
 rw[if_neg (show¬n0 (.int i)= "list" from(by decide: ¬ "int"= "list")),By,beq_self_eq_true]⟩
theorem Cs(t:Str):Told (.str t):=⟨⟨rfl,rfl⟩,λm e=>(by cases e),by
 rw[if_neg (show¬n0 (.str t)= "list" from(by decide: ¬ "str"= "list")),w0,beq_self_eq_true]⟩
theorem Ct(a:Addr)(m:Int):Told (.obj a m):=⟨⟨rfl,rfl⟩,λm e=>(by cases e),by
 rw[if_pos (show n0 (.obj a m)= "list" from rfl)]
 show some (a==a)=some true
 rw[beq_self_eq_true]⟩
theorem oh{a b:Int}{N:Nat}(ha:a.natAbs.log2≤N)(hb:b.natAbs.log2≤N):(a+b).natAbs.log2≤N+1:=by
 have lt: ∀{x:Nat},x.log2≤N→x<2^(N+1):=λ{x} h=>Nat.lt_of_lt_of_le Nat.lt_log2_self (Nat.pow_le_pow_right (by decide) (by exact Nat.succ_le_succ ‹_›))
 have h1:=lt ha
 have h2:=lt hb
 have h3:(a+b).natAbs<2^(N+1+1):=by
  rw[Nat.pow_succ]
  exact zg h1 h2
 by_cases h0:(a+b).natAbs=0
 ·rw[h0];simp
 ·have:=(Nat.log2_lt h0).mpr h3
  exact Nat.le_sub_one_of_lt ‹_›
theorem tU(T:Int):aV (gu T)=some (gu T):=by unfold gu;split <;> rfl
theorem oi{T:Int}(h:Float64.isInf (quot T 2)=true):gu T=fO (.exc .past):=by
 unfold gu
 rw[if_pos ((rb T).mp h)];rfl
theorem qc{T:Int}(h: ¬Float64.isInf (quot T 2)=true):gu T=bM (.cx (quot T 2))∧Fin (quot T 2):=by
 unfold gu
 rw[if_neg λq=>h ((rb T).mpr q)]
 refine⟨rfl,?_⟩
 have h2:Float64.isInf (quot T 2)=false:=by simpa using h
 rw[tL]at h2 ⊢
 exact vF (F1 _ _) h2
theorem places{l:List D}(ne:l.length≠0): ∃low high,(bg l)[(l.length-1)/2]? =some low∧(bg l)[l.length/2]? =some high∧low∈l∧high∈l:=by
 have hp:=cI l
 have hlen:=dx l
 have h1:(l.length-1)/2<(bg l).length:=by rw[hlen];exact ze ne
 have h2:l.length/2<(bg l).length:=by rw[hlen];exact half_lt ne
 exact⟨_,_,List.getElem?_eq_getElem h1,List.getElem?_eq_getElem h2,hp.mem_iff.mp (List.getElem_mem h1),hp.mem_iff.mp (List.getElem_mem h2)⟩
theorem yX{l:List D}(len:l.length≤66)(ne:l.length≠0){N:Nat}(hN:N+1≤2097152)(h: ∀d∈l,∃i:Int,d= .int i∧i.natAbs.log2≤N):Good l:=by
 refine ft (places ne) λlow high q1 q2 m1 m2=>?_
 refine ai (h low m1) λlo QQ b1=>?_
 subst QQ
 refine ai (h high m2) λhi QR b2=>?_
 subst QR
 have hs:=oh b1 b2
 have ht:=oh b2 b2
 rw[←Int.two_mul]at ht
 have Yn: ∀T:Int,T.natAbs.log2≤N+1→qB [e1,e0] 1 [.int T]=some (gu T):=λT hT=>by
  rw[QL];exact EK T (by exact Nat.le_trans ‹_› ‹_›)
 refine od (ty:= "int") (low:= .int lo) (high:= .int hi) (half:=if l.length%2=0 then gu (lo+hi)else bM (.int hi)) (last:=gu (2*hi)) {
  ok:= .kI λd hd=>let⟨i,e,_⟩:=h d hd;⟨i,e⟩
  len:=len,ne:=ne
  pl:=λd hd=>by obtain⟨i,rfl,_⟩:=h d hd;exact Cr i
  Sa:=λd hd=>by obtain⟨i,rfl,_⟩:=h d hd;rfl
  n9:=q1,lh:=q2
  oa:=?_
  rj:= .int (jY (by rw[show dc 2=true by decide];rfl)) rfl (Yn _ ht)
  hi:=by split;exact tU _;rfl
  la:=tU _
  oP:=λho=>⟨.int (lo+hi),rfl,?_⟩
  out:=?_}
 ·unfold iA
  by_cases ho:l.length%2=0
  ·rw[if_pos (decide_eq_true ho),if_pos rfl,if_pos ho]
   exact⟨_,rfl,rfl,Yn _ hs⟩
  ·rw[decide_eq_false ho,if_neg (by decide),if_neg ho]
 ·rw[if_pos ho]
  by_cases hq:Float64.isInf (quot (lo+hi) 2)=true
  ·exact .inr ⟨.past,.inl ⟨_,rfl,by decide,hq,rfl⟩,(λe=>by cases e),oi hq⟩
  ·refine aX (qc hq) λq3 q4=>?_
   refine .inl ⟨_,quot (lo+hi) 2,?_,rfl,q4,q3⟩
   show(if(2:Int)=0 then none else if Float64.isInf (quot (lo+hi) 2)=true then none else some (D.cx (quot (lo+hi) 2)))=_
   rw[if_neg (by decide),if_neg hq]
 ·by_cases ho:Over hi
  ·have hq:Float64.isInf (quot (2*hi) 2)=true:=by rw[jB];exact inf_of_over ho
   exact .bad .past (.inl ⟨hi,rfl,ho,rfl⟩) (λe=>by cases e) (oi hq)
  ·have hq: ¬Float64.isInf (quot (2*hi) 2)=true:=by rw[jB];exact fin_of_fits ho
   refine aX (qc hq) λq3 q4=>?_
   rw[jB]at q3 q4
   refine .ok (Float64.ofInt hi) ?_ q4 q3
   show(if Over hi then none else some (D.cx (Float64.ofInt hi)))=_
   rw[if_neg ho]
theorem vQ{l:List D}(len:l.length≤66)(ne:l.length≠0)(h: ∀d∈l,∃t:Str,d= .str t∧t.length≤1000∧B2 t):Good l:=by
 refine ft (places ne) λlow high q1 q2 m1 m2=>?_
 refine bK (h low m1) λlo QS n1 t1=>?_
 subst QS
 refine bK (h high m2) λhi QT n2 t2=>?_
 subst QT
 have key: ∀last:D,f9 (qB [e1,e0]) "str" (.str hi) last→aV last=some last→xj (.str hi) last→Good l:=λlast hl ue ho=>by
  refine od (ty:= "str") (low:= .str lo) (high:= .str hi) (half:=if l.length%2=0 then jk false else bM (.str hi)) (last:=last) {
   ok:= .kS λd hd=>let⟨i,e,_⟩:=h d hd;⟨i,e⟩
   len:=len,ne:=ne
   pl:=λd hd=>by obtain⟨i,rfl,_⟩:=h d hd;exact Cs i
   Sa:=λd hd=>by obtain⟨i,rfl,_⟩:=h d hd;rfl
   n9:=q1,lh:=q2
   oa:=?_
   rj:=hl
   hi:=by split <;> rfl
   la:=ue
   oP:=λho=>⟨.str (lo++hi),?_,.inr ⟨.kind false,.inr (.inl ⟨_,rfl,rfl⟩),(λe=>by cases e),by rw[if_pos ho];rfl⟩⟩
   out:=ho}
  ·unfold iA
   by_cases ho:l.length%2=0
   ·rw[if_pos (decide_eq_true ho),if_neg (by decide),if_pos ho]
   ·rw[decide_eq_false ho,if_neg (by decide),if_neg ho]
  ·have:2000≤bW:=by decide
   show(if lo.length+hi.length≤bW then some (D.str (lo++hi))else none)=_
   rw[if_pos (Nat.le_trans (Nat.add_le_add n1 n2) this)]
 cases t2 with
 |bad h1 h2 h3=>
  have sz:2000≤sizeLine:=by decide
  exact key _ (.bad h1) rfl (.bad .val (.inr (.inl ⟨hi,rfl,h2,Nat.le_trans (Nat.add_le_add_right h3 40) (Nat.le_trans (by decide) sz),rfl⟩)) (λe=>by cases e) rfl)
 |whole d f h1 h2 h3 h4 h5 h6=>exact key _ (.whole h1 h2 h3 h5) rfl (.ok f h4 h6 rfl)
 |half d f t' h1 h2 h3 Nu h4 h5 h6=>exact key _ (.half h1 h2 h3 Nu h5) rfl (.ok f h4 h6 rfl)
theorem yY{l:List D}(len:l.length≤66)(ne:l.length≠0)(h: ∀d∈l,∃a m,d= .obj a m):Good l:=by
 refine ft (places ne) λlow high q1 q2 m1 m2=>?_
 refine cg (h low m1) λa lo QU=>?_
 subst QU
 refine cg (h high m2) λb hi QV=>?_
 subst QV
 refine od (ty:= "list") (low:= .obj a lo) (high:= .obj b hi) (half:=if l.length%2=0 then jk false else bM (.obj b hi)) (last:=jk false) {
  ok:= .kO h
  len:=len,ne:=ne
  pl:=λd hd=>by obtain⟨a,i,rfl⟩:=h d hd;exact Ct a i
  Sa:=λd hd=>by obtain⟨a,i,rfl⟩:=h d hd;rfl
  n9:=q1,lh:=q2
  oa:=?_
  rj:= .list
  hi:=by split <;> rfl
  la:=rfl
  oP:=λho=>⟨.list [.int lo,.int hi],rfl,.inr ⟨.kind false,.inr (.inr ⟨_,rfl,rfl⟩),(λe=>by cases e),by rw[if_pos ho];rfl⟩⟩
  out:= .bad (.kind false) (.inr (.inr (.inr ⟨.inr ⟨b,hi,rfl⟩,rfl⟩))) (λe=>by cases e) rfl}
 unfold iA
 by_cases ho:l.length%2=0
 ·rw[if_pos (decide_eq_true ho),if_neg (by decide),if_pos ho]
 ·rw[decide_eq_false ho,if_neg (by decide),if_neg ho]
end Mine.Internal.dU
end
section
open PySem PySem.Flt PySem.Float64 PyProof.Rows
set_option exponentiation.threshold 4000
namespace Mine.Internal.dU
noncomputable def qd:Int:=((2^1024:Nat):Int)
noncomputable def WH(x:Int):Int:=x+qd*(x.fmod 3-1)
noncomputable def WI(x:Int):Str:=tx (x.fmod 3).toNat (x.fmod 1000).toNat
noncomputable def IP(xs:List Int):List D:=xs.map λx=> .int (WH x)
noncomputable def Sb(xs:List Int):List D:=xs.map λx=> .str (WI x)
noncomputable def WJ(xs:List Int):List D:=xs.map λx=> .list [.int (x.fmod 5)]
noncomputable def Cu:Str:=Str.ofString "0"
noncomputable def yZ(xs:List Int):List D:=((IP xs).take (xs.length/2)++ [.str Cu])++(IP xs).drop (xs.length/2)
noncomputable def four(xs:List Int):List D:= [.list (IP xs),.list (Sb xs),.list (WJ xs),.list (yZ xs)]
theorem fm(x:Int)(k:Nat)(h:0<k):x.fmod (k:Int)=(((x.fmod (k:Int)).toNat:Nat):Int)∧(x.fmod (k:Int)).toNat<k:=by
 have e:=Int.fmod_eq_emod_of_nonneg x (Int.natCast_nonneg k)
 have a:=Int.emod_nonneg x (b:=(k:Int)) (Int.ne_of_gt (Int.natCast_pos.mpr h))
 have b:=Int.emod_lt_of_pos x (b:=(k:Int)) (by exact Int.ofNat_lt.mpr ‹_›)
 rw[e]
 exact⟨(Int.toNat_of_nonneg a).symm,(Int.toNat_lt a).mpr b⟩
section
variable{Φ:Nat→List D→Option D}{σ:ah}
theorem v_mod{x:Nat}{i k:Int}(h:σ x=some (.int i))(hk:k≠0):(ar Φ (.bin .Mod (.var x) (.aL (.int k)))).v σ=some (.int (i.fmod k)):=aQ (aj h rfl) rfl (qX _ _ hk)
theorem QW:bA .Pow (.int 2) (.int 1024)=some (.int qd):=rf (b:=1024) (by decide)
theorem QX{k:Int}{c:Nat}(e:k=(c:Int))(hc:c<3):bA .Mult (.int qd) (.int (k-1))=some (.int (qd*(k-1))):=by
 refine jY ?_
 have:dc (k-1)=true:=by rw[e];rcases three hc with rfl|rfl|rfl <;> decide
 rw[this,Bool.or_true]
theorem WK{i:Int}(h:σ 16=some (.int i)):(ar Φ (.bin .Add (.var 16) (.bin .Mult (.bin .Pow (.aL (.int 2)) (.aL (.int 1024))) (.bin .Sub (.bin .Mod (.var 16) (.aL (.int 3))) (.aL (.int 1)))))).v σ=some (.int (WH i)):=by
 have f:i.fmod 3=(((i.fmod 3).toNat:Nat):Int)∧(i.fmod 3).toNat<3:=fm i 3 (by decide)
 exact aQ (aj h rfl) (aQ (aQ rfl rfl QW) (aQ (v_mod h (by decide)) rfl rfl) (QX f.1 f.2)) rfl
theorem IQ{c d:Nat}(h:d<1000):(tx c d).length≤6:=by
 rw[F6 h]
 have e: ∀l:List Nat,(iX l).length=l.length:=λl=>by show l.toArray.size=_;simp
 have:=vG d
 rw[e,List.length_append,List.length_append]
 exact Nat.add_le_add (Nat.add_le_add (show _≤1 by split <;> decide) this) (show _≤2 by split <;> decide)
theorem xk{a b:Str}(h:a.length+b.length≤100):bA .Add (.str a) (.str b)=some (.str (a++b)):=by
 have:100≤bW:=by decide
 show(if a.length+b.length≤bW then some (D.str (a++b))else none)=_
 rw[if_pos (by exact Nat.le_trans ‹_› ‹_›)]
theorem Cv{a b c:D}{k:ME}{i:Nat}{y:D}(hk:(ar Φ k).v σ=some (.int (i:Int)))(hy: [a,b,c][i]? =some y):(ar Φ (.item (.lst (.cons (.aL a) (.cons (.aL b) (.cons (.aL c) .nil)))) k)).v σ=some y:=bu (kX (fT rfl (fT rfl (fT rfl qa))) (show 3≤bW by decide)) hk (item_at hy)
theorem WL{i:Int}(h:σ 16=some (.int i)):(ar Φ (.bin .Add (.bin .Add (.item (.lst (.cons (.aL (.str (Str.ofString "?"))) (.cons (.aL (.str (Str.ofString ""))) (.cons (.aL (.str (Str.ofString ""))) .nil)))) (.bin .Mod (.var 16) (.aL (.int 3)))) (.bi .str (.cons (.bin .Mod (.var 16) (.aL (.int 1000))) .nil))) (.item (.lst (.cons (.aL (.str (Str.ofString ""))) (.cons (.aL (.str (Str.ofString ""))) (.cons (.aL (.str (Str.ofString ".5"))) .nil)))) (.bin .Mod (.var 16) (.aL (.int 3)))))).v σ=some (.str (WI i)):=by
 have f:i.fmod 3=(((i.fmod 3).toNat:Nat):Int)∧(i.fmod 3).toNat<3:=fm i 3 (by decide)
 have g:i.fmod 1000=(((i.fmod 1000).toNat:Nat):Int)∧(i.fmod 1000).toNat<1000:=fm i 1000 (by decide)
 have m3:(ar Φ (.bin .Mod (.var 16) (.aL (.int 3)))).v σ=some (.int (i.fmod 3)):=v_mod h (by decide)
 have Cw:(ar Φ (.bin .Mod (.var 16) (.aL (.int 1000)))).v σ=some (.int (i.fmod 1000)):=v_mod h (by decide)
 unfold WI
 generalize (i.fmod 3).toNat=c at *
 generalize (i.fmod 1000).toNat=d at *
 replace m3:=f.1▸m3
 replace Cw:=g.1▸Cw
 have hc:=f.2
 have hd:=g.2
 have p1: [D.str (Str.ofString "?"),.str (Str.ofString ""),.str (Str.ofString "")][c]? =some (.str (oV c)):=by
  rcases three hc with rfl|rfl|rfl <;> rfl
 have p2: [D.str (Str.ofString ""),.str (Str.ofString ""),.str (Str.ofString ".5")][c]? =some (.str (qb c)):=by
  rcases three hc with rfl|rfl|rfl <;> rfl
 have st:iI .str [.int (d:Int)]=some (.str (Str.ofString (toString (d:Int)))):=by
  show(if(d:Int).natAbs.log2<1920 then some (D.str (Str.ofString (toString (d:Int))))else none)=_
  have:(d:Int).natAbs.log2<1920:=by
   rw[Int.natAbs_natCast]
   by_cases h0:d=0
   ·subst h0;decide
   ·exact Nat.lt_trans ((Nat.log2_lt h0).mpr (show d<2^10 from Nat.lt_trans hd (by decide))) (by decide)
  rw[if_pos this]
 have l1:(oV c).length≤1:=by unfold oV;split <;> decide
 have l2:(qb c).length≤2:=by unfold qb;split <;> decide
 have l3:(Str.ofString (toString (d:Int))).length≤3:=by
  rw[vH hd]
  exact(show(dg d).toArray.size≤3 by simpa using vG d)
 have l4:(oV c++Str.ofString (toString (d:Int))).length≤4:=by
  have:(oV c++Str.ofString (toString (d:Int))).length=(oV c).length+(Str.ofString (toString (d:Int))).length:=by
   show((oV c).cps++(Str.ofString (toString (d:Int))).cps).size=_
   rw[Array.size_append];rfl
  rw[this];exact Nat.add_le_add l1 l3
 exact aQ (aQ (Cv m3 p1) (bt Cw st) (xk (Nat.le_trans (Nat.add_le_add l1 l3) (by decide)))) (Cv m3 p2) (xk (Nat.le_trans (Nat.add_le_add l4 l2) (by decide)))
end
end Mine.Internal.dU
end
section
open PySem PySem.Flt PySem.Float64 PyProof.Rows
namespace Mine.Internal.dU
section
variable{Φ:Nat→List D→Option D}{σ:ah}
theorem rk(xs:List Int):(IP xs).length=xs.length:=List.length_map _
theorem xl{xs:List Int}{R:List D}(h6:σ 6=some (.list (xs.map .int)))(h5:σ 5=some (.list R))(hx:xs.length≤100)(hR:R.length≤100): ∃σ',run Φ Bm σ=some (.nx σ')∧σ' 5=some (.list (R++four xs))∧ ∀y,y≠5→y≠8→y≠9→y≠10→σ' y=σ y:=by
 have hl:xs.length≤bW:=Nat.le_trans hx (by decide)
 have src: ∀τ:ah,τ 6=some (.list (xs.map .int))→(ar Φ (.var 6)).v τ=some (.list (xs.map .int)):=λτ h=>aj h rfl
 have w8:=rk xs
 have lm: ∀m:List D,m.length≤1000→m.length≤bW:=λm h=>Nat.le_trans h (by decide)
 have hh:bA .FloorDiv (.int ((xs.map D.int).length:Int)) (.int 2)=some (.int ((xs.length/2:Nat):Int)):=by rw[List.length_map];exact nZ _
 unfold Bm RN wX RO Ec
 refine⟨_,cu (comp_map (e:=D.int) (d:= .list (xs.map .int)) (src σ h6) rfl hl λi _=>WK (bS ..)) (cu (aQ (bt (src _ h6) (nR _)) rfl hh)
  (cu (comp_map (e:=D.int) (d:= .list (xs.map .int)) (src _ h6) rfl hl λi _=>WL (bS ..)) (Ip (l:=R++four xs) (nS (aj h5 rfl) (kX (fT (aj rfl rfl) (fT (aj rfl rfl)
   (fT (comp_map (e:=D.int) (d:= .list (xs.map .int)) (src _ h6) rfl hl λi _=>kX (fT (v_mod (bS ..) (by decide)) qa) (show 1≤bW by decide))
   (fT (nS (nS (FZ (aj rfl rfl) (aj rfl rfl) rfl) (kX (fT rfl qa) (show 1≤bW by decide)) ?_) (w6 (aj rfl rfl) (aj rfl rfl) rfl) ?_) qa)))) (show 4≤bW by decide)) ?_) rfl))),rfl,λy a b c d=>?_⟩
 ·exact lm _ (by rw[List.length_append,List.length_take];exact Nat.le_trans (Nat.succ_le_succ (Nat.le_trans (Nat.min_le_left ..) (Nat.le_trans (Nat.div_le_self _ _) hx))) (by decide))
 ·exact lm _ (by rw[List.length_append,List.length_append,List.length_take,List.length_drop];exact Nat.le_trans (Nat.add_le_add (Nat.succ_le_succ (Nat.le_trans (Nat.min_le_left ..) (Nat.le_trans (Nat.div_le_self _ _) hx))) (Nat.le_trans (Nat.sub_le _ _) (Nat.le_trans (Nat.le_of_eq w8) hx))) (by decide))
 ·exact lm _ (by rw[List.length_append];exact Nat.le_trans (Nat.add_le_add_right hR 4) (by decide))
 ·rw[jz _ _ a,jz _ _ d,jz _ _ c,jz _ _ b]
end
end Mine.Internal.dU
end
section
open PySem PySem.Flt PySem.Float64 PyProof.Rows
set_option exponentiation.threshold 4000
namespace Mine.Internal.dU
noncomputable def nums(ns:List Int):List Int:=ns++ [1,2]
theorem EU(ns:List Int):vm ns=(nums ns).map .int:=by unfold vm nums;rw[List.map_append];rfl
noncomputable def xn(ns:List Int):List D:= [.list []]++four (nums ns)++four ((nums ns).drop 1)
theorem EV{Φ:Nat→List D→Option D}{σ:ah}{ns:List Int}(hn:ns.length≤63)(h1:σ 1=some (.list (vm ns)))(h5:σ 5=some (.list [.list []])): ∃σ',run Φ yI σ=some (.nx σ')∧σ' 5=some (.list (xn ns))∧σ' 3=σ 3∧σ' 4=σ 4:=by
 have hl:(nums ns).length≤65:=by unfold nums;rw[List.length_append];exact Nat.add_le_add_right hn 2
 have yc:(ar Φ (.tup (.cons (.var 1) (.cons (.rZ (.var 1) (.aL (.int 1)) .nil .nil) .nil)))).v σ=some (.tup [.list ((nums ns).map .int),.list (((nums ns).drop 1).map .int)]):=by
  rw[EU]at h1
  rw[List.map_drop]
  exact dO (aj h1 rfl) (w6 (k:=1) (aj h1 rfl) rfl rfl)
 unfold yI
 rw[mn,yc]
 obtain⟨σa,a1,a2,a3⟩:=xl (Φ:=Φ) (σ:=upd σ 6 (.list ((nums ns).map .int))) (xs:=nums ns) (R:= [.list []]) rfl h5 (Nat.le_trans hl (by decide)) (show 1≤100 by decide)
 obtain⟨σb,b1,b2,b3⟩:=xl (Φ:=Φ) (σ:=upd σa 6 (.list (((nums ns).drop 1).map .int))) (xs:=(nums ns).drop 1) (R:= [D.list []]++four (nums ns)) rfl a2 (by rw[List.length_drop];exact Nat.le_trans (Nat.sub_le _ _) (Nat.le_trans hl (by decide))) (show(([D.list []]:List D)++four (nums ns)).length≤100 from(by decide:5≤100))
 have st: ∀y,y=3∨y=4→σb y=σ y:=λy hy=>by
  have q:y≠5∧y≠8∧y≠9∧y≠10∧y≠6:=by rcases hy with rfl|rfl <;> decide
  rw[b3 y q.1 q.2.1 q.2.2.1 q.2.2.2.1,jz _ _ q.2.2.2.2,a3 y q.1 q.2.1 q.2.2.1 q.2.2.2.1,jz _ _ q.2.2.2.2]
 refine⟨σb,?_,b2,st 3 (.inl rfl),st 4 (.inr rfl)⟩
 show cV (run Φ Bm) (.one 6) [_,_] σ=_
 unfold cV
 rw[fQ,Option.bind_some,a1]
 show cV (run Φ Bm) (.one 6) [_] σa=_
 unfold cV
 rw[fQ,Option.bind_some,b1]
 rfl
theorem vR{xs:List Int}{d:D}(h:d∈yZ xs):(∃i,d= .int i)∨d= .str Cu:=by
 unfold yZ at h
 rcases List.mem_append.mp h with h|h
 ·rcases List.mem_append.mp h with h|h
  ·refine ai (List.mem_map.mp (List.mem_of_mem_take h)) λi _ QY=>?_
   subst QY
   exact .inl ⟨_,rfl⟩
  ·exact .inr (List.mem_singleton.mp h)
 ·refine ai (List.mem_map.mp (List.mem_of_mem_drop h)) λi _ QZ=>?_
  subst QZ
  exact .inl ⟨_,rfl⟩
inductive EW(P:List Int→Prop)(r:D):Prop
 |nil (e:r= .list [])
 |wh (xs:List Int) (h:P xs) (e:r= .list (IP xs))
 |tx (xs:List Int) (h:P xs) (e:r= .list (Sb xs))
 |ob (xs:List Int) (h:P xs) (e:r= .list (WJ xs))
 |mx (xs:List Int) (h:P xs) (e:r= .list (yZ xs))
theorem Cy{P:List Int→Prop}{xs:List Int}(h:P xs){r:D}(hr:r∈four xs):EW P r:=by
 simp only[four,List.mem_cons,List.not_mem_nil,or_false]at hr
 rcases hr with rfl|rfl|rfl|rfl
 ·exact .wh xs h rfl
 ·exact .tx xs h rfl
 ·exact .ob xs h rfl
 ·exact .mx xs h rfl
theorem Cz{P:List Int→Prop}{ns:List Int}(h1:P (nums ns))(h2:P ((nums ns).drop 1)){r:D}(hr:r∈xn ns):EW P r:=by
 unfold xn at hr
 rcases List.mem_append.mp hr with hr|hr
 ·rcases List.mem_append.mp hr with hr|hr
  ·exact .nil (List.mem_singleton.mp hr)
  ·exact Cy h1 hr
 ·exact Cy h2 hr
theorem EX{P:List Int→Prop}{r:D}(h:EW P r):Ef r:=by
 cases h with
 |nil e=>exact⟨_,e,λx hx=>by cases hx⟩
 |wh xs _ e=>exact⟨_,e,λx hx=>by obtain⟨i,_,rfl⟩:=List.mem_map.mp hx;exact .inl rfl⟩
 |tx xs _ e=>exact⟨_,e,λx hx=>by obtain⟨i,_,rfl⟩:=List.mem_map.mp hx;exact .inl rfl⟩
 |ob xs _ e=>exact⟨_,e,λx hx=>by obtain⟨i,_,rfl⟩:=List.mem_map.mp hx;exact .inr ⟨_,rfl⟩⟩
 |mx xs _ e=>exact⟨_,e,λx hx=>by rcases vR hx with⟨i,rfl⟩|rfl <;> exact .inl rfl⟩
theorem oj{R:D→D→Prop}: ∀{l l':List D},qT R l l'→ ∀x'∈l',∃x∈l,R x x'
 | [],_,h,x',hx=>by rw[show _=([]:List D)from h]at hx;cases hx
 |d::l,_,⟨d',t,e,r,h⟩,x',hx=>by
  subst e
  rcases List.mem_cons.mp hx with rfl|hx
  ·exact⟨d,List.mem_cons_self ..,r⟩
  ·refine ai (oj h x' hx) λx h1 h2=>?_
   exact⟨x,List.mem_cons_of_mem _ h1,h2⟩
theorem iU: ∀{l l':List D},qT Bo l l'→(∀d∈l,d.isList=false)→l'=l
 | [],_,h,_=>h
 |d::l,_,⟨d',t,e,r,h⟩,hl=>by
  subst e
  rcases r with⟨a,m,rfl,_⟩|⟨_,rfl⟩
  ·have:=hl _ (List.mem_cons_self ..);cases this
  ·rw[iU h λx hx=>hl x (List.mem_cons_of_mem _ hx)]
noncomputable def lP(d:D):Prop:=(∃i,d= .int i)∨(∃t,d= .str t)∨ ∃a m,d= .obj a m
structure rm(xs:List Int):Prop where
 len:xs.length≤65
 ne:xs.length≠0
 bits: ∀x∈xs,x.natAbs.log2≤1048576
theorem EY{x:Int}(h:x.natAbs.log2≤1048576):(WH x).natAbs.log2≤1048577:=by
 refine oh h ?_
 have f:x.fmod 3=(((x.fmod 3).toNat:Nat):Int)∧(x.fmod 3).toNat<3:=fm x 3 (by decide)
 have e:(qd*(x.fmod 3-1)).natAbs≤2^1024:=by
  rw[Int.natAbs_mul]
  have a:qd.natAbs=2^1024:=Int.natAbs_natCast _
  have b:(x.fmod 3-1).natAbs≤1:=by rw[f.1];rcases three f.2 with e|e|e <;> rw[e] <;> decide
  rw[a]
  exact Nat.le_trans (Nat.mul_le_mul_left _ b) (by rw[Nat.mul_one];exact Nat.le_refl _)
 have:=yV e
 rw[Nat.log2_two_pow]at this
 exact Nat.le_trans this (by decide)
theorem EZ{n:Nat}(h2:2≤n)(hn:n≤66):(n-1)/2<minRun' n n 0:=by
 obtain⟨k,rfl⟩: ∃k,n=k+2:=⟨n-2,(Nat.sub_add_cancel h2).symm⟩
 show _<minRun' (k+1+1) (k+2) 0
 rw[minRun'_succ]
 split
 ·exact ze (Nat.succ_ne_zero _)
 ·rw[minRun'_succ,if_pos (Nat.lt_of_le_of_lt (Nat.div_le_div_right hn) (by decide))]
  have ne:k+2≠0:=Nat.succ_ne_zero _
  generalize k+2=n at *
  rcases Nat.mod_two_eq_zero_or_one n with e|e
  ·rw[←kg ne e]
   exact Nat.lt_of_lt_of_le (Nat.sub_lt (Nat.div_pos (qg ne e) (by decide)) Nat.one_pos) (Nat.le_add_right _ _)
  ·rw[rD e,e]
   exact Nat.lt_succ_self _
theorem CA{xs:List Int}(h:rm xs):pK (yZ xs) (xs.length/2)∧(yZ xs).length=xs.length+1:=by
 have len:=h.len
 have ne:=h.ne
 have w:=rk xs
 have tl:((IP xs).take (xs.length/2)).length=xs.length/2:=by rw[List.length_take,w];exact Nat.min_eq_left (Nat.div_le_self _ _)
 have hlen:(yZ xs).length=xs.length+1:=by
  unfold yZ
  rw[List.length_append,List.length_append,tl,List.length_drop,w]
  rw[Nat.add_right_comm,Nat.add_sub_of_le (Nat.div_le_self _ _)];rfl
 have at_:(yZ xs)[xs.length/2]? =some (.str Cu):=by
  unfold yZ
  rw[List.append_assoc,List.getElem?_append_right (Nat.le_of_eq tl),tl,Nat.sub_self];rfl
 refine⟨⟨by rw[hlen];exact Nat.succ_le_succ (Nat.pos_of_ne_zero ne),⟨_,at_⟩,λi d hi e=>?_,?_⟩,hlen⟩
 ·unfold yZ at e
  rw[List.append_assoc]at e
  rcases Nat.lt_or_ge i (xs.length/2)with q|q
  ·rw[List.getElem?_append_left (by rw[tl];exact q)]at e
   obtain⟨j,_,rfl⟩:=List.mem_map.mp (List.mem_of_mem_take (List.mem_of_getElem? e))
   exact⟨_,rfl⟩
  ·rw[List.getElem?_append_right (by rw[tl];exact q),tl,jE (Nat.lt_of_le_of_ne q (Ne.symm hi)),List.singleton_append,List.getElem?_cons_succ]at e
   obtain⟨j,_,rfl⟩:=List.mem_map.mp (List.mem_of_mem_drop (List.mem_of_getElem? e))
   exact⟨_,rfl⟩
 ·rw[hlen]
  have:=EZ (n:=xs.length+1) (Nat.succ_le_succ (Nat.pos_of_ne_zero ne)) (Nat.succ_le_succ len)
  rw[Nat.add_sub_cancel]at this
  exact this
theorem CB{r r':D}(h:EW rm r)(c:wY r r'): ∃l,r'= .list l∧Good l∧l.length≤66∧ ∀d∈l,lP d:=by
 refine b8 c λl l' Q0 Q1 a=>?_
 subst Q0
 subst Q1
 have al:=a.length
 refine⟨l',rfl,?_⟩
 cases h with
 |nil e=>
  cases e
  rw[show l'= []from a]
  exact⟨Cj,Nat.zero_le _,λd hd=>by cases hd⟩
 |wh xs h e=>
  cases e
  have hs:l'=IP xs:=iU a λd hd=>by obtain⟨i,_,rfl⟩:=List.mem_map.mp hd;rfl
  subst hs
  have len:=h.len
  have ne:=h.ne
  have w:=rk xs
  refine⟨yX (by rw[w];exact Nat.le_succ_of_le len) (by rw[w];exact ne) (N:=1048577) (by decide) λd hd=>?_,by rw[w];exact Nat.le_succ_of_le len,λd hd=>?_⟩
  ·obtain⟨i,hi,rfl⟩:=List.mem_map.mp hd
   exact⟨_,rfl,EY (h.bits i hi)⟩
  ·refine ai (List.mem_map.mp hd) λi hi Q2=>?_
   subst Q2
   exact .inl ⟨_,rfl⟩
 |tx xs h e=>
  cases e
  have hs:l'=Sb xs:=iU a λd hd=>by obtain⟨i,_,rfl⟩:=List.mem_map.mp hd;rfl
  subst hs
  have len:=h.len
  have ne:=h.ne
  have w:(Sb xs).length=xs.length:=List.length_map _
  refine⟨vQ (by rw[w];exact Nat.le_succ_of_le len) (by rw[w];exact ne) λd hd=>?_,by rw[w];exact Nat.le_succ_of_le len,λd hd=>?_⟩
  ·obtain⟨i,hi,rfl⟩:=List.mem_map.mp hd
   have f:i.fmod 3=(((i.fmod 3).toNat:Nat):Int)∧(i.fmod 3).toNat<3:=fm i 3 (by decide)
   have g:i.fmod 1000=(((i.fmod 1000).toNat:Nat):Int)∧(i.fmod 1000).toNat<1000:=fm i 1000 (by decide)
   exact⟨_,rfl,Nat.le_trans (IQ g.2) (by decide),EL f.2 g.2⟩
  ·refine ai (List.mem_map.mp hd) λi hi Q3=>?_
   subst Q3
   exact .inr (.inl ⟨_,rfl⟩)
 |ob xs h e=>
  cases e
  have len:=h.len
  have ne:=h.ne
  have w:(WJ xs).length=xs.length:=List.length_map _
  have ho: ∀d∈l',∃a m,d= .obj a m:=λd hd=>by
   refine ai (oj a d hd) λx hx c=>?_
   refine ai (List.mem_map.mp hx) λi _ Q4=>?_
   subst Q4
   rcases c with⟨b,m,_,e⟩|⟨e,_⟩
   ·exact⟨b,m,e⟩
   ·cases e
  rw[w]at al
  have Q5:l'.length≤66:=by rw[al];exact Nat.le_succ_of_le len
  exact⟨yY Q5 (by rw[al];exact ne) ho,Q5,λd hd=> .inr (.inr (ho d hd))⟩
 |mx xs h e=>
  cases e
  have hs:l'=yZ xs:=iU a λd hd=>by rcases vR hd with⟨i,rfl⟩|rfl <;> rfl
  subst hs
  refine aX (CA h) λm1 m2=>?_
  have len:=h.len
  have Q5:(yZ xs).length≤66:=by rw[m2];exact Nat.succ_le_succ len
  exact⟨vP m1 (Nat.le_trans Q5 (by decide)),Q5,λd hd=>by
   rcases vR hd with⟨i,rfl⟩|rfl
   ·exact .inl ⟨_,rfl⟩
   ·exact .inr (.inl ⟨_,rfl⟩)⟩
end Mine.Internal.dU
end
section
open PySem PySem.Flt PySem.Float64 PyProof.Rows
set_option exponentiation.threshold 4000
namespace Mine.Internal.dU
theorem y5{d:D}(h:lP d):dq (dq d)=dq d:=by
 rcases h with⟨i,rfl⟩|⟨t,rfl⟩|⟨a,m,rfl⟩ <;> rfl
theorem E0{d:D}(h:lP d):xE 4 (dq d) (dq d)=some true:=by
 rcases h with⟨i,rfl⟩|⟨t,rfl⟩|⟨a,m,rfl⟩
 ·exact congrArg some (beq_self_eq_true i)
 ·exact congrArg some (beq_self_eq_true t)
 ·show(if 1=1 then eP (xE 3) [.int m] [.int m]else some false)=_
  rw[if_pos rfl]
  exact tG (y:=true) (show xE 3 (.int m) (.int m)=some true from congrArg some (beq_self_eq_true m)) rfl
theorem CC{Φ:Nat→List D→Option D}{σ:ah}{l:List D}(h7:σ 7=some (.list l))(hl:l.length≤66)(hb: ∀d∈l,lP d):run Φ tF σ=some (.nx (upd σ 11 (.list (l.map dq)))):=by
 unfold tF
 have:(ar Φ (.comp (.oC (.cmp .Is (.bi .type (.cons (.var 17) .nil)) (.tW "list")) (.bi .list (.cons (.var 17) .nil)) (.var 17)) (.one 17) (.var 7) .nil .nil)).v σ=some (.list (l.map dq)):=by
  refine comp_map (e:=id) (d:= .list l) (aj h7 rfl) (by simp) (Nat.le_trans hl (by decide)) λd hd=>?_
  rcases hb d hd with⟨i,rfl⟩|⟨t,rfl⟩|⟨a,m,rfl⟩
  ·exact jA (bz (bt (aj (d:= .int i) rfl rfl) rfl) rfl rfl) (aj rfl rfl)
  ·exact jA (bz (bt (aj (d:= .str t) rfl rfl) rfl) rfl rfl) (aj rfl rfl)
  ·exact kY (bz (bt (aj (d:= .obj a m) rfl rfl) rfl) rfl rfl) (bt (aj (d:= .obj a m) rfl rfl) rfl)
 rw[iS,this];rfl
theorem y6{Φ:Nat→List D→Option D}{σ:ah}{l:List D}(h7:σ 7=some (.list l))(WM:σ 11=some (.list (l.map dq)))(hb: ∀d∈l,lP d):(ar Φ (.cmp .NotEq (.var 7) (.var 11))).t σ=some false:=by
 have h2:(l.map dq).map dq=l.map dq:=by
  rw[List.map_map]
  exact List.map_congr_left λd hd=>y5 (hb d hd)
 have:IZ (.list (l.map dq)) (.list (l.map dq))=some true:=by
  show(if(l.map dq).length=(l.map dq).length then eP (xE 4) (l.map dq) (l.map dq)else some false)=_
  rw[if_pos rfl]
  refine vr 4 _ λd hd=>?_
  refine ai (List.mem_map.mp hd) λx hx Q6=>?_
  subst Q6
  exact E0 (hb x hx)
 refine bz (aj h7 rfl) (aj WM rfl) ?_
 rw[Eo,h2,this];rfl
section
variable{a1 a2 a3:Addr}{xs:List Addr}{σ:ah}{l:List D}
theorem E4(hx:xs.length=7)(h4:σ 4=some (.list (lW a1 a2 a3 xs)))(h7:σ 7=some (.list l))(WM:σ 11=some (.list (l.map dq)))(hb: ∀d∈l,lP d){d0 d1 d2:D}{ds:List D}(h12:σ 12=some (.list ([d0,d1,d2]++ds)))
  (g0:iB yu l d0) (g1:iB pS l d1) (g2:iB yv l d2) (gw:GoodW l ds) {k:Nat} (hk:k<10) (Yo:σ 13=some (.int (k:Int))):tE Φ4 (qV a1 a2 a3 xs) σ:=by
 have key: ∀(a:Addr) (R:List D→Res→Prop) (oR:D),(lW a1 a2 a3 xs)[k]? =some (.fn a)→qV a1 a2 a3 xs a R→([d0,d1,d2]++ds)[k]? =some oR→iB R l oR→tE Φ4 (qV a1 a2 a3 xs) σ:=λa R oR e1 hR e2 ⟨r,hr,f⟩=>
  ⟨l,a,R,r,oR,h7,bu (aj h4 rfl) (aj Yo rfl) (item_at e1),hR,hr,f.rv,bu (aj h12 rfl) (aj Yo rfl) (item_at e2),f.di,f.same,y6 h7 WM hb⟩
 rcases(Nat.lt_or_ge k 3).imp three id with(rfl|rfl|rfl)|h
 ·exact key a1 yu d0 rfl (.inl ⟨rfl,rfl⟩) rfl g0
 ·exact key a2 pS d1 rfl (.inr (.inl ⟨rfl,rfl⟩)) rfl g1
 ·exact key a3 yv d2 rfl (.inr (.inr (.inl ⟨rfl,rfl⟩))) rfl g2
 ·obtain⟨i,rfl⟩: ∃i,k=i+3:=⟨k-3,(Nat.sub_add_cancel h).symm⟩
  have hi:i<xs.length:=by rw[hx];exact Nat.lt_of_add_lt_add_right (n:=3) hk
  have hw:i<lV.length:=Nat.lt_of_add_lt_add_right (n:=3) hk
  refine ai (gw.wid i lV[i] (List.getElem?_eq_getElem hw)) λd e g=>?_
  have ex:xs[i]? =some xs[i]:=List.getElem?_eq_getElem hi
  refine key xs[i] (A0 lV[i]) d ?_ (.inr (.inr (.inr ⟨i,_,ex,List.getElem?_eq_getElem hw,rfl⟩))) ?_ g
  ·show(xs.map D.fn)[i]? =_
   rw[List.getElem?_map,ex];rfl
  ·exact e
theorem E5(hx:xs.length=7)(h3:σ 3=some (.list iy))(h4:σ 4=some (.list (lW a1 a2 a3 xs)))(h7:σ 7=some (.list l))(g:Good l)(hl:l.length≤66)(hb: ∀d∈l,lP d):
  ∃σ',run Φ4 (Pk (qV a1 a2 a3 xs)) σ=some (.nx σ')∧σ' 3=some (.list iy)∧σ' 4=some (.list (lW a1 a2 a3 xs)):=by
 refine Sf g λd0 d1 d2 ds hd uA g0 g1 g2 gw=>?_
 unfold Pk
 have hal:(lW a1 a2 a3 xs).length=10:=by
  unfold lW
  rw[List.length_append,List.length_map,hx];rfl
 have hs: ∀ρ:ah,ρ 4=some (.list (lW a1 a2 a3 xs))→(ar Φ4 qz).v ρ=some (.Ff 0 10 1):=λρ h=>by
  refine bt (bt (aj h rfl) (nR _)) ?_
  rw[hal];exact pW (by decide)
 obtain⟨σ',r,i3,i4,_⟩:=tH (f:=run Φ4 (.Ru (nM Φ4 (qV a1 a2 a3 xs)))) (x:=13) 10 (λi=>D.int (i:Int)) (λ_ σ=>σ 3=some (.list iy)∧σ 4=some (.list (lW a1 a2 a3 xs))∧σ 7=some (.list l)∧σ 11=some (.list (l.map dq))∧σ 12=some (.list ([d0,d1,d2]++ds))) (σ:=upd (upd σ 11 (.list (l.map dq))) 12 (.list ([d0,d1,d2]++ds))) ⟨h3,h4,h7,rfl,rfl⟩ λk τ hk ⟨u3,u4,u7,Yp,Yq⟩=>
  ⟨upd (upd τ 13 (.int (k:Int))) 14 .any,congrArg (Option.map Out.nx) (yG _ _ (E4 hx (σ:=upd τ 13 (.int (k:Int))) u4 u7 Yp hb Yq g0 g1 g2 gw hk rfl)),u3,u4,u7,Yp,Yq⟩
 refine⟨σ',dK (CC h7 hl hb) (cu (nU (aj h7 rfl) (aj h3 rfl) rfl rfl hd) (dK ?_ rfl)),i3,i4⟩
 rw[mn,hs (upd (upd σ 11 (.list (l.map dq))) 12 (.list ([d0,d1,d2]++ds))) h4,Option.bind_some,tI (b:=(10:Int)) 10 rfl (by decide)]
 exact r
end
theorem vo(ns:List Int)(hn:ns.length≤63)(hb: ∀n∈ns,n.natAbs.log2<2^20)(a1 a2 a3:Addr)(xs:List Addr)(hx:xs.length=7):Bt (qV a1 a2 a3 xs) (σ4 ns a1 a2 a3 xs):=by
 have q1:σ4 ns a1 a2 a3 xs 1=some (.list (vm ns)):=rfl
 have q3:σ4 ns a1 a2 a3 xs 3=some (.list iy):=rfl
 have q4:σ4 ns a1 a2 a3 xs 4=some (.list (lW a1 a2 a3 xs)):=rfl
 generalize σ4 ns a1 a2 a3 xs=σ at q1 q3 q4
 refine jD (EV (Φ:=Φ4) (σ:=upd σ 5 (.list [.list []])) hn q1 rfl) λσ6 r6 s5 s3 s4=>?_
 have s3:σ6 3=some (.list iy):=s3.trans q3
 have s4:σ6 4=some (.list (lW a1 a2 a3 xs)):=s4.trans q4
 have bits: ∀x∈nums ns,x.natAbs.log2≤1048576:=λx hx=>by
  unfold nums at hx
  rcases List.mem_append.mp hx with h|h
  ·exact Nat.le_of_lt (Nat.lt_of_lt_of_le (hb x h) (by decide))
  ·simp only[List.mem_cons,List.not_mem_nil,or_false]at h
   rcases h with rfl|rfl <;> decide
 have len:(nums ns).length=ns.length+2:=by unfold nums;rw[List.length_append];rfl
 have p1:rm (nums ns):=⟨by rw[len];exact Nat.add_le_add_right hn 2,by rw[len];exact Nat.succ_ne_zero _,bits⟩
 have p2:rm ((nums ns).drop 1):=⟨by rw[List.length_drop,len];exact Nat.le_trans (Nat.succ_le_succ hn) (by decide),by rw[List.length_drop,len];exact Nat.succ_ne_zero _,λx hx=>bits x (List.mem_of_mem_drop hx)⟩
 refine⟨σ6,xn ns,r6,s5,λr hr=>EX (Cz p1 p2 hr),λeI c=>?_⟩
 unfold wZ
 have hv:(ar Φ4 (.var 5)).v (upd σ6 5 (.list eI))=some (.list eI):=aj rfl rfl
 obtain⟨σ7,r7,_⟩:=pY (f:=run Φ4 (Pk (qV a1 a2 a3 xs))) (t:= .one 7) eI (λ_ σ=>σ 3=some (.list iy)∧σ 4=some (.list (lW a1 a2 a3 xs))) (σ:=upd σ6 5 (.list eI)) ⟨s3,s4⟩ λi d τ e ⟨u3,u4⟩=>by
  refine ai (oj c d (List.mem_of_getElem? e)) λr hr cr=>?_
  refine jD (CB (Cz p1 p2 hr) cr) λl Q7 g hl hbs=>?_
  subst Q7
  refine bK (E5 (σ:=upd τ 7 (.list l)) hx u3 u4 rfl g hl hbs) λσ' h1 h2 h3=>?_
  exact⟨_,σ',rfl,h1,h2,h3⟩
 refine⟨σ7,?_⟩
 rw[mn,hv,Option.bind_some,vq,Option.bind_some,r7]
end Mine.Internal.dU
end
open PySem PySem.W PyProof.Rows
set_option maxRecDepth 100000 in
set_option maxHeartbeats 8000000 in
theorem PySem.Challenge.cw_dn0166_12_holds : PySem.Challenge.rw_dn0166_12.Holds := by
 w_on;o_law;o_head Mine.Internal.dU.hook;(case hw=>w_witness2)
 exact Mine.Internal.dU.H9 ⟨by kernel_rfl,by kernel_rfl,⟨1,by kernel_rfl⟩,⟨2,by kernel_rfl⟩,⟨0,by kernel_rfl⟩,⟨4,by kernel_rfl⟩,⟨5,by kernel_rfl⟩,⟨6,by kernel_rfl⟩,⟨7,by kernel_rfl⟩,⟨8,by kernel_rfl⟩,⟨3,by kernel_rfl⟩,⟨9,by kernel_rfl⟩⟩ (by kernel_rfl) Mine.Internal.dU.vo
