import PyProof.Rows.All
import Wide.All
import OpenK.AllK
import Wide.FinOn
import KE.KLam
import KE.KSuperObj
import PyProof.GenQ
import PyProof.JoinWalk
import OpenK.KMake
import PyProof.ListNew
import KE.KStopIter
import PyProof.CollectWalk
import OpenK.KWalk
import Lean
import PySem.Challenge.RW_om0176_01
open List renaming length_cons → KJ, length_map → KN, length_append → KR, mem_cons → KZ, range → K7, mem_map → K9, all_eq_true → La, getElem?_eq_getElem → Lb, getElem?_eq_some_iff → Ld, getElem?_map → Lf, append_nil → Lg, map_cons → Li, append_assoc → Lj, length_singleton → Ln, map_map → Lq, all_cons → Lw, length_nil → LC, replicate → Mg, getD_eq_getElem?_getD → Mh, nil_append → Mj, flatMap_cons → Ml, length_take → Mr, length_eq_zero_iff → Mt, sum_cons → Mw, length → Mx, mem_singleton → MJ, mem_range → MK, map_congr_left → MN, not_mem_nil → M4, exists_cons_of_ne_nil → M5, contains_iff_mem → M6, all_nil → M7, nodup_cons → Ng, mem_append → Nh, length_drop → Ni, getElem?_drop → Nj, tail_drop → Nv, pairwise_cons → Ny, mem_of_mem_drop → Nz, map_append → NB, forIn_cons → NK, drop_eq_nil_of_le → NP, count_cons → NQ, mem_of_getElem? → Oa, mem_append_right → Ob, map_nil → Oc, map → Od, lookup → Oe, getElem?_set_ne → Og, getElem?_append_left → Oh, forIn_nil → Oi, mem_reverse → Ox, mem_flatMap → Oz, length_set → OD, length_pos_iff → OJ, getElem?_eq_none → O1, take_length → O6, mem_append_left → O7, map_id → O8, lookup_cons → O9, getElem?_set_self → Pb, getElem?_cons_succ → Pg, drop_zero → Ph, drop_drop → Pj, count_pos_iff → Pk, take_left → PP, take_add_one → PQ, getElem?_append_right → PT, drop_succ_cons → PX, cons_append → Qa, any_cons → Qc, zip_nil_right → QB, zip_cons_cons → QC, zipIdx_cons → QD, mem_zipIdx_iff_getElem? → QF, mem_of_mem_take → QG, map_drop → QH, length_range → QJ, isEmpty_eq_false_iff → QK, getElem_mem → QL, getElem?_take_of_lt → QM, getElem?_range → QQ, getElem?_cons_zero → QR, flatMap_nil → QS, flatMap_append → QT, filterMap_cons → QV, ext_getElem? → QW, exists_cons_of_length_eq_add_one → QX, drop_left → QZ, cons_ne_nil → Q0, any_eq_false → Q3, zip_nil_left → Rw, take_of_length_le → Rx, takeWhile_cons → Ry, replicate_succ → Rz, mem_replicate → RB, map_take → RC, map_replicate → RD, map_inj_left → RG, length_take_le → RJ, length_reverse → RK, isEmpty_nil → RL, isEmpty_iff → RM, getElem?_take → RN, foldl_cons → RP, filter_eq_self → RQ, extract_eq_take_drop → RT, drop_eq_getElem_cons → RV, count_eq_zero → RW, count_append → RZ, any_eq_true → R3, all_append → R5
open Nat renaming le_trans → KQ, le_refl → K3, zero_le → K5, lt_of_lt_of_le → Lk, zero_add → Lr, le_of_ble_eq_true → Ly, le_of_eq → LK, le_add_right → LQ, add_assoc → LR, not_lt_zero → Ma, add_comm → Mf, add_le_add_left → Mi, succ_le_succ → Mm, lt_irrefl → Mq, ne_of_lt → Mu, lt_succ_self → Mv, succ_pos → My, add_le_add_right → Mz, add_le_add → MF, sub_le → MP, not_lt → MT, le_succ → M3, one_mul → M9, le_of_lt → Nb, add_zero → Nf, ne_of_gt → Nq, min_le_right → Nr, le_add_left → Nt, beq → Nu, mul_comm → NZ, lt_of_le_of_lt → N5, ble → N6, add_sub_cancel' → N7, add_right_comm → N8, mul_le_mul → Ot, lt_of_sub_pos → Ou, lt_of_not_le → Ov, add_sub_cancel_left → Ow, add_mul → O5, two_mul → PB, sub_zero → PJ, sub_self → PK, mul_one → PL, lt_add_of_pos_right → PN, mul_le_mul_left → Qm, min_le_left → Qn, min_eq_right → Qo, min_eq_left → Qp, max_le → Qq, le_zero → Qs, le_sub_of_add_le' → Qt, le_of_succ_le_succ → Qu, le_of_succ_le → Qv, le_of_not_lt → Qw, le_antisymm → Qx, eq_of_beq_eq_true → Qy, add_sub_cancel → Qz, succ_pred_eq_of_pos → Rd, succ_ne_zero → Rf, succ_lt_succ → Rg, sub_right_comm → Rh, sub_pos_of_lt → Ri, sub_le_sub_left → Rj, sub_eq_zero_of_le → Rk, sub_eq_zero_iff_le → Rm, mul_le_mul_right → Rn, lt_succ_of_lt → Ro, le_succ_of_le → Rp, le_of_lt_succ → Rq, add_lt_add_right → Rr, add_lt_add_left → Ru, add_le_of_le_sub' → Rv
open PySem.Str renaming ofString → KY
open Int renaming fmod → K6, fdiv → K8, natCast_nonneg → Nk, toNat → Qd, ofNat_le → Qe, lt_of_lt_of_le → Qf, fmod_nonneg_of_pos → Qg, fmod_lt_of_pos → Qh, toNat_natCast → Q4, ofNat_lt → Q5, not_lt → Q6, lt_of_le_of_lt → Q7, toNat_of_nonneg → R6, natCast_pos → R7, fmod_eq_emod_of_nonneg → R8, eq_ofNat_of_zero_le → R9
open Exists renaming intro → Lh
open Array renaming length_toList → Lp, toList_push → Oo, toList_append → Oq, size_push → Py, size_extract → Qj, toList_inj → Q8, getElem?_eq_some_iff → Q9, getElem?_eq_getElem → Ra, getD_eq_getD_getElem? → Rb, ext' → Rc, toList_eraseIdxIfInBounds → Sd, size_eq_zero_iff → Sh, replicate → Sq, getElem?_eq_none → Ss, eq_empty_of_size_eq_zero → Su
open Bool renaming and_eq_true → Lx, eq_iff_iff → Np, false_ne_true → NT, not_eq_true' → Oj, and_true → Ol, and_self → Om, false_eq_true → O2, and_false → O3, true_and → Pq, or_eq_true → Pr, and_eq_true_iff → Px, false_or → Qi
open Option renaming map_eq_some_iff → M8, bind_some → O4, isSome_iff_exists → Pz, isSome_none → Qk, bind_eq_some_iff → Ql
open PySem PySem.W PyProof.Rows
set_option Elab.async false
set_option maxRecDepth 100000
set_option genSizeOf false
set_option genSizeOfSpec false
set_option compiler.extract_closed false
set_option linter.all false
namespace Mine
theorem zo1{n j m:Nat}(h:n-j=m+1):j<n:=Ou (h▸My m)
theorem zo2{n j m:Nat}(h:n-j=m+1):n-(j+1)=m:=congrArg Nat.pred h
theorem zo3{N p k n:Nat}(h:N-p<=n+1)(h1:p<k):N-k<=n:=KQ (Rj h1 N) (Nat.sub_le_sub_right h 1)
theorem zo4{a b c:Nat}(h:c=b)(k:a<b):a<c:=h▸k
theorem zo5{k r n:Nat}(h:k+(r+1)=n):k+1+r=n:=(N8 k 1 r).trans h
theorem zo6{k r n:Nat}(h:k+(r+1)=n):k<n:=h▸PN (My r)
theorem zo8{a r n:Nat}(h:a+(r+1)<=n):a<n:=Lk (PN (My r)) h
theorem zo9{a n:Nat}(h:a<n)(k:¬ a+1<n):a+1=n:=Qx h (Qw k)
theorem zq1{p n q m c:Nat}(h:n<=m)(k:m+m<=c):min p n+(n-q)<=c:=KQ (MF (KQ (Nr p n) h) (KQ (MP n q) h)) k
theorem zq2{p q n m c:Nat}(h:n<=m)(k:m<=c):min q n-p<=c:=KQ (MP _ p) (KQ (Nr q n) (KQ h k))
theorem zq4{p u l t:Nat}(h:p+(u+(l+1))=t):u<t+1-p:=Nat.lt_sub_of_add_lt (h▸Nat.lt_succ_of_le (KQ (LK (Mf u p)) (Mi (LQ u _) p)))
theorem zq5{w m c:Nat}(h:w<=m)(k:0<m/\m<=c):w-1+1<=c:=match w,h with
 | 0,_=>KQ k.1 k.2
 | _+1,h=>KQ h k.2
theorem zq6{r n s:Nat}(h:r+1<=n+1):r-s<=n:=KQ (MP r s) (Qu h)
theorem zq7{i r s n:Nat}(h:i+(r+1)=n)(k:s<r):i+1+s+(r-s)=n:=by rw[LR (i+1),N7 (Nb k)];exact zo5 h
theorem zq8{p u l t:Nat}(h:p+(u+(l+1+1))=t):2<=t-p:=Qt (h▸Mi (KQ (Nt 2 l) (Nt (l+2) u)) p)
theorem zq9{p u l t:Nat}(h:p+(u+(l+1))=t):1<=t-p:=Qt (h▸Mi (KQ (Nt 1 l) (Nt (l+1) u)) p)
theorem zqa{n p:Nat}{Z:Prop}(k:p<n)(h:n-p<=0):Z:=absurd (Ri k) (MT.mpr h)
theorem zqb{n j:Nat}(h:n-j=0)(k:j<=n):j=n:=Qx k (Rm.mp h)
theorem zqc{n j:Nat}{Z:Prop}(k:j<n)(h:n-j=0):Z:=zqa k (LK h)
theorem zqh{k n:Nat}(h:k<n):n=k+(n-k):=(N7 (Nb h)).symm
theorem zqi{m n:Nat}(h:m+1<=n):n=n-1+1:=(Rd (Lk (My m) h)).symm
theorem zqj{a k n:Nat}(h:a+(k+1)<=n):a<min (a+(k+1)) n:=Nat.lt_min.mpr ⟨PN (My k),zo8 h⟩
theorem zqk{i k:Nat}(h:¬ i<k)(g:i<k+1):i=k:=Qx (Rq g) (Qw h)
theorem zql{j k:Nat}(g:j<k+1)(h:¬ j=k):j<k:=Nat.lt_of_le_of_ne (Rq g) h
theorem zqm{a b c:Nat}(h:a=b)(k:b<c):a<c:=h▸k
theorem zqn{y k m:Nat}(h:y<k):y<k+m:=Lk h (LQ k m)
theorem zqq{a b c:Nat}(h:¬ c<=a-b):a<b∨a-b<c:=.inr (Ov h)
theorem zqr{a b c:Nat}(h:c<=a-b)(k:b<=a):¬ (a<b∨a-b<c):=λx=>x.elim (λx=>absurd x (MT.mpr k)) λx=>absurd x (MT.mpr h)
theorem zqs{i k n:Nat}(h:i<min k n):i<k:=Lk h (Qn k n)
theorem zqt{i n m:Nat}{c:Int}(k:i<n)(h:n<=m)(e:(m:Int)<=c):(i:Int)<c:=Qf (Q5.mpr (Lk k h)) e
theorem zqu{m l a:Nat}(h:m<=l)(k:¬ a<=l):m<=min a l:=Nat.le_min.mpr ⟨KQ h (Nb (Ov k)),h⟩
theorem zqv{u k b c:Nat}(h:u+20*(b+1)+200<c)(e:k<=20):u+k+20*b+200<c:=N5 (Mz (KQ (LK (LR u k (20*b))) (Mi (KQ (LK (Mf k (20*b))) (Mi e (20*b))) u)) 200) h
theorem zqw{d b r:Nat}(h:d+(b+1)+150<r):d+1+b+150<r:=(N8 d 1 b).symm▸h
theorem zqx{d b r:Nat}(h:d+(b+2)+150<r):d+(b+1)+150<r:=N5 (Mz (Mi (M3 (b+1)) d) 150) h
theorem zqy{k x:Nat}(h:x<=k)(z:k<2 ^ 62) : -(2 ^ 62)<(x:Int)/\(x:Int)<2 ^ 62:=⟨Qf (by decide) (Nk x),Q5.mpr (N5 h z)⟩
theorem zqz{x:Nat}{c:Int}(h:c<0):c<(x:Int):=Qf h (Nk x)
theorem zr1{a b k:Nat}(h:a+b<=k):b<=k-a:=Qt h
theorem zr2{a b c:Nat}(h:b<c-a):a+b<c:=Nat.add_lt_of_lt_sub' h
theorem zr3{x:Int}{m:Nat}(h:0<=x)(k:x<m):x.toNat<m:=(Int.toNat_lt h).mpr k
theorem zr4{n p a b c:Nat}(h:n-p=a+b)(k:b=c+1):p+a+1<=n:=by subst k;exact Rv (n:=a+1) (Nb (zo1 (m:=a+c) h)) (by rw[h];exact Mi (Nt 1 c) a)
theorem zr5{n p a b:Nat}(k:p<=n)(h:n-p=a+b):p+a<=n:=Rv k (h▸LQ a b)
theorem zr6{S L a k c:Nat}(h:S<=L*(c+k))(g:a<=c):a+k+S<=L*(c+k)+1*(c+k):=KQ (MF (Mz g k) h) (LK (by rw[M9,Mf]))
theorem zr7{l m M vs ws:Nat}(h:l+m<=M)(a:vs=l)(b:ws=m):vs+ws<=M:=a▸b▸h
theorem zr8{a b c r:Nat}(h:a+(r+1)<=c)(k:b<=a+1):b+r<=c:=KQ (Mz k r) (KQ (LK (N8 a 1 r)) h)
theorem zr9{p a l j t:Nat}(h:p+(a+l)=t)(k:j<a):p+j<t:=h▸Ru (Lk k (LQ a l)) p
theorem zs1(i n:Nat):max (0:Int) (min (i:Int) n)=((min i n:Nat):Int):=(Int.max_eq_right (Int.le_min.mpr ⟨Nk i,Nk n⟩)).trans ((Nat.le_total i n).elim (λh=>(Int.min_eq_left (Qe.mpr h)).trans (congrArg Int.ofNat (Qp h)).symm) λh=>(Int.min_eq_right (Qe.mpr h)).trans (congrArg Int.ofNat (Qo h)).symm)
theorem zp0{n:Nat}:n<=n:=K3 n
theorem zp1{n m:Nat}:n-m<=n:=MP n m
theorem zp2{a b c:Nat}(h:a<=c):a-b<=c:=KQ (MP a b) h
theorem zp3{a b c:Nat}(h:a=b)(k:b<=c):a<=c:=h▸k
theorem zp4{a b c:Nat}(h:a<b)(k:b<=c):a<=c:=KQ (Nb h) k
theorem zp5{a b c:Nat}(h:a<=b)(k:b+1<=c):a+1<=c:=KQ (Mm h) k
theorem zp6{a b c:Nat}(h:a<=b)(k:b+1+1<=c):a+1+1<=c:=zp5 (Mm h) k
theorem zp7{a r n c:Nat}(h:a+(r+1)<=n)(k:n<=c):a<c:=Lk (zo8 h) k
theorem zp9{a b c:Nat}(h:b<=c):a+b<=a+c:=Mi h a
theorem zaa{n:Nat}:n<=n-1+1:=Nat.sub_le_iff_le_add.mp (K3 _)
theorem zab{w m k c:Nat}(h:w<=m)(e:m+1<=c):¬ c<w-k+1+0:=MT.mpr (KQ (Mm (KQ (MP w k) h)) e)
theorem zac{n j:Nat}(h:¬ j<n):n-j=0:=Rk (Qw h)
theorem zad{a b j:Nat}(h:a=b)(k:b-j=0):a<=j:=h▸Rm.mp k
theorem zae{S L X x:Nat}(h:S<=L*X)(g:x<=X):0+x+S<=L*X+1*X:=KQ (MF (KQ (LK (Lr x)) g) h) (LK (by rw[M9,Mf]))
theorem zaf{n p:Nat}(h:n+1<p+1):n<p-1+1:=Lk (Nat.lt_of_succ_lt_succ h) zaa
theorem zag{u b c k:Nat}(h:u+20*b+200<c)(e:k<=200):u+k<c:=N5 (MF (LQ u _) e) h
theorem zah{a b d S T:Nat}(h:b<=d)(g:S<=T):a+b+S<=a+d+T:=MF (Mi h a) g
theorem zai{n:Nat}(h:n % 2=1):(n+1) % 2=0:=by rw[Nat.add_mod,h]
theorem zaj{n:Nat}(h:n % 2=0):(n+1) % 2=1:=by rw[Nat.add_mod,h]
theorem zak{n k:Nat}(h:¬ n<=k):n=k+(n-k):=zqh (Ov h)
theorem zal{m n:Nat}(h:m<n):n=n-1+1:=zqi h
theorem zam{n p x:Nat}(h:n-p=x)(e:x=0)(k:p<=n):p=n:=zqb (h.trans e) k
theorem zan{i a b c:Int}(h:a<i/\i<b)(e:c<=a):c<i:=Q7 e h.1
theorem zao{i a b c d:Int}(h:a<i/\i<b)(e:c<=a/\b<=d):c<=i/\i<d:=⟨Int.le_of_lt (Q7 e.1 h.1),Qf h.2 e.2⟩
theorem zap{d b r k:Nat}(h:d+b+150<r)(e:k<=150):d+k<r:=N5 (MF (LQ d b) e) h
theorem zaq{d b r:Nat}(h:d+b+150<r):d<r:=zap (k:=0) h (K5 _)
theorem zar{u b b' c:Nat}(h:u+20*b'+200<c)(g:b<=b'):u+20*b+200<c:=N5 (Mz (Mi (Qm 20 g) u) 200) h
theorem zas{d b b' r:Nat}(h:d+b'+150<r)(g:b<=b'):d+b+150<r:=N5 (Mz (Mi g d) 150) h
theorem zat{u b c:Nat}(h:u+20*(b+2)+200<c):u+1+1+20*(b+1)+200<c:=zqv (b:=b+1) (k:=2) h (by decide)
theorem zau{u b c:Nat}(h:u+20*(b+1)+200<c):u+1+1+1+0+3+20*b+200<c:=zqv (k:=6) h (by decide)
theorem zav{p u l t j:Nat}(h:p+(u+l)=t)(k:p+j<p+u):p+j<t:=Lk k (h▸Mi (LQ u l) p)
theorem zaw{a b c:Nat}(h:¬ c<=a):a<b∨a-0<c:=.inr (Ov h)
theorem zax{S m k n o:Nat}(e:S=m)(h:k+(n+1)=o)(g:o<m):k<S:=e▸Nat.lt_trans (zo6 h) g
theorem zay{x m c:Nat}(h:x<m)(e:m<=c):x+0+0<c:=Lk h e
theorem zba{g n:Nat}(h:2*g<n):2*(g+1)<n+1+1:=Rr h 2
theorem zbb{p n:Nat}:min p n<=p:=Qn p n
theorem zbc{a k n:Nat}(h:a+(k+1)<=n):a+1+k<=n:=KQ (LK (N8 a 1 k)) h
theorem zbd{m t c:Nat}(h:m<=t)(e:c<=m):c<=t:=KQ e h
theorem zbe{t a:Nat}(h:t=a+1):0<t:=h▸My a
theorem zbf{k n m:Nat}(h:k=n):n+1+m<=k+(1+m):=by subst h;exact LK (LR k 1 m)
theorem zbg{k n m:Nat}(h:k=n):n<k+(1+m):=by subst h;exact Lk (Mv k) (Mi (LQ 1 m) k)
theorem zbh{a b m:Nat}(h:a+b=m):a+1+b=m+1:=(N8 a 1 b).trans (congrArg (· + 1) h)
theorem zbi{a n m:Nat}{c:Int}(e:a=n)(h:n<=m)(d:(m:Int)<c):(a:Int)<c:=Q7 (Qe.mpr (e▸h)) d
theorem zbj{m l a:Nat}(h:m<=l)(k:¬ a<=l):m<=a:=KQ h (Nb (Ov k))
theorem zbk{p u l t:Nat}(h:p+(u+(l+1))=t):p+u<t:=h▸Ru (PN (My l)) p
theorem zbl{w n N:Nat}(h:w+4*(n+1)<=N):w+1+1+1+1+4*n<=N:=KQ (LK ((LR w 4 (4*n)).trans (congrArg (w + ·) (Mf 4 (4*n))))) h
theorem zbm{t s k m c:Nat}(e:t=s+k)(h:s<=m)(d:m+k<=c):t<=c:=e▸KQ (Mz h k) d
theorem zbn{a k m c:Nat}(h:a<=m)(d:m+k<=c):a+k<=c:=KQ (Mz h k) d
theorem zbo{t s m c:Nat}(e:t=s)(h:s<=m)(d:m<=c):t<=c:=e▸KQ h d
theorem zbp{a b m c:Nat}(h:a+b<=m)(d:m<=c):a<=c:=KQ (LQ a b) (KQ h d)
theorem zbq{a b m c:Nat}(h:a+b<=m)(d:m<=c):b<=c:=KQ (Nt b a) (KQ h d)
theorem zbr{a b m c:Nat}(h:a+(b+1)<=m)(d:m<=c):a+b<=c:=KQ (M3 _) (KQ h d)
theorem zbs{a k m c:Nat}(h:a<m)(d:m+k<=c):a+k<c:=Lk (Rr h k) d
theorem e0_2{A B:Prop}{Z:Prop}(h:A/\B)(k:A->B->Z):Z:=k h.1 h.2
theorem e0_3{A B C:Prop}{Z:Prop}(h:A/\B/\C)(k:A->B->C->Z):Z:=k h.1 h.2.1 h.2.2
theorem e0_4{A B C D:Prop}{Z:Prop}(h:A/\B/\C/\D)(k:A->B->C->D->Z):Z:=k h.1 h.2.1 h.2.2.1 h.2.2.2
theorem e0_5{A B C D E:Prop}{Z:Prop}(h:A/\B/\C/\D/\E)(k:A->B->C->D->E->Z):Z:=k h.1 h.2.1 h.2.2.1 h.2.2.2.1 h.2.2.2.2
theorem e0_6{A B C D E F:Prop}{Z:Prop}(h:A/\B/\C/\D/\E/\F)(k:A->B->C->D->E->F->Z):Z:=k h.1 h.2.1 h.2.2.1 h.2.2.2.1 h.2.2.2.2.1 h.2.2.2.2.2
theorem e0_7{A B C D E F G:Prop}{Z:Prop}(h:A/\B/\C/\D/\E/\F/\G)(k:A->B->C->D->E->F->G->Z):Z:=k h.1 h.2.1 h.2.2.1 h.2.2.2.1 h.2.2.2.2.1 h.2.2.2.2.2.1 h.2.2.2.2.2.2
theorem e0_8{A B C D E F G H:Prop}{Z:Prop}(h:A/\B/\C/\D/\E/\F/\G/\H)(k:A->B->C->D->E->F->G->H->Z):Z:=k h.1 h.2.1 h.2.2.1 h.2.2.2.1 h.2.2.2.2.1 h.2.2.2.2.2.1 h.2.2.2.2.2.2.1 h.2.2.2.2.2.2.2
theorem e1_1{α:Sort _}{A:α->Prop}{Z:Prop}(h:∃x,A x)(k:∀x,A x->Z):Z:=h.elim λx h=>k x h
theorem e1_2{α:Sort _}{A B:α->Prop}{Z:Prop}(h:∃x,A x/\B x)(k:∀x,A x->B x->Z):Z:=h.elim λx h=>k x h.1 h.2
theorem e1_3{α:Sort _}{A B C:α->Prop}{Z:Prop}(h:∃x,A x/\B x/\C x)(k:∀x,A x->B x->C x->Z):Z:=h.elim λx h=>k x h.1 h.2.1 h.2.2
theorem e1_4{α:Sort _}{A B C D:α->Prop}{Z:Prop}(h:∃x,A x/\B x/\C x/\D x)(k:∀x,A x->B x->C x->D x->Z):Z:=h.elim λx h=>k x h.1 h.2.1 h.2.2.1 h.2.2.2
theorem e1_5{α:Sort _}{A B C D E:α->Prop}{Z:Prop}(h:∃x,A x/\B x/\C x/\D x/\E x)(k:∀x,A x->B x->C x->D x->E x->Z):Z:=h.elim λx h=>k x h.1 h.2.1 h.2.2.1 h.2.2.2.1 h.2.2.2.2
theorem e1_6{α:Sort _}{A B C D E F:α->Prop}{Z:Prop}(h:∃x,A x/\B x/\C x/\D x/\E x/\F x)(k:∀x,A x->B x->C x->D x->E x->F x->Z):Z:=h.elim λx h=>k x h.1 h.2.1 h.2.2.1 h.2.2.2.1 h.2.2.2.2.1 h.2.2.2.2.2
theorem e1_7{α:Sort _}{A B C D E F G:α->Prop}{Z:Prop}(h:∃x,A x/\B x/\C x/\D x/\E x/\F x/\G x)(k:∀x,A x->B x->C x->D x->E x->F x->G x->Z):Z:=h.elim λx h=>k x h.1 h.2.1 h.2.2.1 h.2.2.2.1 h.2.2.2.2.1 h.2.2.2.2.2.1 h.2.2.2.2.2.2
theorem e1_8{α:Sort _}{A B C D E F G H:α->Prop}{Z:Prop}(h:∃x,A x/\B x/\C x/\D x/\E x/\F x/\G x/\H x)(k:∀x,A x->B x->C x->D x->E x->F x->G x->H x->Z):Z:=h.elim λx h=>k x h.1 h.2.1 h.2.2.1 h.2.2.2.1 h.2.2.2.2.1 h.2.2.2.2.2.1 h.2.2.2.2.2.2.1 h.2.2.2.2.2.2.2
theorem e2_1{α β:Sort _}{A:α->β->Prop}{Z:Prop}(h:∃x y,A x y)(k:∀x y,A x y->Z):Z:=h.elim λx h=>h.elim λy h=>k x y h
theorem e2_2{α β:Sort _}{A B:α->β->Prop}{Z:Prop}(h:∃x y,A x y/\B x y)(k:∀x y,A x y->B x y->Z):Z:=h.elim λx h=>h.elim λy h=>k x y h.1 h.2
theorem e2_3{α β:Sort _}{A B C:α->β->Prop}{Z:Prop}(h:∃x y,A x y/\B x y/\C x y)(k:∀x y,A x y->B x y->C x y->Z):Z:=h.elim λx h=>h.elim λy h=>k x y h.1 h.2.1 h.2.2
theorem e2_4{α β:Sort _}{A B C D:α->β->Prop}{Z:Prop}(h:∃x y,A x y/\B x y/\C x y/\D x y)(k:∀x y,A x y->B x y->C x y->D x y->Z):Z:=h.elim λx h=>h.elim λy h=>k x y h.1 h.2.1 h.2.2.1 h.2.2.2
theorem e2_5{α β:Sort _}{A B C D E:α->β->Prop}{Z:Prop}(h:∃x y,A x y/\B x y/\C x y/\D x y/\E x y)(k:∀x y,A x y->B x y->C x y->D x y->E x y->Z):Z:=h.elim λx h=>h.elim λy h=>k x y h.1 h.2.1 h.2.2.1 h.2.2.2.1 h.2.2.2.2
theorem e2_6{α β:Sort _}{A B C D E F:α->β->Prop}{Z:Prop}(h:∃x y,A x y/\B x y/\C x y/\D x y/\E x y/\F x y)(k:∀x y,A x y->B x y->C x y->D x y->E x y->F x y->Z):Z:=h.elim λx h=>h.elim λy h=>k x y h.1 h.2.1 h.2.2.1 h.2.2.2.1 h.2.2.2.2.1 h.2.2.2.2.2
theorem e2_7{α β:Sort _}{A B C D E F G:α->β->Prop}{Z:Prop}(h:∃x y,A x y/\B x y/\C x y/\D x y/\E x y/\F x y/\G x y)(k:∀x y,A x y->B x y->C x y->D x y->E x y->F x y->G x y->Z):Z:=h.elim λx h=>h.elim λy h=>k x y h.1 h.2.1 h.2.2.1 h.2.2.2.1 h.2.2.2.2.1 h.2.2.2.2.2.1 h.2.2.2.2.2.2
theorem e3_1{α β γ:Sort _}{A:α->β->γ->Prop}{Z:Prop}(h:∃x y z,A x y z)(k:∀x y z,A x y z->Z):Z:=h.elim λx h=>h.elim λy h=>h.elim λz h=>k x y z h
theorem e3_2{α β γ:Sort _}{A B:α->β->γ->Prop}{Z:Prop}(h:∃x y z,A x y z/\B x y z)(k:∀x y z,A x y z->B x y z->Z):Z:=h.elim λx h=>h.elim λy h=>h.elim λz h=>k x y z h.1 h.2
theorem e3_3{α β γ:Sort _}{A B C:α->β->γ->Prop}{Z:Prop}(h:∃x y z,A x y z/\B x y z/\C x y z)(k:∀x y z,A x y z->B x y z->C x y z->Z):Z:=h.elim λx h=>h.elim λy h=>h.elim λz h=>k x y z h.1 h.2.1 h.2.2
theorem e3_4{α β γ:Sort _}{A B C D:α->β->γ->Prop}{Z:Prop}(h:∃x y z,A x y z/\B x y z/\C x y z/\D x y z)(k:∀x y z,A x y z->B x y z->C x y z->D x y z->Z):Z:=h.elim λx h=>h.elim λy h=>h.elim λz h=>k x y z h.1 h.2.1 h.2.2.1 h.2.2.2
theorem e3_5{α β γ:Sort _}{A B C D E:α->β->γ->Prop}{Z:Prop}(h:∃x y z,A x y z/\B x y z/\C x y z/\D x y z/\E x y z)(k:∀x y z,A x y z->B x y z->C x y z->D x y z->E x y z->Z):Z:=h.elim λx h=>h.elim λy h=>h.elim λz h=>k x y z h.1 h.2.1 h.2.2.1 h.2.2.2.1 h.2.2.2.2
theorem e3_6{α β γ:Sort _}{A B C D E F:α->β->γ->Prop}{Z:Prop}(h:∃x y z,A x y z/\B x y z/\C x y z/\D x y z/\E x y z/\F x y z)(k:∀x y z,A x y z->B x y z->C x y z->D x y z->E x y z->F x y z->Z):Z:=h.elim λx h=>h.elim λy h=>h.elim λz h=>k x y z h.1 h.2.1 h.2.2.1 h.2.2.2.1 h.2.2.2.2.1 h.2.2.2.2.2
theorem e4_1{α β γ δ:Sort _}{A:α->β->γ->δ->Prop}{Z:Prop}(h:∃x y z u,A x y z u)(k:∀x y z u,A x y z u->Z):Z:=h.elim λx h=>h.elim λy h=>h.elim λz h=>h.elim λu h=>k x y z u h
theorem e4_2{α β γ δ:Sort _}{A B:α->β->γ->δ->Prop}{Z:Prop}(h:∃x y z u,A x y z u/\B x y z u)(k:∀x y z u,A x y z u->B x y z u->Z):Z:=h.elim λx h=>h.elim λy h=>h.elim λz h=>h.elim λu h=>k x y z u h.1 h.2
theorem e4_3{α β γ δ:Sort _}{A B C:α->β->γ->δ->Prop}{Z:Prop}(h:∃x y z u,A x y z u/\B x y z u/\C x y z u)(k:∀x y z u,A x y z u->B x y z u->C x y z u->Z):Z:=h.elim λx h=>h.elim λy h=>h.elim λz h=>h.elim λu h=>k x y z u h.1 h.2.1 h.2.2
theorem e4_4{α β γ δ:Sort _}{A B C D:α->β->γ->δ->Prop}{Z:Prop}(h:∃x y z u,A x y z u/\B x y z u/\C x y z u/\D x y z u)(k:∀x y z u,A x y z u->B x y z u->C x y z u->D x y z u->Z):Z:=h.elim λx h=>h.elim λy h=>h.elim λz h=>h.elim λu h=>k x y z u h.1 h.2.1 h.2.2.1 h.2.2.2
theorem e4_5{α β γ δ:Sort _}{A B C D E:α->β->γ->δ->Prop}{Z:Prop}(h:∃x y z u,A x y z u/\B x y z u/\C x y z u/\D x y z u/\E x y z u)(k:∀x y z u,A x y z u->B x y z u->C x y z u->D x y z u->E x y z u->Z):Z:=h.elim λx h=>h.elim λy h=>h.elim λz h=>h.elim λu h=>k x y z u h.1 h.2.1 h.2.2.1 h.2.2.2.1 h.2.2.2.2
theorem e5_1{α β γ δ ε:Sort _}{A:α->β->γ->δ->ε->Prop}{Z:Prop}(h:∃x y z u v,A x y z u v)(k:∀x y z u v,A x y z u v->Z):Z:=h.elim λx h=>h.elim λy h=>h.elim λz h=>h.elim λu h=>h.elim λv h=>k x y z u v h
theorem e5_2{α β γ δ ε:Sort _}{A B:α->β->γ->δ->ε->Prop}{Z:Prop}(h:∃x y z u v,A x y z u v/\B x y z u v)(k:∀x y z u v,A x y z u v->B x y z u v->Z):Z:=h.elim λx h=>h.elim λy h=>h.elim λz h=>h.elim λu h=>h.elim λv h=>k x y z u v h.1 h.2
theorem e5_3{α β γ δ ε:Sort _}{A B C:α->β->γ->δ->ε->Prop}{Z:Prop}(h:∃x y z u v,A x y z u v/\B x y z u v/\C x y z u v)(k:∀x y z u v,A x y z u v->B x y z u v->C x y z u v->Z):Z:=h.elim λx h=>h.elim λy h=>h.elim λz h=>h.elim λu h=>h.elim λv h=>k x y z u v h.1 h.2.1 h.2.2
theorem e5_4{α β γ δ ε:Sort _}{A B C D:α->β->γ->δ->ε->Prop}{Z:Prop}(h:∃x y z u v,A x y z u v/\B x y z u v/\C x y z u v/\D x y z u v)(k:∀x y z u v,A x y z u v->B x y z u v->C x y z u v->D x y z u v->Z):Z:=h.elim λx h=>h.elim λy h=>h.elim λz h=>h.elim λu h=>h.elim λv h=>k x y z u v h.1 h.2.1 h.2.2.1 h.2.2.2
theorem zn1{α:Type _}{a:α}{Z:Prop}(h:none=some a):Z:=by cases h
theorem zn2{α:Type _}{a:α}{Z:Prop}(h:some a=none):Z:=by cases h
theorem zn3{Z:Prop}(h:false=true):Z:=by cases h
theorem zn4{Z:Prop}(h:true=false):Z:=by cases h
@[elab_as_elim] theorem rwb {α:Sort _} {a b:α} {motive:α->Prop} (h:a=b) (m:motive b):motive a:=h▸m
def tcN(k:String)(l:List Lean.Syntax):Lean.Syntax:=.node .none (.str `Lean.Parser.Tactic k) l.toArray
def teN(k:String)(l:List Lean.Syntax):Lean.Syntax:=.node .none (.str `Lean.Parser.Term k) l.toArray
def nuN(l:List Lean.Syntax):Lean.Syntax:=.node .none `null l.toArray
def atN(s:String):Lean.Syntax:=.atom .none s
def idN(s:String):Lean.Syntax:=Lean.mkIdent s.toName
def seqN(l:List Lean.Syntax):Lean.Syntax:=tcN "tacticSeq" [tcN "tacticSeq1Indented" [nuN (l.intersperse (atN ";"))]]
def pasN(l:List Lean.Syntax):Lean.Syntax:=tcN "paren" [atN "(",seqN l,atN ")"]
def firN(l:List Lean.Syntax):Lean.Syntax:=tcN "first" [atN "first",nuN (l.map λt=>.node .none `group #[atN "|",seqN [t]])]
def oneN(k a:String)(l:List Lean.Syntax):Lean.Syntax:=tcN k (atN a::l)
def redN(t:Lean.Syntax):Lean.Syntax:=oneN "withReducible" "with_reducible" [seqN [t]]
def refN(t:Lean.Syntax):Lean.Syntax:=oneN "refine" "refine" [t]
def appN(f:Lean.Syntax)(l:List Lean.Syntax):Lean.Syntax:=teN "app" [f,nuN l]
def hoN(h:Lean.Syntax):Lean.Syntax:=teN "syntheticHole" [atN "?",h]
def askN:Lean.Syntax:=hoN (atN "_")
def optN:Lean.Syntax:=tcN "optConfig" [nuN []]
def lpN:Lean.Syntax:=teN "hygienicLParen" [atN "(",.node .none `hygieneInfo #[Lean.mkIdent .anonymous]]
def ascN(e t:Lean.Syntax):Lean.Syntax:=teN "typeAscription" [lpN,e,atN ":",nuN [t],atN ")"]
def nmN(s:Lean.Name):Lean.MacroM Lean.Syntax:=return Lean.mkIdent (<- Lean.Macro.addMacroScope s)
def atk(s:String):Lean.Syntax:=.node .none `PySem.W.tacticWtm_at_ #[atN "wtm_at",Lean.Syntax.mkStrLit s]
def jr(only star all:Bool)(l:List String):Lean.Syntax :=
 let xs:=(if star then [tcN "simpStar" [atN "*"]] else [])++l.map λs=>tcN "simpLemma" [nuN [],nuN [],idN s]
 oneN "simp" "simp" [optN,nuN [],nuN (if only then [atN "only"] else []),nuN (if xs.isEmpty then [] else [atN "[",nuN (xs.intersperse (atN ",")),atN "]"]),nuN (if all then [tcN "location" [atN "at",tcN "locationWildcard" [atN "*"]]] else [])]
def omN:Lean.Syntax:=oneN "omega" "omega" [optN]
def hlN:Lean.Syntax:=teN "hole" [atN "_"]
def o8(w:String):Lean.Syntax:=match w with
 | "r"=>oneN "tacticRfl" "rfl" []
 | "R"=>redN (oneN "tacticRfl" "rfl" [])
 | "a"=>oneN "assumption" "assumption" []
 | "A"=>redN (oneN "assumption" "assumption" [])
 | "d"=>oneN "decide" "decide" [optN]
 | "k"=>firN <| ([[idN "some",idN "PySem.NameKind.local"],[idN "some",idN "PySem.NameKind.globalImplicit"],[idN "true"]].map λl=>oneN "exact" "exact" [appN (idN "Eq.refl") [match l with | [f,x]=>appN f [x] | l=>l.headD .missing]])++[.node .none `PyProof.Rows.tacticKernel_rfl! #[atN "kernel_rfl!"],oneN "decide" "decide" [tcN "optConfig" [nuN [tcN "configItem" [tcN "posConfigItem" [atN "+",idN "kernel"]]]]]]
 | "o"=>omN
 | "f"=>oneN "exact" "exact" [teN "fun" [atN "fun",teN "basicFun" [nuN [hlN],nuN [],atN "=>",idN "rfl"]]]
 | "#L" =>
  let p:=pasN [jr true false true ["toList_mkS","len_mkS","List.length_append","List.length_cons","List.length_nil"],omN]
  firN [omN,pasN [refN (ascN askN (appN (teN "explicit" [atN "@",idN "LE.le"]) [idN "Nat",hlN,hlN,Lean.Syntax.mkNumLit "16777216"])),firN [oneN "assumption" "assumption" [],omN,p]],p,pasN [jr false false true [],omN]]
 | "#B"=>firN [pasN [jr true true false ["decide_true","decide_false","Bool.not_true","Bool.not_false"],oneN "done" "done" []],pasN [jr false true false [],oneN "done" "done" []]]
 | "n"=>oneN "exact" "exact" [appN (idN "Eq.refl") [idN "false"]]
 | w=>match w.toList with
  | '='::r=>oneN "exact" "exact" [idN (String.ofList r)]
  | r=>atk ("m."++String.ofList r)
def xf(s:String):Lean.MacroM Lean.Syntax:=do
 let p:=s.splitOn ";"
 let a:=p.headD ""
 let o:=(p.getD 1 "").toList.map λ(c:Char)=>c.toNat-97
 match a.splitOn " " with
 | []=>return nuN []
 | n::ws=>match n.toList with
  | '='::r=>return redN (oneN "exact" "exact" [idN (String.ofList r)])
  | '^'::r=>return oneN "exact" "exact" [idN (String.ofList r)]
  | c::r =>
   if ws.isEmpty then return o8 n else
   let hs <- (K7 ws.length).mapM λi=>nmN (.mkSimple ("w"++toString i))
   let f:=idN (if c == '~' then String.ofList r else n)
   let t:=oneN "refine'" "refine'" [appN f (hs.map hoN)]
   let cs:=(if o.isEmpty then K7 ws.length else o).map λi=>oneN "case" "case" [nuN [tcN "caseArg" [.node .none `Lean.binderIdent #[hs.getD i .missing],nuN []]],atN "=>",seqN [o8 (ws.getD i "r")]]
   return pasN ((if c == '~' then t else redN t)::cs)
  | []=>return nuN []
def wayL(s:String):Lean.MacroM (List Lean.Syntax):=(s.splitOn "|").mapM xf
def way(s:String):Lean.MacroM (Lean.TSyntax `tactic):=return ⟨firN ((<- wayL s)++[oneN "fail" "fail" [nuN []]])⟩
def ways(s:String):Lean.MacroM Lean.Syntax:=return (<- way s).raw
def bj(x:Lean.Syntax)(k w:String):Lean.MacroM Lean.Syntax:=if x[1].isStrLit?==some k then ways w else Lean.Macro.throwUnsupported
def gdN(r:String)(n:Nat)(s:String):Lean.MacroM Lean.Syntax:=do
 let h:=teN "hole" [atN "_"]
 return pasN [redN (refN (ascN askN (appN (teN "explicit" [atN "@",idN r]) (idN "Nat"::Mg n h)))),firN (<- wayL s)]
local macro_rules (kind:=Lean.Parser.Tactic.omega) | _x=>do
 return firN ([<-gdN "LE.le" 3 "Nat.le_trans A d|=zp0|=zp1|zo3 A A|Nat.le_of_eq A|zp3 A d|zp4 A d|zp5 A d|zp6 A d|zp2 A|zp2 d|Nat.le_of_add_right_le A|zp9 d|zq1 A d|zq2 A d|zq5 A d|zq6 A|zq8 A|zq9 A|zqu A A|zr1 A|zr4 A A|zr5 A A|zr6 A A|zr7 A A A|zr8 A A|=zaa|zad A A|zae A A|zah A A|=zbb|zbc A|zbf A|zbj A A;ba|zbl A|zbm A A d|zbn A d|zbo A A d|zbp A d|zbq A d|zbr A d|zbd A d",<-gdN "LT.lt" 3 "Nat.lt_of_le_of_lt A d|Nat.lt_of_lt_of_le A d|zo1 A|zo4 A A|zo6 A|zo8 A|zp7 A d|zq4 A|zqj A|zql A A|zqm A A|zqn A|zqs A|zqv A d|zqw A|zqx A|zr2 A|zr3 A A|zr9 A A|zaf A|zag A d|zap A d|zaq A|zar A A|zas A A|zat A|zau A|zav A A|zax A A A|Nat.lt_of_succ_lt_succ A|zay A d|zba A|zbe A|zbg A|zbk A|zbs A d",<-gdN "Eq" 2 "zo2 A|zo5 A|zo9 A A|zq7 A A|zqb A A|zqh A|zqi A|zqk A A|zac A|zai A|zaj A|zak A|zal A|zam A A A|zbh A"]++(<- wayL "zqt A A d|zqz d|zqq A|zqr A A|zab A d|zan A d|zao A d|zaw A|zbi A A d|zqa A A;ba|zqc A A;ba")++[oneN "lia" "lia" [optN]])
def xd:String:="trs:R.and1 tr trf|R.or1 tr trf\nx:R.ifB tr iff\nfact:A|R\nx:R.asgAt a eff ev pa|R.augA a ev r A look ev ip pa\npa:~paN r A r aput put\neff:R.effObj r r d ev r evs noa A\nev:R.attrP r ev r A\ncp:Cp.in_ A|Cp.notIn A\nbool:A\nnoa:r|^wG|~oN k noa\neff:R.effCallF a r name r r ev fr a;bdeacfgh\nit:R.it6 a r name;bac\nx:R.asgI a r ev ev ev r r len len;bacdefghi\nfr:R.frE A r|R.frEB A r\nsub:R.cut2 ev seq len|R.cut3 ev seq len|R.cutR ev seq len|R.cutS ev optn optn len|R.cutN ev optn optn seq len|R.item0 r ev ev seq get len|R.item1 r ev ev seq get len|R.item r ev ev seq get len|R.sign r ev ev get len\noptn:=R.optNn|R.optIn ev|R.opt1 ev|R.opt0 ev|R.optS ev\nxs:=R.xsNil|R.xs1 x xr|~R.xs1 x xr\nrts:^Rts.nil|Rts.cons rt rts\nx:A|=R.brk|=R.cont|R.ifB tr ifr|R.retT evs rts r len|R.ret ev rt|R.asgOn a k r fr store;cabde|R.asg2 a ev set set|R.asgT a ev set set|R.augN a r k r look ev ip set;bacdefgh|R.exprC eff|R.assert tr|R.forE a a r name r ev for;ceabdfg|R.forN a r it for;bacd|R.forP a r it for;bacd|R.while_ a wh|R.asg a r eff set;bacd\neff:A|R.app a r r ev r r ev =Rt.old r r len;abcfdeghijk|R.effV ev\nwh:A|R.moreWE A r r csle\nfor:A|=R.fNil|R.moreFE A r r csle\nit:A|R.itR a r name r ev len;bdacef|R.itL ev|R.itT ev\ntrs:=R.allNil|=R.anyNil|R.and1 tr trr|R.or1 tr trr\nevs:=R.nil|R.cons r ev evs\nfr:A|R.frLst evs r len|R.frList a r name r ev seq len;bdacefg|R.frMulL evs r len ev big len\nev:A|=R.cstS|=R.cstI|=R.cst0|=R.cstB|R.loc r|R.name a r name;bac|R.repl a r r r k name len len;bacdefgh|R.callN a r name evs kp;bacde|R.meth r r d ev evs mp|R.bin ev ev bp|R.cmp r ev ev cp|R.isSub sub|R.neg ev|R.attr r ev r A look|R.attrM r ev|R.tup evs r len|RFr.ev fr\nopt:=R.optN|R.optI ev\nget:A|r\nmp:A|Mp.rstrip len|Mp.lstrip len|=Mp.startswith|Mp.join seq Ar len|Mp.group ra len|Mp.span ra\nkp:FnOk.at_ A|Kp.len seq len|Kp.lenS len|Kp.sum Ar|Kp.sorted Ar len|=Kp.isS|=Kp.isL|=Kp.typeI|=Kp.typeS|=Kp.int\nseq:=Seq.lst|=Seq.tup|Seq.own r\ntp:A|=Tp.none|=Tp.bool|=Tp.int|Tp.str len|Tp.lst len|Tp.own r len|=Tp.mat\ncp:A|Eqd.e eq|Eqd.n eq|=Cp.ltI|=Cp.gtI|=Cp.leI|=Cp.geI|=Cp.ltS|=Cp.gtS|Cp.is_ none|Cp.isNot none|=Cp.isT|=Cp.isNotT|Cp.in_ ra|Cp.notIn ra|Cp.inT r\neq:A|=Eqd.int|=Eqd.str|=Eqd.none|=Eqd.strN|Eqd.own r eq\nnone:=Cp.noneN|=Cp.noneS|=Cp.noneI|=Cp.noneL|=Cp.noneO|=Cp.noneM\nip:A|=Ip.addI|Ip.addS len\nbp:A|=Bp.addI|=Bp.subI|Bp.mulI big|Bp.modI len|Bp.divI len|Bp.powI big len|Bp.addS len|Bp.addL len|Bp.quoted len\ntrf:~R.An.no fact|~R.An.go fact trs r|~R.On.no fact|~R.On.go fact trs r\niff:~R.Br.y fact xs|~R.Br.n fact xs\ntrr:~R.An.no bool|~R.An.go bool trs r|~R.On.no bool|~R.On.go bool trs r\nifr:~R.Br.y bool xs|~R.Br.n bool xs\nAr:A|r\nrd:r|d\nra:r|a\ncsle:=CsLe.rf|^CsLe.nil|~CsLe.consR csle|~CsLe.cons cle csle\nvle:^gO.nil|~gO.cons look vle\nstore:~soL app r set\nsvs:^Svs.nil|~Svs.cons set svs\nset:~svL k r aput put|~svC k look r put\naput:^j7|=KH|~KD n n n n aput|~wB n n aput|~wA n aput\nput:^set0|~setS put\nname:~Nm.loc k r look|~Nm.glo k k|~Nm.bis k k bis|~Nm.cel k look r|~Nm.fre k look r\nbis:=g_len|=g_sum|=Kr|=Kv|=G8|=Ku|=Kw|=g_str|=g_type|=g_int|=g_bool|=Kz|=Ky\nlook:=iT|A|r|~Kh n look\napp:^appN0|~appS app\nlen:A|#L\ncle:^cY.rf|~cY.vs vle|^cY.dead|^cY.cell\nrt:~Rt.own r|^Rt.old\nbig:a|~And.intro o o|d\nbool:r|A|#B\ntr:A|R.trNot tr|R.trBool trs|R.trCmp r ev ev cp|~R.trEv f ev tp\nxr:~R.Nx.stop =Fl.noConfusion|~R.Nx.go xs"
local macro_rules (kind:=PySem.W.tacticWtm_at_) | x=>do
 let some k:=x[1].isStrLit? | Lean.Macro.throwUnsupported
 let l:=(xd.splitOn "\n").filterMap λl=>match l.splitOn ":" with
  | [a,b]=>if "m."++a==k then some b else none
  | _=>none
 if l.isEmpty then Lean.Macro.throwUnsupported
 ways ("|".intercalate l)
def rcN(l:List Lean.Syntax):Lean.Syntax:=tcN "rcasesPatMed" [nuN l]
def loN(p:Lean.Syntax):Lean.Syntax:=tcN "rcasesPatLo" [p,nuN []]
def mG(lo:Lean.Syntax):Option Lean.Syntax :=
 if lo[1].getNumArgs==0&&lo[0][0].getSepArgs.size==1 then some lo[0][0].getSepArgs[0]! else none
def isP(p:Lean.Syntax)(k:String):Bool:=p.getKind==Lean.Name.str `Lean.Parser.Tactic.rcasesPat k
def uB:Nat->List Lean.Syntax->List Lean.Syntax
 | 0,l=>l
 | n+1,l=>match l.getLast?.bind mG with
  | some p=>if isP p "tuple" then l.dropLast++uB n p[1].getSepArgs.toList else l
  | none=>l
def nameOf(lo:Lean.Syntax):Option Lean.Syntax:=(mG lo).bind λp =>
 if isP p "one"&&p[0].getId != `rfl then some p[0] else if isP p "ignore" then some (teN "hole" [atN "_"]) else none
def tupN(l:List Lean.Syntax):Lean.Syntax:=.node .none `Lean.Parser.Tactic.rcasesPat.tuple #[atN "⟨",nuN (l.intersperse (atN ",")),atN "⟩"]
def obtN(m e:Lean.Syntax):Lean.Syntax:=oneN "obtain" "obtain" [nuN [m],nuN [],nuN [atN ":=",nuN [e]]]
def rcsN(e m:Lean.Syntax):Lean.Syntax:=oneN "rcases" "rcases" [nuN [tcN "elimTarget" [nuN [],e]],nuN [atN "with",m]]
def rcoN(e lo:Lean.Syntax):Lean.Syntax:=match mG lo with
 | some p=>if isP p "tuple" then obtN (rcN [p]) e else rcsN e lo
 | none=>rcsN e lo
local macro_rules (kind:=Lean.Parser.Tactic.obtain) | x=>do
 let m:=x[1][0]
 let e:=x[3][1][0]
 let as:=m[0].getSepArgs.toList
 if x[2].getNumArgs != 0||x[3][1].getNumArgs != 1||as.length != 1 || !isP (as.getD 0 .missing) "tuple" then Lean.Macro.throwUnsupported
 let los:=uB 9 (as.getD 0 .missing)[1].getSepArgs.toList
 if los.length<2 then Lean.Macro.throwUnsupported
 let q:=los.findIdx λl=>(nameOf l).isNone
 let hr <- nmN `hr
 let hq <- nmN `hq
 let cl:=if e.isIdent then [oneN "tacticTry_" "try" [seqN [oneN "clear" "clear" [nuN [e]]]]] else []
 -- t names taken at once,then (a rest)
 let ts:=(K7 los.length).flatMap λi =>
  let t:=los.length-i
  if q+1<t||9<t||(t+1==los.length&&(nameOf (los.getD t .missing)).isSome&&los.length<=q+1) then [] else
  let p1:=if t==q+1 then [rcoN hq (los.getD q .missing)] else []
  let z:=los.getD t .missing
  let (ln,p2):=if los.length<=t then ([],[]) else if t+1==los.length then (match nameOf z with | some n=>([n],[]) | none=>([hr],[rcoN hr z])) else ([hr],[obtN (rcN [tupN (los.drop t)]) hr])
  let names:=(los.take t).map (λl=>(nameOf l).getD hq)++ln
  let n:=names.length
  if n<2||9<n then [] else
  let post:=cl++oneN "intro" "intro" [nuN names]::(p1++p2)
  (K7 n).filterMap λj =>
   let k:=n-1-j
   if 5<k||8<n-k then none else some (pasN (refN (appN (idN ("Mine.e"++toString k++"_"++toString (n-k))) [e,askN])::post))
 return firN (ts++[rcsN e (loN m)])
def pM:Nat->Lean.Syntax->Option Lean.Syntax
 | 0,_=>none
 | n+1,t=>if t.isIdent then some (.node .none `Lean.Parser.Tactic.rcasesPat.one #[t]) else if t.getKind == `Lean.Parser.Term.hole then some (.node .none `Lean.Parser.Tactic.rcasesPat.ignore #[atN "_"]) else
  if t.getKind == `Lean.Parser.Term.anonymousCtor then do
   let l <- t[1].getSepArgs.toList.mapM λx=>do return loN (rcN [<-pM n x])
   return tupN l
  else none
def hasF:Nat->Lean.Name->Lean.Syntax->Bool
 | 0,_,_=>true
 | n+1,k,t=>t.getKind==k||t.getArgs.any (hasF n k)
def byN(p e b:Lean.Syntax):Lean.MacroM Lean.Syntax:=do
 if hasF 99 `Lean.Parser.Term.syntheticHole b then Lean.Macro.throwUnsupported
 let some p:=pM 9 p | Lean.Macro.throwUnsupported
 return teN "byTactic" [atN "by",seqN [obtN (rcN [p]) e,oneN "exact" "exact" [b]]]
def isC(x:Lean.Syntax):Bool:=x.getKind == `Lean.Parser.Term.anonymousCtor
local macro_rules (kind:=Lean.Parser.Term.fun) | x=>do
 let f:=x[1]
 let xs:=f[0].getArgs
 if f.getKind != `Lean.Parser.Term.basicFun||f[1].getNumArgs != 0 then Lean.Macro.throwUnsupported
 let some i:=xs.findIdx? isC | Lean.Macro.throwUnsupported
 let q <- nmN `q
 let b <- byN xs[i]! q f[3]
 return x.setArg 1 (f.setArgs #[nuN (xs.set! i q).toList,f[1],f[2],b])
local macro_rules (kind:=Lean.Parser.Term.let) | x=>do
 let d:=x[2][0]
 if d.getKind != `Lean.Parser.Term.letPatDecl || !isC d[0] then Lean.Macro.throwUnsupported
 byN d[0] d[4] x[4]
local macro_rules (kind:=Lean.Parser.Tactic.cases) | x=>do
 let h:=x[1][0][1]
 if x[1].getNumArgs != 1 || !h.isIdent||x[1][0][0].getNumArgs != 0||x[2].getNumArgs != 0||x[3].getNumArgs != 0 then Lean.Macro.throwUnsupported
 let zs:=["zn1","zn2","zn3","zn4"]
 let z:=zs.map λn=>oneN "exact" "exact" [appN (idN n) [h]]
 let r:=.node .none `Lean.Parser.Tactic.rcasesPat.one #[idN "rfl"]
 let u:=[("Option.some.inj",r),("PySem.Value.ref.inj",r),("List.cons.inj",tupN [loN (rcN [r]),loN (rcN [r])])].map λ(n,r)=>pasN [rcsN (appN (idN n) [h]) (loN (rcN [r])),oneN "tacticTry_" "try" [seqN [oneN "clear" "clear" [nuN [h]]]]]
 return firN (z.map redN++u++z++[x.setArg 1 (nuN [x[1][0].setArg 1 (teN "paren" [lpN,h,atN ")"])])])
local macro_rules (kind:=Lean.Parser.Tactic.tacticRfl') | _x=>return .node .none `tacticKernel_rfl #[atN "kernel_rfl"]
local macro_rules (kind:=Lean.Parser.Tactic.show) | x=>return refN (ascN askN x[1])
local macro_rules (kind:=Lean.Parser.Tactic.rwSeq) | x=>do
 if x[1][0].getNumArgs != 0||x[3].getNumArgs != 0 then Lean.Macro.throwUnsupported
 let l:=x[2][1].getSepArgs.toList.map λr =>
  let w:=oneN "rewriteSeq" "rewrite" [optN,tcN "rwRuleSeq" [atN "[",nuN [r],atN "]"],nuN []]
  if hasF 99 `Lean.Parser.Term.byTactic r||hasF 99 `Lean.Parser.Term.fun r then w else
  let t:=appN r[1] [teN "ellipsis" [atN ".."]]
  let u:=if r[0].getNumArgs==0 then t else appN (idN "Eq.symm") [t]
  firN [oneN "withReducibleAndInstances" "with_reducible_and_instances" [seqN [refN (appN (idN "rwb") [u,askN])]],w]
 return pasN (l++[redN (oneN "tacticTry_" "try" [seqN [oneN "tacticRfl" "rfl" []]])])
section
noncomputable def pgm:Program:=PySem.Challenge.pw_om0176_01
noncomputable def nthS:List Stmt->Nat->Stmt
 | [],_=>.Pass default
 | s::_,0=>s
 | _::r,n+1=>nthS r n
noncomputable def bdOf:Stmt->List Stmt
 | .ClassDef _ _ _ b _ _ _ _ _ _ _=>b
 | .For _ _ b _ _=>b
 | .While _ b _ _=>b
 | .If _ b _ _=>b
 | .Try b _ _ _ _=>b
 | _=>[]
noncomputable abbrev aP:Stmt->List Stmt:=bdOf
end
section
set_option maxHeartbeats 0
noncomputable abbrev pw:Program:=PySem.Challenge.pw_om0176_01
noncomputable def hsh(w:World)(s:Str):Int:=reduceHash (w.params.strHash s.cps)
noncomputable def en(w:World)(s:Str)(t:Tok)(v:Value):DictEntry:=⟨hsh w s,.str s t,v⟩
noncomputable def jl:Stmt->Str × Arguments × List Stmt × Scope
 | .FunctionDef n a b _ _ _ sc _ _ _=>(n,a,b,sc)
 | _=>("",default,[],default)
noncomputable abbrev yR(s:Stmt):Str:=(jl s).1
noncomputable abbrev yQ(s:Stmt):Arguments:=(jl s).2.1
noncomputable abbrev yS(s:Stmt):List Stmt:=(jl s).2.2.1
noncomputable abbrev lH(s:Stmt):Scope:=(jl s).2.2.2
noncomputable def fdOf(st:Stmt)(q:Str)(d pm:Value)(code:Addr):FuncData:=⟨yR st,q,yQ st,.stmts (yS st),lH st,3,[],d,.none,.none,pm,none,.ref code,.none,0⟩
noncomputable def aG(f:FuncData):Obj:=⟨.type "function",none,.func f,#[]⟩
noncomputable def rI(i:Nat):Value:=.int i 0
noncomputable def cdOf(n:Str)(n1:Tok)(q:Str)(q1:Tok)(p1:Tok)(xs:Array Nat)(T x y:Nat)(u v:Value)(r m l p2:Nat):Obj :=
 ⟨.type "code",none,.fields (#[.str n n1,.str q q1,.str "/claim/cut.py" p1]++xs.map rI ++ #[.ref T,.bool true,rI x,.ref y,.none,u,v,.ref r,rI m,rI l,.str "/claim/cut.py" p2]),#[]⟩
noncomputable def dO(l:List Nat):Obj:=⟨.type "tuple",none,.seq (l.map rI).toArray 0,#[]⟩
noncomputable def kc0(w:World):Frag:=[
 (3,⟨.type "dict",none,.dict #[en w "__name__" 165 (.str "law_om0176_01" 1609),en w "__doc__" 166 (.none),en w "__package__" 167 (.none),en w "__loader__" 168 (.builtin "__main__.__loader__#opaque"),en w "__spec__" 169 (.none),en w "__annotations__" 170 (.ref 6),en w "__builtins__" 171 (.ref 4),en w "__file__" 173 (.str "/claim/cut.py" 172),en w "__cached__" 174 (.none),en w "_sre" 275 (.ref 12),en w "deque" 317 (.type "collections.deque"),en w "_wall" 330 (.ref 44),en w "_twin_re_1" 370 (.ref 49),en w "_whence" 380 (.ref 56),en w "_index" 388 (.ref 63),en w "UnsupportedOperation" 410 (.ref 73),en w "IOBase" 442 (.ref 93),en w "BufferedIOBase" 460 (.ref 108),en w "TextIOBase" 478 (.ref 120),en w "BytesIO" 740 (.ref 350),en w "StringIO" 1027 (.ref 597),en w "_kind" 1038 (.ref 606),en w "_fspath" 1047 (.ref 613),en w "_check_arg_types" 1057 (.ref 620),en w "isabs" 1064 (.ref 627),en w "join" 1075 (.ref 751),en w "join_path" 1076 (.ref 634),en w "dirname" 1086 (.ref 641),en w "shlex" 1227 (.ref 732),en w "split" 1237 (.ref 744),en w "join_shlex" 1245 (.ref 751),en w "_find_unsafe" 1247 (.ref 752),en w "quote" 1254 (.ref 759),en w "_twin_re_7" 1284 (.ref 764),en w "unmatched" 1293 (.ref 771),en w "HEADER_TOKEN_RE" 1341 (.ref 776),en w "HEADER_QUOTED_VALUE_RE" 1419 (.ref 781),en w "HEADER_VALUE_RE" 1474 (.ref 786),en w "HEADER_ESCAPE_RE" 1497 (.ref 791),en w "split_header_words" 1513 (.ref 798),en w "HEADER_JOIN_TOKEN_RE" 1542 (.ref 803),en w "HEADER_JOIN_ESCAPE_RE" 1570 (.ref 808),en w "join_header_words" 1582 (.ref 815),en w "sorted_list_difference" 1598 (.ref 822),en w "unorderable_list_difference" 1608 (.ref 829),en w "_law_kids" 1616 (.ref 834),en w "_law_depths" 1626 (.ref 841),en w "_law_rows" 1638 (.ref 848),en w "_law_written" 1644 (.ref 853),en w "_law_sets" 1650 (.ref 858),en w "_law_laid" 1664 (.ref 865),en w "_law_ways" 1674 (.ref 872),en w "_law_orders" 1685 (.ref 879),en w "_law_pair" 1696 (.ref 886),en w "_law_read" 1702 (.ref 891),en w "_law_fits" 1712 (.ref 898),en w "_law_some" 1724 (.ref 905),en w "_law_right" 1736 (.ref 912),en w "law" 1742 (.ref 917)] 59,#[]⟩),
 (4,⟨.type "module",some 0,.plain,#[]⟩),
 (49,⟨.type "re.Pattern",none,.fields #[.str "[^\\w@%+=:,./-]" 332,.int (256) 369,.int (0) 0,.none,.none,.ref 48,.int (0) 0],#[]⟩),
 (48,dO [14,17,4,1,1,21,9,0,604043296,1,0,0,0,0,0,8,4,0,13,14,21,9,0,604043296,1,0,0,0,0,0,8,4,0,1]),
 (63,aG (fdOf (nthS pgm.main.body 6) "_index" (.none) (.str "io" 371) 62)),
 (62,cdOf "_index" 381 "_index" 382 383 #[13,2,0,0,3] 57 318 58 (.ref 59) (.ref 60) 61 386 13 387),
 (90,aG (fdOf (nthS (aP (nthS pgm.main.body 8)) 1) "IOBase.__new__" (.none) (.str "io" 371) 89)),
 (89,cdOf "__new__" 425 "IOBase.__new__" 426 427 #[25,1,1,0,15] 84 318 85 (.ref 86) (.ref 87) 88 431 25 432),
 (94,⟨.type "staticmethod",none,.fields #[.ref 90],#[]⟩),
 (93,⟨.type "type",none,.cls ⟨"IOBase",[.type "object"],[.ref 93,.type "object"],92,"IOBase",true,[],[.ref 108,.ref 120],false,none,false⟩,#[none,none,some (.str "IOBase" 411),some (.str "IOBase" 419),some (.none),some (.bool true)]⟩),
 (92,⟨.type "dict",none,.dict #[en w "__module__" 418 (.str "io" 423),en w "__firstlineno__" 422 (.int (22) 421),en w "__new__" 433 (.ref 94),en w "__static_attributes__" 434 (.ref 91),en w "__dict__" 437 (.ref 95),en w "__weakref__" 439 (.ref 96),en w "__doc__" 440 (.none)] 4,#[]⟩),
 (120,⟨.type "type",none,.cls ⟨"TextIOBase",[.ref 93],[.ref 120,.ref 93,.type "object"],119,"TextIOBase",true,[],[.ref 597],false,none,false⟩,#[some (.ref 111),none,some (.str "TextIOBase" 461),some (.str "TextIOBase" 469),some (.none),some (.bool true)]⟩)]
noncomputable def kc1(w:World):Frag:=[
 (119,⟨.type "dict",none,.dict #[en w "__module__" 468 (.str "io" 473),en w "__firstlineno__" 472 (.int (31) 471),en w "__static_attributes__" 475 (.ref 118),en w "__doc__" 476 (.none)] 2,#[]⟩),
 (597,⟨.type "type",none,.cls ⟨"StringIO",[.ref 120],[.ref 597,.ref 120,.ref 93,.type "object"],596,"StringIO",true,[],[],false,none,false⟩,#[some (.ref 353),none,some (.str "StringIO" 741),some (.str "StringIO" 749),some (.none),some (.bool true)]⟩),
 (596,⟨.type "dict",none,.dict #[en w "__module__" 748 (.str "_io" 753),en w "__firstlineno__" 752 (.int (203) 751),en w "__init__" 765 (.ref 367),en w "_StringIO__translated" 774 (.ref 374),en w "_StringIO__check" 781 (.ref 381),en w "_StringIO__check_dot" 788 (.ref 388),en w "_StringIO__line" 803 (.ref 395),en w "closed" 811 (.ref 403),en w "line_buffering" 819 (.ref 411),en w "newlines" 827 (.ref 419),en w "encoding" 835 (.ref 427),en w "errors" 843 (.ref 435),en w "close" 850 (.ref 442),en w "__enter__" 857 (.ref 449),en w "__exit__" 865 (.ref 456),en w "readable" 872 (.ref 463),en w "writable" 879 (.ref 470),en w "seekable" 886 (.ref 477),en w "isatty" 893 (.ref 484),en w "flush" 900 (.ref 491),en w "fileno" 907 (.ref 498),en w "detach" 914 (.ref 505),en w "getvalue" 921 (.ref 512),en w "tell" 928 (.ref 519),en w "seek" 938 (.ref 527),en w "truncate" 946 (.ref 535),en w "read" 958 (.ref 543),en w "readline" 968 (.ref 551),en w "readlines" 978 (.ref 559),en w "__iter__" 985 (.ref 566),en w "__next__" 993 (.ref 573),en w "write" 1005 (.ref 580),en w "writelines" 1013 (.ref 587),en w "__repr__" 1020 (.ref 594),en w "__static_attributes__" 1024 (.ref 595),en w "__doc__" 1025 (.none)] 2,#[]⟩),
 (360,⟨.type "tuple",none,.seq #[.str "" 755,.str "\n" 756] 0,#[]⟩),
 (367,aG (fdOf (nthS (aP (nthS pgm.main.body 12)) 1) "StringIO.__init__" (.ref 360) (.str "io" 371) 366)),
 (366,cdOf "__init__" 757 "StringIO.__init__" 758 759 #[206,3,0,0,3] 361 318 362 (.ref 363) (.ref 364) 365 763 206 764),
 (374,aG (fdOf (nthS (aP (nthS pgm.main.body 12)) 2) "StringIO.__translated" (.none) (.str "io" 371) 373)),
 (373,cdOf "__translated" 766 "StringIO.__translated" 767 768 #[219,2,0,0,3] 368 318 369 (.ref 370) (.ref 371) 372 772 219 773),
 (381,aG (fdOf (nthS (aP (nthS pgm.main.body 12)) 3) "StringIO.__check" (.none) (.str "io" 371) 380)),
 (380,cdOf "__check" 775 "StringIO.__check" 776 777 #[227,1,0,0,3] 375 318 376 (.ref 377) (.ref 378) 379 779 227 780),
 (536,⟨.type "tuple",none,.seq #[.int (-1) 948] 0,#[]⟩),
 (543,aG (fdOf (nthS (aP (nthS pgm.main.body 12)) 25) "StringIO.read" (.ref 536) (.str "io" 371) 542))]
noncomputable def kc2(w:World):Frag:=[
 (542,cdOf "read" 949 "StringIO.read" 950 951 #[349,2,2,0,3] 537 318 538 (.ref 539) (.ref 540) 541 956 349 957),
 (732,⟨.type "type",none,.cls ⟨"shlex",[.type "object"],[.ref 732,.type "object"],731,"shlex",true,[],[],false,none,false⟩,#[none,none,some (.str "shlex" 1089),some (.str "shlex" 1097),some (.builtin "object.__new__"),some (.bool true)]⟩),
 (731,⟨.type "dict",none,.dict #[en w "__module__" 1096 (.str "cpy313.shlex" 1087),en w "__firstlineno__" 1100 (.int (473) 1099),en w "__init__" 1112 (.ref 656),en w "punctuation_chars" 1120 (.ref 664),en w "push_token" 1128 (.ref 671),en w "push_source" 1137 (.ref 679),en w "pop_source" 1144 (.ref 686),en w "get_token" 1156 (.ref 693),en w "read_token" 1167 (.ref 700),en w "sourcehook" 1175 (.ref 707),en w "error_leader" 1184 (.ref 715),en w "__iter__" 1191 (.ref 722),en w "__next__" 1199 (.ref 729),en w "__static_attributes__" 1220 (.ref 730),en w "__dict__" 1222 (.ref 733),en w "__weakref__" 1224 (.ref 734),en w "__doc__" 1225 (.none)] 4,#[]⟩),
 (649,⟨.type "tuple",none,.seq #[.none,.none,.bool false,.bool false] 0,#[]⟩),
 (656,aG (fdOf (nthS (aP (nthS pgm.main.body 22)) 0) "shlex.__init__" (.ref 649) (.str "cpy313.shlex" 1087) 655)),
 (655,cdOf "__init__" 1101 "shlex.__init__" 1102 1103 #[475,5,0,0,3] 650 318 651 (.ref 652) (.ref 653) 654 1110 475 1111),
 (664,⟨.type "property",none,.fields #[.ref 663,.none,.none,.none,.str "punctuation_chars" 1120,.bool false],#[]⟩),
 (663,aG (fdOf (nthS (aP (nthS pgm.main.body 22)) 1) "shlex.punctuation_chars" (.none) (.str "cpy313.shlex" 1087) 662)),
 (662,cdOf "punctuation_chars" 1113 "shlex.punctuation_chars" 1114 1115 #[516,1,0,0,3] 657 318 658 (.ref 659) (.ref 660) 661 1117 516 1118),
 (693,aG (fdOf (nthS (aP (nthS pgm.main.body 22)) 5) "shlex.get_token" (.none) (.str "cpy313.shlex" 1087) 692)),
 (692,cdOf "get_token" 1145 "shlex.get_token" 1146 1147 #[543,1,0,0,3] 687 318 688 (.ref 689) (.ref 690) 691 1154 543 1155),
 (700,aG (fdOf (nthS (aP (nthS pgm.main.body 22)) 6) "shlex.read_token" (.none) (.str "cpy313.shlex" 1087) 699))]
noncomputable def kc3(w:World):Frag:=[
 (699,cdOf "read_token" 1157 "shlex.read_token" 1158 1159 #[570,1,0,0,3] 694 318 695 (.ref 696) (.ref 697) 698 1165 570 1166),
 (722,aG (fdOf (nthS (aP (nthS pgm.main.body 22)) 9) "shlex.__iter__" (.none) (.str "cpy313.shlex" 1087) 721)),
 (721,cdOf "__iter__" 1185 "shlex.__iter__" 1186 1187 #[717,1,0,0,3] 716 318 717 (.ref 718) (.ref 719) 720 1189 717 1190),
 (729,aG (fdOf (nthS (aP (nthS pgm.main.body 22)) 10) "shlex.__next__" (.none) (.str "cpy313.shlex" 1087) 728)),
 (728,cdOf "__next__" 1192 "shlex.__next__" 1193 1194 #[720,1,0,0,3] 723 318 724 (.ref 725) (.ref 726) 727 1197 720 1198),
 (350,⟨.type "type",none,.cls ⟨"BytesIO",[.ref 108],[.ref 350,.ref 108,.ref 93,.type "object"],349,"BytesIO",true,[],[],false,none,false⟩,#[some (.ref 123),none,some (.str "BytesIO" 479),some (.str "BytesIO" 487),some (.none),some (.bool true)]⟩),
 (737,⟨.type "tuple",none,.seq #[.bool false,.bool true] 0,#[]⟩),
 (744,aG (fdOf (nthS pgm.main.body 23) "split" (.ref 737) (.str "cpy313.shlex" 1087) 743)),
 (743,cdOf "split" 1228 "split" 1229 1230 #[725,3,0,0,3] 738 318 739 (.ref 740) (.ref 741) 742 1235 725 1236),
 (751,aG (fdOf (nthS pgm.main.body 24) "join" (.none) (.str "cpy313.shlex" 1087) 750)),
 (750,cdOf "join" 1238 "join" 1239 1240 #[733,1,0,0,3] 745 318 746 (.ref 747) (.ref 748) 749 1242 733 1243),
 (752,⟨.type "builtin_function_or_method",none,.fields #[.builtin "re.Pattern.search",.ref 49],#[]⟩)]
noncomputable def kc4(w:World):Frag:=[
 (759,aG (fdOf (nthS pgm.main.body 27) "quote" (.none) (.str "cpy313.shlex" 1087) 758)),
 (758,cdOf "quote" 1248 "quote" 1249 1250 #[737,1,0,0,3] 753 318 754 (.ref 755) (.ref 756) 757 1252 737 1253),
 (764,⟨.type "re.Pattern",none,.fields #[.str "^[=\\s;]*" 1258,.int (32) 1283,.int (0) 0,.none,.none,.ref 763,.int (0) 0],#[]⟩),
 (763,dO [14,4,0,0,4294967295,6,0,24,13,0,4294967295,13,8,16,61,8,12,16,59,0,1,1]),
 (771,aG (fdOf (nthS pgm.main.body 30) "unmatched" (.none) (.str "cpy313.http.cookiejar" 1255) 770)),
 (770,cdOf "unmatched" 1285 "unmatched" 1286 1287 #[745,1,0,0,3] 765 318 766 (.ref 767) (.ref 768) 769 1291 745 1292),
 (776,⟨.type "re.Pattern",none,.fields #[.str "^\\s*([^=\\s;,]+)" 1295,.int (32) 1340,.int (1) 0,.none,.none,.ref 775,.int (0) 0],#[]⟩),
 (775,dO [14,4,0,1,4294967295,6,0,24,9,0,4294967295,13,4,8,12,0,1,17,0,24,19,1,4294967295,13,14,21,9,0,671092736,0,0,0,0,0,0,8,12,0,1,17,1,1]),
 (781,⟨.type "re.Pattern",none,.fields #[.str "^\\s*=\\s*\\\"([^\\\"\\\\]*(?:\\\\.[^\\\"\\\\]*)*)\\\"" 1343,.int (32) 1418,.int (1) 0,.none,.none,.ref 780,.int (0) 0],#[]⟩),
 (780,dO [14,4,0,3,4294967295,6,0,24,9,0,4294967295,13,4,8,12,0,1,16,61,24,9,0,4294967295,13,4,8,12,0,1,16,34,17,0,24,12,0,4294967295,13,7,21,16,34,16,92,0,1,23,19,0,4294967295,16,92,2,24,12,0,4294967295,13,7,21,16,34,16,92,0,1,18,17,1,16,34,1]),
 (786,⟨.type "re.Pattern",none,.fields #[.str "^\\s*=\\s*([^\\s;,]*)" 1421,.int (32) 1473,.int (1) 0,.none,.none,.ref 785,.int (0) 0],#[]⟩),
 (785,dO [14,4,0,1,4294967295,6,0,24,9,0,4294967295,13,4,8,12,0,1,16,61,24,9,0,4294967295,13,4,8,12,0,1,17,0,24,14,0,4294967295,13,9,21,8,12,16,59,16,44,0,1,17,1,1])]
noncomputable def kc5(w:World):Frag:=[
 (791,⟨.type "re.Pattern",none,.fields #[.str "\\\\(.)" 1476,.int (32) 1496,.int (1) 0,.none,.none,.ref 790,.int (0) 0],#[]⟩),
 (790,dO [14,8,1,2,2,1,1,92,0,16,92,17,0,2,17,1,1]),
 (798,aG (fdOf (nthS pgm.main.body 35) "split_header_words" (.none) (.str "cpy313.http.cookiejar" 1255) 797)),
 (797,cdOf "split_header_words" 1498 "split_header_words" 1499 1500 #[752,1,0,0,3] 792 318 793 (.ref 794) (.ref 795) 796 1511 752 1512),
 (803,⟨.type "re.Pattern",none,.fields #[.str "[!#$%&'*+\\-.^_`|~0-9A-Za-z]+" 1515,.int (32) 1541,.int (0) 0,.none,.none,.ref 802,.int (0) 0],#[]⟩),
 (802,dO [14,4,0,1,4294967295,24,16,1,4294967295,13,11,9,0,67071226,3355443198,1476395007,0,0,0,0,0,1,1]),
 (808,⟨.type "re.Pattern",none,.fields #[.str "([\\\"\\\\])" 1544,.int (32) 1569,.int (1) 0,.none,.none,.ref 807,.int (0) 0],#[]⟩),
 (807,dO [14,9,4,1,1,16,34,16,92,0,17,0,13,6,16,34,16,92,0,17,1,1]),
 (815,aG (fdOf (nthS pgm.main.body 38) "join_header_words" (.none) (.str "cpy313.http.cookiejar" 1255) 814)),
 (814,cdOf "join_header_words" 1571 "join_header_words" 1572 1573 #[791,1,0,0,3] 809 318 810 (.ref 811) (.ref 812) 813 1580 791 1581),
 (822,aG (fdOf (nthS pgm.main.body 40) "sorted_list_difference" (.none) (.str "cpy313.unittest.util" 1583) 821)),
 (821,cdOf "sorted_list_difference" 1585 "sorted_list_difference" 1586 1587 #[806,2,0,0,3] 816 318 817 (.ref 818) (.ref 819) 820 1596 806 1597)]
noncomputable def kc6(w:World):Frag:=[
 (829,aG (fdOf (nthS pgm.main.body 41) "unorderable_list_difference" (.none) (.str "cpy313.unittest.util" 1583) 828)),
 (828,cdOf "unorderable_list_difference" 1599 "unorderable_list_difference" 1600 1601 #[838,2,0,0,3] 823 318 824 (.ref 825) (.ref 826) 827 1606 838 1607),
 (834,aG (fdOf (nthS pgm.main.body 43) "_law_kids" (.none) (.str "law_om0176_01" 1609) 833)),
 (833,cdOf "_law_kids" 1611 "_law_kids" 1612 1613 #[848,1,0,0,3] 830 318 831 (.none) (.none) 832 1614 848 1615),
 (841,aG (fdOf (nthS pgm.main.body 44) "_law_depths" (.none) (.str "law_om0176_01" 1609) 840)),
 (840,cdOf "_law_depths" 1617 "_law_depths" 1618 1619 #[855,1,0,0,3] 835 318 836 (.ref 837) (.ref 838) 839 1624 855 1625),
 (848,aG (fdOf (nthS pgm.main.body 45) "_law_rows" (.none) (.str "law_om0176_01" 1609) 847)),
 (847,cdOf "_law_rows" 1627 "_law_rows" 1628 1629 #[861,1,0,0,3] 842 318 843 (.ref 844) (.ref 845) 846 1636 861 1637),
 (853,aG (fdOf (nthS pgm.main.body 46) "_law_written" (.none) (.str "law_om0176_01" 1609) 852)),
 (852,cdOf "_law_written" 1639 "_law_written" 1640 1641 #[871,3,0,0,3] 849 318 850 (.none) (.none) 851 1642 871 1643),
 (858,aG (fdOf (nthS pgm.main.body 47) "_law_sets" (.none) (.str "law_om0176_01" 1609) 857)),
 (857,cdOf "_law_sets" 1645 "_law_sets" 1646 1647 #[875,3,0,0,3] 854 318 855 (.none) (.none) 856 1648 875 1649)]
noncomputable def kc7(w:World):Frag:=[
 (865,aG (fdOf (nthS pgm.main.body 48) "_law_laid" (.none) (.str "law_om0176_01" 1609) 864)),
 (864,cdOf "_law_laid" 1651 "_law_laid" 1652 1653 #[885,4,0,0,3] 859 318 860 (.ref 861) (.ref 862) 863 1662 885 1663),
 (872,aG (fdOf (nthS pgm.main.body 49) "_law_ways" (.none) (.str "law_om0176_01" 1609) 871)),
 (871,cdOf "_law_ways" 1665 "_law_ways" 1666 1667 #[896,4,0,0,3] 866 318 867 (.ref 868) (.ref 869) 870 1672 896 1673),
 (879,aG (fdOf (nthS pgm.main.body 50) "_law_orders" (.none) (.str "law_om0176_01" 1609) 878)),
 (878,cdOf "_law_orders" 1675 "_law_orders" 1676 1677 #[900,2,0,0,3] 873 318 874 (.ref 875) (.ref 876) 877 1683 900 1684),
 (886,aG (fdOf (nthS pgm.main.body 51) "_law_pair" (.none) (.str "law_om0176_01" 1609) 885)),
 (885,cdOf "_law_pair" 1686 "_law_pair" 1687 1688 #[905,3,0,0,3] 880 318 881 (.ref 882) (.ref 883) 884 1694 905 1695),
 (891,aG (fdOf (nthS pgm.main.body 52) "_law_read" (.none) (.str "law_om0176_01" 1609) 890)),
 (890,cdOf "_law_read" 1697 "_law_read" 1698 1699 #[913,2,0,0,3] 887 318 888 (.none) (.none) 889 1700 913 1701),
 (898,aG (fdOf (nthS pgm.main.body 53) "_law_fits" (.none) (.str "law_om0176_01" 1609) 897)),
 (897,cdOf "_law_fits" 1703 "_law_fits" 1704 1705 #[921,4,0,0,3] 892 318 893 (.ref 894) (.ref 895) 896 1710 921 1711)]
noncomputable def kc8(w:World):Frag:=[
 (905,aG (fdOf (nthS pgm.main.body 54) "_law_some" (.none) (.str "law_om0176_01" 1609) 904)),
 (904,cdOf "_law_some" 1713 "_law_some" 1714 1715 #[925,4,0,0,3] 899 318 900 (.ref 901) (.ref 902) 903 1722 925 1723),
 (912,aG (fdOf (nthS pgm.main.body 55) "_law_right" (.none) (.str "law_om0176_01" 1609) 911)),
 (911,cdOf "_law_right" 1725 "_law_right" 1726 1727 #[933,4,0,0,3] 906 318 907 (.ref 908) (.ref 909) 910 1734 933 1735),
 (917,aG (fdOf (nthS pgm.main.body 56) "law" (.none) (.str "law_om0176_01" 1609) 916)),
 (916,cdOf "law" 1737 "law" 1738 1739 #[942,1,0,0,3] 913 318 914 (.none) (.none) 915 1740 942 1741)]
noncomputable def Kc(w:World):Frag:=kc0 w++(kc1 w++(kc2 w++(kc3 w++(kc4 w++(kc5 w++(kc6 w++(kc7 w++(kc8 w))))))))
noncomputable abbrev jj:Obj:=⟨.none,none,.fields #[],#[]⟩
noncomputable def Vc(w:World):Frag:=(2,⟨.none,none,.dict #[en w "\x69mport.loaded._sre" 183 (.bool true),en w "class._frozen_importlib.BuiltinImporter" 185 (.ref 14),en w "watched.\x69mport" 206 (.ref 18),en w "class._frozen_importlib.ModuleSpec" 216 (.ref 22),en w "sys.modules.booked-epoch" 245 (.int (4) 0),en w "\x69mport.later-laid._sre" 270 (.bool true),en w "watched.library" 272 (.ref 27),en w "watched.library-objects" 0 (.str "\x0c\x1e" 0),en w "watched.library-deep._sre" 273 (.str "\x04\x00\x00\x0b\x04\x00\x00\x0b\x04\x00\x00\x03\x04\x00\x00\x0b\x08\x04dict\x02" 0),en w "\x69mport.loaded._collections" 280 (.bool true),en w "sys.modules.landed._collections" 294 (.bool true),en w "\x69mport.later-laid._collections" 309 (.bool true),en w "watched.library-deep._collections" 311 (.str "\x04\x00\x00\x1d\x04\x00\x00\x1d\x04\x00\x00\x03\x04\x00\x00\x1d\x08\x04dict\x02" 0),en w "type.__subclasses__.OSError.0" 407 (.int (73) 0),en w "type.__subclasses__.OSError.n" 408 (.int (1) 0)] 15,#[]⟩)::(746,jj)::(793,jj)::(810,jj)::Kc w
noncomputable def vAdr:List Addr:=[2,746,793,810,3,4,49,48,63,62,90,89,94,93,92,120,119,597,596,360,367,366,374,373,381,380,536,543,542,732,731,649,656,655,664,663,662,693,692,700,699,722,721,729,728,350,737,744,743,751,750,752,759,758,764,763,771,770,776,775,781,780,786,785,791,790,798,797,803,802,808,807,815,814,822,821,829,828,834,833,841,840,848,847,853,852,858,857,865,864,872,871,879,878,886,885,891,890,898,897,905,904,912,911,917,916]
end
section
set_option maxHeartbeats 0
noncomputable def toCg:List Obj->BT->Nat->Option (BT × Nat)
 | [],t,n=>some (t,n)
 | o::r,t,n=>match ((t.ins n o).get n).isSome with
  | true=>toCg r (t.ins n o) (n+1)
  | false=>none
theorem yc(life:Life):∀(l:List Obj) (t:BT) (n:Nat) (r:BT × Nat),toCg l t n=some r->(absHeap r.1 r.2 life).objs.toList=(absHeap t n life).objs.toList++l:=by
 intro l_
 induction l_ with
 | nil =>
  intro t n r h;cases h;simp
 | cons o l ih =>
  intro t n r h;have e:∀ {b},((t.ins n o).get n).isSome=b->cond b (toCg l (t.ins n o) (n+1)) none=some r:=λg=>g▸h;cases q:((t.ins n o).get n).isSome with
  | true =>
   rw[ih _ _ r (e q),absHeap_ins q];unfold Heap.push;simp
  | false=>exact nomatch e q
noncomputable def toSh(s:Shared):Option SharedT:=(toCg s.heap.objs.toList .nil 0).map λp=>⟨p.1,p.2,s.heap.life,s.gens,s.drawn,s.toks,s.os⟩
theorem xY{s:Shared}{t:SharedT}(h:toSh s=some t):t.abs=s:=by
 obtain⟨p,hp,rfl⟩:=M8.mp h;have e:=yc s.heap.life _ _ _ _ hp;have z:(absHeap .nil 0 s.heap.life).objs.toList=[]:=rfl;rw[z,Mj] at e;obtain⟨⟨objs,life⟩,gens,drawn,toks,os⟩:=s;show Shared.mk (absHeap p.1 p.2 life) gens drawn toks os=_;have:absHeap p.1 p.2 life=⟨objs,life⟩:=by
  show Heap.mk _ life=_
  congr 1
  exact Q8.mp e
 rw[this]
theorem z6{tb:String->Option Builtin}{p:Program}{w:World}{n₀:Nat}{ann:Option Value}:∀(n:Nat) (s s':Shared) (t:Thread) (f:Flow) (c:Code) (q:Pos),segRun tb p w n₀ ann 0 n s t=some (f,s',c,q)->topRun tb p w n₀ ann n s t=some s':=by
 intro l_
 induction l_ with
 | zero =>
  intro _ _ _ _ _ _ h;simp[segRun] at h
 | succ n ih =>
  intro s s' t f c q h;unfold segRun at h;unfold topRun;have e:through t=(endAt 0 t).isSome:=by
   obtain⟨cur,code,pos,stack⟩:=t;unfold through endAt;cases stack with
   | nil=>cases cur <;> first | rfl | (rename_i a;cases a <;> rfl)
   | cons _ _=>rfl
  cases he:endAt 0 t with
  | some g =>
   rw[he] at h e;rw[e];cases h;rfl
  | none =>
   rw[he] at h e;rw[e];dsimp only[Option.isSome] at h ⊢;cases hk:stepOk n₀ ann t with
   | false=>rw[hk] at h;cases h
   | true =>
    rw[hk] at h;dsimp only at h ⊢;cases hs:step (denote tb) p w s t with
    | halt o s₂=>rw[hs] at h;cases h
    | go s₂ t₂=>rw[hs] at h;exact ih s₂ s' t₂ f c q h
noncomputable def qv:Program:={pw with main:={pw.main with body:=[nthS pw.main.body 56]}}
noncomputable def lz:List Str:=Od KY ["_sre","deque","_wall","_twin_re_1","_whence","_index","UnsupportedOperation","IOBase","BufferedIOBase","TextIOBase","BytesIO","StringIO","_kind","_fspath","_check_arg_types","isabs","join","join_path","dirname","shlex","split","join_shlex","_find_unsafe","quote","_twin_re_7","unmatched","HEADER_TOKEN_RE","HEADER_QUOTED_VALUE_RE","HEADER_VALUE_RE","HEADER_ESCAPE_RE","split_header_words","HEADER_JOIN_TOKEN_RE","HEADER_JOIN_ESCAPE_RE","join_header_words","sorted_list_difference","unorderable_list_difference","_law_kids","_law_depths","_law_rows","_law_written","_law_sets","_law_laid","_law_ways","_law_orders","_law_pair","_law_read","_law_fits","_law_some","_law_right"]
noncomputable def Yf(s:Shared):List (Addr × Option Obj):=vAdr.map λa=>(a,s.heap.get? a)
noncomputable def Ya(w:World):List (Addr × Option Obj):=(Vc w).map λx=>(x.1,some x.2)
noncomputable abbrev Nn:Nat:=8000
noncomputable abbrev sr:List Str:=importedModules pw.main.body
noncomputable abbrev chk(s₀ s₁:Shared):Bool:=s₀.heap.isNs mainGlobals&&s₀.gens.size==0&&(staticsOk sr s₀.heap s₁.heap&&namesBound pw s₁.heap&&gensDone s₁&&laidKept s₀.heap s₁.heap)
noncomputable def gT(s:SharedT)(a:Nat):Option Obj:=match Nat.blt a s.n with
 | true=>alive ((s.tree.get a).getD default)
 | false=>none
theorem G9(s:SharedT)(a:Nat):s.abs.heap.get? a=gT s a:=by
 have k:s.abs.heap.objs[a]?=if a<s.n then some ((s.tree.get a).getD default) else none:=absHeap_at s.tree s.n s.life a;unfold Heap.get? gT;rw[k];cases e:Nat.blt a s.n with
 | true =>
  rw[if_pos (Nat.blt_eq.mp e)];obtain⟨c,d,dt,sl⟩:=(s.tree.get a).getD default;cases dt <;> rfl
 | false=>rw[if_neg λh=>nomatch (Nat.blt_eq.mpr h).symm.trans e]
theorem Gp(w:World):((Fast.tw10274390034422433532 Fast.tw14364793385576792824 (opening pw) w Nn (Fast.tw1435165496053646825 (opening pw)).fst (Fast.tw1435165496053646825 (opening pw)).snd).bind (Fast.tw14289696077712309145 pw)).bind (λs₀=>(toSh s₀).bind λst =>
 (Fast.tw10110043849684766642 Fast.tw14364793385576792824 pw w s₀.heap.objs.size (s₀.heap.nsMap mainGlobals "__annotations__") 0 Nn st (topStub pw)).bind λr=>some (chk s₀ r.2.1.abs,Fast.tw4187177175401517315 qv lz sr (λ_=>true) true r.2.1.abs,vAdr.map λa=>(a,gT r.2.1 a)))=some (true,openGood qv lz,Ya w):=by
 rfl'
theorem leftO:LeftO pw qv lz (λ_=>true) Yf Ya Nn:=λw=>by
 have h:=Gp w;rw[<-Fast.te10274390034422433532,<-Fast.te14364793385576792824,<-Fast.te1435165496053646825,<-Fast.te14289696077712309145,<-Fast.te10110043849684766642,<-Fast.te4187177175401517315] at h;obtain⟨s₀,h0,h⟩:=Ql.mp h;obtain⟨st,h1,h⟩:=Ql.mp h;obtain⟨r,h2,h⟩:=Ql.mp h;obtain⟨f,s',c,q⟩:=r;have h3:=segRun_of h2;rw[xY h1] at h3;have h4:=z6 _ _ _ _ _ _ _ h3;have h:=Option.some.inj h;obtain⟨k,h⟩:=Prod.mk.inj h;have hf:fencedOpening treeTable pw w Nn=some s₀:=h0;unfold openEnds;rw[hf];obtain⟨k,k5⟩:=Px.mp k;have ht:topFrom treeTable pw w Nn s₀=some s'.abs:=by
  unfold topFrom;rw[k];dsimp only;rw[h4];show(match _ with | true=>some s'.abs | false=>none)=_
  rw[k5]
 rw[O4,ht];refine congrArg some (.trans (congrArg (Prod.mk _) ?_) h);exact MN λa _=>congrArg (Prod.mk a) (G9 s' a)
end
section
set_option genInjectivity true
inductive V where
 | none
 | bool (b:Bool)
 | int (i:Int)
 | str (s:Str)
 | tup (l:List V)
 | lst (l:List V)
 | ty (n:String)
 | bi (id:String)
 | gl (x:Str)
 | own (i:Nat)
 | obj (i:Nat)
 | mat (re text:Str) (sp:List (Nat × Nat))
 | deq
inductive Cell where
 | vars (l:List (Str × V))
 | cell (v:Option V)
 | list (l:List V)
 | inst (cls:Str) (l:List (Str × V))
 | dead
structure Lv where
 names:List (Str × NameKind)
 loc:Nat
 cells:List (Str × Nat)
structure Sg where
 lv:List Lv
 cs:List Cell
inductive Fl where
 | next | brk | cont
 | ret (v:V)
 | exc (c:String)
noncomputable def aget{α:Type}(x:Str):List (Str × α)->Option α
 | []=>.none
 | (y,t)::r=>match decide (y=x) with
  | true=>some t
  | false=>aget x r
noncomputable def aput{α:Type}(x:Str)(v:α):List (Str × α)->List (Str × α)
 | []=>[(x,v)]
 | (y,t)::r=>match decide (y=x) with
  | true=>(y,v)::r
  | false=>(y,t)::aput x v r
theorem dC{α:Type}{x y:Str}{t:α}{r:List (Str × α)}(h:y=x):aget x ((y,t)::r)=some t:=by
 exact congrArg (cond · (some t) (aget x r)) (decide_eq_true h)
theorem cI{α:Type}{x y:Str}{t:α}{r:List (Str × α)}(h:¬ y=x):aget x ((y,t)::r)=aget x r:=by
 exact congrArg (cond · (some t) (aget x r)) (decide_eq_false h)
theorem oK{α:Type}{x y:Str}{v t:α}{r:List (Str × α)}(h:y=x):aput x v ((y,t)::r)=(y,v)::r:=by
 exact congrArg (cond · ((y,v)::r) ((y,t)::aput x v r)) (decide_eq_true h)
theorem j8{α:Type}{x y:Str}{v t:α}{r:List (Str × α)}(h:¬ y=x):aput x v ((y,t)::r)=(y,t)::aput x v r:=by
 exact congrArg (cond · ((y,v)::r) ((y,t)::aput x v r)) (decide_eq_false h)
theorem kh{α:Type}{x y:Str}{v t:α}{r:List (Str × α)}(h:aget x ((y,t)::r)=some v):y=x/\t=v∨¬ y=x/\aget x r=some v:=by
 by_cases q:y=x
 ·rw[dC q] at h;exact .inl ⟨q,Option.some.inj h⟩
 ·rw[cI q] at h;exact .inr ⟨q,h⟩
noncomputable def mkS(l:List Nat):Str:=⟨l.toArray⟩
noncomputable def bR(a b:Str):Bool:=decide (a.cps.toList<b.cps.toList)
noncomputable def txts:List V->Option (List Str)
 | []=>some []
 | .str s::r=>(txts r).map (s :: ·)
 | _=>.none
noncomputable def nums:List V->Option (List Int)
 | []=>some []
 | .int i::r=>(nums r).map (i :: ·)
 | _=>.none
noncomputable def insS(a:Str):List Str->List Str
 | []=>[a]
 | b::r=>match bR b a with | true=>b::insS a r | false=>a::b::r
theorem t8{a b:Str}{r:List Str}(h:bR b a=true):insS a (b::r)=b::insS a r:=congrArg (cond · (b::insS a r) (a::b::r)) h
theorem ud{a b:Str}{r:List Str}(h:bR b a=false):insS a (b::r)=a::b::r:=congrArg (cond · (b::insS a r) (a::b::r)) h
noncomputable def bJ:List Str->List Str
 | []=>[]
 | a::r=>insS a (bJ r)
noncomputable def aY(x:Str):List Str->List Str
 | []=>[]
 | a::r=>match decide (a=x) with | true=>r | false=>a::aY x r
theorem jX{a x:Str}{r:List Str}(h:a=x):aY x (a::r)=r:=congrArg (cond · r (a::aY x r)) (decide_eq_true h)
theorem jY{a x:Str}{r:List Str}(h:¬ a=x):aY x (a::r)=a::aY x r:=congrArg (cond · r (a::aY x r)) (decide_eq_false h)
noncomputable def inds:Nat->Nat->List V
 | _,0=>[]
 | i,n+1=>.int i::inds (i+1) n
noncomputable def bZ:Nat->List V->List V
 | _,[]=>[]
 | i,v::r=>.tup [.int i,v]::bZ (i+1) r
noncomputable def aC(t:Str)(p:Nat × Nat):List Nat:=(t.cps.toList.take p.2).drop p.1
structure Glb where
 own:List Str
 bis:List (Str × V)
inductive Nm(g:Glb)(cs:List Cell)(x:Str)(l:Lv):V->Prop
 | loc {vs:List (Str × V)} {v:V}:aget x l.names=some .local->cs[l.loc]?=some (.vars vs)->aget x vs=some v->Nm g cs x l v
 | cel {i:Nat} {v:V}:aget x l.names=some .cell->aget x l.cells=some i->cs[i]?=some (.cell (some v))->Nm g cs x l v
 | fre {i:Nat} {v:V}:aget x l.names=some .free->aget x l.cells=some i->cs[i]?=some (.cell (some v))->Nm g cs x l v
 | glo:aget x l.names=some .globalImplicit->g.own.contains x=true->Nm g cs x l (.gl x)
 | bis {v:V}:aget x l.names=some .globalImplicit->g.own.contains x=false->aget x g.bis=some v->Nm g cs x l v
inductive Sv(x:Str)(v:V):Sg->Sg->Prop
 | loc {l:Lv} {r:List Lv} {cs:List Cell} {vs:List (Str × V)}:aget x l.names=some .local->cs[l.loc]?=some (.vars vs)->Sv x v ⟨l::r,cs⟩ ⟨l::r,cs.set l.loc (.vars (aput x v vs))⟩
 | cel {l:Lv} {r:List Lv} {cs:List Cell} {i:Nat} {u:Option V}:aget x l.names=some .cell->aget x l.cells=some i->cs[i]?=some (.cell u)->Sv x v ⟨l::r,cs⟩ ⟨l::r,cs.set i (.cell (some v))⟩
abbrev So(x:Str)(l:List V)(s t:Sg):Prop:=Sv x (.own s.cs.length) ⟨s.lv,s.cs++[.list l]⟩ t
noncomputable def bf:List (Str × NameKind)->List (Str × Nat)->List (Str × Nat)->Option (List (Str × Nat))
 | [],_,acc=>some acc
 | (x,k)::r,c,acc=>match decide (k=.free) with
  | true=>(match aget x c with | some i=>bf r c ((x,i)::acc) | .none=>.none)
  | false=>bf r c acc
theorem vX{x:Str}{k:NameKind}{r:List (Str × NameKind)}{c acc cl:List (Str × Nat)}(h:bf ((x,k)::r) c acc=some cl):(k=.free/\∃i,aget x c=some i/\bf r c ((x,i)::acc)=some cl)∨(¬ k=.free/\bf r c acc=some cl):=by
 have e:∀ {b},decide (k=.free)=b->cond b (match aget x c with | some i=>bf r c ((x,i)::acc) | .none=>.none) (bf r c acc)=some cl:=λg=>g▸h
 by_cases q:k=.free
 ·have h:=e (decide_eq_true q)
  cases z:aget x c with
  | none=>rw[z] at h;exact nomatch h
  | some i=>rw[z] at h;exact .inl ⟨q,i,rfl,h⟩
 ·exact .inr ⟨q,e (decide_eq_false q)⟩
noncomputable def ao:List (Str × NameKind)->List Cell
 | []=>[]
 | (_,k)::r=>match k == .cell with
  | true=>.cell .none::ao r
  | false=>ao r
theorem mJ{x:Str}{k:NameKind}{r:List (Str × NameKind)}(h:(k == .cell)=true):ao ((x,k)::r)=.cell .none::ao r:=congrArg (cond · (Cell.cell Option.none::ao r) (ao r)) h
theorem mK{x:Str}{k:NameKind}{r:List (Str × NameKind)}(h:(k == .cell)=false):ao ((x,k)::r)=ao r:=congrArg (cond · (Cell.cell Option.none::ao r) (ao r)) h
noncomputable def mO:List (Str × NameKind)->Bool
 | []=>true
 | (x,_)::r=>(aget x r).isNone&&mO r
noncomputable def plainName(x:Str × NameKind):Bool := !(x.1==("__debug__":Str)) && !(x.1==("__classdict__":Str))
noncomputable def dw(scope:Scope):Bool:=decide (scope.kind=.function)&&mO scope.names&&scope.names.all plainName&&(aget ".0" scope.names).isSome
noncomputable def du(scope:Scope)(cl:List (Str × Nat))(s:Sg):Sg:=⟨⟨scope.names,s.cs.length,cellsFrom (s.cs.length+1) scope.names cl⟩::s.lv,s.cs++(.vars []::ao scope.names)⟩
noncomputable def bw(p q:Pos):Bool:=p.endLine==q.line
noncomputable def ek:Expr->Nat
 | .ListComp .. => 1
 | .SetComp .. => 1
 | .DictComp .. => 1
 | .Slice .. => 2
 | .Starred .. => 3
 | .Set .. => 4
 | .Call (.Name _ _) _ _ _=>5
 | _=>0
noncomputable def baseOk(e:Expr):Bool := !Nu (ek e) 5
noncomputable def flat:V->Bool
 | .none=>true
 | .bool _=>true
 | .int _=>true
 | .str _=>true
 | .lst _=>true
 | .tup _=>true
 | _=>false
noncomputable def hand:V->Bool
 | .mat .. => true
 | v=>flat v
noncomputable def isStarred(e:Expr):Bool:=Nu (ek e) 3
theorem jk{e:Expr}{es:List Expr}{env:Env}(h:isStarred e=false):starEach (e::es) env=(false,eval e env)::starEach es env:=by
 cases e <;> first | rfl | exact zn4 h
noncomputable def cN(es:List Expr):Bool:=es.all λe => !isStarred e
noncomputable def isSet(e:Expr):Bool:=Nu (ek e) 4
noncomputable def iy(e:Expr):Bool:=Nu (ek e) 1
noncomputable def isSlice(e:Expr):Bool:=Nu (ek e) 2
noncomputable def below(n:Nat):V->Bool
 | .own i=>decide (i<n)
 | .obj i=>decide (i<n)
 | _=>true
noncomputable def aD(n:Nat):Cell->Bool
 | .vars l=>l.all λx=>below n x.2
 | .cell (some v)=>below n v
 | .inst _ l=>l.all λx=>below n x.2
 | _=>true
theorem Exists.p3{α:Sort _}{A B:α->Prop}{G:Prop}(h:∃x,A x/\B x)(k:∀x,A x->B x->G):G:=h.elim λx h=>k x h.1 h.2
theorem Exists.p5{α β:Sort _}{A B C:α->β->Prop}{G:Prop}(h:∃x y,A x y/\B x y/\C x y)(k:∀x y,A x y->B x y->C x y->G):G:=h.elim λx h=>h.elim λy h=>k x y h.1 h.2.1 h.2.2
theorem sb0{n j m:Nat}(h:n-j=m+1):n=m+1+j:=(Nat.sub_eq_iff_eq_add (Nb (Ou (h▸My m)))).mp h
theorem sb1{n j:Nat}(h:j<n):∃m,n-j=m+1:=⟨_,(Nat.sub_add_cancel (Ri h)).symm⟩
theorem sb2{n j m:Nat}(h:n-j=m+1):n-m=j+1:=by rw[sb0 h,LR,Ow,Mf]
theorem sb3{n j m:Nat}(h:n-m=j+1):n-(j+1)=m:=by rw[sb0 h,Ow]
theorem sb4{n j m:Nat}(h:n-m=j+1):n-1-m=j:=by rw[Rh,h];rfl
theorem sb6{n j:Nat}(h:j<n):n-1-(n-j-1)=j:=by rw[Rh n j 1,Nat.sub_sub_self (Nat.le_sub_one_of_lt h)]
theorem I7{k n m:Nat}(h:n<=m):min k n+(n-(k+1))<=m :=
 KQ (Mi (Rj (Rp (Qn k n)) n) _) (KQ (LK (N7 (Nr k n))) h)
theorem tn1(n:Nat):(((n+1:Nat):Int)-1).toNat=n:=by rw[Int.natCast_succ,Int.add_sub_cancel];rfl
end
section
set_option maxHeartbeats 0
theorem law_said:PySem.Challenge.rw_om0176_01.wellSaid=true:=by
 unfold OpenLaw.wellSaid OpenRow.wellSaid OpenRow.partSaid looksOpen
 repeat' (with_reducible refine look_both ?_ ?_)
 all_goals (
  try (rewrite[Fast.te11788848310118352699];try with_reducible rfl)
  try (rewrite[Fast.te9807087744658564304];try with_reducible rfl)
  try (rewrite[Fast.te12862048085361865435];try with_reducible rfl)
  try (rewrite[Fast.te8377067652309620493];try with_reducible rfl)
  try (rewrite[Fast.te18344453789297297638];try with_reducible rfl)
  try (rewrite[Fast.te14412699480532031325];try with_reducible rfl)
  try (rewrite[Fast.te8326940854005059898];try with_reducible rfl)
  try (rewrite[Fast.te5923862056798008813];try with_reducible rfl)
  try (rewrite[Fast.te17691160309236699985];try with_reducible rfl)
  try (rewrite[Fast.te13343964577679436407];try with_reducible rfl)
  try (rewrite[Fast.te17119622794617984870];try with_reducible rfl)
  try (rewrite[Fast.te17868728402115742887];try with_reducible rfl)
  try (rewrite[Fast.te9706382859710513879];try with_reducible rfl)
  try (rewrite[Fast.te2357444279172408678];try with_reducible rfl)
  try (rewrite[Fast.te4857012375875476094];try with_reducible rfl)
  try (rewrite[Fast.named_eq];try with_reducible rfl)
  try (rewrite[Fast.te13582783067957832011];try with_reducible rfl)
  try (rewrite[Fast.te5318747976498570220];try with_reducible rfl)
  try (rewrite[Fast.te12749700546528644094];try with_reducible rfl)
  try (rewrite[Fast.te10501279942588096481];try with_reducible rfl)
  try (rewrite[Fast.te8179353310426384613];try with_reducible rfl)
  try (rewrite[Fast.te797321630700447069];try with_reducible rfl)
  try (rewrite[Fast.te9558739934217749035];try with_reducible rfl)
  try (rewrite[Fast.te16286561074155671207];try with_reducible rfl)
  try (rewrite[Fast.te6984425678791042302];try with_reducible rfl)
  try (rewrite[Fast.te482687673346738481];try with_reducible rfl)
  try (rewrite[Fast.te12879404354523853263];try with_reducible rfl)
  try (rewrite[Fast.te10792542408131684335];try with_reducible rfl)
  try (rewrite[Fast.te7723801398212525404];try with_reducible rfl)
  try (rewrite[Fast.te9572597257264208301];try with_reducible rfl)
  try (rewrite[Fast.te2368527892694137696];try with_reducible rfl)
  try (rewrite[Fast.te3471404346716756564];try with_reducible rfl)
  try (rewrite[Fast.te17095254045102204799];try with_reducible rfl)
  try (rewrite[R.allR_eq];try with_reducible rfl)
  try (rewrite[R.filterR_eq];try with_reducible rfl)
  try (rewrite[Fast.sDec_eq];try with_reducible rfl)
  decide +kernel)
end
section
abbrev Frz:=Addr->Option Obj
noncomputable abbrev aa(vs:Array Value)(n:Nat):Obj:=⟨.type "list",none,.seq vs n,#[]⟩
noncomputable abbrev aQ(vs:Array Value)(n:Nat):Obj:=⟨.type "tuple",none,.seq vs n,#[]⟩
mutual
inductive Pu(P:Frz):Value->V->Prop
 | none:Pu P .none .none
 | bool (b:Bool):Pu P (.bool b) (.bool b)
 | int (i:Int) (t:Tok):Pu P (.int i t) (.int i)
 | str (s:Str) (t:Tok):Pu P (.str s t) (.str s)
 | lst {a:Addr} {vs:Array Value} {l:List V} {n:Nat}:P a=some (aa vs n)->PuL P vs.toList l->Pu P (.ref a) (.lst l)
 | tup {a:Addr} {vs:Array Value} {l:List V} {n:Nat}:P a=some (aQ vs n)->PuL P vs.toList l->Pu P (.ref a) (.tup l)
inductive PuL(P:Frz):List Value->List V->Prop
 | nil:PuL P [] []
 | cons {v:Value} {d:V} {vs:List Value} {ds:List V}:Pu P v d->PuL P vs ds->PuL P (v::vs) (d::ds)
end
def FLe(P P':Frz):Prop:=∀b o,P b=some o->P' b=some o
theorem FLe.refl(P:Frz):FLe P P:=λ_ _ h=>h
theorem FLe.trans{P P' P'':Frz}(a:FLe P P')(b:FLe P' P''):FLe P P'':=λ_ _ h=>b _ _ (a _ _ h)
theorem Pu.mono{P P':Frz}(hp:FLe P P'){v:Value}{d:V}(h:Pu P v d):Pu P' v d :=
 Pu.rec (motive_1:=λv d _=>Pu P' v d) (motive_2:=λvs ds _=>PuL P' vs ds) .none .bool .int .str (λe _ q=>.lst (hp _ _ e) q) (λe _ q=>.tup (hp _ _ e) q) .nil (λ_ _ a b=>.cons a b) h
theorem PuL.mono{P P':Frz}(hp:FLe P P'){vs:List Value}{ds:List V}(h:PuL P vs ds):PuL P' vs ds :=
 PuL.rec (motive_1:=λv d _=>Pu P' v d) (motive_2:=λvs ds _=>PuL P' vs ds) .none .bool .int .str (λe _ q=>.lst (hp _ _ e) q) (λe _ q=>.tup (hp _ _ e) q) .nil (λ_ _ a b=>.cons a b) h
theorem PuL.nilI{P:Frz}{vs:List Value}(h:PuL P vs []):vs=[]:=by cases h;rfl
theorem PuL.consI{P:Frz}{vs:List Value}{d:V}{ds:List V}(h:PuL P vs (d::ds)):∃v ws,vs=v::ws/\Pu P v d/\PuL P ws ds:=by
 cases h with | cons a b=>exact⟨_,_,rfl,a,b⟩
theorem PuL.length{P:Frz}:∀ {ds:List V} {vs:List Value},PuL P vs ds->vs.length=ds.length
 | [],_,h=>congrArg Mx h.nilI
 | _::_,_,h=>by obtain⟨v,ws,rfl,_,b⟩:=h.consI;exact congrArg (· + 1) b.length
theorem PuL.append{P:Frz}{ws:List Value}{es:List V}:∀ {ds:List V} {vs:List Value},PuL P vs ds->PuL P ws es->PuL P (vs++ws) (ds++es)
 | [],_,h,k=>h.nilI▸k
 | _::_,_,h,k=>by obtain⟨v,ws,rfl,a,b⟩:=h.consI;exact .cons a (b.append k)
theorem PuL.get{P:Frz}:∀ {ds:List V} {vs:List Value} (_:PuL P vs ds) {i:Nat} {d:V},ds[i]?=some d->∃v,vs[i]?=some v/\Pu P v d
 | [],_,_,_,_,h=>by cases h
 | _::_,_,k,0,_,h=>by obtain⟨v,ws,rfl,a,b⟩:=k.consI;cases h;exact⟨v,rfl,a⟩
 | _::_,_,k,i+1,_,h=>by obtain⟨v,ws,rfl,a,b⟩:=k.consI;exact b.get (i:=i) h
theorem PuL.take{P:Frz}:∀(n:Nat) {ds:List V} {vs:List Value},PuL P vs ds->PuL P (vs.take n) (ds.take n)
 | 0,_,_,_=>.nil
 | n+1,[],_,h=>h.nilI ▸ .nil
 | n+1,_::_,_,h=>by obtain⟨v,ws,rfl,a,b⟩:=h.consI;exact .cons a (PuL.take n b)
theorem PuL.set{P:Frz}{v:Value}{d:V}(hv:Pu P v d):∀(n:Nat) {ds:List V} {vs:List Value},PuL P vs ds->PuL P (vs.set n v) (ds.set n d)
 | _,[],_,h=>h.nilI ▸ .nil
 | 0,_::_,_,h=>by obtain⟨v,ws,rfl,a,b⟩:=h.consI;exact .cons hv b
 | n+1,_::_,_,h=>by obtain⟨v,ws,rfl,a,b⟩:=h.consI;exact .cons a (PuL.set hv n b)
structure Dc where
 mg:Str->Option Value
 cls:Str->Addr
noncomputable abbrev dm:Obj:=⟨.type "collections.deque",none,.fields #[.none,rawInt 0],#[]⟩
structure Gh where
 ρ:Nat->Addr
 kc:Nat->Str
 k:Nat
noncomputable def bU:List (Nat × Nat)->List Value
 | []=>[]
 | (a,b)::r=>rawInt a::rawInt b::bU r
noncomputable abbrev cC(s pat p l i sp:Value):Obj:=⟨.type "re.Match",none,.fields #[s,pat,p,l,i,sp],#[]⟩
noncomputable def iz:Value->Bool
 | .builtin i=>(withoutEnding? i "#data").isNone
 | _=>true
inductive Is(D:Dc)(γ:Gh)(P:Frz):Value->V->Prop
 | pu {v:Value} {d:V}:Pu P v d->Is D γ P v d
 | ty (n:String):Is D γ P (.type n) (.ty n)
 | bi (id:String):iz (.builtin id)=true->Is D γ P (.builtin id) (.bi id)
 | gl {x:Str} {v:Value}:D.mg x=some v->Is D γ P v (.gl x)
 | own {i:Nat}:i<γ.k->Is D γ P (.ref (γ.ρ i)) (.own i)
 | obj {a:Addr} {i:Nat}:i<γ.k->P a=some ⟨.ref (D.cls (γ.kc i)),some (γ.ρ i),.plain,#[]⟩->Is D γ P (.ref a) (.obj i)
 | mat {a b:Addr} {re t:Str} {tk:Tok} {sp:List (Nat × Nat)} {pat p l i:Value} {n:Nat}:P a=some (cC (.str t tk) pat p l i (.ref b))->D.mg re=some pat->P b=some (aQ (bU sp).toArray n) ->
   Is D γ P (.ref a) (.mat re t sp)
 | deq {a:Addr}:P a=some dm->Is D γ P (.ref a) .deq
theorem Is.mono{D:Dc}{γ:Gh}{P P':Frz}(hp:FLe P P'){v:Value}{d:V}:Is D γ P v d->Is D γ P' v d :=
 Is.rec (motive:=λv d _=>Is D γ P' v d) (λh=>.pu (h.mono hp)) .ty .bi .gl .own (λh e=>.obj h (hp _ _ e)) (λh e f=>.mat (hp _ _ h) e (hp _ _ f)) λh=>.deq (hp _ _ h)
structure Gh.Le(γ γ':Gh):Prop where
 k:γ.k<=γ'.k
 ρ:∀i,i<γ.k->γ'.ρ i=γ.ρ i
 kc:∀i,i<γ.k->γ'.kc i=γ.kc i
theorem Gh.Le.refl(γ:Gh):γ.Le γ:=⟨K3 _,λ_ _=>rfl,λ_ _=>rfl⟩
theorem Gh.Le.trans{a b c:Gh}(x:a.Le b)(y:b.Le c):a.Le c :=
 ⟨KQ x.k y.k,λi h=>(y.ρ i (Lk h x.k)).trans (x.ρ i h),λi h=>(y.kc i (Lk h x.k)).trans (x.kc i h)⟩
theorem Is.gmono{D:Dc}{γ γ':Gh}{P:Frz}(hg:γ.Le γ'){v:Value}{d:V}:Is D γ P v d->Is D γ' P v d
 | .pu h=>.pu h
 | .ty n=>.ty n
 | .bi id h=>.bi id h
 | .gl h=>.gl h
 | .own h=>by rw[<-hg.ρ _ h];exact .own (Lk h hg.k)
 | .obj h e=>.obj (Lk h hg.k) (by rw[hg.ρ _ h,hg.kc _ h];exact e)
 | .mat h e f=>.mat h e f
 | .deq h=>.deq h
def bA(h:Heap)(cv:Value):Prop:=∃a oc vs t q,cv=.ref a/\h.get? a=some oc/\oc.cls=.type "code"/\oc.data=.fields vs/\vs[1]?=some (.str q t)
theorem bA.rec_{h:Heap}{cv:Value}(x:bA h cv):∃q,h.CodeRec cv q:=let ⟨a,oc,vs,t,q,e1,e2,_,e4,e5⟩:=x;⟨q,a,oc,vs,t,e1,e2,e4,e5⟩
def b7(h:Heap)(a:Addr):Prop:=¬ bA h (.ref a)
theorem b7.cls{h:Heap}{a:Addr}{o:Obj}(e:h.get? a=some o)(hc:o.cls≠.type "code"):b7 h a:=λ⟨a',oc,vs,t,q,e1,e2,e3,_⟩=>by
 cases e1;rw[e] at e2;cases e2;exact hc e3
theorem b7.data{h:Heap}{a:Addr}{o:Obj}(e:h.get? a=some o)(hc:∀vs,o.data≠.fields vs):b7 h a:=λ⟨a',oc,vs,t,q,e1,e2,_,e4,_⟩=>by
 cases e1;rw[e] at e2;cases e2;exact hc _ e4
theorem tyC{n:String}(h:n≠"code"):Value.type n≠.type "code":=λe=>h (Value.type.inj e)
inductive Tri(h:Heap):List Value->Prop
 | nil:Tri h []
 | cons {i j:Int} {t u:Tok} {cv:Value} {r:List Value}:bA h cv->Tri h r->Tri h (.int i t::.int j u::cv::r)
theorem Tri.map{h h':Heap}(k:∀cv,bA h cv->bA h' cv){l:List Value}(x:Tri h l):Tri h' l:=by
 induction x with
 | nil=>exact .nil
 | cons c _ ih=>exact .cons (k _ c) ih
def Sim(h':Heap)(o o':Obj):Prop:=o'=o∨(o.cls=.type "frame"/\o'.cls=o.cls/\o'.data=o.data/\o'.dict=o.dict) ∨
 (o.cls=.none/\∃vs more,o.data=.fields vs/\Tri h' more.toList/\o'={o with data:=.fields (vs++more)})
theorem Sim.codeRec{h':Heap}{oc:Obj}{a:Addr}{vs:Array Value}{tq:Tok}{q:Str}(hs:∃o',h'.get? a=some o'/\Sim h' oc o')(e3:oc.data=.fields vs)(e4:vs[1]?=some (.str q tq)):h'.CodeRec (.ref a) q:=by
 obtain⟨o',e5,s⟩:=hs;rcases s with rfl | ⟨_,_,q3,_⟩ | ⟨_,ws,more,q3,_,rfl⟩
 ·exact⟨a,_,vs,tq,rfl,e5,e3,e4⟩
 ·exact⟨a,o',vs,tq,rfl,e5,q3.trans e3,e4⟩
 ·rw[e3] at q3
  cases q3;refine⟨a,_,vs++more,tq,rfl,e5,rfl,?_⟩;rw[Array.getElem?_append_left (Q9.mp e4).1];exact e4
theorem Tri.keep{h h':Heap}(k:∀b o,h.get? b=some o->∃o',h'.get? b=some o'/\Sim h' o o'){l:List Value}(x:Tri h l):Tri h' l:=x.map λcv ⟨a,oc,vs,t,q,e1,e2,e3,e4,e5⟩=>by
 obtain⟨o',e',s⟩:=k a oc e2;rcases s with rfl | ⟨c,_⟩ | ⟨c,_⟩
 ·exact⟨a,_,vs,t,q,e1,e',e3,e4,e5⟩
 ·exact absurd (Value.type.inj (e3.symm.trans c)) (by decide)
 ·rw[e3] at c;cases c
theorem Sim.but{h h':Heap}{a:Addr}(hs:∀b o,b≠a->h.get? b=some o->h'.get? b=some o)(hn:b7 h a){o o':Obj}:Sim h o o'->Sim h' o o':=by
 rintro (e | e | ⟨h1,vs,more,h2,ht,h3⟩)
 ·exact .inl e
 ·exact .inr (.inl e)
 ·exact .inr (.inr ⟨h1,vs,more,h2,ht.map λcv ⟨b,oc,ws,t,q,e1,e2,e3⟩=>⟨b,oc,ws,t,q,e1,hs b oc (λz=>hn (by subst z;subst e1;exact⟨_,oc,ws,t,q,rfl,e2,e3⟩)) e2,e3⟩,h3⟩)
theorem Tri.append{h:Heap}{l m:List Value}(x:Tri h l)(y:Tri h m):Tri h (l++m):=by
 induction x with
 | nil=>exact y
 | cons c _ ih=>exact .cons c ih
theorem Sim.trans{h' h'':Heap}(k:∀b o,h'.get? b=some o->∃o',h''.get? b=some o'/\Sim h'' o o'){a b c:Obj}(x:Sim h' a b)(y:Sim h'' b c):Sim h'' a c:=by
 rcases x with rfl | ⟨h1,h2,h3,h4⟩ | ⟨h1,vs,more,h2,ht,rfl⟩
 ·exact y
 ·rcases y with rfl | ⟨g1,g2,g3,g4⟩ | ⟨g1,_⟩
  ·exact .inr (.inl ⟨h1,h2,h3,h4⟩)
  ·exact .inr (.inl ⟨h1,g2.trans h2,g3.trans h3,g4.trans h4⟩)
  ·rw[h2,h1] at g1;cases g1
 ·rcases y with rfl | ⟨g1,_⟩ | ⟨_,ws,mo,g2,gt,rfl⟩
  ·exact .inr (.inr ⟨h1,vs,more,h2,ht.keep k,rfl⟩)
  ·dsimp only at g1;rw[h1] at g1;cases g1
  ·dsimp only at g2
   cases g2;exact .inr (.inr ⟨h1,vs,more++mo,h2,by rw[Oq];exact(ht.keep k).append gt,by simp[Array.append_assoc]⟩)
theorem Sim.walk{h h':Heap}{W:List Addr}(hs:∀b o,b∉W->h.get? b=some o->h'.get? b=some o)(hn:∀b∈W,b7 h b){o o':Obj}:Sim h o o'->Sim h' o o':=by
 rintro (e | e | ⟨h1,vs,more,h2,ht,h3⟩)
 ·exact .inl e
 ·exact .inr (.inl e)
 ·exact .inr (.inr ⟨h1,vs,more,h2,ht.map λcv ⟨b,oc,ws,t,q,e1,e2,e3⟩=>⟨b,oc,ws,t,q,e1,hs b oc (λz=>hn b z ⟨_,oc,ws,t,q,rfl,e2,e3⟩) e2,e3⟩,h3⟩)
theorem tyF{n:String}(h:n≠"frame"):Value.type n≠.type "frame":=λe=>h (Value.type.inj e)
theorem tyN{n:String}:Value.type n≠.none:=λe=>by cases e
structure Keep(h h':Heap):Prop where
 sim:∀b o,h.get? b=some o->∃o',h'.get? b=some o'/\Sim h' o o'
theorem Keep.refl(h:Heap):Keep h h:=⟨λ_ o e=>⟨o,e,.inl rfl⟩⟩
theorem Keep.trans{a b c:Heap}(x:Keep a b)(y:Keep b c):Keep a c :=
 ⟨λi o e=>by
  obtain⟨o',e',s⟩:=x.sim i o e;obtain⟨o'',e'',s'⟩:=y.sim i o' e';exact⟨o'',e'',s.trans y.sim s'⟩⟩
theorem Keep.exact{h h':Heap}(k:Keep h h'){b:Addr}{o:Obj}(e:h.get? b=some o)(h1:o.cls≠.type "frame")(h2:o.cls≠.none):h'.get? b=some o:=by
 obtain⟨o',e',s⟩:=k.sim b o e;rcases s with rfl | ⟨q,_⟩ | ⟨q,_⟩
 ·exact e'
 ·exact absurd q h1
 ·exact absurd q h2
theorem Keep.of_push(h:Heap)(o:Obj):Keep h (h.push o):=⟨λb o' e=>⟨o',Heap.get?_push_of_some _ e,.inl rfl⟩⟩
theorem Keep.of_keeps{h h':Heap}(k:∀b o,h.get? b=some o->h'.get? b=some o):Keep h h':=⟨λb o e=>⟨o,k b o e,.inl rfl⟩⟩
theorem Keep.gone{h h':Heap}(k:Keep h h'){b:Addr}(e:h'.get? b=none):h.get? b=none:=by
 cases q:h.get? b with
 | none=>rfl
 | some o=>obtain⟨o',e',_⟩:=k.sim b o q;rw[e] at e';cases e'
theorem Keep.ns{h h':Heap}(k:Keep h h'){a:Addr}{m:Str->Option Value}(n:h.Ns a m):h'.Ns a m:=by
 obtain⟨o,es,ep,e,d,r⟩:=n;obtain⟨o',e',s⟩:=k.sim a o e;refine⟨o',es,ep,e',?_,r⟩;rcases s with rfl | ⟨_,_,q,_⟩ | ⟨_,vs,more,q,_⟩
 ·exact d
 ·rw[q];exact d
 ·rw[d] at q;cases q
abbrev Vars(D:Dc)(γ:Gh)(P:Frz)(es:Array DictEntry)(l:List (Str × V)):Prop:=∀x v,aget x l=some v->∃r,nsFind es x=some r/\Is D γ P r v
def cj(D:Dc)(γ:Gh)(P:Frz)(h:Heap)(i:Nat):Cell->Prop
 | .vars l=>∃o es ep,h.get? (γ.ρ i)=some o/\o.data=.dict es ep/\StrKeys es/\Vars D γ P es l
 | .cell v=>∃r,h.get? (γ.ρ i)=some ⟨.type "cell",none,.cell r,#[]⟩/\∀d,v=some d->∃x,r=some x/\Is D γ P x d
 | .list l=>∃vs n,h.get? (γ.ρ i)=some (aa vs n)/\PuL P vs.toList l
 | .inst c l=>γ.kc i=c/\∃es ep,h.get? (γ.ρ i)=some ⟨.type "dict",none,.dict es ep,#[]⟩/\StrKeys es/\Vars D γ P es l/\(∀x,aget x l=none->nsFind es x=none)/\es.size=l.length
 | .dead=>∃vs n,h.get? (γ.ρ i)=some (aa vs n)
structure Real(D:Dc)(γ:Gh)(P:Frz)(h:Heap)(cs:List Cell):Prop where
 k:γ.k=cs.length
 cell:∀i c,cs[i]?=some c->cj D γ P h i c
 inj:∀i j,i<γ.k->j<γ.k->γ.ρ i=γ.ρ j->i=j
 off:∀i c,cs[i]?=some c->c≠.dead->P (γ.ρ i)=none
 le:∀b o,P b=some o->h.get? b=some o
 kind:∀b o,P b=some o->o.cls≠.type "frame"/\o.cls≠.none
theorem Vars.mono{D:Dc}{γ:Gh}{P P':Frz}(hp:FLe P P'){es:Array DictEntry}{l:List (Str × V)}(h:Vars D γ P es l):Vars D γ P' es l :=
 λx v e=>let ⟨r,a,b⟩:=h x v e;⟨r,a,b.mono hp⟩
theorem Vars.gmono{D:Dc}{γ γ':Gh}{P:Frz}(hg:γ.Le γ'){es:Array DictEntry}{l:List (Str × V)}(h:Vars D γ P es l):Vars D γ' P es l :=
 λx v e=>let ⟨r,a,b⟩:=h x v e;⟨r,a,b.gmono hg⟩
theorem cj.keep{D:Dc}{γ:Gh}{P P':Frz}{h h':Heap}(hp:FLe P P')(k:Keep h h'){i:Nat}:∀ {c:Cell},cj D γ P h i c->cj D γ P' h' i c:=by
 intro c x;cases c with
 | vars l =>
  obtain⟨o,es,ep,e,d,s,v⟩:=x;obtain⟨o',e',q⟩:=k.sim _ _ e;refine⟨o',es,ep,e',?_,s,v.mono hp⟩;rcases q with rfl | ⟨_,_,q,_⟩ | ⟨_,vs,more,q,_⟩
  ·exact d
  ·rw[q];exact d
  ·rw[d] at q;cases q
 | cell v=>obtain⟨r,e,f⟩:=x;exact⟨r,k.exact e (tyF (by decide)) tyN,λd hd=>let ⟨x,a,b⟩:=f d hd;⟨x,a,b.mono hp⟩⟩
 | list l=>obtain⟨vs,n,e,p⟩:=x;exact⟨vs,n,k.exact e (tyF (by decide)) tyN,p.mono hp⟩
 | inst c l=>obtain⟨hc,es,ep,e,s,v,no⟩:=x;exact⟨hc,es,ep,k.exact e (tyF (by decide)) tyN,s,v.mono hp,no⟩
 | dead=>obtain⟨vs,n,e⟩:=x;exact⟨vs,n,k.exact e (tyF (by decide)) tyN⟩
structure Gr(P P':Frz)(h:Heap):Prop where
 le:FLe P P'
 new:∀b o,P' b=some o->P b=some o∨h.get? b=none
theorem Gr.refl(P:Frz)(h:Heap):Gr P P h:=⟨.refl P,λ_ _ h=>.inl h⟩
theorem Gr.trans{P P' P'':Frz}{h h':Heap}(x:Gr P P' h)(y:Gr P' P'' h')(k:Keep h h'):Gr P P'' h :=
 ⟨x.le.trans y.le,λb o e=>(y.new b o e).elim (x.new b o) λq=>.inr (k.gone q)⟩
theorem Real.there{D:Dc}{γ:Gh}{P:Frz}{h:Heap}{cs:List Cell}(R:Real D γ P h cs){i:Nat}(hi:i<γ.k):∃o,h.get? (γ.ρ i)=some o:=by
 have:∃c,cs[i]?=some c:=by
  rw[R.k] at hi;exact⟨cs[i],Lb hi⟩
 obtain⟨c,e⟩:=this;have:=R.cell i c e;cases c with
 | vars l=>obtain⟨o,es,ep,e,_⟩:=this;exact⟨_,e⟩
 | cell v=>obtain⟨r,e,_⟩:=this;exact⟨_,e⟩
 | list l=>obtain⟨vs,n,e,_⟩:=this;exact⟨_,e⟩
 | inst c l=>obtain⟨_,es,ep,e,_⟩:=this;exact⟨_,e⟩
 | dead=>obtain⟨vs,n,e⟩:=this;exact⟨_,e⟩
theorem Real.noCode{D:Dc}{γ:Gh}{P:Frz}{h:Heap}{cs:List Cell}(R:Real D γ P h cs){i:Nat}(hi:i<γ.k):b7 h (γ.ρ i):=by
 have hi':i<cs.length:=R.k▸hi;have:=R.cell i cs[i] (Lb hi');cases hc:cs[i] with
 | vars l=>rw[hc] at this;obtain⟨o,es,ep,e,d,_⟩:=this;exact .data e λvs q=>by rw[d] at q;cases q
 | cell v=>rw[hc] at this;obtain⟨r,e,_⟩:=this;exact .data e λvs q=>by cases q
 | list l=>rw[hc] at this;obtain⟨vs,n,e,_⟩:=this;exact .data e λvs q=>by cases q
 | inst c l=>rw[hc] at this;obtain⟨_,es,ep,e,_⟩:=this;exact .data e λvs q=>by cases q
 | dead=>rw[hc] at this;obtain⟨vs,n,e⟩:=this;exact .data e λvs q=>by cases q
theorem aU(h:Heap):h.get? h.objs.size=none:=by
 cases q:h.get? h.objs.size with
 | none=>rfl
 | some o=>exact absurd (Heap.lt_size q) (Mq _)
theorem Real.keep{D:Dc}{γ:Gh}{P P':Frz}{h h':Heap}{cs:List Cell}(R:Real D γ P h cs)(g:Gr P P' h)(k:Keep h h')(le:∀b o,P' b=some o->h'.get? b=some o)
  (kd:∀b o,P' b=some o->o.cls≠.type "frame"/\o.cls≠.none):Real D γ P' h' cs :=
 ⟨R.k,λi c e=>(R.cell i c e).keep g.le k,R.inj,λi c hc hd=>by
  have hi:i<γ.k:=by rw[R.k];exact(Ld.mp hc).1
  cases q:P' (γ.ρ i) with
  | none=>rfl
  | some o =>
   rcases g.new _ _ q with x | x
   ·rw[R.off i c hc hd] at x;cases x
   ·obtain⟨o',e'⟩:=R.there hi
    exact absurd (e'.symm.trans x) (λz=>by cases z),le,kd⟩
noncomputable def Frz.put(P:Frz)(a:Addr)(o:Obj):Frz:=λb=>if b=a then some o else P b
theorem Frz.put_self(P:Frz)(a:Addr)(o:Obj):P.put a o a=some o:=by simp[Frz.put]
theorem Frz.put_at{P:Frz}{a b:Addr}{o o':Obj}(e:P.put a o b=some o'):b=a/\o=o'∨P b=some o':=by
 by_cases q:b=a
 ·exact .inl ⟨q,Option.some.inj ((if_pos q).symm.trans e)⟩
 ·exact .inr ((if_neg q).symm.trans e)
theorem Real.none_at{D:Dc}{γ:Gh}{P:Frz}{h:Heap}{cs:List Cell}(R:Real D γ P h cs):P h.objs.size=none:=by
 cases q:P h.objs.size with
 | none=>rfl
 | some o=>exact absurd (Heap.lt_size (R.le _ _ q)) (Mq _)
theorem Gr.put{P:Frz}{h:Heap}{a:Addr}{o:Obj}(hn:P a=none)(hb:h.get? a=none):Gr P (P.put a o) h :=
 ⟨λb o' e=>by
  unfold Frz.put;rw[if_neg (λq=>by subst q;rw[hn] at e;cases e)];exact e,λb o' e=>by
  rcases Frz.put_at e with ⟨q,_⟩ | e
  ·subst q;exact .inr hb
  ·exact .inl e⟩
theorem Real.push{D:Dc}{γ:Gh}{P:Frz}{h:Heap}{cs:List Cell}(R:Real D γ P h cs){o:Obj}(hf:o.isFreed=false)(h1:o.cls≠.type "frame")(h2:o.cls≠.none) :
  Real D γ (P.put h.objs.size o) (h.push o) cs:=by
 refine R.keep (Gr.put R.none_at (aU h)) (Keep.of_push h o) (λb o' e=>?_) λb o' e=>?_
 ·rcases Frz.put_at e with ⟨q,w⟩ | e
  ·subst q w;exact Heap.get?_push_size _ hf
  ·exact Heap.get?_push_of_some _ (R.le _ _ e)
 ·rcases Frz.put_at e with ⟨_,w⟩ | e
  ·subst w;exact⟨h1,h2⟩
  ·exact R.kind _ _ e
theorem Real.upd{D:Dc}{γ:Gh}{P:Frz}{h h':Heap}{cs:List Cell}(R:Real D γ P h cs){i:Nat}{c0:Cell}(h0:cs[i]?=some c0)(hl:c0≠.dead)(hs:Heap.SameBut (γ.ρ i) h h'){c:Cell}(hc:cj D γ P h' i c):Real D γ P h' (cs.set i c):=by
 have hi:i<γ.k:=by rw[R.k];exact(Ld.mp h0).1
 refine⟨by rw[OD];exact R.k,λj d e=>?_,R.inj,λj d e hd=>?_,λb o e=>?_,R.kind⟩
 ·by_cases q:i=j
  ·subst q
   rw[Pb (by rw[<-R.k];exact hi)] at e
   cases e;exact hc
  ·rw[Og q] at e
   have hj:j<γ.k:=by rw[R.k];exact(Ld.mp e).1
   have ne:γ.ρ j≠γ.ρ i:=λz=>q (R.inj j i hj hi z).symm;have:=R.cell j d e;cases d with
   | vars l=>obtain⟨o,es,ep,e,r⟩:=this;exact⟨o,es,ep,(hs.2 _ ne).trans e,r⟩
   | cell v=>obtain⟨r,e,f⟩:=this;exact⟨r,(hs.2 _ ne).trans e,f⟩
   | list l=>obtain⟨vs,n,e,f⟩:=this;exact⟨vs,n,(hs.2 _ ne).trans e,f⟩
   | inst c l=>obtain⟨z,es,ep,e,f⟩:=this;exact⟨z,es,ep,(hs.2 _ ne).trans e,f⟩
   | dead=>obtain⟨vs,n,e⟩:=this;exact⟨vs,n,(hs.2 _ ne).trans e⟩
 ·by_cases q:i=j
  ·subst q;exact R.off i c0 h0 hl
  ·rw[Og q] at e
   exact R.off j d e hd
 ·refine(hs.2 b λq=>?_).trans (R.le b o e)
  subst q;rw[R.off i c0 h0 hl] at e;cases e
noncomputable def Gh.more(γ:Gh)(a:Addr)(c:Str):Gh:=⟨λi=>if i=γ.k then a else γ.ρ i,λi=>if i=γ.k then c else γ.kc i,γ.k+1⟩
theorem Gh.more_le(γ:Gh)(a:Addr)(c:Str):γ.Le (γ.more a c) :=
 ⟨M3 _,λi h=>by show(if i=γ.k then a else γ.ρ i)=_;rw[if_neg (Mu h)],λi h=>by show(if i=γ.k then c else γ.kc i)=_;rw[if_neg (Mu h)]⟩
theorem Gh.more_ρ(γ:Gh)(a:Addr)(c:Str):(γ.more a c).ρ γ.k=a:=by show(if γ.k=γ.k then a else γ.ρ γ.k)=_;rw[if_pos rfl]
theorem Gh.more_kc(γ:Gh)(a:Addr)(c:Str):(γ.more a c).kc γ.k=c:=by show(if γ.k=γ.k then c else γ.kc γ.k)=_;rw[if_pos rfl]
theorem cj.gmono{D:Dc}{γ γ':Gh}{P:Frz}{h:Heap}(hg:γ.Le γ'){i:Nat}(hi:i<γ.k):∀ {c:Cell},cj D γ P h i c->cj D γ' P h i c:=by
 intro c x;cases c with
 | vars l=>obtain⟨o,es,ep,e,d,s,v⟩:=x;exact⟨o,es,ep,by rw[hg.ρ i hi];exact e,d,s,v.gmono hg⟩
 | cell v=>obtain⟨r,e,f⟩:=x;exact⟨r,by rw[hg.ρ i hi];exact e,λd hd=>let ⟨x,a,b⟩:=f d hd;⟨x,a,b.gmono hg⟩⟩
 | list l=>obtain⟨vs,n,e,p⟩:=x;exact⟨vs,n,by rw[hg.ρ i hi];exact e,p⟩
 | inst c l=>obtain⟨hc,es,ep,e,s,v,no⟩:=x;exact⟨by rw[hg.kc i hi];exact hc,es,ep,by rw[hg.ρ i hi];exact e,s,v.gmono hg,no⟩
 | dead=>obtain⟨vs,n,e⟩:=x;exact⟨vs,n,by rw[hg.ρ i hi];exact e⟩
theorem Real.more{D:Dc}{γ:Gh}{P:Frz}{h:Heap}{cs:List Cell}(R:Real D γ P h cs){a:Addr}{k:Str}{c:Cell}(hn:P a=none)(hi:∀i,i<γ.k->γ.ρ i≠a)
  (hc:cj D (γ.more a k) P h γ.k c):Real D (γ.more a k) P h (cs++[c]):=by
 have old:∀i,i<γ.k->(γ.more a k).ρ i=γ.ρ i:=(γ.more_le a k).ρ;refine⟨by rw[KR,Ln,<-R.k];rfl,λi d e=>?_,λi j h1 h2 e=>?_,λi d e hd=>?_,R.le,R.kind⟩
 ·by_cases q:i<γ.k
  ·rw[Oh (by rw[<-R.k];exact q)] at e
   exact(R.cell i d e).gmono (γ.more_le a k) q
  ·have hl:i<(cs++[c]).length:=(Ld.mp e).1
   rw[KR,Ln,<-R.k] at hl;have:i=γ.k:=by omega
   subst this;rw[R.k,PT (K3 _),PK] at e;cases e;exact hc
 ·have h1':i<γ.k+1:=h1
  have h2':j<γ.k+1:=h2
  by_cases q:i=γ.k
  ·subst q
   by_cases q':j=γ.k
   ·exact q'.symm
   ·rw[γ.more_ρ,old j (by omega)] at e
    exact absurd e.symm (hi j (by omega))
  ·by_cases q':j=γ.k
   ·subst q'
    rw[γ.more_ρ,old i (by omega)] at e
    exact absurd e (hi i (by omega))
   ·rw[old i (by omega),old j (by omega)] at e
    exact R.inj i j (by omega) (by omega) e
 ·have h1':i<γ.k+1:=by
   have:=(Ld.mp e).1;rw[KR,Ln,<-R.k] at this;exact this
  by_cases q:i=γ.k
  ·subst q;rw[γ.more_ρ];exact hn
  ·rw[Oh (by rw[<-R.k];omega)] at e
   rw[old i (by omega)];exact R.off i d e hd
structure Cx where
 prog:Program
 w:World
 D:Dc
 hb:Heap
 mb:Str->Option Value
 K:Addr->Option Obj
 cd:List (Str × NameKind)->Option Addr
noncomputable abbrev Cx.M(c:Cx):Model:=model c.prog c.w
structure Wd(c:Cx)(h:Heap):Prop where
 g:h.Ns mainGlobals c.D.mg
 b:h.Ns builtinsNs c.mb
 nl:h.NoLimit
 seer:h.NoSeer
 kp:∀a o,c.K a=some o->h.get? a=some o
 kk:∀a o,c.K a=some o->o.cls≠.type "frame"/\o.cls≠.none
 bk:Keep c.hb h
 gh:∀x v,c.D.mg x=some v->iz v=true
theorem Keep.noLimit{h h':Heap}(k:Keep h h')(x:h.NoLimit):h'.NoLimit:=let ⟨mc,a,b⟩:=x;⟨mc,k.ns a,b⟩
theorem Keep.noSeer{h h':Heap}(k:Keep h h')(x:h.NoSeer):h'.NoSeer where
 statics:=let ⟨mc,a,b⟩:=x.statics;⟨mc,k.ns a,b⟩
 mods:=let ⟨mc,a,b⟩:=x.mods;⟨mc,k.ns a,b⟩
 imp:=let ⟨mc,a,b⟩:=x.imp;⟨mc,k.ns a,b⟩
 main:=let ⟨mg,bm,ob,a,b,e,d,f⟩:=x.main;⟨mg,bm,ob,k.ns a,b,k.exact e (by rw[d];exact tyF (by decide)) (by rw[d];exact tyN),d,f⟩
theorem Wd.keep{c:Cx}{h h':Heap}(x:Wd c h)(k:Keep h h'):Wd c h' :=
 ⟨k.ns x.g,k.ns x.b,k.noLimit x.nl,k.noSeer x.seer,λa o e=>k.exact (x.kp a o e) (x.kk a o e).1 (x.kk a o e).2,x.kk,x.bk.trans k,x.gh⟩
theorem Is.hand{c:Cx}{γ:Gh}{P:Frz}{h:Heap}(W:Wd c h){v:Value}{d:V}(i:Is c.D γ P v d):iz v=true:=by
 cases i with
 | pu q=>cases q <;> rfl
 | bi _ q=>exact q
 | gl q=>exact W.gh _ _ q
 | _=>rfl
def Frs(hb h:Heap)(fr:List Env):Prop:=∀e∈fr,e.scope.kind≠.module/\∃L o,e.frame=some L/\hb.get? L=none/\h.get? L=some o/\o.cls=.type "frame"/\∃es ep,o.data=.dict es ep
theorem Frs.keep{hb h h':Heap}{fr:List Env}(x:Frs hb h fr)(k:Keep h h'):Frs hb h' fr:=λe he=>by
 obtain⟨h1,L,o,h2,h3,h4,h5,es,ep,h6⟩:=x e he;obtain⟨o',e',q⟩:=k.sim L o h4;refine⟨h1,L,o',h2,h3,e',?_⟩;rcases q with rfl | ⟨_,q1,q2,_⟩ | ⟨q,_⟩
 ·exact⟨h5,es,ep,h6⟩
 ·exact⟨q1.trans h5,es,ep,q2.trans h6⟩
 ·rw[h5] at q;cases q
structure St(c:Cx)(fr:List Env)(γ:Gh)(P:Frz)(s:Shared)(cs:List Cell):Prop where
 real:Real c.D γ P s.heap cs
 wd:Wd c s.heap
 frs:Frs c.hb s.heap fr
structure cL(a b:Array GenState):Prop where
 bare:AllBare a->AllBare b
 size:a.size<=b.size
theorem cL.refl(a:Array GenState):cL a a:=⟨id,K3 _⟩
theorem cL.trans{a b d:Array GenState}(x:cL a b)(y:cL b d):cL a d:=⟨y.bare∘x.bare,KQ x.size y.size⟩
structure Ext(c:Cx)(s s':Shared):Prop where
 keep:Keep s.heap s'.heap
 old:OldK c.hb s.heap->OldK c.hb s'.heap
 gens:cL s.gens s'.gens
 os:s'.os=s.os
theorem Ext.refl(c:Cx)(s:Shared):Ext c s s:=⟨.refl _,id,.refl _,rfl⟩
theorem Ext.trans{c:Cx}{a b d:Shared}(x:Ext c a b)(y:Ext c b d):Ext c a d :=
 ⟨x.keep.trans y.keep,y.old∘x.old,x.gens.trans y.gens,y.os.trans x.os⟩
theorem Ext.toks(c:Cx)(s:Shared)(t:Nat):Ext c s {s with toks:=t}:=⟨.refl _,id,.refl _,rfl⟩
theorem Ext.push(c:Cx)(s:Shared)(o:Obj)(t:Nat):Ext c s {s with heap:=s.heap.push o,toks:=t} :=
 ⟨.of_push _ _,λx=>x.step_keeps λ_ _ e=>Heap.get?_push_of_some _ e,.refl _,rfl⟩
structure Aft(c:Cx)(fr:List Env)(γ:Gh)(P:Frz)(s:Shared)(cs:List Cell)(P':Frz)(s':Shared):Prop where
 gr:Gr P P' s.heap
 st:St c fr γ P' s' cs
 ext:Ext c s s'
theorem Aft.refl{c:Cx}{fr:List Env}{γ:Gh}{P:Frz}{s:Shared}{cs:List Cell}(S:St c fr γ P s cs):Aft c fr γ P s cs P s:=⟨.refl _ _,S,.refl _ _⟩
theorem Aft.trans{c:Cx}{fr:List Env}{γ:Gh}{P P' P'':Frz}{s s' s'':Shared}{cs:List Cell}(x:Aft c fr γ P s cs P' s')(y:Aft c fr γ P' s' cs P'' s''):Aft c fr γ P s cs P'' s'' :=
 ⟨x.gr.trans y.gr x.ext.keep,y.st,x.ext.trans y.ext⟩
theorem St.toks{c:Cx}{fr:List Env}{γ:Gh}{P:Frz}{s:Shared}{cs:List Cell}(S:St c fr γ P s cs)(t:Nat):St c fr γ P {s with toks:=t} cs:=⟨S.real,S.wd,S.frs⟩
theorem Aft.toks{c:Cx}{fr:List Env}{γ:Gh}{P:Frz}{s:Shared}{cs:List Cell}(S:St c fr γ P s cs)(t:Nat):Aft c fr γ P s cs P {s with toks:=t}:=⟨.refl _ _,S.toks t,.toks _ _ _⟩
theorem Aft.push{c:Cx}{fr:List Env}{γ:Gh}{P:Frz}{s:Shared}{cs:List Cell}(S:St c fr γ P s cs){o:Obj}(hf:o.isFreed=false)(h1:o.cls≠.type "frame")(h2:o.cls≠.none)(t:Nat) :
  Aft c fr γ P s cs (P.put s.heap.objs.size o) {s with heap:=s.heap.push o,toks:=t} :=
 ⟨Gr.put S.real.none_at (aU _),⟨S.real.push hf h1 h2,S.wd.keep (.of_push _ _),S.frs.keep (.of_push _ _)⟩,.push _ _ _ _⟩
mutual
noncomputable def toPy:V->PyData
 | .bool b=>.bool b
 | .int i=>.int i
 | .str s=>.str s
 | .lst l=>.list (bB l)
 | .tup l=>.tuple (bB l)
 | _=>.none
noncomputable def bB:List V->List PyData
 | []=>[]
 | v::r=>toPy v::bB r
end
structure Am(c:Cx)(A:Around)(fr:List Env)(b:Nat):Prop where
 handled:A.handled=none
 depth:A.depth+b+150<recursionLimit
 units:A.units+20*b+200<cLine
 frames:A.frames=some fr
 head:∃e r,fr=e::r/\e.scope.isGenerator=false/\e.scope.isCoroutine=false/\e.builtins=builtinsNs/\e.globals=mainGlobals
 tree:c.prog.given.tree=none
abbrev Ev(c:Cx)(fr:List Env)(γ:Gh)(P:Frz)(s:Shared)(cs:List Cell)(d:V)(v:Value)(s':Shared):Prop:=∃P',Aft c fr γ P s cs P' s'/\Is c.D γ P' v d
theorem Ev.mk{c:Cx}{fr:List Env}{γ:Gh}{P P':Frz}{s s':Shared}{cs:List Cell}{d:V}{v:Value}(a:Aft c fr γ P s cs P' s')(i:Is c.D γ P' v d):Ev c fr γ P s cs d v s':=⟨P',a,i⟩
theorem Str.eq_mk(s:Str):s=mkS s.cps.toList:=by cases s;rfl
theorem jG(s t:Str):mkS (s.cps.toList++t.cps.toList)=s++t:=by
 show(⟨(s.cps.toList++t.cps.toList).toArray⟩:Str)=⟨s.cps++t.cps⟩;simp
section
variable{c:Cx}{A:Around}{fr:List Env}{γ:Gh}{P:Frz}{s:Shared}{cs:List Cell}{E:Value->Shared->Prop}{b:Nat}
noncomputable def PuD(P:Frz)(v:Value):V->Prop
 | .none=>v=.none
 | .bool b=>v=.bool b
 | .int i=>∃t,v=.int i t
 | .str x=>∃t,v=.str x t
 | .lst l=>∃a vs n,v=.ref a/\P a=some (aa vs n)/\PuL P vs.toList l
 | .tup l=>∃a vs n,v=.ref a/\P a=some (aQ vs n)/\PuL P vs.toList l
 | _=>False
theorem Pu.inv{v:Value}{d:V}(h:Pu P v d):PuD P v d:=by
 cases h with
 | none=>exact rfl
 | bool=>exact rfl
 | int i t=>exact⟨t,rfl⟩
 | str x t=>exact⟨t,rfl⟩
 | lst e p=>exact⟨_,_,_,rfl,e,p⟩
 | tup e p=>exact⟨_,_,_,rfl,e,p⟩
noncomputable def IsD(D:Dc)(γ:Gh)(P:Frz)(v:Value):V->Prop
 | .ty n=>v=.type n
 | .bi n=>v=.builtin n
 | .gl x=>D.mg x=some v
 | .own i=>v=.ref (γ.ρ i)/\i<γ.k
 | .obj i=>∃a,v=.ref a/\i<γ.k/\P a=some ⟨.ref (D.cls (γ.kc i)),some (γ.ρ i),.plain,#[]⟩
 | .mat re t sp=>∃a b tk pat p l i n,v=.ref a/\P a=some (cC (.str t tk) pat p l i (.ref b))/\D.mg re=some pat/\P b=some (aQ (bU sp).toArray n)
 | .deq=>∃a,v=.ref a/\P a=some dm
 | d=>PuD P v d
theorem Is.inv{D:Dc}{v:Value}{d:V}(h:Is D γ P v d):IsD D γ P v d:=by
 cases h with
 | pu h =>
  have q:=h.inv;revert q;cases h <;> exact id
 | ty=>exact rfl
 | bi=>exact rfl
 | gl h=>exact h
 | own h=>exact⟨rfl,h⟩
 | obj h1 h2=>exact⟨_,rfl,h1,h2⟩
 | mat h1 h2 h3=>exact⟨_,_,_,_,_,_,_,_,rfl,h1,h2,h3⟩
 | deq h=>exact⟨_,rfl,h⟩
theorem Is.int_inv{D:Dc}{v:Value}{i:Int}(h:Is D γ P v (.int i)):∃t,v=.int i t:=h.inv
theorem Is.str_inv{D:Dc}{v:Value}{x:Str}(h:Is D γ P v (.str x)):∃t,v=.str x t:=h.inv
theorem Is.none_inv{D:Dc}{v:Value}(h:Is D γ P v .none):v=.none:=h.inv
theorem Is.bool_inv{D:Dc}{v:Value}{x:Bool}(h:Is D γ P v (.bool x)):v=.bool x:=h.inv
theorem Is.lst_inv{D:Dc}{v:Value}{l:List V}(h:Is D γ P v (.lst l)):∃a vs n,v=.ref a/\P a=some (aa vs n)/\PuL P vs.toList l:=h.inv
theorem Is.tup_inv{D:Dc}{v:Value}{l:List V}(h:Is D γ P v (.tup l)):∃a vs n,v=.ref a/\P a=some (aQ vs n)/\PuL P vs.toList l:=h.inv
theorem nW(S:St c fr γ P s cs)(x:Str)(t u:Nat):Ev c fr γ P s cs (.str x) (.str x t) {s with toks:=u}:=⟨P,.toks S _,.pu (.str x t)⟩
theorem Hq(S:St c fr γ P s cs){vs:List Value}{l:List V}(h:PuL P vs l)(t:Nat):Ev c fr γ P s cs (.lst l) (.ref s.heap.objs.size) {s with heap:=s.heap.push {cls:=.type "list",data:=.seq vs.toArray},toks:=t}:=by
 have a:=Aft.push S (o:=aa vs.toArray 0) rfl (tyF (by decide)) tyN t
 exact⟨_,a,.pu (.lst (Frz.put_self ..) (by simpa using h.mono a.gr.le))⟩
theorem jU(S:St c fr γ P s cs){vs:List Value}{l:List V}(h:PuL P vs l)(t:Nat):Ev c fr γ P s cs (.tup l) (.ref s.heap.objs.size) {s with heap:=s.heap.push {cls:=.type "tuple",data:=.seq vs.toArray},toks:=t}:=by
 have a:=Aft.push S (o:=aQ vs.toArray 0) rfl (tyF (by decide)) tyN t
 exact⟨_,a,.pu (.tup (Frz.put_self ..) (by simpa using h.mono a.gr.le))⟩
theorem wK(S:St c fr γ P s cs){x y:Str}{t u:Tok}(hz:(x.cps.toList++y.cps.toList).length<=sizeLine) :
  wpAny c.M A (binaryOp .Add (.str x t) (.str y u)) (λv s'=>Ev c fr γ P s cs (.str (mkS (x.cps.toList++y.cps.toList))) v s') E s:=by
 refine PySem.P.add_str ?_;rw[jG];have hx:∀z:Str,(z.length==0)=true->z=Str.empty:=λz hz=>by
  obtain⟨a⟩:=z;have:a.size=0:=by simpa [Str.length] using hz
  rw[Su this];rfl
 by_cases h1:(x.length==0)=true
 ·rw[if_pos h1]
  have e:x++y=y:=by rw[hx x h1];exact Str.empty_append y
  rw[e];exact nW S y u s.toks
 ·rw[if_neg h1]
  by_cases h2:(y.length==0)=true
  ·rw[if_pos h2]
   have e:x++y=x:=by
    rw[hx y h2];obtain⟨a⟩:=x;show(⟨a ++ #[]⟩:Str)=⟨a⟩;simp
   rw[e];exact nW S x t s.toks
  ·rw[if_neg h2]
   exact⟨by
    show(x.cps++y.cps).size<=sizeLine;simpa using hz,nW S _ _ _⟩
end
end
section
structure aM(c:Cx)(γ:Gh)(e:Env)(l:Lv):Prop where
 loc:e.locals=γ.ρ l.loc
 lok:l.loc<γ.k
 cells:∀x i,aget x l.cells=some i->e.cells.lookup x=some (γ.ρ i)/\i<γ.k
 loc_:∀x,aget x l.names=some .local->e.kindOf x=some .local
 cel_:∀x,aget x l.names=some .cell->e.kindOf x=some .cell
 fre_:∀x,aget x l.names=some .free->e.kindOf x=some .free∨e.kindOf x=some .cell
 glo_:∀x,aget x l.names=some .globalImplicit->e.kindOf x=some .globalImplicit
 no:∀x k,aget x l.names=some k->(x==("__debug__":Str))=false/\(x==("__classdict__":Str))=false
 fn:e.scope.kind=.function
 gl:e.globals=mainGlobals
 bu:e.builtins=builtinsNs
 code:aget ".0" l.names=none->∀a,c.cd l.names=some a->e.code=.ref a
theorem aM.mono{c:Cx}{γ γ':Gh}{e:Env}{l:Lv}(h:aM c γ e l)(g:γ.Le γ'):aM c γ' e l :=
 {h with loc:=h.loc.trans (g.ρ _ h.lok).symm,lok:=Lk h.lok g.k,cells:=λx i q=>let ⟨a,b⟩:=h.cells x i q;⟨by rw[g.ρ _ b];exact a,Lk b g.k⟩}
structure aj(c:Cx)(g:Glb):Prop where
 own:∀x,g.own.contains x=true->∃v,c.D.mg x=some v
 bis:∀x v,g.own.contains x=false->aget x g.bis=some v->c.D.mg x=none/\∃r,c.mb x=some r/\((∃n,r=.type n/\v=.ty n)∨∃n,r=.builtin n/\v=.bi n/\iz (.builtin n)=true)
def eE(c:Cx)(fr:List Env)(γ:Gh)(P:Frz)(s:Shared)(cs:List Cell)(k:String)(x:Value)(s':Shared):Prop :=
 ∃e P',x=.ref e/\Aft c fr γ P s cs P' s'/\s.heap.get? e=none/\P' e=none/\∃ob t,s'.heap.get? e=some ob/\ob.cls=.type k/\ob.data=.fields #[t,.none,.none,.none,.bool false,.none]
inductive IsL(D:Dc)(γ:Gh)(P:Frz):List Value->List V->Prop
 | nil:IsL D γ P [] []
 | cons {v:Value} {d:V} {vs:List Value} {ds:List V}:Is D γ P v d->IsL D γ P vs ds->IsL D γ P (v::vs) (d::ds)
theorem IsL.mono{D:Dc}{γ:Gh}{P P':Frz}(hp:FLe P P'){vs:List Value}{ds:List V}(h:IsL D γ P vs ds):IsL D γ P' vs ds:=by
 induction h with
 | nil=>exact .nil
 | cons a _ ih=>exact .cons (a.mono hp) ih
theorem IsL.one{D:Dc}{γ:Gh}{P:Frz}{vs:List Value}{d:V}(h:IsL D γ P vs [d]):∃v,vs=[v]/\Is D γ P v d:=by
 cases h with
 | cons a r=>cases r;exact⟨_,rfl,a⟩
theorem IsL.two{D:Dc}{γ:Gh}{P:Frz}{vs:List Value}{d e:V}(h:IsL D γ P vs [d,e]):∃v w,vs=[v,w]/\Is D γ P v d/\Is D γ P w e:=by
 cases h with
 | cons a r=>obtain⟨w,rfl,q⟩:=r.one;exact⟨_,_,rfl,a,q⟩
theorem IsL.consI{D:Dc}{γ:Gh}{P:Frz}{vs:List Value}{d:V}{ds:List V}(h:IsL D γ P vs (d::ds)):∃v ws,vs=v::ws/\Is D γ P v d/\IsL D γ P ws ds:=by
 cases h with | cons a b=>exact⟨_,_,rfl,a,b⟩
theorem IsL.zero{D:Dc}{γ:Gh}{P:Frz}{vs:List Value}(h:IsL D γ P vs []):vs=[]:=by cases h;rfl
theorem IsL.gm{D:Dc}{γ γ':Gh}{P:Frz}(hg:γ.Le γ'){vs:List Value}{ds:List V}(h:IsL D γ P vs ds):IsL D γ' P vs ds:=by
 induction h with
 | nil=>exact .nil
 | cons a _ ih=>exact .cons (a.gmono hg) ih
theorem Is.flat{D:Dc}{γ:Gh}{P:Frz}{v:Value}{d:V}(h:Is D γ P v d)(hf:flat d=true):Pu P v d:=by
 cases h with
 | pu h=>exact h
 | _=>cases hf
theorem IsL.flat{D:Dc}{γ:Gh}{P:Frz}{vs:List Value}{ds:List V}(h:IsL D γ P vs ds)(hf:ds.all Mine.flat=true):PuL P vs ds:=by
 induction h with
 | nil=>exact .nil
 | cons a _ ih =>
  rw[Lw,Lx] at hf;exact .cons (a.flat hf.1) (ih hf.2)
theorem Is.gl_inv{D:Dc}{γ:Gh}{P:Frz}{v:Value}{x:Str}(h:Is D γ P v (.gl x)):D.mg x=some v:=h.inv
theorem Is.ty_inv{D:Dc}{γ:Gh}{P:Frz}{v:Value}{n:String}(h:Is D γ P v (.ty n)):v=.type n:=h.inv
theorem Is.bi_inv{D:Dc}{γ:Gh}{P:Frz}{v:Value}{n:String}(h:Is D γ P v (.bi n)):v=.builtin n:=h.inv
theorem Is.own_inv{D:Dc}{γ:Gh}{P:Frz}{v:Value}{i:Nat}(h:Is D γ P v (.own i)):v=.ref (γ.ρ i)/\i<γ.k:=h.inv
theorem Is.obj_inv{D:Dc}{γ:Gh}{P:Frz}{v:Value}{i:Nat}(h:Is D γ P v (.obj i)):∃a,v=.ref a/\i<γ.k/\P a=some ⟨.ref (D.cls (γ.kc i)),some (γ.ρ i),.plain,#[]⟩:=h.inv
theorem Is.mat_inv{D:Dc}{γ:Gh}{P:Frz}{v:Value}{re t:Str}{sp:List (Nat × Nat)}(h:Is D γ P v (.mat re t sp)):∃a b tk pat p l i n,v=.ref a/\P a=some (cC (.str t tk) pat p l i (.ref b))/\D.mg re=some pat/\P b=some (aQ (bU sp).toArray n):=h.inv
section
variable{c:Cx}{g:Glb}{A:Around}{fr:List Env}{γ:Gh}{P P':Frz}{s s':Shared}{cs:List Cell}{E:Value->Shared->Prop}{b:Nat}{env:Env}
theorem Ev.after(a:Aft c fr γ P s cs P' s'){d:V}{v:Value}{s'':Shared}(h:Ev c fr γ P' s' cs d v s''):Ev c fr γ P s cs d v s'' :=
 let ⟨P'',a',i⟩:=h;⟨P'',a.trans a',i⟩
theorem eE.after(a:Aft c fr γ P s cs P' s'){k:String}{x:Value}{s'':Shared}(h:eE c fr γ P' s' cs k x s''):eE c fr γ P s cs k x s'' :=
 let ⟨e,P'',h1,h2,h3,h4⟩:=h;⟨e,P'',h1,a.trans h2,a.ext.keep.gone h3,h4⟩
theorem Ev.old(S:St c fr γ P s cs){d:V}{v:Value}(h:Is c.D γ P v d):Ev c fr γ P s cs d v s:=⟨P,.refl S,h⟩
theorem Real.ns{D:Dc}{h:Heap}(R:Real D γ P h cs){i:Nat}{l:List (Str × V)}(e:cs[i]?=some (.vars l)):∃es,h.Ns (γ.ρ i) (nsFind es)/\Vars D γ P es l:=by
 obtain⟨o,es,ep,h1,h2,h3,h4⟩:=R.cell i _ e;exact⟨es,⟨o,es,ep,h1,h2,h3,λ_=>rfl⟩,h4⟩
theorem aR(hg:aj c g)(S:St c fr γ P s cs){l:Lv}(he:aM c γ env l){x:Str}{d:V}(h:Nm g cs x l d){pos:Pos}{Q:Value->Shared->Prop}
  (hq:∀v,Is c.D γ P v d->Q v s):wpAny c.M A (eval (.Name x pos) env) Q E s:=by
 have cell:∀ {i v},cs[i]?=some (.cell (some v))->∃y,s.heap.get? (γ.ρ i)=some ⟨.type "cell",none,.cell (some y),#[]⟩/\Is c.D γ P y v:=λhc=>by
  obtain⟨w,e1,e2⟩:=S.real.cell _ _ hc;obtain⟨y,rfl,e4⟩:=e2 _ rfl;exact⟨y,e1,e4⟩
 cases h with
 | loc hk hc hv =>
  obtain⟨es,hn,hv'⟩:=S.real.ns hc;obtain⟨v,e1,e2⟩:=hv' x d hv;exact wpAny_Name (wpAny_loadName_local he.fn (he.loc_ x hk) (by rw[he.loc];exact hn) e1 (hq v e2)) (he.no x _ hk).1
 | cel hk hi hc =>
  obtain⟨y,e1,e4⟩:=cell hc;exact wpAny_Name (wpAny_loadName_cell he.fn (he.cel_ x hk) (he.cells x _ hi).1 ⟨_,e1,rfl⟩ (hq y e4)) (he.no x _ hk).1
 | fre hk hi hc =>
  obtain⟨y,e1,e4⟩:=cell hc;rcases he.fre_ x hk with q | q
  ·exact wpAny_Name (wpAny_loadName_free he.fn q (he.cells x _ hi).1 ⟨_,e1,rfl⟩ (hq y e4) (he.no x _ hk).2) (he.no x _ hk).1
  ·exact wpAny_Name (wpAny_loadName_cell he.fn q (he.cells x _ hi).1 ⟨_,e1,rfl⟩ (hq y e4)) (he.no x _ hk).1
 | glo hk ho =>
  refine Calls.Name_function_global he.fn (he.glo_ x hk) ?_ (he.no x _ hk).1;obtain⟨v,hv⟩:=hg.own x ho;exact Calls.loadGlobal_global (by rw[he.gl];exact S.wd.g) hv (hq v (.gl hv))
 | bis hk ho hb =>
  refine Calls.Name_function_global he.fn (he.glo_ x hk) ?_ (he.no x _ hk).1;obtain⟨hm,r,hr,hd⟩:=hg.bis x d ho hb;refine Calls.loadGlobal_builtin (by rw[he.gl];exact S.wd.g) hm (by rw[he.bu];exact S.wd.b) hr (hq r ?_)
  rcases hd with ⟨n,rfl,rfl⟩ | ⟨n,rfl,rfl,hh⟩
  ·exact .ty n
  ·exact .bi n hh
end
structure Now(c:Cx)(b:Nat)(σ:Sg) where
 A:Around
 fr:List Env
 env:Env
 γ:Gh
 P:Frz
 s:Shared
 l:Lv
 lr:List Lv
 hA:Am c A fr b
 hl:σ.lv=l::lr
 he:aM c γ env l
 S:St c fr γ P s σ.cs
section
variable{c:Cx}{b:Nat}{σ:Sg}
abbrev Now.To(N:Now c b σ)(P:Frz)(s:Shared):Prop:=Aft c N.fr N.γ N.P N.s σ.cs P s
noncomputable abbrev Now.go(N:Now c b σ){P:Frz}{s:Shared}(a:N.To P s):Now c b σ:={N with P:=P,s:=s,S:=a.st}
abbrev Now.Ev(N:Now c b σ)(d:V)(v:Value)(s':Shared):Prop:=Mine.Ev c N.fr N.γ N.P N.s σ.cs d v s'
abbrev Now.Is(N:Now c b σ)(v:Value)(d:V):Prop:=Mine.Is c.D N.γ N.P v d
abbrev Now.Hs(N:Now c b σ)(v:Value)(d:V):Prop:=Mine.Is c.D N.γ N.s.heap.get? v d
abbrev Now.wp(N:Now c b σ){α:Type}(m:Sem α)(Q:α->Shared->Prop)(E:Value->Shared->Prop):Prop:=wpAny c.M N.A m Q E N.s
theorem Now.hs(N:Now c b σ){v:Value}{d:V}(h:N.Is v d):N.Hs v d:=h.mono N.S.real.le
end
def REv(c:Cx)(b:Nat)(σ:Sg)(e:Expr)(v:V):Prop:=∀(N:Now c b σ) (E:Value->Shared->Prop),N.wp (eval e N.env) (N.Ev v) E
def REx(c:Cx)(b:Nat)(σ:Sg)(e:Expr)(k:String):Prop:=∀(N:Now c b σ) (Q:Value->Shared->Prop),N.wp (eval e N.env) Q (eE c N.fr N.γ N.P N.s σ.cs k)
def RTr(c:Cx)(b:Nat)(σ:Sg)(e:Expr)(k:Bool):Prop:=∀(N:Now c b σ) (E:Value->Shared->Prop),N.wp (isTrue e N.env (eval e N.env)) (λy s'=>y=k/\∃P',N.To P' s') E
def RTx(c:Cx)(b:Nat)(σ:Sg)(e:Expr)(k:String):Prop:=∀(N:Now c b σ) (Q:Bool->Shared->Prop),N.wp (isTrue e N.env (eval e N.env)) Q (eE c N.fr N.γ N.P N.s σ.cs k)
def RTrs(c:Cx)(b:Nat)(op:BoolOp)(σ:Sg)(es:List Expr)(k:Bool):Prop:=∀(N:Now c b σ) (E:Value->Shared->Prop),N.wp (allTrue op es N.env) (λy s'=>y=k/\∃P',N.To P' s') E
def REvs(c:Cx)(b:Nat)(σ:Sg)(es:List Expr)(vs:List V):Prop:=cN es=true/\∀(N:Now c b σ) (E:Value->Shared->Prop) (pos:Pos),N.wp (spliced (backTo pos (starEach es N.env))) (λxs s'=>∃P',N.To P' s'/\IsL c.D N.γ P' xs vs) E
def ROpt(c:Cx)(b:Nat)(σ:Sg)(e:Option Expr)(a:Option Int):Prop:=∀(N:Now c b σ) (E:Value->Shared->Prop),N.wp (evalPart e N.env) (λx s'=>∃(P':Frz) (p:Option (Int × Tok)),N.To P' s'/\x=partValue p/\p.map (·.1)=a) E
def Bp(c:Cx)(b:Nat)(σ:Sg)(op:Operator)(x y r:V):Prop:=∀(N:Now c b σ) (u v:Value) (E:Value->Shared->Prop),N.Is u x->N.Is v y->N.wp (binaryOp op u v) (N.Ev r) E
def Ip(c:Cx)(b:Nat)(σ:Sg)(x y r:V):Prop:=∀(N:Now c b σ) (u v:Value) (E:Value->Shared->Prop),N.Is u x->N.Is v y->N.wp (inplaceOp .Add u v) (N.Ev r) E
def Cp(c:Cx)(b:Nat)(σ:Sg)(op:CmpOp)(x y:V)(r:Bool):Prop:=∀(N:Now c b σ) (u v:Value) (E:Value->Shared->Prop),N.Hs u x->N.Hs v y->N.wp (compareOp op u v) (N.Ev (.bool r)) E
def Tp(c:Cx)(b:Nat)(σ:Sg)(x:V)(k:Bool):Prop:=∀(N:Now c b σ) (u:Value) (E:Value->Shared->Prop),N.Hs u x->N.wp (truthy u) (λy s'=>y=k/\∃P',N.To P' s') E
def Kp(c:Cx)(b:Nat)(σ:Sg)(f:V)(as:List V)(r:V):Prop:=∀(N:Now c b σ) (u:Value) (vs:List Value) (E:Value->Shared->Prop),N.Is u f->IsL c.D N.γ N.P vs as ->
 (∃k,∀(Q:Keeper->Shared->Prop),Q k N.s->N.wp (keeperOf u) Q E)/\N.wp (call u vs) (N.Ev r) E
def Seq(c:Cx)(b:Nat)(σ:Sg)(t:Bool)(x:V)(l:List V):Prop:=∀(N:Now c b σ) (u:Value),N.Is u x->∃a vs n,u=.ref a/\PuL N.P vs.toList l/\N.s.heap.get? a=some (match t with | true=>aQ vs n | false=>aa vs n)
end
section
section
variable{c:Cx}{g:Glb}{b:Nat}{σ τ:Sg}{e l r x y:Expr}{es as:List Expr}{u v w d:V}{vs ws xs ys:List V}{p q:Pos}{k j:Bool}{n:Nat}{nm:Str}
theorem REv.then(h:REv c b σ e v)(N:Now c b σ){Q E:Value->Shared->Prop}(k:∀P' s' (_:N.To P' s') x,Is c.D N.γ P' x v->Q x s'):N.wp (eval e N.env) Q E :=
 wpAny_mono (h N E) (λx s' q_=>Exists.p3 q_ λP' a i=>k P' s' a x i) λ_ _ q=>q
theorem REvs.then(h:REvs c b σ es vs)(N:Now c b σ){pos:Pos}{Q:List Value->Shared->Prop}{E:Value->Shared->Prop}(k:∀P' s' (_:N.To P' s') xs,IsL c.D N.γ P' xs vs->Q xs s'):N.wp (spliced (backTo pos (starEach es N.env))) Q E :=
 wpAny_mono (h.2 N E pos) (λx s' q_=>Exists.p3 q_ λP' a i=>k P' s' a x i) λ_ _ q=>q
theorem Now.int(N:Now c b σ)(i:Int)(t u:Nat):N.Ev (.int i) (.int i t) {N.s with toks:=u}:=⟨N.P,.toks N.S _,.pu (.int i t)⟩
theorem Now.str(N:Now c b σ)(x:Str)(t u:Nat):N.Ev (.str x) (.str x t) {N.s with toks:=u}:=⟨N.P,.toks N.S _,.pu (.str x t)⟩
theorem Now.bool(N:Now c b σ)(i:Bool):N.Ev (.bool i) (.bool i) N.s:=⟨N.P,.refl N.S,.pu (.bool i)⟩
theorem Now.old(N:Now c b σ){x:Value}(h:N.Is x v):N.Ev v x N.s:=⟨N.P,.refl N.S,h⟩
theorem Now.lst(N:Now c b σ){h':Heap}{D:Addr}{vs:Array Value}{n t:Nat}{l:List V}(hk:∀b o,N.s.heap.get? b=some o->h'.get? b=some o)(hD:N.s.heap.get? D=none)(hd:h'.get? D=some (aa vs n))(p:PuL N.P vs.toList l) :
  N.Ev (.lst l) (.ref D) {N.s with heap:=h',toks:=t}:=by
 have kp:Keep N.s.heap h':=.of_keeps hk;have pD:N.P D=none:=by
  cases q:N.P D with
  | none=>rfl
  | some o=>have:=N.S.real.le _ _ q;rw[hD] at this;cases this
 have gr:=Gr.put (o:=aa vs n) pD hD;refine⟨N.P.put D (aa vs n),⟨gr,⟨N.S.real.keep gr kp (λb o e=>?_) λb o e=>?_,N.S.wd.keep kp,N.S.frs.keep kp⟩,⟨kp,λo=>o.step_keeps hk,.refl _,rfl⟩⟩,.pu (.lst (Frz.put_self ..) (p.mono gr.le))⟩
 ·rcases Frz.put_at e with ⟨q,w⟩ | e
  ·subst q w;exact hd
  ·exact hk _ _ (N.S.real.le _ _ e)
 ·rcases Frz.put_at e with ⟨_,w⟩ | e
  ·subst w;exact⟨tyF (by decide),tyN⟩
  ·exact N.S.real.kind _ _ e
theorem Now.newlst(N:Now c b σ){vs:Array Value}{l:List V}(p:PuL N.P vs.toList l)(t:Nat):N.Ev (.lst l) (.ref N.s.heap.objs.size) {N.s with heap:=N.s.heap.push {cls:=.type "list",data:=.seq vs},toks:=t} :=
 N.lst (λ_ _ e=>Heap.get?_push_of_some _ e) (aU _) (Heap.get?_push_size _ rfl) p
theorem Am.u64{A:Around}{fr:List Env}(hA:Am c A fr b):A.units+64<cLine:=by have:=hA.units;omega
theorem Now.own(N:Now c b σ){i:Nat}{l:List V}{x:Value}(hc:σ.cs[i]?=some (.list l)){P:Frz}(h:Mine.Is c.D N.γ P x (.own i)):∃vs n,x=.ref (N.γ.ρ i)/\N.s.heap.get? (N.γ.ρ i)=some (aa vs n)/\PuL N.P vs.toList l:=by
 obtain⟨vs,n,e,p⟩:=N.S.real.cell i _ hc;exact⟨vs,n,h.own_inv.1,e,p⟩
theorem Now.ownH(N:Now c b σ){i:Nat}{l:List V}{x:Value}(hc:σ.cs[i]?=some (.list l))(h:N.Hs x (.own i)):N.Hs x (.lst l):=by
 obtain⟨vs,n,rfl,e,p⟩:=N.own hc h;exact .pu (.lst e (p.mono N.S.real.le))
namespace Bp
theorem addI{i j:Int}:Bp c b σ .Add (.int i) (.int j) (.int (i+j)):=λN u v E hu hv=>by
 obtain⟨t,rfl⟩:=hu.int_inv;obtain⟨t',rfl⟩:=hv.int_inv;exact PySem.P.add_int (N.int _ _ _)
theorem subI{i j:Int}:Bp c b σ .Sub (.int i) (.int j) (.int (i-j)):=λN u v E hu hv=>by
 obtain⟨t,rfl⟩:=hu.int_inv;obtain⟨t',rfl⟩:=hv.int_inv;exact PySem.P.sub_int (N.int _ _ _)
theorem mulI{i j:Int}(h : -(2 ^ 62)<i/\i<2 ^ 62):Bp c b σ .Mult (.int i) (.int j) (.int (i*j)):=λN u v E hu hv=>by
 obtain⟨t,rfl⟩:=hu.int_inv;obtain⟨t',rfl⟩:=hv.int_inv;exact PySem.P.mul_int (N.int _ _ _) (IntMulOk.of_left (intBits_le_64 (by have:=h.1;omega) (by have:=h.2;omega)))
theorem modI{i j:Int}(h:j≠0):Bp c b σ .Mod (.int i) (.int j) (.int (K6 i j)):=λN u v E hu hv=>by
 obtain⟨t,rfl⟩:=hu.int_inv;obtain⟨t',rfl⟩:=hv.int_inv;exact mod_int' h (N.int _ _ _)
theorem divI{i j:Int}(h:j≠0):Bp c b σ .FloorDiv (.int i) (.int j) (.int (K8 i j)):=λN u v E hu hv=>by
 obtain⟨t,rfl⟩:=hu.int_inv;obtain⟨t',rfl⟩:=hv.int_inv;obtain⟨e,rr,he,g1,g2,g3,g4⟩:=N.hA.head;exact floordiv_int h (N.int _ _ _) (.inr (PylongRoom.of N.S.wd.nl (by have:=N.hA.depth;unfold Builtin.pylongFrames;omega) (SeerAt.of (M:=c.M) N.S.wd.seer N.hA.tree (he▸N.hA.frames) g1 g2 g3 g4)))
theorem powI{i:Int}{n:Nat}(h : -(2 ^ 62)<i/\i<2 ^ 62)(hn:n<=262144):Bp c b σ .Pow (.int i) (.int n) (.int (i ^ n)):=λN u v E hu hv=>by
 obtain⟨t,rfl⟩:=hu.int_inv;obtain⟨t',rfl⟩:=hv.int_inv;refine pow_int (Nk n) ?_ (N.int _ _ _);have h1:Builtin.Int.intBits i<=64:=intBits_le_64 (by have:=h.1;omega) (by have:=h.2;omega)
 have h3:(Builtin.Int.intBits i:Int)*(n:Int)<=64*(n:Int):=Int.mul_le_mul_of_nonneg_right (by omega) (Nk n)
 omega
theorem addS{s t:Str}(h:(s.cps.toList++t.cps.toList).length<=sizeLine):Bp c b σ .Add (.str s) (.str t) (.str (mkS (s.cps.toList++t.cps.toList))):=λN u v E hu hv=>by
 obtain⟨t,rfl⟩:=hu.str_inv;obtain⟨t',rfl⟩:=hv.str_inv;exact wK N.S h
theorem addL{l m:List V}(hz:(l++m).length<=sizeLine):Bp c b σ .Add (.lst l) (.lst m) (.lst (l++m)):=λN u v E hu hv=>by
 obtain⟨a,vs,n,rfl,ea,pa⟩:=hu.lst_inv;obtain⟨b,ws,k,rfl,eb,pb⟩:=hv.lst_inv;have ho:=N.S.real.le _ _ ea;have ho2:=N.S.real.le _ _ eb;refine concat_meets ⟨_,ho,rfl⟩ ⟨_,ho2,rfl⟩ noFill_list_add seq_list_add PySem.F.slot_list_add PySem.F.entry_list_add (PySem.F.args_list_add_2 _ _)
  (list_addW a b vs ws n k none none #[] #[] (by
   have h1:=pa.length;have h2:=pb.length;rw[Lp] at h1 h2;rw[KR] at hz;omega)) ⟨ho,ho2,?_⟩
 exact N.newlst (vs:=vs++ws) (by rw[Oq];exact pa.append pb) N.s.toks
end Bp
namespace Ip
theorem addI{i j:Int}:Ip c b σ (.int i) (.int j) (.int (i+j)):=λN u v E hu hv=>by
 obtain⟨t,rfl⟩:=hu.int_inv;obtain⟨t',rfl⟩:=hv.int_inv;exact AutoIntOps.iadd_0 (N.int _ _ _)
theorem addS{s y:Str}(h:(s.cps.toList++y.cps.toList).length<=sizeLine):Ip c b σ (.str s) (.str y) (.str (mkS (s.cps.toList++y.cps.toList))):=λN u v E hu hv=>by
 obtain⟨t,rfl⟩:=hu.str_inv;obtain⟨t',rfl⟩:=hv.str_inv;refine PyProof.Rows.iadd_str (λt' tk=>?_) ?_
 ·rw[jG];exact N.str _ _ _
 ·rw[KR] at h
  show s.cps.size+y.cps.size<=sizeLine;simpa using h
end Ip
theorem su{s:Str}{k:Nat}(h:s.cps.toList=[k]):s=⟨#[k]⟩:=by
 obtain⟨arr⟩:=s;exact congrArg Str.mk (Rc h)
theorem Str.toList_beq(x y:Str):(x.cps.toList==y.cps.toList)=decide (x=y):=by
 rw[Np,beq_iff_eq,decide_eq_true_eq];constructor
 ·intro h;cases x;cases y;simp only[Str.mk.injEq];exact Q8.mp h
 ·rintro rfl;rfl
theorem tZ(i j:Int):(i==j)=decide (i=j):=by rw[Np];simp
theorem z8(a b:String):isSame (.type a) (.type b)=pure (decide (a=b)):=by
 have:isSame (.type a) (.type b)=pure ((Value.type a)==(Value.type b)):=rfl;rw[this]
 congr 1
 rw[Np];simp
theorem Pu.reads{P:Frz}{h:Heap}(le:∀b o,P b=some o->h.get? b=some o){v:Value}{d:V}(k:Pu P v d):∃as,Reads h v (toPy d) as :=
 Pu.rec (motive_1:=λv d _=>∃as,Reads h v (toPy d) as) (motive_2:=λvs ds _=>∃as,ReadsAll h vs (bB ds) as) ⟨_,.none⟩ (λb=>⟨_,.bool b⟩) (λi t=>⟨_,.int i t⟩) (λs t=>⟨_,.str s t⟩)
  (λe _ q=>q.elim λ_ r=>⟨_,.list (le _ _ e) rfl rfl r⟩) (λe _ q=>q.elim λ_ r=>⟨_,.tuple (le _ _ e) rfl rfl r⟩) ⟨_,.nil⟩ (λ_ _ a b=>a.elim λ_ a=>b.elim λ_ b=>⟨_,.cons a b⟩) k
theorem gQ{P:Frz}:∀ {l:List V} {vs:List Value} {ss:List Str},PuL P vs l->txts l=some ss->StrsAre vs ss:=by
 intro l
 induction l with
 | nil=>intro _ _ k h;obtain rfl:=k.nilI;cases h;exact .nil
 | cons y _ ih =>
  intro _ _ k h;obtain⟨v,ws,rfl,a,b⟩:=k.consI;cases y with
  | str x =>
   obtain⟨t,rfl⟩:=a.inv;obtain⟨r,e,q⟩:=M8.mp h;subst q;exact .cons _ _ (ih b e)
  | _=>cases h
def Eqd(c:Cx)(b:Nat)(σ:Sg)(x y:V)(r:Bool):Prop:=Cp c b σ .Eq x y r/\Cp c b σ .NotEq x y (!r)
namespace Eqd
theorem int{i j:Int}:Eqd c b σ (.int i) (.int j) (decide (i=j)) :=
 ⟨λN u v E hu hv=>by obtain⟨t,rfl⟩:=hu.int_inv;obtain⟨t',rfl⟩:=hv.int_inv;exact PySem.P.eq_int (by rw[tZ];exact N.bool _),
 λN u v E hu hv=>by obtain⟨t,rfl⟩:=hu.int_inv;obtain⟨t',rfl⟩:=hv.int_inv;exact PySem.P.ne_int (by show N.Ev _ (.bool (!(i==j))) _;rw[tZ];exact N.bool _)⟩
theorem str{x y:Str}:Eqd c b σ (.str x) (.str y) (decide (x=y)) :=
 ⟨λN u v E hu hv=>by obtain⟨t,rfl⟩:=hu.str_inv;obtain⟨t',rfl⟩:=hv.str_inv;exact PySem.P.eq_str (by rw[Str.toList_beq];exact N.bool _),
 λN u v E hu hv=>by obtain⟨t,rfl⟩:=hu.str_inv;obtain⟨t',rfl⟩:=hv.str_inv;exact PySem.P.ne_str (by show N.Ev _ (.bool (!(_==_))) _;rw[Str.toList_beq];exact N.bool _)⟩
theorem none:Eqd c b σ .none .none true :=
 ⟨λN u v E hu hv=>by rw[hu.none_inv,hv.none_inv];exact EqNone.eq_none_none (N.bool _),λN u v E hu hv=>by rw[hu.none_inv,hv.none_inv];exact EqNone.ne_none_none (N.bool _)⟩
theorem strN{x:Str}:Eqd c b σ (.str x) .none false :=
 ⟨λN u v E hu hv=>by obtain⟨t,rfl⟩:=hu.str_inv;rw[hv.none_inv];exact EqNone.eq_str_none (N.bool _),λN u v E hu hv=>by obtain⟨t,rfl⟩:=hu.str_inv;rw[hv.none_inv];exact EqNone.ne_str_none (N.bool _)⟩
theorem seq{x y:V}(h1:SeqAt.shaped (toPy x)=true)(h2:SeqAt.shaped (toPy y)=true)(hx:flat x=true)(hy:flat y=true)(he:PyData.eqv (toPy x) (toPy y)=k):Eqd c b σ x y k:=by
 subst he;refine⟨λN u v E hu hv=>?_,λN u v E hu hv=>?_⟩
 all_goals
  obtain⟨as,ra⟩:=(hu.flat hx).reads (λ_ _ e=>e);obtain⟨bs,rb⟩:=(hv.flat hy).reads (λ_ _ e=>e)
 ·exact SeqAt.compareEq_shaped ra rb h1 h2 N.hA.u64 (N.bool _)
 ·exact SeqAt.compareNe_shaped ra rb h1 h2 N.hA.u64 (N.bool _)
theorem own{i:Nat}{l:List V}{y:V}(hc:σ.cs[i]?=some (.list l))(h:Eqd c b σ (.lst l) y k):Eqd c b σ (.own i) y k :=
 ⟨λN u v E hu hv=>h.1 N u v E (N.ownH hc hu) hv,λN u v E hu hv=>h.2 N u v E (N.ownH hc hu) hv⟩
end Eqd
end
end
section
section
variable{c:Cx}{g:Glb}{b:Nat}{σ τ:Sg}{e l r x y:Expr}{es as:List Expr}{u v w d:V}{vs ws xs ys:List V}{p q:Pos}{k j:Bool}{n:Nat}{nm:Str}
namespace Cp
theorem ltI{i j:Int}:Cp c b σ .Lt (.int i) (.int j) (decide (i<j)):=λN u v E hu hv=>by obtain⟨t,rfl⟩:=hu.int_inv;obtain⟨t',rfl⟩:=hv.int_inv;exact PySem.P.lt_int (N.bool _)
theorem gtI{i j:Int}:Cp c b σ .Gt (.int i) (.int j) (decide (j<i)):=λN u v E hu hv=>by obtain⟨t,rfl⟩:=hu.int_inv;obtain⟨t',rfl⟩:=hv.int_inv;exact PySem.P.gt_int (N.bool _)
theorem geI{i j:Int}:Cp c b σ .GtE (.int i) (.int j) (decide (j<=i)):=λN u v E hu hv=>by obtain⟨t,rfl⟩:=hu.int_inv;obtain⟨t',rfl⟩:=hv.int_inv;exact PySem.P.ge_int (N.bool _)
theorem ltS{i j:Str}:Cp c b σ .Lt (.str i) (.str j) (bR i j):=λN u v E hu hv=>by obtain⟨t,rfl⟩:=hu.str_inv;obtain⟨t',rfl⟩:=hv.str_inv;exact PySem.P.lt_str (N.bool _)
def eF(c:Cx)(x:V)(k:Bool):Prop:=∀γ P u,Is c.D γ P u x->(u==Value.none)=k
theorem noneN:eF c .none true:=λ_ _ u h=>by rw[h.none_inv];rfl
theorem noneS{s:Str}:eF c (.str s) false:=λ_ _ u h=>by obtain⟨t,rfl⟩:=h.str_inv;rfl
theorem noneI{s:Int}:eF c (.int s) false:=λ_ _ u h=>by obtain⟨t,rfl⟩:=h.int_inv;rfl
theorem noneL{s:List V}:eF c (.lst s) false:=λ_ _ u h=>by obtain⟨_,_,_,rfl,_⟩:=h.lst_inv;rfl
theorem noneO{s:Nat}:eF c (.obj s) false:=λ_ _ u h=>by obtain⟨_,rfl,_⟩:=h.obj_inv;rfl
theorem noneM{re t:Str}{sp:List (Nat × Nat)}:eF c (.mat re t sp) false:=λ_ _ u h=>by obtain⟨_,_,_,_,_,_,_,_,rfl,_⟩:=h.mat_inv;rfl
theorem is_(h:eF c v k):Cp c b σ .Is v .none k:=λN u v E hu hv=>by rw[hv.none_inv];exact is_none (by rw[h _ _ u hu];exact N.bool _)
theorem isNot(h:eF c v k):Cp c b σ .IsNot v .none (!k):=λN u v E hu hv=>by rw[hv.none_inv];exact isNot_none (by rw[h _ _ u hu];exact N.bool _)
theorem isNotT{s t:String}:Cp c b σ .IsNot (.ty s) (.ty t) (!decide (s=t)):=λN u v E hu hv=>by
 rw[hu.ty_inv,hv.ty_inv];show wpAny c.M N.A (do return Value.bool (!(<- isSame _ _))) _ _ _
 rw[z8];exact wpAny_pure (N.bool _)
theorem in_{a:Nat}{s t:Str}(h:s.cps.toList=[a]):Cp c b σ .In (.str s) (.str t) (decide (a∈t.cps.toList)):=λN u v E hu hv=>by
 obtain⟨t,rfl⟩:=hu.str_inv;obtain⟨t',rfl⟩:=hv.str_inv;refine PySem.P.in_str ?_;rw[su h,StrLaws.found_one];exact N.bool _
theorem notIn{a:Nat}{s t:Str}(h:s.cps.toList=[a]):Cp c b σ .NotIn (.str s) (.str t) (!decide (a∈t.cps.toList)):=λN u v E hu hv=>by
 obtain⟨t,rfl⟩:=hu.str_inv;obtain⟨t',rfl⟩:=hv.str_inv;refine PySem.P.notIn_str ?_;rw[su h,StrLaws.found_one];exact N.bool _
theorem inT{s:Str}{l:List V}{ss:List Str}(h:txts l=some ss):Cp c b σ .In (.str s) (.tup l) (ss.any λz=>decide (z=s)):=λN u v E hu hv=>by
 obtain⟨t,rfl⟩:=hu.str_inv;obtain⟨a,vs,n,rfl,e,p⟩:=hv.tup_inv;have ho:N.s.heap.get? a=some (aQ vs n):=e;have ha:=gQ p h
 let f:Value->Bool:=λy=>match y with | .str z _=>z==s | _=>false
 have h1:∀(vs:List Value) (ss:List Str),StrsAre vs ss->(∀y∈vs,∃z k,y=.str z k)/\vs.any f=ss.any λz=>decide (z=s):=by
  intro vs ss q
  induction q with
  | nil=>exact⟨λ_ hy=>(nomatch hy),rfl⟩
  | cons z k _ ih =>
   refine⟨λy hy=>?_,?_⟩
   ·rcases KZ.mp hy with rfl | hy
    ·exact⟨_,_,rfl⟩
    ·exact ih.1 y hy
   ·rw[Qc,Qc,ih.2]
    congr 1
 obtain⟨q1,q2⟩:=h1 _ _ ha;refine SeqAt.in_tupleAt f ⟨_,ho,rfl,n,rfl⟩ (λy hy=>?_) ?_
 ·obtain⟨z,k,rfl⟩:=q1 y (by simpa using hy)
  exact SeqAt.EqAt.str_str z k s t
 ·rw[<-Array.any_toList,q2];exact N.bool _
end Cp
theorem sI:typeLookup (.type "re.Match") (KY "__bool__")=pure none:=by rw[typeLookup_type,builtinLookup_eq_fast];rfl'
theorem sH:typeLookup (.type "re.Match") (KY "__len__")=pure none:=by rw[typeLookup_type,builtinLookup_eq_fast];rfl'
namespace Tp
theorem none:Tp c b σ .none false:=λN u E h=>by rw[h.none_inv];exact truthy_none ⟨rfl,N.P,.refl N.S⟩
theorem bool:Tp c b σ (.bool k) k:=λN u E h=>by rw[h.bool_inv];exact wpAny_truthy_bool ⟨rfl,N.P,.refl N.S⟩
theorem str{s:Str}(hl:s.cps.toList.length<=16777216):Tp c b σ (.str s) (!s.cps.toList.isEmpty):=λN u E h=>by
 obtain⟨t,rfl⟩:=h.str_inv;have e:s.length=s.cps.toList.length:=by show s.cps.size=_;simp
 refine PySem.P.truthy_str (by omega) ⟨?_,N.P,.toks N.S _⟩
 rw[e,Np];simp
theorem lst{l:List V}(hl:l.length<=16777216):Tp c b σ (.lst l) (!l.isEmpty):=λN u E h=>by
 obtain⟨a,vs,n,rfl,e,p⟩:=h.lst_inv;have ho:N.s.heap.get? a=some (aa vs n):=e;have hlen:=p.length;rw[Lp] at hlen;refine wpAny_truthy_list ⟨_,ho,rfl,n,rfl⟩ (by omega) ⟨?_,N.P,.toks N.S _⟩
 congr 1
 rw[Np,Array.isEmpty_iff_size_eq_zero,hlen,RM,Mt]
theorem own{i:Nat}{l:List V}(hc:σ.cs[i]?=some (.list l))(hl:l.length<=16777216):Tp c b σ (.own i) (!l.isEmpty):=λN u E h=>lst hl N u E (N.ownH hc h)
theorem mat{re t:Str}{sp:List (Nat × Nat)}:Tp c b σ (.mat re t sp) true:=λN u E h=>by
 obtain⟨a,_,_,_,_,_,_,_,rfl,e,_⟩:=h.mat_inv;have hT:N.s.TypeIs (.ref a) "re.Match":=⟨_,e,rfl⟩;show wpAny c.M N.A (truthy (.ref a)) _ _ _;unfold truthy
 first
  | refine wpAny_bind (wpAny_callSpecial?_none (name:=KY "__bool__") hT sI ?_)
  | refine wpAny_bind (wpAny_pure (wpAny_bind (wpAny_callSpecial?_none (name:=KY "__bool__") hT sI ?_)))
 first
  | refine wpAny_bind (wpAny_specialOf (name:=KY "__len__") hT sH ?_)
  | refine wpAny_bind (wpAny_pure (wpAny_bind (wpAny_specialOf (name:=KY "__len__") hT sH ?_)))
 exact wpAny_pure ⟨rfl,N.P,.refl N.S⟩
end Tp
namespace Seq
theorem lst:Seq c b σ false (.lst vs) vs:=λN u h=>by obtain⟨a,xs,n,rfl,e,p⟩:=h.lst_inv;exact⟨a,xs,n,rfl,p,N.S.real.le _ _ e⟩
theorem tup:Seq c b σ true (.tup vs) vs:=λN u h=>by obtain⟨a,xs,n,rfl,e,p⟩:=h.tup_inv;exact⟨a,xs,n,rfl,p,N.S.real.le _ _ e⟩
theorem own{i:Nat}(hc:σ.cs[i]?=some (.list vs)):Seq c b σ false (.own i) vs:=λN u h=>by obtain⟨xs,n,rfl,e,p⟩:=N.own hc h;exact⟨_,xs,n,rfl,p,e⟩
end Seq
theorem jH{i:Expr}(h:isSlice i=false)(o k:Value):subscripted i false o k=operate [o,k] (getItem o k):=by
 cases i <;> first | rfl | cases h
noncomputable def pick{α:Type}(l:List α)(lo hi st:Option Int):List α:=(sliceRange (sliceBounds lo hi st l.length).1 (sliceBounds lo hi st l.length).2.1 (sliceBounds lo hi st l.length).2.2).filterMap (l[·]?)
theorem PuL.picks{P:Frz}{vs:Array Value}{l:List V}(p:PuL P vs.toList l)(is:List Nat):PuL P (is.filterMap (vs[·]?)) (is.filterMap (l[·]?)):=by
 induction is with
 | nil=>exact .nil
 | cons i is ih =>
  rw[QV,QV];cases h:l[i]? with
  | none =>
   have:vs[i]?=none:=by
    have h1:=List.getElem?_eq_none_iff.mp h;have h2:=p.length;rw[Lp] at h2;exact Ss (by omega)
   rw[this];exact ih
  | some d =>
   obtain⟨v,e,q⟩:=p.get h;have:vs[i]?=some v:=by rw[<-e];simp
   rw[this];exact .cons q ih
theorem mH{p:Option (Int × Tok)}:IsPart (partValue p) (p.map (·.1)):=by
 cases p with
 | none=>exact .none
 | some x=>exact .int _ _
theorem pU(lo hi st:Option Expr)(p:Pos)(o i:Value):∃ops,subscripted (.Slice lo hi st p) false o i=operate ops (getItem o i):=by
 cases st with
 | none=>exact⟨_,rfl⟩
 | some e=>exact⟨_,rfl⟩
theorem mz{A:Around}{fr:List Env}{γ:Gh}{P:Frz}{s:Shared}{cs:List Cell}(S:St c fr γ P s cs){k:String}{h':Heap}{tk:Nat}{e:Addr}(x:Heap.NewExc s.heap h' e k):eE c fr γ P s cs k (.ref e) {s with heap:=h',toks:=tk}:=by
 have kp:Keep s.heap h':=.of_keeps x.keeps;obtain⟨ob,t,e1,e2,e3⟩:=x.there;exact⟨e,P,rfl,⟨.refl _ _,⟨S.real.keep (.refl _ _) kp (λb o q=>x.keeps b o (S.real.le b o q)) S.real.kind,S.wd.keep kp,S.frs.keep kp⟩,kp,λo=>o.step_keeps x.keeps,.refl _,rfl⟩,x.new,(by
  cases q:P e with
  | none=>rfl
  | some o=>have:=S.real.le _ _ q;rw[x.new] at this;cases this),ob,t,e1,e2,e3⟩
namespace R
theorem cst0:REv c b σ (.Constant .none n p) .none:=λN E=>wpAny_Constant_none (N.old (.pu .none))
theorem cstB:REv c b σ (.Constant (.bool k) n p) (.bool k):=λN E=>wpAny_Constant_bool (N.old (.pu (.bool _)))
theorem cstI{i:Int}:REv c b σ (.Constant (.int i) n p) (.int i):=λN E=>wpAny_Constant_int (N.int _ _ _)
theorem cstS{s:Str}:REv c b σ (.Constant (.str s) n p) (.str s):=λN E=>wpAny_Constant_str (N.str _ _ _)
theorem name(hg:aj c g){lv:Lv}{lr:List Lv}(hl:σ.lv=lv::lr)(h:Nm g σ.cs nm lv v):REv c b σ (.Name nm p) v:=λN E=>by
 have e:=hl.symm.trans N.hl;cases e;exact aR hg N.S N.he h λx hx=>N.old hx
theorem bin{op:Operator}(hl:REv c b σ l u)(hr:REv c b σ r v)(h:Bp c b σ op u v w):REv c b σ (.BinOp l op r p) w:=λN E =>
 wpAny_BinOp (hl.then N λP1 s1 a1 x i1=>hr.then (N.go a1) λP2 s2 a2 y i2=>wpAny_mono (h ((N.go a1).go a2) x y E (i1.mono a2.gr.le) i2) (λz s3 q=>(q.after a2).after a1) λ_ _ q=>q)
theorem neg{i:Int}(hx:REv c b σ x (.int i)):REv c b σ (.UnaryOp .USub x p) (.int (-i)):=λN E =>
 wpAny_UnaryOp (hx.then N λP1 s1 a1 x i1=>by
  obtain⟨t,rfl⟩:=i1.int_inv;exact PySem.P.neg_int (((N.go a1).int _ _ _).after a1))
theorem lu{op:CmpOp}{e:Expr}(h:isSet e=false):behindInMarks op e=false:=by
 cases e <;> first | rfl | cases h
theorem cmp{op:CmpOp}(hs:isSet r=false)(hl:REv c b σ l u)(hr:REv c b σ r v)(h:Cp c b σ op u v k):REv c b σ (.Compare l [op] [r] p) (.bool k):=λN E =>
 wpAny_Compare1 (hl.then N λP1 s1 a1 x i1=>hr.then (N.go a1) λP2 s2 a2 y i2=>wpAny_mono (h ((N.go a1).go a2) x y E (((N.go a1).go a2).hs (i1.mono a2.gr.le)) (((N.go a1).go a2).hs i2)) (λz s3 q=>(q.after a2).after a1) λ_ _ q=>q) (lu hs)
theorem trCmp{op:CmpOp}(hs:isSet r=false)(hl:REv c b σ l u)(hr:REv c b σ r v)(h:Cp c b σ op u v k):RTr c b σ (.Compare l [op] [r] p) k:=λN E =>
 wpAny_isTrue_Compare1 (hl.then N λP1 s1 a1 x i1=>hr.then (N.go a1) λP2 s2 a2 y i2=>wpAny_mono (h ((N.go a1).go a2) x y E (((N.go a1).go a2).hs (i1.mono a2.gr.le)) (((N.go a1).go a2).hs i2)) (λz s3 q=>by
  obtain⟨P3,a3,i3⟩:=q;rw[i3.bool_inv];exact wpAny_truthy_bool ⟨rfl,P3,(a1.trans a2).trans a3⟩) λ_ _ q=>q) (lu hs)
theorem trCmpX{op:CmpOp}{kx:String}(hs:isSet r=false)(hl:REx c b σ l kx):RTx c b σ (.Compare l [op] [r] p) kx:=λN Q =>
 wpAny_isTrue_Compare1 (wpAny_mono (hl N _) (λ_ _ q=>q) λ_ _ q=>q) (lu hs)
theorem trEv(hi:∀env,isTrue e env (eval e env)=(do let v <- eval e env;standAt e.pos;holding [v] (truthy v)))(he:REv c b σ e v)(h:Tp c b σ v k):RTr c b σ e k:=λN E =>
 wpAny_isTrue_value (he.then N λP1 s1 a1 x i1=>wpAny_mono (h (N.go a1) x E ((N.go a1).hs i1)) (λy s2 ⟨h1,P2,a2⟩=>⟨h1,P2,a1.trans a2⟩) λ_ _ q=>q) (hi _)
theorem trNot(h:RTr c b σ x k):RTr c b σ (.UnaryOp .Not x p) (!k):=λN E =>
 wpAny_isTrue_Not (wpAny_mono (h N E) (λy s1 ⟨h1,h2⟩=>⟨by rw[h1],h2⟩) λ_ _ q=>q)
theorem trBool{op:BoolOp}(h:RTrs c b op σ es k):RTr c b σ (.BoolOp op es p) k:=λN E=>wpAny_isTrue_BoolOp (h N E)
theorem allNil:RTrs c b .And σ [] true:=λN E=>wpAny_pure ⟨rfl,N.P,.refl N.S⟩
theorem anyNil:RTrs c b .Or σ [] false:=λN E=>wpAny_pure ⟨rfl,N.P,.refl N.S⟩
theorem allF(h:RTr c b σ e false):RTrs c b .And σ (e::es) false:=λN E=>wpAny_allTrue_And_cons (wpAny_mono (h N E) (λy s1 ⟨h1,h2⟩=>by subst h1;exact⟨rfl,h2⟩) λ_ _ q=>q)
theorem anyT(h:RTr c b σ e true):RTrs c b .Or σ (e::es) true:=λN E=>wpAny_allTrue_Or_cons (wpAny_mono (h N E) (λy s1 ⟨h1,h2⟩=>by subst h1;exact⟨rfl,h2⟩) λ_ _ q=>q)
theorem allT(h:RTr c b σ e true)(hr:RTrs c b .And σ es k):RTrs c b .And σ (e::es) k:=λN E=>wpAny_allTrue_And_cons (wpAny_mono (h N E) (λy s1 ⟨h1,P1,a1⟩=>by
 subst h1;exact wpAny_mono (hr (N.go a1) E) (λz s2 ⟨h2,P2,a2⟩=>⟨h2,P2,a1.trans a2⟩) λ_ _ q=>q) λ_ _ q=>q)
theorem anyF(h:RTr c b σ e false)(hr:RTrs c b .Or σ es k):RTrs c b .Or σ (e::es) k:=λN E=>wpAny_allTrue_Or_cons (wpAny_mono (h N E) (λy s1 ⟨h1,P1,a1⟩=>by
 subst h1;exact wpAny_mono (hr (N.go a1) E) (λz s2 ⟨h2,P2,a2⟩=>⟨h2,P2,a1.trans a2⟩) λ_ _ q=>q) λ_ _ q=>q)
theorem nil:REvs c b σ [] []:=⟨rfl,λN E pos=>Calls.spliced_nil ⟨N.P,.refl N.S,.nil⟩⟩
theorem cons(hs:isStarred e=false)(h:REv c b σ e v)(hr:REvs c b σ es vs):REvs c b σ (e::es) (v::vs):=by
 refine⟨by unfold cN;rw[Lw,hs];exact hr.1,λN E pos=>?_⟩
 rw[jk hs];show wpAny c.M N.A (spliced ((false,eval e N.env)::backTo pos (starEach es N.env))) _ _ _;exact Calls.spliced_cons (h.then N λP1 s1 a1 x i1=>hr.then (N.go a1) λP2 s2 a2 xs i2=>⟨P2,a1.trans a2,.cons (i1.mono a2.gr.le) i2⟩)
theorem tup{m:Nat}(h:REvs c b σ es vs)(hf:vs.all flat=true)(hz:vs.length<=16777216):REv c b σ (.Tuple es m p) (.tup vs):=λN E =>
 Tuple_ (h.then N λP1 s1 a1 xs is=>by
  have p:=is.flat hf;refine wpAny_newTuple (Ev.after a1 (jU a1.st p s1.toks)) ?_;rw[<-p.length] at hz;exact hz)
end R
end
end
section
theorem uf{n p:Nat}(h:p<n):seqIndex? (p:Int) n=some p:=by
 unfold seqIndex?;have h1:¬ (p:Int)<0:=Q6.mpr (Nk p);have h2:(p:Int)<(n:Int):=Q5.mpr h;simp[h1,h2]
theorem my{α:Type}(l:List α):∀(k a:Nat),a+k<=l.length->((K7 k).map (a + ·)).filterMap (l[·]?)=(l.take (a+k)).drop a:=by
 intro k
 induction k with
 | zero=>intro a h;simp
 | succ k ih =>
  intro a h;have e:(K7 (k+1)).map (a + ·)=a::(K7 k).map ((a+1) + ·):=by
   rw[List.range_succ_eq_map,Li,Lq];simp only[Nf,List.cons.injEq,true_and];apply MN;intro i _;show a+(i+1)=a+1+i;omega
  have ha:a<l.length:=by omega
  rw[e,QV,Lb ha];dsimp only;rw[ih (a+1) (by omega)]
  have:(l.take (a+(k+1))).drop a=l[a]::(l.take (a+(k+1))).drop (a+1):=by
   rw[RV (by rw[Mr];omega)]
   congr 1
   exact List.getElem_take ..
  rw[this,show a+1+k=a+(k+1) by omega]
noncomputable def oi:Option Nat->Option Int
 | some n=>some (n:Int)
 | none=>none
noncomputable def seg{α:Type}(l:List α)(lo hi:Option Nat):List α:=(match hi with | some b=>l.take b | none=>l).drop (match lo with | some a=>a | none=>0)
theorem seg_s{α:Type}{l:List α}{a:Nat}:seg l (some a) none=l.drop a:=rfl
theorem seg_t{α:Type}{l:List α}{b:Nat}:seg l none (some b)=l.take b:=rfl
theorem lR{α β:Type}{f:α->β}{l:List α}{k:Nat}:(l.take k++l.drop (k+1)).map f=seg (l.map f) none (some k)++seg (l.map f) (some (k+1)) none:=by
 show _=(l.map f).take k++(l.map f).drop (k+1);rw[NB,RC,QH]
theorem lU{α:Type}{xs:List α}{k m:Nat}(h:xs.length<=m):(seg xs none (some k)++seg xs (some (k+1)) none).length<=m:=by
 show((xs.take k).drop 0++xs.drop (k+1)).length<=m;rw[Ph,KR,Mr,Ni];exact I7 h
open PySem.Builtin.Str in
theorem qK{α:Type}(l:List α)(lo hi:Option Nat):∃a k,a+k<=l.length/\strSliceIndices (oi lo) (oi hi) 1 l.length=(K7 k).map (a + ·)/\(l.take (a+k)).drop a=seg l lo hi:=by
 have cl:∀i:Nat,max (0:Int) (min (if (i:Int)<0 then (i:Int)+l.length else i) l.length)=((min i l.length:Nat):Int):=λi=>by rw[if_neg (Q6.mpr (Nk i))];exact zs1 i _
 have key:∀a b:Nat,a<=l.length->b<=l.length->∃i k,i+k<=l.length/\sliceRange (a:Int) (b:Int) 1=(K7 k).map (i + ·)/\(l.take (i+k)).drop i=(l.take b).drop a:=λa b ha hb=>by
  by_cases h:a<=b
  ·exact⟨a,b-a,by rw[N7 h];exact hb,sliceRange_one a b,by rw[N7 h]⟩
  ·have h:=Nat.le_of_not_le h
   refine⟨0,0,K5 _,by rw[sliceRange_one,Rk h];rfl,?_⟩
   rw[NP (i:=a) (KQ (RJ ..) h)];rfl
 have tk:∀b:Nat,l.take (min b l.length)=l.take b:=λb=>by rw[List.take_eq_take_min (i:=b)]
 have dr:∀(m:List α) (a:Nat),m.length<=l.length->m.drop (min a l.length)=m.drop a:=λm a hm=>by
  by_cases h:a<=l.length
  ·rw[Qp h]
  ·rw[NP (by omega),NP (by omega)]
 have le:∀b:Nat,(l.take b).length<=l.length:=λb=>List.length_take_le' ..;cases lo with
 | none =>
  cases hi with
  | none=>obtain⟨a,k,h1,h2,h3⟩:=key 0 l.length (K5 _) (K3 _);exact⟨a,k,h1,h2,by rw[h3,O6];rfl⟩
  | some b=>obtain⟨a,k,h1,h2,h3⟩:=key 0 (min b l.length) (K5 _) (Nr ..);exact⟨a,k,h1,(congrArg (sliceRange 0 · 1) (cl b)).trans h2,by rw[h3,tk];rfl⟩
 | some a =>
  cases hi with
  | none=>obtain⟨i,k,h1,h2,h3⟩:=key (min a l.length) l.length (Nr ..) (K3 _);exact⟨i,k,h1,(congrArg (sliceRange · l.length 1) (cl a)).trans h2,by rw[h3,O6,dr _ _ (K3 _)];rfl⟩
  | some b=>obtain⟨i,k,h1,h2,h3⟩:=key (min a l.length) (min b l.length) (Nr ..) (Nr ..);exact⟨i,k,h1,((congrArg (sliceRange · _ 1) (cl a)).trans (congrArg (sliceRange _ · 1) (cl b))).trans h2,by rw[h3,tk,dr _ _ (le b)];rfl⟩
theorem ru{α:Type}(l:List α)(lo hi:Option Nat):pick l (oi lo) (oi hi) none=seg l lo hi:=by
 obtain⟨a,k,h1,h2,h3⟩:=qK l lo hi;show(PySem.Builtin.Str.strSliceIndices _ _ 1 l.length).filterMap _=_;rw[h2,my l k a h1,h3]
section
variable{c:Cx}{g:Glb}{b:Nat}{σ τ:Sg}{e l r x y:Expr}{es as:List Expr}{u v w d:V}{vs ws xs ys:List V}{p q:Pos}{k j:Bool}{n:Nat}{nm:Str}
namespace R
theorem item{t:Bool}{i:Nat}(hs:isSlice x=false)(he:REv c b σ e u)(hx:REv c b σ x (.int i))(h:Seq c b σ t u vs)(hi:vs[i]?=some v)(hz:vs.length<=16777216):REv c b σ (.Subscript e x p) v:=λN E =>
 Subscript_ (he.then N λP1 s1 a1 xa ia=>hx.then (N.go a1) λP2 s2 a2 xb ib=>by
  obtain⟨tk,rfl⟩:=ib.int_inv;obtain⟨a,ys,m,rfl,p,ho⟩:=h ((N.go a1).go a2) xa (ia.mono a2.gr.le);have hlen:=p.length;rw[Lp] at hlen;have hlt:i<vs.length:=(Ld.mp hi).1;obtain⟨y,e1,e2⟩:=p.get hi;have e1':ys[i]?=some y:=by rw[<-e1];simp
  have fin:N.Ev v y s2:=(((N.go a1).go a2).old (.pu e2) |>.after a2).after a1
  cases t with
  | true =>
   have hT:IsTup s2.heap a ys:=⟨_,ho,rfl,m,rfl⟩;exact tail_any hT.typeIs slot_tuple_getitem.lookup (getItem_tuple hT (by omega) (by omega) (by rw[hlen];exact uf hlt) e1' fin) (jH hs _ _)
  | false =>
   have hL:s2.heap.IsList a ys:=⟨_,ho,rfl,m,rfl⟩;exact tail_any hL.typeIs slot_list_getitem.lookup (wpAny_getItem_list hL (by omega) (by omega) e1' fin) (jH hs _ _))
theorem itemX{i:Nat}(hs:isSlice x=false)(he:REv c b σ e u)(hx:REv c b σ x (.int i))(h:Seq c b σ false u vs)(hi:vs.length<=i)(hz:i<=16777216):REx c b σ (.Subscript e x p) "IndexError":=λN Q =>
 Subscript_ (he.then N λP1 s1 a1 xa ia=>hx.then (N.go a1) λP2 s2 a2 xb ib=>by
  obtain⟨tk,rfl⟩:=ib.int_inv;obtain⟨a,ys,m,rfl,p,ho⟩:=h ((N.go a1).go a2) xa (ia.mono a2.gr.le);have hlen:=p.length;rw[Lp] at hlen;have hL:s2.heap.IsList a ys:=⟨_,ho,rfl,m,rfl⟩;exact tail_any hL.typeIs slot_list_getitem.lookup (wpAny_getItem_list_out N.hA.handled hL (.inr (by omega)) (by omega) (by omega) λh' tk e q=>((mz (A:=N.A) a2.st q).after a2).after a1) (jH hs _ _))
theorem sign{i a:Nat}{s:Str}(hs:isSlice x=false)(he:REv c b σ e (.str s))(hx:REv c b σ x (.int i))(hi:s.cps.toList[i]?=some a)(hz:s.cps.toList.length<=16777216):REv c b σ (.Subscript e x p) (.str (mkS [a])):=λN E =>
 Subscript_ (he.then N λP1 s1 a1 xa ia=>hx.then (N.go a1) λP2 s2 a2 xb ib=>by
  obtain⟨tk,rfl⟩:=ib.int_inv;obtain⟨t',rfl⟩:=ia.str_inv;have hlt:i<s.cps.toList.length:=(Ld.mp hi).1;refine tail_any (typeIs_str s2 s t') PySem.F.slot_str_getitem.lookup (PySem.P.getItem_str ?_ (c:=a) ?_ ?_) (jH hs _ _)
  ·rw[decide_eq_false (by omega),decide_eq_false (by omega)];rfl
  ·have e:s.length=s.cps.toList.length:=by show s.cps.size=_;simp
   rw[e,uf hlt];show s.cps[i]?=some a;rw[<-hi];simp
  ·exact((((N.go a1).go a2).str _ _ _).after a2).after a1)
theorem optN:ROpt c b σ none none:=λN E=>wpAny_pure ⟨N.P,none,.refl N.S,rfl,rfl⟩
theorem optI{i:Int}(h:REv c b σ e (.int i)):ROpt c b σ (some e) (some i):=λN E=>h.then N λP1 s1 a1 x i1=>by
 obtain⟨t,rfl⟩:=i1.int_inv;exact⟨P1,some (i,t),a1,rfl,rfl⟩
theorem vN{A:Around}{fr:List Env}{γ:Gh}{P:Frz}{s:Shared}{cs:List Cell}{E:Value->Shared->Prop}{p1 p2 p3:Option (Int × Tok)}{lo hi st:Option Expr}{ad:Addr}{ys:Array Value}{m:Nat}(S:St c fr γ P s cs)(pp:PuL P ys.toList vs)(ho:s.heap.get? ad=some (aa ys m))
  (hd:p3.map (·.1)≠some 0) (hr:pick vs (p1.map (·.1)) (p2.map (·.1)) (p3.map (·.1))=ws) (hz:vs.length<=16777216) :
  wpAny c.M A (subscriptTail e (.Slice lo hi st p) (.ref ad) (.ref s.heap.objs.size)) (Ev c fr γ P s cs (.lst ws)) E {s with heap:=s.heap.push {cls:=.type "slice",data:=.fields #[partValue p1,partValue p2,partValue p3]}}:=by
 obtain⟨ops,hops⟩:=pU lo hi st p (.ref ad) (.ref s.heap.objs.size);have hlen:=pp.length;rw[Lp] at hlen;have hL:s.heap.IsList ad ys:=⟨_,ho,rfl,m,rfl⟩;have hL':=hL.push {cls:=.type "slice",data:=.fields #[partValue p1,partValue p2,partValue p3]};refine tail_any hL'.typeIs slot_list_getitem.lookup (wpAny_getItem_list_slice hL' (Heap.IsSliceOf.new ..) mH mH mH hd ?_ (by show ys.size<=16777216;omega)) hops
 have a5:=Aft.push S (o:={cls:=.type "slice",data:=.fields #[partValue p1,partValue p2,partValue p3]}) rfl (tyF (by decide)) tyN s.toks
 have pr:PuL P (slicePick ys (p1.map (·.1)) (p2.map (·.1)) (p3.map (·.1))).toList ws:=by
  rw[<-hr];show PuL P _ ((sliceRange _ _ _).filterMap _);rw[<-hlen];exact pp.picks _
 have:=(Hq a5.st (pr.mono a5.gr.le) s.toks).after a5;rw[Array.toArray_toList] at this;exact this
theorem cutL{lo hi st:Option Expr}{a bb d:Option Int}(he:REv c b σ e u)(h1:ROpt c b σ lo a)(h2:ROpt c b σ hi bb)(h3:ROpt c b σ st d)(h:Seq c b σ false u vs)(hd:d≠some 0)(hr:pick vs a bb d=ws)(hz:vs.length<=16777216):REv c b σ (.Subscript e (.Slice lo hi st p) q) (.lst ws):=λN E =>
 Subscript_ (he.then N λP1 s1 a1 xa ia=>wpAny_Slice (wpAny_mono (h1 (N.go a1) E) (λx1 s2 ⟨P2,p1,a2,e1,f1⟩=>wpAny_mono (h2 ((N.go a1).go a2) E) (λx2 s3 ⟨P3,p2,a3,e2,f2⟩=>wpAny_mono (h3 (((N.go a1).go a2).go a3) E) (λx3 s4 ⟨P4,p3,a4,e3,f3⟩=>by
  subst e1 e2 e3 f1 f2 f3;obtain⟨A,ys,m,rfl,pp,ho⟩:=h ((((N.go a1).go a2).go a3).go a4) xa (((ia.mono a2.gr.le).mono a3.gr.le).mono a4.gr.le);exact wpAny_mono (vN a4.st pp ho hd hr hz) (λx s5 q=>(((q.after a4).after a3).after a2).after a1) λ_ _ q=>q) λ_ _ q=>q) λ_ _ q=>q) λ_ _ q=>q))
theorem cutS{s:Str}{lo hi:Option Expr}{a bb:Option Nat}(he:REv c b σ e (.str s))(h1:ROpt c b σ lo (oi a))(h2:ROpt c b σ hi (oi bb))(hz:s.cps.toList.length<=16777216):REv c b σ (.Subscript e (.Slice lo hi none p) q) (.str (mkS (seg s.cps.toList a bb))):=λN E =>
 Subscript_ (he.then N λP1 s1 a1 xa ia=>wpAny_Slice (wpAny_mono (h1 (N.go a1) E) (λx1 s2 ⟨P2,p1,a2,e1,f1⟩=>wpAny_mono (h2 ((N.go a1).go a2) E) (λx2 s3 ⟨P3,p2,a3,e2,f2⟩=>wpAny_pure (by
  subst e1 e2;obtain⟨t,rfl⟩:=ia.str_inv;obtain⟨ops,hops⟩:=pU lo hi none p (.str s t) (.ref s3.heap.objs.size);have a5:=Aft.push a3.st (o:={cls:=.type "slice",data:=.fields #[partValue p1,partValue p2,.none]}) rfl (tyF (by decide)) tyN s3.toks
  have back:∀ {d:V} {v:Value} {s':Shared},((((N.go a1).go a2).go a3).go a5).Ev d v s'->N.Ev d v s':=λh=>(((h.after a5).after a3).after a2).after a1;refine tail_any (typeIs_str _ s t) PySem.F.slot_str_getitem.lookup (wpAny_getItem_str_slice (l:=p1) (u:=p2) (st:=none) ⟨_,Heap.get?_push_size _ rfl,rfl,rfl⟩ rfl ?_) hops;have hx:s.length=s.cps.toList.length:=by show s.cps.size=_;simp
  obtain⟨i,k,g1,g2,g3⟩:=qK s.cps.toList a bb;have ep:slicePicked s p1 p2 none=(K7 k).map (i + ·):=by unfold slicePicked;rw[f1,f2,hx];exact g2
  have ef:((K7 k).map (i + ·)).filterMap (s.cps[·]?)=seg s.cps.toList a bb:=by rw[<-g3,<-my _ k i g1];simp
  unfold sliceMade;rw[ep];split
  ·rename_i hc
   rw[hx] at hc;have hw:k=s.cps.toList.length:=by simpa using hc
   have:seg s.cps.toList a bb=s.cps.toList:=by rw[<-g3,show i=0 by omega,Ph,Lr,hw,O6]
   rw[this,<-Str.eq_mk];exact back (((((N.go a1).go a2).go a3).go a5).str _ _ _)
  ·rw[ef]
   refine⟨?_,back (((((N.go a1).go a2).go a3).go a5).str _ _ _)⟩;show(seg s.cps.toList a bb).toArray.size<=16777216;rw[<-g3];simp only[List.size_toArray,Ni,Mr];omega)) λ_ _ q=>q) λ_ _ q=>q))
theorem fmt{t:Str}(he:REv c b σ e (.str t))(hz:t.cps.toList.length<=16777216):REv c b σ (.FormattedValue e 115 none p) (.str t):=λN E=>by
 show wpAny c.M N.A _ _ _ _;rw[arm_eval_FormattedValue];refine wpAny_bind (he.then N λP1 s1 a1 xa ia=>?_);obtain⟨k,rfl⟩:=ia.str_inv;have hx:t.length<=sizeLine:=by show t.cps.size<=16777216;simpa using hz
 have fin:∀(k:Tok) (n:Nat),wpAny c.M N.A (formatField (.str t k) Str.empty) (N.Ev (.str t)) E {s1 with toks:=n}:=λk n =>
  wpAny_formatField_str (((N.go a1).str t k n).after a1) (((N.go a1).str t n (n+1)).after a1) hx
 exact wpAny_bind (wpAny_standAt (wpAny_bind (wpAny_holding (wpAny_habitSame_str (fin k s1.toks) (fin _ _) hx))))
theorem joined{s t u:Str}{e1 e2 e3:Expr}(h1:REv c b σ e1 (.str s))(h2:REv c b σ e2 (.str t))(h3:REv c b σ e3 (.str u))(hz:(s.cps.toList++t.cps.toList++u.cps.toList).length<=16777216) :
  REv c b σ (.JoinedStr [e1,e2,e3] p) (.str (mkS (s.cps.toList++t.cps.toList++u.cps.toList))):=λN E=>by
 have len:∀l:List Nat,(mkS l).length=l.length:=λl=>by show l.toArray.size=_;simp
 have z2:(s.cps.toList++t.cps.toList).length<=16777216:=by rw[KR] at hz;omega
 have z1:s.cps.toList.length<=16777216:=by rw[KR] at z2;omega
 have app2:s++t=mkS (s.cps.toList++t.cps.toList):=(jG _ _).symm;have app3:s++t++u=mkS (s.cps.toList++t.cps.toList++u.cps.toList):=by rw[app2];exact(jG (mkS _) u).symm
 refine wpAny_JoinedStr ?_;refine h1.then N λP1 s1 a1 x i1=>?_;obtain⟨k1,rfl⟩:=i1.str_inv;refine⟨s,k1,rfl,by rw[Str.empty_append,Str.eq_mk s,len];exact z1,?_⟩
 rw[Str.empty_append];refine h2.then (N.go a1) λP2 s2 a2 x i2=>?_;obtain⟨k2,rfl⟩:=i2.str_inv;refine⟨t,k2,rfl,by rw[app2,len];exact z2,?_⟩
 refine h3.then ((N.go a1).go a2) λP3 s3 a3 x i3=>?_;obtain⟨k3,rfl⟩:=i3.str_inv;refine⟨u,k3,rfl,by rw[app3,len];exact hz,by rw[app3,len];exact hz,?_⟩
 rw[app3];exact(((((N.go a1).go a2).go a3).str _ _ _).after a3 |>.after a2).after a1
end R
end
end
section
noncomputable def walkers:List String:=["list_iterator","tuple_iterator","range_iterator","enumerate"]
def aZ(o:Obj):Prop:=∃n,o.cls=.type n/\n∈walkers
theorem aZ.kind{o:Obj}(h:aZ o):o.cls≠.type "frame"/\o.cls≠.none:=by
 obtain⟨n,e,hn⟩:=h;rw[e];refine⟨λq=>?_,λq=>by cases q⟩
 cases q;exact absurd hn (by decide)
theorem aZ.not{o:Obj}{n:String}(h:aZ o)(e:o.cls=.type n)(hn:n∉walkers):False:=by
 obtain⟨m,e',hm⟩:=h;rw[e'] at e;cases e;exact hn hm
structure Wk(c:Cx)(A:Around)(P:Frz)(I:Addr)(fp:List Addr)(xs:List V)(Pn:Nat->Value->Prop)(T:Nat->Heap->Prop):Prop where
 W:Walks c.prog c.w A I fp [I] xs.length Pn T
 item:∀i v,Pn i v->∀d,xs[i]?=some d->Pu P v d
 foot:∀b∈fp,b=I∨∃o,P b=some o
 wl3:∀i h,T i h->∃o,h.get? I=some o/\∃m,o.cls=.type m/\m∈["list_iterator","tuple_iterator","range_iterator"]
theorem Wk.wlk{c:Cx}{A:Around}{P:Frz}{I:Addr}{fp:List Addr}{xs:List V}{Pn:Nat->Value->Prop}{T:Nat->Heap->Prop}(w:Wk c A P I fp xs Pn T)(i:Nat)(h:Heap)(t:T i h):∃o,h.get? I=some o/\aZ o:=by
 obtain⟨o,e,m,hm,hin⟩:=w.wl3 i h t;refine⟨o,e,m,hm,?_⟩;simp only[KZ,M4,or_false] at hin;rcases hin with rfl | rfl | rfl <;> decide
theorem Wk.cls{c:Cx}{A:Around}{P:Frz}{I:Addr}{fp:List Addr}{xs:List V}{Pn:Nat->Value->Prop}{T:Nat->Heap->Prop}(w:Wk c A P I fp xs Pn T)(i:Nat)(h:Heap)(t:T i h):∃o,h.get? I=some o/\o.cls≠.type "frame"/\o.cls≠.none :=
 let ⟨o,e,k⟩:=w.wlk i h t;⟨o,e,k.kind.1,k.kind.2⟩
theorem Wk.noCode{c:Cx}{A:Around}{P:Frz}{I:Addr}{fp:List Addr}{xs:List V}{Pn:Nat->Value->Prop}{T:Nat->Heap->Prop}(w:Wk c A P I fp xs Pn T)(i:Nat)(h:Heap)(t:T i h):b7 h I:=by
 obtain⟨o,e,n,hc,hm⟩:=w.wlk i h t;exact .cls e λq=>by rw[Value.type.inj (hc.symm.trans q)] at hm;exact absurd hm (by decide)
theorem Wk.mono{c:Cx}{A:Around}{P P':Frz}{I:Addr}{fp:List Addr}{xs:List V}{Pn:Nat->Value->Prop}{T:Nat->Heap->Prop}(w:Wk c A P I fp xs Pn T)(hp:FLe P P'):Wk c A P' I fp xs Pn T :=
 ⟨w.W,λi v h d e=>(w.item i v h d e).mono hp,λb hb=>(w.foot b hb).imp id λ⟨o,e⟩=>⟨o,hp _ _ e⟩,w.wl3⟩
theorem Wk.frame{c:Cx}{A:Around}{P:Frz}{I:Addr}{fp:List Addr}{xs:List V}{Pn:Nat->Value->Prop}{T:Nat->Heap->Prop}(w:Wk c A P I fp xs Pn T){i:Nat}{h h':Heap}(t:T i h)
  (hi:∀o,h.get? I=some o->h'.get? I=some o) (h1:∀b o,P b=some o->h.get? b=some o) (h2:∀b o,P b=some o->h'.get? b=some o):T i h':=by
 refine w.W.frame i h h' t λb hb o e=>?_;rcases w.foot b hb with rfl | ⟨o',e'⟩
 ·exact hi o e
 ·rw[h1 _ _ e'] at e;cases e;exact h2 _ _ e'
theorem Wk.keep{c:Cx}{A:Around}{P:Frz}{I:Addr}{fp:List Addr}{xs:List V}{Pn:Nat->Value->Prop}{T:Nat->Heap->Prop}(w:Wk c A P I fp xs Pn T){i:Nat}{h h':Heap}(t:T i h)
  (k:Keep h h') (h1:∀b o,P b=some o->h.get? b=some o) (h2:∀b o,P b=some o->h'.get? b=some o):T i h':=by
 obtain⟨o,e,q1,q2⟩:=w.cls i h t;exact w.frame t (λo' e'=>by rw[e] at e';cases e';exact k.exact e q1 q2) h1 h2
section
variable{c:Cx}{g:Glb}{A:Around}{fr:List Env}{γ:Gh}{P P':Frz}{s s':Shared}{cs:List Cell}{E:Value->Shared->Prop}{b:Nat}{env:Env}{σ:Sg}{l:Lv}{lr:List Lv}
theorem Aft.side(S:St c fr γ P s cs)(o:Obj)(t:Nat):Aft c fr γ P s cs P {s with heap:=s.heap.push o,toks:=t} :=
 ⟨.refl _ _,⟨S.real.keep (.refl _ _) (.of_push _ _) (λb o' e=>Heap.get?_push_of_some _ (S.real.le b o' e)) S.real.kind,S.wd.keep (.of_push _ _),S.frs.keep (.of_push _ _)⟩,.push _ _ _ _⟩
abbrev ItQ(c:Cx)(A:Around)(fr:List Env)(γ:Gh)(P:Frz)(s:Shared)(cs:List Cell)(xs:List V)(it:Value)(s2:Shared):Prop :=
 ∃P2 I fp Pn T,it=.ref I/\Wk c A P2 I fp xs Pn T/\T 0 s2.heap/\s.heap.get? I=none/\P2 I=none/\Aft c fr γ P s cs P2 s2
theorem nF:∀(n i:Nat),(inds i n).length=n:=by
 intro l_
 induction l_ with
 | zero=>exact λ_=>rfl
 | succ n ih =>
  intro i;exact congrArg (· + 1) (ih _)
theorem ue:∀(n i j:Nat),j<n->(inds i n)[j]?=some (.int ((i+j:Nat):Int))
 | 0,_,_,h=>by omega
 | n+1,i,0,_=>rfl
 | n+1,i,j+1,h=>by
  show(inds (i+1) n)[j]?=_;rw[ue n (i+1) j (by omega)]
  congr 3
  omega
theorem ItQ.after(a:Aft c fr γ P s cs P' s'){xs:List V}{it:Value}{s2:Shared}(h:ItQ c A fr γ P' s' cs xs it s2):ItQ c A fr γ P s cs xs it s2 :=
 let ⟨P2,I,fp,Pn,T,h1,h2,h3,h4,h5,h6⟩:=h;⟨P2,I,fp,Pn,T,h1,h2,h3,a.ext.keep.gone h4,h5,a.trans h6⟩
end
section
variable{c:Cx}{g:Glb}{b:Nat}{σ τ:Sg}{e l r x y:Expr}{es as:List Expr}{u v w d:V}{vs ws xs ys:List V}{p q:Pos}{k j:Bool}{n:Nat}{nm:Str}
def RIt(c:Cx)(b:Nat)(σ:Sg)(e:Expr)(xs:List V):Prop:=∀(N:Now c b σ) (E:Value->Shared->Prop),N.wp (eval e N.env) (λx s1=>wpAny c.M N.A (pyIter x) (ItQ c N.A N.fr N.γ N.P N.s σ.cs xs) E s1) E
theorem Now.iterL(N:Now c b σ){x:Value}{E:Value->Shared->Prop}(hx:N.Is x (.lst xs)):N.wp (pyIter x) (ItQ c N.A N.fr N.γ N.P N.s σ.cs xs) E:=by
 obtain⟨a,vs,n,rfl,e,p⟩:=hx.lst_inv;have ho:=N.S.real.le _ _ e;have hlen:=p.length;rw[Lp] at hlen;have hne:a≠N.s.heap.objs.size:=λq=>Mq _ (q▸Heap.lt_size ho);refine wpAny_pyIter_list ⟨_,ho,rfl,n,rfl⟩ ⟨N.P,_,_,_,_,rfl,⟨hlen▸Walks.list N.hA.handled N.s.heap.objs.size a hne vs,λi w hw d hd=>?_,λb hb=>?_,λi h t=>?_⟩,?_,aU _,N.S.real.none_at,.side N.S _ N.s.toks⟩
 ·obtain⟨w',e1,e2⟩:=p.get hd
  have:vs[i]?=some w':=by rw[<-e1];simp
  rw[hw] at this;cases this;exact e2
 ·simp only[KZ,M4,or_false] at hb
  rcases hb with rfl | rfl
  ·exact .inl rfl
  ·exact .inr ⟨_,e⟩
 ·obtain⟨⟨o,e1,e2,_⟩,_⟩:=t
  exact⟨o,e1,_,e2,by decide⟩
 ·exact⟨⟨_,Heap.get?_push_size _ rfl,rfl,rfl⟩,⟨_,Heap.get?_push_of_some _ ho,rfl,n,rfl⟩⟩
theorem Now.iterT(N:Now c b σ){x:Value}{E:Value->Shared->Prop}(hx:N.Is x (.tup xs)):N.wp (pyIter x) (ItQ c N.A N.fr N.γ N.P N.s σ.cs xs) E:=by
 obtain⟨a,vs,n,rfl,e,p⟩:=hx.tup_inv;have ho:=N.S.real.le _ _ e;have hlen:=p.length;rw[Lp] at hlen;have hne:a≠N.s.heap.objs.size:=λq=>Mq _ (q▸Heap.lt_size ho);refine wpAny_pyIter_tuple ⟨_,ho,rfl,n,rfl⟩ ⟨N.P,_,_,_,_,rfl,⟨hlen▸Walks.tuple N.hA.handled N.s.heap.objs.size a hne vs,λi w hw d hd=>?_,λb hb=>?_,λi h t=>?_⟩,?_,aU _,N.S.real.none_at,.side N.S _ N.s.toks⟩
 ·obtain⟨w',e1,e2⟩:=p.get hd
  have:vs[i]?=some w':=by rw[<-e1];simp
  rw[hw] at this;cases this;exact e2
 ·simp only[KZ,M4,or_false] at hb
  rcases hb with rfl | rfl
  ·exact .inl rfl
  ·exact .inr ⟨_,e⟩
 ·obtain⟨⟨o,e1,e2,_⟩,_⟩:=t
  exact⟨o,e1,_,e2,by decide⟩
 ·exact⟨⟨_,Heap.get?_push_size _ rfl,rfl,rfl⟩,⟨_,Heap.get?_push_of_some _ ho,rfl,n,rfl⟩⟩
namespace R
theorem itL(he:REv c b σ e (.lst xs)):RIt c b σ e xs:=λN E=>he.then N λP1 s1 a1 x i1=>wpAny_mono ((N.go a1).iterL i1) (λit s2 q=>q.after a1) λ_ _ q=>q
theorem itT(he:REv c b σ e (.tup xs)):RIt c b σ e xs:=λN E=>he.then N λP1 s1 a1 x i1=>wpAny_mono ((N.go a1).iterT i1) (λit s2 q=>q.after a1) λ_ _ q=>q
theorem itR{i:Nat}(hg:aj c g){lv:Lv}{lr:List Lv}(hl:σ.lv=lv::lr)(hn:Nm g σ.cs nm lv (.ty "range"))(hs:isStarred e=false)(he:REv c b σ e (.int i))(hz:i<=16777216):RIt c b σ (.Call (.Name nm p) [e] [] q) (inds 0 i):=λN E=>by
 have hst':starEach [e] N.env=[(false,eval e N.env)]:=jk hs;have el:=hl.symm.trans N.hl;cases el;refine wpAny_Call_NameR (aR hg N.S N.he hn λv hv=>?_);rw[hv.ty_inv,hst'];refine PySem.callWith_type rfl (Calls.evalArgs_plain (Calls.spliced_cons (he.then N λP1 s1 a1 x i1=>?_)));obtain⟨t,rfl⟩:=i1.int_inv;refine Calls.spliced_nil (call_range_1 (wpAny_pyIter_range (IsRange.new ..) (small_one (by omega) (by omega) (by omega) (by omega)) ?_))
 have a2:=Aft.side a1.st {cls:=.type "range",data:=.fields #[.int 0 s1.toks,.int i t,.int 1 (s1.toks+1)]} (s1.toks+1+1);have a3:=Aft.side a2.st {cls:=.type "range_iterator",data:=.fields #[rawInt 0,rawInt (Builtin.Range.rangeSize 0 i 1),rawInt 1]} (s1.toks+1+1);refine ItQ.after a1 (ItQ.after a2 ⟨P1,_,_,_,_,rfl,⟨(nF i 0).symm▸Walks.range N.hA.handled _ 0 1 i,λj v hv d hd=>?_,λb hb=>?_,λj h t=>?_⟩,?_,aU _,a2.st.real.none_at,a3⟩)
 ·obtain⟨t,rfl⟩:=hv
  have hi:j<i:=by
   have:=(Ld.mp hd).1
   rwa [nF] at this
  rw[ue _ _ _ hi] at hd;cases hd;simpa using Pu.int (P:=P1) (j:Int) t
 ·simp only[KZ,M4,or_false] at hb
  exact .inl hb
 ·exact⟨_,t,_,rfl,by decide⟩
 ·have hsz:Builtin.Range.rangeSize 0 i 1=(i:Int):=by rw[rangeSize_one];split <;> omega
  have e1:((0:Int)+((0:Nat):Int)*1)=0:=by simp
  have e2:((i:Int)-((0:Nat):Int))=Builtin.Range.rangeSize 0 i 1:=by rw[hsz];simp
  show IsRangeIter _ _ (0+((0:Nat):Int)*1) (((inds 0 i).length:Int)-((0:Nat):Int)) 1;rw[nF,e1,e2];exact Heap.get?_push_size _ rfl
end R
end
end
section
theorem Real.re{D:Dc}{γ γ':Gh}{P:Frz}{h:Heap}{cs:List Cell}(R:Real D γ P h cs)(hg:γ.Le γ')(hk:γ'.k=γ.k):Real D γ' P h cs:=by
 refine⟨hk.trans R.k,λi c e=>?_,λi j h1 h2 e=>?_,λi c e hd=>?_,R.le,R.kind⟩
 ·have hi:i<γ.k:=by rw[R.k];exact(Ld.mp e).1
  exact(R.cell i c e).gmono hg hi
 ·rw[hk] at h1 h2
  rw[hg.ρ i h1,hg.ρ j h2] at e;exact R.inj i j h1 h2 e
 ·have h1:i<γ.k:=by rw[R.k];exact(Ld.mp e).1
  rw[hg.ρ i h1];exact R.off i c e hd
theorem Real.grow{D:Dc}{ρ:Nat->Addr}{kc:Nat->Str}{k:Nat}{P:Frz}{h:Heap}{cs:List Cell}(R:Real D ⟨ρ,kc,k⟩ P h cs){o:Obj}{c:Cell}(hρ:ρ k=h.objs.size)
  (hc:cj D ⟨ρ,kc,k+1⟩ P (h.push o) k c):Real D ⟨ρ,kc,k+1⟩ P (h.push o) (cs++[c]):=by
 have e:Gh.more ⟨ρ,kc,k⟩ h.objs.size (kc k)=⟨ρ,kc,k+1⟩:=by
  unfold Gh.more
  congr 1
  ·funext i
   split
   ·rename_i q;subst q;exact hρ.symm
   ·rfl
  ·funext i
   split
   ·rename_i q;subst q;rfl
   ·rfl
 have R':Real D ⟨ρ,kc,k⟩ P (h.push o) cs:=R.keep (.refl _ _) (.of_push _ _) (λb o' q=>Heap.get?_push_of_some _ (R.le b o' q)) R.kind;have:=R'.more (a:=h.objs.size) (k:=kc k) (c:=c) R.none_at (λi hi q=>by
  obtain⟨o',e'⟩:=R.there hi;rw[q,aU] at e';cases e') (by rw[e];exact hc)
 rwa [e] at this
theorem Real.cells{D:Dc}{ρ:Nat->Addr}{kc:Nat->Str}{P:Frz}:∀(names:List (Str × NameKind)) {k:Nat} {h:Heap} {cs:List Cell} (_:Real D ⟨ρ,kc,k⟩ P h cs) (_:∀j,ρ (k+j)=h.objs.size+j),
  Real D ⟨ρ,kc,k+(ao names).length⟩ P (pushCells h names) (cs++ao names):=by
 intro l_
 induction l_ with
 | nil =>
  intro _ _ cs R _;rw[show cs++ao []=cs from Lg _];exact R
 | cons x_ r ih =>
  intro k h cs R hρ;obtain⟨x,kind⟩:=x_;have ep:pushCells h ((x,kind)::r)=if kind == .cell then pushCells (h.push {cls:=.type "cell",data:=.cell none}) r else pushCells h r:=rfl;cases hk:(kind==NameKind.cell) with
  | true =>
   rw[mJ hk,ep,hk,if_pos rfl];have R1:=R.grow (o:={cls:=.type "cell",data:=.cell none}) (c:=.cell .none) (by simpa using hρ 0)
    ⟨none,by
     show(h.push _).get? (ρ k)=_;rw[show ρ k=h.objs.size by simpa using hρ 0]
     exact Heap.get?_push_size _ rfl,λd hd=>by cases hd⟩
   have:=ih R1 (λj=>by
    rw[Heap.size_push];have:=hρ (1+j);rw[show k+1+j=k+(1+j) by omega,this];exact(LR _ _ _).symm)
   rw[Lj,show k+1+(ao r).length=k+((Cell.cell .none::ao r)).length by simp;omega] at this
   exact this
  | false =>
   rw[mK hk,ep,hk,if_neg NT];exact ih R hρ
theorem vZ{ρ:Nat->Addr}:∀(names:List (Str × NameKind)) (k n:Nat) (acc:List (Str × Nat)) (_:∀j,ρ (k+j)=n+j),
  cellsFrom n names (acc.map λx=>(x.1,ρ x.2))=(cellsFrom k names acc).map λx=>(x.1,ρ x.2):=by
 intro l_
 induction l_ with
 | nil=>exact λ_ _ _ _=>rfl
 | cons x_ r ih =>
  intro k n acc h;obtain⟨x,kind⟩:=x_;unfold cellsFrom;split
  ·have h0:ρ k=n:=by simpa using h 0
   have:=ih (k+1) (n+1) ((x,k)::acc) (λj=>by
    have:=h (1+j);rw[show k+1+j=k+(1+j) by omega,this];exact(LR _ _ _).symm)
   rw[Li,h0] at this;exact this
  ·exact ih k n acc h
theorem v5{m:Nat}:∀(names:List (Str × NameKind)) (k:Nat) (acc:List (Str × Nat)) (_:∀x∈acc,x.2<m) (_:k+(ao names).length<=m),∀x∈cellsFrom k names acc,x.2<m:=by
 intro l_
 induction l_ with
 | nil=>exact λ_ _ h _=>h
 | cons x_ r ih =>
  intro k acc h hm;obtain⟨y,kind⟩:=x_;unfold cellsFrom;cases hk:(kind==NameKind.cell) with
  | true =>
   rw[mJ hk,KJ] at hm;rw[if_pos rfl];refine ih (k+1) _ (λx hx=>?_) (by omega)
   rcases KZ.mp hx with rfl | hx
   ·show k<m;omega
   ·exact h x hx
  | false =>
   rw[mK hk] at hm;rw[if_neg NT];exact ih k acc h hm
theorem dD{α:Type}{x:Str}{v:α}:∀ {l:List (Str × α)},aget x l=some v->(x,v)∈l
 | (y,t)::r,h=>by
  rcases kh h with ⟨q,w⟩ | ⟨_,h⟩
  ·rw[q,w];exact .head _
  ·exact .tail _ (dD h)
theorem j9{α β:Type}(f:α->β){x:Str}{v:α}:∀ {l:List (Str × α)},aget x l=some v->(l.map λy=>(y.1,f y.2)).lookup x=some (f v)
 | (y,t)::r,h=>by
  rw[Li,O9];rcases kh h with ⟨q,w⟩ | ⟨q,h⟩
  ·rw[w,show(x==y)=true by rw[q];exact beq_self_eq_true _]
  ·rw[show(x==y)=false by
    rw[beq_eq_false_iff_ne];exact λe=>q e.symm]
   exact j9 f h
theorem oO{α:Type}{x:Str}{v:α}{l:List (Str × α)}(h:aget x l=some v):l.lookup x=some v:=by
 have:=j9 id h;simpa using this
theorem qX{env:Env}{x:Str}{k:NameKind}:∀ {names:List (Str × NameKind)},aget x names=some k ->
  (names.map λ(n,k)=>if (k==NameKind.free&&env.scope.kind == .function&&env.kindOf n==some .cell) then (n,NameKind.cell) else (n,k)).lookup x=some k ∨
   (k=.free/\(names.map λ(n,k)=>if (k==NameKind.free&&env.scope.kind == .function&&env.kindOf n==some .cell) then (n,NameKind.cell) else (n,k)).lookup x=some .cell)
 | (y,t)::r,h=>by
  rw[Li];dsimp only;rcases kh h with ⟨hq,w⟩ | ⟨q,h⟩
  ·rw[w]
   subst hq
   by_cases hc:(k==NameKind.free&&env.scope.kind == .function&&env.kindOf y==some .cell)=true
   ·rw[if_pos hc]
    simp only[Lx,beq_iff_eq] at hc;exact .inr ⟨hc.1.1,by rw[O9,beq_self_eq_true]⟩
   ·rw[if_neg hc]
    exact .inl (by rw[O9,beq_self_eq_true])
  ·have ne:(x==y)=false:=by
    rw[beq_eq_false_iff_ne];exact λe=>q e.symm
   have:=qX (env:=env) h
   by_cases hc:(t==NameKind.free&&env.scope.kind == .function&&env.kindOf y==some .cell)=true
   ·rw[if_pos hc,O9,ne];exact this
   ·rw[if_neg hc,O9,ne];exact this
theorem Ji{γ:Gh}{env:Env}{cells:List (Str × Nat)}(hc:∀x i,aget x cells=some i->env.cells.lookup x=some (γ.ρ i)/\i<γ.k) :
  ∀(names:List (Str × NameKind)) (acc cl:List (Str × Nat)),bf names cells acc=some cl->(∀x∈acc,x.2<γ.k) ->
   (∀x∈cl,x.2<γ.k)/\(forIn names (acc.map λx=>(x.1,γ.ρ x.2)) λ(x:Str × NameKind) cs=>(if x.2 == .free then (do let a <- cellOf env x.1;pure (ForInStep.yield ((x.1,a)::cs))) else pure (.yield cs):Sem _))=pure (cl.map λx=>(x.1,γ.ρ x.2)):=by
 intro l_
 induction l_ with
 | nil =>
  intro acc cl h ha;cases h;exact⟨ha,rfl⟩
 | cons x_ r ih =>
  intro acc cl h ha;obtain⟨x,k⟩:=x_;rw[NK];rcases vX h with ⟨hk,i,hi,h'⟩ | ⟨hk,h⟩
  ·subst hk
   obtain⟨e1,e2⟩:=hc x i hi;obtain⟨h1,h2⟩:=ih ((x,i)::acc) cl h' (λy hy=>by
    rcases KZ.mp hy with rfl | hy
    ·exact e2
    ·exact ha y hy)
   refine⟨h1,?_⟩;rw[Li] at h2;rw[<-h2];dsimp only;rw[if_pos (beq_self_eq_true _)];unfold cellOf;rw[e1];rfl
  ·obtain⟨h1,h2⟩:=ih acc cl h ha
   refine⟨h1,?_⟩;rw[<-h2];have:(k==NameKind.free)=false:=by rw[beq_eq_false_iff_ne];exact hk
   dsimp only;rw[this,if_neg NT];rfl
theorem Jj{γ:Gh}{env:Env}{cells:List (Str × Nat)}(hc:∀x i,aget x cells=some i->env.cells.lookup x=some (γ.ρ i)/\i<γ.k){scope:Scope}{cl:List (Str × Nat)}(h:bf scope.names cells []=some cl) :
  (∀x∈cl,x.2<γ.k)/\closureFor scope env=pure (cl.map λx=>(x.1,γ.ρ x.2)):=by
 obtain⟨h1,h2⟩:=Ji hc scope.names [] cl h (λ_ h=>by cases h)
 refine⟨h1,?_⟩;unfold closureFor;rw[Oc] at h2;refine Eq.trans ?_ (congrArg (λm=>m >>= λr=>(pure r:Sem _)) h2)
 congr 1
section
variable{M:Model}{A:Around}{E:Value->Shared->Prop}{s:Shared}
theorem Hu{scope:Scope}{globals:Addr}{cl:List (Str × Addr)}{qual:Str}{env:Env}{Q:Env->Shared->Prop}
  (hQ:Q (newEnv scope s.heap.objs.size globals (cellsFrom (s.heap.objs.size+1) scope.names cl) qual none .none (some env) builtinsNs) {s with heap:=pushCells (s.heap.push {cls:=.type "dict",data:=.dict #[]}) scope.names}) :
  wpAny M A (newFunctionEnv scope globals cl [] qual none .none (some env)) Q E s:=by
 unfold newFunctionEnv;rw[if_pos (show(some env).isSome=true from rfl)];refine wpAny_bind (wpAny_alloc ?_);refine wpAny_bind (wpAny_layCells _ (λname kind cells=>by by_cases hkc:kind=NameKind.cell <;> simp[hkc]) _ _ _ _ ?_)
 rw[show({s with heap:=s.heap.push {cls:=.type "dict",data:=.dict #[]}}:Shared).heap.objs.size=s.heap.objs.size+1 from Heap.size_push ..]
 dsimp only;rw[Oi];exact wpAny_bind (wpAny_pure (wpAny_pure hQ))
end
theorem rK{h₀ h h':Heap}(K:OldK h₀ h){a:Addr}(ha:h₀.get? a=none)(hs:Heap.SameBut a h h'):OldK h₀ h':=by
 have ne:∀b o,h₀.get? b=some o->b≠a:=λb o e q=>by subst q;rw[ha] at e;cases e
 refine⟨λb o e=>?_,λb o e=>let ⟨o',ho'⟩:=K.there b o e;⟨o',(hs.2 b (ne b o e)).trans ho'⟩⟩;rcases K.old b o e with x | ⟨t,hc,vs,more,hv,x⟩ | ⟨rfl,hc,⟨o',es,n,ho',r⟩,z⟩
 ·exact .inl ((hs.2 b (ne b o e)).trans x)
 ·exact .inr (.inl ⟨t,hc,vs,more,hv,(hs.2 b (ne b o e)).trans x⟩)
 ·exact .inr (.inr ⟨rfl,hc,⟨o',es,n,(hs.2 _ (ne _ o e)).trans ho',r⟩,λkey=>by rw[OldK.staticOf_congr (hs.2 _ (ne _ o e)) key];exact z key⟩)
theorem kj{α:Type}(x y:Str)(v:α):∀(l:List (Str × α)),aget y (aput x v l)=if y=x then some v else aget y l:=by
 intro l_
 induction l_ with
 | nil =>
  show aget y [(x,v)]=_
  by_cases h:x=y
  ·rw[dC h,if_pos h.symm]
  ·rw[cI h,if_neg λq=>h q.symm]
 | cons x_ r ih =>
  obtain⟨z,t⟩:=x_;have ih:=ih
  by_cases hz:z=x
  ·rw[oK hz]
   by_cases h:z=y
   ·rw[dC h,if_pos (h.symm.trans hz)]
   ·rw[cI h,if_neg λq=>h (hz.trans q.symm),cI h]
  ·rw[j8 hz]
   by_cases h:z=y
   ·rw[dC h,dC h,if_neg λq=>hz (h.trans q)]
   ·rw[cI h,cI h];exact ih
structure Turn(c:Cx)(γ:Gh)(P:Frz)(s:Shared)(cs':List Cell)(i:Nat)(s':Shared):Prop where
 lt:i<γ.k
 same:Heap.SameBut (γ.ρ i) s.heap s'.heap
 real:Real c.D γ P s'.heap cs'
 at_:∃o o',s.heap.get? (γ.ρ i)=some o/\s'.heap.get? (γ.ρ i)=some o'/\o'.cls=o.cls/\((∃es ep,o.data=.dict es ep)->∃es ep,o'.data=.dict es ep)
 gens:s'.gens=s.gens
 os:s'.os=s.os
theorem nA{h₀ h h':Heap}(k:Keep h₀ h){a:Addr}(ha:h₀.get? a=none)(hs:Heap.SameBut a h h')(hn:b7 h a):Keep h₀ h' :=
 ⟨λb o e=>by
  obtain⟨o',e',q⟩:=k.sim b o e;exact⟨o',(hs.2 b λz=>by subst z;rw[ha] at e;cases e).trans e',q.but (λb o hb e=>(hs.2 b hb).trans e) hn⟩⟩
section
variable{c:Cx}{g:Glb}{A:Around}{fr:List Env}{γ:Gh}{P P':Frz}{s s':Shared}{cs cs':List Cell}{E:Value->Shared->Prop}{b:Nat}{env:Env}{σ σ':Sg}{l:Lv}{lr:List Lv}{i:Nat}
theorem Turn.st(hB:Wd c c.hb)(ho:c.hb.get? (γ.ρ i)=none)(S:St c fr γ P s cs)(t:Turn c γ P s cs' i s'):St c fr γ P s' cs':=by
 refine⟨t.real,hB.keep (nA S.wd.bk ho t.same (S.real.noCode t.lt)),λe he=>?_⟩;obtain⟨h1,L,o,h2,h3,h4,h5,es,ep,h6⟩:=S.frs e he
 by_cases q:L=γ.ρ i
 ·obtain⟨o1,o2,e1,e2,e3,e4⟩:=t.at_
  rw[<-q,h4] at e1;cases e1;obtain⟨es',ep',e5⟩:=e4 ⟨es,ep,h6⟩;exact⟨h1,L,o2,h2,h3,q▸e2,e3.trans h5,es',ep',e5⟩
 ·exact⟨h1,L,o,h2,h3,(t.same.2 L q).trans h4,h5,es,ep,h6⟩
theorem rP{M:Model}{a:Addr}{o:Obj}{es:Array DictEntry}{ep:Nat}{name:Str}{v:Value}{Q:Unit->Shared->Prop}(ho:s.heap.get? a=some o)(hd:o.data=.dict es ep)(hk:StrKeys es)
  (hQ:∀h' es' ep',h'.get? a=some {o with data:=.dict es' ep' }->StrKeys es'->(∀x,nsFind es' x=if x=name then some v else nsFind es x)->Heap.SameBut a s.heap h'->(nsFind es name=none->es'.size=es.size+1)->(nsFind es name≠none->es'.size=es.size)->Q () {s with heap:=h',toks:=s.toks+1}) :
  wpAny M A (nsSet a name v) Q E s:=λΓ p _=>by
 unfold nsSet strHash;rw[Sem.wp_bind',Sem.wp_bind',Sem.wp_cmd_ask,Sem.wp_pure',Sem.wp_bind',Sem.wp_cmd_mkText,Sem.wp_bind',Sem.wp_loadPart_of M Γ _ p {s with toks:=s.toks+1} (o:=o) _ ho]
 have hany:es.any (·.refKey)=false:=by
  rw[Array.any_eq_false'];intro e he;obtain⟨n,t,h⟩:=hk e he;simp[DictEntry.refKey,h]
 rw[hd];simp only[aRefKeyMayBeTheName_eq,aRefKeyMayBeTheNameByArray,hany,O3,O2,if_false,Sem.wp_cmd_updatePart];refine⟨by rw[ho];rfl,?_⟩
 obtain⟨cl,d,dt,sl⟩:=o;subst hd;cases hi:es.findIdx? (·.key.isStr name) with
 | some i =>
  refine hQ _ (es.modify i λe=>{e with val:=v}) ep ?_ (hk.modify _ _) (λx=>?_) (Heap.SameBut.update ..) (λq=>absurd q ?_) (λ_=>by simp)
  ·rw[Heap.get?_update_self _ ho (by simp only[Obj.putName_eq,Obj.putNameByArray,hi];rfl)]
   simp only[Obj.putName_eq,Obj.putNameByArray,hi]
  ·exact findBy_modify (λn v=>v.isStr n) Value.isStr_inj es name x v i hi
  ·unfold nsFind
   rw[findBy_of_findIdx?,hi];obtain⟨hlt,_⟩:=Array.findIdx?_eq_some_iff_getElem.mp hi;simp[hlt]
 | none =>
  have key:∀(hash:Int),Q () {s with heap:=s.heap.update a (Obj.putName name hash (.str name s.toks) v),toks:=s.toks+1}:=λhash=>by
   refine hQ _ (es.push ⟨hash,.str name s.toks,v⟩) (ep+1) ?_ (hk.push _ _ _ _) (λx=>?_) (Heap.SameBut.update ..) (λ_=>by simp) (λq=>absurd (by unfold nsFind;rw[findBy_of_findIdx?,hi]) q)
   ·rw[Heap.get?_update_self _ ho (by simp only[Obj.putName_eq,Obj.putNameByArray,hi];rfl)]
    simp only[Obj.putName_eq,Obj.putNameByArray,hi]
   ·exact findBy_push (λn v=>v.isStr n) es name x _ _ v (λy=>by
     show(name==y)=decide (y=name)
     by_cases h:y=name
     ·subst h;simp
     ·have:¬ name=y:=λe=>h e.symm
      simp[h,this]) hi
  exact key _
theorem rQ{M:Model}{a:Addr}{o:Obj}{es:Array DictEntry}{ep:Nat}{name:Str}{v:Value}{Q:Unit->Shared->Prop}(ho:s.heap.get? a=some o)(hd:o.data=.dict es ep)(hk:StrKeys es)
  (hQ:∀h' es' ep',h'.get? a=some {o with data:=.dict es' ep' }->StrKeys es'->(∀x,nsFind es' x=if x=name then some v else nsFind es x)->Heap.SameBut a s.heap h'->Q () {s with heap:=h',toks:=s.toks+1}) :
  wpAny M A (nsSet a name v) Q E s :=
 rP ho hd hk λh' es' ep' g1 g2 g3 g4 _ _=>hQ h' es' ep' g1 g2 g3 g4
theorem jw(S:St c fr γ P s σ.cs)(hl:σ.lv=l::lr)(he:aM c γ env l){x:Str}{d:V}{v:Value}(hv:Is c.D γ P v d)(h:Sv x d σ σ'){Q:Unit->Shared->Prop}
  (hQ:∀i s',Turn c γ P s σ'.cs i s'->σ'.lv=σ.lv->(aget x l.names=some .local/\i=l.loc∨aget x l.names=some .cell/\aget x l.cells=some i)->Q () s'):wpAny c.M A (storeName env x v) Q E s:=by
 have hp:(env.scope.kind == .class||(env.scope.kind == .module&&env.locals != env.globals))=false:=by rw[he.fn];rfl
 cases h with
 | loc hk hc =>
  cases (hl);obtain⟨o,es,ep,e1,e2,e3,e4⟩:=S.real.cell _ _ hc;rw[storeName_local (he.loc_ x hk) hp,he.loc];refine rQ e1 e2 e3 λh' es' ep' g1 g2 g3 g4=>hQ l.loc _ ⟨he.lok,g4,S.real.upd hc (by intro q;cases q) g4 ⟨_,es',ep',g1,rfl,g2,λy w hy=>?_⟩,⟨o,_,e1,g1,rfl,λ_=>⟨es',ep',rfl⟩⟩,rfl,rfl⟩ rfl (.inl ⟨hk,rfl⟩)
  rw[kj] at hy;split at hy
  ·rename_i q
   cases hy;exact⟨v,by rw[g3,if_pos q],hv⟩
  ·rename_i q
   obtain⟨r,r1,r2⟩:=e4 y w hy;exact⟨r,by rw[g3,if_neg q];exact r1,r2⟩
 | cel hk hj hc =>
  cases (hl);rename_i j u;obtain⟨r,e1,e2⟩:=S.real.cell _ _ hc;obtain⟨k1,k2⟩:=he.cells x j hj;unfold storeName;rw[he.cel_ x hk,he.fn];refine wpAny_bind (wpAny_cellOf k1 ?_);unfold cellSet;refine wpAny_bind (wpAny_load e1 ?_);have g1:(s.heap.update (γ.ρ j) λo=>{o with data:=.cell (some v)}).get? (γ.ρ j)=some ⟨.type "cell",none,.cell (some v),#[]⟩:=Heap.get?_update_self _ e1 rfl
  exact wpAny_update e1 (hQ j _ ⟨k2,Heap.SameBut.update ..,S.real.upd hc (by intro q;cases q) (Heap.SameBut.update ..) ⟨_,g1,λd' hd=>⟨v,rfl,by cases hd;exact hv⟩⟩,⟨_,_,e1,g1,rfl,λ⟨_,_,q⟩=>by cases q⟩,rfl,rfl⟩ rfl (.inr ⟨hk,hj⟩))
theorem Sv.lv{x:Str}{d:V}(h:Sv x d σ σ'):σ'.lv=σ.lv:=by cases h <;> rfl
theorem Sv.keeps{x:Str}{d:V}(h:Sv x d σ σ'){i:Nat}(hv:∃vs,σ.cs[i]?=some (.vars vs)):∃vs,σ'.cs[i]?=some (.vars vs):=by
 obtain⟨vs,hv⟩:=hv;have hlt:=(Ld.mp hv).1;cases h with
 | loc hk hc =>
  rename_i l r cs ws
  by_cases q:l.loc=i
  ·subst q;exact⟨_,Pb hlt⟩
  ·exact⟨vs,(Og q).trans hv⟩
 | cel hk hj hc =>
  rename_i l r cs j u;exact⟨vs,(Og λq=>by subst q;rw[hv] at hc;cases hc).trans hv⟩
end
section
variable{prog:Program}{w:World}{A:Around}{R:Result->Shared->Prop}{s:Shared}
theorem vP{elt iter:Expr}{x:Str}{px:Pos}{ifs:List Expr}{scope:Scope}{pos:Pos}{it acc:Value}{env:Env}
  (h:wpAny (model prog w) A (pyNext it) (λr s₁=>match r with
   | none=>R (.ok .next) s₁
   | some v=>wpAny (model prog w) A (assign (.Name x px) env v) (λ_ s₂ =>
     wpAny (model prog w) A (forIn ifs true λc r=>if r=true then do let ok <- isTrue c env (eval c env);pure (ForInStep.yield ok) else pure (ForInStep.yield r)) (λok s₃ =>
      if ok=true then wpAny (model prog w) A (eval elt env) (λy s₄ =>
       wpAny (model prog w) A (call (.builtin "list.append") [acc,y]) (λ_ s₅=>codeAny (model prog w) A (.compLoop (.ListComp elt [⟨.Name x px,iter,ifs,0⟩] scope pos) 0 it acc env) R s₅) (λ_ _=>False) s₄) (λ_ _=>False) s₃
      else codeAny (model prog w) A (.compLoop (.ListComp elt [⟨.Name x px,iter,ifs,0⟩] scope pos) 0 it acc env) R s₃) (λ_ _=>False) s₂) (λ_ _=>False) s₁) (λ_ _=>False) s) :
  codeAny (model prog w) A (.compLoop (.ListComp elt [⟨.Name x px,iter,ifs,0⟩] scope pos) 0 it acc env) R s:=by
 refine codeAny_of_tree ?_;show wpAny _ A ((compTurn (.ListComp elt [⟨.Name x px,iter,ifs,0⟩] scope pos) 0 it acc env).onRaise (λx=>do noteFrame x env;theTreesLotGoes x)) _ _ s
 refine wpAny_noted ?_;rw[compTurn_list];refine wpAny_bind (wpAny_standAt (wpAny_bind (wpAny_mono h (λr s₁ h₁=>?_) λ_ _ h'=>h'.elim)));cases r with
 | none=>exact wpAny_pure h₁
 | some v =>
  refine wpAny_bind (wpAny_of_eq (show letOwnedTupleGo (.Name x px) it v=pure () from rfl) ?_);refine wpAny_bind (wpAny_mono h₁ (λ_ s₂ h₂=>wpAny_bind (wpAny_mono h₂ (λok s₃ h₃=>?_) λ_ _ h'=>h'.elim)) λ_ _ h'=>h'.elim);cases ok with
  | false=>exact wpAny_pure ⟨rfl,h₃⟩
  | true =>
   exact wpAny_bind (wpAny_bind (wpAny_mono h₃ (λx s₄ h₄=>wpAny_bind (wpAny_mono h₄ (λ_ s₅ h₅=>wpAny_pure (wpAny_pure ⟨rfl,h₅⟩)) λ_ _ h'=>h'.elim)) λ_ _ h'=>h'.elim))
end
structure aF(c:Cx)(γ:Gh)(P:Frz)(h0:Heap)(a:Addr):Prop where
 p:P a=none
 n:∀i,i<γ.k->γ.ρ i≠a
 z:h0.get? a=none
 b:c.hb.get? a=none
theorem aF.grow{c:Cx}{γ:Gh}{P P':Frz}{h h0:Heap}{a:Addr}{o:Obj}(x:aF c γ P h0 a)(e:h.get? a=some o)(g:Gr P P' h):aF c γ P' h0 a:=by
 refine⟨?_,x.n,x.z,x.b⟩;cases q:P' a with
 | none=>rfl
 | some o' =>
  rcases g.new a o' q with y | y
  ·rw[x.p] at y;cases y
  ·rw[e] at y;cases y
theorem Real.but{D:Dc}{γ:Gh}{P:Frz}{h h':Heap}{cs:List Cell}(R:Real D γ P h cs){a:Addr}(hp:P a=none)(hn:∀i,i<γ.k->γ.ρ i≠a)(hs:∀b o,b≠a->h.get? b=some o->h'.get? b=some o):Real D γ P h' cs:=by
 refine⟨R.k,λj d e=>?_,R.inj,R.off,λb o e=>hs b o (λq=>by subst q;rw[hp] at e;cases e) (R.le b o e),R.kind⟩
 have hj:j<γ.k:=by rw[R.k];exact(Ld.mp e).1
 have:=R.cell j d e;cases d with
 | vars l=>obtain⟨o,es,ep,e,r⟩:=this;exact⟨o,es,ep,hs _ _ (hn j hj) e,r⟩
 | cell v=>obtain⟨r,e,f⟩:=this;exact⟨r,hs _ _ (hn j hj) e,f⟩
 | list l=>obtain⟨vs,n,e,f⟩:=this;exact⟨vs,n,hs _ _ (hn j hj) e,f⟩
 | inst c l=>obtain⟨z,es,ep,e,f⟩:=this;exact⟨z,es,ep,hs _ _ (hn j hj) e,f⟩
 | dead=>obtain⟨vs,n,e⟩:=this;exact⟨vs,n,hs _ _ (hn j hj) e⟩
theorem fj{h₀ h h':Heap}(k:Keep h₀ h){a:Addr}(ha:h₀.get? a=none)(hs:∀b o,b≠a->h.get? b=some o->h'.get? b=some o)(hn:b7 h a):Keep h₀ h' :=
 ⟨λb o e=>by
  obtain⟨o',e',q⟩:=k.sim b o e;exact⟨o',hs b o' (λz=>by subst z;rw[ha] at e;cases e) e',q.but hs hn⟩⟩
theorem mQ{h₀ h h':Heap}(K:OldK h₀ h){a:Addr}(ha:h₀.get? a=none)(hs:∀b o,b≠a->h.get? b=some o->h'.get? b=some o):OldK h₀ h':=by
 have ne:∀b o,h₀.get? b=some o->b≠a:=λb o e q=>by subst q;rw[ha] at e;cases e
 refine⟨λb o e=>?_,λb o e=>let ⟨o',ho'⟩:=K.there b o e;⟨o',hs b o' (ne b o e) ho'⟩⟩;rcases K.old b o e with x | ⟨t,hc,vs,more,hv,x⟩ | ⟨rfl,hc,⟨o',es,n,ho',r⟩,z⟩
 ·exact .inl (hs _ _ (ne b o e) x)
 ·exact .inr (.inl ⟨t,hc,vs,more,hv,hs _ _ (ne b o e) x⟩)
 ·have q:=hs _ _ (ne _ o e) ho'
  exact .inr (.inr ⟨rfl,hc,⟨o',es,n,q,r⟩,λkey=>by rw[OldK.staticOf_congr (q.trans ho'.symm) key];exact z key⟩)
structure bH(c:Cx)(fr:List Env)(γ:Gh)(P0:Frz)(s0:Shared)(P:Frz)(s:Shared)(cs:List Cell):Prop where
 gr:Gr P0 P s0.heap
 ext:Ext c s0 s
 st:St c fr γ P s cs
section
variable{c:Cx}{fr:List Env}{γ:Gh}{P0 P P':Frz}{s0 s s':Shared}{cs cs':List Cell}
theorem bH.aft(x:bH c fr γ P0 s0 P s cs)(a:Aft c fr γ P s cs P' s'):bH c fr γ P0 s0 P' s' cs :=
 ⟨x.gr.trans a.gr x.ext.keep,x.ext.trans a.ext,a.st⟩
theorem bH.but(hB:Wd c c.hb)(hf:Frs c.hb s0.heap fr)(x:bH c fr γ P0 s0 P s cs){a:Addr}(hb:aF c γ P s0.heap a){h':Heap}{t:Nat}(hs:∀b o,b≠a->s.heap.get? b=some o->h'.get? b=some o)(hn:b7 s.heap a) :
  bH c fr γ P0 s0 P {s with heap:=h',toks:=t} cs :=
 ⟨x.gr,⟨fj x.ext.keep hb.z hs hn,λo=>mQ (x.ext.old o) hb.b hs,x.ext.gens,x.ext.os⟩,
  ⟨x.st.real.but hb.p hb.n hs,hB.keep (fj x.st.wd.bk hb.b hs hn),hf.keep (fj x.ext.keep hb.z hs hn)⟩⟩
theorem bH.turn(hB:Wd c c.hb)(hk:Keep c.hb s0.heap)(x:bH c fr γ P0 s0 P s cs){i:Nat}(hz:s0.heap.get? (γ.ρ i)=none)(t:Turn c γ P s cs' i s'):bH c fr γ P0 s0 P s' cs' :=
 ⟨x.gr,⟨nA x.ext.keep hz t.same (x.st.real.noCode t.lt),λo=>rK (x.ext.old o) (hk.gone hz) t.same,(by rw[t.gens];exact x.ext.gens),t.os.trans x.ext.os⟩,t.st hB (hk.gone hz) x.st⟩
end
theorem rJ:∀ {names:List (Str × NameKind)},mO names=true->∀ {x:Str} {k:NameKind},(x,k)∈names->aget x names=some k:=by
 intro l
 induction l with
 | nil=>intro _ _ _ hm;cases hm
 | cons yt r ih =>
  intro h x k hm;obtain⟨y,t⟩:=yt;have h:=Px.mp h;rcases KZ.mp hm with q | hm
  ·cases q
   exact dC rfl
  ·have ih:=ih h.2 hm
   have ne:¬ y=x:=λq=>by
    subst q;rw[ih] at h;simp at h
   rw[cI ne];exact ih
theorem Jo:∀(names:List (Str × NameKind)) (k:Nat) (acc:List (Str × Nat)) (x:Str × Nat),x∈cellsFrom k names acc->x∈acc∨k<=x.2:=by
 intro l_
 induction l_ with
 | nil=>exact λ_ _ _ h=>.inl h
 | cons x_ r ih =>
  intro k acc x h;obtain⟨y,kind⟩:=x_;unfold cellsFrom at h;split at h
  ·rcases ih (k+1) _ x h with q | q
   ·rcases KZ.mp q with rfl | q
    ·exact .inr (K3 _)
    ·exact .inl q
   ·exact .inr (by omega)
  ·exact ih k acc x h
theorem Jk{cells:List (Str × Nat)}:∀(names:List (Str × NameKind)) (acc cl:List (Str × Nat)),bf names cells acc=some cl->∀x∈cl,x∈acc∨(x.1,NameKind.free)∈names:=by
 intro l_
 induction l_ with
 | nil =>
  intro acc cl h x hx;cases h;exact .inl hx
 | cons x_ r ih =>
  intro acc cl h x hx;obtain⟨y,k⟩:=x_;rcases vX h with ⟨hk,i,_,h'⟩ | ⟨_,h⟩
  ·subst hk
   rcases ih _ cl h' x hx with q | q
   ·rcases KZ.mp q with rfl | q
    ·exact .inr (.head _)
    ·exact .inl q
   ·exact .inr (.tail _ q)
  ·rcases ih acc cl h x hx with q | q
   ·exact .inl q
   ·exact .inr (.tail _ q)
theorem unset{e:Expr}(h:isSet e=false)(env:Env)(x:Value):foldedSetIterable e env x=pure x:=by
 cases e <;> first | rfl | cases h
theorem gA{h:Heap}{a:Addr}(ha:h.objs.size<=a):h.get? a=none:=by
 cases q:h.get? a with
 | none=>rfl
 | some o=>exact absurd (Heap.lt_size q) (MT.mpr ha)
noncomputable def Gh.inner(γ:Gh)(n m:Nat):Gh:=⟨λi=>if i<γ.k then γ.ρ i else n+(i-γ.k),γ.kc,γ.k+m⟩
theorem Gh.inner_le(γ:Gh)(n m:Nat):γ.Le (γ.inner n m):=⟨LQ _ _,λi h=>if_pos h,λ_ _=>rfl⟩
theorem Gh.inner_new(γ:Gh)(n m j:Nat):(γ.inner n m).ρ (γ.k+j)=n+j:=by
 show(if γ.k+j<γ.k then γ.ρ (γ.k+j) else n+(γ.k+j-γ.k))=n+j;rw[if_neg (by omega),Ow]
section
variable{c:Cx}{g:Glb}{A:Around}{fr:List Env}{γ:Gh}{P P':Frz}{s s':Shared}{cs:List Cell}{E:Value->Shared->Prop}{b:Nat}{env:Env}{σ τ:Sg}{l:Lv}{lr:List Lv}
theorem jN(S:St c fr γ P s cs)(cls:Value)(names:List (Str × NameKind)) :
  Real c.D (γ.inner s.heap.objs.size (1+(ao names).length)) P (pushCells (s.heap.push {cls:=cls,data:=.dict #[]}) names) (cs++(.vars []::ao names)):=by
 have R0:Real c.D (γ.inner s.heap.objs.size 0) P s.heap cs:=S.real.re (γ.inner_le _ _) rfl;have new:=λj=>γ.inner_new s.heap.objs.size 0 j;have R1:=Real.grow (ρ:=(γ.inner s.heap.objs.size 0).ρ) (kc:=γ.kc) (k:=γ.k) (o:={cls:=cls,data:=.dict #[]}) (c:=.vars []) R0 (by simpa using new 0)
  ⟨_,#[],0,by
   show(s.heap.push _).get? ((γ.inner s.heap.objs.size 0).ρ γ.k)=_;rw[show(γ.inner s.heap.objs.size 0).ρ γ.k=s.heap.objs.size by simpa using new 0]
   exact Heap.get?_push_size _ rfl,rfl,λ_ he=>by simp at he,λx v h=>by cases h⟩
 have R2:=Real.cells names R1 (λj=>by
  rw[Heap.size_push];have:=new (1+j);rw[show γ.k+1+j=γ.k+(1+j) by omega,this];exact(LR _ _ _).symm)
 rw[Lj] at R2;have e:γ.k+1+(ao names).length=γ.k+(1+(ao names).length):=by omega
 rw[e] at R2;exact R2
theorem jP(h:Heap)(o:Obj)(names:List (Str × NameKind))(b:Addr)(o':Obj)(e:h.get? b=some o'):(pushCells (h.push o) names).get? b=some o' :=
 pushCells_keeps _ _ b o' (Heap.get?_push_of_some _ e)
theorem Jc(hl:σ.lv=l::lr)(he:aM c γ env l)(S:St c fr γ P s σ.cs){scope:Scope}(hok:dw scope=true){cl:List (Str × Nat)}(hcl:bf scope.names l.cells []=some cl)(qual:Str)(hlt:∀x∈cl,x.2<γ.k) :
  aM c (γ.inner s.heap.objs.size (1+(ao scope.names).length))
   {newEnv scope s.heap.objs.size env.globals (cellsFrom (s.heap.objs.size+1) scope.names (cl.map λx=>(x.1,γ.ρ x.2))) qual none .none (some env) builtinsNs with scope:=relabel scope env}
   ⟨scope.names,σ.cs.length,cellsFrom (σ.cs.length+1) scope.names cl⟩:=by
 unfold dw at hok;simp only[Lx,decide_eq_true_eq] at hok;obtain⟨⟨⟨hk,honce⟩,hplain⟩,h00⟩:=hok;have hkk:γ.k=σ.cs.length:=S.real.k;have hm:(cl.map λx=>(x.1,γ.ρ x.2))=cl.map λx=>(x.1,(γ.inner s.heap.objs.size (1+(ao scope.names).length)).ρ x.2) :=
  MN λx hx=>by rw[(γ.inner_le _ _).ρ _ (hlt x hx)]
 have hcells:cellsFrom (s.heap.objs.size+1) scope.names (cl.map λx=>(x.1,γ.ρ x.2))=(cellsFrom (σ.cs.length+1) scope.names cl).map λx=>(x.1,(γ.inner s.heap.objs.size (1+(ao scope.names).length)).ρ x.2):=by
  rw[hm];refine vZ scope.names (σ.cs.length+1) (s.heap.objs.size+1) cl λj=>?_;rw[<-hkk,show γ.k+1+j=γ.k+(1+j) by omega,γ.inner_new]
  exact(LR _ _ _).symm
 have kinds:=λx k (h:aget x scope.names=some k)=>qX (env:=env) h;refine⟨?_,?_,λx i h=>⟨?_,?_⟩,λx h=>?_,λx h=>?_,λx h=>?_,λx h=>?_,λx k h=>?_,hk,he.gl,he.bu,λh=>by rw[h] at h00;cases h00⟩
 ·show s.heap.objs.size=_
  rw[<-hkk];simpa using(γ.inner_new s.heap.objs.size (1+(ao scope.names).length) 0).symm
 ·show σ.cs.length<γ.k+(1+(ao scope.names).length)
  omega
 ·show Oe x (cellsFrom (s.heap.objs.size+1) scope.names (cl.map λx=>(x.1,γ.ρ x.2)))=_
  rw[hcells];exact j9 _ h
 ·show i<γ.k+(1+(ao scope.names).length)
  exact v5 scope.names (σ.cs.length+1) cl (λy hy=>by have:=hlt y hy;omega) (by omega) _ (dD h)
 ·rcases kinds x _ h with q | ⟨q,_⟩
  ·exact q
  ·cases q
 ·rcases kinds x _ h with q | ⟨q,_⟩
  ·exact q
  ·cases q
 ·rcases kinds x _ h with q | ⟨_,q⟩
  ·exact .inl q
  ·exact .inr q
 ·rcases kinds x _ h with q | ⟨q,_⟩
  ·exact q
  ·cases q
 ·have:=(La.mp hplain) _ (dD h)
  unfold plainName at this;simpa using this
end
end
section
def fJ(c:Cx)(b:Nat)(σ:Sg)(elt:Expr)(x:Str)(px:Pos)(ifs:List Expr)(xs ys:List V):Prop :=
 ∀(N:Now c b σ) I D fp xs0 Pn T k acc n accd iter scope pos s0 P0 (R:Result->Shared->Prop),
  Keep c.hb s0.heap->Frs c.hb s0.heap N.fr->bH c N.fr N.γ P0 s0 N.P N.s σ.cs ->
  Wk c N.A N.P I fp xs0 Pn T->T k N.s.heap->xs0.drop k=xs->k+xs.length=xs0.length->aF c N.γ N.P s0.heap I->aF c N.γ N.P s0.heap D->I≠D ->
  N.s.heap.get? D=some (aa acc n)->PuL N.P acc.toList accd->acc.size+xs.length<=sizeLine ->
  (∀i,(aget x N.l.names=some .local/\i=N.l.loc∨aget x N.l.names=some .cell/\aget x N.l.cells=some i)->s0.heap.get? (N.γ.ρ i)=none) ->
  (∃vs,σ.cs[N.l.loc]?=some (.vars vs)) ->
  (∀P' s' cs' acc' n',bH c N.fr N.γ P0 s0 P' s' cs'->aF c N.γ P' s0.heap D->s'.heap.get? D=some (aa acc' n')->PuL P' acc'.toList (accd++ys)->(∃vs,cs'[N.l.loc]?=some (.vars vs))->R (.ok .next) s') ->
  codeAny c.M N.A (.compLoop (.ListComp elt [⟨.Name x px,iter,ifs,0⟩] scope pos) 0 (.ref I) (.ref D) N.env) R N.s
def RTs(c:Cx)(b:Nat)(σ:Sg)(ifs:List Expr)(k:Bool):Prop:=∀(N:Now c b σ) (E:Value->Shared->Prop),
 N.wp (forIn ifs true λt r=>if r=true then do let ok <- isTrue t N.env (eval t N.env);pure (ForInStep.yield ok) else pure (ForInStep.yield r)) (λy s'=>y=k/\∃P',N.To P' s') E
section
variable{c:Cx}{g:Glb}{b:Nat}{σ τ:Sg}{e l r x y t elt iter:Expr}{es as:List Expr}{u v w d:V}{vs ws xs ys zs:List V}{p q px:Pos}{k j:Bool}{n:Nat}{nm:Str}
namespace R
theorem ts0:RTs c b σ [] true:=λN E=>wpAny_tests_nil ⟨rfl,N.P,.refl N.S⟩
theorem ts1(h:RTr c b σ t k):RTs c b σ [t] k:=λN E=>wpAny_tests_one (h N E)
theorem Jd(hB:Wd c c.hb){ifs:List Expr}:fJ c b σ elt nm px ifs [] []:=λN I D fp xs0 Pn T k acc n accd iter scope pos s0 P0 R ho hf S w t hk hkl bI bD hID eD pD hsz hnew hloc hR=>by
 have hk':k=xs0.length:=hkl;refine vP (w.W.done N.s _ _ (hk'▸t) λh' tk keep=>?_);have kp:∀b o,b≠I->N.s.heap.get? b=some o->h'.get? b=some o:=λb o q e=>keep b o (by simpa using q) e
 exact hR N.P _ _ acc n (S.but hB hf bI kp (w.noCode _ _ t)) bD (kp D _ (Ne.symm hID) eD) (by simpa using pD) hloc
theorem vR(hB:Wd c c.hb){ifs:List Expr}{full:List V}(hset:Sv nm u σ τ)(ht:RTs c b τ ifs k)(hc:(k=false/\full=ys)∨(k=true/\∃v,REv c b τ elt v/\flat v=true/\full=v::ys))(IH:fJ c b τ elt nm px ifs xs ys) :
  fJ c b σ elt nm px ifs (u::xs) full:=λN I D fp xs0 Pn T k acc n accd iter scope pos s0 P0 R ho hf S w t hk hkl bI bD hID eD pD hsz hnew hloc hR=>by
 have hget:xs0[k]?=some u:=by
  have:=congrArg (λl=>l[0]?) hk;simpa [Nj] using this
 have hlt:k<xs0.length:=(Ld.mp hget).1;have hk1:xs0.drop (k+1)=xs:=by
  have:=congrArg List.tail hk;simpa [Nv] using this
 rw[KJ] at hsz hkl;refine vP (w.W.item k N.s _ _ hlt t λv h1 tk1 hv t1 keep=>?_);have kp:∀b o,b≠I->N.s.heap.get? b=some o->h1.get? b=some o:=λb o q e=>keep b o (by simpa using q) e
 have S1:=S.but hB hf bI (t:=tk1) kp (w.noCode _ _ t);have pv:=w.item k v hv u hget;refine wpAny_assign_Name (jw S1.st N.hl N.he (.pu pv) hset λi s2 tn _ hi=>?_);have S2:=S1.turn hB ho (hnew i hi) tn
 let N2:Now c b τ:={A:=N.A,fr:=N.fr,env:=N.env,γ:=N.γ,P:=N.P,s:=s2,l:=N.l,lr:=N.lr,hA:=N.hA,hl:=hset.lv.trans N.hl,he:=N.he,S:=S2.st}
 have t2:T (k+1) s2.heap:=w.frame t1 (λo e=>(tn.same.2 I λq=>bI.n i tn.lt q.symm).trans e) S1.st.real.le S2.st.real.le;have eD2:s2.heap.get? D=some (aa acc n):=(tn.same.2 D λq=>bD.n i tn.lt q.symm).trans (kp D _ (Ne.symm hID) eD);have goOn:∀(P3:Frz) (s3:Shared),N2.To P3 s3->∀(acc':Array Value) (n':Nat) (accd':List V) (h4:Heap),(∀b o,b≠D->s3.heap.get? b=some o->h4.get? b=some o)->h4.get? D=some (aa acc' n')->PuL P3 acc'.toList accd' ->
   acc'.size<=acc.size+1->accd++full=accd'++ys->∀tk,codeAny c.M N.A (.compLoop (.ListComp elt [⟨.Name nm px,iter,ifs,0⟩] scope pos) 0 (.ref I) (.ref D) N.env) R {s3 with heap:=h4,toks:=tk}:=by
  intro P3 s3 a3 acc' n' accd' h4 hs4 e4 p4 hsz4 hacc tk;obtain⟨oI,eI,qI1,qI2⟩:=w.cls _ _ t2;have bD3:=bD.grow eD2 a3.gr;have S3:=S2.aft a3;have S4:=S3.but hB hf bD3 (t:=tk) hs4 (.data (a3.ext.keep.exact eD2 (tyF (by decide)) tyN) λ_ q=>by cases q)
  have w3:=w.mono a3.gr.le;have t4:T (k+1) h4:=w3.frame (w.keep t2 a3.ext.keep S2.st.real.le (λb o e=>S3.st.real.le b o (a3.gr.le b o e))) (λo e=>hs4 I o hID e) S3.st.real.le S4.st.real.le
  let N4:Now c b τ:={N2 with P:=P3,s:={s3 with heap:=h4,toks:=tk},S:=S4.st}
  exact IH N4 I D fp xs0 Pn T (k+1) acc' n' accd' iter scope pos s0 P0 R ho hf S4 w3 t4 hk1 (by omega) (bI.grow eI a3.gr) bD3 hID e4 p4 (by omega) hnew (hset.keeps hloc) λP' s' cs' acc2 n2 S' b' e' p' hl2 =>
   hR P' s' cs' acc2 n2 S' b' e' (by rw[hacc];exact p') hl2
 refine wpAny_mono (ht N2 _) (λq s3 ⟨hq,P3,a3⟩=>?_) λ_ _ q=>q;subst hq;have eD3:s3.heap.get? D=some (aa acc n):=a3.ext.keep.exact eD2 (tyF (by decide)) tyN
 rcases hc with ⟨hk0,hfl⟩ | ⟨hk0,v',hev,hflat,hfl⟩
 ·rw[if_neg (by rw[hk0];decide)]
  exact goOn P3 s3 a3 acc n accd s3.heap (λ_ _ _ e=>e) eD3 (pD.mono a3.gr.le) (M3 _) (by rw[hfl]) s3.toks
 ·rw[if_pos hk0]
  refine hev.then (N2.go a3) λP4 s4 a4 y i4=>?_;have eD4:s4.heap.get? D=some (aa acc n):=a4.ext.keep.exact eD3 (tyF (by decide)) tyN
  have a34:N2.To P4 s4:=a3.trans a4;refine wpAny_list_append_plain (hsz:=by omega) ⟨n,eD4⟩ λh5 ⟨n5,e5⟩ hs5=>?_
  refine goOn P4 s4 a34 (acc.push y) n5 (accd++[v']) h5 (λb o q e=>hs5.extBut b o q e) e5 ?_ (by simp) (by simp[hfl]) s4.toks
  rw[Oo];exact(pD.mono a34.gr.le).append (.cons (i4.flat hflat) .nil)
end R
theorem vQ{ifs:List Expr}{scope:Scope}{cl:List (Str × Nat)}(hi:RIt c b σ iter xs)(hok:dw scope=true)(hu:isSet iter=false){lv:Lv}{lr:List Lv}(hlv:σ.lv=lv::lr)(hcl:bf scope.names lv.cells []=some cl)(hc:fJ c b (du scope cl σ) elt nm px ifs xs ys)
  (hx:xs.length<=sizeLine) (N:Now c b σ) {pos:Pos} {use:Option (Value->Sem Unit)} {Q E:Value->Shared->Prop}
  (hend:∀P' s' D C acc n,Gr N.P P' N.s.heap->Ext c N.s s'->N.s.heap.get? D=none->P' D=none->s'.heap.get? D=some (aa acc n)->PuL P' acc.toList ys->N.s.heap.get? C=none->P' C=none->(∃m,s'.heap.Ns C m)->C≠D ->
   (∀b o,P' b=some o->s'.heap.get? b=some o)->(∀b o,P' b=some o->o.cls≠.type "frame"/\o.cls≠.none)->compPost c.M N.A E use Q (.ref D) C (.ok .next) s') :
  N.wp (comprehension (.ListComp elt [⟨.Name nm px,iter,ifs,0⟩] scope pos) scope N.env (firstIterPos [⟨.Name nm px,iter,ifs,0⟩] pos) (newList []) false (eval iter N.env) use) Q E:=by
 cases hlv.symm.trans N.hl;obtain⟨hlt,hclos⟩:=Jj N.he.cells hcl;have hok':=hok;unfold dw at hok';simp only[Lx,decide_eq_true_eq] at hok';obtain⟨⟨⟨hkind,honce⟩,_⟩,_⟩:=hok';refine wpAny_comprehension_free (cl:=cl.map λx=>(x.1,N.γ.ρ x.2)) rfl (λv=>unset hu N.env v) hclos hkind (λy hy hloc=>oO (rJ honce (by rw[<-hloc];exact hy))) ?_
 refine wpAny_mono (hi N E) (λv s1 q1=>wpAny_mono q1 (λit s2 q2=>?_) λ_ _ e=>e) λ_ _ e=>e;obtain⟨P2,I,fp,Pn,T,rfl,w,t0,fI,pI,a2⟩:=q2;refine wpAny_newList ?_ (by decide)
 have a3:=Aft.side a2.st {cls:=.type "list",data:=.seq ([]:List Value).toArray} s2.toks;have a23:=a2.trans a3;refine Hu ?_;generalize hs3:({s2 with heap:=s2.heap.push {cls:=.type "list",data:=.seq ([]:List Value).toArray}}:Shared)=s3 at a3 a23
 have hs3':({s2 with heap:=s2.heap.push {cls:=.type "list",data:=.seq ([]:List Value).toArray},toks:=s2.toks}:Shared)=s3:=hs3
 have sz3:s3.heap.objs.size=s2.heap.objs.size+1:=by rw[<-hs3];exact Heap.size_push ..
 have eD:s3.heap.get? s2.heap.objs.size=some (aa #[] 0):=by rw[<-hs3];exact Heap.get?_push_size _ rfl
 have kn:=jP s3.heap {cls:=.type "dict",data:=.dict #[]} scope.names;have R4:=jN a3.st (.type "dict") scope.names;have env4:=Jc (s:=s3) N.hl N.he a23.st hok hcl N.env.qual hlt;obtain⟨oI,eI,_,_⟩:=w.cls 0 _ t0;have I_lt:I<s2.heap.objs.size:=Heap.lt_size eI;have fresh3:∀a,s3.heap.objs.size<=a->N.s.heap.get? a=none:=λa ha=>a23.ext.keep.gone (gA ha);have fD:N.s.heap.get? s2.heap.objs.size=none:=a2.ext.keep.gone (aU _);have pD:P2 s2.heap.objs.size=none:=a2.st.real.none_at;have hnew:∀i,¬ i<N.γ.k->s3.heap.objs.size<=(N.γ.inner s3.heap.objs.size (1+(ao scope.names).length)).ρ i:=λi hi=>by
  show s3.heap.objs.size<=(if i<N.γ.k then N.γ.ρ i else s3.heap.objs.size+(i-N.γ.k));rw[if_neg hi];exact LQ _ _
 have apart:∀a,a<s3.heap.objs.size->N.s.heap.get? a=none->∀i,i<(N.γ.inner s3.heap.objs.size (1+(ao scope.names).length)).k->(N.γ.inner s3.heap.objs.size (1+(ao scope.names).length)).ρ i≠a:=λa ha ho i _ q=>by
  by_cases hi:i<N.γ.k
  ·rw[(N.γ.inner_le _ _).ρ i hi] at q
   obtain⟨o,e⟩:=N.S.real.there hi;rw[q,ho] at e;cases e
  ·have:=hnew i hi
   rw[q] at this;exact Mq _ (Lk ha this)
 have bI:aF c (N.γ.inner s3.heap.objs.size (1+(ao scope.names).length)) P2 N.s.heap I:=⟨pI,apart I (by rw[sz3];exact Ro I_lt) fI,fI,N.S.wd.bk.gone fI⟩
 have bD:aF c (N.γ.inner s3.heap.objs.size (1+(ao scope.names).length)) P2 N.s.heap s2.heap.objs.size:=⟨pD,apart _ (by rw[sz3];exact Mv _) fD,fD,N.S.wd.bk.gone fD⟩
 have X:bH c N.fr (N.γ.inner s3.heap.objs.size (1+(ao scope.names).length)) N.P N.s P2 {s3 with heap:=pushCells (s3.heap.push {cls:=.type "dict",data:=.dict #[]}) scope.names} (du scope cl σ).cs :=
  ⟨a23.gr,a23.ext.trans ⟨.of_keeps kn,λo=>o.step_keeps kn,.refl _,rfl⟩,⟨R4,a23.st.wd.keep (.of_keeps kn),a23.st.frs.keep (.of_keeps kn)⟩⟩
 have t4:T 0 (pushCells (s3.heap.push {cls:=.type "dict",data:=.dict #[]}) scope.names) :=
  w.keep t0 (a3.ext.keep.trans (.of_keeps kn)) a2.st.real.le (λb o e=>kn b o (a3.st.real.le b o e))
 let N4:Now c b (du scope cl σ):={A:=N.A,fr:=N.fr,env:=_,γ:=N.γ.inner s3.heap.objs.size (1+(ao scope.names).length),P:=P2,s:=_,l:=_,lr:=σ.lv,hA:=N.hA,hl:=rfl,he:=env4,S:=X.st}
 have loop:=hc N4 I s2.heap.objs.size fp xs Pn T 0 #[] 0 [] iter scope pos N.s N.P (compPost c.M N.A E use Q (.ref s2.heap.objs.size) s3.heap.objs.size) N.S.wd.bk N.S.frs X w t4 rfl (Lr _) bI bD (Mu I_lt)
  (kn _ _ eD) .nil (by simpa using hx) (λi hi=>?_) ⟨[],by simp[N4,du]⟩ λP' s' cs' acc n X' bD' e' p' hv=>?_
 ·exact codeAny_compStart_list loop (w.W.self 0 _ _ _ t4 loop)
 ·rcases hi with ⟨_,rfl⟩ | ⟨hk,hi⟩
  ·exact fresh3 _ (hnew _ (by rw[N.S.real.k];exact Mq _))
  ·refine fresh3 _ (hnew _ λhlt'=>?_)
   rcases Jo _ _ _ _ (dD hi) with q | q
   ·rcases Jk _ _ _ hcl _ q with q | q
    ·cases q
    ·rw[rJ honce q] at hk;cases hk
   ·rw[N.S.real.k] at hlt'
    exact absurd q (by simp only;omega)
 ·obtain⟨vs,hv⟩:=hv
  obtain⟨es,hn,_⟩:=X'.st.real.ns hv;have hC:(N.γ.inner s3.heap.objs.size (1+(ao scope.names).length)).ρ σ.cs.length=s3.heap.objs.size:=by
   rw[<-N.S.real.k];simpa using N.γ.inner_new s3.heap.objs.size (1+(ao scope.names).length) 0
  have hpC:P' s3.heap.objs.size=none:=by
   rw[<-hC];exact X'.st.real.off _ _ hv (by intro q;cases q)
  refine hend P' s' _ _ acc n X'.gr X'.ext fD bD'.p e' (by simpa using p') (fresh3 _ (K3 _)) hpC ⟨nsFind es,hC▸hn⟩ ?_ X'.st.real.le X'.st.real.kind
  rw[sz3];exact Nq (Mv _)
end
end
section
open PySem PyProof.Rows PySem.Spec
abbrev FrQ(c:Cx)(fr:List Env)(γ:Gh)(P:Frz)(s:Shared)(cs:List Cell)(l:List V)(x:Value)(s':Shared):Prop :=
 ∃P' a vs n,x=.ref a/\Aft c fr γ P s cs P' s'/\P' a=none/\s.heap.get? a=none/\s'.heap.get? a=some (aa vs n)/\PuL P' vs.toList l
def RFr(c:Cx)(b:Nat)(σ:Sg)(e:Expr)(l:List V):Prop:=∀(N:Now c b σ) (E:Value->Shared->Prop),N.wp (eval e N.env) (FrQ c N.fr N.γ N.P N.s σ.cs l) E
section
variable{c:Cx}{A:Around}{fr:List Env}{γ:Gh}{P P':Frz}{s s':Shared}{cs:List Cell}
theorem FrQ.after(a:Aft c fr γ P s cs P' s'){l:List V}{x:Value}{s'':Shared}(h:FrQ c fr γ P' s' cs l x s''):FrQ c fr γ P s cs l x s'' :=
 let ⟨P2,d,vs,n,h1,h2,h3,h4,h5⟩:=h;⟨P2,d,vs,n,h1,a.trans h2,h3,a.ext.keep.gone h4,h5⟩
theorem Aft.lay(S:St c fr γ P s cs){l:List V}{P1:Frz}{d:Addr}{vs:Array Value}{n:Nat}(a:Aft c fr γ P s cs P1 s')(pd:P1 d=none)(zd:s.heap.get? d=none)(ed:s'.heap.get? d=some (aa vs n))(p:PuL P1 vs.toList l) :
  Aft c fr γ P s cs (P1.put d (aa vs n)) s'/\Is c.D γ (P1.put d (aa vs n)) (.ref d) (.lst l):=by
 have g1:Gr P1 (P1.put d (aa vs n)) s.heap:=Gr.put pd zd;have gr:Gr P (P1.put d (aa vs n)) s.heap:=⟨a.gr.le.trans g1.le,λb o e=>(g1.new b o e).elim (a.gr.new b o) .inr⟩;refine⟨⟨gr,⟨S.real.keep gr a.ext.keep (λb o e=>?_) λb o e=>?_,a.st.wd,a.st.frs⟩,a.ext⟩,.pu (.lst (Frz.put_self ..) (p.mono g1.le))⟩
 ·rcases Frz.put_at e with ⟨q,w⟩ | e
  ·subst q w;exact ed
  ·exact a.st.real.le _ _ e
 ·rcases Frz.put_at e with ⟨_,w⟩ | e
  ·subst w;exact⟨tyF (by decide),tyN⟩
  ·exact a.st.real.kind _ _ e
theorem FrQ.ev(S:St c fr γ P s cs){l:List V}{x:Value}(h:FrQ c fr γ P s cs l x s'):Ev c fr γ P s cs (.lst l) x s':=by
 obtain⟨P1,d,vs,n,rfl,a,pd,zd,ed,p⟩:=h;obtain⟨h1,h2⟩:=a.lay S pd zd ed p;exact⟨_,h1,h2⟩
end
section
variable{c:Cx}{g:Glb}{b:Nat}{σ τ:Sg}{e l r x y t elt iter:Expr}{es as:List Expr}{u v w d:V}{vs ws xs ys zs:List V}{p q px:Pos}{k j:Bool}{n:Nat}{nm:Str}
theorem Now.fr_(N:Now c b σ){h':Heap}{D:Addr}{vs:Array Value}{n t:Nat}{l:List V}(hk:∀b o,N.s.heap.get? b=some o->h'.get? b=some o)(hD:N.s.heap.get? D=none)(hd:h'.get? D=some (aa vs n))(p:PuL N.P vs.toList l) :
  FrQ c N.fr N.γ N.P N.s σ.cs l (.ref D) {N.s with heap:=h',toks:=t}:=by
 have kp:Keep N.s.heap h':=.of_keeps hk;have pD:N.P D=none:=by
  cases q:N.P D with
  | none=>rfl
  | some o=>have:=N.S.real.le _ _ q;rw[hD] at this;cases this
 exact⟨N.P,D,vs,n,rfl,⟨.refl _ _,⟨N.S.real.keep (.refl _ _) kp (λb o q=>hk b o (N.S.real.le b o q)) N.S.real.kind,N.S.wd.keep kp,N.S.frs.keep kp⟩,⟨kp,λo=>o.step_keeps hk,.refl _,rfl⟩⟩,pD,hD,hd,p⟩
theorem Now.frNew(N:Now c b σ){vs:Array Value}{l:List V}(p:PuL N.P vs.toList l)(t:Nat):FrQ c N.fr N.γ N.P N.s σ.cs l (.ref N.s.heap.objs.size) {N.s with heap:=N.s.heap.push {cls:=.type "list",data:=.seq vs},toks:=t} :=
 N.fr_ (λ_ _ e=>Heap.get?_push_of_some _ e) (aU _) (Heap.get?_push_size _ rfl) p
theorem RFr.ev(h:RFr c b σ e vs):REv c b σ e (.lst vs):=λN E=>wpAny_mono (h N E) (λx s' q=>q.ev N.S) λ_ _ q=>q
namespace R
theorem frLst(h:REvs c b σ es vs)(hf:vs.all flat=true)(hz:vs.length<=16777216):RFr c b σ (.List es p) vs:=λN E =>
 List_ (h.then N λP1 s1 a1 xs is=>by
  have p:=is.flat hf;refine wpAny_newList (FrQ.after a1 ((N.go a1).frNew (vs:=xs.toArray) (by simpa using p) s1.toks)) ?_
  rw[<-p.length] at hz;exact hz)
theorem frMul{i:Int}(hl:REv c b σ l (.lst vs))(hr:REv c b σ r (.int i))(hx : -(2 ^ 62)<i/\i<2 ^ 62)(hz:vs.length*i.toNat<=16777216):RFr c b σ (.BinOp l .Mult r p) (Mg i.toNat vs).flatten:=λN0 E =>
 wpAny_BinOp (hl.then N0 λP1 s1 a1 u i1=>hr.then (N0.go a1) λP2 s2 a2 v hv=>by
  let N:=(N0.go a1).go a2
  have hu:N.Is u (.lst vs):=i1.mono a2.gr.le;obtain⟨t,rfl⟩:=hv.int_inv;obtain⟨a,items,k,rfl,ea,pa⟩:=hu.lst_inv;have hl:=N.S.real.le _ _ ea;have hlen:=pa.length;rw[Lp] at hlen;rw[<-hlen] at hz;have gen:∀n (acc:Array Value) (d:List V),PuL N.P acc.toList d->PuL N.P (List.foldl (λx1 x2=>x1++x2) acc (Mg n items)).toList (d++(Mg n vs).flatten):=by
   intro n
   induction n with
   | zero=>intro acc d h;simpa using h
   | succ n ih =>
    intro acc d h;rw[Rz,RP,Rz,List.flatten_cons,<-Lj];exact ih _ _ (by rw[Oq];exact h.append pa)
  have hp:PuL N.P (List.foldl (λx1 x2=>x1++x2) (#[]:Array Value) (Mg (if items.isEmpty=true then 0 else i.toNat) items)).toList (Mg i.toNat vs).flatten:=by
   by_cases he:items.isEmpty=true
   ·rw[if_pos he]
    have:vs=[]:=List.eq_nil_of_length_eq_zero (by rw[<-hlen];simpa using he)
    subst this;simpa using PuL.nil
   ·rw[if_neg he];exact gen _ #[] [] .nil
  exact wpAny_binaryOp_repeat_ref (T:="list") (U:="int") (by decide) ⟨_,hl,rfl⟩ (λs'=>typeIs_int s' i t) noFill_list_mul F.fills_int_mul F.slot_int_rmul repeat_list F.slot_int_index.lookup
   (call_meets F.slot_int_rmul (typeIs_int N.s i t) F.entry_int_rmul (F.args_int_rmul_2 _ _) (int___rmul___int_list i t a items k)
    ⟨hl,rfl,⟨_,hl,rfl⟩,call_meets F.slot_list_mul ⟨_,hl,rfl⟩ F.entry_list_mul (F.args_list_mul_2 _ _)
     (AutoListH.list___mul___list_int_3 a items k i t (by simp[Builtin.List.listFitsIndex];omega) (by omega) (by simp[Builtin.List.listTooLong,sizeLine];omega))
     ⟨hl,FrQ.after a1 (FrQ.after a2 (N.frNew hp N.s.toks))⟩⟩))
theorem Hf{ifs:List Expr}{sc:Scope}{cl:List (Str × Nat)}{lv:Lv}{lr:List Lv}(hi:RIt c b σ iter xs)(hok:dw sc=true)(hu:isSet iter=false)(hlv:σ.lv=lv::lr)(hcl:bf sc.names lv.cells []=some cl)(hc:fJ c b (du sc cl σ) elt nm px ifs xs ys)(hx:xs.length<=sizeLine) :
  RFr c b σ (.ListComp elt [⟨.Name nm px,iter,ifs,0⟩] sc p) ys:=λN E=>by
 show wpAny c.M N.A _ _ _ _;rw[eval_ListComp];refine vQ hi hok hu hlv hcl hc hx N ?_;intro P' s' D C acc n gr ext zD pD eD pys zC pC ⟨m,hn⟩ hCD le kd;refine⟨m,hn,λh' hs=>⟨P',D,acc,n,rfl,?_,pD,zD,(hs.2 _ (Ne.symm hCD)).trans eD,pys⟩⟩;have kp:Keep N.s.heap h':=nA ext.keep zC hs (by obtain⟨o,es,ep,e,d,_⟩:=hn;exact .data e λvs q=>by rw[d] at q;cases q)
 exact⟨gr,⟨N.S.real.keep gr kp (λb o e=>(hs.2 b λq=>by subst q;rw[pC] at e;cases e).trans (le b o e)) kd,N.S.wd.keep kp,N.S.frs.keep kp⟩,⟨kp,λo=>rK (ext.old o) (N.S.wd.bk.gone zC) hs,ext.gens,ext.os⟩⟩
end R
def leS(a b:Str):Prop:=a.cps.toList<=b.cps.toList
theorem sZ{a b c:Str}(h:leS a b)(k:leS b c):leS a c:=List.le_trans h k
theorem s6{a b:Str}(h:leS a b)(k:leS b a):a=b:=by
 have:=List.le_antisymm h k;obtain⟨x⟩:=a;obtain⟨y⟩:=b;exact congrArg Str.mk (Q8.mp this)
theorem yL{a b:Str}(h:bR a b=true):leS a b:=List.le_of_lt (of_decide_eq_true h)
theorem lG{a b:Str}(h:bR a b=false):leS b a:=List.not_lt.mp (of_decide_eq_false h)
theorem uc(a:Str):∀l:List Str,(insS a l).Perm (a::l):=by
 intro l_
 induction l_ with
 | nil=>exact .refl _
 | cons b r ih =>
  cases q:bR b a with
  | true=>rw[t8 q];exact(List.Perm.cons b (ih)).trans (.swap a b r)
  | false=>rw[ud q]
theorem jm:∀l:List Str,(bJ l).Perm l:=by
 intro l_
 induction l_ with
 | nil=>exact .refl _
 | cons a r ih=>exact(uc a _).trans (.cons a (ih))
theorem Gj(a:Str):∀ {l:List Str},l.Pairwise leS->(insS a l).Pairwise leS:=by
 intro l_
 induction l_ with
 | nil =>
  intro _;exact List.pairwise_singleton ..
 | cons b r ih =>
  intro h;rw[Ny] at h;cases q:bR b a with
  | true =>
   rw[t8 q,Ny];refine⟨λc hc=>?_,ih h.2⟩;rcases KZ.mp ((uc a r).mem_iff.mp hc) with rfl | hc
   ·exact yL q
   ·exact h.1 c hc
  | false =>
   rw[ud q,Ny];refine⟨λc hc=>?_,Ny.mpr h⟩;rcases KZ.mp hc with rfl | hc
   ·exact lG q
   ·exact sZ (lG q) (h.1 c hc)
theorem ql:∀l:List Str,(bJ l).Pairwise leS:=by
 intro l_
 induction l_ with
 | nil=>exact .nil
 | cons a r ih=>exact Gj a (ih)
theorem sS:∀(a b:List Nat),ltCps a b=decide (a<b)
 | [],[]=>by simp[ltCps]
 | [],_::_=>by simp[ltCps]
 | _::_,[]=>by simp[ltCps]
 | x::a,y::b=>by
  unfold ltCps;rw[sS a b,Np];simp[List.cons_lt_cons_iff]
theorem Bo:∀(l:List Str) (p:Str),risingS p l=true->(p::l).Pairwise leS:=by
 intro l_
 induction l_ with
 | nil =>
  intro p _;simp
 | cons x r ih =>
  intro p h;unfold risingS at h;rw[Lx,Oj,sS] at h;have hp:leS p x:=lG h.1;have ih:=ih x h.2;refine Ny.mpr ⟨λc hc=>?_,ih⟩;rcases KZ.mp hc with rfl | hc
  ·exact hp
  ·exact sZ hp ((Ny.mp ih).1 c hc)
theorem zc{l m:List Str}(hp:l.Perm m)(h:sortedS l=true):l=bJ m:=by
 have h1:l.Pairwise leS:=by
  cases l with
  | nil=>exact .nil
  | cons x r=>exact Bo r x h
 exact List.Perm.eq_of_pairwise (λ_ _ _ _=>s6) h1 (ql m) (hp.trans (jm m).symm)
theorem pZ{P:Frz}{vs:List Value}{ss:List Str}(a:StrsAre vs ss):PuL P vs (ss.map .str):=by
 induction a with
 | nil=>exact .nil
 | cons x t _ ih=>exact .cons (.str x t) ih
end
end
section
open PySem PyProof.Rows PySem.Spec
structure MethAt(c:Cx)(s:Shared)(ov:Value)(m:Str)(T id:String):Prop where
 pa:PlainAttrs T
 slot:Slot T m id
 ty:typeOf (.builtin id)=pure (.type "method_descriptor")
 is:s.TypeIs ov T
 nod:∀a,ov=.ref a->∃ob,s.heap.get? a=some ob/\ob.dict=none
section
variable{M:Model}{A:Around}{E:Value->Shared->Prop}{s:Shared}{env:Env}
theorem Hp{f:Value}{args:List (Bool × Sem Value)}(hp:args.any (·.1)=false){Q:Args->Shared->Prop}(h:wpAny M A (spliced args) (λvs s'=>Q ⟨vs,[]⟩ s') E s):wpAny M A (evalArgs f true args []) Q E s:=by
 cases args with
 | nil =>
  unfold evalArgs;show wpAny M A (spliced [] >>= _) Q E s;refine wpAny_bind (wpAny_mono h (λvs s' h'=>?_) λ_ _ x=>x);exact wpAny_bind (wpAny_pure (wpAny_holding (wpAny_bind (wpAny_pure (wpAny_bind (wpAny_pure (wpAny_pure h')))))))
 | cons x r =>
  obtain⟨q,y⟩:=x;cases q with
  | true=>simp at hp
  | false=>exact Calls.evalArgs_plain h
theorem bO{pos:Pos}{fv:Value}{first:List Value}{args:List (Bool × Sem Value)}{Q:Value->Shared->Prop}(hp:args.any (·.1)=false)
  (h:wpAny M A (spliced args) (λvs s₁=>(∃k,∀Q':Keeper->Shared->Prop,Q' k s₁->wpAny M A (keeperOf fv) Q' E s₁)/\wpAny M A (call fv (first++vs)) Q E s₁) E s) :
  wpAny M A (callWith pos fv first args []) Q E s:=by
 unfold callWith;refine wpAny_bind (wpAny_holding (Hp hp (wpAny_mono h (λvs s₁ h₁=>wpAny_bind (wpAny_standAt ?_)) λ_ _ x=>x)));obtain⟨⟨k,hk⟩,hc⟩:=h₁;rw[show(args.any (·.1)||([]:List (Option Str × Sem Value)).any (·.1.isNone))=false by rw[hp];rfl]
 have tail:∀ {t:Sem Value},wpAny M A t Q E s₁->wpAny M A (t >>= λr=>holding [r] point >>= λ_=>pure r) Q E s₁ :=
  λht=>wpAny_bind (wpAny_mono ht (λr s₂ hr=>wpAny_bind (wpAny_holding (wpAny_point (wpAny_pure hr)))) λ_ _ x=>x)
 refine wpAny_bind (hk _ ?_);cases k with
 | frame =>
  dsimp only;split
  ·exact tail hc
  ·exact tail (by unfold callMarked;exact Calls.wpAny_keep hc)
 | boundFrame =>
  dsimp only;split
  ·exact tail hc
  ·exact tail (by unfold callMarked;exact Calls.wpAny_keep hc)
 | machine=>exact tail hc
 | caller=>exact tail (wpAny_operateT hc)
theorem bM{es:List Expr}(h:cN es=true)(pos:Pos):(backTo pos (starEach es env)).any (·.1)=false:=by
 induction es with
 | nil=>rfl
 | cons e es ih =>
  unfold cN at h;rw[Lw,Lx,Oj] at h;rw[jk h.1];show((false,eval e env)::backTo pos (starEach es env)).any (·.1)=false;rw[Qc,ih h.2];rfl
theorem J8{es:List Expr}(h:cN es=true)(pos:Pos):((backTo pos (starEach es env)).all (λx => !x.1))=true:=by
 rw[List.all_eq_not_any_not];have:=bM (env:=env) h pos;simpa using this
theorem dX{id:String}:∃k,∀Q':Keeper->Shared->Prop,Q' k s->wpAny M A (keeperOf (.builtin id)) Q' E s:=⟨.machine,λ_ h=>wpAny_pure h⟩
theorem jL{id:String}:∃k,∀Q':Keeper->Shared->Prop,Q' k s->wpAny M A (keeperOf (.type id)) Q' E s:=⟨.machine,λ_ h=>wpAny_pure h⟩
theorem wk{o:Expr}(h:baseOk o=true)(name:Str):attributeBase o name env (eval o env)=eval o env:=by
 cases o with
 | Call f as ks p =>
  cases f with
  | Name=>cases h
  | _=>rfl
 | _=>rfl
theorem dB{prog:Program}{w:World}{o:Expr}{name:Str}{apos pos:Pos}{args:List Expr}{Q:Value->Shared->Prop}(hb:baseOk o=true)(hst:cN args=true)(hn:args.length<20)(hline:bw apos pos=true)
  (h:wpAny (model prog w) A (eval o env) (λov s₁=>∀pl,wpAny (model prog w) A (getMethod ov name pl) (λfm s₂=>wpAny (model prog w) A (callWith pos fm.1 fm.2 (backTo pos (starEach args env)) []) Q E s₂) E s₁) E s) :
  wpAny (model prog w) A (eval (.Call (.Attribute o name apos) args [] pos) env) Q E s:=by
 rw[arm_eval_Call,wk hb];refine wpAny_bind (wpAny_mono h (λov s₁ h₁=>?_) λ_ _ e=>e);refine wpAny_bind (wpAny_standAt ?_);have hform:methodCallForm (args.length+([]:List Keyword).length) (backTo pos (starEach args env)) (backToKw pos (keywordEach [] env))=true:=by
  unfold methodCallForm;have h1:=J8 (env:=env) hst pos;simp only[h1,Pq];show(true&&decide (args.length+0+0<30))=true;rw[decide_eq_true (by omega)];rfl
 have hpos:methodCallPos true o env apos pos=pure pos:=by unfold methodCallPos;rw[if_pos (by rw[show(apos.endLine==pos.line)=true from hline];rfl)]
 unfold methodCall;rw[hform];refine wpAny_bind (wpAny_holding (wpAny_mono (h₁ _) (λfm s₂ h₂=>?_) λ_ _ e=>e));obtain⟨f,first⟩:=fm;exact wpAny_bind (wpAny_of_eq hpos h₂)
end
def Mp(c:Cx)(b:Nat)(σ:Sg)(x:V)(m:Str)(as:List V)(r:V):Prop:=∀(N:Now c b σ) (u:Value),N.Is u x->∃T id,MethAt c N.s u m T id/\∀P' s' (a:N.To P' s') vs E,IsL c.D N.γ P' vs as->(N.go a).wp (call (.builtin id) (u::vs)) ((N.go a).Ev r) E
section
variable{c:Cx}{g:Glb}{b:Nat}{σ τ:Sg}{e l r x y t elt iter:Expr}{es as:List Expr}{u v w d:V}{vs ws xs ys zs:List V}{p q px:Pos}{k j:Bool}{n:Nat}{nm m:Str}
theorem MethAt.get{A:Around}{s:Shared}{E:Value->Shared->Prop}{ov:Value}{m:Str}{T id:String}(h:MethAt c s ov m T id){pl:Sem Bool}{Q:Value × List Value->Shared->Prop}(hq:Q (.builtin id,[ov]) s):wpAny c.M A (getMethod ov m pl) Q E s :=
 getMethod_builtin h.is h.pa h.slot h.ty h.nod hq
namespace R
theorem callN(hg:aj c g){lv:Lv}{lr:List Lv}(hl:σ.lv=lv::lr)(hn:Nm g σ.cs nm lv u)(ha:REvs c b σ as vs)(hk:Kp c b σ u vs v):REv c b σ (.Call (.Name nm p) as [] q) v:=λN E=>by
 cases hl.symm.trans N.hl;refine wpAny_Call_NameR (aR hg N.S N.he hn λxa ia=>?_);refine bO (bM ha.1 _) (ha.then N λP1 s1 a1 xs is=>?_);rw[Mj];obtain⟨h1,h2⟩:=hk (N.go a1) xa xs E (ia.mono a1.gr.le) is;obtain⟨kk,hk⟩:=h1;exact⟨⟨kk,λQ' hq=>hk Q' hq⟩,wpAny_mono h2 (λz s2 q=>q.after a1) λ_ _ q=>q⟩
theorem meth(hb:baseOk e=true)(hline:bw p q=true)(hn:as.length<20)(he:REv c b σ e u)(ha:REvs c b σ as vs)(hm:Mp c b σ u m vs v):REv c b σ (.Call (.Attribute e m p) as [] q) v:=λN E =>
 dB hb ha.1 hn hline (he.then N λP1 s1 a1 xa ia pl=>by
  obtain⟨T,id,h1,h2⟩:=hm (N.go a1) xa ia;exact h1.get (bO (bM ha.1 _) (ha.then (N.go a1) λP2 s2 a2 xs is=>⟨dX,wpAny_mono (h2 P2 s2 a2 xs E is) (λz s3 q=>(q.after a2).after a1) λ_ _ q=>q⟩)))
theorem repl(hg:aj c g){lv:Lv}{lr:List Lv}(hl:σ.lv=lv::lr){a y z t:Str}{p q px pa pb p1 p2:Pos}{n1 n2 n3:Nat}(hm:m="replace")(hline:bw p q=true)(hyz:¬ y=z)(hn:Nm g σ.cs nm lv (.str t))
  (hb:t.length+(t.length+1)*z.length<=16777216) (hz:(a.cps.toList++(Txt.replace t y z).cps.toList).length<=sizeLine) :
  REv c b σ (.BinOp (.Constant (.str a) n1 pa) .Add (.Call (.Attribute (.Name nm px) m p) [.Constant (.str y) n2 p1,.Constant (.str z) n3 p2] [] q) pb) (.str (mkS (a.cps.toList++(Txt.replace t y z).cps.toList))):=λN E=>by
 subst hm;cases hl.symm.trans N.hl;refine wpAny_BinOp (wpAny_Constant_str ?_);refine dB rfl rfl (Ou (by decide:0<20-2)) hline (aR hg (N.S.toks _) N.he hn λv hv pl=>?_)
 obtain⟨k,rfl⟩:=hv.str_inv
 with_reducible refine GM.replace ?_
 refine bO rfl ?_;show wpAny c.M N.A (spliced [(false,eval (.Constant (.str y) n2 p1) N.env),(false,eval (.Constant (.str z) n3 p2) N.env)]) _ _ _;refine Calls.spliced_cons (wpAny_Constant_str (Calls.spliced_cons (wpAny_Constant_str (Calls.spliced_nil ⟨dX,?_⟩))));refine SC.replace (Rf _) (Rf _) (Mu (Mv _)) (by rw[beq_eq_false_iff_ne];exact hyz) hb λt' k'=>?_
 exact wpAny_mono (wK (N.S.toks k') hz) (λv s' q=>q.after (.toks N.S _)) λ_ _ q=>q
end R
namespace Kp
theorem bi{id:String}(h:∀(N:Now c b σ) (vs:List Value) (E:Value->Shared->Prop),IsL c.D N.γ N.P vs xs->N.wp (call (.builtin id) vs) (N.Ev v) E):Kp c b σ (.bi id) xs v:=λN u vs E hu hv=>by
 rw[hu.bi_inv];exact⟨⟨.machine,λ_ h=>wpAny_pure h⟩,h N vs E hv⟩
theorem ty{id:String}(h:∀(N:Now c b σ) (vs:List Value) (E:Value->Shared->Prop),IsL c.D N.γ N.P vs xs->N.wp (call (.type id) vs) (N.Ev v) E):Kp c b σ (.ty id) xs v:=λN u vs E hu hv=>by
 rw[hu.ty_inv];exact⟨⟨.machine,λ_ h=>wpAny_pure h⟩,h N vs E hv⟩
theorem len{t:Bool}(h:Seq c b σ t u vs)(hz:vs.length<=16777216):Kp c b σ (.bi "len") [u] (.int vs.length):=bi λN xs E hv=>by
 obtain⟨_,rfl,h1⟩:=hv.one;obtain⟨a,ys,n,rfl,p,ho⟩:=h N _ h1;have hlen:=p.length;rw[Lp] at hlen;rw[<-hlen];cases t with
 | false=>exact len_list ⟨_,ho,rfl,n,rfl⟩ (by omega) (N.int _ _ _)
 | true=>exact len_tuple ⟨_,ho,rfl,n,rfl⟩ (by omega) (N.int _ _ _)
theorem lenS{s:Str}(hz:s.cps.toList.length<=16777216):Kp c b σ (.bi "len") [.str s] (.int s.cps.toList.length):=bi λN xs E hv=>by
 obtain⟨_,rfl,h1⟩:=hv.one;obtain⟨k,rfl⟩:=h1.str_inv;have e:s.length=s.cps.toList.length:=by show s.cps.size=_;simp
 exact PySem.P.len_str (by rw[e];omega) (by rw[e];exact N.int _ _ _)
theorem rO:∀ {vs:List Value} {ds:List V} {ns:List Int} {P:Frz},PuL P vs ds->nums ds=some ns->(∀v,v∈vs->∃a t,v=Value.int a t)/\numsOf vs=ns
 | _,_,_,_,.nil,h=>by cases h;exact⟨(λ_ h=>by cases h),rfl⟩
 | _,_,_,_,.cons (d:=d) a r,h=>by
  cases a with
  | int i t =>
   obtain⟨ms,hr,rfl⟩:=M8.mp h;obtain⟨h1,h2⟩:=rO r hr;refine⟨λv hv=>?_,by rw[numsOf,h2]⟩
   rcases KZ.mp hv with rfl | hv
   ·exact⟨i,t,rfl⟩
   ·exact h1 v hv
  | _=>cases h
theorem sum{ns:List Int}(h:nums vs=some ns):Kp c b σ (.bi "sum") [.lst vs] (.int ns.sum):=bi λN xs E hv=>by
 obtain⟨_,rfl,h1⟩:=hv.one;obtain⟨a,ys,n,rfl,e,p⟩:=h1.lst_inv;have ho:=N.S.real.le _ _ e;obtain⟨h1,h2⟩:=rO p h;have hall:AllInts ys:=λv hv=>h1 v (by simpa using hv)
 obtain⟨ps,rfl⟩:=hall.items;rw[nums_intItems] at h2;refine sum_intListG N.hA.handled ⟨_,ho,rfl,n,rfl⟩ λh' tk t' hk=>?_;rw[preSum_eq,Rx (by simp),h2]
 have kp:Keep N.s.heap h':=.of_keeps hk;exact⟨N.P,⟨.refl _ _,⟨N.S.real.keep (.refl _ _) kp (λb o q=>hk b o (N.S.real.le b o q)) N.S.real.kind,N.S.wd.keep kp,N.S.frs.keep kp⟩,⟨kp,λo=>o.step_keeps hk,.refl _,rfl⟩⟩,.pu (.int _ _)⟩
theorem sorted{ss:List Str}(h:txts vs=some ss)(hz:ss.length<64):Kp c b σ (.bi "sorted") [.lst vs] (.lst ((bJ ss).map .str)):=bi λN xs E hv=>by
 obtain⟨_,rfl,h1⟩:=hv.one;obtain⟨a,ys,n,rfl,e,p⟩:=h1.lst_inv;have hS:=gQ p h;have hlen:ys.toList.length=ss.length:=by
  have:∀ {vs:List Value} {ss:List Str},StrsAre vs ss->vs.length=ss.length:=λh=>by
   induction h with
   | nil=>rfl
   | cons _ _ _ ih=>simp[ih]
  exact this hS
 refine sorted_strs (vs:=ys.toList) ⟨_,N.S.real.le _ _ e,rfl,n,by simp⟩ hS (by omega) λout ss' h1 h2 h3=>?_
 obtain⟨k,hk⟩:=sortedAll_at N.s.heap ys.toList out;have:=zc h2 h3;subst this;exact N.lst (t:=N.s.toks) (λb o q=>sortedAll_old q) (gA (M3 _)) hk (pZ h1)
theorem isS{s:Str}:Kp c b σ (.bi "isinstance") [.str s,.ty "str"] (.bool true):=bi λN xs E hv=>by
 obtain⟨_,_,rfl,h1,h3⟩:=hv.two;rw[h3.ty_inv];obtain⟨k,rfl⟩:=h1.str_inv;exact PySem.IsiPair.str_str (N.bool _)
theorem isL:Kp c b σ (.bi "isinstance") [.lst vs,.ty "str"] (.bool false):=bi λN xs E hv=>by
 obtain⟨_,_,rfl,h1,h3⟩:=hv.two;rw[h3.ty_inv];obtain⟨a,vs,n,rfl,e,p⟩:=h1.lst_inv;exact PySem.IsiPair.list_str (N.S.real.le _ _ e) rfl ⟨N.P,.toks N.S _,.pu (.bool false)⟩
theorem typeI{i:Int}:Kp c b σ (.ty "type") [.int i] (.ty "int"):=ty λN xs E hv=>by
 obtain⟨_,rfl,h1⟩:=hv.one;obtain⟨t,rfl⟩:=h1.int_inv;exact call_type_of (typeIs_int N.s i t) (by decide) (N.old (.ty "int"))
theorem typeS{s:Str}:Kp c b σ (.ty "type") [.str s] (.ty "str"):=ty λN xs E hv=>by
 obtain⟨_,rfl,h1⟩:=hv.one;obtain⟨t,rfl⟩:=h1.str_inv;exact call_type_of (typeIs_str N.s s t) (by decide) (N.old (.ty "str"))
theorem int{i:Int}:Kp c b σ (.ty "int") [.int i] (.int i):=ty λN xs E hv=>by
 obtain⟨_,rfl,h1⟩:=hv.one;obtain⟨t,rfl⟩:=h1.int_inv;exact call_int_int (N.old (.pu (.int i t)))
end Kp
theorem R.frList{t:Bool}(hg:aj c g){lv:Lv}{lr:List Lv}(hl:σ.lv=lv::lr)(hn:Nm g σ.cs nm lv (.ty "list"))(hs:isStarred x=false)(hx:REv c b σ x u)(h:Seq c b σ t u vs)(hz:vs.length<=16777216):RFr c b σ (.Call (.Name nm p) [x] [] q) vs:=λN E=>by
 cases hl.symm.trans N.hl;refine wpAny_Call_NameR (aR hg N.S N.he hn λxa ia=>?_);have ha:REvs c b σ [x] [u]:=R.cons hs hx R.nil;refine bO (bM ha.1 _) (ha.then N λP1 s1 a1 xs is=>⟨by rw[ia.ty_inv];exact jL,?_⟩)
 rw[Mj,ia.ty_inv];obtain⟨_,rfl,h1⟩:=is.one;obtain⟨a,ys,n,rfl,p,ho⟩:=h (N.go a1) _ h1;have hlen:=p.length;rw[Lp] at hlen;have hsz:ys.size<=sizeLine:=by rw[hlen];exact hz
 have fin:∀h' c',(∀b o,s1.heap.get? b=some o->h'.get? b=some o)->h'.get? s1.heap.objs.size=some (aa ys c')->FrQ c N.fr N.γ N.P N.s σ.cs vs (.ref s1.heap.objs.size) {s1 with heap:=h' }:=λh' c' hk hD =>
  FrQ.after a1 ((N.go a1).fr_ (t:=s1.toks) hk (aU _) hD p)
 cases t with
 | false=>exact call_list_seq (hsz:=hsz) a (.inl rfl) ho rfl rfl λh' c' hk hD=>fin h' c' hk hD
 | true=>exact call_list_seq (hsz:=hsz) a (.inr rfl) ho rfl rfl λh' c' hk hD=>fin h' c' hk hD
end
end
section
section
open PySem.Builtin.Re
theorem sJ:PlainAttrs "re.Match" :=
 ⟨⟨"object.__getattribute__",by rw[typeLookup_type,builtinLookup_eq_fast];rfl',by decide +kernel⟩,by rw[typeLookup_type,builtinLookup_eq_fast];rfl'⟩
theorem sE:Slot "re.Match" "group" "re.Match.group" :=
 .of (owner:="re.Match") (n:="group") (by rw[typeLookup_type,builtinLookup_eq_fast];rfl') (by decide +kernel) (by decide +kernel) (by decide +kernel)
  (by first | exact .inl (by decide +kernel) | exact .inr (by decide +kernel)) (by rw[isSubtype_type];rfl')
theorem sy:Slot "re.Match" "span" "re.Match.span" :=
 .of (owner:="re.Match") (n:="span") (by rw[typeLookup_type,builtinLookup_eq_fast];rfl') (by decide +kernel) (by decide +kernel) (by decide +kernel)
  (by first | exact .inl (by decide +kernel) | exact .inr (by decide +kernel)) (by rw[isSubtype_type];rfl')
theorem DY:typeOf (.builtin "re.Match.group")=pure (.type "method_descriptor"):=by show builtinType _=_;rw[builtinType_eq_fast];rfl'
theorem DX:typeOf (.builtin "re.Match.span")=pure (.type "method_descriptor"):=by show builtinType _=_;rw[builtinType_eq_fast];rfl'
theorem Ei:entryFor table "re.Match.group"=some Builtin.«re.Match.group» := entryFor_of_tree (by rfl')
theorem Eh:entryFor table "re.Match.span"=some Builtin.«re.Match.span» := entryFor_of_tree (by rfl')
theorem sG:Manifest.owners.lookup (String.ofList ['h','c','t','a','M','.','e','r'].reverse)=some Manifest.sig_re_Match:=by rfl'
theorem Ek(a b:Value):argsOk "re.Match.group" ⟨[a,b],[]⟩:=by
 unfold argsOk;rw[signature?_of (id:="re.Match.group") (n:=['p','u','o','r','g']) (o:=['h','c','t','a','M','.','e','r']) (by rfl') sG];rfl'
theorem Ej(a b:Value):argsOk "re.Match.span" ⟨[a,b],[]⟩:=by
 unfold argsOk;rw[signature?_of (id:="re.Match.span") (n:=['n','a','p','s']) (o:=['h','c','t','a','M','.','e','r']) (by rfl') sG];rfl'
section
variable{prog:Program}{w:World}{A:Around}{E:Value->Shared->Prop}{s:Shared}
theorem uw{a b:Addr}{x1 x2 x3 x4 x5:Value}{vs:Array Value}{n:Nat}{Q:ReFound->Shared->Prop}(h:s.heap.get? a=some (cC x1 x2 x3 x4 x5 (.ref b)))(hb:s.heap.get? b=some (aQ vs n))
  (hq:Q {fields := #[x1,x2,x3,x4,x5,.ref b],spans:=vs.map reRawOf} s):wpAny (model prog w) A (reFound (.ref a)) Q E s:=by
 unfold reFound;refine wpAny_bind (wpAny_fieldsOf h rfl ?_);show wpAny _ A (reRawItems (.ref b) >>= _) _ _ s;unfold reRawItems;refine wpAny_bind (wpAny_bind (wpAny_seqItems hb rfl ?_));exact wpAny_pure (wpAny_pure hq)
theorem BK{a:Nat}:reRawOf (rawInt a)=a:=rfl
theorem lJ{a b:Nat}{r:List (Nat × Nat)}:bU ((a,b)::r)=rawInt a::rawInt b::bU r:=rfl
theorem qj:∀(sp:List (Nat × Nat)) (g:Nat) (p:Nat × Nat),sp[g]?=some p->((bU sp).toArray.map reRawOf).getD (2*g) (-1)=(p.1:Int)/\((bU sp).toArray.map reRawOf).getD (2*g+1) (-1)=(p.2:Int)/\2*g<(bU sp).length:=by
 intro sp
 induction sp with
 | nil=>intro g p h;simp at h
 | cons q r ih =>
  intro g p h;obtain⟨a,b⟩:=q;cases g with
  | zero =>
   have h:=Option.some.inj h;subst h;rw[lJ];refine⟨?_,?_,?_⟩ <;> simp[BK]
  | succ g =>
   rw[Pg] at h;obtain⟨h1,h2,h3⟩:=ih g p h;refine⟨?_,?_,by show _<(bU r).length+1+1;omega⟩
   ·have e:2*(g+1)=2*g+1+1:=by omega
    rw[<-h1,e,lJ];simp[Rb]
   ·have e:2*(g+1)+1=2*g+1+1+1:=by omega
    rw[<-h2,e,lJ];simp[Rb]
end
section
variable{prog:Program}{w:World}{A:Around}{E:Value->Shared->Prop}{s:Shared}
theorem um{x:ReFound}{i:Nat}{u:Tok}{Q:Nat->Shared->Prop}(h:2*i<x.spans.size)(hq:Q i s):wpAny (model prog w) A (reGroupNumber x (.int i u)) Q E s:=by
 unfold reGroupNumber;have e:asInt? (.int (i:Int) u)=pure (some (i:Int)):=rfl;have e2:asIndex (.int (i:Int) u)=pure (i:Int):=rfl;rw[e,pure_bind];dsimp only;rw[if_pos (show(some (i:Int)).isSome=true from rfl),e2,pure_bind];rw[if_neg (by simp;omega)]
 exact wpAny_pure (by simpa using hq)
theorem Gu{x:ReFound}{g:Nat}{d:Value}{t:Str}{k:Tok}{p:Nat × Nat}{Q:Value->Shared->Prop}(hf:x.fields.getD 0 .none=.str t k)(h1:x.spans.getD (2*g) (-1)=(p.1:Int))(h2:x.spans.getD (2*g+1) (-1)=(p.2:Int))
  (hl:(aC t p).length<=sizeLine) (hq:∀k k',Q (.str (mkS (aC t p)) k) {s with toks:=k' }):wpAny (model prog w) A (reGroupText x g d) Q E s:=by
 unfold reGroupText;rw[h1,h2,hf];dsimp only;rw[if_neg (by simp)]
 have e:reTextOf (.str t k)=pure (t.cps,0):=rfl;rw[e];show wpAny _ A (reSlice t.cps 0 ((p.1:Int)).toNat ((p.2:Int)).toNat) _ _ s;have e2:(⟨t.cps.extract p.1 p.2⟩:Str)=mkS (aC t p):=by
  unfold mkS aC
  congr 1
  apply Rc;simp[List.drop_take]
 unfold reSlice;rw[Q4,Q4,if_pos (beq_self_eq_true _),e2];refine wpAny_mkStr (hq _ _) ?_;show(aC t p).toArray.size<=_;simpa using hl
theorem Ef{a b:Addr}{t:Str}{tk:Tok}{x2 x3 x4 x5:Value}{n:Nat}{sp:List (Nat × Nat)}{p:Nat × Nat}{u:Tok}{Q:Value->Shared->Prop}(h:s.heap.get? a=some (cC (.str t tk) x2 x3 x4 x5 (.ref b)))(hb:s.heap.get? b=some (aQ (bU sp).toArray n))
  (hp:sp[1]?=some p) (hl:(aC t p).length<=sizeLine) (hq:∀k k',Q (.str (mkS (aC t p)) k) {s with toks:=k' }):wpAny (model prog w) A (call (.builtin "re.Match.group") [.ref a,.int 1 u]) Q E s:=by
 obtain⟨h1,h2,h3⟩:=qj sp 1 p hp;refine wpAny_call_entry sE ⟨_,h,rfl⟩ Ei ?_ (Ek _ _);show wpAny _ A.in1 (do let x <- reFound (.ref a);ret (<- reGroupText x (<- reGroupNumber x (.int 1 u)) .none)) _ _ s
 refine wpAny_bind (uw h hb ?_);refine wpAny_bind (um (i:=1) (by simpa using h3) ?_)
 refine wpAny_bind (Gu (p:=p) rfl h1 h2 hl λk k'=>?_);exact wpAny_pure ⟨_,rfl,hq k k'⟩
theorem Ec{a b:Addr}{t:Str}{tk:Tok}{x2 x3 x4 x5:Value}{n:Nat}{sp:List (Nat × Nat)}{p:Nat × Nat}{u:Tok}{Q:Value->Shared->Prop}(h:s.heap.get? a=some (cC (.str t tk) x2 x3 x4 x5 (.ref b)))(hb:s.heap.get? b=some (aQ (bU sp).toArray n))
  (hp:sp[0]?=some p) (hq:∀k1 k2 k3,Q (.ref s.heap.objs.size) {s with heap:=s.heap.push (aQ #[.int p.1 k1,.int p.2 k2] 0),toks:=k3}):wpAny (model prog w) A (call (.builtin "re.Match.span") [.ref a,.int 0 u]) Q E s:=by
 obtain⟨h1,h2,h3⟩:=qj sp 0 p hp;refine wpAny_call_entry sy ⟨_,h,rfl⟩ Eh ?_ (Ej _ _);show wpAny _ A.in1 (do
  let (x,g) <- (do let x <- reFound (.ref a);pure (x,<-reGroupNumber x (.int 0 u)))
  ret (<- newTuple [<-mkInt (x.spans.getD (2*g) (-1)),<-mkInt (x.spans.getD (2*g+1) (-1))])) _ _ s
 refine wpAny_bind (wpAny_bind (uw h hb ?_));refine wpAny_bind (um (i:=0) (by simpa using h3) (wpAny_pure ?_))
 dsimp only;rw[h1,h2];refine wpAny_bind (wpAny_mkInt ?_);refine wpAny_bind (wpAny_mkInt ?_);refine wpAny_bind (wpAny_newTuple ?_ (by show 2<=sizeLine;decide))
 exact wpAny_pure ⟨_,rfl,hq _ _ _⟩
end
end
theorem jJ:Slot "re.Match" "__getattribute__" "object.__getattribute__" :=
 .of (owner:="object") (n:="__getattribute__") (by rw[typeLookup_type,builtinLookup_eq_fast];rfl') (by decide +kernel) (by decide +kernel) (by decide +kernel)
  (by first | exact .inl (by decide +kernel) | exact .inr (by decide +kernel)) (by rw[isSubtype_type];rfl')
theorem Ed:typeLookup (.type "re.Match") "string"=pure (some (.builtin "re.Match.string")):=by rw[typeLookup_type,builtinLookup_eq_fast];rfl'
theorem m7:typeOf (.builtin "re.Match.string")=pure (.type "member_descriptor"):=by show builtinType _=_;rw[builtinType_eq_fast];rfl'
theorem m6:Slot "member_descriptor" "__get__" "member_descriptor.__get__" :=
 .of (owner:="member_descriptor") (n:="__get__") (by rw[typeLookup_type,builtinLookup_eq_fast];rfl') (by decide +kernel) (by decide +kernel) (by decide +kernel)
  (by first | exact .inl (by decide +kernel) | exact .inr (by decide +kernel)) (by rw[isSubtype_type];rfl')
theorem DQ:Slot "member_descriptor" "__set__" "member_descriptor.__set__" :=
 .of (owner:="member_descriptor") (n:="__set__") (by rw[typeLookup_type,builtinLookup_eq_fast];rfl') (by decide +kernel) (by decide +kernel) (by decide +kernel)
  (by first | exact .inl (by decide +kernel) | exact .inr (by decide +kernel)) (by rw[isSubtype_type];rfl')
theorem DW(a b c:Value):argsOk "member_descriptor.__get__" ⟨[a,b,c],[]⟩:=by unfold argsOk;rfl'
theorem Eg:entryFor table "re.Match.string"=some Builtin.«re.Match.string» := entryFor_of_tree (by rfl')
theorem G5:entryFor table "object.__getattribute__"=some Builtin.«object.__getattribute__» := entryFor_of_tree (by rfl')
theorem G6(a b:Value):argsOk "object.__getattribute__" ⟨[a,b],[]⟩:=by unfold argsOk;rfl'
theorem DR:entryFor table "member_descriptor.__get__"=some Builtin.«member_descriptor.__get__» := entryFor_of_tree (by rfl')
theorem Eb:(".".intercalate ("re.Match.string".cutAt '.').dropLast)="re.Match":=by
 have e0:"re.Match.string".cutAt '.'=["re","Match","string"]:=by first | rfl | decide +kernel
 rw[e0];first | rfl | decide +kernel
theorem Ea:isSubtype (.type "re.Match") (.type (".".intercalate ("re.Match.string".cutAt '.').dropLast))=pure true:=by
 rw[Eb,isSubtype_type];rfl'
section
variable{prog:Program}{w:World}{A:Around}{E:Value->Shared->Prop}{h:Heap}{g:Array GenState}{d:Drawn}{t:Nat}{os:OsState}{a:Addr}{x1 x2 x3 x4 x5 x6:Value}
theorem yF{R:Result->Shared->Prop}(hx:h.get? a=some (cC x1 x2 x3 x4 x5 x6))(hq:R (.ok (.ret x1)) ⟨h,g,d,t,os⟩) :
  codeAny (model prog w) A (.call (.builtin "member_descriptor.__get__") ⟨[.builtin "re.Match.string",.ref a,.type "re.Match"],[]⟩) R ⟨h,g,d,t,os⟩:=by
 have hT:(⟨h,g,d,t,os⟩:Shared).TypeIs (.ref a) "re.Match":=⟨_,hx,rfl⟩;have hT5:(⟨h,g,d,t,os⟩:Shared).TypeIs (.builtin "re.Match.string") "member_descriptor":=m7;have f8:=Ea;refine codeAny_call_builtin m6.plain DR (m6.check _ _ _ _ _ _ _ _ hT5 (DW _ _ _) ?_)
 repeat (any_goals (first | assumption | wp_step))
 refine⟨Code.quiet_builtin _ (by decide +kernel),codeAny_builtin Eg ?_⟩
 show wpAny _ _ (do let v <- field (.ref a) 0;ret v) _ _ _
 refine wpAny_bind (wpAny_field hx rfl rfl ?_);exact wpAny_pure hq
theorem yG{tk:Tok}{Q:Fin->Shared->Prop}(hx:h.get? a=some (cC x1 x2 x3 x4 x5 x6))(hq:Q (.done (.ret x1)) ⟨h,g,d,t,os⟩) :
  wpAny (model prog w) A (Builtin.«object.__getattribute__» ⟨[.ref a,.str "string" tk],[]⟩) Q E ⟨h,g,d,t,os⟩:=by
 have hT:(⟨h,g,d,t,os⟩:Shared).TypeIs (.ref a) "re.Match":=⟨_,hx,rfl⟩;have hT5:(⟨h,g,d,t,os⟩:Shared).TypeIs (.builtin "re.Match.string") "member_descriptor":=m7;have f4:=Ed;have f5:=m7;have f6:=m6.lookup;have f7:=DQ.lookup
 repeat (any_goals (first | assumption | wp_step))
 refine yF hx ?_
 repeat (any_goals (first | assumption | wp_step))
theorem yH{tk:Tok}{R:Result->Shared->Prop}(hx:h.get? a=some (cC x1 x2 x3 x4 x5 x6))(hq:R (.ok (.ret x1)) ⟨h,g,d,t,os⟩) :
  codeAny (model prog w) A (.call (.builtin "object.__getattribute__") ⟨[.ref a,.str "string" tk],[]⟩) R ⟨h,g,d,t,os⟩ :=
 codeAny_call_builtin jJ.plain G5 (jJ.check _ _ _ _ _ _ _ _ (show(⟨h,g,d,t,os⟩:Shared).TypeIs (.ref a) "re.Match" from⟨_,hx,rfl⟩) (G6 _ _) (yG hx hq))
set_option maxHeartbeats 800000 in
theorem yI{tk k0:Tok}{t0:Str}{fill ex:Bool}{Q:Value->Shared->Prop}(hx:h.get? a=some (cC (.str t0 k0) x2 x3 x4 x5 x6))(hq:Q (.str t0 k0) ⟨h,g,d,t,os⟩):wpAny (model prog w) A (getAttrBy (.ref a) (.str "string" tk) fill ex) Q E ⟨h,g,d,t,os⟩:=by
 have hT:(⟨h,g,d,t,os⟩:Shared).TypeIs (.ref a) "re.Match":=⟨_,hx,rfl⟩;have f2:=jJ.lookup;have f3:=jJ.bind (.ref a);cases ex
 all_goals
  repeat (any_goals (first | assumption | wp_step))
  refine yH hx ?_
  repeat (any_goals (first | assumption | wp_step))
end
section
variable{c:Cx}{g:Glb}{b:Nat}{σ τ:Sg}{e l r x y t elt iter:Expr}{es as:List Expr}{u v w d:V}{vs ws xs ys zs:List V}{p q px:Pos}{k j:Bool}{n:Nat}{nm m:Str}
theorem lE{vs:List Value}{ss:List Str}(a:StrsAre vs ss):∃l:List (Str × Tok),vs=strValues l/\l.map (·.1)=ss:=by
 induction a with
 | nil=>exact⟨[],rfl,rfl⟩
 | cons x t _ ih =>
  obtain⟨l,e1,e2⟩:=ih;exact⟨(x,t)::l,by rw[e1];rfl,by rw[Li,e2]⟩
noncomputable def bc(s:Str)(l:List Str):Nat:=(l.map (·.length)).sum+l.length*s.length
namespace Mp
theorem str{s:Str}{id:String}(slot:Slot "str" m id)(ty:typeOf (.builtin id)=pure (.type "method_descriptor"))(h:∀(N:Now c b σ) (t:Tok) xs E,IsL c.D N.γ N.P xs vs->N.wp (call (.builtin id) (.str s t::xs)) (N.Ev v) E):Mp c b σ (.str s) m vs v:=λN u hu=>by
 obtain⟨t,rfl⟩:=hu.str_inv;exact⟨"str",id,⟨F.plainAttrs_str,slot,ty,typeIs_str _ _ _,λ_ e=>by cases e⟩,λP' s' a xs E is=>h (N.go a) t xs E is⟩
theorem rstrip{s:Str}(hz:s.cps.toList.length<=16777216):Mp c b σ (.str s) "rstrip" [] (.str (Txt.rstrip s)):=str F.slot_str_rstrip F.type_str_rstrip λN t xs E is=>by
 obtain rfl:=is.zero;exact PySem.SC.rstrip (λ_ _=>N.str _ _ _) (by show s.cps.size<=16777216;simpa using hz)
theorem lstrip{s:Str}(hz:s.cps.toList.length<=16777216):Mp c b σ (.str s) "lstrip" [] (.str (Txt.lstrip s)):=str F.slot_str_lstrip F.type_str_lstrip λN t xs E is=>by
 obtain rfl:=is.zero;exact PySem.SC.lstrip (λ_ _=>N.str _ _ _) (by show s.cps.size<=16777216;simpa using hz)
theorem startswith{s y:Str}:Mp c b σ (.str s) "startswith" [.str y] (.bool (Txt.startswith s y)):=str F.slot_str_startswith F.type_str_startswith λN t xs E is=>by
 obtain⟨_,rfl,h1⟩:=is.one;obtain⟨u,rfl⟩:=h1.str_inv;exact PySem.SC.startswith (N.bool _)
theorem join{s:Str}{ss:List Str}(hq:Seq c b σ false u xs)(h:txts xs=some ss)(hz:bc s ss<=16777216):Mp c b σ (.str s) "join" [u] (.str (Txt.join s ss)):=str F.slot_str_join F.type_str_join λN t ys E is=>by
 obtain⟨_,rfl,h1⟩:=is.one;obtain⟨a,vs,n,rfl,p,ho⟩:=hq N _ h1;obtain⟨k,e1,e2⟩:=lE (gQ p h);refine SC.join (l:=k) ⟨_,ho,rfl,n,?_⟩ e2 (joinOk_of hz) λt' k=>N.str _ _ _;rw[<-e1]
theorem group{re t:Str}{sp:List (Nat × Nat)}{p:Nat × Nat}(hp:sp[1]?=some p)(hl:(aC t p).length<=16777216):Mp c b σ (.mat re t sp) "group" [.int 1] (.str (mkS (aC t p))):=λN u hu=>by
 obtain⟨a,b',tk,pat,x1,x2,x3,n,rfl,e1,e2,e3⟩:=hu.mat_inv;refine⟨_,_,⟨sJ,sE,DY,⟨_,N.S.real.le _ _ e1,rfl⟩,λa' e=>by cases e;exact⟨_,N.S.real.le _ _ e1,rfl⟩⟩,λP' s' ae xs E is=>?_⟩
 obtain⟨_,rfl,h1⟩:=is.one;obtain⟨u,rfl⟩:=h1.int_inv;exact Ef ((N.go ae).S.real.le _ _ (ae.gr.le _ _ e1)) ((N.go ae).S.real.le _ _ (ae.gr.le _ _ e3)) hp hl λk k'=>(N.go ae).str _ _ _
theorem span{re t:Str}{sp:List (Nat × Nat)}{p:Nat × Nat}(hp:sp[0]?=some p):Mp c b σ (.mat re t sp) "span" [.int 0] (.tup [.int p.1,.int p.2]):=λN u hu=>by
 obtain⟨a,b',tk,pat,x1,x2,x3,n,rfl,e1,e2,e3⟩:=hu.mat_inv;refine⟨_,_,⟨sJ,sy,DX,⟨_,N.S.real.le _ _ e1,rfl⟩,λa' e=>by cases e;exact⟨_,N.S.real.le _ _ e1,rfl⟩⟩,λP' s' ae xs E is=>?_⟩
 obtain⟨_,rfl,h1⟩:=is.one;obtain⟨u,rfl⟩:=h1.int_inv;refine Ec ((N.go ae).S.real.le _ _ (ae.gr.le _ _ e1)) ((N.go ae).S.real.le _ _ (ae.gr.le _ _ e3)) hp λk1 k2 k3=>?_;exact jU (vs:=[.int p.1 k1,.int p.2 k2]) (N.go ae).S (.cons (.int _ _) (.cons (.int _ _) .nil)) k3
end Mp
theorem oJ{e:Expr}{a:Str}{p:Pos}{env:Env}(hb:baseOk e=true):eval (.Attribute e a p) env=(do
   let o <- eval e env
   standAt p.atName
   let r <- holding [o] (getAttr o a true)
   letTemporaryGo e o r
   pure r):=by
 have ee:eval (.Attribute e a p) env=(do
   let o <- attributeBase e a env (eval e env)
   standAt p.atName
   let r <- holding [o] (getAttr o a true)
   letTemporaryGo e o r
   pure r):=rfl
 rw[ee,wk hb]
theorem R.attrM{re t:Str}{sp:List (Nat × Nat)}(hb:baseOk e=true)(he:REv c b σ e (.mat re t sp)):REv c b σ (.Attribute e "string" p) (.str t):=λN E=>by
 show wpAny c.M N.A _ _ _ _;rw[oJ hb];refine wpAny_bind (he.then N λP1 s1 a1 xa ia=>wpAny_bind (wpAny_standAt (wpAny_bind (wpAny_holding ?_))));obtain⟨x,b',tk,pat,x1,x2,x3,n,rfl,e1,e2,e3⟩:=ia.mat_inv;unfold getAttr;exact wpAny_bind (wpAny_mkText (yI (a1.st.real.le _ _ e1) (wpAny_bind (wpAny_letTemporaryGo (wpAny_pure (((N.go a1).str _ _ _).after a1))))))
end
end
section
theorem Do{h₀ h h':Heap}(K:OldK h₀ h)(hs:∀b o,h₀.get? b=some o->h'.get? b=h.get? b):OldK h₀ h':=by
 refine⟨λb o e=>?_,λb o e=>let ⟨o',ho'⟩:=K.there b o e;⟨o',(hs b o e).trans ho'⟩⟩;rcases K.old b o e with x | ⟨t,hc,vs,more,hv,x⟩ | ⟨rfl,hc,⟨o',es,n,ho',r⟩,z⟩
 ·exact .inl ((hs b o e).trans x)
 ·exact .inr (.inl ⟨t,hc,vs,more,hv,(hs b o e).trans x⟩)
 ·exact .inr (.inr ⟨rfl,hc,⟨o',es,n,(hs _ o e).trans ho',r⟩,λkey=>by rw[OldK.staticOf_congr (hs _ o e) key];exact z key⟩)
structure Act(c:Cx)(fr:List Env)(γ:Gh)(P0:Frz)(s0:Shared)(P:Frz)(s:Shared)(cs:List Cell):Prop where
 since:bH c fr γ P0 s0 P s cs
 base:∀i,i<γ.k->s0.heap.get? (γ.ρ i)=none
 kb:Keep c.hb s0.heap
section
variable{c:Cx}{g:Glb}{A:Around}{fr:List Env}{γ γ':Gh}{P0 P P':Frz}{s0 s s':Shared}{cs cs':List Cell}{E:Value->Shared->Prop}{b:Nat}{env:Env}{σ τ:Sg}{l:Lv}{lr:List Lv}{L:Addr}
theorem Act.st(X:Act c fr γ P0 s0 P s cs):St c fr γ P s cs:=X.since.st
theorem Act.aft(X:Act c fr γ P0 s0 P s cs)(a:Aft c fr γ P s cs P' s'):Act c fr γ P0 s0 P' s' cs:=⟨X.since.aft a,X.base,X.kb⟩
theorem Act.turn(hB:Wd c c.hb)(X:Act c fr γ P0 s0 P s cs){i:Nat}(t:Turn c γ P s cs' i s'):Act c fr γ P0 s0 P s' cs' :=
 ⟨X.since.turn hB X.kb (X.base i t.lt) t,X.base,X.kb⟩
theorem Hd{hb h h':Heap}(x:Frs hb h fr){a:Addr}{o:Obj}(ho:h.get? a=some o)(hc:∀es ep,o.data≠.dict es ep)(hs:∀b o,b≠a->h.get? b=some o->h'.get? b=some o):Frs hb h' fr:=λe he=>by
 obtain⟨h1,L,o',h2,h3,h4,h5,es,ep,h6⟩:=x e he;refine⟨h1,L,o',h2,h3,hs L o' (λq=>?_) h4,h5,es,ep,h6⟩;subst q;rw[ho] at h4;cases h4;exact hc es ep h6
theorem Act.but(hB:Wd c c.hb)(X:Act c fr γ P0 s0 P s cs){a:Addr}{o:Obj}(hb:aF c γ P s0.heap a)(ho:s.heap.get? a=some o)(hc:∀es ep,o.data≠.dict es ep){h':Heap}{t:Nat}
  (hs:∀b o,b≠a->s.heap.get? b=some o->h'.get? b=some o) (hn:b7 s.heap a):Act c fr γ P0 s0 P {s with heap:=h',toks:=t} cs :=
 ⟨⟨X.since.gr,⟨fj X.since.ext.keep hb.z hs hn,λo=>mQ (X.since.ext.old o) hb.b hs,X.since.ext.gens,X.since.ext.os⟩,
  ⟨X.st.real.but hb.p hb.n hs,hB.keep (fj X.st.wd.bk hb.b hs hn),Hd X.st.frs ho hc hs⟩⟩,X.base,X.kb⟩
theorem Act.slots(X:Act c fr γ P0 s0 P s cs){h':Heap}(hs:Heap.SlotsOnly (fr.filterMap (·.frame)) s.heap h'):Act c fr γ P0 s0 P {s with heap:=h' } cs:=by
 have isFrame:∀b,b∈fr.filterMap (·.frame)->c.hb.get? b=none/\∃o,s.heap.get? b=some o/\o.cls=.type "frame":=λb hb=>by
  obtain⟨e,he,hf⟩:=List.mem_filterMap.mp hb;obtain⟨_,L,o,h2,h3,h4,h5,_⟩:=X.st.frs e he;rw[hf] at h2;cases h2;exact⟨h3,o,h4,h5⟩
 have kp:Keep s.heap h':=⟨λb o e=>by
  by_cases hb:b∈fr.filterMap (·.frame)
  ·obtain⟨sl,e'⟩:=hs.2.2 b o e
   obtain⟨_,o1,e1,c1⟩:=isFrame b hb;rw[e] at e1;cases e1;exact⟨_,e',.inr (.inl ⟨c1,rfl,rfl,rfl⟩)⟩
  ·exact⟨o,(hs.2.1 b hb).trans e,.inl rfl⟩⟩
 have le':∀b o,P b=some o->h'.get? b=some o:=λb o e=>kp.exact (X.st.real.le b o e) (X.st.real.kind b o e).1 (X.st.real.kind b o e).2;refine X.aft ⟨.refl _ _,⟨X.st.real.keep (.refl _ _) kp le' X.st.real.kind,X.st.wd.keep kp,X.st.frs.keep kp⟩,⟨kp,λo=>Do o λb o e=>hs.2.1 b λhb=>?_,.refl _,rfl⟩⟩;rw[(isFrame b hb).1] at e;cases e
theorem Act.push(X:Act c fr γ P0 s0 P s cs)(o:Obj)(t:Nat):Act c fr γ P0 s0 P {s with heap:=s.heap.push o,toks:=t} cs:=X.aft (.side X.st o t)
def iV(c:Cx)(γ:Gh)(s0:Shared)(P:Frz)(s:Shared)(L:Addr)(k:String)(x:Value):Prop :=
 ∃e ob vs,x=.ref e/\aF c γ P s0.heap e/\s.heap.get? e=some ob/\ob.cls=.type k/\ob.data=.fields vs /\
  (vs[1]?=some .none∨∃T oT ts,vs[1]?=some (.ref T)/\T≠e/\aF c γ P s0.heap T/\s.heap.get? T=some oT/\oT.cls=.type "traceback"/\oT.data=.fields ts/\ts[3]?=some (rawInt L))
def Held(c:Cx)(γ:Gh)(s0:Shared)(P:Frz)(s:Shared)(fl:Value)(k:String)(x:Value):Prop :=
 ∃e ob vs,x=.ref e/\aF c γ P s0.heap e/\s.heap.get? e=some ob/\ob.cls=.type k/\ob.data=.fields vs /\
  ∃T oT ts,vs[1]?=some (.ref T)/\T≠e/\aF c γ P s0.heap T/\s.heap.get? T=some oT/\oT.cls=.type "traceback"/\oT.data=.fields ts/\ts[3]?=some fl
theorem Held.thrown{L:Addr}{k:String}{x:Value}(h:Held c γ s0 P s (rawInt L) k x):iV c γ s0 P s L k x :=
 let ⟨e,ob,vs,h1,h2,h3,h4,h5,h6⟩:=h;⟨e,ob,vs,h1,h2,h3,h4,h5,.inr h6⟩
theorem iR(X:Act c fr γ P0 s0 P s cs){a:Addr}(ha:s.heap.get? a=none):aF c γ P s0.heap a:=by
 refine⟨?_,λi hi q=>?_,X.since.ext.keep.gone ha,X.st.wd.bk.gone ha⟩
 ·cases q:P a with
  | none=>rfl
  | some o=>have:=X.st.real.le _ _ q;rw[ha] at this;cases this
 ·obtain⟨o,e⟩:=X.st.real.there hi
  rw[q,ha] at e;cases e
theorem uv{hb h:Heap}:∀ {l:List Env},Frs hb h l->h.FunFrames hb l:=by
 intro l_
 induction l_ with
 | nil=>exact λ_=>trivial
 | cons e r ih =>
  intro x;obtain⟨h1,L,o,h2,h3,h4,_,es,ep,h6⟩:=x e (.head _);exact⟨h1,⟨L,o,h2,h3,h4,λvs q=>by rw[h6] at q;cases q⟩,ih λe he=>x e (.tail _ he)⟩
theorem mV(hB:Wd c c.hb){rest:List Env}{L:Addr}(hfr:A.frames=some (env::rest))(hf:env.frame=some L)(X:Act c (env::rest) γ P0 s0 P s cs){k:String}{x:Value}(hx:iV c γ s0 P s L k x)
  {Q:Unit->Shared->Prop} (hQ:∀h',Act c (env::rest) γ P0 s0 P {s with heap:=h' } cs->Held c γ s0 P {s with heap:=h' } (rawInt L) k x->Q () {s with heap:=h' }):wpAny c.M A (noteFrame x env) Q E s:=by
 obtain⟨e,ob,vs,rfl,be,he,hc,hd,h1⟩:=hx;rcases h1 with h1 | ⟨T,oT,ts,h1,hTe,bT,hT,cT,dT,h3⟩
 ·unfold noteFrame
  simp only[hf];refine wpAny_bind (wpAny_field he hd h1 ?_);rw[if_neg (by decide)]
  refine wpAny_bind (wpAny_frameOf_fun hfr (uv X.st.frs) hf λh₁ hs₁=>?_);have X1:=X.slots hs₁;have hsz:1<vs.size:=(Q9.mp h1).1;have he₁:h₁.get? e=some ob:=by
   refine(hs₁.2.1 e λhm=>?_).trans he;obtain⟨_,o',e',_⟩:=(uv X.st.frs).mem hm;rw[he] at e';cases e';rename_i q;exact q vs hd
  refine wpAny_bind (wpAny_entryPlaceOf λpl hpl=>?_);unfold EntryCells.newEntry newFields;refine wpAny_bind (wpAny_newObj_type ?_ (hpl.sizeOk5 _ _ _ _ _));generalize hoT:({cls:=.type "traceback",dict:=none,data:=.fields ([Value.none,.ref L,.none,rawInt L,.none]++(if pl.isEmpty then Mg 6 Value.none else pl)).toArray}:Obj)=oT;have X2:=X1.push oT s.toks;have he₂:=Heap.get?_push_of_some (h:=h₁) oT he₁;have bT:aF c γ P s0.heap h₁.objs.size:=iR X1 (aU _);have hTe:h₁.objs.size≠e:=Nq (Heap.lt_size he₁);have eT:(h₁.push oT).get? h₁.objs.size=some oT:=Heap.get?_push_size _ (by rw[<-hoT];rfl)
  refine wpAny_setField he₂ hd hsz ?_;have hd₃:=Obj.data_mapFields hd (·.setIfInBounds 1 (Value.ref h₁.objs.size));have X3:=X2.but hB be he₂ (λes ep q=>by rw[hd] at q;cases q) (t:=s.toks) (h':=(h₁.push oT).update e (Obj.mapFields (·.setIfInBounds 1 (Value.ref h₁.objs.size)))) (λb o hb e'=>by
   rw[Heap.get?_update_other _ _ (Ne.symm hb)];exact e') λ⟨_,oc,ws,_,_,z1,z2,_,z4,z5⟩=>by
   cases z1;rw[he₂] at z2;cases z2;rw[hd] at z4;cases z4;rw[h1] at z5;cases z5
  have he₃:=Heap.get?_update_self (Obj.mapFields (·.setIfInBounds 1 (Value.ref h₁.objs.size))) he₂ (Obj.isFreed_of_fields hd₃);refine hQ _ X3 ⟨e,_,_,rfl,be,he₃,(Obj.cls_mapFields _ _).trans hc,hd₃,h₁.objs.size,oT,_,by simp[hsz],hTe,bT,?_,by rw[<-hoT],by rw[<-hoT],?_⟩
  ·exact(Heap.get?_update_other _ _ (Ne.symm hTe)).trans eT
  ·rcases hpl with rfl | ⟨_,_,_,_,_,_,_,rfl⟩ <;> simp
 ·refine wpAny_noteFrame_inFlight hf he hd h1 hT dT h3 ?_
  exact hQ s.heap X ⟨e,ob,vs,rfl,be,he,hc,hd,T,oT,ts,h1,hTe,bT,hT,cT,dT,h3⟩
end
section
variable{c:Cx}{g:Glb}{A:Around}{fr rest:List Env}{γ γ':Gh}{P0 P P':Frz}{s0 s s':Shared}{cs cs':List Cell}{E:Value->Shared->Prop}{b:Nat}{env:Env}{σ σ' τ:Sg}{l:Lv}{lr:List Lv}{L:Addr}
theorem yg(X:Act c fr γ P0 s0 P s cs){k:String}{x:Value}(h:eE c fr γ P s cs k x s'):∃P',Act c fr γ P0 s0 P' s' cs/\iV c γ s0 P' s' L k x:=by
 obtain⟨e,P',rfl,a,hn,hp,ob,t,h1,h2,h3⟩:=h;refine⟨P',X.aft a,e,ob,_,rfl,⟨hp,λi hi q=>?_,X.since.ext.keep.gone hn,X.st.wd.bk.gone hn⟩,h1,h2,h3,.inl rfl⟩;obtain⟨o,e'⟩:=X.st.real.there hi;rw[q,hn] at e';cases e'
theorem jx(hB:Wd c c.hb)(X:Act c fr γ P0 s0 P s cs){k:String}{x fl:Value}(hx:Held c γ s0 P s fl k x)(f:Option Addr){Q:Unit->Shared->Prop}
  (hQ:∀h',Act c fr γ P0 s0 P {s with heap:=h' } cs->Held c γ s0 P {s with heap:=h' } (f.elim .none λf=>rawInt f) k x->Q () {s with heap:=h' }):wpAny c.M A (setFlight x f) Q E s:=by
 obtain⟨e,ob,vs,rfl,be,he,hc,hd,T,oT,ts,h1,hTe,bT,hT,cT,dT,h3⟩:=hx;have hsz3:3<ts.size:=(Q9.mp h3).1;unfold setFlight;refine wpAny_bind (wpAny_field he hd h1 ?_);rw[if_pos (show(Value.ref T != Value.none)=true from by simp)]
 refine wpAny_setField hT dT hsz3 ?_;have X3:=X.but hB bT hT (λes ep q=>by rw[dT] at q;cases q) (t:=s.toks) (h':=s.heap.update T (Obj.mapFields (·.setIfInBounds 3 (f.elim Value.none λf=>rawInt f)))) (λb o hb e'=>by
  rw[Heap.get?_update_other _ _ (Ne.symm hb)];exact e') (.cls hT (by rw[cT];exact tyC (by decide)))
 have dT':=Obj.data_mapFields dT (·.setIfInBounds 3 (f.elim Value.none λf=>rawInt f));refine hQ _ X3 ⟨e,ob,vs,rfl,be,?_,hc,hd,T,_,_,h1,hTe,bT,Heap.get?_update_self _ hT (Obj.isFreed_of_fields dT'),(Obj.cls_mapFields _ _).trans cT,dT',by simp[hsz3]⟩
 exact(Heap.get?_update_other _ _ hTe).trans he
theorem Jq(hB:Wd c c.hb)(hf:env.frame=some L)(X:Act c fr γ P0 s0 P s cs){k:String}{x:Value}(hx:Held c γ s0 P s (rawInt L) k x){E:Value->Shared->Prop}
  (hE:∀h',Act c fr γ P0 s0 P {s with heap:=h' } cs->iV c γ s0 P {s with heap:=h' } L k x->E x {s with heap:=h' }):cameBackBy c.M A env E x s:=by
 unfold cameBackBy;have hx':=hx;obtain⟨e,ob,vs,rfl,be,he,hc,hd,T,oT,ts,h1,_⟩:=hx';refine wpAny_bind (wpAny_field he hd h1 ?_);rw[if_neg (show ¬ ((Value.ref T==Value.none)=true) from by simp)]
 refine jx hB X hx env.frame λh' X' H'=>hE h' X' ?_;rw[hf] at H';exact H'.thrown
end
noncomputable def Frz.less(P:Frz)(W:List Addr):Frz:=λb=>if b∈W then none else P b
noncomputable def Frz.over(P:Frz)(W:List Addr)(h:Heap):Frz:=λb=>if b∈W then h.get? b else P b
theorem jK{P:Frz}{W:List Addr}{b:Addr}{o:Obj}(h:P b=some o)(hb:b∉W):P.less W b=some o:=by unfold Frz.less;rw[if_neg hb];exact h
theorem m8{P:Frz}{W:List Addr}{b:Addr}{o:Obj}(h:P.less W b=some o):P b=some o/\b∉W:=by
 unfold Frz.less at h;split at h
 ·cases h
 ·rename_i q;exact⟨h,q⟩
section
variable{P:Frz}{W:List Addr}(hW:∀b∈W,∀o,P b=some o->aZ o)
include hW
theorem eY{b:Addr}{o:Obj}{n:String}(h:P b=some o)(e:o.cls=.type n)(hn:n∉walkers):P.less W b=some o :=
 jK h λhb=>(hW b hb o h).not e hn
theorem Pu.less{v:Value}{d:V}(h:Pu P v d):Pu (P.less W) v d :=
 Pu.rec (motive_1:=λv d _=>Pu (P.less W) v d) (motive_2:=λvs ds _=>PuL (P.less W) vs ds) .none .bool .int .str (λe _ q=>.lst (eY hW e rfl (by decide)) q) (λe _ q=>.tup (eY hW e rfl (by decide)) q) .nil (λ_ _ a b=>.cons a b) h
theorem PuL.less{vs:List Value}{ds:List V}(h:PuL P vs ds):PuL (P.less W) vs ds :=
 PuL.rec (motive_1:=λv d _=>Pu (P.less W) v d) (motive_2:=λvs ds _=>PuL (P.less W) vs ds) .none .bool .int .str (λe _ q=>.lst (eY hW e rfl (by decide)) q) (λe _ q=>.tup (eY hW e rfl (by decide)) q) .nil (λ_ _ a b=>.cons a b) h
theorem Is.less{D:Dc}{γ:Gh}{v:Value}{d:V}(h:Is D γ P v d):Is D γ (P.less W) v d:=by
 cases h with
 | pu h=>exact .pu (h.less hW)
 | ty=>exact .ty _
 | bi _ h=>exact .bi _ h
 | gl h=>exact .gl h
 | own h=>exact .own h
 | obj h e=>exact .obj h (jK e λhb=>by
   obtain⟨n,q,_⟩:=hW _ hb _ e;cases q)
 | mat h e f=>exact .mat (eY hW h rfl (by decide)) e (eY hW f rfl (by decide))
 | deq h=>exact .deq (eY hW h rfl (by decide))
theorem Real.less{D:Dc}{γ:Gh}{h:Heap}{cs:List Cell}(R:Real D γ P h cs):Real D γ (P.less W) h cs:=by
 refine⟨R.k,λi c e=>?_,R.inj,λi c e hd=>?_,λb o e=>R.le b o (m8 e).1,λb o e=>R.kind b o (m8 e).1⟩
 ·have:=R.cell i c e
  cases c with
  | vars l=>obtain⟨o,es,ep,h1,h2,h3,h4⟩:=this;exact⟨o,es,ep,h1,h2,h3,λx v q=>let ⟨r,a,b⟩:=h4 x v q;⟨r,a,b.less hW⟩⟩
  | cell v=>obtain⟨r,h1,h2⟩:=this;exact⟨r,h1,λd q=>let ⟨x,a,b⟩:=h2 d q;⟨x,a,b.less hW⟩⟩
  | list l=>obtain⟨vs,n,h1,h2⟩:=this;exact⟨vs,n,h1,h2.less hW⟩
  | inst c l=>obtain⟨h0,es,ep,h1,h2,h3,h4⟩:=this;exact⟨h0,es,ep,h1,h2,λx v q=>let ⟨r,a,b⟩:=h3 x v q;⟨r,a,b.less hW⟩,h4⟩
  | dead=>exact this
 ·have:=R.off i c e hd
  unfold Frz.less;split
  ·rfl
  ·exact this
end
section
variable{c:Cx}{fr:List Env}{γ γ':Gh}{P0 P P':Frz}{s0 s s':Shared}{cs cs':List Cell}{W:List Addr}
theorem Act.rebase(X:Act c fr γ P0 s0 P s cs):Act c fr γ P s0 P s cs:=⟨⟨.refl _ _,X.since.ext,X.since.st⟩,X.base,X.kb⟩
theorem Act.under(X:Act c fr γ P s0 P' s cs)(g:Gr P0 P s0.heap):Act c fr γ P0 s0 P' s cs:=⟨⟨g.trans X.since.gr (.refl _),X.since.ext,X.since.st⟩,X.base,X.kb⟩
theorem rH(h:∀b∈W,P b=none)(hp:Heap):FLe P (P.over W hp):=λb o e=>by
 unfold Frz.over;rw[if_neg λhb=>by rw[h b hb] at e;cases e]
 exact e
theorem Act.freeze(X:Act c fr γ P0 s0 P s cs)(hb:∀b∈W,aF c γ P s0.heap b)(hw:∀b∈W,∃o,s.heap.get? b=some o/\aZ o):Act c fr γ P0 s0 (P.over W s.heap) s cs:=by
 have fl:=rH (λb h=>(hb b h).p) s.heap;have le':∀b o,P.over W s.heap b=some o->s.heap.get? b=some o:=λb o e=>by
  unfold Frz.over at e;split at e
  ·exact e
  ·exact X.st.real.le b o e
 have kd:∀b o,P.over W s.heap b=some o->o.cls≠.type "frame"/\o.cls≠.none:=λb o e=>by
  unfold Frz.over at e;split at e
  ·rename_i h
   obtain⟨o',e',w⟩:=hw b h;rw[e] at e';cases e';exact w.kind
  ·exact X.st.real.kind b o e
 refine⟨⟨⟨X.since.gr.le.trans fl,λb o e=>?_⟩,X.since.ext,⟨⟨X.st.real.k,λi c e=>(X.st.real.cell i c e).keep fl (.refl _),X.st.real.inj,λi c e hd=>?_,le',kd⟩,X.st.wd,X.st.frs⟩⟩,X.base,X.kb⟩
 ·unfold Frz.over at e
  split at e
  ·rename_i h;exact .inr (hb b h).z
  ·exact X.since.gr.new b o e
 ·have hi:i<γ.k:=by rw[X.st.real.k];exact(Ld.mp e).1
  unfold Frz.over;rw[if_neg λh=>(hb _ h).n i hi rfl];exact X.st.real.off i c e hd
theorem Act.thaw(X:Act c fr γ P0 s0 P s cs)(hw:∀b∈W,∃o,P b=some o/\aZ o)(h0:∀b∈W,P0 b=none):Act c fr γ P0 s0 (P.less W) s cs:=by
 have hW:∀b∈W,∀o,P b=some o->aZ o:=λb hb o e=>by
  obtain⟨o',e',w⟩:=hw b hb;rw[e] at e';cases e';exact w
 refine⟨⟨⟨λb o e=>jK (X.since.gr.le b o e) (λhb=>by rw[h0 b hb] at e;cases e),λb o e=>X.since.gr.new b o (m8 e).1⟩,X.since.ext,⟨X.st.real.less hW,X.st.wd,X.st.frs⟩⟩,X.base,X.kb⟩
end
section
variable{c:Cx}{g:Glb}{A:Around}{fr rest:List Env}{γ γ':Gh}{P0 P P':Frz}{s0 s s':Shared}{cs cs':List Cell}{E:Value->Shared->Prop}{b:Nat}{env:Env}{σ σ' τ:Sg}{l:Lv}{lr:List Lv}{L:Addr}
theorem Hc{hb h h':Heap}(x:Frs hb h fr){W:List Addr}(hc:∀a∈W,∃o,h.get? a=some o/\aZ o)(hs:∀b o,b∉W->h.get? b=some o->h'.get? b=some o):Frs hb h' fr:=λe he=>by
 obtain⟨h1,L,o',h2,h3,h4,h5,es,ep,h6⟩:=x e he;refine⟨h1,L,o',h2,h3,hs L o' (λq=>?_) h4,h5,es,ep,h6⟩;obtain⟨o,e1,w⟩:=hc L q;rw[h4] at e1;cases e1;exact w.kind.1 h5
theorem Act.walk(hB:Wd c c.hb)(X:Act c fr γ P0 s0 P s cs){W:List Addr}(hb:∀b∈W,aF c γ P s0.heap b)(hw:∀b∈W,∃o,s.heap.get? b=some o/\aZ o){h':Heap}{t:Nat}
  (hs:∀b o,b∉W->s.heap.get? b=some o->h'.get? b=some o):Act c fr γ P0 s0 P {s with heap:=h',toks:=t} cs:=by
 have keepW:∀ {hh:Heap},(∀b∈W,hh.get? b=none)->Keep hh s.heap->Keep hh h':=λhn k=>⟨λb o e=>by
  obtain⟨o',e',q⟩:=k.sim b o e;exact⟨o',hs b o' (λh=>by rw[hn b h] at e;cases e) e',q.walk hs λb hb=>by
   obtain⟨o,e,w⟩:=hw b hb;exact .cls e λq=>w.not q (by decide)⟩⟩
 have old:OldK c.hb s.heap->OldK c.hb h':=λK=>by
  have ne:∀b o,c.hb.get? b=some o->b∉W:=λb o e q=>by rw[(hb b q).b] at e;cases e
  refine⟨λb o e=>?_,λb o e=>let ⟨o',ho'⟩:=K.there b o e;⟨o',hs b o' (ne b o e) ho'⟩⟩;rcases K.old b o e with x | ⟨t,hc,vs,more,hv,x⟩ | ⟨rfl,hc,⟨o',es,n,ho',r⟩,z⟩
  ·exact .inl (hs _ _ (ne b o e) x)
  ·exact .inr (.inl ⟨t,hc,vs,more,hv,hs _ _ (ne b o e) x⟩)
  ·have q:=hs _ _ (ne _ o e) ho'
   exact .inr (.inr ⟨rfl,hc,⟨o',es,n,q,r⟩,λkey=>by rw[OldK.staticOf_congr (q.trans ho'.symm) key];exact z key⟩)
 have R:=X.st.real;refine⟨⟨X.since.gr,⟨keepW (λb h=>(hb b h).z) X.since.ext.keep,λK=>old (X.since.ext.old K),X.since.ext.gens,X.since.ext.os⟩,⟨⟨R.k,λj d e=>?_,R.inj,R.off,λb o e=>hs b o (λq=>by rw[(hb b q).p] at e;cases e) (R.le b o e),R.kind⟩,
  hB.keep (keepW (λb h=>(hb b h).b) X.st.wd.bk),Hc X.st.frs hw hs⟩⟩,X.base,X.kb⟩
 have hj:j<γ.k:=by rw[R.k];exact(Ld.mp e).1
 have nj:γ.ρ j∉W:=λq=>(hb _ q).n j hj rfl;have:=R.cell j d e;cases d with
 | vars l=>obtain⟨o,es,ep,e,r⟩:=this;exact⟨o,es,ep,hs _ _ nj e,r⟩
 | cell v=>obtain⟨r,e,f⟩:=this;exact⟨r,hs _ _ nj e,f⟩
 | list l=>obtain⟨vs,n,e,f⟩:=this;exact⟨vs,n,hs _ _ nj e,f⟩
 | inst c l=>obtain⟨z,es,ep,e,f⟩:=this;exact⟨z,es,ep,hs _ _ nj e,f⟩
 | dead=>obtain⟨vs,n,e⟩:=this;exact⟨vs,n,hs _ _ nj e⟩
theorem Act.set(hB:Wd c c.hb)(X:Act c (env::rest) γ P0 s0 P s σ.cs)(hl:σ.lv=l::lr)(he:aM c γ env l){x:Str}{d:V}{v:Value}(hv:Is c.D γ P v d)(h:Sv x d σ σ'){Q:Unit->Shared->Prop}
  (hQ:∀s',Act c (env::rest) γ P0 s0 P s' σ'.cs->σ'.lv=σ.lv->(∀b o,(∀i,i<γ.k->γ.ρ i≠b)->s.heap.get? b=some o->s'.heap.get? b=some o)->Q () s'):wpAny c.M A (storeName env x v) Q E s :=
 jw X.st hl he hv h λi s' t hlv _=>hQ s' (X.turn hB t) hlv λb o hb e=>(t.same.2 b λq=>hb i t.lt q.symm).trans e
theorem Act.kept(X:Act c fr γ P0 s0 P s cs){h':Heap}{t:Nat}(hk:∀b o,s.heap.get? b=some o->h'.get? b=some o):Act c fr γ P0 s0 P {s with heap:=h',toks:=t} cs:=by
 have kp:Keep s.heap h':=.of_keeps hk;exact X.aft ⟨.refl _ _,⟨X.st.real.keep (.refl _ _) kp (λb o q=>hk b o (X.st.real.le b o q)) X.st.real.kind,X.st.wd.keep kp,X.st.frs.keep kp⟩,⟨kp,λo=>o.step_keeps hk,.refl _,rfl⟩⟩
theorem Act.pair0(hB:Wd c c.hb)(hA:Am c A (env::rest) b)(X:Act c (env::rest) γ P0 s0 P s σ.cs)(hl:σ.lv=l::lr)(he:aM c γ env l){x y:Str}{px py p:Pos}{k:Nat}{d1 d2:V}{v1 v2:Value}{T:Addr}(hT:s.heap.IsTuple T #[v1,v2])(h1:Is c.D γ P v1 d1)(h2:Is c.D γ P v2 d2)
  (e1:Sv x d1 σ τ) (e2:Sv y d2 τ σ') {Q:Unit->Shared->Prop}
  (hQ:∀s',Act c (env::rest) γ P0 s0 P s' σ'.cs->(∀b o,(∀i,i<γ.k->γ.ρ i≠b)->s.heap.get? b=some o->s'.heap.get? b=some o)->Q () s') :
  wpAny c.M A (assign (.Tuple [.Name x px,.Name y py] k p) env (.ref T)) Q E s:=by
 refine wpAny_assign_Tuple hA.handled hT rfl rfl λh' hx=>?_;have hk:∀b o,s.heap.get? b=some o->h'.get? b=some o:=λb o e=>hx b o (Mu (Heap.lt_size e)) e;have X1:=X.kept (t:=s.toks) hk;show wpAny c.M A (do holding [v2] (assign (.Name x px) env v1);(do holding [] (assign (.Name y py) env v2);pure ())) _ _ _
 refine wpAny_bind (wpAny_holding (wpAny_assign_Name (X1.set hB hl he h1 e1 λs1 X2 lv1 k1=>?_)));exact wpAny_bind (wpAny_holding (wpAny_assign_Name (X2.set hB (lv1.trans hl) he h2 e2 λs2 X3 lv2 k2=>wpAny_pure (hQ s2 X3 λb o hb e=>k2 b o hb (k1 b o hb (hk b o e))))))
theorem Act.pair(hB:Wd c c.hb)(hA:Am c A (env::rest) b)(X:Act c (env::rest) γ P0 s0 P s σ.cs)(hl:σ.lv=l::lr)(he:aM c γ env l){x y:Str}{px py p:Pos}{k:Nat}{d1 d2:V}{T:Value}(hT:Is c.D γ P T (.tup [d1,d2]))
  (e1:Sv x d1 σ τ) (e2:Sv y d2 τ σ') {Q:Unit->Shared->Prop}
  (hQ:∀s',Act c (env::rest) γ P0 s0 P s' σ'.cs->(∀b o,(∀i,i<γ.k->γ.ρ i≠b)->s.heap.get? b=some o->s'.heap.get? b=some o)->Q () s') :
  wpAny c.M A (assign (.Tuple [.Name x px,.Name y py] k p) env T) Q E s:=by
 obtain⟨T',vs,m,rfl,e,pp⟩:=hT.tup_inv;obtain⟨v1,v2,rfl,h1,h2⟩:∃v1 v2,vs = #[v1,v2]/\Pu P v1 d1/\Pu P v2 d2:=by
  have hvs:vs=vs.toList.toArray:=by simp
  generalize vs.toList=l at pp hvs;cases pp with
  | cons a1 r1 =>
   cases r1 with
   | cons a2 r2 =>
    cases r2;exact⟨_,_,hvs,a1,a2⟩
 exact X.pair0 hB hA hl he ⟨_,X.st.real.le _ _ e,rfl,m,rfl⟩ (.pu h1) (.pu h2) e1 e2 hQ
theorem Act.list(hB:Wd c c.hb)(X:Act c fr γ P0 s0 P s cs){i:Nat}{l l':List V}(hc:cs[i]?=some (.list l)){h':Heap}{t:Nat}(hs:Heap.SameBut (γ.ρ i) s.heap h'){vs:Array Value}{n:Nat}(e:h'.get? (γ.ρ i)=some (aa vs n))(p:PuL P vs.toList l') :
  Act c fr γ P0 s0 P {s with heap:=h',toks:=t} (cs.set i (.list l')):=by
 have hi:i<γ.k:=by rw[X.st.real.k];exact(Ld.mp hc).1
 obtain⟨vs0,n0,e0,_⟩:=X.st.real.cell i _ hc;exact X.turn hB (i:=i) ⟨hi,hs,X.st.real.upd hc (by intro q;cases q) hs ⟨vs,n,e,p⟩,⟨_,_,e0,e,rfl,λ⟨_,_,q⟩=>by cases q⟩,rfl,rfl⟩
theorem Act.retire(X:Act c fr γ P0 s0 P s cs){i:Nat}{l:List V}(hc:cs[i]?=some (.list l)) :
  ∃P',Act c fr γ P0 s0 P' s (cs.set i .dead)/\FLe P P'/\Is c.D γ P' (.ref (γ.ρ i)) (.lst l):=by
 have hi:i<γ.k:=by rw[X.st.real.k];exact(Ld.mp hc).1
 obtain⟨vs,n,e,p⟩:=X.st.real.cell i _ hc;have pn:=X.st.real.off i _ hc (by intro q;cases q)
 have z0:=X.base i hi;have gr:=Gr.put (h:=s0.heap) (o:=aa vs n) pn z0;have R:=X.st.real;have put:∀b o,P.put (γ.ρ i) (aa vs n) b=some o->(b=γ.ρ i/\o=aa vs n)∨P b=some o:=λb o q=>by
  exact(Frz.put_at q).imp (λw=>⟨w.1,w.2.symm⟩) id
 refine⟨P.put (γ.ρ i) (aa vs n),⟨⟨X.since.gr.trans gr (.refl _),X.since.ext,⟨⟨?_,λj d q=>?_,R.inj,λj d q hd=>?_,λb o q=>?_,λb o q=>?_⟩,X.st.wd,X.st.frs⟩⟩,X.base,X.kb⟩,gr.le,.pu (.lst (Frz.put_self ..) (p.mono gr.le))⟩
 ·rw[OD];exact R.k
 ·by_cases hj:i=j
  ·subst hj
   rw[Pb (by rw[<-R.k];exact hi)] at q
   cases q;exact⟨vs,n,e⟩
  ·rw[Og hj] at q
   exact(R.cell j d q).keep gr.le (.refl _)
 ·by_cases hj:i=j
  ·subst hj
   rw[Pb (by rw[<-R.k];exact hi)] at q
   cases q;exact absurd rfl hd
  ·rw[Og hj] at q
   have hjk:j<γ.k:=by rw[R.k];exact(Ld.mp q).1
   cases q':P.put (γ.ρ i) (aa vs n) (γ.ρ j) with
   | none=>rfl
   | some o =>
    rcases put _ _ q' with ⟨h1,_⟩ | h1
    ·exact absurd (R.inj j i hjk hi h1) (Ne.symm hj)
    ·rw[R.off j d q hd] at h1;cases h1
 ·rcases put _ _ q with ⟨rfl,rfl⟩ | h1
  ·exact e
  ·exact R.le b o h1
 ·rcases put _ _ q with ⟨rfl,rfl⟩ | h1
  ·exact⟨tyF (by decide),tyN⟩
  ·exact R.kind b o h1
theorem f9(f:Array Value->Array Value)(vs:Array Value)(n:Nat):∃m,Obj.mapSeq f (aa vs n)=aa (f vs) m:=by
 unfold Obj.mapSeq;dsimp only
 first
  | exact⟨_,rfl⟩
  | (split <;> exact⟨_,rfl⟩)
theorem Act.mapped(hB:Wd c c.hb)(X:Act c fr γ P0 s0 P s cs){i:Nat}{l l':List V}(hc:cs[i]?=some (.list l)){vs:Array Value}{n:Nat}(e:s.heap.get? (γ.ρ i)=some (aa vs n))(f:Array Value->Array Value)(p:PuL P (f vs).toList l')(t:Nat) :
  Act c fr γ P0 s0 P {s with heap:=s.heap.update (γ.ρ i) (Obj.mapSeq f),toks:=t} (cs.set i (.list l')):=by
 obtain⟨m,hm⟩:=f9 f vs n;exact X.list hB hc (.update ..) (vs:=f vs) (n:=m) (by rw[Heap.get?_update_self _ e (by rw[hm];rfl),hm]) p
end
end
section
inductive dF(D:Dc)(γ:Gh)(P:Frz):Flow->Fl->Prop
 | next:dF D γ P .next .next
 | brk:dF D γ P .brk .brk
 | cont:dF D γ P .cont .cont
 | ret {x:Value} {v:V}:Is D γ P x v->dF D γ P (.ret x) (.ret v)
def Kq(D:Dc)(γ:Gh)(P:Frz)(f:Flow):Fl->Prop
 | .next=>f=.next
 | .brk=>f=.brk
 | .cont=>f=.cont
 | .ret v=>∃x,f=.ret x/\Is D γ P x v
 | _=>False
theorem dF.inv{D:Dc}{γ:Gh}{P:Frz}{f:Flow}{g:Fl}(h:dF D γ P f g):Kq D γ P f g:=by
 cases h with
 | ret i=>exact⟨_,rfl,i⟩
 | _=>rfl
structure Run(c:Cx)(b:Nat)(σ:Sg) where
 A:Around
 env:Env
 rest:List Env
 γ:Gh
 P0:Frz
 s0:Shared
 P:Frz
 s:Shared
 l:Lv
 lr:List Lv
 L:Addr
 hA:Am c A (env::rest) b
 hl:σ.lv=l::lr
 he:aM c γ env l
 hf:env.frame=some L
 Y:Act c (env::rest) γ P0 s0 P s σ.cs
section
variable{c:Cx}{b:Nat}{σ τ:Sg}
noncomputable abbrev Run.now(N:Run c b σ):Now c b σ:={A:=N.A,fr:=N.env::N.rest,env:=N.env,γ:=N.γ,P:=N.P,s:=N.s,l:=N.l,lr:=N.lr,hA:=N.hA,hl:=N.hl,he:=N.he,S:=N.Y.st}
abbrev Run.Ac(N:Run c b σ)(γ:Gh)(P:Frz)(s:Shared)(cs:List Cell):Prop:=Act c (N.env::N.rest) γ N.P0 N.s0 P s cs
abbrev Run.Q(N:Run c b σ)(cs:List Cell)(fl:Fl)(f:Flow)(s':Shared):Prop:=∃γ' P',N.γ.Le γ'/\N.Ac γ' P' s' cs/\dF c.D γ' P' f fl
abbrev Run.X(N:Run c b σ)(cs:List Cell)(fl:Fl)(x:Value)(s':Shared):Prop:=∃γ' P' k,N.γ.Le γ'/\fl=.exc k/\N.Ac γ' P' s' cs/\iV c γ' N.s0 P' s' N.L k x
noncomputable abbrev Run.to(N:Run c b σ){γ':Gh}{P':Frz}{s':Shared}(g:N.γ.Le γ')(hlv:τ.lv=σ.lv)(Y:N.Ac γ' P' s' τ.cs):Run c b τ:={N with γ:=γ',P:=P',s:=s',hl:=hlv.trans N.hl,he:=N.he.mono g,Y:=Y}
noncomputable abbrev Run.go(N:Run c b σ){P':Frz}{s':Shared}(a:N.now.To P' s'):Run c b σ:={N with P:=P',s:=s',Y:=N.Y.aft a}
abbrev Run.wp(N:Run c b σ){α:Type}(m:Sem α)(Q:α->Shared->Prop)(E:Value->Shared->Prop):Prop:=wpAny c.M N.A m Q E N.s
theorem Run.thrown(N:Run c b σ){k:String}{x:Value}{s':Shared}(h:eE c (N.env::N.rest) N.γ N.P N.s σ.cs k x s'):N.X σ.cs (.exc k) x s':=by
 obtain⟨P',X',T'⟩:=yg (L:=N.L) N.Y h;exact⟨N.γ,P',k,.refl _,rfl,X',T'⟩
end
def REff(c:Cx)(b:Nat)(σ:Sg)(e:Expr)(v:V)(τ:Sg):Prop:=τ.lv=σ.lv/\∀(N:Run c b σ) (E:Value->Shared->Prop),N.wp (eval e N.env) (λy s'=>∃γ' P',N.γ.Le γ'/\N.Ac γ' P' s' τ.cs/\Is c.D γ' P' y v) E
def REfx(c:Cx)(b:Nat)(σ:Sg)(e:Expr)(k:String)(τ:Sg):Prop:=τ.lv=σ.lv/\∀(N:Run c b σ) (Q:Value->Shared->Prop),N.wp (eval e N.env) Q (N.X τ.cs (.exc k))
def RX(c:Cx)(b:Nat)(σ:Sg)(st:Stmt)(fl:Fl)(τ:Sg):Prop:=τ.lv=σ.lv/\∀N:Run c b σ,N.wp (exec st N.env) (N.Q τ.cs fl) (N.X τ.cs fl)
def RXs(c:Cx)(b:Nat)(σ:Sg)(ss:List Stmt)(fl:Fl)(τ:Sg):Prop:=τ.lv=σ.lv/\∀N:Run c b σ,N.wp (execs ss N.env) (N.Q τ.cs fl) (N.X τ.cs fl)
section
variable{M:Model}{A:Around}{E:Value->Shared->Prop}{s:Shared}{env:Env}
theorem mX{v:Expr}(h:iy v=false)(t:Option Expr)(n:Nat):swapsWith v t n env=pure false:=by
 cases v <;> first | rfl | cases h
theorem Dv{v x y:Expr}{p:Pos}{n:Nat}:swapsWith v (some (.Subscript x y p)) n env=pure false:=by
 cases v <;> rfl
theorem Dw{v x:Expr}{y:Str}{p:Pos}{n:Nat}:swapsWith v (some (.Attribute x y p)) n env=pure false:=by
 cases v <;> rfl
theorem mW{c:Cx}{γ:Gh}{l:Lv}(he:aM c γ env l):interactive env=false:=by
 unfold interactive;rw[he.fn];rfl
theorem zZ{prog:Program}{w:World}{a:Addr}{vs:Array Value}{n:Nat}{k:Int}{t:Tok}{v:Value}{Q:Unit->Shared->Prop}(ho:s.heap.get? a=some (aa vs n))(h0:0<=k)(hf:k<2 ^ 63)(hk:k<vs.size)
  (hQ:Q () {s with heap:=s.heap.update a (Obj.mapSeq (·.setIfInBounds k.toNat v))}):wpAny (model prog w) A (setItem (.ref a) (.int k t) v) Q E s:=by
 have hl:s.heap.IsList a vs:=⟨_,ho,rfl,n,rfl⟩;unfold setItem
 try with_reducible refine wpAny_holding ?_
 first | refine wpAny_bind (wpAny_pure ?_) | skip
 refine wpAny_bind (wpAny_sequenceKey hl.typeIs (by decide) ?_)
 refine wpAny_bind (wpAny_callSpecial?_slot (name:=KY "__setitem__") hl.typeIs slot_list_setitem (wpAny_call_entry slot_list_setitem hl.typeIs entry_list_setitem ?_ (args_list_setitem _ _ _)));show wpAny _ _ (Builtin.List.listSubscript? (.int k t) >>= _) _ _ s;refine wpAny_bind (wpAny_listSubscript_int (fitsIndex_of h0 hf) ?_);clear hf;obtain⟨j,rfl⟩:=R9 h0;have hj:j<vs.size:=by omega
 have there:vs[j]?=some vs[j]:=Ra hj;show wpAny _ _ ((seqItemAt a j >>= λr=>pure (r.map (j,·))) >>= _) _ _ s;refine wpAny_bind (wpAny_bind (wpAny_seqItemAt ho rfl (wpAny_pure ?_)));rw[there];show wpAny _ _ (setSeqItemAt a j v >>= _) _ _ s;refine wpAny_bind (wpAny_setSeqItemAt ho rfl ?_)
 first
  | exact wpAny_bind (wpAny_pure (wpAny_pure ⟨.none,rfl,wpAny_pure hQ⟩))
  | exact wpAny_pure ⟨.none,rfl,wpAny_pure hQ⟩
end
section
variable{c:Cx}{g:Glb}{b:Nat}{σ τ υ:Sg}{e l r x y t elt iter:Expr}{es as:List Expr}{u v w d:V}{vs ws xs ys zs:List V}{p q px pos py pz:Pos}{k j:Bool}{n:Nat}{nm m:Str}{st:Stmt}{ss bd:List Stmt}{f:Fl}{kx:String}
variable{fr rest:List Env}{γ γ':Gh}{P0 P P':Frz}{s0 s s':Shared}{cs cs':List Cell}
theorem Act.newown(X:Act c fr γ P0 s0 P s cs){a:Addr}{vs:Array Value}{n:Nat}{l:List V}(hp:P a=none)(hn:∀i,i<γ.k->γ.ρ i≠a)(h0:s0.heap.get? a=none)(e:s.heap.get? a=some (aa vs n))(p:PuL P vs.toList l) :
  Act c fr (γ.more a Str.empty) P0 s0 P s (cs++[.list l])/\Is c.D (γ.more a Str.empty) P (.ref a) (.own cs.length):=by
 have R:=X.st.real.more (k:=Str.empty) (c:=.list l) hp hn ⟨vs,n,by rw[γ.more_ρ];exact e,p⟩
 refine⟨⟨⟨X.since.gr,X.since.ext,⟨R,X.st.wd,X.st.frs⟩⟩,λi hi=>?_,X.kb⟩,?_⟩
 ·by_cases q:i=γ.k
  ·subst q;rw[γ.more_ρ];exact h0
  ·have hi':i<γ.k+1:=hi
   rw[(γ.more_le a Str.empty).ρ i (by omega)];exact X.base i (by omega)
 ·have:a=(γ.more a Str.empty).ρ cs.length:=by rw[<-X.st.real.k,γ.more_ρ]
  have hk:cs.length<(γ.more a Str.empty).k:=by show cs.length<γ.k+1;rw[X.st.real.k];omega
  have q:=Is.own (D:=c.D) (P:=P) hk;rw[<-this] at q;exact q
theorem Hb{hb h h1 h':Heap}(x:Frs hb h fr)(x1:Frs hb h1 fr){C:Addr}(hC:h.get? C=none)(hs:Heap.SameBut C h1 h'):Frs hb h' fr:=λe he=>by
 obtain⟨k1,L,o,k2,k3,k4,k5,k6⟩:=x1 e he;obtain⟨_,L',o',j2,_,j4,_⟩:=x e he;rw[k2] at j2;cases j2;exact⟨k1,L,o,k2,k3,(hs.2 L λq=>by rw[q,hC] at j4;cases j4).trans k4,k5,k6⟩
theorem REff.then(h:REff c b σ e v τ)(N:Run c b σ){Q:Value->Shared->Prop}{E:Value->Shared->Prop}(k:∀γ' P' s' (_:N.γ.Le γ') (_:N.Ac γ' P' s' τ.cs) x,Is c.D γ' P' x v->Q x s'):N.wp (eval e N.env) Q E :=
 wpAny_mono (h.2 N E) (λx s' q_=>Exists.p5 q_ λγ' P' g a i=>k γ' P' s' g a x i) λ_ _ q=>q
theorem Run.put(hB:Wd c c.hb)(N:Run c b σ){x:Value}(hv:Is c.D N.γ N.P x v)(h:Sv nm v σ τ){E:Value->Shared->Prop}:N.wp (storeName N.env nm x) (λ_ s'=>N.Q τ.cs .next .next s') E :=
 N.Y.set hB N.hl N.he hv h λs2 Y2 _ _=>⟨N.γ,N.P,.refl _,Y2,.next⟩
theorem Run.own(hB:Wd c c.hb)(N:Run c b σ){x:Value}(h:FrQ c (N.env::N.rest) N.γ N.P N.s σ.cs vs x s')(hs:So nm vs σ τ){E:Value->Shared->Prop}:wpAny c.M N.A (storeName N.env nm x) (λ_ s2=>N.Q τ.cs .next .next s2) E s':=by
 obtain⟨P1,a,ws,n,rfl,a1,pn,zn,e1,p1⟩:=h;obtain⟨X2,i2⟩:=(N.Y.aft a1).newown pn (λi hi q=>by obtain⟨o,e⟩:=N.Y.st.real.there hi;rw[q,zn] at e;cases e) (N.Y.since.ext.keep.gone zn) e1 p1
 exact Act.set (σ:=⟨σ.lv,σ.cs++[.list vs]⟩) hB X2 N.hl (N.he.mono (N.γ.more_le _ _)) i2 hs λs2 X3 _ _=>⟨_,P1,N.γ.more_le _ _,X3,.next⟩
namespace R
theorem effV(h:REv c b σ e v):REff c b σ e v σ:=⟨rfl,λN E=>h.then N.now λP1 s1 a1 x i1=>⟨N.γ,P1,.refl _,N.Y.aft a1,i1⟩⟩
theorem xsNil:RXs c b σ [] .next σ:=⟨rfl,λN=>wpAny_execs_nil ⟨_,_,.refl _,N.Y,.next⟩⟩
theorem xsCons(h:RX c b σ st .next τ)(hr:RXs c b τ ss f υ):RXs c b σ (st::ss) f υ:=⟨hr.1.trans h.1,λN=>wpAny_execs_cons (wpAny_mono (h.2 N) (λf1 s1 q_=>Exists.p5 q_ λγ1 P1 g1 Y1 f1=>by
 obtain rfl:=f1.inv;exact wpAny_mono (hr.2 (N.to g1 h.1 Y1)) (λf2 s2 ⟨γ2,P2,g2,r⟩=>⟨γ2,P2,g1.trans g2,r⟩) λx s2 ⟨γ2,P2,k,g2,r⟩=>⟨γ2,P2,k,g1.trans g2,r⟩) λx s1 ⟨_,_,_,_,q,_⟩=>by cases q)⟩
theorem xsStop(h:RX c b σ st f τ)(hf:f≠.next):RXs c b σ (st::ss) f τ:=⟨h.1,λN=>wpAny_execs_cons (wpAny_mono (h.2 N) (λf1 s1 q_=>Exists.p5 q_ λγ1 P1 g1 Y1 f1=>by
 cases f1 with
 | next=>exact absurd rfl hf
 | brk=>exact⟨γ1,P1,g1,Y1,.brk⟩
 | cont=>exact⟨γ1,P1,g1,Y1,.cont⟩
 | ret i=>exact⟨γ1,P1,g1,Y1,.ret i⟩) λ_ _ q=>q)⟩
theorem exprC{fn:Expr}{ks:List Keyword}(h:REff c b σ (.Call fn as ks q) v τ):RX c b σ (.Expr (.Call fn as ks q) pos) .next τ:=⟨h.1,λN=>wpAny_Expr_any (h.then N λγ' P' s' g a x i=>⟨γ',P',g,a,.next⟩) (mW N.he) rfl⟩
theorem exprX{fn:Expr}{ks:List Keyword}(h:REfx c b σ (.Call fn as ks q) kx τ):RX c b σ (.Expr (.Call fn as ks q) pos) (.exc kx) τ:=⟨h.1,λN=>wpAny_Expr_any (h.2 N _) (mW N.he) rfl⟩
theorem asg(hB:Wd c c.hb)(hc:iy e=false)(h:REff c b σ e v τ)(hs:Sv nm v τ υ):RX c b σ (.Assign [.Name nm py] e pos) .next υ:=⟨hs.lv.trans h.1,λN =>
 wpAny_Assign_Name (h.then N λγ' P' s' g a x i=>wpAny_mono ((N.to g h.1 a).put hB i hs) (λ_ s2 ⟨γ2,P2,g2,r⟩=>⟨γ2,P2,g.trans g2,r⟩) λ_ _ q=>q) (mX hc _ _)⟩
theorem asgX(hc:iy e=false)(h:REx c b σ e kx):RX c b σ (.Assign [.Name nm py] e pos) (.exc kx) σ:=⟨rfl,λN =>
 wpAny_Assign_Name (wpAny_mono (h N.now _) (λ_ _ q=>q) λx s1 q=>N.thrown q) (mX hc _ _)⟩
theorem asgO(hB:Wd c c.hb)(hc:iy e=false)(h:RFr c b σ e vs)(hs:So nm vs σ τ):RX c b σ (.Assign [.Name nm py] e pos) .next τ:=⟨hs.lv,λN =>
 wpAny_Assign_Name (wpAny_mono (h N.now _) (λx s1 q=>N.own hB q hs) λ_ _ q=>q) (mX hc _ _)⟩
theorem asgB(hB:Wd c c.hb){gens:List Comprehension}{sc:Scope}{lv:Lv}{lr:List Lv}(hl:σ.lv=lv::lr)(hk:aget nm lv.names=some .cell)(h:RFr c b σ (.ListComp elt gens sc p) vs)(hs:So nm vs σ τ):RX c b σ (.Assign [.Name nm py] (.ListComp elt gens sc p) pos) .next τ:=⟨hs.lv,λN=>by
 cases hl.symm.trans N.hl;refine wpAny_Assign_Name (wpAny_mono (h N.now _) (λx s1 q=>N.own hB q hs) λ_ _ q=>q) ?_;show(pure _:Sem Bool)=_
 congr 1
 rw[N.he.cel_ nm hk,show((some NameKind.cell:Option NameKind)==some .local)=false from rfl];simp⟩
theorem asgC(hB:Wd c c.hb){ifs:List Expr}{sc:Scope}{cl:List (Str × Nat)}{lv:Lv}{lr:List Lv}(hi:RIt c b σ iter xs)(hok:dw sc=true)(hu:isSet iter=false)(hlv:σ.lv=lv::lr)(hcl:bf sc.names lv.cells []=some cl)(hc:fJ c b (du sc cl σ) elt m px ifs xs ys)(hx:xs.length<=sizeLine)
  (hk:aget nm lv.names=some .local) (hln:(py.line==p.line && !(sc.names.any λ(n,k)=>n==nm&&(k == .local||k == .cell)))=true) (hs:Sv nm (.lst ys) σ τ):RX c b σ (.Assign [.Name nm py] (.ListComp elt [⟨.Name m px,iter,ifs,0⟩] sc p) pos) .next τ:=⟨hs.lv,λN=>by
 have hlN:=hlv.symm.trans N.hl;have el:lv=N.l:=(List.cons.inj hlN).1;have sw:swapsWith (.ListComp elt [⟨.Name m px,iter,ifs,0⟩] sc p) (some (.Name nm py)) pos.line N.env=pure true:=by
  show(pure _:Sem Bool)=_
  congr 1
  rw[show N.env.blockKind=.function by unfold Env.blockKind;rw[N.he.fn];rfl,N.he.loc_ nm (el▸hk),show(Expr.ListComp elt [⟨.Name m px,iter,ifs,0⟩] sc p).pos=p from rfl]
  simpa using hln
 have S:=N.Y.st;show wpAny c.M N.A _ _ _ N.s;rw[exec_Assign_Name_used _ _ _ _ sw];refine wpAny_bind (wpAny_standAt (wpAny_bind ?_));show wpAny _ N.A (do let _ <- comprehension (.ListComp elt [⟨.Name m px,iter,ifs,0⟩] sc p) sc N.env _ (newList []) false (eval iter N.env) (some (assign (.Name nm py) N.env))) _ _ N.s
 refine wpAny_bind (wpAny_mono (vQ (Q:=λ_ s'=>N.Q τ.cs .next .next s') hi hok hu hlv hcl hc hx N.now ?_) (λ_ s' hq=>wpAny_pure (wpAny_pure hq)) λ_ _ e=>e);intro P' s' D C acc n gr ext zD pD eD pys zC pC ⟨mm,hn⟩ hCD le kd;have a0:Aft c (N.env::N.rest) N.γ N.P N.s σ.cs P' s':=⟨gr,⟨S.real.keep gr ext.keep le kd,S.wd.keep ext.keep,S.frs.keep ext.keep⟩,ext⟩;obtain⟨a1,i1⟩:=a0.lay S pD zD eD pys;have pC':P'.put D (aa acc n) C=none:=by unfold Frz.put;rw[if_neg hCD];exact pC
 have Y1:=N.Y.aft a1;have bC:aF c N.γ (P'.put D (aa acc n)) N.s0.heap C:=⟨pC',(λi hi q=>by obtain⟨o,e⟩:=S.real.there hi;rw[q,zC] at e;cases e),N.Y.since.ext.keep.gone zC,S.wd.bk.gone zC⟩
 show wpAny c.M N.A (assign (.Name nm py) N.env (.ref D)) _ _ _;refine wpAny_assign_Name (Y1.set hB N.hl N.he i1 hs λs2 Y2 _ k2=>?_);obtain⟨oC,esC,epC,eC,rC⟩:=hn;refine⟨mm,⟨oC,esC,epC,k2 C oC bC.n eC,rC⟩,λh' hs'=>⟨N.γ,P'.put D (aa acc n),.refl _,?_,.next⟩⟩;have hs'':∀b o,b≠C->s2.heap.get? b=some o->h'.get? b=some o:=λb o q e=>(hs'.2 b q).trans e;have nC:b7 s2.heap C:=.data (k2 C oC bC.n eC) λvs q=>by rw[rC.1] at q;cases q
 exact⟨⟨Y2.since.gr,⟨fj Y2.since.ext.keep bC.z hs'' nC,λo=>mQ (Y2.since.ext.old o) bC.b hs'',Y2.since.ext.gens,Y2.since.ext.os⟩,⟨Y2.st.real.but bC.p bC.n hs'',hB.keep (fj Y2.st.wd.bk bC.b hs'' nC),Hb S.frs Y2.st.frs zC hs'⟩⟩,Y2.base,Y2.kb⟩⟩
end R
end
end
section
def gq(D:Dc)(h:Heap)(x:Addr)(cl:Str)(d:Addr)(es:Array DictEntry)(ep:Nat):Prop :=
 h.get? x=some ⟨.ref (D.cls cl),some d,.plain,#[]⟩/\h.get? d=some ⟨.type "dict",none,.dict es ep,#[]⟩/\StrKeys es
def AtG(c:Cx)(cl a:Str):Prop:=∀(A:Around) (E:Value->Shared->Prop) (s:Shared) (Q:Value->Shared->Prop) x d es ep v,Wd c s.heap->gq c.D s.heap x cl d es ep->nsFind es a=some v->iz v=true->(∀tk,Q v {s with toks:=tk}) ->
 wpAny c.M A (getAttr (.ref x) a true) Q E s
def AtS(c:Cx)(cl a:Str):Prop:=∀(A:Around) (E:Value->Shared->Prop) (s:Shared) (Q:Unit->Shared->Prop) x d es ep v,Wd c s.heap->gq c.D s.heap x cl d es ep->es.size<=1000 ->
 (∀h' es' ep' tk,h'.get? d=some ⟨.type "dict",none,.dict es' ep',#[]⟩->StrKeys es'->(∀y,nsFind es' y=if y=a then some v else nsFind es y)->Heap.SameBut d s.heap h'->(nsFind es a=none->es'.size=es.size+1)->(nsFind es a≠none->es'.size=es.size)->Q () {s with heap:=h',toks:=tk}) ->
 wpAny c.M A (setAttr (.ref x) a v) Q E s
def AtP(c:Cx)(b:Nat)(cl a:Str)(l:List (Str × V))(r:V):Prop:=∀(σ:Sg) (N:Now c b σ) (E:Value->Shared->Prop) (i:Nat) (x:Addr),σ.cs[i]?=some (.inst cl l)->N.Is (.ref x) (.obj i)->N.wp (getAttr (.ref x) a true) (N.Ev r) E
inductive Rt:List Cell->V->V->List Cell->Prop
 | own {cs:List Cell} {i:Nat} {l:List V}:cs[i]?=some (.list l)->Rt cs (.own i) (.lst l) (cs.set i .dead)
 | old {cs:List Cell} {v:V}:Rt cs v v cs
inductive Rts:List Cell->List V->List V->List Cell->Prop
 | nil {cs:List Cell}:Rts cs [] [] cs
 | cons {cs cs' cs'':List Cell} {v w:V} {vs ws:List V}:Rt cs v w cs'->Rts cs' vs ws cs''->Rts cs (v::vs) (w::ws) cs''
def Pa(c:Cx)(σ:Sg)(u:V)(a:Str)(v:V)(τ:Sg):Prop:=∃i cl l,u=.obj i/\σ.cs[i]?=some (.inst cl l)/\AtS c cl a/\N6 l.length 500=true/\τ=⟨σ.lv,σ.cs.set i (.inst cl (aput a v l))⟩
def MeOk(c:Cx)(b:Nat)(cl m:Str)(cs:List Cell)(i:Nat)(as:List V)(r:V)(cs':List Cell):Prop:=∃f ob fd,c.K f=some ob/\ob.data=.func fd /\
 (∀(A:Around) (E:Value->Shared->Prop) (s:Shared) x d es ep (Q:Value × List Value->Shared->Prop) pl,Wd c s.heap->gq c.D s.heap x cl d es ep->nsFind es m=none->Q (.ref f,[.ref x]) s->wpAny c.M A (getMethod (.ref x) m pl) Q E s) /\
 ∀(lv:List Lv) (N:Run c b ⟨lv,cs⟩) (vs:List Value) (x:Addr) (E:Value->Shared->Prop),Is c.D N.γ N.P (.ref x) (.obj i)->IsL c.D N.γ N.P vs as ->
  N.wp (call (.ref f) (.ref x::vs)) (λv s'=>∃P',N.Ac N.γ P' s' cs'/\Is c.D N.γ P' v r) E
def CmOk(c:Cx)(b:Nat)(k:Str)(cs:List Cell)(as:List V)(kv:List (Str × V))(r:V)(cs':List Cell):Prop:=∃fv,c.D.mg k=some fv /\
 ∀(lv:List Lv) (N:Run c b ⟨lv,cs⟩) (vs ks:List Value) (E:Value->Shared->Prop),IsL c.D N.γ N.P vs as->IsL c.D N.γ N.P ks (kv.map (·.2)) ->
  (∃k,∀(Q:Keeper->Shared->Prop),Q k N.s->N.wp (keeperOf fv) Q E)/\N.wp (call fv vs ((kv.map (·.1)).zip ks)) (λv s'=>∃γ' P',N.γ.Le γ'/\N.Ac γ' P' s' cs'/\Is c.D γ' P' v r) E
section
variable{M:Model}{A:Around}{E:Value->Shared->Prop}{s:Shared}{env:Env}
theorem v9{pos:Pos}{fv:Value}{first:List Value}{args:List (Bool × Sem Value)}{kws:List (Option Str × Sem Value)}{Q:Value->Shared->Prop}(hp:args.any (·.1)=false)(hall:kws.all (·.1.isSome)=true)
  (h:wpAny M A (spliced args) (λvs s₁=>wpAny M A (evalAll (kws.map (·.2))) (λks s₂=>(∃k,∀Q':Keeper->Shared->Prop,Q' k s₂->wpAny M A (keeperOf fv) Q' E s₂)/\wpAny M A (call fv (first++vs) ((kws.filterMap (·.1)).zip ks)) Q E s₂) E s₁) E s) :
  wpAny M A (callWith pos fv first args kws) Q E s:=by
 unfold callWith;have args_ok:∀ {Q':Args->Shared->Prop},wpAny M A (spliced args) (λvs s₁=>wpAny M A (evalAll (kws.map (·.2))) (λks s₂=>Q' ⟨vs,(kws.filterMap (·.1)).zip ks⟩ s₂) E s₁) E s->wpAny M A (evalArgs fv true args kws) Q' E s:=by
  intro Q' h';cases args with
  | nil =>
   unfold evalArgs;show wpAny M A (spliced [] >>= _) Q' E s;refine wpAny_bind (wpAny_mono h' (λvs s' h''=>?_) λ_ _ x=>x);refine wpAny_bind (wpAny_pure (wpAny_holding ?_));simp only[hall,if_true];refine wpAny_bind (wpAny_mono h'' (λks s₂ h₂=>?_) λ_ _ x=>x);exact wpAny_bind (wpAny_pure (wpAny_pure h₂))
  | cons x r =>
   obtain⟨q,y⟩:=x;cases q with
   | true=>simp at hp
   | false=>exact evalArgs_kw hall h'
 have hst:(args.any (·.1)||kws.any (·.1.isNone))=false:=by
  rw[hp,Qi,Q3];intro x hx;have:=(La.mp hall) x hx;cases q:x.1 with
  | none=>rw[q] at this;cases this
  | some _=>simp
 refine wpAny_bind (wpAny_holding (args_ok (wpAny_mono h (λvs s₁ h₁=>wpAny_mono h₁ (λks s₂ h₂=>wpAny_bind (wpAny_standAt ?_)) λ_ _ x=>x) λ_ _ x=>x)));obtain⟨⟨k,hk⟩,hc⟩:=h₂;have tail:∀ {t:Sem Value},wpAny M A t Q E s₂->wpAny M A (t >>= λr=>holding [r] point >>= λ_=>pure r) Q E s₂ :=
  λht=>wpAny_bind (wpAny_mono ht (λr s₃ hr=>wpAny_bind (wpAny_holding (wpAny_point (wpAny_pure hr)))) λ_ _ x=>x)
 rw[hst];refine wpAny_bind (hk _ ?_);cases k with
 | frame =>
  dsimp only;split
  ·exact tail hc
  ·exact tail (by unfold callMarked;exact Calls.wpAny_keep hc)
 | boundFrame =>
  dsimp only;split
  ·exact tail hc
  ·exact tail (by unfold callMarked;exact Calls.wpAny_keep hc)
 | machine=>exact tail hc
 | caller=>exact tail (wpAny_operateT hc)
end
section
variable{c:Cx}{g:Glb}{b:Nat}{σ τ υ:Sg}{e l r x y t elt iter:Expr}{es as:List Expr}{u v w d:V}{vs ws xs ys zs:List V}{p q px pos py pz:Pos}{k j:Bool}{n:Nat}{nm m:Str}{st:Stmt}{ss bd:List Stmt}{f:Fl}{kx:String}
variable{fr rest:List Env}{γ γ':Gh}{P0 P P':Frz}{s0 s s':Shared}{cs cs':List Cell}
theorem vB{x:Str}:∀ {ss:List Str},x∈ss->∃j,ss[j]?=some x/\(∀m,m<j->∀y,ss[m]?=some y->y≠x)/\ss.eraseIdx j=aY x ss
 | a::r,h=>by
  by_cases ha:a=x
  ·rw[jX ha]
   exact⟨0,by rw[QR,ha],λm hm=>by omega,rfl⟩
  ·rw[jY ha]
   obtain⟨j,e1,e2,e3⟩:=vB ((KZ.mp h).resolve_left λq=>ha q.symm);refine⟨j+1,by rw[Pg];exact e1,λm hm y hy=>?_,by rw[List.eraseIdx_cons_succ,e3]⟩
   cases m with
   | zero=>rw[QR] at hy;cases hy;exact ha
   | succ m=>exact e2 m (by omega) y (by rw[Pg] at hy;exact hy)
theorem qd{vs:List Value}{ss:List Str}(a:StrsAre vs ss):∀(i:Nat) {v:Value},vs[i]?=some v->∃x t,v=.str x t/\ss[i]?=some x:=by
 induction a with
 | nil=>intro i _ h;simp at h
 | cons x t _ ih =>
  intro i v h;cases i with
  | zero=>exact⟨x,t,(Option.some.inj h).symm,rfl⟩
  | succ i=>exact ih i h
theorem yE{vs:List Value}{ss:List Str}(a:StrsAre vs ss):∀(i:Nat),StrsAre (vs.eraseIdx i) (ss.eraseIdx i):=by
 induction a with
 | nil=>exact λ_=>.nil
 | cons x t r ih =>
  intro i;cases i with
  | zero=>exact r
  | succ i=>exact .cons x t (ih i)
theorem gU{vs:List Value}{ss:List Str}(a:StrsAre vs ss):vs.length=ss.length:=by
 induction a with
 | nil=>rfl
 | cons _ _ _ ih=>exact congrArg (· + 1) ih
theorem t7(S:St c fr γ P s cs){i:Nat}{a:Addr}{cl:Str}{at_:List (Str × V)}(hc:cs[i]?=some (.inst cl at_))(ho:P a=some ⟨.ref (c.D.cls (γ.kc i)),some (γ.ρ i),.plain,#[]⟩) :
  ∃es ep,gq c.D s.heap a cl (γ.ρ i) es ep/\Vars c.D γ P es at_/\(∀x,aget x at_=none->nsFind es x=none)/\es.size=at_.length:=by
 obtain⟨hk,es,ep,e1,e2,e3,e4⟩:=S.real.cell i _ hc;rw[hk] at ho;exact⟨es,ep,⟨S.real.le _ _ ho,e1,e2⟩,e3,e4⟩
theorem fB(S:St c fr γ P s cs){i:Nat}{a:Addr}{cl:Str}{at_:List (Str × V)}(hc:cs[i]?=some (.inst cl at_))(ho:P a=some ⟨.ref (c.D.cls (γ.kc i)),some (γ.ρ i),.plain,#[]⟩) :
  ∃es ep,gq c.D s.heap a cl (γ.ρ i) es ep/\Vars c.D γ P es at_/\∀x,aget x at_=none->nsFind es x=none :=
 let ⟨es,ep,h1,h2,h3,_⟩:=t7 S hc ho;⟨es,ep,h1,h2,h3⟩
theorem wC{x:Str}{v:V}:∀(l:List (Str × V)),(aget x l=none->(aput x v l).length=l.length+1)/\(aget x l≠none->(aput x v l).length=l.length):=by
 intro l_
 induction l_ with
 | nil=>exact⟨λ_=>rfl,λh=>absurd rfl h⟩
 | cons x_ r ih =>
  obtain⟨y,t⟩:=x_;have ih:=ih
  by_cases q:y=x
  ·rw[dC q,oK q];exact⟨λh=>(nomatch h),λ_=>rfl⟩
  ·rw[cI q,j8 q];exact⟨λh=>congrArg (· + 1) (ih.1 h),λh=>congrArg (· + 1) (ih.2 h)⟩
theorem lW(X:Act c fr γ P0 s0 P s cs){x:Value}(hv:Is c.D γ P x v)(h:Rt cs v w cs'):∃P',Act c fr γ P0 s0 P' s cs'/\FLe P P'/\Is c.D γ P' x w:=by
 cases h with
 | own hc=>obtain⟨rfl,hi⟩:=hv.own_inv;exact X.retire hc
 | old=>exact⟨P,X,.refl _,hv⟩
theorem Ag:∀ {xs:List Value} {vs ws:List V} {P:Frz} {cs cs':List Cell},Act c fr γ P0 s0 P s cs->IsL c.D γ P xs vs->Rts cs vs ws cs'->∃P',Act c fr γ P0 s0 P' s cs'/\FLe P P'/\IsL c.D γ P' xs ws:=by
 intro xs vs ws P cs cs' X h k
 induction k generalizing xs P with
 | nil=>rw[h.zero];exact⟨P,X,.refl _,.nil⟩
 | cons h3 _ ih =>
  obtain⟨_,_,q,h1,h2⟩:=h.consI;rw[q];obtain⟨P1,X1,f1,i1⟩:=lW X h1 h3;obtain⟨P2,X2,f2,i2⟩:=ih X1 (h2.mono f1);exact⟨P2,X2,f1.trans f2,.cons (i1.mono f2) i2⟩
theorem Run.attr(hB:Wd c c.hb)(N:Run c b σ){a:Str}{x y:Value}(hx:Is c.D N.γ N.P x u)(hy:Is c.D N.γ N.P y v)(h:Pa c σ u a v τ){E:Value->Shared->Prop}:N.wp (setAttr x a y) (λ_ s'=>N.Q τ.cs .next .next s') E:=by
 obtain⟨i,cl,at_,rfl,hc,hs,hlz,rfl⟩:=h;obtain⟨ad,rfl,hi,ho⟩:=hx.obj_inv;obtain⟨es,ep,hin,hv,hno,hsz⟩:=t7 N.Y.st hc ho;have hlz:=Ly hlz;refine hs N.A _ N.s _ ad _ es ep y N.Y.st.wd hin (by omega) λh' es' ep' tk e1 e2 e3 hs z1 z2=>⟨N.γ,N.P,.refl _,?_,.next⟩
 have hk:N.γ.kc i=cl:=(N.Y.st.real.cell i _ hc).1;refine N.Y.turn hB (i:=i) ⟨hi,hs,N.Y.st.real.upd hc (by intro q;cases q) hs ⟨hk,es',ep',e1,e2,λx v hx=>?_,λx hx=>?_,?_⟩,⟨_,_,hin.2.1,e1,rfl,λ_=>⟨es',ep',rfl⟩⟩,rfl,rfl⟩
 ·rw[kj] at hx
  split at hx
  ·rename_i q;cases hx;exact⟨y,by rw[e3,if_pos q],hy⟩
  ·rename_i q
   obtain⟨w,w1,w2⟩:=hv x v hx;exact⟨w,by rw[e3,if_neg q];exact w1,w2⟩
 ·rw[kj] at hx
  split at hx
  ·cases hx
  ·rename_i q
   rw[e3,if_neg q];exact hno x hx
 ·cases q:aget a at_ with
  | none=>rw[(wC at_).1 q,z1 (hno a q),hsz]
  | some w =>
   obtain⟨r,r1,_⟩:=hv a w q;rw[(wC at_).2 (by rw[q];exact λh=>nomatch h),z2 (by rw[r1];exact λh=>nomatch h),hsz]
namespace R
theorem attr{i:Nat}{cl:Str}{ats:List (Str × V)}(hb:baseOk e=true)(he:REv c b σ e (.obj i))(hc:σ.cs[i]?=some (.inst cl ats))(hk:AtG c cl nm)(h:aget nm ats=some v):REv c b σ (.Attribute e nm p) v:=λN E=>by
 show wpAny c.M N.A _ _ _ _;rw[oJ hb];refine wpAny_bind (he.then N λP1 s1 a1 xa ia=>wpAny_bind (wpAny_standAt (wpAny_bind (wpAny_holding ?_))));obtain⟨x,rfl,hi,ho⟩:=ia.obj_inv;obtain⟨es,ep,hin,hv,_⟩:=fB a1.st hc ho;obtain⟨w,e1,e2⟩:=hv nm v h;exact hk N.A _ s1 _ x _ es ep w a1.st.wd hin e1 (e2.hand a1.st.wd) λtk=>wpAny_bind (wpAny_letTemporaryGo (wpAny_pure ⟨P1,a1.trans (.toks a1.st _),e2⟩))
theorem attrP{i:Nat}{cl:Str}{ats:List (Str × V)}(hb:baseOk e=true)(he:REv c b σ e (.obj i))(hc:σ.cs[i]?=some (.inst cl ats))(hp:AtP c b cl nm ats v):REv c b σ (.Attribute e nm p) v:=λN E=>by
 show wpAny c.M N.A _ _ _ _;rw[oJ hb];refine wpAny_bind (he.then N λP1 s1 a1 xa ia=>wpAny_bind (wpAny_standAt (wpAny_bind (wpAny_holding ?_))));obtain⟨x,rfl,hi,ho⟩:=ia.obj_inv;exact wpAny_mono (hp σ (N.go a1) _ i x hc ia) (λw s2 q=>wpAny_bind (wpAny_letTemporaryGo (wpAny_pure (q.after a1)))) λ_ _ q=>q
theorem n8{id:String}{i:Nat}{cs1:List Cell}(hb:baseOk e=true)(hline:bw p q=true)(hn:as.length<20)(he:REv c b σ e (.own i))(hc:σ.cs[i]?=some (.list xs))(ha:REvs c b σ as vs)
  (slot:Slot "list" m id) (ty:typeOf (.builtin id)=pure (.type "method_descriptor"))
  (h:∀(N:Run c b σ) ys zs n E,N.s.heap.get? (N.γ.ρ i)=some (aa ys n)->PuL N.P ys.toList xs->IsL c.D N.γ N.P zs vs->N.wp (call (.builtin id) (.ref (N.γ.ρ i)::zs)) (λy s'=>∃P',N.Ac N.γ P' s' cs1/\Is c.D N.γ P' y v) E) :
  REff c b σ (.Call (.Attribute e m p) as [] q) v ⟨σ.lv,cs1⟩:=⟨rfl,λN E=>dB hb ha.1 hn hline (he.then N.now λP1 s1 a1 xa ia pl=>by
 obtain⟨ws,n,rfl,e1,p1⟩:=(N.go a1).now.own hc ia;have hat:MethAt c s1 (.ref (N.γ.ρ i)) m "list" id:=⟨F.plainAttrs_list,slot,ty,⟨_,e1,rfl⟩,λa' e=>by cases e;exact⟨_,e1,rfl⟩⟩
 exact hat.get (bO (bM ha.1 _) (ha.then (N.go a1).now λP2 s2 a2 ys is=>⟨dX,by
  obtain⟨ws2,n2,_,e2,p2⟩:=((N.go a1).go a2).now.own hc (ia.mono a2.gr.le);exact wpAny_mono (h ((N.go a1).go a2) ws2 ys n2 E e2 p2 is) (λy s3 q_=>Exists.p3 q_ λP3 Y3 i3=>⟨N.γ,P3,.refl _,Y3,i3⟩) λ_ _ q=>q⟩)))⟩
theorem app(hB:Wd c c.hb){i:Nat}{cs1:List Cell}(hb:baseOk e=true)(hline:bw p q=true)(he:REv c b σ e (.own i))(hc:σ.cs[i]?=some (.list xs))(hs:isStarred x=false)(hx:REv c b σ x u)(hr:Rt σ.cs u v cs1)(hc1:cs1[i]?=some (.list xs))(hf:flat v=true)(hz:xs.length<16777216) :
  REff c b σ (.Call (.Attribute e "append" p) [x] [] q) .none ⟨σ.lv,cs1.set i (.list (xs++[v]))⟩ :=
 n8 hb hline (by show 1<20;decide) he hc (cons hs hx nil) F.slot_list_append F.type_list_append λN ys zs n E e1 p1 is=>by
  obtain⟨_,rfl,h1⟩:=is.one;obtain⟨P1,X1,f1,i1⟩:=lW N.Y h1 hr;have hlen:=p1.length;rw[Lp] at hlen;refine wpAny_list_append_plain (hsz:=by show _<=16777216;omega) ⟨n,e1⟩ λh' ⟨n',e'⟩ hs=>⟨P1,?_,.pu .none⟩
  exact X1.list hB hc1 (t:=N.s.toks) hs e' (by rw[Oo];exact(p1.mono f1).append (.cons (i1.flat hf) .nil))
theorem pop(hB:Wd c c.hb){i:Nat}(hb:baseOk e=true)(hline:bw p q=true)(he:REv c b σ e (.own i))(hc:σ.cs[i]?=some (.list (xs++[v])))(hz:xs.length<16777216):REff c b σ (.Call (.Attribute e "pop" p) [] [] q) v ⟨σ.lv,σ.cs.set i (.list xs)⟩ :=
 n8 hb hline (by decide) he hc nil F.slot_list_pop F.type_list_pop λN ys zs n E e1 p1 is=>by
  obtain rfl:=is.zero;have hlen:=p1.length;rw[Lp,KR] at hlen;simp only[Ln] at hlen;obtain⟨y,e2,e3⟩:=p1.get (i:=xs.length) (d:=v) (by simp)
  have hy:ys[ys.size-1]?=some y:=by rw[hlen,Qz,<-e2];simp
  refine call_meets F.slot_list_pop ⟨_,e1,rfl⟩ F.entry_list_pop (F.args_list_pop_1 _) (MeetsSeq.list_pop_last (N.γ.ρ i) ys n y hy (by show _<=16777216;omega)) ⟨e1,N.P,N.Y.mapped hB hc e1 _ ?_ N.s.toks,.pu e3⟩
  have:(ys.eraseIdxIfInBounds (ys.size-1)).toList=ys.toList.take xs.length:=by
   rw[Sd,List.eraseIdx_eq_take_drop_succ,NP (by rw[Lp];omega),Lg,hlen,Qz]
  rw[this];have:=PuL.take xs.length p1;simpa using this
theorem qW{s:Shared}{y:Addr}{vs:Array Value}{xs:List V}{x:Str}{t:Tok}{ss:List Str}{P:Frz}(p:PuL P vs.toList xs)(h:txts xs=some ss) :
  (∀z∈vs,MeetsSeq.EqGives z (.str x t) (match z with | .str z _=>z.cps.toList==x.cps.toList | _=>false))/\vs.size=ss.length /\
  ∀m (hm:m<vs.size),(match vs[m] with | .str z _=>z.cps.toList==x.cps.toList | _=>false)=decide (ss[m]?=some x):=by
 have hS:=gQ p h;have hl:=gU hS;rw[Lp] at hl;refine⟨λy hy=>?_,hl,λm hm=>?_⟩
 ·obtain⟨j,hj,rfl⟩:=Array.mem_iff_getElem.mp hy
  obtain⟨z,u,e1,_⟩:=qd hS j (v:=vs[j]) (by simp[hj])
  rw[e1];exact SeqRoads2.EqGives.str z x u t
 ·obtain⟨z,u,e1,e2⟩:=qd hS m (v:=vs[m]) (by simp[hm])
  rw[e1,e2];show(z.cps.toList==x.cps.toList)=_;rw[Str.toList_beq,Np];simp
theorem remove(hB:Wd c c.hb){i:Nat}{s:Str}{ts:List Str}(hb:baseOk e=true)(hline:bw p q=true)(he:REv c b σ e (.own i))(hc:σ.cs[i]?=some (.list xs))(hs:isStarred x=false)(hx:REv c b σ x (.str s))(ht:txts xs=some ts)(hm:s∈ts)(hz:xs.length<=16777216) :
  REff c b σ (.Call (.Attribute e "remove" p) [x] [] q) .none ⟨σ.lv,σ.cs.set i (.list ((aY s ts).map .str))⟩ :=
 n8 hb hline (by show 1<20;decide) he hc (cons hs hx nil) F.slot_list_remove F.type_list_remove λN ys zs n E e1 p1 is=>by
  obtain⟨_,rfl,h1⟩:=is.one;obtain⟨t,rfl⟩:=h1.str_inv;obtain⟨hf,hl,hat⟩:=qW (s:=N.s) (y:=0) (x:=s) (t:=t) p1 ht;obtain⟨j,j1,j2,j3⟩:=vB hm;have hj:j<ys.size:=by have:=(Ld.mp j1).1;omega
  have hlen:=p1.length;rw[Lp] at hlen;refine call_meets F.slot_list_remove ⟨_,e1,rfl⟩ F.entry_list_remove (F.args_list_remove_2 _ _) (MeetsSeq.list_remove (N.γ.ρ i) ys n (.str s t) _ hf j hj (by rw[hat j hj,j1];exact decide_eq_true rfl) (λm hm hmj=>by
   rw[hat m hm];exact decide_eq_false λq=>j2 m hmj s q rfl) (by show _<=16777216;omega)) ⟨e1,N.P,N.Y.mapped hB hc e1 _ ?_ N.s.toks,.pu .none⟩
  rw[Sd,<-j3];exact pZ (yE (gQ p1 ht) j)
theorem removeX{i:Nat}{s:Str}{ts:List Str}(hb:baseOk e=true)(hline:bw p q=true)(he:REv c b σ e (.own i))(hc:σ.cs[i]?=some (.list xs))(hs:isStarred x=false)(hx:REv c b σ x (.str s))(ht:txts xs=some ts)(hm:s∉ts) :
  REfx c b σ (.Call (.Attribute e "remove" p) [x] [] q) "ValueError" σ:=⟨rfl,λN Q=>dB hb (cons hs hx nil:REvs c b σ [x] [.str s]).1 (by decide:1<20) hline (he.then N.now λP1 s1 a1 xa ia pl=>by
 obtain⟨ws,n,rfl,e1,p1⟩:=(N.go a1).now.own hc ia;have hat:MethAt c s1 (.ref (N.γ.ρ i)) "remove" "list" "list.remove":=⟨F.plainAttrs_list,F.slot_list_remove,F.type_list_remove,⟨_,e1,rfl⟩,λa' e=>by cases e;exact⟨_,e1,rfl⟩⟩
 refine hat.get (bO (bM (cons hs hx nil:REvs c b σ [x] [.str s]).1 _) ((cons hs hx nil:REvs c b σ [x] [.str s]).then (N.go a1).now λP2 s2 a2 ys is=>⟨dX,?_⟩));obtain⟨vs2,n2,_,e2,p2⟩:=((N.go a1).go a2).now.own hc (ia.mono a2.gr.le);obtain⟨_,rfl,h1⟩:=is.one;obtain⟨t,rfl⟩:=h1.str_inv;obtain⟨hf,hl,hat⟩:=qW (s:=N.s) (y:=0) (x:=s) (t:=t) p2 ht;exact call_meets F.slot_list_remove ⟨_,e2,rfl⟩ F.entry_list_remove (F.args_list_remove_2 _ _) (MeetsSeq.list_remove_none (N.γ.ρ i) vs2 n2 (.str s t) _ hf λm hm'=>by
  rw[hat m hm'];exact decide_eq_false λq=>hm (Oa q)) ⟨e2,N.hA.handled,λh' tk e' q=>N.thrown (((mz (A:=N.A) a2.st q).after a2).after a1)⟩)⟩
theorem effObj{i:Nat}{cl:Str}{ats:List (Str × V)}{cs1:List Cell}(hb:baseOk e=true)(hline:bw p q=true)(hn:as.length<20)(he:REv c b σ e (.obj i))(hc:σ.cs[i]?=some (.inst cl ats))(ha:REvs c b σ as vs)(hno:aget m ats=.none)(hm:MeOk c b cl m σ.cs i vs v cs1) :
  REff c b σ (.Call (.Attribute e m p) as [] q) v ⟨σ.lv,cs1⟩:=⟨rfl,λN E=>dB hb ha.1 hn hline (he.then N.now λP1 s1 a1 xa ia pl=>by
 obtain⟨x,rfl,hi,ho⟩:=ia.obj_inv;obtain⟨es,ep,hin,hv,hn'⟩:=fB a1.st hc ho;obtain⟨f,ob,fd,hf,hd,hget,hcall⟩:=hm;refine hget N.A E s1 x _ es ep _ pl a1.st.wd hin (hn' m hno) ?_;refine bO (bM ha.1 _) (ha.then (N.go a1).now λP2 s2 a2 ys is=>⟨⟨.frame,λQ' hq=>by
  unfold keeperOf;refine wpAny_bind (wpAny_load (a2.st.wd.kp _ _ hf) ?_);rw[hd];exact wpAny_pure hq⟩,?_⟩)
 exact wpAny_mono (hcall σ.lv ((N.go a1).go a2) ys x E (ia.mono a2.gr.le) is) (λy s3 q_=>Exists.p3 q_ λP3 X3 i3=>⟨N.γ,P3,.refl _,X3,i3⟩) λ_ _ q=>q)⟩
end R
end
end
section
def RKw(c:Cx)(b:Nat)(σ:Sg)(ks:List Keyword)(kv:List (Str × V)):Prop:=∀(N:Run c b σ) (E:Value->Shared->Prop) (pos:Pos),
 ((backToKw pos (keywordEach ks N.env)).all (·.1.isSome)=true/\(backToKw pos (keywordEach ks N.env)).filterMap (·.1)=kv.map (·.1))/\N.wp (evalAll ((backToKw pos (keywordEach ks N.env)).map (·.2))) (λxs s'=>∃P',N.now.To P' s'/\IsL c.D N.γ P' xs (kv.map (·.2))) E
section
variable{c:Cx}{g:Glb}{b:Nat}{σ τ υ:Sg}{e l r x y t elt iter:Expr}{es as:List Expr}{u v w d:V}{vs ws xs ys zs:List V}{p q px pos py pz ph:Pos}{k j:Bool}{n:Nat}{nm m nm':Str}{st:Stmt}{ss bd b1 b2:List Stmt}{f:Fl}{kx:String}
variable{fr rest:List Env}{γ γ':Gh}{P0 P P':Frz}{s0 s s':Shared}{cs cs':List Cell}
namespace R
theorem kwNil:RKw c b σ [] []:=λN E pos=>⟨⟨rfl,rfl⟩,wpAny_evalAll_nil ⟨N.P,.refl N.Y.st,.nil⟩⟩
theorem kwCons{kv:List (Str × V)}{ks:List Keyword}(h:REv c b σ e v)(hr:RKw c b σ ks kv):RKw c b σ (⟨some nm,e,p⟩::ks) ((nm,v)::kv):=λN E pos=>by
 have shape:=(hr N (λ_ _=>True) pos).1;refine⟨⟨?_,?_⟩,?_⟩
 ·show(true&&(backToKw pos (keywordEach ks N.env)).all (·.1.isSome))=true
  rw[shape.1];rfl
 ·show nm::(backToKw pos (keywordEach ks N.env)).filterMap (·.1)=_
  rw[shape.2];rfl
 ·show wpAny c.M N.A (evalAll ((do let v <- eval e N.env;standAt pos;pure v)::(backToKw pos (keywordEach ks N.env)).map (·.2))) _ E N.s
  refine wpAny_evalAll_cons (wpAny_bind (h.then N.now λP1 s1 a1 x1 i1=>wpAny_bind (wpAny_standAt (wpAny_pure ?_))));exact wpAny_mono (hr (N.go a1) E pos).2 (λxs s2 q_=>Exists.p3 q_ λP2 a2 i2=>⟨P2,a1.trans a2,.cons (i1.mono a2.gr.le) i2⟩) λ_ _ q=>q
theorem effCall{kn:Str}{ks:List Keyword}{kv:List (Str × V)}{cs1:List Cell}(hg:aj c g){lv:Lv}{lr:List Lv}(hl:σ.lv=lv::lr)(hn:Nm g σ.cs nm lv (.gl kn))(ha:REvs c b σ as vs)(hk:RKw c b σ ks kv)(hc:CmOk c b kn σ.cs vs kv v cs1) :
  REff c b σ (.Call (.Name nm p) as ks q) v ⟨σ.lv,cs1⟩:=⟨rfl,λN E=>by
 cases hl.symm.trans N.hl;refine wpAny_Call_Name_kw (aR hg N.Y.st N.he hn λxa ia=>?_);obtain⟨fv,hf,hcall⟩:=hc;cases hf.symm.trans ia.gl_inv;have shape:=(hk N E q).1;refine v9 (bM ha.1 _) shape.1 (ha.then N.now λP1 s1 a1 xs is=>wpAny_mono (hk (N.go a1) E q).2 (λys s2 q_=>Exists.p3 q_ λP2 a2 i2=>?_) λ_ _ q=>q);rw[Mj,shape.2];exact hcall σ.lv ((N.go a1).go a2) xs ys E (is.mono a2.gr.le) i2⟩
theorem asg2(hB:Wd c c.hb){p1 p2:Pos}(he:REv c b σ e v)(h1:Sv nm v σ τ)(h2:Sv nm' v τ υ):RX c b σ (.Assign [.Name nm p1,.Name nm' p2] e pos) .next υ:=⟨h2.lv.trans h1.lv,λN=>by
 have hw:swappedStores [.Name nm p1,.Name nm' p2] e N.env=pure none:=by cases e <;> rfl
 exact wpAny_Assign_two (he.then N.now λP1 s1 a1 x i1=>wpAny_assign_Name ((N.go a1).Y.set hB N.hl N.he i1 h1 λs2 Y2 lv2 _ =>
  wpAny_assign_Name (Y2.set hB (lv2.trans N.hl) N.he i1 h2 λs3 Y3 _ _=>⟨N.γ,P1,.refl _,Y3,.next⟩))) rfl hw⟩
theorem asgT(hB:Wd c c.hb){p1 p2:Pos}{kk:Nat}{fn:Expr}{ks:List Keyword}(he:REv c b σ (.Call fn as ks q) (.tup [u,v]))(h1:Sv nm u σ τ)(h2:Sv nm' v τ υ):RX c b σ (.Assign [.Tuple [.Name nm p1,.Name nm' p2] kk p] (.Call fn as ks q) pos) .next υ:=⟨h2.lv.trans h1.lv,λN =>
 wpAny_Assign_stores (he.then N.now λP1 s1 a1 x i1=>show wpAny c.M N.A (assign (.Tuple [.Name nm p1,.Name nm' p2] kk p) N.env x) _ _ _ from(N.go a1).Y.pair hB N.hA N.hl N.he i1 h1 h2 λs2 Y2 _=>⟨N.γ,P1,.refl _,Y2,.next⟩)
  (show swapsWith (.Call fn as ks q) (some (.Tuple [.Name nm p1,.Name nm' p2] kk p)) pos.line N.env=pure false from rfl) rfl⟩
theorem asgI(hB:Wd c c.hb){i:Nat}{n:Nat}(hs:isSlice y=false)(he:REv c b σ e v)(hx:REv c b σ x (.own i))(hy:REv c b σ y (.int n))(hf:flat v=true)(hc:σ.cs[i]?=some (.list xs))(hn:n<xs.length)(hz:xs.length<=16777216) :
  RX c b σ (.Assign [.Subscript x y p] e pos) .next ⟨σ.lv,σ.cs.set i (.list (xs.set n v))⟩:=⟨rfl,λN =>
 wpAny_Assign_Subscript (he.then N.now λP1 s1 a1 x1 i1=>hx.then (N.go a1).now λP2 s2 a2 x2 i2=>hy.then ((N.go a1).go a2).now λP3 s3 a3 x3 i3=>by
  obtain⟨t,rfl⟩:=i3.int_inv;obtain⟨ys,m,rfl,e1,p1⟩:=(((N.go a1).go a2).go a3).now.own hc (i2.mono a3.gr.le);have hlen:=p1.length;rw[Lp] at hlen;refine zZ e1 (Nk n) (by omega) (by omega) ⟨N.γ,P3,.refl _,(((N.go a1).go a2).go a3).Y.mapped hB hc e1 _ ?_ s3.toks,.next⟩
  rw[Array.toList_setIfInBounds,Q4];exact p1.set (((i1.flat hf).mono a2.gr.le).mono a3.gr.le) _) Dv⟩
theorem asgAt(hB:Wd c c.hb)(he:REff c b σ e v τ)(hx:REv c b τ x u)(hp:Pa c τ u nm v υ):RX c b σ (.Assign [.Attribute x nm p] e pos) .next υ:=⟨by obtain⟨_,_,_,_,_,_,_,rfl⟩:=hp;exact he.1,λN =>
 plainObj_wpAny_Assign_Attribute (he.then N λγ1 P1 s1 g1 Y1 x1 i1=>hx.then (N.to g1 he.1 Y1).now λP2 s2 a2 x2 i2 =>
  wpAny_mono (((N.to g1 he.1 Y1).go a2).attr hB i2 (i1.mono a2.gr.le) hp) (λ_ s3 ⟨γ3,P3,g3,r⟩=>⟨γ3,P3,g1.trans g3,r⟩) λ_ _ q=>q) Dw⟩
theorem load(N:Run c b σ){lv:Lv}{lr:List Lv}(hl:σ.lv=lv::lr){vl:List (Str × V)}(hk:aget nm lv.names=some .local)(hc:σ.cs[lv.loc]?=some (.vars vl))(h:aget nm vl=some v){Q E:Value->Shared->Prop}(hq:∀x,Is c.D N.γ N.P x v->Q x N.s):N.wp (loadName N.env nm) Q E:=by
 cases hl.symm.trans N.hl;obtain⟨es,hn,hv⟩:=N.Y.st.real.ns hc;obtain⟨x,e1,e2⟩:=hv nm v h;exact wpAny_loadName_local N.he.fn (N.he.loc_ nm hk) (by rw[N.he.loc];exact hn) e1 (hq x e2)
theorem augN(hB:Wd c c.hb){lv:Lv}{lr:List Lv}(hl:σ.lv=lv::lr){vl:List (Str × V)}(hk:aget nm lv.names=some .local)(hc:σ.cs[lv.loc]?=some (.vars vl))(h:aget nm vl=some u)(he:REv c b σ e v)(hi:Ip c b σ u v w)(hs:Sv nm w σ τ):RX c b σ (.AugAssign (.Name nm p) .Add e pos) .next τ:=⟨hs.lv,λN =>
 wpAny_AugAssign_Name (load N hl hk hc h λx i=>he.then N.now λP1 s1 a1 x1 i1=>wpAny_mono (hi (N.go a1).now x x1 _ (i.mono a1.gr.le) i1) (λz s2 q_=>Exists.p3 q_ λP2 a2 i2 =>
  (((N.go a1).go a2).put hB i2 hs)) λ_ _ q=>q)⟩
theorem augA(hB:Wd c c.hb){i:Nat}{cl:Str}{ats:List (Str × V)}(hx:REv c b σ x (.obj i))(hc:σ.cs[i]?=some (.inst cl ats))(hk:AtG c cl nm)(h:aget nm ats=some u)(he:REv c b σ e v)(hi:Ip c b σ u v w)(hp:Pa c σ (.obj i) nm w τ):RX c b σ (.AugAssign (.Attribute x nm p) .Add e pos) .next τ:=⟨by obtain⟨_,_,_,_,_,_,_,rfl⟩:=hp;rfl,λN =>
 wpAny_AugAssign_AttributeAny (hx.then N.now λP1 s1 a1 x1 i1=>by
  obtain⟨ad,rfl,_,ho⟩:=i1.obj_inv;obtain⟨es,ep,hin,hv,hno⟩:=fB a1.st hc ho;obtain⟨z,w1,w2⟩:=hv nm u h;refine hk N.A _ s1 _ ad _ es ep z a1.st.wd hin w1 (w2.hand a1.st.wd) λtk=>?_
  let N1:=(N.go a1).go (.toks a1.st tk)
  exact he.then N1.now λP2 s2 a2 x2 i2=>wpAny_mono (hi (N1.go a2).now z x2 _ (w2.mono a2.gr.le) i2) (λy s3 q_=>Exists.p3 q_ λP3 a3 i3=>((N1.go a2).go a3).attr hB ((i1.mono a2.gr.le).mono a3.gr.le) i3 hp) λ_ _ q=>q)⟩
theorem if_(ht:RTr c b σ t k)(h:RXs c b σ (match k with | true=>b1 | false=>b2) f τ):RX c b σ (.If t b1 b2 pos) f τ:=⟨h.1,λN =>
 wpAny_If (wpAny_mono (ht N.now _) (λy s1 ⟨hy,P1,a1⟩=>by
  subst hy;have:=h.2 (N.go a1);cases y <;> exact this) λ_ _ q=>q)⟩
theorem ret{cs1:List Cell}(he:REv c b σ e v)(hr:Rt σ.cs v w cs1):RX c b σ (.Return (some e) pos) (.ret w) ⟨σ.lv,cs1⟩:=⟨rfl,λN =>
 wpAny_Return_some (he.then N.now λP1 s1 a1 x i1=>by
  obtain⟨P2,Y2,f2,i2⟩:=lW (N.go a1).Y i1 hr;exact⟨N.γ,P2,.refl _,Y2,.ret i2⟩)⟩
theorem retE(he:REff c b σ e v τ):RX c b σ (.Return (some e) pos) (.ret v) τ:=⟨he.1,λN =>
 wpAny_Return_some (he.then N λγ1 P1 s1 g1 Y1 x i1=>⟨γ1,P1,g1,Y1,.ret i1⟩)⟩
theorem retT{kk:Nat}{cs1:List Cell}(he:REvs c b σ es vs)(hr:Rts σ.cs vs ws cs1)(hf:ws.all flat=true)(hz:ws.length<=16777216):RX c b σ (.Return (some (.Tuple es kk p)) pos) (.ret (.tup ws)) ⟨σ.lv,cs1⟩:=⟨rfl,λN =>
 wpAny_Return_some (Tuple_ (he.then N.now λP1 s1 a1 xs is=>by
  obtain⟨P2,Y2,f2,i2⟩:=Ag (N.go a1).Y is hr;have p:=i2.flat hf;refine wpAny_newTuple ?_ (by rw[<-p.length] at hz;exact hz)
  obtain⟨P3,a3,i3⟩:=jU Y2.st p s1.toks;exact⟨N.γ,P3,.refl _,Y2.aft a3,.ret i3⟩))⟩
theorem brk:RX c b σ (.Break pos) .brk σ:=⟨rfl,λN=>wpAny_Break ⟨N.γ,N.P,.refl _,N.Y,.brk⟩⟩
theorem assert{mm:Option Expr}(h:RTr c b σ t true):RX c b σ (.Assert t mm pos) .next σ:=⟨rfl,λN =>
 wpAny_Assert_holds (wpAny_mono (h N.now _) (λy s1 ⟨hy,P1,a1⟩=>⟨hy,N.γ,P1,.refl _,N.Y.aft a1,.next⟩) λ_ _ q=>q)⟩
end R
end
end
section
section
variable{prog:Program}{w:World}{A:Around}{R:Result->Shared->Prop}{s:Shared}
theorem kZ{test:Expr}{body:List Stmt}{env:Env}
  (h:wpAny (model prog w) A (isTrue test env (eval test env)) (λb s₂ =>
   if b=true then wpAny (model prog w) A (execs body env) (λf s₃=>match f with
     | .next=>codeAny (model prog w) A (.whileLoop test body [] env) R s₃
     | .cont=>codeAny (model prog w) A (.whileLoop test body [] env) R s₃
     | .brk=>R (.ok .next) s₃
     | .ret v=>R (.ok (.ret v)) s₃) (notedBy (model prog w) A env λe s'=>R (.error e) s') s₂
   else R (.ok .next) s₂) (notedBy (model prog w) A env λe s'=>R (.error e) s') s) :
  codeAny (model prog w) A (.whileLoop test body [] env) R s:=by
 refine codeAny_of_tree ?_;show wpAny _ A ((whileTurn test body [] env).onRaise (λx=>do noteFrame x env;theTreesLotGoes x)) _ _ s
 refine wpAny_noted ?_;unfold whileTurn;refine wpAny_bind (wpAny_mono h (λb s₂ h₂=>?_) λ_ _ h'=>h');cases b with
 | false=>exact wpAny_bind (wpAny_execs_nil (wpAny_pure h₂))
 | true =>
  refine wpAny_bind (wpAny_mono h₂ (λf s₃ h₃=>?_) λ_ _ h'=>h');cases f with
  | next=>exact wpAny_pure ⟨rfl,h₃⟩
  | cont=>exact wpAny_pure ⟨rfl,h₃⟩
  | brk=>exact wpAny_pure h₃
  | ret v=>exact wpAny_pure h₃
theorem ux{tg:Expr}{it:Value}{body:List Stmt}{env:Env}
  (h:wpAny (model prog w) A (pyNext it) (λr s₁=>match r with
   | none=>R (.ok .next) s₁
   | some v=>wpAny (model prog w) A (letOwnedTupleGo tg it v) (λ_ s₁=>wpAny (model prog w) A (assign tg env v) (λ_ s₂=>wpAny (model prog w) A (execs body env) (λf s₃=>match f with
     | .next=>codeAny (model prog w) A (.forLoop tg it body [] env) R s₃
     | .cont=>codeAny (model prog w) A (.forLoop tg it body [] env) R s₃
     | .brk=>R (.ok .next) s₃
     | .ret v=>R (.ok (.ret v)) s₃) (notedBy (model prog w) A env λe s'=>R (.error e) s') s₂) (λ_ _=>False) s₁) (λ_ _=>False) s₁) (λ_ _=>False) s) :
  codeAny (model prog w) A (.forLoop tg it body [] env) R s:=by
 refine codeAny_of_tree ?_;show wpAny _ A ((forTurn tg it body [] env).onRaise (λx=>do noteFrame x env;theTreesLotGoes x)) _ _ s
 refine wpAny_noted ?_;unfold forTurn;refine wpAny_bind (wpAny_standAt (wpAny_bind (wpAny_onRaise (wpAny_mono h (λr s₁ h₁=>?_) λ_ _ h'=>h'.elim))));cases r with
 | none=>exact wpAny_pure ⟨rfl,codeAny_block (wpAny_execs_nil h₁)⟩
 | some v =>
  refine wpAny_bind (wpAny_mono h₁ (λ_ s₁ h₁=>wpAny_bind (wpAny_mono h₁ (λ_ s₂ h₂=>wpAny_bind (wpAny_mono h₂ (λf s₃ h₃=>?_) λ_ _ h'=>h')) λ_ _ h'=>h'.elim)) λ_ _ h'=>h'.elim);cases f with
  | next=>exact wpAny_pure ⟨rfl,h₃⟩
  | cont=>exact wpAny_pure ⟨rfl,h₃⟩
  | brk=>exact wpAny_pure h₃
  | ret v=>exact wpAny_pure h₃
end
theorem Hv:∀(xs:List V) (i:Nat),(bZ i xs).length=xs.length:=by
 intro l_
 induction l_ with
 | nil=>exact λ_=>rfl
 | cons _ r ih=>exact λi=>congrArg (· + 1) (ih (i+1))
theorem vz:∀(xs:List V) (i k:Nat) {d:V},(bZ i xs)[k]?=some d->∃x,xs[k]?=some x/\d=.tup [.int ((i+k:Nat):Int),x]
 | [],_,_,_,h=>nomatch h
 | x::r,i,0,d,h=>⟨x,rfl,(Option.some.inj h).symm⟩
 | x::r,i,k+1,d,h=>by
  obtain⟨y,e1,e2⟩:=vz r (i+1) k h;exact⟨y,by rw[Pg];exact e1,by rw[e2];congr 4;omega⟩
inductive Tg:V->Expr->Sg->Sg->Prop
 | name {x:V} {y:Str} {py:Pos} {σ τ:Sg}:Sv y x σ τ->Tg x (.Name y py) σ τ
 | pair {a b:V} {y z:Str} {py pz p:Pos} {n:Nat} {σ τ υ:Sg}:Sv y a σ τ->Sv z b τ υ->Tg (.tup [a,b]) (.Tuple [.Name y py,.Name z pz] n p) σ υ
theorem Tg.pairI{a b:V}{y z:Str}{py pz p:Pos}{n:Nat}{σ υ:Sg}(h:Tg (.tup [a,b]) (.Tuple [.Name y py,.Name z pz] n p) σ υ):∃τ,Sv y a σ τ/\Sv z b τ υ:=by
 cases h with
 | pair h k=>exact⟨_,h,k⟩
theorem all2{α:Type}{P:α->Prop}{a b:α}(h1:P a)(h2:P b):∀x∈[a,b],P x:=λx hx=>(KZ.mp hx).elim (λe=>e▸h1) λhx=>(MJ.mp hx)▸h2
theorem all3{α:Type}{P:α->Prop}{a b c:α}(h1:P a)(h2:P b)(h3:P c):∀x∈[a,b,c],P x:=λx hx=>(KZ.mp hx).elim (λe=>e▸h1) (all2 h2 h3 x)
theorem Tg.lv{x:V}{e:Expr}{σ τ:Sg}(h:Tg x e σ τ):τ.lv=σ.lv:=by
 cases h with
 | name h=>exact h.lv
 | pair h k=>exact k.lv.trans h.lv
structure Drive(c:Cx)(A:Around)(env:Env)(rest:List Env)(tg:Expr)(I:Addr)(W:List Addr)(xs:List V)(J:Nat->Frz->Heap->Prop):Prop where
 mono:∀k P P' h h',J k P h->FLe P P'->(∀b∈W,∀o,h.get? b=some o->h'.get? b=some o)->(∀b o,P b=some o->h.get? b=some o)->(∀b o,P' b=some o->h'.get? b=some o)->J k P' h'
 there:∀k P h,J k P h->∀b∈W,∃o,h.get? b=some o/\aZ o
 turn:∀k x γ P0 s0 P s σ σ' l lr (Q:Shared->Prop),Act c (env::rest) γ P0 s0 P s σ.cs->σ.lv=l::lr->aM c γ env l->(∀b∈W,aF c γ P s0.heap b)->J k P s.heap->xs[k]?=some x->Tg x tg σ σ' ->
  (∀s1,Act c (env::rest) γ P0 s0 P s1 σ'.cs->J (k+1) P s1.heap->Q s1) ->
  wpAny c.M A (pyNext (.ref I)) (λr s₁=>∃v,r=some v/\wpAny c.M A (letOwnedTupleGo tg (.ref I) v) (λ_ s₂=>wpAny c.M A (assign tg env v) (λ_ s₃=>Q s₃) (λ_ _=>False) s₂) (λ_ _=>False) s₁) (λ_ _=>False) s
 done:∀γ P0 s0 P s cs (Q:Shared->Prop),Act c (env::rest) γ P0 s0 P s cs->(∀b∈W,aF c γ P s0.heap b)->J xs.length P s.heap->(∀s1,Act c (env::rest) γ P0 s0 P s1 cs->Q s1) ->
  wpAny c.M A (pyNext (.ref I)) (λr s₁=>r=none/\Q s₁) (λ_ _=>False) s
section
variable{c:Cx}{g:Glb}{A:Around}{fr rest:List Env}{γ γ':Gh}{P0 P P':Frz}{s0 s s':Shared}{cs cs':List Cell}{E:Value->Shared->Prop}{b:Nat}{env:Env}{σ σ' τ:Sg}{l:Lv}{lr:List Lv}{L:Addr}
theorem Gy{fr:List Env}{γ γ2:Gh}{P0 P1 P2:Frz}{s0 s1 s2:Shared}{cs1 cs2:List Cell}{W:List Addr}(X1:Act c fr γ P0 s0 P1 s1 cs1)(hb:∀b∈W,aF c γ P1 s0.heap b)(hw:∀b∈W,∃o,s1.heap.get? b=some o/\aZ o)
  (X2:Act c fr γ2 (P1.over W s1.heap) s0 P2 s2 cs2) :
  Act c fr γ2 P0 s0 (P2.less W) s2 cs2/\FLe P1 (P2.less W)/\(∀b∈W,aF c γ2 (P2.less W) s0.heap b)/\∀b∈W,∀o,s1.heap.get? b=some o->s2.heap.get? b=some o:=by
 have at2:∀b∈W,∃o,P2 b=some o/\aZ o/\s1.heap.get? b=some o:=λb h=>by
  obtain⟨o,e,w⟩:=hw b h;exact⟨o,X2.since.gr.le b o (by unfold Frz.over;rw[if_pos h];exact e),w,e⟩
 have G:Gr P0 (P1.over W s1.heap) s0.heap:=(X1.freeze hb hw).since.gr;have X3:Act c fr γ2 P0 s0 P2 s2 cs2:=X2.under G;have h0:∀b∈W,P0 b=none:=λb h=>by
  cases q:P0 b with
  | none=>rfl
  | some o=>have:=X1.since.gr.le b o q;rw[(hb b h).p] at this;cases this
 refine⟨X3.thaw (λb h=>let ⟨o,e,w,_⟩:=at2 b h;⟨o,e,w⟩) h0,λb o e=>?_,λb h=>⟨by unfold Frz.less;rw[if_pos h],λi hi q=>?_,(hb b h).z,(hb b h).b⟩,λb h o e=>?_⟩
 ·have nb:b∉W:=λh=>by rw[(hb b h).p] at e;cases e
  exact jK (X2.since.gr.le b o (rH (λb h=>(hb b h).p) _ b o e)) nb
 ·obtain⟨o,e,w,_⟩:=at2 b h
  obtain⟨cl,hc⟩:∃cl,cs2[i]?=some cl:=by
   rw[X2.st.real.k] at hi;exact⟨cs2[i],Lb hi⟩
  by_cases hd:cl=.dead
  ·subst hd
   obtain⟨vs,n,e'⟩:=X2.st.real.cell i _ hc;rw[q,X2.st.real.le _ _ e] at e';cases e';exact w.not rfl (by decide)
  ·have:=X2.st.real.off i cl hc hd
   rw[q,e] at this;cases this
 ·obtain⟨o',e1,_,e2⟩:=at2 b h
  rw[e] at e2;cases e2;exact X2.st.real.le _ _ e1
theorem HD(hB:Wd c c.hb)(hA:Am c A (env::rest) b){Pw:Frz}{I:Addr}{fp:List Addr}{xs:List V}{Pn:Nat->Value->Prop}{T:Nat->Heap->Prop}(w:Wk c A Pw I fp xs Pn T)(tg:Expr)
  (hgo:∀k h v (s:Shared) (Q:Unit->Shared->Prop) (E:Value->Shared->Prop),T k h->s.heap=h->Q () s->wpAny c.M A (letOwnedTupleGo tg (.ref I) v) Q E s) :
  Drive c A env rest tg I [I] xs (λk P h=>FLe Pw P/\T k h):=by
 have one:∀ {b},b∈[I]->b=I:=λh=>by simpa using h
 have th:∀k h,T k h->∀b∈[I],∃o,h.get? b=some o/\aZ o:=λk h t b hb=>by rw[one hb];exact w.wlk k h t
 refine⟨λk P P' h h' j fl hw h1 h2=>⟨j.1.trans fl,(w.mono j.1).frame j.2 (λo e=>hw I (.head _) o e) h1 λb o e=>h2 b o (fl b o e)⟩,λk P h j=>th k h j.2,λk x γ P0 s0 P s σ σ' l lr Q X hl he hb j hx ht hQ=>?_,λγ P0 s0 P s cs Q X hb j hQ =>
  w.W.done s _ _ j.2 λh' tk keep=>⟨rfl,hQ _ (X.walk hB hb (th _ _ j.2) keep)⟩⟩
 refine w.W.item k s _ _ (Ld.mp hx).1 j.2 λv h1 tk hv t1 keep=>⟨v,rfl,?_⟩;have X1:=X.walk hB hb (th _ _ j.2) (t:=tk) (h':=h1) keep;have pv:=(w.item k v hv x hx).mono j.1;refine hgo (k+1) h1 v _ _ _ t1 rfl ?_;have fin:∀s2,Act c (env::rest) γ P0 s0 P s2 σ'.cs->(∀b o,(∀i,i<γ.k->γ.ρ i≠b)->h1.get? b=some o->s2.heap.get? b=some o)->Q s2:=λs2 X2 k2 =>
  hQ s2 X2 ⟨j.1,(w.mono j.1).frame t1 (λo e=>k2 I o (λi hi=>(hb I (.head _)).n i hi) e) X1.st.real.le X2.st.real.le⟩
 cases ht with
 | name h=>exact wpAny_assign_Name (X1.set hB hl he (.pu pv) h λs2 X2 lv2 k2=>fin s2 X2 k2)
 | pair h h'=>exact X1.pair hB hA hl he (.pu pv) h h' λs2 X2 k2=>fin s2 X2 k2
theorem HF(hB:Wd c c.hb)(hA:Am c A (env::rest) b){e it ax:Addr}{vs:Array Value}{n:Nat}{xs:List V}{Pw:Frz}(ha:Pw ax=some (aa vs n))(p:PuL Pw vs.toList xs)(hei:e≠it)(hle:ax≠e)(hli:ax≠it)(y z:Str)(py pz pp:Pos)(nn:Nat) :
  Drive c A env rest (.Tuple [.Name y py,.Name z pz] nn pp) e [e,it] (bZ 0 xs) (λk P h=>FLe Pw P/\(∃old,IsEnum h e it k old)/\h.IsListIter it ax k/\h.IsList ax vs):=by
 have W:=WalksT.enumerate (prog:=c.prog) (w:=c.w) hA.handled e it ax hei hle hli vs;have hlen:=p.length;rw[Lp] at hlen;have there:∀(k:Nat) h,((∃old,IsEnum h e it k old)/\h.IsListIter it ax k/\h.IsList ax vs)->∀b∈[e,it],∃o,h.get? b=some o/\aZ o:=by
  intro k h j b hb;obtain⟨⟨old,h1⟩,⟨o,h2,h3,_⟩,_⟩:=j;exact all2 (P:=λb=>∃o,h.get? b=some o/\aZ o) ⟨_,h1,_,rfl,by decide⟩ ⟨o,h2,_,h3,by decide⟩ b hb
 have frm:∀(k:Nat) (P P':Frz) (h h':Heap),((∃old,IsEnum h e it k old)/\h.IsListIter it ax k/\h.IsList ax vs)->FLe Pw P->FLe P P'->(∀b∈[e,it],∀o,h.get? b=some o->h'.get? b=some o)->(∀b o,P b=some o->h.get? b=some o)->(∀b o,P' b=some o->h'.get? b=some o) ->
   ((∃old,IsEnum h' e it k old)/\h'.IsListIter it ax k/\h'.IsList ax vs):=λk P P' h h' j f1 f2 hw h1 h2=>W.frame k h h' j (all3 (P:=λb=>∀o,h.get? b=some o->h'.get? b=some o) (hw _ (.head _)) (hw _ (.tail _ (.head _))) λo eo=>by
  rw[h1 _ _ (f1 _ _ ha)] at eo;cases eo;exact h2 _ _ (f2 _ _ (f1 _ _ ha)))
 refine⟨λk P P' h h' j fl hw h1 h2=>⟨j.1.trans fl,frm k P P' h h' j.2 j.1 fl hw h1 h2⟩,λk P h j=>there k h j.2,λk x γ P0 s0 P s σ σ' l lr Q X hl he hb j hx ht hQ=>?_,λγ P0 s0 P s cs Q X hb j hQ=>?_⟩
 ·obtain⟨x0,hx0,rfl⟩:=vz xs 0 k hx
  have lt:k<vs.size:=by
   have:=(Ld.mp hx0).1;omega
  refine W.item k s _ _ lt j.2 λT vals h1 tk hv hT hT1 hmid keep=>⟨_,rfl,?_⟩;obtain⟨t,w0,hw0,rfl⟩:=hv;have X1:=X.walk hB hb (there k _ j.2) (t:=tk) (h':=h1) keep;obtain⟨⟨xo,ho⟩,⟨oi,hi1,hi2,hi3⟩,hL,hTe,hTi⟩:=id hmid;refine W.go _ _ _ k T _ _ _ hmid λh2 st2 keep2=>?_;have hw1:∀b∈[e,it],∃o,h1.get? b=some o/\aZ o:=all2 ⟨_,ho,_,rfl,by decide⟩ ⟨oi,hi1,_,hi2,by decide⟩
  have X2:=X1.walk hB hb hw1 (t:=tk) (h':=h2) keep2;obtain⟨w1,hw1',pw⟩:=p.get hx0;have e2:w0=w1:=by
   have:vs[k]?=some w1:=by rw[<-hw1'];simp
   rw[hw0] at this;exact Option.some.inj this
  subst e2;have hT2:h2.IsTuple T #[.int k t,w0]:=hT1.at λo eo=>keep2 T o (λq=>W.apart k T h1 hmid q) eo;obtain⟨υ,e1,e2⟩:=ht.pairI;exact X2.pair0 hB hA hl he hT2 (.pu (by simpa using Pu.int (P:=P) (k:Int) t)) (.pu (pw.mono j.1)) e1 e2 λs3 X3 k3=>hQ s3 X3 ⟨j.1,frm (k+1) P P h2 s3.heap st2 j.1 (.refl _) (λb hb' o eo=>k3 b o (λi hi=>(hb b hb').n i hi) eo) X2.st.real.le X3.st.real.le⟩
 ·rw[Hv] at j
  exact W.done s _ _ (by rw[hlen];exact j.2) λh' tk keep=>⟨rfl,hQ _ (X.walk hB hb (there _ _ j.2) keep)⟩
end
end
section
abbrev Run.H{c:Cx}{b:Nat}{σ:Sg}(N:Run c b σ)(cs:List Cell)(fl:Fl)(x:Value)(s':Shared):Prop:=∃γ' P' k,N.γ.Le γ'/\fl=.exc k/\N.Ac γ' P' s' cs/\Held c γ' N.s0 P' s' (rawInt N.L) k x
abbrev Run.R{c:Cx}{b:Nat}{σ:Sg}(N:Run c b σ)(cs:List Cell)(fl:Fl)(r:Result)(s':Shared):Prop:=match r with
 | .ok f=>N.Q cs fl f s'
 | .error x=>N.H cs fl x s'
def RWh(c:Cx)(b:Nat)(σ:Sg)(t:Expr)(bd:List Stmt)(fl:Fl)(τ:Sg):Prop:=τ.lv=σ.lv/\∀N:Run c b σ,codeAny c.M N.A (.whileLoop t bd [] N.env) (N.R τ.cs fl) N.s
def RFor(c:Cx)(b:Nat)(σ:Sg)(tg:Expr)(bd:List Stmt)(xs:List V)(fl:Fl)(τ:Sg):Prop:=τ.lv=σ.lv/\∀(N:Run c b σ) I W xs0 J k,Drive c N.A N.env N.rest tg I W xs0 J->(∀b∈W,aF c N.γ N.P N.s0.heap b)->J k N.P N.s.heap->xs0.drop k=xs->k+xs.length=xs0.length ->
 codeAny c.M N.A (.forLoop tg (.ref I) bd [] N.env) (N.R τ.cs fl) N.s
section
variable{c:Cx}{g:Glb}{b:Nat}{σ τ υ ρ:Sg}{e l r x y t elt iter tg:Expr}{es as:List Expr}{u v w d:V}{vs ws xs ys zs:List V}{p q px pos py pz ph:Pos}{k j:Bool}{n:Nat}{nm m nm':Str}{st:Stmt}{ss bd b1 b2:List Stmt}{f:Fl}{kx:String}
theorem Run.up(N:Run c b σ){γ':Gh}{P':Frz}{s1:Shared}(g:N.γ.Le γ')(hlv:τ.lv=σ.lv)(Y:N.Ac γ' P' s1 τ.cs){r:Result}{s':Shared}{cs:List Cell}(h:(N.to g hlv Y).R cs f r s'):N.R cs f r s':=by
 cases r with
 | ok f=>obtain⟨γ2,P2,g2,q⟩:=h;exact⟨γ2,P2,g.trans g2,q⟩
 | error x=>obtain⟨γ2,P2,k,g2,q⟩:=h;exact⟨γ2,P2,k,g.trans g2,q⟩
theorem Run.noted(hB:Wd c c.hb)(N:Run c b σ){E':Value->Shared->Prop}{x:Value}{s':Shared}{cs:List Cell}(h:N.X cs f x s')(hR:∀s',N.H cs f x s'->E' x s'):notedBy c.M N.A N.env E' x s':=by
 obtain⟨γ',P',k,g1,e1,X1,T1⟩:=h;exact mV hB N.hA.frames N.hf X1 T1 λh' X2 H2=>hR _ ⟨γ',P',k,g1,e1,X2,H2⟩
theorem Run.ends(hB:Wd c c.hb)(N:Run c b σ){cs:List Cell}{s':Shared}:∀(r:Result),N.R cs f r s'->(match r with | .ok f'=>N.Q cs f f' s' | .error e=>cameBackBy c.M N.A N.env (N.X cs f) e s')
 | .ok f',h=>h
 | .error x,h=>by
  obtain⟨γ1,P1,k,g1,ek,Y1,H1⟩:=h;exact Jq hB N.hf Y1 H1 λh' Y2 T2=>⟨γ1,P1,k,g1,ek,Y2,T2⟩
namespace R
theorem while_(hB:Wd c c.hb)(h:RWh c b σ t bd f τ):RX c b σ (.While t bd [] pos) f τ:=⟨h.1,λN=>wpAny_While (codeAny_mono (h.2 N) λr s1 q=>N.ends hB r q)⟩
theorem whF(h:RTr c b σ t false):RWh c b σ t bd .next σ:=⟨rfl,λN=>kZ (wpAny_mono (h N.now _) (λy s1 ⟨hy,P1,a1⟩=>by
 subst hy;rw[if_neg (by decide)]
 exact⟨N.γ,P1,.refl _,N.Y.aft a1,.next⟩) λ_ _ q=>q)⟩
theorem whX(hB:Wd c c.hb)(h:RTx c b σ t kx):RWh c b σ t bd (.exc kx) σ:=⟨rfl,λN=>kZ (wpAny_mono (h N.now _) (λ_ _ q=>q) λx s1 q=>N.noted hB (N.thrown q) λs' q=>q)⟩
theorem lg(hB:Wd c c.hb){fb:Fl}(ht:RTr c b σ t true)(hb:RXs c b σ bd fb τ)(hlv:υ.lv=σ.lv)
  (hgo:∀(N:Run c b σ) γ' P' s' (g:N.γ.Le γ') (Y:N.Ac γ' P' s' τ.cs) (f':Flow),dF c.D γ' P' f' fb->match f' with
   | .next=>codeAny c.M N.A (.whileLoop t bd [] N.env) (N.R υ.cs f) s'
   | .cont=>codeAny c.M N.A (.whileLoop t bd [] N.env) (N.R υ.cs f) s'
   | .brk=>N.R υ.cs f (.ok .next) s'
   | .ret v=>N.R υ.cs f (.ok (.ret v)) s') (hx:∀k,fb=.exc k->f=.exc k/\υ=τ):RWh c b σ t bd f υ:=⟨hlv,λN=>kZ (wpAny_mono (ht N.now _) (λy s1 ⟨hy,P1,a1⟩=>by
 subst hy;rw[if_pos rfl];refine wpAny_mono (hb.2 (N.go a1)) (λf' s2 q_=>Exists.p5 q_ λγ2 P2 g2 Y2 i2=>?_) λz s2 q=>?_
 ·have:=hgo (N.go a1) γ2 P2 s2 g2 Y2 f' i2
  cases f' <;> exact this
 ·obtain⟨_,_,kk,_,ek,_⟩:=id q
  obtain⟨rfl,rfl⟩:=hx kk ek;subst ek;exact(N.go a1).noted hB q λs' q=>q) λ_ _ q=>q)⟩
theorem whN(hB:Wd c c.hb)(ht:RTr c b σ t true)(hb:RXs c b σ bd .next τ)(hw:RWh c b τ t bd f υ):RWh c b σ t bd f υ:=lg hB ht hb (hw.1.trans hb.1) (λN γ' P' s' g Y f' i=>by
 obtain rfl:=i.inv;exact codeAny_mono (hw.2 (N.to g hb.1 Y)) λr s3 q=>N.up g hb.1 Y q) λk q=>Fl.noConfusion q
theorem whB(hB:Wd c c.hb)(ht:RTr c b σ t true)(hb:RXs c b σ bd .brk τ):RWh c b σ t bd .next τ:=lg hB ht hb hb.1 (λN γ' P' s' g Y f' i=>by
 obtain rfl:=i.inv;exact⟨γ',P',g,Y,.next⟩) λk q=>Fl.noConfusion q
theorem whR(hB:Wd c c.hb)(ht:RTr c b σ t true)(hb:RXs c b σ bd (.ret v) τ):RWh c b σ t bd (.ret v) τ:=lg hB ht hb hb.1 (λN γ' P' s' g Y f' i=>by
 obtain⟨_,rfl,i1⟩:=i.inv;exact⟨γ',P',g,Y,.ret i1⟩) λk q=>Fl.noConfusion q
theorem fNil:RFor c b σ tg bd [] .next σ:=⟨rfl,λN I W xs0 J k D hb hj hk hkl=>by
 have hk':k=xs0.length:=hkl;subst hk';refine ux (wpAny_mono (D.done N.γ N.P0 N.s0 N.P N.s σ.cs (λs1=>N.R σ.cs .next (.ok .next) s1) N.Y hb hj λs1 X1=>⟨N.γ,N.P,.refl _,X1,.next⟩) (λr s1 q=>?_) λ_ _ q=>q);obtain⟨rfl,q⟩:=q;exact q⟩
theorem fEnd{f fb:Fl}{A:Prop}{υ τ:Sg}{kk:String}(hf:(fb=.next∨fb=.cont)/\A∨fb=.brk/\f=.next/\υ=τ∨(∃v,fb=.ret v/\f=.ret v/\υ=τ)∨∃k,fb=.exc k/\f=.exc k/\υ=τ)(ek:fb=.exc kk):f=.exc kk/\υ=τ:=by
 subst ek;rcases hf with ⟨h | h,_⟩ | ⟨h,_⟩ | ⟨v,h,_⟩ | ⟨k,h,h'⟩
 ·cases h
 ·cases h
 ·cases h
 ·cases h
 ·cases h;exact h'
theorem vm(hB:Wd c c.hb){fb:Fl}(ht:Tg u tg σ ρ)(hbd:RXs c b ρ bd fb τ)(hlv:υ.lv=σ.lv)(hf:(fb=.next∨fb=.cont)/\RFor c b τ tg bd xs f υ∨fb=.brk/\f=.next/\υ=τ∨(∃v,fb=.ret v/\f=.ret v/\υ=τ)∨∃k,fb=.exc k/\f=.exc k/\υ=τ):RFor c b σ tg bd (u::xs) f υ:=⟨hlv,λN I W xs0 J k D hb hj hk hkl=>by
 have hget:xs0[k]?=some u:=by
  have:=congrArg (λl=>l[0]?) hk;simpa [Nj] using this
 have hk1:xs0.drop (k+1)=xs:=by
  have:=congrArg List.tail hk;simpa [Nv] using this
 rw[KJ] at hkl;refine ux (wpAny_mono (D.turn k u N.γ N.P0 N.s0 N.P N.s σ ρ N.l N.lr (λs1=>wpAny c.M N.A (execs bd N.env) (λf' s₃=>match f' with
        | .next=>codeAny c.M N.A (.forLoop tg (.ref I) bd [] N.env) (N.R υ.cs f) s₃
        | .cont=>codeAny c.M N.A (.forLoop tg (.ref I) bd [] N.env) (N.R υ.cs f) s₃
        | .brk=>N.R υ.cs f (.ok .next) s₃
        | .ret v=>N.R υ.cs f (.ok (.ret v)) s₃) (notedBy c.M N.A N.env λe s'=>N.R υ.cs f (.error e) s') s1) N.Y N.hl N.he hb hj hget ht λs1 X1 hj1=>?_) (λr s1 q=>by obtain⟨v,rfl,q⟩:=q;exact q) λ_ _ q=>q)
 have Z:=X1.freeze hb (D.there _ _ _ hj1);have G:Gr N.P0 (N.P.over W s1.heap) N.s0.heap:=Z.since.gr
 let N1:Run c b ρ:={N with P0:=N.P.over W s1.heap,P:=N.P.over W s1.heap,s:=s1,hl:=ht.lv.trans N.hl,Y:=Z.rebase}
 refine wpAny_mono (hbd.2 N1) (λf' s2 q_=>Exists.p5 q_ λγ2 P2 g2 X2 i2=>?_) λz s2 q=>?_
 ·have again:RFor c b τ tg bd xs f υ->codeAny c.M N.A (.forLoop tg (.ref I) bd [] N.env) (N.R υ.cs f) s2:=λh3=>by
   obtain⟨X3,fl3,hb3,hw3⟩:=Gy X1 hb (D.there _ _ _ hj1) X2;exact codeAny_mono (h3.2 (N.to g2 (hbd.1.trans ht.lv) X3) I W xs0 J (k+1) D hb3 (D.mono _ _ _ _ _ hj1 fl3 hw3 X1.st.real.le X3.st.real.le) hk1 (by omega)) λr s3 q=>N.up g2 (hbd.1.trans ht.lv) X3 q
  rcases hf with ⟨h1 | h1,h3⟩ | ⟨h1,e1,e2⟩ | ⟨v,h1,e1,e2⟩ | ⟨k,h1,e1,e2⟩
  ·rw[h1] at i2;obtain rfl:=i2.inv;exact again h3
  ·rw[h1] at i2;obtain rfl:=i2.inv;exact again h3
  ·rw[h1] at i2;obtain rfl:=i2.inv;rw[e1,e2];exact⟨γ2,P2,g2,X2.under G,.next⟩
  ·rw[h1] at i2;obtain⟨_,rfl,i⟩:=i2.inv;rw[e1,e2];exact⟨γ2,P2,g2,X2.under G,.ret i⟩
  ·rw[h1] at i2;exact i2.inv.elim
 ·obtain⟨γ2,P2,kk,g2,ek,X2,T2⟩:=q
  have hh:=fEnd hf ek;rw[hh.1,hh.2];exact N1.noted hB ⟨γ2,P2,kk,g2,rfl,X2,T2⟩ λs' ⟨γ3,P3,k3,g3,e3,X3,H3⟩=>⟨γ3,P3,k3,g3,e3,X3.under G,H3⟩⟩
theorem fN(hB:Wd c c.hb)(ht:Tg u tg σ ρ)(hb:RXs c b ρ bd .next τ)(h:RFor c b τ tg bd xs f υ):RFor c b σ tg bd (u::xs) f υ:=vm hB ht hb (h.1.trans (hb.1.trans ht.lv)) (.inl ⟨.inl rfl,h⟩)
theorem fR(hB:Wd c c.hb)(ht:Tg u tg σ ρ)(hb:RXs c b ρ bd (.ret v) τ):RFor c b σ tg bd (u::xs) (.ret v) τ:=vm hB ht hb (hb.1.trans ht.lv) (.inr (.inr (.inl ⟨v,rfl,rfl,rfl⟩)))
end R
end
end
section
def RHd(c:Cx)(σ:Sg)(ss:List Stmt)(fl:Fl)(τ:Sg):Prop:=τ.lv=σ.lv/\∀(A:Around) env rest γ P0 s0 P s l lr (E:Value->Shared->Prop),σ.lv=l::lr->aM c γ env l->Act c (env::rest) γ P0 s0 P s σ.cs ->
 wpAny c.M A (execs ss env) (λf s'=>∃γ' P',γ.Le γ'/\Act c (env::rest) γ' P0 s0 P' s' τ.cs/\dF c.D γ' P' f fl) E s
def HArg(c:Cx)(σ:Sg)(e:Expr)(v:V):Prop:=isStarred e=false/\∀(A:Around) env fr γ P s l lr (E:Value->Shared->Prop),σ.lv=l::lr->aM c γ env l->St c fr γ P s σ.cs->wpAny c.M A (eval e env) (Ev c fr γ P s σ.cs v) E s
section
variable{c:Cx}{g:Glb}{b:Nat}{σ τ υ ρ:Sg}{e l r x y t elt iter tg:Expr}{es as:List Expr}{u v w d:V}{vs ws xs ys zs:List V}{p q px pos py pz ph:Pos}{k j:Bool}{n:Nat}{nm m nm':Str}{st:Stmt}{ss bd b1 b2:List Stmt}{f:Fl}{kx:String}
namespace R
theorem haName(hg:aj c g){lv:Lv}{lr:List Lv}(hl:σ.lv=lv::lr)(h:Nm g σ.cs nm lv v):HArg c σ (.Name nm p) v:=⟨rfl,λA env fr γ P s l lr' E hl' he S=>by
 cases hl.symm.trans hl';exact aR hg S he h λx hx=>.old S hx⟩
theorem haCut(hg:aj c g){lv:Lv}{lr:List Lv}(hl:σ.lv=lv::lr){i:Nat}(h:Nm g σ.cs nm lv (.lst xs))(hi:Nm g σ.cs nm' lv (.int i))(hz:xs.length<=16777216)(hr:xs.drop i=ws):HArg c σ (.Subscript (.Name nm p) (.Slice (some (.Name nm' q)) .none .none px) py) (.lst ws):=⟨rfl,λA env fr γ P s l lr' E hl' he S=>by
 cases hl.symm.trans hl';refine Subscript_ (aR hg S he h λxa ia=>wpAny_Slice (aR hg S he hi λxk ik=>wpAny_pure (wpAny_pure ?_)));obtain⟨t,rfl⟩:=ik.int_inv;obtain⟨ad,ys,m,rfl,e1,pp⟩:=ia.lst_inv;exact vN (p1:=some ((i:Int),t)) (p2:=none) (p3:=none) S pp (S.real.le _ _ e1) (by simp) ((ru xs (some i) none).trans hr) hz⟩
theorem hdNil:RHd c σ [] .next σ:=⟨rfl,λA env rest γ P0 s0 P s l lr E hl he Y=>wpAny_execs_nil ⟨γ,P,.refl _,Y,.next⟩⟩
theorem hdBrk:RHd c σ (.Break p::ss) .brk σ:=⟨rfl,λA env rest γ P0 s0 P s l lr E hl he Y=>wpAny_execs_cons (wpAny_Break ⟨γ,P,.refl _,Y,.brk⟩)⟩
theorem ug(hg:aj c g){lv:Lv}{lr:List Lv}(hl:σ.lv=lv::lr){i:Nat}{id:String}{cs1:List Cell}(hline:bw p q=true)(h:Nm g σ.cs nm lv (.own i))(hc:σ.cs[i]?=some (.list xs))(hx:HArg c σ x v)(slot:Slot "list" m id)(ty:typeOf (.builtin id)=pure (.type "method_descriptor"))
  (hgo:∀(A:Around) fr γ P0 s0 P s E z ys n,Act c fr γ P0 s0 P s σ.cs->s.heap.get? (γ.ρ i)=some (aa ys n)->PuL P ys.toList xs->Is c.D γ P z v->wpAny c.M A (call (.builtin id) [.ref (γ.ρ i),z]) (λy s'=>Act c fr γ P0 s0 P s' cs1) E s) (hr:RHd c ⟨σ.lv,cs1⟩ ss f τ) :
  RHd c σ (.Expr (.Call (.Attribute (.Name nm px) m p) [x] [] q) pos::ss) f τ:=⟨hr.1,λA env rest γ P0 s0 P s l lr' E hl' he Y=>by
 cases hl.symm.trans hl';have hst:cN [x]=true:=by unfold cN;rw[Lw,hx.1];rfl
 have hst':starEach [x] env=[(false,eval x env)]:=jk hx.1;refine wpAny_execs_cons (wpAny_Expr_any (dB rfl hst (by show 1<20;decide) hline (aR hg Y.st he h λw hw pl=>?_)) (mW he) rfl)
 obtain⟨rfl,hi⟩:=hw.own_inv;obtain⟨vs,n,e2,p2⟩:=Y.st.real.cell i _ hc;refine(show MethAt c s (.ref (γ.ρ i)) m "list" id from⟨F.plainAttrs_list,slot,ty,⟨_,e2,rfl⟩,λa' e=>by cases e;exact⟨_,e2,rfl⟩⟩).get ?_
 refine bO (bM hst _) ?_;rw[hst'];refine Calls.spliced_cons (wpAny_mono (hx.2 A env (env::rest) γ P s lv lr _ hl he Y.st) (λz s1 q_=>Exists.p3 q_ λP1 a1 i1=>Calls.spliced_nil ⟨dX,?_⟩) λ_ _ q=>q);obtain⟨vs1,n1,e3,p3⟩:=a1.st.real.cell i _ hc;exact wpAny_mono (hgo A _ γ P0 s0 P1 s1 E z vs1 n1 (Y.aft a1) e3 p3 i1) (λy s2 Y2=>hr.2 A env rest γ P0 s0 P1 s2 lv lr E hl he Y2) λ_ _ q=>q⟩
theorem hdApp(hB:Wd c c.hb)(hg:aj c g){lv:Lv}{lr:List Lv}(hl:σ.lv=lv::lr){i:Nat}(hline:bw p q=true)(h:Nm g σ.cs nm lv (.own i))(hc:σ.cs[i]?=some (.list xs))(hx:HArg c σ x v)(hf:flat v=true)(hz:xs.length<16777216)(hr:RHd c ⟨σ.lv,σ.cs.set i (.list (xs++[v]))⟩ ss f τ) :
  RHd c σ (.Expr (.Call (.Attribute (.Name nm px) "append" p) [x] [] q) pos::ss) f τ :=
 ug hg hl hline h hc hx F.slot_list_append F.type_list_append (λA fr γ P0 s0 P s E z ys n Y e p i1=>by
  have hlen:=p.length;rw[Lp] at hlen;refine wpAny_list_append_plain (hsz:=by show _<=16777216;omega) ⟨n,e⟩ λh' ⟨n',e'⟩ hs=>?_
  exact Y.list hB hc (t:=s.toks) hs e' (by rw[Oo];exact p.append (.cons (i1.flat hf) .nil))) hr
theorem hdExt(hB:Wd c c.hb)(hg:aj c g){lv:Lv}{lr:List Lv}(hl:σ.lv=lv::lr){i:Nat}(hline:bw p q=true)(h:Nm g σ.cs nm lv (.own i))(hc:σ.cs[i]?=some (.list xs))(hx:HArg c σ x (.lst ys))(hz:xs.length+ys.length<=16777216)(hr:RHd c ⟨σ.lv,σ.cs.set i (.list (xs++ys))⟩ ss f τ) :
  RHd c σ (.Expr (.Call (.Attribute (.Name nm px) "extend" p) [x] [] q) pos::ss) f τ :=
 ug hg hl hline h hc hx F.slot_list_extend F.type_list_extend (λA fr γ P0 s0 P s E z zs n Y e p i1=>by
  obtain⟨a,ws,k2,rfl,e4,p4⟩:=i1.lst_inv;have e4':=Y.st.real.le _ _ e4;have h1:=p.length;have h2:=p4.length;rw[Lp] at h1 h2;have hsz:zs.size+ws.size<=sizeLine:=by show _<=16777216;omega
  refine call_meets F.slot_list_extend ⟨_,e,rfl⟩ F.entry_list_extend (F.args_list_extend_2 _ _) (AutoSeq1.list_extend_list_list_0 (γ.ρ i) zs n a ws k2 (by simp[Builtin.List.listTooLong];omega) (by omega) (by omega)) ⟨e,e4',?_⟩
  exact Y.mapped hB hc e (λx=>x++ws) (by rw[Oq];exact p.append p4) s.toks) hr
end R
end
noncomputable def nU(k:String):Bool:=decide (k="IndexError")||decide (k="ValueError")
section
variable{c:Cx}{g:Glb}{b:Nat}{σ τ υ ρ:Sg}{e l r x y t elt iter tg:Expr}{es as:List Expr}{u v w d:V}{vs ws xs ys zs:List V}{p q px pos py pz ph:Pos}{k j:Bool}{n:Nat}{nm m nm':Str}{st:Stmt}{ss bd b1 b2:List Stmt}{f:Fl}{kx:String}{A:Around}{E:Value->Shared->Prop}{s:Shared}
theorem Ho{k:String}(h:nU k=true):isSubtype (.type k) (.type "BaseException")=pure true/\isSubtype (.type ((Manifest.find? k).elim "type" λx=>x.metatype)) (.type "tuple")=pure false/\isSubtype (.type k) (.type k)=pure true:=by
 unfold nU at h;rw[Pr,decide_eq_true_eq,decide_eq_true_eq] at h;rcases h with rfl | rfl
 ·exact⟨isSubtype_of_subB (by decide +kernel),isSubtype_of_subB (by decide +kernel),isSubtype_of_subB (by decide +kernel)⟩
 ·exact⟨isSubtype_of_subB (by decide +kernel),isSubtype_of_subB (by decide +kernel),isSubtype_of_subB (by decide +kernel)⟩
theorem Gx{I:Addr}{ts:List Expr}{n:Nat}{p:Pos}{v:Value}{ob:Obj}(h:s.heap.get? I=some ob)(hc:∃m,ob.cls=.type m/\m∈["list_iterator","tuple_iterator","range_iterator"]){Q:Unit->Shared->Prop}(hq:Q () s):wpAny c.M A (letOwnedTupleGo (.Tuple ts n p) (.ref I) v) Q E s:=by
 obtain⟨m,hm,hin⟩:=hc;unfold letOwnedTupleGo;cases v with
 | ref a =>
  refine wpAny_bind (wpAny_load h ?_);rw[hm];cases ob.data with
  | fields vs =>
   dsimp only;rw[if_neg]
   ·exact wpAny_pure hq
   ·intro q
    rw[Lx] at q;simp only[KZ,M4,or_false] at hin;rcases hin with rfl | rfl | rfl <;> exact absurd q.1 (by decide)
  | _=>exact wpAny_pure hq
 | _=>exact wpAny_pure hq
namespace R
theorem tryN{h0:Stmt}{hb:List Stmt}(h:RXs c b σ bd f τ)(hf:∀k,f≠.exc k):RX c b σ (.Try bd [.ExceptHandler (some (.Name nm p)) .none (h0::hb) ph] [] [] pos) f τ:=⟨h.1,λN =>
 wpAny_Try_except (wpAny_mono (h.2 N) (λf' s1 q=>by
  cases f' with
  | next=>exact wpAny_execs_nil q
  | brk=>exact q
  | cont=>exact q
  | ret v=>exact q) λy s1 q=>by
  obtain⟨γ1,P1,k,g1,ek,_⟩:=q;exact absurd ek (hf k))⟩
theorem tryX(hB:Wd c c.hb)(hg:aj c g){h0:Stmt}{hb:List Stmt}{lv:Lv}{lr:List Lv}(hl:σ.lv=lv::lr)(h:RXs c b σ bd (.exc kx) τ)(hk:nU kx=true)(hn:Nm g τ.cs nm lv (.ty kx))(hh:RHd c τ (h0::hb) f υ):RX c b σ (.Try bd [.ExceptHandler (some (.Name nm p)) .none (h0::hb) ph] [] [] pos) f υ:=⟨hh.1.trans h.1,λN=>by
 cases hl.symm.trans N.hl;obtain⟨f1,f2,f3⟩:=Ho hk;refine wpAny_Try_except (wpAny_mono (h.2 N) (λf' s1 q=>?_) λy s1 q=>?_)
 ·obtain⟨γ1,P1,g1,Y1,fi⟩:=q;cases fi
 ·obtain⟨γ1,P1,k,g1,ek,Y1,T1⟩:=q
  cases ek;refine mV hB N.hA.frames N.hf Y1 T1 λh2 Y2 H2=>jx hB Y2 H2 none λh3 Y3 H3=>?_;obtain⟨e,ob,vs,rfl,be,heq,hcls,hd,rest3⟩:=id H3;refine wpAny_handleBy_builtin (X:=kx) (T:=kx) (b:=true) f1 f2 f3 (aR hg Y3.st (N.he.mono g1) hn λw hw=>⟨hw.ty_inv,⟨_,heq,hcls⟩,?_⟩);rw[if_pos rfl];refine jx hB Y3 H3 none λh4 Y4 H4=>?_;exact wpAny_mono (hh.2 (N.A.mark (some (.ref e))) N.env N.rest γ1 N.P0 N.s0 P1 _ _ _ _ (h.1.trans N.hl) (N.he.mono g1) Y4) (λf s5 ⟨γ5,P5,g5,q⟩=>⟨γ5,P5,g1.trans g5,q⟩) λ_ _ q=>q⟩
theorem forW(hB:Wd c c.hb)(hs:isSet x=false)(hx:RIt c b σ x xs)(h:RFor c b σ tg bd xs f τ)(hgo:∀(A:Around) (I:Addr) (v:Value) (s:Shared) (Q:Unit->Shared->Prop) (E:Value->Shared->Prop) ob,s.heap.get? I=some ob->(∃m,ob.cls=.type m/\m∈["list_iterator","tuple_iterator","range_iterator"])->Q () s->wpAny c.M A (letOwnedTupleGo tg (.ref I) v) Q E s) :
  RX c b σ (.For tg x bd [] pos) f τ:=⟨h.1,λN=>by
 refine wpAny_For (wpAny_mono (hx N.now _) (λv s1 q=>wpAny_mono q (λit s2 q=>?_) λ_ _ q=>q) λ_ _ q=>q) (λv=>unset hs N.env v);obtain⟨P2,I,fp,Pn,T,rfl,w,t0,zI,pI,a2⟩:=q;have hb:∀b∈[I],aF c N.γ P2 N.s0.heap b:=λb hb=>by
  rw[show b=I by simpa using hb]
  exact⟨pI,(λi hi q=>by obtain⟨o,e⟩:=N.Y.st.real.there hi;rw[q,zI] at e;cases e),N.Y.since.ext.keep.gone zI,N.Y.st.wd.bk.gone zI⟩
 refine codeAny_mono (h.2 (N.go a2) I [I] xs _ 0 (HD hB N.hA w tg λk' h' v s' Q E t e hq=>?_) hb ⟨.refl _,t0⟩ rfl (Lr _)) λr s3 q=>N.ends hB r q;subst e;obtain⟨ob,e',hm⟩:=w.wl3 _ _ t;exact hgo N.A I v s' Q E ob e' hm hq⟩
theorem forN(hB:Wd c c.hb)(hs:isSet x=false)(hx:RIt c b σ x xs)(h:RFor c b σ (.Name nm py) bd xs f τ):RX c b σ (.For (.Name nm py) x bd [] pos) f τ :=
 forW hB hs hx h λA I v s Q E ob e hm hq=>wpAny_of_eq (show letOwnedTupleGo (.Name nm py) (.ref I) v=pure () from rfl) hq
theorem forP(hB:Wd c c.hb)(hs:isSet x=false)(hx:RIt c b σ x xs)(h:RFor c b σ (.Tuple es n py) bd xs f τ):RX c b σ (.For (.Tuple es n py) x bd [] pos) f τ :=
 forW hB hs hx h λA I v s Q E ob e hm hq=>Gx e hm hq
theorem forE(hB:Wd c c.hb)(hg:aj c g){lv:Lv}{lr:List Lv}(hl:σ.lv=lv::lr){kk:Nat}{fn:Str}{p1 p2 p3 p4:Pos}(hn:Nm g σ.cs fn lv (.ty "enumerate"))(hs:isStarred x=false)(hx:REv c b σ x (.lst xs))(h:RFor c b σ (.Tuple [.Name nm p1,.Name nm' p2] kk p) bd (bZ 0 xs) f τ) :
  RX c b σ (.For (.Tuple [.Name nm p1,.Name nm' p2] kk p) (.Call (.Name fn p3) [x] [] p4) bd [] pos) f τ:=⟨h.1,λN=>by
 cases hl.symm.trans N.hl;refine wpAny_For (wpAny_Call_NameR (aR hg N.Y.st N.he hn λv hv=>?_)) (λv=>rfl);rw[hv.ty_inv];have ha:REvs c b σ [x] [.lst xs]:=cons hs hx nil;refine bO (bM ha.1 _) (ha.then N.now λP1 s1 a1 zs is=>⟨jL,?_⟩);obtain⟨_,rfl,i1⟩:=is.one;rw[Mj];have Y1:=(N.go a1).Y;obtain⟨ax,vs,n,rfl,ea,pa⟩:=i1.lst_inv;have ha:=Y1.st.real.le _ _ ea;refine call_enumerate_1 ha λh' hen hit hsz hk=>wpAny_pyIter_enum hen ?_;have Y2:=Y1.kept (t:=s1.toks) hk;have zn:∀b,s1.heap.objs.size<=b->s1.heap.get? b=none:=λb hb=>gA hb;have bes:∀b∈[s1.heap.objs.size+1,s1.heap.objs.size],aF c N.γ P1 N.s0.heap b:=λb hb=>by
  simp only[KZ,M4,or_false] at hb;rcases hb with rfl | rfl
  ·exact iR Y1 (zn _ (M3 _))
  ·exact iR Y1 (zn _ (K3 _))
 have hlt:ax<s1.heap.objs.size:=Heap.lt_size ha
 let N2:Run c b σ:={N with P:=P1,s:={s1 with heap:=h' },Y:=Y2}
 exact codeAny_mono (h.2 N2 _ _ _ _ 0 (HF hB N.hA ea pa (Nq (Mv _)) (Mu (Ro hlt)) (Mu hlt) nm nm' p1 p2 p kk) bes
  ⟨.refl _,⟨_,hen⟩,hit,⟨_,hk _ _ ha,rfl,n,rfl⟩⟩ rfl (Lr _)) λr s3 q=>N.ends hB r q⟩
end R
end
end
section
structure Am0(c:Cx)(A:Around)(fr:List Env)(b:Nat):Prop where
 handled:A.handled=none
 depth:A.depth+b+150<recursionLimit
 units:A.units+20*b+200<cLine
 frames:A.frames=some fr
 tree:c.prog.given.tree=none
theorem Am.z{c:Cx}{A:Around}{fr:List Env}{b:Nat}(h:Am c A fr b):Am0 c A fr b:=⟨h.handled,h.depth,h.units,h.frames,h.tree⟩
structure Fn where
 pars:List Str
 body:List Stmt
 names:List (Str × NameKind)
structure FdOk(c:Cx)(fd:FuncData)(nms:List (Str × NameKind)):Prop where
 names:fd.scope.names=nms
 kind:fd.scope.kind=.function
 glob:fd.globals=mainGlobals
 bui:fd.builtins=builtinsNs
 clo:fd.closure=[]
 plain:nms.all plainName=true
 cdok:∀a,c.cd nms=some a->fd.code=.ref a
 co:fd.scope.isCoroutine=false
 gen:fd.scope.isGenerator=false
structure ak(c:Cx)(f:Addr)(fd:FuncData)(F:Fn):Prop where
 obj:∃ob,c.K f=some ob/\ob.data=.func fd
 code:c.hb.CodeRec fd.code fd.qualname
 body:fd.body=.stmts F.body
 ok:FdOk c fd F.names
inductive Svs:List (Str × V)->Sg->Sg->Prop
 | nil {σ:Sg}:Svs [] σ σ
 | cons {x:Str} {v:V} {r:List (Str × V)} {σ τ υ:Sg}:Sv x v σ τ->Svs r τ υ->Svs ((x,v)::r) σ υ
theorem Svs.lv{r:List (Str × V)}{σ τ:Sg}(h:Svs r σ τ):τ.lv=σ.lv:=by
 induction h with
 | nil=>rfl
 | cons h _ ih=>exact ih.trans h.lv
noncomputable def aL(F:Fn)(cs:List Cell):Sg:=⟨[⟨F.names,cs.length,cellsFrom (cs.length+1) F.names []⟩],cs++(.vars []::ao F.names)⟩
def FnOk(c:Cx)(b:Nat)(x:Str)(as:List V)(r:V):Prop:=∀σ,Kp c b σ (.gl x) as r
theorem Keep.codeRec{h h':Heap}(k:Keep h h'){cd:Value}{q:Str}(x:h.CodeRec cd q):h'.CodeRec cd q:=by
 obtain⟨a,oc,vs,tq,rfl,e2,e3,e4⟩:=x;exact Sim.codeRec (k.sim a oc e2) e3 e4
section
variable{c:Cx}{g:Glb}{A:Around}{fr rest:List Env}{γ γ':Gh}{P0 P P':Frz}{s0 s s':Shared}{cs cs':List Cell}{E:Value->Shared->Prop}{b:Nat}{env:Env}{σ σ' τ:Sg}{l:Lv}{lr:List Lv}{L:Addr}
theorem Act.tail(X:Act c (env::fr) γ P0 s0 P s cs):Act c fr γ P0 s0 P s cs :=
 ⟨⟨X.since.gr,X.since.ext,⟨X.st.real,X.st.wd,λe he=>X.st.frs e (.tail _ he)⟩⟩,X.base,X.kb⟩
theorem Jz(hB:Wd c c.hb)(f:Str × Value->PUnit->Sem (ForInStep PUnit))(hf:∀n v u,f (n,v) u=(do storeName env n v;pure (.yield ⟨⟩))) :
  ∀(ps:List Str) (xs:List Value) (as:List V) (σ σ':Sg) {s:Shared} {Q:PUnit->Shared->Prop},IsL c.D γ P xs as->Svs (ps.zip as) σ σ'->σ.lv=l::lr->aM c γ env l->Act c (env::rest) γ P0 s0 P s σ.cs ->
   (∀s',Act c (env::rest) γ P0 s0 P s' σ'.cs->Q ⟨⟩ s')->wpAny c.M A (forIn (ps.zip xs) ⟨⟩ f) Q E s:=by
 intro ps
 induction ps with
 | nil =>
  intro xs as σ σ' s Q _ h _ _ X hq;cases h;rw[Rw,Oi];exact wpAny_pure (hq s X)
 | cons p ps ih =>
  intro xs as σ σ' s Q hx h hl he X hq;cases hx with
  | nil =>
   cases h;rw[QB,Oi];exact wpAny_pure (hq s X)
  | cons h1 h2 =>
   rw[QC,NK,hf];rw[QC] at h;cases h with
   | cons e1 e2=>exact wpAny_bind (wpAny_bind (X.set hB hl he h1 e1 λs1 X1 lv1 _=>wpAny_pure (ih _ _ _ σ' h2 e2 (lv1.trans hl) he X1 hq)))
theorem v7(S:St c fr γ P s cs){fd:FuncData}{names:List (Str × NameKind)}(D:FdOk c fd names)(qual:Str)(fn:Option Addr) :
  aM c (γ.inner s.heap.objs.size (1+(ao names).length)) (newEnv fd.scope s.heap.objs.size fd.globals (cellsFrom (s.heap.objs.size+1) fd.scope.names []) qual fn fd.code none fd.builtins) ⟨names,cs.length,cellsFrom (cs.length+1) names []⟩:=by
 have hkk:γ.k=cs.length:=S.real.k;have hcells:cellsFrom (s.heap.objs.size+1) names []=(cellsFrom (cs.length+1) names []).map λx=>(x.1,(γ.inner s.heap.objs.size (1+(ao names).length)).ρ x.2):=by
  refine vZ names (cs.length+1) (s.heap.objs.size+1) [] λj=>?_;rw[<-hkk,show γ.k+1+j=γ.k+(1+j) by omega,γ.inner_new]
  exact(LR _ _ _).symm
 have kind:∀x k,aget x names=some k->Env.kindOf (newEnv fd.scope s.heap.objs.size fd.globals (cellsFrom (s.heap.objs.size+1) fd.scope.names []) qual fn fd.code none fd.builtins) x=some k:=λx k h=>by
  show fd.scope.names.lookup x=some k;rw[D.names];exact oO h
 refine⟨?_,?_,λx i h=>⟨?_,?_⟩,λx h=>kind x _ h,λx h=>kind x _ h,λx h=>.inl (kind x _ h),λx h=>kind x _ h,λx k h=>?_,D.kind,D.glob,D.bui,λ_ a h=>D.cdok a h⟩
 ·show s.heap.objs.size=_
  rw[<-hkk];simpa using(γ.inner_new s.heap.objs.size (1+(ao names).length) 0).symm
 ·show cs.length<γ.k+(1+(ao names).length)
  omega
 ·show Oe x (cellsFrom (s.heap.objs.size+1) fd.scope.names [])=_
  rw[D.names,hcells];exact j9 _ h
 ·show i<γ.k+(1+(ao names).length)
  exact v5 names (cs.length+1) [] (λy hy=>by cases hy) (by omega) _ (dD h)
 ·have:=(La.mp D.plain) _ (dD h)
  unfold plainName at this;simpa using this
theorem vA(hA:Am0 c A fr (b+1))(Y:Act c fr γ P0 s0 P s cs){f:Addr}{fd:FuncData}{F:Fn}(D:FdOk c fd F.names){q:Str}{binds:List (Str × Value)}{E:Value->Shared->Prop}(hlv:σ.lv=(aL F cs).lv)
  (hp:∀env γ' s',aM c γ' env ⟨F.names,cs.length,cellsFrom (cs.length+1) F.names []⟩->γ.Le γ'->Act c (env::fr) γ' P0 s0 P s' (aL F cs).cs->∀Q:PUnit->Shared->Prop,(∀s2,Act c (env::fr) γ' P0 s0 P s2 σ.cs->Q ⟨⟩ s2) ->
   wpAny c.M A.in1 (forIn binds (⟨⟩:PUnit) (λ(x:Str × Value) (_:PUnit)=>do storeName env x.1 x.2;pure (ForInStep.yield ⟨⟩))) Q E s') {K:Env->Shared->Prop}
  (hK:∀N:Run c b σ,N.rest=fr->N.A=A.deeper N.env->γ.Le N.γ->N.P0=P0->N.s0=s0->N.P=P->K N.env N.s):wpAny c.M A.in1 (newFunctionEnv fd.scope fd.globals fd.closure binds q (some f) fd.code none fd.builtins) K E s:=by
 rw[D.clo]
 -- the new frame
 simp only[newFunctionEnv,Qk,O2,if_false];refine wpAny_bind (wpAny_alloc ?_);refine wpAny_bind (wpAny_layCells _ (λname kind cells=>by cases hkc:kind==NameKind.cell <;> simp) _ _ _ _ ?_)
 rw[show({s with heap:=s.heap.push {cls:=.type "frame",data:=.dict #[]}}:Shared).heap.objs.size=s.heap.objs.size+1 from Heap.size_push ..]
 have hnm:=D.names
 -- the activation's cells
 have kn:=jP s.heap {cls:=.type "frame",data:=.dict #[]} F.names;have R1:=jN Y.st (.type "frame") F.names;have EV:=v7 Y.st D q (some f);rw[hnm] at EV;have hL:(pushCells (s.heap.push {cls:=.type "frame",data:=.dict #[]}) F.names).get? s.heap.objs.size=some {cls:=.type "frame",data:=.dict #[]}:=pushCells_keeps _ _ _ _ (Heap.get?_push_size _ rfl);have zn:∀a,s.heap.objs.size<=a->s.heap.get? a=none:=λa ha=>gA ha;have main:∀env,aM c (γ.inner s.heap.objs.size (1+(ao F.names).length)) env ⟨F.names,cs.length,cellsFrom (cs.length+1) F.names []⟩->env.frame=some s.heap.objs.size->env.scope.isGenerator=false->env.scope.isCoroutine=false ->
   wpAny c.M A.in1 (do forIn binds (⟨⟩:PUnit) (λ(x:Str × Value) (_:PUnit)=>do storeName env x.1 x.2;pure (ForInStep.yield ⟨⟩));pure env) K E
     {s with heap:=pushCells (s.heap.push {cls:=.type "frame",data:=.dict #[]}) F.names}:=by
  intro env EV frame g1 g2;have Y1:Act c (env::fr) (γ.inner s.heap.objs.size (1+(ao F.names).length)) P0 s0 P {s with heap:=pushCells (s.heap.push {cls:=.type "frame",data:=.dict #[]}) F.names} (aL F cs).cs:=by
   refine⟨⟨Y.since.gr,Y.since.ext.trans ⟨.of_keeps kn,λo=>o.step_keeps kn,.refl _,rfl⟩,⟨R1,Y.st.wd.keep (.of_keeps kn),λe he=>?_⟩⟩,λi hi=>?_,Y.kb⟩
   ·rcases KZ.mp he with rfl | he
    ·refine⟨?_,s.heap.objs.size,_,frame,Y.st.wd.bk.gone (zn _ (K3 _)),hL,rfl,#[],0,rfl⟩
     rw[EV.fn];decide
    ·exact Y.st.frs.keep (.of_keeps kn) e he
   ·by_cases q:i<γ.k
    ·rw[(γ.inner_le _ _).ρ i q];exact Y.base i q
    ·refine Y.since.ext.keep.gone (zn _ ?_)
     show s.heap.objs.size<=(if i<γ.k then γ.ρ i else s.heap.objs.size+(i-γ.k));rw[if_neg q];exact LQ _ _
  refine wpAny_bind (hp env _ _ EV (γ.inner_le _ _) Y1 _ λs2 Y2=>wpAny_pure ?_);have hA':Am c (A.deeper env) (env::fr) b:=by
   refine⟨hA.handled,?_,?_,?_,⟨env,fr,rfl,g1,g2,EV.bu,EV.gl⟩,hA.tree⟩
   ·show A.depth+1+b+150<_
    have:=hA.depth;omega
   ·show A.units+3+20*b+200<_
    have:=hA.units;omega
   ·show A.frames.map _=_
    rw[hA.frames];rfl
  exact hK {A:=A.deeper env,env:=env,rest:=fr,γ:=_,P0:=P0,s0:=s0,P:=P,s:=s2,l:=_,lr:=[],L:=s.heap.objs.size,hA:=hA',hl:=hlv,he:=EV,hf:=frame,Y:=Y2} rfl rfl (γ.inner_le _ _) rfl rfl rfl
 rw[hnm];exact main _ EV rfl D.gen D.co
theorem jV(hB:Wd c c.hb)(hA:Am0 c A fr (b+1))(Y:Act c fr γ P0 s0 P s cs){f:Addr}{fd:FuncData}{F:Fn}(D:FdOk c fd F.names){args:Args}{xs:List Value}{as:List V}{q:Str}
  (hb:BindsTo s fd args (F.pars.zip xs)) (hx:IsL c.D γ P xs as) (hst:Svs (F.pars.zip as) (aL F cs) σ) {K:Env->Shared->Prop} {E:Value->Shared->Prop}
  (hK:∀N:Run c b σ,N.rest=fr->N.A=A.deeper N.env->γ.Le N.γ->N.P0=P0->N.s0=s0->N.P=P->K N.env N.s) :
  wpAny c.M A.in1 (bindArgs fd args) (λbinds s₁=>wpAny c.M A.in1 (newFunctionEnv fd.scope fd.globals fd.closure binds q (some f) fd.code none fd.builtins) K E s₁) E s :=
 hb _ _ _ _ (vA hA Y D hst.lv (λ_ _ _ EV g Y1 _ hq=>Jz hB _ (λ_ _ _=>rfl) F.pars xs as _ σ (hx.gm g) hst rfl EV Y1 hq) hK)
theorem v8(hB:Wd c c.hb)(hA:Am0 c A fr (b+1))(Y:Act c fr γ P0 s0 P s cs){f:Addr}{fd:FuncData}{F:Fn}(D:ak c f fd F){args:Args}{xs:List Value}{as:List V}
  (hb:BindsTo s fd args (F.pars.zip xs)) (hx:IsL c.D γ P xs as) (hst:Svs (F.pars.zip as) (aL F cs) σ) {fl:Fl} {r:V} (hr:RXs c b σ F.body fl τ) (hfl:fl=.ret r∨fl=.next/\r=.none) :
  wpAny c.M A (call (.ref f) args.pos args.kw) (λv s'=>∃γ' P',γ.Le γ'/\Act c fr γ' P0 s0 P' s' τ.cs/\Is c.D γ' P' v r) E s:=by
 obtain⟨ob,hK,hdat⟩:=D.obj;have ho:=Y.st.wd.kp _ _ hK;have hroom:A.depth<recursionLimit:=by have:=hA.depth;omega
 refine wpAny_call ?_;have e:(⟨args.pos,args.kw⟩:Args)=args:=by cases args;rfl
 rw[e];refine codeAny_call_function hroom ho hdat D.ok.co D.ok.gen D.body (Y.st.wd.bk.codeRec D.code) (jV hB hA Y D.ok hb hx hst λN e1 e2 g e3 e4 e5=>⟨N.Y.st.wd.nl,codeAny_func ?_⟩);rw[<-e2];refine wpAny_mono (hr.2 N) (λfl' s3 q_=>Exists.p5 q_ λγ3 P3 g3 Y3 f3=>?_) λx s3 q=>?_
 ·have Y3:=Y3.tail
  rw[e1,e3,e4] at Y3;rcases hfl with rfl | ⟨rfl,rfl⟩
  ·obtain⟨_,rfl,i⟩:=f3.inv;exact⟨γ3,P3,g.trans g3,Y3,i⟩
  ·obtain rfl:=f3.inv;exact⟨γ3,P3,g.trans g3,Y3,.pu .none⟩
 ·obtain⟨_,_,k,_,q,_⟩:=q
  rcases hfl with rfl | ⟨rfl,rfl⟩ <;> cases q
theorem Jw{R:Result->Shared->Prop}{a:Addr}{args:Args}{o:Obj}{fd:FuncData}{body:Expr}{q:Str}(hroom:A.depth<recursionLimit)(ho:s.heap.get? a=some o)(hd':o.data=.func fd)(hco:fd.scope.isCoroutine=false)(hgen:fd.scope.isGenerator=false)(hbody:fd.body=.expr body)(hcd:s.heap.CodeRec fd.code q)
  (h:wpAny c.M A.in1 (bindArgs fd args) (λbinds s₁=>wpAny c.M A.in1 (newFunctionEnv fd.scope fd.globals fd.closure binds (q++".<locals>.") (some a) fd.code none fd.builtins)
    (λenv s₂=>s₂.heap.NoLimit/\codeAny c.M A (.expr body env) R s₂) (λe s'=>R (.error e) s') s₁) (λe s'=>R (.error e) s') s):codeAny c.M A (.call (.ref a) args) R s:=by
 refine codeAny_of_tree ?_;show wpAny _ A.in1 (callAny (.ref a) args) _ _ s;unfold callAny;refine wpAny_bind (wpAny_load ho ?_);obtain⟨cc,oc,vs,tq,hc,hoc,hdc,hq⟩:=hcd;rw[hd'];dsimp only;unfold callFunction;rw[hc,hco,hgen,hbody];rw[hc] at h;refine wpAny_bind (m:=field (.ref cc) 1) (wpAny_field hoc hdc hq (wpAny_bind (wpAny_pure ?_)));exact wpAny_bind (wpAny_mono h (λbinds s₁ h₁=>wpAny_bind (wpAny_mono h₁ (λenv s₂ h₂=>wpAny_bind (wpAny_enterFrame h₂.1 hroom
  (wpAny_pure (And.intro rfl h₂.2)))) λ_ _ h'=>h')) λ_ _ h'=>h')
theorem Jv(hB:Wd c c.hb)(hA:Am0 c A fr (b+1))(Y:Act c fr γ P0 s0 P s cs){f:Addr}{fd:FuncData}{F:Fn}{ob:Obj}{e:Expr}(ho:s.heap.get? f=some ob)(hd:ob.data=.func fd){q:Str}(hc:s.heap.CodeRec fd.code q)(he:fd.body=.expr e)(D:FdOk c fd F.names){args:Args}{xs:List Value}{as:List V}
  (hb:BindsTo s fd args (F.pars.zip xs)) (hx:IsL c.D γ P xs as) (hst:Svs (F.pars.zip as) (aL F cs) σ) {r:V} (hr:REv c b σ e r) :
  wpAny c.M A (call (.ref f) args.pos args.kw) (λv s'=>∃γ' P',γ.Le γ'/\Act c fr γ' P0 s0 P' s' σ.cs/\Is c.D γ' P' v r) E s:=by
 have hroom:A.depth<recursionLimit:=by have:=hA.depth;omega
 refine wpAny_call ?_;have e':(⟨args.pos,args.kw⟩:Args)=args:=by cases args;rfl
 rw[e'];refine Jw hroom ho hd D.co D.gen he hc (jV hB hA Y D hb hx hst λN e1 e2 g e3 e4 e5=>⟨N.Y.st.wd.nl,PySem.W.kla_codeExpr ?_⟩);rw[<-e2];refine hr.then N.now λP1 s1 a1 x i=>?_;have Y3:=(N.Y.aft a1).tail;rw[e1,e3,e4] at Y3;exact⟨N.γ,P1,g,Y3,i⟩
end
theorem Is.cut{D:Dc}{γ γ':Gh}{P:Frz}(hg:γ.Le γ'){x:Value}{v:V}(h:Is D γ' P x v)(hb:below γ.k v=true):Is D γ P x v:=by
 cases h with
 | pu h=>exact .pu h
 | ty=>exact .ty _
 | bi _ h=>exact .bi _ h
 | gl h=>exact .gl h
 | own h =>
  have hi:=of_decide_eq_true hb;rw[hg.ρ _ hi];exact .own hi
 | obj h e =>
  have hi:=of_decide_eq_true hb;exact .obj hi (by rw[<-hg.ρ _ hi,<-hg.kc _ hi];exact e)
 | mat h e f=>exact .mat h e f
 | deq h=>exact .deq h
theorem wH{l:List (Str × V)}{n:Nat}(h:l.all (λx=>below n x.2)=true){x:Str}{v:V}(e:aget x l=some v):below n v=true:=(La.mp h) _ (dD e)
theorem cj.cut{D:Dc}{γ γ':Gh}{P:Frz}{h:Heap}(hg:γ.Le γ'){i:Nat}(hi:i<γ.k){c:Cell}(x:cj D γ' P h i c)(hb:aD γ.k c=true):cj D γ P h i c:=by
 have e:=hg.ρ i hi;cases c with
 | vars l=>obtain⟨o,es,ep,h1,h2,h3,h4⟩:=x;exact⟨o,es,ep,by rw[<-e];exact h1,h2,h3,λy v q=>let ⟨r,a,b⟩:=h4 y v q;⟨r,a,b.cut hg (wH hb q)⟩⟩
 | cell v =>
  obtain⟨r,h1,h2⟩:=x;refine⟨r,by rw[<-e];exact h1,λd q=>?_⟩
  obtain⟨y,a,b⟩:=h2 d q;subst q;exact⟨y,a,b.cut hg hb⟩
 | list l=>obtain⟨vs,n,h1,h2⟩:=x;exact⟨vs,n,by rw[<-e];exact h1,h2⟩
 | inst c l=>obtain⟨h0,es,ep,h1,h2,h3,h4⟩:=x;exact⟨by rw[<-hg.kc i hi];exact h0,es,ep,by rw[<-e];exact h1,h2,λy v q=>let ⟨r,a,b⟩:=h3 y v q;⟨r,a,b.cut hg (wH hb q)⟩,h4⟩
 | dead=>obtain⟨vs,n,h1⟩:=x;exact⟨vs,n,by rw[<-e];exact h1⟩
theorem Real.cut{D:Dc}{γ γ':Gh}{P:Frz}{h:Heap}{ds:List Cell}(R:Real D γ' P h ds)(hg:γ.Le γ')(hn:γ.k<=ds.length)(hb:(ds.take γ.k).all (aD γ.k)=true):Real D γ P h (ds.take γ.k):=by
 refine⟨by rw[Mr];omega,λi c e=>?_,λi j h1 h2 e=>?_,λi c e hd=>?_,R.le,R.kind⟩
 ·have hi:i<γ.k:=by have:=(Ld.mp e).1;rw[Mr] at this;omega
  rw[QM hi] at e;refine(R.cell i c e).cut hg hi ((La.mp hb) c ?_);exact Oa (i:=i) (by rw[QM hi];exact e)
 ·rw[<-hg.ρ i h1,<-hg.ρ j h2] at e
  exact R.inj i j (Lk h1 hg.k) (Lk h2 hg.k) e
 ·have hi:i<γ.k:=by have:=(Ld.mp e).1;rw[Mr] at this;omega
  rw[QM hi] at e;rw[<-hg.ρ i hi];exact R.off i c e hd
section
variable{c:Cx}{g:Glb}{A:Around}{fr rest:List Env}{γ γ':Gh}{P0 P P':Frz}{s0 s s':Shared}{cs cs':List Cell}{E:Value->Shared->Prop}{b:Nat}{env:Env}{σ σ' τ:Sg}{l:Lv}{lr:List Lv}{L:Addr}
theorem Act.cut{ds:List Cell}(X:Act c fr γ' P0 s0 P s ds)(hg:γ.Le γ')(hn:γ.k<=ds.length)(hb:(ds.take γ.k).all (aD γ.k)=true):Act c fr γ P0 s0 P s (ds.take γ.k) :=
 ⟨⟨X.since.gr,X.since.ext,⟨X.st.real.cut hg hn hb,X.st.wd,X.st.frs⟩⟩,λi hi=>by rw[<-hg.ρ i hi];exact X.base i (Lk hi hg.k),X.kb⟩
noncomputable def Gh.nil:Gh:=⟨λ_=>0,λ_=>Str.empty,0⟩
theorem Gh.nil_le(γ:Gh):Gh.nil.Le γ:=⟨K5 _,λ_ h=>absurd h (Ma _),λ_ h=>absurd h (Ma _)⟩
theorem uh{v:V}(h:hand v=true)(n:Nat):below n v=true:=by
 cases v <;> first | rfl | cases h
theorem IsL.hand{D:Dc}{vs:List Value}{ds:List V}(h:IsL D γ P vs ds)(hh:ds.all Mine.hand=true):IsL D Gh.nil P vs ds:=by
 induction h with
 | nil=>exact .nil
 | cons a _ ih =>
  rw[Lw,Lx] at hh;exact .cons (a.cut (Gh.nil_le _) (uh hh.1 _)) (ih hh.2)
theorem St.bare(S:St c fr γ P s cs):Act c fr Gh.nil P s P s [] :=
 ⟨⟨.refl _ _,.refl _ _,⟨⟨rfl,λi c e=>by simp at e,λi j h=>absurd h (Ma _),λi c e=>by simp at e,S.real.le,S.real.kind⟩,S.wd,S.frs⟩⟩,λi h=>absurd h (Ma _),S.wd.bk⟩
def Left(cs:List Cell)(τ:Sg)(cs':List Cell)(r:V):Prop:=(τ.cs.take cs.length).all (aD cs.length)=true/\cs.length<=τ.cs.length/\below cs.length r=true/\cs'=τ.cs.take cs.length
theorem iQ(hB:Wd c c.hb)(hA:Am0 c A fr (b+1))(Y:Act c fr γ P0 s0 P s cs){f:Addr}{fd:FuncData}{F:Fn}(D:ak c f fd F){args:Args}{xs:List Value}{as:List V}
  (hb:BindsTo s fd args (F.pars.zip xs)) (hx:IsL c.D γ P xs as) (hst:Svs (F.pars.zip as) (aL F cs) σ) {fl:Fl} {r:V} (hr:RXs c b σ F.body fl τ) (hfl:fl=.ret r∨fl=.next/\r=.none) (hl:Left cs τ cs' r) :
  wpAny c.M A (call (.ref f) args.pos args.kw) (λv s'=>∃P',Act c fr γ P0 s0 P' s' cs'/\Is c.D γ P' v r) E s:=by
 obtain⟨h2,h3,h4,rfl⟩:=hl;refine wpAny_mono (v8 hB hA Y D hb hx hst hr hfl) (λv s1 q_=>Exists.p5 q_ λγ1 P1 g1 Y1 i1=>?_) λ_ _ q=>q;rw[<-Y.st.real.k] at h2 h3 h4 ⊢;exact⟨P1,Y1.cut g1 h3 h2,i1.cut g1 h4⟩
def FnAt(c:Cx)(b:Nat)(x:Str)(as:List V)(r:V):Prop:=∀(A:Around) (fr:List Env) (γ:Gh) (P:Frz) (s:Shared) (cs:List Cell) (u:Value) (vs:List Value) (E:Value->Shared->Prop),Am0 c A fr b->St c fr γ P s cs->c.D.mg x=some u->IsL c.D γ P vs as ->
 (∃k,∀(Q:Keeper->Shared->Prop),Q k s->wpAny c.M A (keeperOf u) Q E s)/\wpAny c.M A (call u vs) (Ev c fr γ P s cs r) E s
theorem FnAt.ok{x:Str}{as:List V}{r:V}(h:FnAt c b x as r):FnOk c b x as r:=λσ' N u vs E hu hv=>h N.A N.fr N.γ N.P N.s σ'.cs u vs E N.hA.z N.S hu.gl_inv hv
theorem uz(hB:Wd c c.hb){x:Str}{f:Addr}{fd:FuncData}{F:Fn}(hx:c.D.mg x=some (.ref f))(D:ak c f fd F){as ds:List V}(hh:as.all hand=true)
  (hb:∀(s:Shared) (γ:Gh) (P:Frz) (vs:List Value),Wd c s.heap->IsL c.D γ P vs as->∃ws,BindsTo s fd ⟨vs,[]⟩ (F.pars.zip (vs++ws))/\∀γ P,IsL c.D γ P ws ds) (hst:Svs (F.pars.zip (as++ds)) (aL F []) σ) {r:V} (hr:RXs c b σ F.body (.ret r) τ) (hb0:below 0 r=true):FnAt c (b+1) x as r:=λA fr γ P s cs u vs E hA S hu hv=>by
 obtain⟨ob,hK,hd⟩:=D.obj;cases hx.symm.trans hu;refine⟨⟨.frame,λQ hq=>?_⟩,?_⟩
 ·unfold keeperOf
  refine wpAny_bind (wpAny_load (S.wd.kp _ _ hK) ?_);rw[hd];exact wpAny_pure hq
 ·obtain⟨ws,hbd,hds⟩:=hb s γ P vs S.wd hv
  have is2:IsL c.D Gh.nil P (vs++ws) (as++ds):=by
   have i0:=hv.hand hh;have i1:=hds Gh.nil P;clear hbd hb hv hst
   induction i0 with
   | nil=>exact i1
   | cons a _ ih =>
    rw[Lw,Lx] at hh;exact .cons a (ih hh.2)
  refine wpAny_mono (iQ (cs':=[]) hB hA S.bare D (args:=⟨vs,[]⟩) hbd is2 hst hr (.inl rfl) ⟨by simp,K5 _,hb0,by simp⟩) (λv s1 q_=>Exists.p3 q_ λP1 Y1 i1=>?_) λ_ _ q=>q
  exact⟨P1,⟨Y1.since.gr,⟨S.real.keep Y1.since.gr Y1.since.ext.keep Y1.st.real.le Y1.st.real.kind,Y1.st.wd,Y1.st.frs⟩,Y1.since.ext⟩,i1.gmono (Gh.nil_le γ)⟩
theorem Am.le{b':Nat}(h:Am c A fr b')(hb:b<=b'):Am c A fr b:=⟨h.handled,by have:=h.depth;omega,by have:=h.units;omega,h.frames,h.head,h.tree⟩
theorem FnOk.le{b':Nat}{x:Str}{as:List V}{r:V}(h:FnOk c b x as r)(hb:b<=b'):FnOk c b' x as r:=λσ N u vs E hu hv=>h σ {N with hA:=N.hA.le hb} u vs E hu hv
end
end
section
theorem Cg(z:Str):(KY "\""++z++KY "\"")=mkS (34::(z.cps.toList++[34])):=by
 have e:KY "\""=⟨#[34]⟩:=by decide +kernel
 rw[e];show(⟨#[34]++z.cps ++ #[34]⟩:Str)=_;unfold mkS
 congr 1
 apply Rc;simp
section
variable{prog:Program}{w:World}{A:Around}{E:Value->Shared->Prop}{s:Shared}
theorem DP{y:Str}{t u:Tok}{Q:Value->Shared->Prop}(hy:y.length<=1000000)(h:∀t' k,Q (.str (KY "\""++y++KY "\"") t') {s with toks:=k}):wpAny (model prog w) A (binaryOp .Mod (.str (KY "\"%s\"") t) (.str y u)) Q E s:=by
 refine' KPc.mod_str ?kpcF hy ?kpcm ?h
 case kpcF=>kpc_eq
 case kpcm=>k_dflt kpc_run_s
 case h=>exact h
end
end
noncomputable def fnOf:Stmt->Fn
 | .FunctionDef _ a b _ _ _ sc _ _ _=>⟨(a.posonlyargs++a.args).map (·.arg),b,sc.names⟩
 | _=>⟨[],[],[]⟩
noncomputable def tgOf:Stmt->Expr
 | .For t _ _ _ _=>t
 | .While t _ _ _=>t
 | .If t _ _ _=>t
 | .Return (some e) _=>e
 | .Assign _ e _=>e
 | .Expr e _=>e
 | _=>.Name "" default
noncomputable def cElt:Expr->Expr
 | .ListComp a _ _ _=>a
 | .Call _ (a::_) _ _=>a
 | .List (a::_) _=>a
 | .BinOp _ _ r _=>r
 | .BoolOp _ (_::y::_) _=>y
 | .Compare l _ _ _=>l
 | e=>e
noncomputable def fP:Fn:=fnOf (nthS pgm.main.body 27)
noncomputable def kW:Fn:=fnOf (nthS pgm.main.body 6)
noncomputable def cW:Fn:=fnOf (nthS pgm.main.body 23)
noncomputable def jc:Fn:=fnOf (nthS pgm.main.body 30)
noncomputable def dG:Fn:=fnOf (nthS pgm.main.body 35)
noncomputable def dN:Fn:=fnOf (nthS pgm.main.body 38)
noncomputable def eH:Fn:=fnOf (nthS pgm.main.body 40)
noncomputable def eG:Fn:=fnOf (nthS pgm.main.body 41)
noncomputable def b8:Fn:=fnOf (nthS pgm.main.body 43)
noncomputable def cg:Fn:=fnOf (nthS pgm.main.body 44)
noncomputable def aW:Fn:=fnOf (nthS pgm.main.body 45)
noncomputable def cB:Fn:=fnOf (nthS pgm.main.body 46)
noncomputable def eN:Fn:=fnOf (nthS pgm.main.body 47)
noncomputable def cX:Fn:=fnOf (nthS pgm.main.body 48)
noncomputable def fK:Fn:=fnOf (nthS pgm.main.body 49)
noncomputable def dJ:Fn:=fnOf (nthS pgm.main.body 50)
noncomputable def eO:Fn:=fnOf (nthS pgm.main.body 51)
noncomputable def dI:Fn:=fnOf (nthS pgm.main.body 52)
noncomputable def jd:Fn:=fnOf (nthS pgm.main.body 53)
noncomputable def bh:Fn:=fnOf (nthS pgm.main.body 54)
noncomputable def cM:Fn:=fnOf (nthS pgm.main.body 55)
noncomputable def fQ:Fn:=fnOf (nthS pgm.main.body 56)
noncomputable def Ke:List Str:=(["deque","_wall","_index","StringIO","shlex","split","join_shlex","_find_unsafe","quote","_twin_re_1","_twin_re_7","unmatched","BytesIO"]:List Str)++(["HEADER_TOKEN_RE","HEADER_QUOTED_VALUE_RE","HEADER_VALUE_RE","HEADER_ESCAPE_RE"]:List Str) ++
 (["split_header_words","HEADER_JOIN_TOKEN_RE","HEADER_JOIN_ESCAPE_RE","join_header_words","sorted_list_difference","unorderable_list_difference"]:List Str)++(["_law_kids","_law_depths","_law_rows","_law_written","_law_sets","_law_laid","_law_ways","_law_orders"]:List Str) ++
 (["_law_pair","_law_read","_law_fits","_law_some","_law_right","law"]:List Str)
noncomputable def G:Glb:=⟨Ke,
 [("len",.bi "len"),("sum",.bi "sum"),("sorted",.bi "sorted"),("isinstance",.bi "isinstance"),("list",.ty "list"),("range",.ty "range"),("enumerate",.ty "enumerate"),("str",.ty "str"),("type",.ty "type"),("int",.ty "int"),("bool",.ty "bool"),("IndexError",.ty "IndexError"),("StopIteration",.ty "StopIteration"),("ValueError",.ty "ValueError"),("object",.ty "object")]⟩
noncomputable abbrev sg0(F:Fn)(vs:List (Str × V)):Sg:=⟨[⟨F.names,0,[]⟩],[.vars vs]⟩
theorem iT{α:Type}{x:Str}{v:α}{r:List (Str × α)}:aget x ((x,v)::r)=some v:=dC rfl
theorem Kh{α:Type}{x y:Str}{v t:α}{r:List (Str × α)}(h:decide (y=x)=false)(k:aget x r=some v):aget x ((y,t)::r)=some v:=(cI (of_decide_eq_false h)).trans k
theorem j7{α:Type}{x:Str}{v:α}:aput x v []=[(x,v)]:=rfl
theorem KH{α:Type}{x:Str}{v t:α}{r:List (Str × α)}:aput x v ((x,t)::r)=(x,v)::r:=oK rfl
theorem wA{α:Type}{x y:Str}{v t:α}{r r':List (Str × α)}(h:decide (y=x)=false)(k:aput x v r=r'):aput x v ((y,t)::r)=(y,t)::r':=(j8 (of_decide_eq_false h)).trans (congrArg _ k)
theorem wB{x y z:Str}{v t u:V}{r q:List (Str × V)}(h:decide (y=x)=false)(g:decide (z=x)=false)(k:aput x v r=q):aput x v ((y,t)::(z,u)::r)=(y,t)::(z,u)::q:=wA h (wA g k)
theorem KD{x y z y' z':Str}{v t u t' u':V}{r q:List (Str × V)}(h:decide (y=x)=false)(g:decide (z=x)=false)(h':decide (y'=x)=false)(g':decide (z'=x)=false)(k:aput x v r=q):aput x v ((y,t)::(z,u)::(y',t')::(z',u')::r)=(y,t)::(z,u)::(y',t')::(z',u')::q:=wB h g (wB h' g' k)
theorem g_len:aget "len" G.bis=some (.bi "len"):=by rfl'
theorem g_sum:aget "sum" G.bis=some (.bi "sum"):=by rfl'
theorem Kr:aget "sorted" G.bis=some (.bi "sorted"):=by rfl'
theorem Kv:aget "isinstance" G.bis=some (.bi "isinstance"):=by rfl'
theorem G8:aget "list" G.bis=some (.ty "list"):=by rfl'
theorem Ku:aget "range" G.bis=some (.ty "range"):=by rfl'
theorem Kw:aget "enumerate" G.bis=some (.ty "enumerate"):=by rfl'
theorem g_str:aget "str" G.bis=some (.ty "str"):=by rfl'
theorem g_type:aget "type" G.bis=some (.ty "type"):=by rfl'
theorem g_int:aget "int" G.bis=some (.ty "int"):=by rfl'
theorem Kz:aget "IndexError" G.bis=some (.ty "IndexError"):=by rfl'
theorem Ky:aget "ValueError" G.bis=some (.ty "ValueError"):=by rfl'
theorem set0{α:Type}{a c:α}{r:List α}:(a::r).set 0 c=c::r:=rfl
theorem setS{α:Type}{a c:α}{n:Nat}{r r':List α}(h:r.set n c=r'):(a::r).set (n+1) c=a::r':=by rw[List.set_cons_succ,h]
theorem appN0{α:Type}{r:List α}:[]++r=r:=rfl
theorem svL{x:Str}{v:V}{l:Lv}{r:List Lv}{cs cs':List Cell}{vs vs':List (Str × V)}(h1:aget x l.names=some .local)(h2:cs[l.loc]?=some (.vars vs))(h3:aput x v vs=vs')(h4:cs.set l.loc (.vars vs')=cs'):Sv x v ⟨l::r,cs⟩ ⟨l::r,cs'⟩:=by
 subst h3 h4;exact .loc h1 h2
theorem svC{x:Str}{v:V}{l:Lv}{r:List Lv}{cs cs':List Cell}{i:Nat}{u:Option V}(h1:aget x l.names=some .cell)(h2:aget x l.cells=some i)(h3:cs[i]?=some (.cell u))(h4:cs.set i (.cell (some v))=cs'):Sv x v ⟨l::r,cs⟩ ⟨l::r,cs'⟩:=by
 subst h4;exact .cel h1 h2 h3
theorem soL{x:Str}{l:List V}{σ τ:Sg}{n:Nat}{cs1:List Cell}(h0:σ.cs++[.list l]=cs1)(hn:σ.cs.length=n)(h:Sv x (.own n) ⟨σ.lv,cs1⟩ τ):So x l σ τ:=by subst h0 hn;exact h
inductive cY:Cell->Cell->Prop
 | refl (c:Cell):cY c c
 | vars {l l':List (Str × V)}:(∀x v,aget x l'=some v->aget x l=some v)->cY (.vars l) (.vars l')
 | dead {l:List V}:cY (.list l) .dead
 | cell {v:Option V}:cY (.cell v) (.cell none)
inductive CsLe:List Cell->List Cell->Prop
 | nil:CsLe [] []
 | cons {a b:Cell} {r s:List Cell}:cY a b->CsLe r s->CsLe (a::r) (b::s)
theorem cY.rf{c:Cell}:cY c c:=.refl c
theorem CsLe.refl:∀r:List Cell,CsLe r r:=by
 intro l_
 induction l_ with
 | nil=>exact .nil
 | cons a r ih=>exact .cons (.refl a) (ih)
theorem CsLe.rf{r:List Cell}:CsLe r r:=.refl r
theorem CsLe.consR{a:Cell}{r s:List Cell}(k:CsLe r s):CsLe (a::r) (a::s):=.cons (.refl a) k
theorem CsLe.get{cs cs':List Cell}(h:CsLe cs cs'):cs.length=cs'.length/\∀(i:Nat) (c':Cell),cs'[i]?=some c'->∃c:Cell,cs[i]?=some c/\cY c c':=by
 induction h with
 | nil=>exact⟨rfl,λi c' e=>by simp at e⟩
 | cons h _ ih =>
  refine⟨by simp[ih.1],λi c' e=>?_⟩
  cases i with
  | zero=>simp only[QR,Option.some.injEq] at e ⊢;subst e;exact⟨_,rfl,h⟩
  | succ i=>rw[Pg] at e ⊢;exact ih.2 i c' e
theorem Real.weak{D:Dc}{γ:Gh}{P:Frz}{h:Heap}{cs cs':List Cell}(R:Real D γ P h cs)(hc:CsLe cs cs'):Real D γ P h cs':=by
 obtain⟨hl,hg⟩:=hc.get;refine⟨R.k.trans hl,λi c' e=>?_,R.inj,λi c' e hd=>?_,R.le,R.kind⟩
 ·obtain⟨c,e1,q⟩:=hg i c' e
  have:=R.cell i c e1;cases q with
  | refl=>exact this
  | vars hv=>obtain⟨o,es,ep,h1,h2,h3,h4⟩:=this;exact⟨o,es,ep,h1,h2,h3,λx v e=>h4 x v (hv x v e)⟩
  | dead=>obtain⟨vs,n,h1,_⟩:=this;exact⟨vs,n,h1⟩
  | cell=>obtain⟨r,h1,_⟩:=this;exact⟨r,h1,λd e=>by cases e⟩
 ·obtain⟨c,e1,q⟩:=hg i c' e
  refine R.off i c e1 λhd'=>?_;subst hd';cases q;exact hd rfl
inductive gO(l:List (Str × V)):List (Str × V)->Prop
 | nil:gO l []
 | cons {x:Str} {v:V} {r:List (Str × V)}:aget x l=some v->gO l r->gO l ((x,v)::r)
theorem gO.get{l l':List (Str × V)}(h:gO l l'):∀x v,aget x l'=some v->aget x l=some v:=by
 induction h with
 | nil=>intro x v e;cases e
 | cons h _ ih =>
  intro y w e;rcases kh e with ⟨q,z⟩ | ⟨_,e⟩
  ·rw[<-q,<-z];exact h
  ·exact ih y w e
theorem cY.vs{l l':List (Str × V)}(h:gO l l'):cY (.vars l) (.vars l'):=.vars h.get
section
variable{c:Cx}{b:Nat}{σ σ' τ τ':Sg}{st:Stmt}{ss bd:List Stmt}{f:Fl}{tg:Expr}{xs:List V}{lv:List Lv}{cs cs':List Cell}
theorem Act.weak{fr:List Env}{γ:Gh}{P0 P:Frz}{s0 s:Shared}(Y:Act c fr γ P0 s0 P s cs)(h:CsLe cs cs'):Act c fr γ P0 s0 P s cs':=⟨⟨Y.since.gr,Y.since.ext,⟨Y.st.real.weak h,Y.st.wd,Y.st.frs⟩⟩,Y.base,Y.kb⟩
namespace R
theorem less(h:RXs c b σ ss f ⟨lv,cs⟩)(hc:CsLe cs cs'):RXs c b σ ss f ⟨lv,cs'⟩:=⟨h.1,λN=>wpAny_mono (h.2 N) (λf' s' q_=>Exists.p5 q_ λγ' P' g Y i=>⟨γ',P',g,Y.weak hc,i⟩) λx s' ⟨γ',P',k,g,e,Y,i⟩=>⟨γ',P',k,g,e,Y.weak hc,i⟩⟩
theorem dg(h:RFor c b ⟨lv,cs'⟩ tg bd xs f τ)(hc:CsLe cs cs'):RFor c b ⟨lv,cs⟩ tg bd xs f τ:=⟨h.1,λN=>h.2 {N with Y:=N.Y.weak hc}⟩
theorem DK{t:Expr}(h:RWh c b ⟨lv,cs'⟩ t bd f τ)(hc:CsLe cs cs'):RWh c b ⟨lv,cs⟩ t bd f τ:=⟨h.1,λN=>h.2 {N with Y:=N.Y.weak hc}⟩
theorem moreFE{tg':Expr}{bd':List Stmt}(h:RFor c b ⟨lv,cs'⟩ tg' bd' xs f τ)(e1:tg'=tg)(e2:bd'=bd)(hc:CsLe cs cs'):RFor c b ⟨lv,cs⟩ tg bd xs f τ:=by subst e1 e2;exact dg h hc
theorem moreWE{t t':Expr}{bd':List Stmt}(h:RWh c b ⟨lv,cs'⟩ t' bd' f τ)(e1:t'=t)(e2:bd'=bd)(hc:CsLe cs cs'):RWh c b ⟨lv,cs⟩ t bd f τ:=by subst e1 e2;exact DK h hc
variable{t:Expr}{b1 b2:List Stmt}{f1:Fl}{k j2:Bool}{px:Pos}{es:List Expr}{υ:Sg}
def Br(c:Cx)(b:Nat)(σ:Sg)(b1 b2:List Stmt)(f:Fl)(τ:Sg)(k:Bool):Prop:=(k=true/\RXs c b σ b1 f τ)∨(k=false/\RXs c b σ b2 f τ)
theorem Br.y(h:k=true)(x:RXs c b σ b1 f τ):Br c b σ b1 b2 f τ k:=.inl ⟨h,x⟩
theorem Br.n(h:k=false)(x:RXs c b σ b2 f τ):Br c b σ b1 b2 f τ k:=.inr ⟨h,x⟩
theorem ifB(h:RTr c b σ t k)(h2:Br c b σ b1 b2 f τ k):RX c b σ (.If t b1 b2 px) f τ:=by
 rcases h2 with ⟨rfl,h2⟩ | ⟨rfl,h2⟩
 ·exact if_ h h2
 ·exact if_ h h2
def Nx(c:Cx)(b:Nat)(f1:Fl)(τ:Sg)(ss:List Stmt)(f:Fl)(υ:Sg):Prop:=(f1=.next/\RXs c b τ ss f υ)∨(f1≠.next/\f=f1/\υ=τ)
theorem Nx.go(h:RXs c b τ ss f υ):Nx c b .next τ ss f υ:=.inl ⟨rfl,h⟩
theorem Nx.stop(h:f≠.next):Nx c b f τ ss f τ:=.inr ⟨h,rfl,rfl⟩
theorem xs1(h:RX c b σ st f1 τ)(h2:Nx c b f1 τ ss f υ):RXs c b σ (st::ss) f υ:=by
 rcases h2 with ⟨rfl,h2⟩ | ⟨h3,rfl,rfl⟩
 ·exact xsCons h h2
 ·exact xsStop h h3
def An(c:Cx)(b:Nat)(σ:Sg)(es:List Expr)(j2 k:Bool):Prop:=(k=true/\∃j,RTrs c b .And σ es j/\j=j2)∨(k=false/\j2=false)
theorem An.no(h:k=false):An c b σ es false k:=.inr ⟨h,rfl⟩
theorem An.go{j:Bool}(h:k=true)(q:RTrs c b .And σ es j)(e:j=j2):An c b σ es j2 k:=.inl ⟨h,j,q,e⟩
def On(c:Cx)(b:Nat)(σ:Sg)(es:List Expr)(j2 k:Bool):Prop:=(k=false/\∃j,RTrs c b .Or σ es j/\j=j2)∨(k=true/\j2=true)
theorem On.no(h:k=true):On c b σ es true k:=.inr ⟨h,rfl⟩
theorem On.go{j:Bool}(h:k=false)(q:RTrs c b .Or σ es j)(e:j=j2):On c b σ es j2 k:=.inl ⟨h,j,q,e⟩
theorem and1(h:RTr c b σ t k)(h2:An c b σ es j2 k):RTrs c b .And σ (t::es) j2:=by
 rcases h2 with ⟨rfl,j,h2,rfl⟩ | ⟨rfl,rfl⟩
 ·exact allT h h2
 ·exact allF h
theorem or1(h:RTr c b σ t k)(h2:On c b σ es j2 k):RTrs c b .Or σ (t::es) j2:=by
 rcases h2 with ⟨rfl,j,h2,rfl⟩ | ⟨rfl,rfl⟩
 ·exact anyF h h2
 ·exact anyT h
end R
end
noncomputable def ownNames:List Str:=["parents","depths","rows","sets","missing","unexpected","headers","attr","result","pairs","first"]
theorem R.asgOn{c:Cx}{b:Nat}{σ τ:Sg}{e:Expr}{vs:List V}{nm:Str}{py pos:Pos}(hB:Wd c c.hb)(hn:ownNames.contains nm=true)(hc:iy e=false)(h:RFr c b σ e vs)(hs:So nm vs σ τ):RX c b σ (.Assign [.Name nm py] e pos) .next τ:=R.asgO hB hc h hs
noncomputable def locOf(σ:Sg)(nm:Str):Option V:=match σ.lv with
 | []=>none
 | l::_=>match aget nm l.names with
  | some .local=>(match σ.cs[l.loc]? with
   | some (.vars vs)=>aget nm vs
   | _=>none)
  | _=>none
theorem R.loc{c:Cx}{b:Nat}{σ:Sg}{nm:Str}{p:Pos}{v:V}(h:locOf σ nm=some v):REv c b σ (.Name nm p) v:=by
 obtain⟨lv,cs⟩:=σ;unfold locOf at h;cases lv with
 | nil=>cases h
 | cons l lr =>
  dsimp only at h;cases h1:aget nm l.names with
  | none=>rw[h1] at h;cases h
  | some k =>
   rw[h1] at h;cases k with
   | «local» =>
    cases h2:cs[l.loc]? with
    | none=>dsimp only at h;rw[h2] at h;cases h
    | some cc =>
     dsimp only at h;rw[h2] at h;cases cc with
     | vars vs=>exact R.name (g:=⟨[],[]⟩) ⟨λ_ h=>(nomatch h),λ_ _ _ h=>(nomatch h)⟩ rfl (.loc h1 h2 h)
     | _=>cases h
   | _=>cases h
theorem R.frMulL{c:Cx}{b:Nat}{σ:Sg}{es:List Expr}{r:Expr}{vs:List V}{i:Int}{p q:Pos}(hl:REvs c b σ es vs)(hf:vs.all flat=true)(hv:vs.length<=16777216)(hr:REv c b σ r (.int i))(hx : -(2 ^ 62)<i/\i<2 ^ 62)(hz:vs.length*i.toNat<=16777216):RFr c b σ (.BinOp (.List es p) .Mult r q) (Mg i.toNat vs).flatten:=R.frMul (R.frLst hl hf hv).ev hr hx hz
theorem toList_mkS{l:List Nat}:(mkS l).cps.toList=l:=rfl
theorem len_mkS{l:List Nat}:(mkS l).length=l.length:=rfl
theorem Bp.quoted{c:Cx}{b:Nat}{σ:Sg}{t:Str}(hz:t.length<=1000000):Bp c b σ .Mod (.str (KY "\"%s\"")) (.str t) (.str (mkS (34::(t.cps.toList++[34])))):=λN u v E hu hv=>by
 obtain⟨t1,rfl⟩:=hu.str_inv;obtain⟨t2,rfl⟩:=hv.str_inv;exact DP hz λt' k=>by rw[Cg];exact N.str _ _ _
theorem Eqd.e{c:Cx}{b:Nat}{σ:Sg}{x y:V}{r:Bool}(h:Eqd c b σ x y r):Cp c b σ .Eq x y r:=h.1
theorem Eqd.n{c:Cx}{b:Nat}{σ:Sg}{x y:V}{r:Bool}(h:Eqd c b σ x y r):Cp c b σ .NotEq x y (!r):=h.2
theorem R.isSub{c:Cx}{b:Nat}{σ:Sg}{e x:Expr}{p:Pos}{v:V}(h:REv c b σ (.Subscript e x p) v):REv c b σ (.Subscript e x p) v:=h
theorem FnOk.at_{c:Cx}{b:Nat}{σ:Sg}{x:Str}{as:List V}{r:V}(h:FnOk c b x as r):Kp c b σ (.gl x) as r:=h σ
abbrev SOk(s:Str):Prop:=(toPy (.str s)).canLay0=true
mutual
inductive Lay:Nat->V->Prop
 | none {d:Nat}:Lay d .none
 | int {d:Nat} {i:Int}:Lay d (.int i)
 | str {d:Nat} {s:Str}:(toPy (.str s)).canLay0=true->Lay d (.str s)
 | lst {d:Nat} {l:List V}:LayL d l->Lay (d+1) (.lst l)
 | tup {d:Nat} {l:List V}:LayL d l->Lay (d+1) (.tup l)
inductive LayL:Nat->List V->Prop
 | nil {d:Nat}:LayL d []
 | cons {d:Nat} {v:V} {l:List V}:Lay d v->LayL d l->LayL d (v::l)
end
theorem Lay.ok{d:Nat}{v:V}(h:Lay d v):(toPy v).canLay0=true/\(toPy v).depth<=d :=
 Lay.rec (motive_1:=λd v _=>(toPy v).canLay0=true/\(toPy v).depth<=d) (motive_2:=λd l _=>PyData.canLayAll0 (bB l)=true/\PyData.depthAll (bB l)<=d) ⟨rfl,K5 _⟩ ⟨rfl,K5 _⟩ (λh=>⟨h,K5 _⟩)
  (λ_ q=>⟨q.1,Mm q.2⟩) (λ_ q=>⟨q.1,Mm q.2⟩) ⟨rfl,K5 _⟩ (λ_ _ a b=>⟨Px.mpr ⟨a.1,b.1⟩,Qq.mpr ⟨a.2,b.2⟩⟩) h
theorem Lay.shaped{v:V}(h:Lay 60 v):SeqAt.shaped (toPy v)=true:=by
 unfold SeqAt.shaped;rw[h.ok.1,decide_eq_true (by have:=h.ok.2;omega)];rfl
theorem LayL.of{d:Nat}{l:List V}(h:∀v∈l,Lay d v):LayL d l:=by
 induction l with
 | nil=>exact .nil
 | cons a r ih=>exact .cons (h a (.head _)) (ih λv hv=>h v (.tail _ hv))
theorem xZ(l:List V):PyData.eqvAll (bB l) []=l.isEmpty:=by cases l <;> rfl
theorem ji:∀a b:List Str,PyData.eqvAll (bB (a.map .str)) (bB (b.map .str))=decide (a=b)
 | [],[]=>rfl
 | [],_::_=>rfl
 | _::_,[]=>rfl
 | x::a,y::b=>by
  show((x==y)&&PyData.eqvAll (bB (a.map .str)) (bB (b.map .str)))=_;rw[ji a b,Np];simp
theorem eZ{a:List Str}(h:∀s∈a,SOk s){d:Nat}:LayL d (a.map .str):=.of λv hv=>by
 obtain⟨s,hs,rfl⟩:=K9.mp hv;exact .str (h s hs)
theorem tC{a:List Nat}{d:Nat}:LayL d (a.map λ(i:Nat)=>.int i):=.of λv hv=>by
 obtain⟨s,hs,rfl⟩:=K9.mp hv;exact .int
section
variable{c:Cx}{b:Nat}{σ:Sg}{e l r x y:Expr}{u v w:V}{vs ws:List V}{p q:Pos}
theorem Eqd.nilR(h:LayL 59 vs):Eqd c b σ (.lst vs) (.lst []) vs.isEmpty:=.seq (Lay.lst h).shaped (Lay.lst .nil:Lay 60 _).shaped rfl rfl (xZ vs)
theorem Eqd.strs{a c':List Str}(h:∀s∈a,SOk s)(k:∀s∈c',SOk s):Eqd c b σ (.lst (a.map .str)) (.lst (c'.map .str)) (decide (a=c')):=.seq (Lay.lst (d:=59) (eZ h)).shaped (Lay.lst (d:=59) (eZ k)).shaped rfl rfl (ji _ _)
theorem Eqd.pair{a a' c' c'':List Str}(h:∀s∈a,SOk s)(h':∀s∈a',SOk s)(k:∀s∈c',SOk s)(k':∀s∈c'',SOk s) :
  Eqd c b σ (.tup [.lst (a.map .str),.lst (a'.map .str)]) (.tup [.lst (c'.map .str),.lst (c''.map .str)]) (decide (a=c')&&decide (a'=c'')) :=
 .seq (Lay.tup (d:=59) (.cons (.lst (d:=58) (eZ h)) (.cons (.lst (d:=58) (eZ h')) .nil))).shaped (Lay.tup (d:=59) (.cons (.lst (d:=58) (eZ k)) (.cons (.lst (d:=58) (eZ k')) .nil))).shaped rfl rfl
  (by show(PyData.eqvAll (bB (a.map .str)) (bB (c'.map .str))&&(PyData.eqvAll (bB (a'.map .str)) (bB (c''.map .str))&&true))=_;rw[ji,ji,Ol])
namespace R
theorem optNn:ROpt c b σ none (oi none):=optN
theorem optIn{i:Nat}(h:REv c b σ e (.int (i:Int))):ROpt c b σ (some e) (oi (some i)):=optI h
theorem opt1(h:REv c b σ e (.int 1)):ROpt c b σ (some e) (oi (some 1)):=optI h
theorem optS{i:Nat}(h:REv c b σ e (.int ((i:Int)+1))):ROpt c b σ (some e) (oi (some (i+1))):=optI h
theorem cutN{lo hi:Option Expr}{a bb:Option Nat}(he:REv c b σ e u)(h1:ROpt c b σ lo (oi a))(h2:ROpt c b σ hi (oi bb))(h:Seq c b σ false u vs)(hz:vs.length<=16777216):REv c b σ (.Subscript e (.Slice lo hi none p) q) (.lst (seg vs a bb)):=cutL he h1 h2 optN h (by simp) (ru vs a bb) hz
theorem cut2(he:REv c b σ e u)(h:Seq c b σ false u vs){n0 n2:Nat}{p0 p2:Pos}(hz:vs.length<=16777216):REv c b σ (.Subscript e (.Slice (some (.Constant (.int 0) n0 p0)) none (some (.Constant (.int 2) n2 p2)) p) q) (.lst (pick vs (some 0) none (some 2))):=cutL he (optI cstI) optN (optI cstI) h (by simp) rfl hz
theorem cut3(he:REv c b σ e u)(h:Seq c b σ false u vs){n0 n2:Nat}{p0 p2:Pos}(hz:vs.length<=16777216):REv c b σ (.Subscript e (.Slice (some (.Constant (.int 1) n0 p0)) none (some (.Constant (.int 2) n2 p2)) p) q) (.lst (pick vs (some 1) none (some 2))):=cutL he (optI cstI) optN (optI cstI) h (by simp) rfl hz
theorem cutR(he:REv c b σ e u)(h:Seq c b σ false u vs){n0:Nat}{p0 p1:Pos}(hz:vs.length<=16777216):REv c b σ (.Subscript e (.Slice none none (some (.UnaryOp .USub (.Constant (.int 1) n0 p0) p1)) p) q) (.lst vs.reverse):=cutL he optN optN (optI (neg cstI)) h (by simp) (by
 show(sliceRange ((vs.length:Int)-1) (-1) (-1)).filterMap (vs[·]?)=_;rw[PySem.W.krv_sliceRange,PySem.W.krv_range,List.filterMap_reverse];have:=my vs vs.length 0 (by omega)
 rw[show((0 + ·):Nat->Nat)=id from funext λk=>Lr k,O8,Lr,O6,Ph] at this;rw[this]) hz
theorem item0{t:Bool}(hs:isSlice x=false)(hx:REv c b σ x (.int 0))(he:REv c b σ e u)(h:Seq c b σ t u vs)(hi:vs[0]?=some v)(hz:vs.length<=16777216):REv c b σ (.Subscript e x p) v:=item (i:=0) hs he hx h hi hz
theorem item1{t:Bool}(hs:isSlice x=false)(hx:REv c b σ x (.int 1))(he:REv c b σ e u)(h:Seq c b σ t u vs)(hi:vs[1]?=some v)(hz:vs.length<=16777216):REv c b σ (.Subscript e x p) v:=item (i:=1) hs he hx h hi hz
end R
end
noncomputable abbrev retE:Stmt->Expr:=tgOf
def RFrB(c:Cx)(b:Nat)(σ:Sg)(e:Expr)(l:List V):Prop:=RFr c b σ e l
section
variable{c:Cx}{b:Nat}{σ τ σ0:Sg}{elt e e' iter t:Expr}{nm:Str}{px p:Pos}{ifs:List Expr}{xs ys:List V}{v:V}{st st':Stmt}{f:Fl}
namespace R
theorem compG(hB:Wd c c.hb)(S:V->Sg)(g:V->V)(q:V->Bool)(hs:∀u v,Sv nm v (S u) (S v)):∀(xs:List V) (σ:Sg),(∀v,Sv nm v σ (S v))->(∀u∈xs,RTs c b (S u) ifs (q u)/\(q u=true->REv c b (S u) elt (g u)/\flat (g u)=true)) ->
  fJ c b σ elt nm px ifs xs ((xs.filter q).map g):=by
 intro l_
 induction l_ with
 | nil=>exact λσ _ _=>Jd hB
 | cons u xs ih =>
  intro σ h0 h;obtain⟨h1,h2⟩:=h u (.head _);have ih:=ih (S u) (hs u) λw hw=>h w (.tail _ hw);cases hq:q u with
  | false =>
   rw[hq] at h1;rw[List.filter_cons_of_neg (by rw[hq];decide)]
   exact vR hB (h0 u) h1 (.inl ⟨rfl,rfl⟩) ih
  | true =>
   rw[hq] at h1;rw[List.filter_cons_of_pos hq];exact vR hB (h0 u) h1 (.inr ⟨rfl,g u,(h2 hq).1,(h2 hq).2,rfl⟩) ih
theorem frG(hB:Wd c c.hb){sc:Scope}{lv:Lv}{lr:List Lv}(cl:List (Str × Nat))(S:V->Sg)(g:V->V)(q:V->Bool)(hi:RIt c b σ iter xs)(hok:dw sc=true)(hu:isSet iter=false)(hlv:σ.lv=lv::lr)(hcl:bf sc.names lv.cells []=some cl)
  (e0:du sc cl σ=σ0) (h0:∀v,Sv nm v σ0 (S v)) (hs:∀u v,Sv nm v (S u) (S v)) (h:∀u∈xs,RTs c b (S u) ifs (q u)/\(q u=true->REv c b (S u) elt (g u)/\flat (g u)=true)) (hx:xs.length<=16777216) :
  RFr c b σ (.ListComp elt [⟨.Name nm px,iter,ifs,0⟩] sc p) ((xs.filter q).map g):=by
 subst e0;exact Hf hi hok hu hlv hcl (compG hB S g q hs xs _ h0 h) hx
theorem frM(hB:Wd c c.hb){sc:Scope}{lv:Lv}{lr:List Lv}(cl:List (Str × Nat))(S:V->Sg)(g:V->V)(hi:RIt c b σ iter xs)(hok:dw sc=true)(hu:isSet iter=false)(hlv:σ.lv=lv::lr)(hcl:bf sc.names lv.cells []=some cl)
  (e0:du sc cl σ=σ0) (h0:∀v,Sv nm v σ0 (S v)) (hs:∀u v,Sv nm v (S u) (S v)) (h:∀u∈xs,REv c b (S u) elt (g u)/\flat (g u)=true) (hx:xs.length<=16777216) :
  RFr c b σ (.ListComp elt [⟨.Name nm px,iter,[],0⟩] sc p) (xs.map g):=by
 have:=frG (p:=p) (px:=px) hB cl S g (λ_=>true) hi hok hu hlv hcl e0 h0 hs (λu hu=>⟨ts0,λ_=>h u hu⟩) hx
 rwa [RQ.mpr λ_ _=>rfl] at this
theorem it6{g:Glb}(hg:aj c g){lv:Lv}{lr:List Lv}(hl:σ.lv=lv::lr)(hn:Nm g σ.cs nm lv (.ty "range")){n:Nat}{p' q:Pos}:RIt c b σ (.Call (.Name nm p) [.Constant (.int 6) n p'] [] q) (inds 0 6):=itR (i:=6) hg hl hn rfl cstI (by decide)
theorem frE(h:RFr c b σ e' ys)(he:e'=e):RFr c b σ e ys:=he▸h
theorem frEB(h:RFrB c b σ e' ys)(he:e'=e):RFr c b σ e ys:=he▸h
theorem evE(h:REv c b σ e' v)(he:e'=e):REv c b σ e v:=he▸h
theorem xE(h:RX c b σ st' f τ)(he:st'=st):RX c b σ st f τ:=he▸h
end R
end
theorem qe{e:Expr}{es:List Expr}{env:Env}(hs:isStarred e=false):starEach (e::es) env=(false,eval e env)::starEach es env:=by
 cases e <;> first | rfl | cases hs
section
variable{c:Cx}{g:Glb}{b:Nat}{σ τ υ:Sg}{x y:Expr}{u v:V}{ys:List V}{nm kn:Str}{p q:Pos}
theorem R.effCallF{cs1:List Cell}(hg:aj c g){lv:Lv}{lr:List Lv}(hl:σ.lv=lv::lr)(hn:Nm g σ.cs nm lv (.gl kn))(h1:isStarred x=false)(h2:isStarred y=false)(hx:REv c b σ x u)(hy:RFr c b σ y ys)(hc:CmOk c b kn (σ.cs++[.list ys]) [u,.own σ.cs.length] [] v cs1) :
  REff c b σ (.Call (.Name nm p) [x,y] [] q) v ⟨σ.lv,cs1⟩:=⟨rfl,λN E=>by
 cases hl.symm.trans N.hl;refine wpAny_Call_Name_kw (aR hg N.Y.st N.he hn λxa ia=>?_);obtain⟨fv,hf,hcall⟩:=hc;cases hf.symm.trans ia.gl_inv;have hst:cN [x,y]=true:=by unfold cN;simp[h1,h2]
 refine v9 (bM hst _) rfl ?_;rw[qe h1,qe h2];show wpAny c.M N.A (spliced ((false,eval x N.env)::(false,eval y N.env)::[])) _ _ _;refine Calls.spliced_cons (hx.then N.now λP1 s1 a1 x1 i1=>Calls.spliced_cons (wpAny_mono (hy (N.go a1).now E) (λx2 s2 ⟨P2,a,vs,n,e0,a2,pn,zn,e1,p1⟩=>Calls.spliced_nil (wpAny_evalAll_nil ?_)) λ_ _ q=>q));subst e0;have R1:=N.go a1;obtain⟨X2,i2⟩:=((N.go a1).Y.aft a2).newown pn (λi hi q=>by obtain⟨o,e⟩:=(N.go a1).Y.st.real.there hi;rw[q,zn] at e;cases e) ((N.go a1).Y.since.ext.keep.gone zn) e1 p1
 have r:=hcall σ.lv ((N.go a1).to (τ:=⟨σ.lv,σ.cs++[.list ys]⟩) ((N.go a1).γ.more_le _ _) rfl X2) [x1,.ref a] [] E (.cons ((i1.mono a2.gr.le).gmono (N.γ.more_le _ _)) (.cons i2 .nil)) .nil;exact⟨r.1,wpAny_mono r.2 (λz s3 ⟨γ3,P3,g3,r⟩=>⟨γ3,P3,(N.γ.more_le _ _).trans g3,r⟩) λ_ _ q=>q⟩⟩
end
theorem wG{α:Type}{x:Str}:aget x ([]:List (Str × α))=none:=rfl
theorem oN{α:Type}{x y:Str}{t:α}{r:List (Str × α)}(h:decide (y=x)=false)(k:aget x r=none):aget x ((y,t)::r)=none:=(cI (of_decide_eq_false h)).trans k
theorem paN{c:Cx}{lv:List Lv}{cs cs':List Cell}{i:Nat}{cl a:Str}{v:V}{l l':List (Str × V)}(h1:cs[i]?=some (.inst cl l))(h2:AtS c cl a)(h5:N6 l.length 500=true)(h3:aput a v l=l')(h4:cs.set i (.inst cl l')=cs'):Pa c ⟨lv,cs⟩ (.obj i) a v ⟨lv,cs'⟩:=by
 subst h3 h4;exact⟨i,cl,l,rfl,h1,h2,h5,rfl⟩
noncomputable def F_m(k j:Nat):Fn:=fnOf (nthS (aP (nthS pgm.main.body k)) j)
section
section
variable{c:Cx}{b:Nat}(hB:Wd c c.hb)(hg:aj c G)
include hB hg
theorem BP{a:Nat}{l:List Nat}(hl:(a::l).length<=16777216)(h:FnOk c b "_find_unsafe" [.str (mkS (a::l))] .none):∃τ,RXs c b (sg0 fP [("s",.str (mkS (a::l)))]) fP.body (.ret (.str (mkS (a::l)))) τ:=by
 refine' Lh _ ?h
 case h=>wtm_at "m.xs"
theorem BR{a:Nat}{l:List Nat}{re t:Str}{sp:List (Nat × Nat)}(hl:(a::l).length<=100000)(h:FnOk c b "_find_unsafe" [.str (mkS (a::l))] (.mat re t sp))(hr:(Txt.replace (mkS (a::l)) "'" "'\"'\"'").cps.toList.length<=1000000)
  (hr2:(mkS (a::l)).length+((mkS (a::l)).length+1)*(KY "'\"'\"'").length<=16777216) :
  ∃τ,RXs c b (sg0 fP [("s",.str (mkS (a::l)))]) fP.body (.ret (.str (mkS (((KY "'").cps.toList++(Txt.replace (mkS (a::l)) "'" "'\"'\"'").cps.toList)++(KY "'").cps.toList)))) τ:=by
 have h1:(KY "'").cps.toList.length=1:=by decide +kernel
 refine' Lh _ ?h
 case h=>wtm_at "m.xs"
end
end
section
noncomputable abbrev kv(κ:List Nat):V:=.lst (κ.map λ(i:Nat)=>.int i)
noncomputable def ordP(O:Nat->Nat):Nat->List Nat->Nat->Nat
 | _,[],a=>a
 | j,k::r,a=>ordP O (j+1) r (a*(j+1)*O k)
section
variable{c:Cx}{b:Nat}(hB:Wd c c.hb)(hg:aj c G)
include hB hg
theorem Dk{L:List V}{p:Nat}{O:Nat->Nat}:∀(ks:List Nat) (j a:Nat),(∀k∈ks,FnOk c b "_law_orders" [.int k,.lst L] (.int (O k))/\O k<=720)->j+ks.length<=3->a<=1000*10000 ^ j ->
  RFor c b (sg0 dJ [("place",.int p),("kids",.lst L),("orders",.int a)]) (tgOf (nthS dJ.body 1)) (bdOf (nthS dJ.body 1)) (bZ j (ks.map λ(i:Nat)=>.int i)) .next (sg0 dJ [("place",.int p),("kids",.lst L),("orders",.int (ordP O j ks a))]):=by
 intro l_
 induction l_ with
 | nil=>exact λj a _ _ _=>R.fNil
 | cons k ks ih =>
  intro j a hO hj hb;obtain⟨hk,k1⟩:=hO k (.head _);rw[KJ] at hj;have e2:a*(j+1)<=1000*10000 ^ j*4:=Ot hb (by omega)
  have e3:a*(j+1)*O k<=1000*10000 ^ j*4*720:=Ot e2 k1;have e4:a*(j+1)*O k<=1000*10000 ^ (j+1):=by rw[Nat.pow_succ];omega
  have ih:=ih (j+1) (a*(j+1)*O k) (λk hk=>hO k (.tail _ hk)) (by omega) e4
  have s1:(10000:Nat) ^ j<=10000 ^ 2:=Nat.pow_le_pow_right (by decide) (by omega)
  have s2 : -(2 ^ 62)<(a:Int)/\(a:Int)<2 ^ 62:=⟨by omega,by omega⟩
  have s3 : -(2 ^ 62)<(a:Int)*((j:Int)+1)/\(a:Int)*((j:Int)+1)<2 ^ 62:=by
   have:((a*(j+1):Nat):Int)=(a:Int)*((j:Int)+1):=by simp
   rw[<-this];exact⟨by omega,by omega⟩
  have e5:((a:Int)*((j:Int)+1)*(O k:Int))=((a*(j+1)*O k:Nat):Int):=by simp
  show RFor c b _ _ _ (.tup [.int j,.int k]::bZ (j+1) (ks.map λ(i:Nat)=>.int i)) _ _;refine' R.fN hB (.pair ?a ?b) (R.less ?x ?w) ih
  case a=>wtm_at "m.set"
  case b=>wtm_at "m.set"
  case x=>wtm_at "m.xs"
  case w=>rw[e5];wtm_at "m.csle"
theorem Dj{L:List V}{p:Nat}{ks:List Nat}{O:Nat->Nat}(hp:L[p]?=some (kv ks))(hl:L.length=6)(hO:∀k∈ks,FnOk c b "_law_orders" [.int k,.lst L] (.int (O k))/\O k<=720)(hk:ks.length<=3) :
  ∃τ,RXs c b (sg0 dJ [("place",.int p),("kids",.lst L)]) dJ.body (.ret (.int (ordP O 0 ks 1))) τ:=by
 have lp:=Dk hB hg (p:=p) (L:=L) (O:=O) ks 0 1 hO (by omega) (by decide)
 rw[show((1:Nat):Int)=1 from rfl] at lp;refine' Lh _ ?h
 case h=>wtm_at "m.xs"
end
end
section
noncomputable def laidAt(W:Nat->Nat)(Z:Nat->Nat):Nat->List Nat->Nat->Nat
 | _,[],acc=>acc
 | k,o::r,acc=>laidAt W Z (k+1) r (acc+W o*Z k)
theorem gf{W Z:Nat->Nat}{k o a:Nat}{r:List Nat}:laidAt W Z k (o::r) a=laidAt W Z (k+1) r (a+W o*Z k):=rfl
noncomputable def aX(W:Nat->Nat->Nat):List Nat->List Nat->Nat
 | [],others=>match others with | []=>1 | _=>0
 | a::as,others=>match decide (as.length+1=others.length) with
  | true=>laidAt (W a) (λk=>aX W as (others.take k++others.drop (k+1))) 0 others 0
  | false=>0
theorem tM{W:Nat->Nat->Nat}{a:Nat}{as others:List Nat}(h:as.length+1=others.length):aX W (a::as) others=laidAt (W a) (λk=>aX W as (others.take k++others.drop (k+1))) 0 others 0:=by
 have e:aX W (a::as) others=(match decide (as.length+1=others.length) with | true=>laidAt (W a) (λk=>aX W as (others.take k++others.drop (k+1))) 0 others 0 | false=>0):=rfl
 rw[e,decide_eq_true h]
theorem tO{W:Nat->Nat->Nat}{a:Nat}{as others:List Nat}(h:¬ as.length+1=others.length):aX W (a::as) others=0:=by
 have e:aX W (a::as) others=(match decide (as.length+1=others.length) with | true=>laidAt (W a) (λk=>aX W as (others.take k++others.drop (k+1))) 0 others 0 | false=>0):=rfl
 rw[e,decide_eq_false h]
noncomputable abbrev mY(ns:List Str):V:=.lst (ns.map .str)
section
variable{c:Cx}{b:Nat}(hB:Wd c c.hb)(hg:aj c G)
include hB hg
noncomputable abbrev sgL(ones others:List Nat)(K N:V)(w:Nat):Sg:=sg0 cX [("ones",kv ones),("others",kv others),("kids",K),("names",N),("ways",.int w)]
theorem Fp{K N:V}{a:Nat}{as others:List Nat}{W Z:Nat->Nat}:∀(r:List Nat) (k w:Nat),(∀o∈others,FnOk c b "_law_ways" [.int a,.int o,K,N] (.int (W o))/\W o<=1000) ->
  (∀j,j<others.length->FnOk c b "_law_laid" [kv as,kv (others.take j++others.drop (j+1)),K,N] (.int (Z j))/\Z j<=1000)->others.length<=3->as.length<=3->k+r.length=others.length->others.drop k=r ->
  RFor c b (sgL (a::as) others K N w) (tgOf (nthS cX.body 3)) (bdOf (nthS cX.body 3)) (bZ k (r.map λ(i:Nat)=>.int i)) .next (sgL (a::as) others K N (laidAt W Z k r w)):=by
 intro l_
 induction l_ with
 | nil=>exact λk w _ _ _ _ _ _=>R.fNil
 | cons o r ih =>
  intro k w hW hZ h3 h4 hk hd;rw[KJ] at hk;have hmem:o∈others:=Nz (i:=k) (by rw[hd];exact .head _)
  obtain⟨w1,w2⟩:=hW o hmem;obtain⟨z1,z2⟩:=hZ k (by omega)
  have ih:=ih (k+1) (w+W o*Z k) hW hZ h3 h4 (by omega) (by rw[<-Nv,hd];rfl)
  have e1:(kv as:V)=.lst (seg ((a::as).map λ(i:Nat)=>V.int i) (some 1) none):=rfl;have e2:(kv (others.take k++others.drop (k+1)):V)=.lst (seg (others.map λ(i:Nat)=>V.int i) none (some k)++seg (others.map λ(i:Nat)=>V.int i) (some (k+1)) none):=congrArg V.lst lR;rw[e1,e2] at z1;have l1:(others.map λ(i:Nat)=>V.int i).length<=16777216:=by rw[KN];omega
  have l2:((a::as).map λ(i:Nat)=>V.int i).length<=16777216:=by rw[KN,KJ];omega
  have l3:=lU (k:=k) l1;have g1:((a::as).map λ(i:Nat)=>V.int i)[0]?=some (.int a):=rfl;have e5:((w:Int)+(W o:Int)*(Z k:Int))=((w+W o*Z k:Nat):Int):=by simp
  show RFor c b _ _ _ (.tup [.int k,.int o]::bZ (k+1) (r.map λ(i:Nat)=>.int i)) _ _
  by_cases h0:W o=0
  ·have e6:laidAt W Z k (o::r) w=laidAt W Z (k+1) r w:=by show laidAt W Z (k+1) r (w+W o*Z k)=_;rw[h0];simp
   have e7:w+W o*Z k=w:=by rw[h0];simp
   rw[e6];rw[e7] at ih;have t1:decide ((0:Int)<(W o:Int))=false:=by rw[h0];rfl
   refine' R.fN hB (.pair ?a ?b) (R.less ?x ?w) ih
   case a=>wtm_at "m.set"
   case b=>wtm_at "m.set"
   case x=>wtm_at "m.xs"
   case w=>wtm_at "m.csle"
  ·have t1:decide ((0:Int)<(W o:Int))=true:=decide_eq_true (by omega)
   have s2 : -(2 ^ 62)<(W o:Int)/\(W o:Int)<2 ^ 62:=⟨by omega,by omega⟩
   refine' R.fN hB (.pair ?a ?b) (R.less ?x ?w) ih
   case a=>wtm_at "m.set"
   case b=>wtm_at "m.set"
   case x=>wtm_at "m.xs"
   case w=>rw[e5];wtm_at "m.csle"
theorem Fo{K N:V}{W:Nat->Nat->Nat}{ones others:List Nat}(hW:∀a as,ones=a::as->∀o∈others,FnOk c b "_law_ways" [.int a,.int o,K,N] (.int (W a o))/\W a o<=1000)
  (hZ:∀a as,ones=a::as->∀j,j<others.length->FnOk c b "_law_laid" [kv as,kv (others.take j++others.drop (j+1)),K,N] (.int (aX W as (others.take j++others.drop (j+1))))/\aX W as (others.take j++others.drop (j+1))<=1000) (h3:others.length<=3) (h4:ones.length<=3) :
  ∃τ,RXs c b (sg0 cX [("ones",kv ones),("others",kv others),("kids",K),("names",N)]) cX.body (.ret (.int (aX W ones others))) τ:=by
 have l1:(others.map λ(i:Nat)=>V.int i).length<=16777216:=by rw[KN];omega
 have l2:(ones.map λ(i:Nat)=>V.int i).length<=16777216:=by rw[KN];omega
 by_cases hl:ones.length=others.length
 ·have c1:decide ((((ones.map λ(i:Nat)=>V.int i).length:Nat):Int)=(((others.map λ(i:Nat)=>V.int i).length:Nat):Int))=true:=decide_eq_true (by rw[KN,KN,hl])
  cases ones with
  | nil =>
   have q2:Eqd c b (sg0 cX [("ones",kv []),("others",kv others),("kids",K),("names",N)]) (kv []) (.lst []) true:=Eqd.nilR (tC (a:=[]));cases others with
   | nil =>
    rw[show((aX W [] []:Nat):Int)=1 from rfl];refine' Lh _ ?h
    case h=>wtm_at "m.xs"
   | cons=>cases hl
  | cons a as =>
   have q2:Eqd c b (sg0 cX [("ones",kv (a::as)),("others",kv others),("kids",K),("names",N)]) (kv (a::as)) (.lst []) false:=Eqd.nilR (tC (a:=a::as));have lp:=Fp hB hg (K:=K) (N:=N) (a:=a) (as:=as) others 0 0 (hW a as rfl) (hZ a as rfl) h3 (by rw[KJ] at h4;omega) (Lr _) rfl
   unfold sgL at lp;rw[show((0:Nat):Int)=0 from rfl] at lp;rw[tM hl];refine' Lh _ ?h
   case h=>wtm_at "m.xs"
 ·have c1:decide ((((ones.map λ(i:Nat)=>V.int i).length:Nat):Int)=(((others.map λ(i:Nat)=>V.int i).length:Nat):Int))=false:=decide_eq_false (by rw[KN,KN];omega)
  have e1:((aX W ones others:Nat):Int)=0:=by
   cases ones with
   | nil=>cases others with | nil=>exact absurd rfl hl | cons=>rfl
   | cons a as=>rw[tO hl];rfl
  rw[e1];refine' Lh _ ?h
  case h=>wtm_at "m.xs"
theorem w6{K:V}{ns:List Str}{i j:Nat}{x y:Str}(hi:ns[i]?=some x)(hj:ns[j]?=some y)(hn:ns.length<=6)(h:x≠y):∃τ,RXs c b (sg0 fK [("one",.int i),("other",.int j),("kids",K),("names",mY ns)]) fK.body (.ret (.int 0)) τ:=by
 have g1:(ns.map V.str)[i]?=some (.str x):=by rw[Lf,hi];rfl
 have g2:(ns.map V.str)[j]?=some (.str y):=by rw[Lf,hj];rfl
 have l1:(ns.map V.str).length<=16777216:=by rw[KN];omega
 have c1:decide (x=y)=false:=decide_eq_false h;refine' Lh _ ?h
 case h=>wtm_at "m.xs"
theorem w7{L:List V}{ns:List Str}{i j n:Nat}{κ₁ κ₂:List Nat}{x:Str}(hi:ns[i]?=some x)(hj:ns[j]?=some x)(hn:ns.length<=6)(k1:L[i]?=some (kv κ₁))(k2:L[j]?=some (kv κ₂))(hl:L.length<=6)(h:FnOk c b "_law_laid" [kv κ₁,kv κ₂,.lst L,mY ns] (.int n)) :
  ∃τ,RXs c b (sg0 fK [("one",.int i),("other",.int j),("kids",.lst L),("names",mY ns)]) fK.body (.ret (.int n)) τ:=by
 have g1:(ns.map V.str)[i]?=some (.str x):=by rw[Lf,hi];rfl
 have g2:(ns.map V.str)[j]?=some (.str x):=by rw[Lf,hj];rfl
 have l1:(ns.map V.str).length<=16777216:=by rw[KN];omega
 have l2:L.length<=16777216:=by omega
 have c1:decide (x=x)=true:=decide_eq_true rfl;refine' Lh _ ?h
 case h=>wtm_at "m.xs"
end
end
section
noncomputable abbrev tv(l:List Str):V:=.lst (l.map .str)
noncomputable abbrev sv(S:List (List Str)):V:=.lst (S.map tv)
noncomputable abbrev sg1(F:Fn)(vs:List (Str × V))(l:List V):Sg:=⟨[⟨F.names,0,[]⟩],[.vars vs,.list l]⟩
noncomputable abbrev qR:List Stmt:=bdOf (nthS aW.body 2)
noncomputable abbrev lX:Stmt:=nthS qR 1
noncomputable abbrev qP:Stmt:=nthS (bdOf lX) 0
section
variable{c:Cx}{b:Nat}(hB:Wd c c.hb)(hg:aj c G)
include hB hg
theorem Bf{S:List (List Str)}{k:Nat}{rest:List (List Str)}{t:Str}:∀(r:List (List Str)) (acc:List V),(∀x∈r,x.length<=10)->acc.length+r.length<=1000000 ->
  RFor c b (sg1 aW [("sets",sv S),("rows",.own 1),("k",.int k),("rest",sv rest),("text",.str t)] acc) (tgOf qP) (bdOf qP) (r.map tv) .next (sg1 aW [("sets",sv S),("rows",.own 1),("k",.int k),("rest",sv rest),("text",.str t)] (acc++(r.map (t :: ·)).map tv)):=by
 intro l_
 induction l_ with
 | nil =>
  intro acc _ _;simp only[Oc,Lg];exact R.fNil
 | cons x r ih =>
  intro acc h hl;rw[KJ] at hl;have ih:=ih (acc++[tv (t::x)]) (λy hy=>h y (.tail _ hy)) (by rw[KR,Ln];omega)
  rw[Lj] at ih;have hx:=h x (.head _);have l1:([V.str t]++x.map V.str).length<=16777216:=by simp;omega
  have l2:acc.length<16777216:=by omega
  refine' R.fN hB (.name ?a) (R.less ?x ?w) ih
  case a=>wtm_at "m.set"
  case x=>wtm_at "m.xs"
  case w=>wtm_at "m.csle"
theorem Bd{S:List (List Str)}{k:Nat}{rest:List (List Str)}(hr:∀x∈rest,x.length<=10)(hr2:rest.length<=100):∀(l:List Str) (acc:List V),acc.length+l.length*100<=100000 ->
  RFor c b (sg1 aW [("sets",sv S),("rows",.own 1),("k",.int k),("rest",sv rest)] acc) (tgOf lX) (bdOf lX) (l.map .str) .next (sg1 aW [("sets",sv S),("rows",.own 1),("k",.int k),("rest",sv rest)] (acc++(l.flatMap λt=>rest.map (t :: ·)).map tv)):=by
 intro l_
 induction l_ with
 | nil =>
  intro acc _;simp only[QS,Oc,Lg];exact R.fNil
 | cons t l ih =>
  intro acc hl;rw[KJ] at hl;have hm:(rest.map (t :: ·)).length<=100:=by rw[KN];exact hr2
  have ih:=ih (acc++(rest.map (t :: ·)).map tv) (by rw[KR,KN];omega)
  rw[Lj,<-NB] at ih;have inner:=Bf (b:=b) hB hg (S:=S) (k:=k) (rest:=rest) (t:=t) rest acc hr (by omega)
  refine' R.fN hB (.name ?a) (R.less ?x ?w) ih
  case a=>wtm_at "m.set"
  case x=>wtm_at "m.xs"
  case w=>wtm_at "m.csle"
theorem Bb{S:List (List Str)}{Z:Nat->List (List Str)}(hS:∀l∈S,l.length<=100)(h3:S.length<=3)(hR:∀k,k<S.length->FnOk c b "_law_rows" [sv (S.take k++S.drop (k+1))] (sv (Z k))/\(∀x∈Z k,x.length<=10)/\(Z k).length<=100):∀(r:List (List Str)) (k:Nat) (acc:List V),S.drop k=r->k+r.length=S.length->acc.length+r.length*10000<=90000 ->
  RFor c b (sg1 aW [("sets",sv S),("rows",.own 1)] acc) (tgOf (nthS aW.body 2)) qR (inds k r.length) .next (sg1 aW [("sets",sv S),("rows",.own 1)] (acc++(((r.zipIdx k).flatMap λx=>x.1.flatMap λt=>(Z x.2).map (t :: ·)).map tv))):=by
 intro l_
 induction l_ with
 | nil =>
  intro k acc _ _ _;simp only[List.zipIdx_nil,QS,Oc,Lg];exact R.fNil
 | cons l r ih =>
  intro k acc hd hk hl;rw[KJ] at hk hl;have hmem:l∈S:=Nz (i:=k) (by rw[hd];exact .head _)
  have hl1:=hS l hmem;obtain⟨f1,f2,f3⟩:=hR k (by omega)
  have hm:(l.flatMap λt=>(Z k).map (t :: ·)).length<=10000:=by
   have:∀m:List Str,(m.flatMap λt=>(Z k).map (t :: ·)).length=m.length*(Z k).length:=λm=>by
    induction m with
    | nil=>simp
    | cons a m ih=>rw[Ml,KR,ih,KN,KJ,Nat.succ_mul,Mf]
   rw[this];exact Ot hl1 f3
  have ih:=ih (k+1) (acc++(l.flatMap λt=>(Z k).map (t :: ·)).map tv) (by rw[<-Nv,hd];rfl) (by omega) (by rw[KR,KN];omega)
  rw[Lj,<-NB] at ih;have mid:=Bd (b:=b) hB hg (S:=S) (k:=k) f2 f3 l acc (by omega)
  have gk:(S.map tv)[k]?=some (tv l):=by
   have:S[k]?=some l:=by
    have:=congrArg (λx=>x[0]?) hd;simpa [Nj] using this
   rw[Lf,this];rfl
  have l1:(S.map tv).length<=16777216:=by rw[KN];omega
  have l3:=lU (k:=k) l1;have e2:(sv (S.take k++S.drop (k+1)):V)=.lst (seg (S.map tv) none (some k)++seg (S.map tv) (some (k+1)) none):=congrArg V.lst lR;rw[e2] at f1;show RFor c b _ _ _ (.int k::inds (k+1) r.length) _ _;refine' R.fN hB (.name ?a) (R.less ?x ?w) ih
  case a=>wtm_at "m.set"
  case x=>wtm_at "m.xs"
  case w=>wtm_at "m.csle"
noncomputable def rowsOf(S:List (List Str))(Z:Nat->List (List Str)):List (List Str):=(S.zipIdx 0).flatMap λx=>x.1.flatMap λt=>(Z x.2).map (t :: ·)
theorem Bc:∃τ,RXs c b (sg0 aW [("sets",sv [])]) aW.body (.ret (sv [[]])) τ:=by
 have q2:Eqd c b (sg0 aW [("sets",sv [])]) (sv []) (.lst []) true:=Eqd.nilR .nil;refine' Lh _ ?h
 case h=>wtm_at "m.xs"
theorem Az{S:List (List Str)}{Z:Nat->List (List Str)}(h0:S≠[])(hok:∀l∈S,∀s∈l,SOk s)(hS:∀l∈S,l.length<=100)(h3:S.length<=3)(hR:∀k,k<S.length->FnOk c b "_law_rows" [sv (S.take k++S.drop (k+1))] (sv (Z k))/\(∀x∈Z k,x.length<=10)/\(Z k).length<=100) :
  ∃τ,RXs c b (sg0 aW [("sets",sv S)]) aW.body (.ret (sv (rowsOf S Z))) τ:=by
 have q2:Eqd c b (sg0 aW [("sets",sv S)]) (sv S) (.lst []) false:=by
  have:=Eqd.nilR (c:=c) (b:=b) (σ:=sg0 aW [("sets",sv S)]) (vs:=S.map tv) (.of λv hv=>by
   obtain⟨l,hl,rfl⟩:=K9.mp hv;exact .lst (d:=58) (eZ (hok l hl)))
  rwa [show(S.map tv).isEmpty=false by cases S with | nil=>exact absurd rfl h0 | cons=>rfl] at this
 have lp:=Bb hB hg hS h3 hR S 0 [] rfl (Lr _) (by rw[LC];omega)
 rw[Mj] at lp;have l1:(S.map tv).length<=16777216:=by rw[KN];omega
 have e1:inds 0 (S.map tv).length=inds 0 S.length:=by rw[KN]
 rw[<-e1] at lp;refine' Lh _ ?h
 case h=>wtm_at "m.xs"
end
end
section
set_option genInjectivity true
inductive T where
 | node (c:Str) (l:List T)
mutual
noncomputable def au:T->V
 | .node c l=>.lst (.str c::aJ l)
noncomputable def aJ:List T->List V
 | []=>[]
 | t::r=>au t::aJ r
end
theorem lD:∀l:List T,(aJ l).length=l.length:=by
 intro l_
 induction l_ with
 | nil=>exact rfl
 | cons _ r ih=>exact congrArg (· + 1) (ih)
noncomputable def cO(F:Nat->Bool)(Z:Nat->Bool):Nat->List Nat->Bool
 | _,[]=>false
 | k,p::r=>(F p&&Z k)||cO F Z (k+1) r
noncomputable def bK(F:T->Nat->Bool):List T->List Nat->Bool
 | [],_=>true
 | t::ts,ps=>cO (F t) (λk=>bK F ts (ps.take k++ps.drop (k+1))) 0 ps
section
variable{c:Cx}{b:Nat}(hB:Wd c c.hb)(hg:aj c G)
include hB hg
noncomputable abbrev sgS(ts:List T)(ps:List Nat)(K N:V):Sg:=sg0 bh [("trees",.lst (aJ ts)),("places",kv ps),("kids",K),("names",N)]
theorem zj{K N:V}{t:T}{ts:List T}{ps:List Nat}{F Z:Nat->Bool}(h4:ts.length<=10)(h3:ps.length<=3):∀(r:List Nat) (k:Nat),(∀o∈ps,FnOk c b "_law_fits" [au t,.int o,K,N] (.bool (F o))) ->
  (∀j,j<ps.length->FnOk c b "_law_some" [.lst (aJ ts),kv (ps.take j++ps.drop (j+1)),K,N] (.bool (Z j)))->k+r.length=ps.length->ps.drop k=r ->
  (cO F Z k r=true->∃τ,RFor c b (sgS (t::ts) ps K N) (tgOf (nthS bh.body 1)) (bdOf (nthS bh.body 1)) (bZ k (r.map λ(i:Nat)=>.int i)) (.ret (.bool true)) τ) /\
  (cO F Z k r=false->RFor c b (sgS (t::ts) ps K N) (tgOf (nthS bh.body 1)) (bdOf (nthS bh.body 1)) (bZ k (r.map λ(i:Nat)=>.int i)) .next (sgS (t::ts) ps K N)):=by
 intro l_
 induction l_ with
 | nil=>exact λk _ _ _ _=>⟨λh=>(by cases h),λ_=>R.fNil⟩
 | cons o r ih =>
  intro k hW hZ hk hd;rw[KJ] at hk;have hmem:o∈ps:=Nz (i:=k) (by rw[hd];exact .head _)
  have w1:=hW o hmem;have z1:=hZ k (by omega)
  have ih:=ih (k+1) hW hZ (by omega) (by rw[<-Nv,hd];rfl)
  have e1:(.lst (aJ ts):V)=.lst (seg (aJ (t::ts)) (some 1) none):=rfl;have e2:(kv (ps.take k++ps.drop (k+1)):V)=.lst (seg (ps.map λ(i:Nat)=>V.int i) none (some k)++seg (ps.map λ(i:Nat)=>V.int i) (some (k+1)) none):=congrArg V.lst lR;rw[e1,e2] at z1;have l1:(ps.map λ(i:Nat)=>V.int i).length<=16777216:=by rw[KN];omega
  have l2:(aJ (t::ts)).length<=16777216:=by rw[lD,KJ];omega
  have l3:=lU (k:=k) l1;have g1:(aJ (t::ts))[0]?=some (au t):=rfl;have key:cO F Z k (o::r)=((F o&&Z k)||cO F Z (k+1) r):=rfl
  rw[key];show(_->∃τ,RFor c b _ _ _ (.tup [.int k,.int o]::bZ (k+1) (r.map λ(i:Nat)=>.int i)) _ τ)/\(_->RFor c b _ _ _ (.tup [.int k,.int o]::bZ (k+1) (r.map λ(i:Nat)=>.int i)) _ _);cases hf:F o with
  | false =>
   rw[hf] at w1;rw[Bool.false_and,Qi];have turn:∃ρ,Tg (.tup [.int k,.int o]) (tgOf (nthS bh.body 1)) (sgS (t::ts) ps K N) ρ/\RXs c b ρ (bdOf (nthS bh.body 1)) .next (sgS (t::ts) ps K N):=by
    refine'⟨_,.pair ?a ?b,R.less ?x ?w⟩
    case a=>wtm_at "m.set"
    case b=>wtm_at "m.set"
    case x=>wtm_at "m.xs"
    case w=>wtm_at "m.csle"
   obtain⟨ρ,t1,t2⟩:=turn;exact⟨λh=>let ⟨τ,q⟩:=ih.1 h;⟨τ,R.fN hB t1 t2 q⟩,λh=>R.fN hB t1 t2 (ih.2 h)⟩
  | true =>
   rw[hf] at w1;cases hz:Z k with
   | false =>
    rw[hz] at z1;rw[Pq,Qi];have turn:∃ρ,Tg (.tup [.int k,.int o]) (tgOf (nthS bh.body 1)) (sgS (t::ts) ps K N) ρ/\RXs c b ρ (bdOf (nthS bh.body 1)) .next (sgS (t::ts) ps K N):=by
     refine'⟨_,.pair ?a ?b,R.less ?x ?w⟩
     case a=>wtm_at "m.set"
     case b=>wtm_at "m.set"
     case x=>wtm_at "m.xs"
     case w=>wtm_at "m.csle"
    obtain⟨ρ,t1,t2⟩:=turn;exact⟨λh=>let ⟨τ,q⟩:=ih.1 h;⟨τ,R.fN hB t1 t2 q⟩,λh=>R.fN hB t1 t2 (ih.2 h)⟩
   | true =>
    rw[hz] at z1;rw[Pq,Bool.true_or];have turn:∃ρ τ,Tg (.tup [.int k,.int o]) (tgOf (nthS bh.body 1)) (sgS (t::ts) ps K N) ρ/\RXs c b ρ (bdOf (nthS bh.body 1)) (.ret (.bool true)) τ:=by
     refine'⟨_,_,.pair ?a ?b,?x⟩
     case a=>wtm_at "m.set"
     case b=>wtm_at "m.set"
     case x=>wtm_at "m.xs"
    obtain⟨ρ,τ,t1,t2⟩:=turn;exact⟨λh=>⟨τ,R.fR hB t1 t2⟩,λh=>by cases h⟩
theorem zf{K N:V}{F:T->Nat->Bool}{ts:List T}{ps:List Nat}(hok:LayL 59 (aJ ts))(h4:ts.length<=10)(h3:ps.length<=3)(hW:∀t∈ts,∀o∈ps,FnOk c b "_law_fits" [au t,.int o,K,N] (.bool (F t o)))
  (hZ:∀t r,ts=t::r->∀j,j<ps.length->FnOk c b "_law_some" [.lst (aJ r),kv (ps.take j++ps.drop (j+1)),K,N] (.bool (bK F r (ps.take j++ps.drop (j+1))))) :
  ∃τ,RXs c b (sgS ts ps K N) bh.body (.ret (.bool (bK F ts ps))) τ:=by
 cases ts with
 | nil =>
  have q2:Eqd c b (sg0 bh [("trees",.lst (aJ [])),("places",kv ps),("kids",K),("names",N)]) (.lst (aJ [])) (.lst []) true:=Eqd.nilR .nil;show ∃τ,RXs c b _ _ (.ret (.bool true)) τ;refine' Lh _ ?h
  case h=>wtm_at "m.xs"
 | cons t ts =>
  have q2:Eqd c b (sg0 bh [("trees",.lst (aJ (t::ts))),("places",kv ps),("kids",K),("names",N)]) (.lst (aJ (t::ts))) (.lst []) false:=Eqd.nilR hok;have lp:=zj hB hg (K:=K) (N:=N) (t:=t) (ts:=ts) (F:=F t) (Z:=λk=>bK F ts (ps.take k++ps.drop (k+1))) (by rw[KJ] at h4;omega) h3 ps 0 (hW t (.head _)) (hZ t ts rfl) (Lr _) rfl
  have e0:bK F (t::ts) ps=cO (F t) (λk=>bK F ts (ps.take k++ps.drop (k+1))) 0 ps:=rfl;rw[e0];cases hv:cO (F t) (λk=>bK F ts (ps.take k++ps.drop (k+1))) 0 ps with
  | true =>
   obtain⟨τ,lp⟩:=lp.1 hv;refine' Lh _ ?h
   case h=>wtm_at "m.xs"
  | false =>
   have lp:=lp.2 hv;refine' Lh _ ?h
   case h=>wtm_at "m.xs"
theorem Hh{L:List V}{ns:List Str}{x y:Str}{l:List T}{i:Nat}{κ:List Nat}{r:Bool}(hi:ns[i]?=some y)(hn:ns.length<=6)(k1:L[i]?=some (kv κ))(hl:L.length<=6)(hll:l.length<=10)(hκ:κ.length<=3)
  (h:x=y->l.length=κ.length->FnOk c b "_law_some" [.lst (aJ l),kv κ,.lst L,.lst (ns.map .str)] (.bool r)) (hr:(x=y/\l.length=κ.length)∨r=false) :
  ∃τ,RXs c b (sg0 jd [("tree",au (.node x l)),("place",.int i),("kids",.lst L),("names",.lst (ns.map .str))]) jd.body (.ret (.bool r)) τ:=by
 have g1:(ns.map V.str)[i]?=some (.str y):=by rw[Lf,hi];rfl
 have g2:(V.str x::aJ l)[0]?=some (V.str x):=rfl;have l1:(ns.map V.str).length<=16777216:=by rw[KN];omega
 have l2:L.length<=16777216:=by omega
 have l3:(V.str x::aJ l).length<=16777216:=by rw[KJ,lD];omega
 have l4:(κ.map λ(i:Nat)=>V.int i).length<=16777216:=by rw[KN];omega
 have e1:(.lst (aJ l):V)=.lst (seg (V.str x::aJ l) (some 1) none):=rfl;have e0:au (.node x l)=.lst (V.str x::aJ l):=rfl;rw[e0];rw[e1] at h;have q:decide ((((V.str x::aJ l).length:Nat):Int)=(((κ.map λ(i:Nat)=>V.int i).length:Nat):Int)+1)=decide (l.length=κ.length):=by
  rw[KJ,lD,KN,Np,decide_eq_true_iff,decide_eq_true_iff];omega
 by_cases hx:x=y
 ·have c1:(!decide (x=y))=false:=by rw[decide_eq_true hx];rfl
  by_cases hk:l.length=κ.length
  ·have c2:(!_)=false:=congrArg (!·) (q.trans (decide_eq_true hk))
   have h:=h hx hk;refine' Lh _ ?h
   case h=>wtm_at "m.xs"
  ·have c2:(!_)=true:=congrArg (!·) (q.trans (decide_eq_false hk))
   obtain rfl:r=false:=hr.resolve_left λz=>hk z.2;refine' Lh _ ?h
   case h=>wtm_at "m.xs"
 ·have c1:(!decide (x=y))=true:=by rw[decide_eq_false hx];rfl
  obtain rfl:r=false:=hr.resolve_left λz=>hx z.1;refine' Lh _ ?h
  case h=>wtm_at "m.xs"
end
end
section
noncomputable def cSc:Expr->List (Str × NameKind)
 | .ListComp _ _ s _=>s.names
 | _=>[]
noncomputable def dW(z:Int):List Int :=
 [-1,0,1-K6 z 2,3-1-K6 (K8 z 2) 3,4-1-K6 (K8 (K8 z 2) 3) 3,5-1-K6 (K8 (K8 (K8 z 2) 3) 3) 3]
noncomputable def kidsOf(ps:List Int):List (List Nat):=(K7 6).map λ(p:Nat)=>(K7 6).filter λk=>decide (ps[k]?=some (p:Int))
noncomputable abbrev kOut:Expr:=retE (nthS b8.body 3)
noncomputable abbrev kIn:Expr:=cElt kOut
noncomputable def toI:V->Int
 | .int i=>i
 | _=>0
noncomputable abbrev csK(vs:List (Str × V))(P:List V):List Cell:=[.vars vs,.cell (some (.own 2)),.list P]
noncomputable abbrev sgK(vs:List (Str × V))(P:List V):Sg:=⟨[⟨b8.names,0,[("parents",1)]⟩],[.vars vs,.cell (some (.own 2)),.list P]⟩
noncomputable abbrev sgO(vs:List (Str × V))(P:List V)(w:Option V):Sg:=⟨[⟨cSc kOut,3,[("place",4),("parents",1)]⟩,⟨b8.names,0,[("parents",1)]⟩],[.vars vs,.cell (some (.own 2)),.list P,.vars [],.cell w]⟩
noncomputable abbrev sgI(vs:List (Str × V))(P:List V)(w:Option V)(us:List (Str × V)):Sg:=⟨[⟨cSc kIn,5,[("place",4),("parents",1)]⟩,⟨cSc kOut,3,[("place",4),("parents",1)]⟩,⟨b8.names,0,[("parents",1)]⟩],[.vars vs,.cell (some (.own 2)),.list P,.vars [],.cell w,.vars us]⟩
section
variable{c:Cx}{b:Nat}(hB:Wd c c.hb)(hg:aj c G)
include hB hg
theorem Fw{vs:List (Str × V)}{ps:List Int}{p:Nat}(h6:ps.length=6):RFr c b (sgO vs (ps.map .int) (some (.int p))) kIn (((K7 6).filter λk=>decide (ps[k]?=some (p:Int))).map λ(i:Nat)=>.int i):=by
 have e:(((K7 6).filter λk=>decide (ps[k]?=some (p:Int))).map λ(i:Nat)=>V.int i)=((inds 0 6).filter λu=>decide (ps[(toI u).toNat]?=some (p:Int))).map id:=by
  rw[show inds 0 6=(K7 6).map λ(i:Nat)=>V.int i from rfl,List.filter_map,O8];rfl
 rw[e];refine' R.frG (σ0:=sgI vs (ps.map .int) (some (.int p)) []) hB [("place",4),("parents",1)] (λu=>sgI vs (ps.map .int) (some (.int p)) [("kid",u)]) id _ ?i ?ok rfl rfl ?cl rfl (λv=>?h0) (λu v=>?hs) (λu hu=>⟨R.ts1 ?t,λ_=>⟨?e,?f⟩⟩) (by decide)
 case i=>wtm_at "m.it"
 case ok=>rfl'
 case cl=>rfl'
 case h0=>wtm_at "m.set"
 case hs=>wtm_at "m.set"
 case t =>
  rw[show inds 0 6=(K7 6).map λ(i:Nat)=>V.int i from rfl] at hu;obtain⟨i,hi,rfl⟩:=K9.mp hu;rw[MK] at hi;have g1:(ps.map V.int)[i]?=some (.int ps[i]):=by rw[Lf,Lb (h6▸hi)];rfl
  have l1:(ps.map V.int).length<=16777216:=by rw[KN];omega
  have q:decide (ps[i]=(p:Int))=decide (ps[i]?=some (p:Int)):=by rw[Lb (h6▸hi)];simp
  show RTr c b (sgI vs (ps.map .int) (some (.int p)) [("kid",.int i)]) _ (decide (ps[i]?=some (p:Int)));rw[<-q];wtm_at "m.tr"
 case e =>
  show REv c b (sgI vs (ps.map .int) (some (.int p)) [("kid",u)]) _ u;wtm_at "m.ev"
 case f =>
  rw[show inds 0 6=(K7 6).map λ(i:Nat)=>V.int i from rfl] at hu;obtain⟨i,hi,rfl⟩:=K9.mp hu;rfl
theorem Fv{vs:List (Str × V)}{ps:List Int}(h6:ps.length=6):RFr c b (sgK vs (ps.map .int)) kOut ((kidsOf ps).map kv):=by
 have e:(kidsOf ps).map kv=(inds 0 6).map λu=>kv ((K7 6).filter λk=>decide (ps[k]?=some (toI u))):=by
  rw[show inds 0 6=(K7 6).map λ(i:Nat)=>V.int i from rfl,Lq,kidsOf,Lq];rfl
 rw[e];refine' R.frM (σ0:=sgO vs (ps.map .int) none) hB [("parents",1)] (λu=>sgO vs (ps.map .int) (some u)) _ ?i ?ok rfl rfl ?cl rfl (λv=>?h0) (λu v=>?hs) (λu hu=>?f) (by decide)
 case i=>wtm_at "m.it"
 case ok=>rfl'
 case cl=>rfl'
 case h0=>wtm_at "m.set"
 case hs=>wtm_at "m.set"
 case f =>
  rw[show inds 0 6=(K7 6).map λ(i:Nat)=>V.int i from rfl] at hu;obtain⟨i,hi,rfl⟩:=K9.mp hu;exact⟨R.evE (RFr.ev (Fw hB hg (vs:=vs) (p:=i) h6)) rfl,rfl⟩
theorem Ft{z:Int}:∃τ,RXs c b (aL b8 [] |> λs=>⟨s.lv,[.vars [("code",.int z)],.cell none]⟩) b8.body (.ret (.lst ((kidsOf (dW z)).map kv))) τ:=by
 have hr:=λvs=>Fv (b:=b) hB hg (vs:=vs) (ps:=dW z) rfl;have lp:RFor c b (sgK [("code",.int (K8 z 2))] [.int (-1),.int 0,.int (1-K6 z 2)]) (tgOf (nthS b8.body 2)) (bdOf (nthS b8.body 2)) [.int 3,.int 4,.int 5] .next (sgK [("code",.int (K8 (K8 (K8 (K8 z 2) 3) 3) 3)),("place",.int 5)] ((dW z).map .int)):=by
  refine' R.fN hB (.name ?a) (R.less (cs':=csK [("code",.int (K8 (K8 z 2) 3)),("place",.int 3)] [.int (-1),.int 0,.int (1-K6 z 2),.int (3-1-K6 (K8 z 2) 3)]) ?x ?w)
   (R.fN hB (.name ?a2) (R.less (cs':=csK [("code",.int (K8 (K8 (K8 z 2) 3) 3)),("place",.int 4)] [.int (-1),.int 0,.int (1-K6 z 2),.int (3-1-K6 (K8 z 2) 3),.int (4-1-K6 (K8 (K8 z 2) 3) 3)]) ?x2 ?w2)
   (R.fN hB (.name ?a3) (R.less (cs':=csK [("code",.int (K8 (K8 (K8 (K8 z 2) 3) 3) 3)),("place",.int 5)] ((dW z).map .int)) ?x3 ?w3) R.fNil))
  case a=>wtm_at "m.set"
  case x=>wtm_at "m.xs"
  case w=>wtm_at "m.csle"
  case a2=>wtm_at "m.set"
  case x2=>wtm_at "m.xs"
  case w2=>wtm_at "m.csle"
  case a3=>wtm_at "m.set"
  case x3=>wtm_at "m.xs"
  case w3=>wtm_at "m.csle"
 have h4:=hr [("code",.int (K8 (K8 (K8 (K8 z 2) 3) 3) 3)),("place",.int 5)];show ∃τ,RXs c b ⟨[⟨b8.names,0,[("parents",1)]⟩],[.vars [("code",.int z)],.cell none]⟩ _ _ _;refine' Lh _ ?h
 case h=>wtm_at "m.xs"
end
end
section
noncomputable def iJ(p:Nat):List Nat->List Nat->List Nat
 | [],d=>d
 | k::r,d=>iJ p r (d.set k (d[p]?.getD 0+1))
noncomputable def iI:Nat->List (List Nat)->List Nat->List Nat
 | _,[],d=>d
 | p,κ::r,d=>iI (p+1) r (iJ p κ d)
theorem vH(p:Nat):∀(r d:List Nat),(iJ p r d).length=d.length:=by
 intro l_
 induction l_ with
 | nil=>exact λd=>rfl
 | cons k r ih=>exact λd=>(ih _).trans OD
noncomputable abbrev nv(l:List Nat):List V:=l.map λ(i:Nat)=>.int i
noncomputable abbrev sgD(F:Fn)(vs:List (Str × V))(l:List V):Sg:=⟨[⟨F.names,0,[]⟩],[.vars vs,.list l]⟩
section
variable{c:Cx}{b:Nat}(hB:Wd c c.hb)(hg:aj c G)
include hB hg
theorem HX{K:V}{p:Nat}(hp:p<6):∀(r d:List Nat),d.length=6->(∀k∈r,k<6) ->
  RFor c b (sgD cg [("kids",K),("depths",.own 1),("place",.int p)] (nv d)) (tgOf (nthS (bdOf (nthS cg.body 1)) 0)) (bdOf (nthS (bdOf (nthS cg.body 1)) 0)) (nv r) .next (sgD cg [("kids",K),("depths",.own 1),("place",.int p)] (nv (iJ p r d))):=by
 intro l_
 induction l_ with
 | nil=>exact λd _ _=>R.fNil
 | cons k r ih =>
  intro d h6 hr;have ih:=ih (d.set k (d[p]?.getD 0+1)) (by rw[OD];exact h6) λx hx=>hr x (.tail _ hx)
  have hk:=hr k (.head _);have l0:(nv d).length=6:=by rw[KN];exact h6
  have l1:(nv d).length<=16777216:=by omega
  have l2:k<(nv d).length:=by omega
  have g1:(nv d)[p]?=some (.int (d[p]?.getD 0:Nat)):=by rw[Lf,Lb (h6▸hp)];rfl
  have e1:nv (d.set k (d[p]?.getD 0+1))=(nv d).set k (.int ((d[p]?.getD 0:Nat)+1)):=by show Od _ _=_;rw[List.map_set];rfl
  rw[e1] at ih;show RFor c b _ _ _ (.int k::nv r) _ _;refine' R.fN hB (.name ?a) (R.less ?x ?w) ih
  case a=>wtm_at "m.set"
  case x=>wtm_at "m.xs"
  case w=>wtm_at "m.csle"
theorem HW{L:List (List Nat)}(h6:L.length=6)(hL:∀κ∈L,∀k∈κ,k<6):∀(r:List (List Nat)) (p:Nat) (d:List Nat),d.length=6->L.drop p=r->p+r.length=6 ->
  RFor c b (sgD cg [("kids",.lst (L.map kv)),("depths",.own 1)] (nv d)) (tgOf (nthS cg.body 1)) (bdOf (nthS cg.body 1)) (inds p r.length) .next (sgD cg [("kids",.lst (L.map kv)),("depths",.own 1)] (nv (iI p r d))):=by
 intro l_
 induction l_ with
 | nil=>exact λp d _ _ _=>R.fNil
 | cons κ r ih =>
  intro p d hd hr hl;rw[KJ] at hl;have hmem:κ∈L:=Nz (i:=p) (by rw[hr];exact .head _)
  have ih:=ih (p+1) (iJ p κ d) ((vH p κ d).trans hd) (by rw[<-Nv,hr];rfl) (by omega)
  have gk:(L.map kv)[p]?=some (kv κ):=by
   have:L[p]?=some κ:=by
    have:=congrArg (λx=>x[0]?) hr;simpa [Nj] using this
   rw[Lf,this];rfl
  have l1:(L.map kv).length<=16777216:=by rw[KN];omega
  have inner:=HX (b:=b) hB hg (K:=.lst (L.map kv)) (p:=p) (by omega) κ d hd (hL κ hmem)
  show RFor c b _ _ _ (.int p::inds (p+1) r.length) _ _;refine' R.fN hB (.name ?a) (R.less ?x ?w) ih
  case a=>wtm_at "m.set"
  case x=>wtm_at "m.xs"
  case w=>wtm_at "m.csle"
theorem HR{L:List (List Nat)}(h6:L.length=6)(hL:∀κ∈L,∀k∈κ,k<6) :
  ∃τ,RXs c b (sg0 cg [("kids",.lst (L.map kv))]) cg.body (.ret (.lst (nv (iI 0 L [0,0,0,0,0,0])))) τ:=by
 have lp:=HW (b:=b) hB hg h6 hL L 0 [0,0,0,0,0,0] rfl rfl (by omega)
 rw[h6] at lp;have e:nv [0,0,0,0,0,0]=(Mg (6:Int).toNat [V.int 0]).flatten:=rfl;rw[e] at lp;refine' Lh _ ?h
 case h=>wtm_at "m.xs"
end
end
section
noncomputable abbrev argE:Expr->Expr:=cElt
noncomputable abbrev hdE:Expr->Expr:=cElt
noncomputable abbrev rhsE:Expr->Expr:=cElt
noncomputable abbrev jg:Expr:=rhsE (hdE (argE (retE (nthS cB.body 1))))
noncomputable abbrev kRow(name:Str)(row:List Str):List V:=[.tup [.str "n",.str name]]++row.map λt=>.tup [.str "k",.str t]
section
variable{c:Cx}{b:Nat}(hB:Wd c c.hb)(hg:aj c G)
include hB hg
theorem wQ{d:Nat}{name r:Str}{row:List Str}(hd:K6 d 2=0)(hr:row.length<=10)(h:FnOk c b "join_shlex" [.lst ((name::row).map .str)] (.str r)) :
  ∃τ,RXs c b (sg0 cB [("depth",.int d),("name",.str name),("row",.lst (row.map .str))]) cB.body (.ret (.str r)) τ:=by
 have t1:decide (K6 (d:Int) 2=0)=true:=decide_eq_true hd;have l1:([V.str name]++row.map V.str).length<=16777216:=by simp;omega
 have e:(.lst ((name::row).map .str):V)=.lst ([V.str name]++row.map V.str):=rfl;rw[e] at h;refine' Lh _ ?h
 case h=>wtm_at "m.xs"
theorem wN{d:Nat}{name r:Str}{row:List Str}(hd:K6 d 2≠0)(hr:row.length<=10)(h:FnOk c b "join_header_words" [.lst [.lst (kRow name row)]] (.str r)) :
  ∃τ,RXs c b (sg0 cB [("depth",.int d),("name",.str name),("row",.lst (row.map .str))]) cB.body (.ret (.str r)) τ:=by
 have t1:decide (K6 (d:Int) 2=0)=false:=decide_eq_false hd;have l1:(kRow name row).length<=16777216:=by simp;omega
 have q:RFr c b (sg0 cB [("depth",.int d),("name",.str name),("row",.lst (row.map .str))]) jg (row.map λt=>.tup [.str "k",.str t]):=by
  have e:(row.map λt=>V.tup [.str "k",.str t])=(row.map .str).map λv=>.tup [.str "k",v]:=by rw[Lq];rfl
  rw[e];refine' R.frM (σ0:=⟨[⟨cSc jg,1,[]⟩,⟨cB.names,0,[]⟩],[.vars [("depth",.int d),("name",.str name),("row",.lst (row.map .str))],.vars []]⟩) hB [] (λu=>⟨[⟨cSc jg,1,[]⟩,⟨cB.names,0,[]⟩],[.vars [("depth",.int d),("name",.str name),("row",.lst (row.map .str))],.vars [("text",u)]]⟩) _ ?i ?ok rfl rfl ?cl rfl (λv=>?h0) (λu v=>?hs) (λu hu=>?f) (by rw[KN];omega)
  case i=>wtm_at "m.it"
  case ok=>rfl'
  case cl=>rfl'
  case h0=>wtm_at "m.set"
  case hs=>wtm_at "m.set"
  case f =>
   obtain⟨t,_,rfl⟩:=K9.mp hu;refine'⟨?x,rfl⟩;show REv c b ⟨[⟨cSc jg,1,[]⟩,⟨cB.names,0,[]⟩],[.vars [("depth",.int d),("name",.str name),("row",.lst (row.map .str))],.vars [("text",.str t)]]⟩ _ (.tup [.str "k",.str t]);wtm_at "m.ev"
 refine' Lh _ ?h
 case h=>wtm_at "m.xs"
end
end
section
noncomputable def uldP:List Str->List Str->List Str->List Str × List Str
 | [],B,m=>(m,B)
 | x::r,B,m=>match decide (x∈B) with
  | true=>uldP r (aY x B) m
  | false=>uldP r B (m++[x])
theorem pB{x:Str}{r B m:List Str}(h:x∈B):uldP (x::r) B m=uldP r (aY x B) m:=congrArg (cond · (uldP r (aY x B) m) (uldP r B (m++[x]))) (decide_eq_true h)
theorem pF{x:Str}{r B m:List Str}(h:x∉B):uldP (x::r) B m=uldP r B (m++[x]):=congrArg (cond · (uldP r (aY x B) m) (uldP r B (m++[x]))) (decide_eq_false h)
noncomputable def jC(A B:List Str)(w:Nat):Bool:=match decide (0<(w:Int)) with
 | true=>decide ((uldP A.reverse B []).1=[])&&decide ((uldP A.reverse B []).2=[])
 | false=>decide ((uldP A.reverse B []).1=A.reverse)&&decide ((uldP A.reverse B []).2=B)
section
variable{c:Cx}{b:Nat}(hB:Wd c c.hb)(hg:aj c G)
include hB hg
theorem Dd{A B:List Str}{w:Nat}(hA:∀s∈A,SOk s)(hb:∀s∈B,SOk s)(h1:∀s∈(uldP A.reverse B []).1,SOk s)(h2:∀s∈(uldP A.reverse B []).2,SOk s)(lA:A.length<=100)(lB:B.length<=100)
  (hU:CmOk c b "unorderable_list_difference" [.vars [("one",tv A),("other",tv B),("ways",.int w),("first",.own 1)],.list (A.map .str),.list (B.map .str)] [.own 1,.own 2] [] (.tup [.lst ((uldP A.reverse B []).1.map .str),.lst ((uldP A.reverse B []).2.map .str)])
   [.vars [("one",tv A),("other",tv B),("ways",.int w),("first",.own 1)],.list [],.dead]) :
  ∃τ,RXs c b (sg0 eO [("one",tv A),("other",tv B),("ways",.int w)]) eO.body (.ret (.bool (jC A B w))) τ:=by
 have l1:(A.map V.str).length<=16777216:=by rw[KN];omega
 have l2:(B.map V.str).length<=16777216:=by rw[KN];omega
 have q0:Eqd c b ⟨[⟨eO.names,0,[]⟩],[.vars [("one",tv A),("other",tv B),("ways",.int w),("first",.own 1),("told",.tup [.lst ((uldP A.reverse B []).1.map .str),.lst ((uldP A.reverse B []).2.map .str)])],.list [],.dead]⟩ (.lst []) (.lst []) true:=Eqd.nilR .nil;have q1:Eqd c b ⟨[⟨eO.names,0,[]⟩],[.vars [("one",tv A),("other",tv B),("ways",.int w),("first",.own 1),("told",.tup [.lst ((uldP A.reverse B []).1.map .str),.lst ((uldP A.reverse B []).2.map .str)])],.list [],.dead]⟩
  (.tup [.lst ((uldP A.reverse B []).1.map .str),.lst ((uldP A.reverse B []).2.map .str)]) (.tup [.lst [],.lst []]) (decide ((uldP A.reverse B []).1=[])&&decide ((uldP A.reverse B []).2=[])):=Eqd.pair h1 h2 (c':=[]) (c'':=[]) (λ_ h=>nomatch h) (λ_ h=>nomatch h)
 have q2:Eqd c b ⟨[⟨eO.names,0,[]⟩],[.vars [("one",tv A),("other",tv B),("ways",.int w),("first",.own 1),("told",.tup [.lst ((uldP A.reverse B []).1.map .str),.lst ((uldP A.reverse B []).2.map .str)])],.list [],.dead]⟩
  (.tup [.lst ((uldP A.reverse B []).1.map .str),.lst ((uldP A.reverse B []).2.map .str)]) (.tup [.lst (A.map .str).reverse,tv B]) (decide ((uldP A.reverse B []).1=A.reverse)&&decide ((uldP A.reverse B []).2=B)):=by
  rw[<-List.map_reverse];exact Eqd.pair h1 h2 (c':=A.reverse) (c'':=B) (λs h=>hA s (Ox.mp h)) hb
 unfold jC;cases t1:decide (0<(w:Int)) with
 | true =>
  show ∃τ,RXs c b _ _ (.ret (.bool (decide ((uldP A.reverse B []).1=[])&&decide ((uldP A.reverse B []).2=[])))) τ;refine' Lh _ ?h
  case h=>wtm_at "m.xs"
 | false =>
  show ∃τ,RXs c b _ _ (.ret (.bool (decide ((uldP A.reverse B []).1=A.reverse)&&decide ((uldP A.reverse B []).2=B)))) τ;refine' Lh _ ?h
  case h=>wtm_at "m.xs"
end
end
section
noncomputable abbrev mj:List Stmt:=bdOf (nthS cM.body 0)
section
variable{c:Cx}{b:Nat}(hB:Wd c c.hb)(hg:aj c G)
include hB hg
theorem Bt{K N:V}{ds:List Nat}{S:List (List Str)}{W:Nat->Nat->Nat}{o:Nat}(ho:o<6)(hd:ds.length=6)(hs:S.length=6):∀(n:Nat) (k:Nat),k+n=o ->
  (∀k:Nat,k<o->FnOk c b "_law_ways" [.int o,.int k,K,N] (.int (W o k))/\(K6 ((ds[o]?.getD 0:Nat)-(ds[k]?.getD 0:Nat):Int) 2=0->FnOk c b "_law_pair" [tv (S[o]?.getD []),tv (S[k]?.getD []),.int (W o k)] (.bool true))) ->
  RFor c b (sg0 cM [("kids",K),("names",N),("depths",.lst (nv ds)),("sets",sv S),("one",.int o)]) (tgOf (nthS mj 1)) (bdOf (nthS mj 1)) (inds k n) .next (sg0 cM [("kids",K),("names",N),("depths",.lst (nv ds)),("sets",sv S),("one",.int o)]):=by
 intro l_
 induction l_ with
 | zero=>exact λk _ _=>R.fNil
 | succ n ih =>
  intro k hk h;have ih:=ih (k+1) (by omega) h
  obtain⟨w1,w2⟩:=h k (by omega)
  have d0:(nv ds).length<=16777216:=by rw[KN];omega
  have s0:(S.map tv).length<=16777216:=by rw[KN];omega
  have hk6:k<ds.length:=by omega
  have ho6:o<ds.length:=by omega
  have g1:(nv ds)[o]?=some (.int (ds[o]?.getD 0:Nat)):=by rw[Lf,Lb ho6];rfl
  have g2:(nv ds)[k]?=some (.int (ds[k]?.getD 0:Nat)):=by rw[Lf,Lb hk6];rfl
  have g3:(S.map tv)[o]?=some (tv (S[o]?.getD [])):=by rw[Lf,Lb (by omega)];rfl
  have g4:(S.map tv)[k]?=some (tv (S[k]?.getD [])):=by rw[Lf,Lb (by omega)];rfl
  show RFor c b _ _ _ (.int k::inds (k+1) n) _ _
  by_cases hp:K6 ((ds[o]?.getD 0:Nat)-(ds[k]?.getD 0:Nat):Int) 2=0
  ·have t1:=decide_eq_true hp
   have w2:=w2 hp;refine' R.fN hB (.name ?a) (R.less ?x ?w) ih
   case a=>wtm_at "m.set"
   case x=>wtm_at "m.xs"
   case w=>wtm_at "m.csle"
  ·have t1:=decide_eq_false hp
   refine' R.fN hB (.name ?a) (R.less ?x ?w) ih
   case a=>wtm_at "m.set"
   case x=>wtm_at "m.xs"
   case w=>wtm_at "m.csle"
theorem Bs{K N:V}{ds:List Nat}{S:List (List Str)}{W:Nat->Nat->Nat}{O:Nat->Nat}(hd:ds.length=6)(hs:S.length=6)
  (h:∀o:Nat,o<6->FnOk c b "_law_ways" [.int o,.int o,K,N] (.int (W o o))/\FnOk c b "_law_orders" [.int o,K] (.int (O o))/\(S[o]?.getD []).length*W o o=O o/\(S[o]?.getD []).length<=1000 /\
   ∀k:Nat,k<o->FnOk c b "_law_ways" [.int o,.int k,K,N] (.int (W o k))/\(K6 ((ds[o]?.getD 0:Nat)-(ds[k]?.getD 0:Nat):Int) 2=0->FnOk c b "_law_pair" [tv (S[o]?.getD []),tv (S[k]?.getD []),.int (W o k)] (.bool true))):∀(n:Nat) (o:Nat),o+n=6 ->
  RFor c b (sg0 cM [("kids",K),("names",N),("depths",.lst (nv ds)),("sets",sv S)]) (tgOf (nthS cM.body 0)) mj (inds o n) .next (sg0 cM [("kids",K),("names",N),("depths",.lst (nv ds)),("sets",sv S)]):=by
 intro l_
 induction l_ with
 | zero=>exact λo _=>R.fNil
 | succ n ih =>
  intro o ho;have ih:=ih (o+1) (by omega)
  obtain⟨w1,w2,w3,w4,w5⟩:=h o (by omega)
  have inner:=Bt (b:=b) hB hg (by omega) hd hs o 0 (Lr _) w5
  have s0:(S.map tv).length<=16777216:=by rw[KN];omega
  have g3:(S.map tv)[o]?=some (tv (S[o]?.getD [])):=by rw[Lf,Lb (by omega)];rfl
  have l1:((S[o]?.getD []).map V.str).length<=16777216:=by rw[KN];omega
  have l2:o<=16777216:=by omega
  have b1 : -(2 ^ 62)<((((S[o]?.getD []).map V.str).length:Nat):Int)/\((((S[o]?.getD []).map V.str).length:Nat):Int)<2 ^ 62:=by rw[KN];exact⟨by omega,by omega⟩
  have t1:(!decide (((((S[o]?.getD []).map V.str).length:Nat):Int)*(W o o:Int)=(O o:Int)))=false:=by
   rw[KN,decide_eq_true (by rw[<-w3];simp)];rfl
  show RFor c b _ _ _ (.int o::inds (o+1) n) _ _;refine' R.fN hB (.name ?a) (R.less ?x ?w) ih
  case a=>wtm_at "m.set"
  case x=>wtm_at "m.xs"
  case w=>wtm_at "m.csle"
theorem Bq{K N:V}{ds:List Nat}{S:List (List Str)}{W:Nat->Nat->Nat}{O:Nat->Nat}(hd:ds.length=6)(hs:S.length=6)
  (h:∀o:Nat,o<6->FnOk c b "_law_ways" [.int o,.int o,K,N] (.int (W o o))/\FnOk c b "_law_orders" [.int o,K] (.int (O o))/\(S[o]?.getD []).length*W o o=O o/\(S[o]?.getD []).length<=1000 /\
   ∀k:Nat,k<o->FnOk c b "_law_ways" [.int o,.int k,K,N] (.int (W o k))/\(K6 ((ds[o]?.getD 0:Nat)-(ds[k]?.getD 0:Nat):Int) 2=0->FnOk c b "_law_pair" [tv (S[o]?.getD []),tv (S[k]?.getD []),.int (W o k)] (.bool true))) :
  ∃τ,RXs c b (sg0 cM [("kids",K),("names",N),("depths",.lst (nv ds)),("sets",sv S)]) cM.body (.ret (.bool true)) τ:=by
 have lp:=Bs (K:=K) (N:=N) hB hg hd hs h 6 0 rfl;refine' Lh _ ?h
 case h=>wtm_at "m.xs"
end
end
section
noncomputable abbrev lO:List Stmt:=bdOf (nthS eN.body 1)
noncomputable abbrev sC0:Expr:=retE (nthS eN.body 0)
noncomputable abbrev sC1:Expr:=argE (retE (nthS lO 0))
noncomputable abbrev sC2:Expr:=argE (retE (nthS lO 1))
noncomputable abbrev Jm:List (Str × Nat):=[("place",4),("sets",3),("depths",2),("names",1)]
noncomputable abbrev lvS:Lv:=⟨eN.names,0,Jm⟩
noncomputable abbrev csS(vs:List (Str × V))(N D:V)(p:Option V)(L:List V):List Cell:=[.vars vs,.cell (some N),.cell (some D),.cell (some (.own 5)),.cell p,.list L]
noncomputable abbrev sgT(vs:List (Str × V))(N D:V)(p:Option V)(L:List V):Sg:=⟨[lvS],csS vs N D p L⟩
theorem jh:∀l:List Str,txts (l.map .str)=some l:=by
 intro l_
 induction l_ with
 | nil=>exact rfl
 | cons a r ih =>
  show Option.map _ (txts (r.map .str))=_;rw[ih];rfl
noncomputable def unT:V->List Str
 | .lst l=>(txts l).getD []
 | _=>[]
theorem pq(l:List Str):unT (tv l)=l:=by show(txts _).getD []=l;rw[jh];rfl
section
variable{c:Cx}{b:Nat}(hB:Wd c c.hb)(hg:aj c G)
include hB hg
theorem zW{K D:V}{ns:List Str}(hn:ns.length=6):RFr c b ⟨[lvS],[.vars [("kids",K)],.cell (some (.lst (ns.map .str))),.cell (some D),.cell none,.cell none]⟩ sC0 (([[],[],[],[],[],[]]:List (List Str)).map tv):=by
 have e:(([[],[],[],[],[],[]]:List (List Str)).map tv)=(ns.map V.str).map λ_=>tv []:=by
  rw[List.map_const',KN,hn];rfl
 rw[e];refine' R.frM (σ0:=⟨[⟨cSc sC0,5,[]⟩,lvS],[.vars [("kids",K)],.cell (some (.lst (ns.map .str))),.cell (some D),.cell none,.cell none,.vars []]⟩) hB [] (λu=>⟨[⟨cSc sC0,5,[]⟩,lvS],[.vars [("kids",K)],.cell (some (.lst (ns.map .str))),.cell (some D),.cell none,.cell none,.vars [("name",u)]]⟩) _ ?i ?ok rfl rfl ?cl rfl (λv=>?h0) (λu v=>?hs) (λu hu=>⟨?x,rfl⟩) (by rw[KN];omega)
 case i=>wtm_at "m.it"
 case ok=>rfl'
 case cl=>rfl'
 case h0=>wtm_at "m.set"
 case hs=>wtm_at "m.set"
 case x =>
  show REv c b _ _ (.lst []);wtm_at "m.ev"
theorem zV{vs:List (Str × V)}{N D:V}{L:List (List Str)}{Ks:List V}{p:Nat}{κ:List Nat}(hv:aget "kids" vs=some (.lst Ks))(hK:Ks[p]?=some (kv κ))(h6:Ks.length=6)(hL:L.length=6)(hκ:∀k∈κ,k<6)(h3:κ.length<=3) :
  RFr c b (sgT vs N D (some (.int p)) (L.map tv)) sC1 ((κ.map λk=>L[k]?.getD []).map tv):=by
 have e:((κ.map λk=>L[k]?.getD []).map tv)=(κ.map λ(i:Nat)=>V.int i).map λu=>tv (L[(toI u).toNat]?.getD []):=by rw[Lq,Lq];rfl
 rw[e];have l1:Ks.length<=16777216:=by omega
 have l2:(L.map tv).length<=16777216:=by rw[KN];omega
 refine' R.frM (σ0:=⟨[⟨cSc sC1,6,[("sets",3)]⟩,lvS],csS vs N D (some (.int p)) (L.map tv)++[.vars []]⟩) hB [("sets",3)] (λu=>⟨[⟨cSc sC1,6,[("sets",3)]⟩,lvS],[.vars vs,.cell (some N),.cell (some D),.cell (some (.own 5)),.cell (some (.int p)),.list (L.map tv),.vars [("kid",u)]]⟩) _ ?i ?ok rfl rfl ?cl rfl (λv=>?h0) (λu v=>?hs) (λu hu=>⟨?x,rfl⟩) (by rw[KN];omega)
 case i=>wtm_at "m.it"
 case ok=>rfl'
 case cl=>rfl'
 case h0=>wtm_at "m.set"
 case hs=>wtm_at "m.set"
 case x =>
  obtain⟨k,hk,rfl⟩:=K9.mp hu;have k6:=hκ k hk;have g1:(L.map tv)[k]?=some (tv (L[k]?.getD [])):=by rw[Lf,Lb (by omega)];rfl
  show REv c b ⟨[⟨cSc sC1,6,[("sets",3)]⟩,lvS],[.vars vs,.cell (some N),.cell (some D),.cell (some (.own 5)),.cell (some (.int p)),.list (L.map tv),.vars [("kid",.int k)]]⟩ _ (tv (L[k]?.getD []));wtm_at "m.ev"
noncomputable abbrev j0:List (Str × Nat):=[("place",4),("names",1),("depths",2)]
theorem zU{vs:List (Str × V)}{Ns Ds Ls:List V}{p:Nat}{Z:List (List Str)}{d:Nat}{nm:Str}{f:List Str->Str}(hv:aget "rows" vs=some (sv Z))(hN:Ns[p]?=some (.str nm))(hD:Ds[p]?=some (.int d))(h6:Ns.length=6)(h7:Ds.length=6)(h3:Z.length<=100000)
  (hw:∀row∈Z,FnOk c b "_law_written" [.int d,.str nm,tv row] (.str (f row))) :
  RFr c b (sgT vs (.lst Ns) (.lst Ds) (some (.int p)) Ls) sC2 ((Z.map f).map .str):=by
 have l1:Ns.length<=16777216:=by omega
 have l2:Ds.length<=16777216:=by omega
 have e:((Z.map f).map V.str)=(Z.map tv).map λv=>.str (f (unT v)):=by
  rw[Lq,Lq];exact MN λrow hr=>by show V.str _=V.str (f (unT (tv row)));rw[pq]
 rw[e];refine' R.frM (σ0:=⟨[⟨cSc sC2,6,j0⟩,lvS],csS vs (.lst Ns) (.lst Ds) (some (.int p)) Ls++[.vars []]⟩) hB j0 (λu=>⟨[⟨cSc sC2,6,j0⟩,lvS],[.vars vs,.cell (some (.lst Ns)),.cell (some (.lst Ds)),.cell (some (.own 5)),.cell (some (.int p)),.list Ls,.vars [("row",u)]]⟩) _ ?i ?ok rfl rfl ?cl rfl (λv=>?h0) (λu v=>?hs) (λu hu=>?x) (by rw[KN];omega)
 case i=>wtm_at "m.it"
 case ok=>rfl'
 case cl=>rfl'
 case h0=>wtm_at "m.set"
 case hs=>wtm_at "m.set"
 case x =>
  obtain⟨row,hr,rfl⟩:=K9.mp hu;rw[pq];have w:=hw row hr;refine'⟨?y,rfl⟩
  case y =>
   show REv c b ⟨[⟨cSc sC2,6,j0⟩,lvS],[.vars vs,.cell (some (.lst Ns)),.cell (some (.lst Ds)),.cell (some (.own 5)),.cell (some (.int p)),.list Ls,.vars [("row",tv row)]]⟩ _ _;wtm_at "m.ev"
end
end
section
def wL(c:Cx)(b:Nat)(Ks Ns Ds:List V)(L:List (List Str))(p:Nat)(m:List Str):Prop :=
 ∃(κ:List Nat) (Z:List (List Str)) (f:List Str->Str) (d:Nat) (nm:Str),p<6/\Ks[p]?=some (kv κ)/\(∀k∈κ,k<6)/\κ.length<=3/\Ns[p]?=some (.str nm)/\Ds[p]?=some (.int d)/\Z.length<64 /\
  FnOk c b "_law_rows" [sv (κ.map λk=>L[k]?.getD [])] (sv Z)/\(∀row∈Z,FnOk c b "_law_written" [.int d,.str nm,tv row] (.str (f row)))/\FnOk c b "sorted_list_difference" [tv (bJ (Z.map f)),.lst [.str "~"]] (.tup [tv m,.lst [.str "~"]])
noncomputable def kI(c:Cx)(b:Nat)(Ks Ns Ds:List V):List Nat->List (List Str)->List (List Str)->Prop
 | [],L,L'=>L'=L
 | p::r,L,L'=>∃m,wL c b Ks Ns Ds L p m/\kI c b Ks Ns Ds r (L.set p m) L'
section
variable{c:Cx}{b:Nat}(hB:Wd c c.hb)(hg:aj c G)
include hB hg
theorem zR{Ks Ns Ds:List V}(h6:Ks.length=6)(h7:Ns.length=6)(h8:Ds.length=6):∀(r:List Nat) (L L':List (List Str)),L.length=6->kI c b Ks Ns Ds r L L' ->
  RFor c b (sgT [("kids",.lst Ks)] (.lst Ns) (.lst Ds) none (L.map tv)) (tgOf (nthS eN.body 1)) lO (r.map λ(i:Nat)=>.int i) .next (sgT [("kids",.lst Ks)] (.lst Ns) (.lst Ds) none (L'.map tv)):=by
 intro r
 induction r with
 | nil=>intro L _ _ h;cases h;exact R.fNil
 | cons p r ih =>
  intro L L' hL k;obtain⟨m,t,h⟩:=k;have ih:=ih (L.set p m) L' (by rw[OD];exact hL) h
  obtain⟨κ,Z,f,d,nm,hp,hK,hκ,h3,hN,hD,hZ,hr,hw,hd⟩:=t;have c1:=zV (b:=b) hB hg (vs:=[("kids",.lst Ks)]) (N:=.lst Ns) (D:=.lst Ds) (L:=L) (p:=p) iT hK h6 hL hκ h3;have c2:=zU (b:=b) hB hg (vs:=[("kids",.lst Ks),("rows",sv Z)]) (Ns:=Ns) (Ds:=Ds) (Ls:=L.map tv) (p:=p) (Z:=Z) (Kh (by decide +kernel) iT) hN hD h7 h8 (by omega) hw
  have k1:=jh (Z.map f);have l0:(Z.map f).length<64:=by rw[KN];exact hZ
  have l1:((Z.map f).map V.str).length<=16777216:=by rw[KN,KN];omega
  have l2:(L.map tv).length<=16777216:=by rw[KN];omega
  have l3:p<(L.map tv).length:=by rw[KN];omega
  have e1:(L.set p m).map tv=(L.map tv).set p (tv m):=by rw[List.map_set]
  have q1:Eqd c b (sgT [("kids",.lst Ks),("rows",sv Z),("texts",tv (bJ (Z.map f))),("told",.tup [tv m,.lst [.str "~"]])] (.lst Ns) (.lst Ds) (some (.int p)) (L.map tv)) (.lst [.str "~"]) (.lst [.str "~"]) true :=
   Eqd.strs (a:=["~"]) (c':=["~"]) (λs hs=>by cases hs with | head=>exact(by rfl':SOk "~") | tail _ h=>cases h) (λs hs=>by cases hs with | head=>exact(by rfl':SOk "~") | tail _ h=>cases h)
  rw[e1] at ih;show RFor c b _ _ _ (.int p::r.map λ(i:Nat)=>.int i) _ _;refine' R.fN hB (.name ?a) (R.less ?x ?w) ih
  case a=>wtm_at "m.set"
  case x=>wtm_at "m.xs"
  case w=>wtm_at "m.csle"
end
end
section
theorem R.asgBE{c:Cx}{b:Nat}{σ τ:Sg}{elt:Expr}{gens:List Comprehension}{sc:Scope}{vs:List V}{nm:Str}{p py pos:Pos}{lv:Lv}{lr:List Lv}(hB:Wd c c.hb)(hl:σ.lv=lv::lr)(hk:aget nm lv.names=some .cell)(h:RFr c b σ (.ListComp elt gens sc p) vs)(hs:So nm vs σ τ) :
  RX c b σ (.Assign [.Name nm py] (.ListComp elt gens sc p) pos) .next τ:=R.asgB hB hl hk h hs
local macro_rules (kind:=PySem.W.tacticWtm_at_) | x=>bj x "m.x" "R.asgBE a r k fr store;bacde"
section
variable{c:Cx}{b:Nat}(hB:Wd c c.hb)(hg:aj c G)
include hB hg
theorem zP{Ks Ds:List V}{ns:List Str}{L:List (List Str)}(h6:Ks.length=6)(h7:ns.length=6)(h8:Ds.length=6)(h:kI c b Ks (ns.map .str) Ds [5,4,3,2,1,0] [[],[],[],[],[],[]] L) :
  ∃τ,RXs c b ⟨[lvS],[.vars [("kids",.lst Ks)],.cell (some (.lst (ns.map .str))),.cell (some (.lst Ds)),.cell none,.cell none]⟩ eN.body (.ret (sv L)) τ:=by
 have c0:=zW (b:=b) hB hg (K:=.lst Ks) (D:=.lst Ds) h7;have lp:=zR hB hg (Ns:=ns.map .str) h6 (by rw[KN];exact h7) h8 _ _ _ rfl h
 have e:([5,4,3,2,1,0].map λ(i:Nat)=>V.int i)=[.int 5,.int 4,.int 3,.int 2,.int 1,.int 0]:=rfl;rw[e] at lp;refine' Lh _ ?h
 case h=>wtm_at "m.xs"
end
end
section
noncomputable abbrev rC0:Expr:=rhsE (retE (nthS (bdOf (nthS dI.body 0)) 1))
noncomputable abbrev tstE:Stmt->Expr:=tgOf
noncomputable abbrev orE:Expr->Expr:=cElt
noncomputable abbrev cmpE:Expr->Expr:=cElt
noncomputable abbrev rC1:Expr:=cmpE (orE (tstE (nthS dI.body 2)))
noncomputable abbrev rC2:Expr:=rhsE (retE (nthS dI.body 3))
noncomputable abbrev lvR:Lv:=⟨dI.names,0,[("depth",1)]⟩
noncomputable def unS:V->Str
 | .str s=>s
 | _=>default
noncomputable def snd:V->V
 | .tup (_::v::_)=>v
 | _=>.none
noncomputable def fst:V->V
 | .tup (v::_)=>v
 | _=>.none
theorem lw{α:Type}(g:α->T):∀l:List α,aJ (l.map g)=l.map λw=>au (g w):=by
 intro l_
 induction l_ with
 | nil=>exact rfl
 | cons a r ih =>
  show au _::aJ (r.map g)=_;rw[ih];rfl
section
variable{c:Cx}{b:Nat}(hB:Wd c c.hb)(hg:aj c G)
include hB hg
theorem BJ{t name:Str}{ws:List Str}{d:Nat}{g:Str->T}(hd:K6 (d:Int) 2=0)(h1:FnOk c b "split" [.str t] (.lst ((name::ws).map .str)))(hl:ws.length<=10)(h2:∀w∈ws,FnOk c b "_law_read" [.str w,.int ((d:Int)+1)] (au (g w)))(hf:∀w∈ws,flat (au (g w))=true) :
  ∃τ,RXs c b ⟨[lvR],[.vars [("text",.str t)],.cell (some (.int d))]⟩ dI.body (.ret (au (.node name (ws.map g)))) τ:=by
 have t1:=decide_eq_true hd;have l1:((name::ws).map V.str).length<=16777216:=by rw[KN,KJ];omega
 have c0:RFr c b ⟨[lvR],[.vars [("text",.str t),("words",.lst ((name::ws).map .str))],.cell (some (.int d))]⟩ rC0 (ws.map λw=>au (g w)):=by
  have e:(ws.map λw=>au (g w))=(seg ((name::ws).map V.str) (some 1) none).map λu=>au (g (unS u)):=by
   have:seg ((name::ws).map V.str) (some 1) none=ws.map .str:=rfl;rw[this,Lq];rfl
  rw[e];have e2:seg ((name::ws).map V.str) (some 1) none=ws.map .str:=rfl;refine' R.frM (σ0:=⟨[⟨cSc rC0,2,[("depth",1)]⟩,lvR],[.vars [("text",.str t),("words",.lst ((name::ws).map .str))],.cell (some (.int d)),.vars []]⟩) hB [("depth",1)] (λu=>⟨[⟨cSc rC0,2,[("depth",1)]⟩,lvR],[.vars [("text",.str t),("words",.lst ((name::ws).map .str))],.cell (some (.int d)),.vars [("word",u)]]⟩) _ ?i ?ok rfl rfl ?cl rfl (λv=>?h0) (λu v=>?hs) (λu hu=>?x) (by rw[e2,KN];omega)
  case i=>wtm_at "m.it"
  case ok=>rfl'
  case cl=>rfl'
  case h0=>wtm_at "m.set"
  case hs=>wtm_at "m.set"
  case x =>
   rw[e2] at hu;obtain⟨w,hw,rfl⟩:=K9.mp hu;have w2:=h2 w hw;refine'⟨?y,hf w hw⟩
   case y =>
    show REv c b ⟨[⟨cSc rC0,2,[("depth",1)]⟩,lvR],[.vars [("text",.str t),("words",.lst ((name::ws).map .str))],.cell (some (.int d)),.vars [("word",.str w)]]⟩ _ (au (g w));wtm_at "m.ev"
 have l2:([V.str name]++ws.map λw=>au (g w)).length<=16777216:=by simp;omega
 have e3:au (.node name (ws.map g))=.lst ([V.str name]++ws.map λw=>au (g w)):=by
  show V.lst (.str name::aJ (ws.map g))=_;rw[lw];rfl
 have g1:((name::ws).map V.str)[0]?=some (.str name):=rfl;rw[e3];refine' Lh _ ?h
 case h=>wtm_at "m.xs"
theorem Bx{t name:Str}{ws:List Str}{d:Nat}{g:Str->T}(hd:K6 (d:Int) 2≠0)(h1:FnOk c b "split_header_words" [.lst [.str t]] (.lst [.lst (kRow name ws)]))(hl:ws.length<=10)(h2:∀w∈ws,FnOk c b "_law_read" [.str w,.int ((d:Int)+1)] (au (g w)))(hf:∀w∈ws,flat (au (g w))=true) :
  ∃τ,RXs c b ⟨[lvR],[.vars [("text",.str t)],.cell (some (.int d))]⟩ dI.body (.ret (au (.node name (ws.map g)))) τ:=by
 have t1:=decide_eq_false hd;have k0:(kRow name ws).length=ws.length+1:=by simp
 have l1:(kRow name ws).length<=100:=by omega
 have l3:(kRow name ws).length<=16777216:=by omega
 have g0:[V.lst (kRow name ws)][0]?=some (.lst (kRow name ws)):=rfl;have g1:(kRow name ws)[0]?=some (.tup [.str "n",.str name]):=rfl;have g2:[V.str "n",V.str name][1]?=some (.str name):=rfl;have l4:[V.str "k"].length*((((kRow name ws).length:Nat):Int)-1).toNat<=16777216:=by rw[k0,tn1,Ln,M9];omega
 have c1:RFr c b ⟨[lvR],[.vars [("text",.str t),("lists",.lst [.lst (kRow name ws)])],.cell (some (.int d))]⟩ rC1 ((kRow name ws).map fst):=by
  refine' R.frM (σ0:=⟨[⟨cSc rC1,2,[]⟩,lvR],[.vars [("text",.str t),("lists",.lst [.lst (kRow name ws)])],.cell (some (.int d)),.vars []]⟩) hB [] (λu=>⟨[⟨cSc rC1,2,[]⟩,lvR],[.vars [("text",.str t),("lists",.lst [.lst (kRow name ws)])],.cell (some (.int d)),.vars [("pair",u)]]⟩) _ ?i ?ok rfl rfl ?cl rfl (λv=>?h0) (λu v=>?hs) (λu hu=>?x) l3
  case i=>wtm_at "m.it"
  case ok=>rfl'
  case cl=>rfl'
  case h0=>wtm_at "m.set"
  case hs=>wtm_at "m.set"
  case x =>
   have:∃x y:Str,u=.tup [.str x,.str y]:=by
    rcases Nh.mp hu with h | h
    ·rw[MJ] at h;exact⟨_,_,h⟩
    ·obtain⟨w,_,rfl⟩:=K9.mp h;exact⟨_,_,rfl⟩
   obtain⟨x,y,rfl⟩:=this;refine'⟨?y,rfl⟩
   case y =>
    show REv c b ⟨[⟨cSc rC1,2,[]⟩,lvR],[.vars [("text",.str t),("lists",.lst [.lst (kRow name ws)])],.cell (some (.int d)),.vars [("pair",.tup [.str x,.str y])]]⟩ _ (.str x);wtm_at "m.ev"
 have e2:seg (kRow name ws) (some 1) none=ws.map λt=>V.tup [.str "k",.str t]:=rfl;have c2:RFrB c b ⟨[lvR],[.vars [("text",.str t),("lists",.lst [.lst (kRow name ws)])],.cell (some (.int d))]⟩ rC2 (ws.map λw=>au (g w)):=by
  have e:(ws.map λw=>au (g w))=(seg (kRow name ws) (some 1) none).map λu=>au (g (unS (snd u))):=by
   rw[e2,Lq];rfl
  rw[e];show RFr c b _ _ _;refine' R.frM (σ0:=⟨[⟨cSc rC2,2,[("depth",1)]⟩,lvR],[.vars [("text",.str t),("lists",.lst [.lst (kRow name ws)])],.cell (some (.int d)),.vars []]⟩) hB [("depth",1)] (λu=>⟨[⟨cSc rC2,2,[("depth",1)]⟩,lvR],[.vars [("text",.str t),("lists",.lst [.lst (kRow name ws)])],.cell (some (.int d)),.vars [("pair",u)]]⟩) _ ?i ?ok rfl rfl ?cl rfl (λv=>?h0) (λu v=>?hs) (λu hu=>?x) (by rw[e2,KN];omega)
  case i=>wtm_at "m.it"
  case ok=>rfl'
  case cl=>rfl'
  case h0=>wtm_at "m.set"
  case hs=>wtm_at "m.set"
  case x =>
   rw[e2] at hu;obtain⟨w,hw,rfl⟩:=K9.mp hu;have w2:=h2 w hw;refine'⟨?y,hf w hw⟩
   case y =>
    show REv c b ⟨[⟨cSc rC2,2,[("depth",1)]⟩,lvR],[.vars [("text",.str t),("lists",.lst [.lst (kRow name ws)])],.cell (some (.int d)),.vars [("pair",.tup [.str "k",.str w])]]⟩ _ (au (g w));wtm_at "m.ev"
 have q1:Eqd c b ⟨[lvR],[.vars [("text",.str t),("lists",.lst [.lst (kRow name ws)])],.cell (some (.int d))]⟩ (.lst ((kRow name ws).map fst)) (.lst ([.str "n"]++(Mg ((((kRow name ws).length:Nat):Int)-1).toNat [V.str "k"]).flatten)) true:=by
  have e4:(kRow name ws).map fst=(("n":Str)::Mg ws.length "k").map V.str:=by
   show V.str "n"::(ws.map λt=>V.tup [.str "k",.str t]).map fst=_;rw[Lq,Li,RD]
   congr 1
   exact List.eq_replicate_iff.mpr ⟨by rw[KN],λx hx=>by obtain⟨w,_,rfl⟩:=K9.mp hx;rfl⟩
  have e5:[V.str "n"]++(Mg ((((kRow name ws).length:Nat):Int)-1).toNat [V.str "k"]).flatten=(("n":Str)::Mg ws.length "k").map V.str:=by
   rw[k0,tn1,Li,RD,List.flatten_replicate_singleton];rfl
  rw[e4,e5];have:=Eqd.strs (c:=c) (b:=b) (σ:=⟨[lvR],[.vars [("text",.str t),("lists",.lst [.lst (kRow name ws)])],.cell (some (.int d))]⟩) (a:=("n":Str)::Mg ws.length "k") (c':=("n":Str)::Mg ws.length "k") (λs hs=>?a) (λs hs=>?b)
  case a =>
   rcases KZ.mp hs with rfl | hs
   ·exact(by rfl':SOk "n")
   ·rw[(RB.mp hs).2];exact(by rfl':SOk "k")
  case b =>
   rcases KZ.mp hs with rfl | hs
   ·exact(by rfl':SOk "n")
   ·rw[(RB.mp hs).2];exact(by rfl':SOk "k")
  rwa [decide_eq_true rfl] at this
 have l2:([V.str name]++ws.map λw=>au (g w)).length<=16777216:=by simp;omega
 have l5:([V.str "n"]++(Mg ((((kRow name ws).length:Nat):Int)-1).toNat [V.str "k"]).flatten).length<=16777216:=by
  rw[k0,tn1];simp;omega
 have e3:au (.node name (ws.map g))=.lst ([V.str name]++ws.map λw=>au (g w)):=by
  show V.lst (.str name::aJ (ws.map g))=_;rw[lw];rfl
 rw[e3];refine' Lh _ ?h
 case h=>wtm_at "m.xs"
end
end
section
section
variable{c:Cx}{b:Nat}{σ τ σ0:Sg}{elt iter x e:Expr}{nm m:Str}{px p py q pos:Pos}{xs vs:List V}{u v:V}
theorem R.asgM(hB:Wd c c.hb){sc:Scope}{lv:Lv}{lr:List Lv}(cl:List (Str × Nat))(S:V->Sg)(g:V->V)(hi:RIt c b σ iter xs)(hok:dw sc=true)(hu:isSet iter=false)(hlv:σ.lv=lv::lr)(hcl:bf sc.names lv.cells []=some cl)
  (e0:du sc cl σ=σ0) (h0:∀v,Sv m v σ0 (S v)) (hs:∀u v,Sv m v (S u) (S v)) (h:∀u∈xs,REv c b (S u) elt (g u)/\flat (g u)=true) (hx:xs.length<=16777216)
  (hk:aget nm lv.names=some .local) (hln:(py.line==p.line && !(sc.names.any λ(n,k)=>n==nm&&(k == .local||k == .cell)))=true) (hset:Sv nm (.lst (xs.map g)) σ τ) :
  RX c b σ (.Assign [.Name nm py] (.ListComp elt [⟨.Name m px,iter,[],0⟩] sc p) pos) .next τ:=by
 subst e0;refine R.asgC hB hi hok hu hlv hcl ?_ hx hk hln hset;have:=R.compG (elt:=elt) (px:=px) (ifs:=[]) hB S g (λ_=>true) hs xs _ h0 λu hu=>⟨R.ts0,λ_=>h u hu⟩
 rwa [RQ.mpr λ_ _=>rfl] at this
theorem R.itemZ{t:Bool}{i:Int}(h0:0<=i)(hs:isSlice x=false)(hx:REv c b σ x (.int i))(he:REv c b σ e u)(h:Seq c b σ t u vs)(hi:vs[i.toNat]?=some v)(hz:vs.length<=16777216):REv c b σ (.Subscript e x p) v:=by
 obtain⟨n,rfl⟩:=R9 h0;exact R.item hs he hx h hi hz
end
local macro_rules (kind:=PySem.W.tacticWtm_at_) | x=>bj x "m.sub" "R.itemZ A r ev ev seq get len;bcadefg"
local macro_rules (kind:=PySem.W.tacticWtm_at_) | x=>bj x "m.x" "R.xE A r"
noncomputable def nameAt(z:Int)(k:Nat):Str:=mkS [([98,34,92]:List Nat)[(K6 (K8 z (3 ^ k)) 3).toNat]?.getD 98]
theorem tD:("b\"\\":Str).cps.toList=[98,34,92]:=by rfl'
noncomputable abbrev lC:Expr:=retE (nthS fQ.body 2)
noncomputable abbrev lvA:Lv:=⟨fQ.names,0,[("code",1)]⟩
theorem mU:∀l:List Int,nums (l.map .int)=some l:=by
 intro l_
 induction l_ with
 | nil=>exact rfl
 | cons a r ih =>
  show Option.map _ (nums (r.map .int))=_;rw[ih];rfl
theorem rz{α β:Type}(f:α->β)(l:List α)(lo hi st:Option Int):pick (l.map f) lo hi st=(pick l lo hi st).map f:=by
 unfold pick;rw[KN,List.map_filterMap]
 congr 1
 funext i
 rw[Lf]
section
variable{c:Cx}{b:Nat}(hB:Wd c c.hb)(hg:aj c G)
include hB hg
theorem Ez{ns:List Int}{ks:List (List Nat)}{ds:List Nat}{S:List (List Str)}{S0:List Str}{text:Str}{tr:T}{rr:Bool}(hl:ns.length<=63)
  (hk:FnOk c b "_law_kids" [.int (53+(pick ns (some 0) none (some 2)).sum)] (.lst (ks.map kv)))
  (hd:FnOk c b "_law_depths" [.lst (ks.map kv)] (.lst (nv ds)))
  (hs:FnOk c b "_law_sets" [.lst (ks.map kv),.lst (((K7 6).map (nameAt (687+(pick ns (some 1) none (some 2)).sum))).map .str),.lst (nv ds)] (sv S))
  (hr:FnOk c b "_law_right" [.lst (ks.map kv),.lst (((K7 6).map (nameAt (687+(pick ns (some 1) none (some 2)).sum))).map .str),.lst (nv ds),sv S] (.bool true))
  (h0:S[0]?=some S0) (hz:S0.length<=1000) (hS:S.length=6) (hp:S0≠[]) (ht:S0[(K6 ns.sum S0.length).toNat]?=some text)
  (hrd:FnOk c b "_law_read" [.str text,.int 0] (au tr))
  (hf:FnOk c b "_law_fits" [au tr,.int 0,.lst (ks.map kv),.lst (((K7 6).map (nameAt (687+(pick ns (some 1) none (some 2)).sum))).map .str)] (.bool rr)) :
  ∃τ,RXs c b ⟨[lvA],[.vars [("script",.lst (ns.map .int))],.cell none]⟩ fQ.body (.ret (.bool rr)) τ:=by
 have l0:(ns.map V.int).length<=16777216:=by rw[KN];omega
 have k0:=mU ns;have k1:nums (pick (ns.map V.int) (some 0) none (some 2))=some (pick ns (some 0) none (some 2)):=by rw[rz];exact mU _
 have k2:nums (pick (ns.map V.int) (some 1) none (some 2))=some (pick ns (some 1) none (some 2)):=by rw[rz];exact mU _
 generalize hz1:(687+(pick ns (some 1) none (some 2)).sum:Int)=z at hs hr hf;have h3:RX c b ⟨[lvA],[.vars [("script",.lst (ns.map .int)),("kids",.lst (ks.map kv))],.cell (some (.int z))]⟩ (nthS fQ.body 2) .next ⟨[lvA],[.vars [("script",.lst (ns.map .int)),("kids",.lst (ks.map kv)),("names",.lst (((K7 6).map (nameAt z)).map .str))],.cell (some (.int z))]⟩:=by
  have e:(((K7 6).map (nameAt z)).map V.str)=(inds 0 6).map λu=>V.str (nameAt z (toI u).toNat):=by
   rw[show inds 0 6=(K7 6).map λ(i:Nat)=>V.int i from rfl,Lq,Lq];rfl
  rw[e];show RX c b _ (.Assign [.Name _ _] (.ListComp _ [⟨.Name _ _,_,_,0⟩] _ _) _) _ _;refine' R.asgM (σ0:=⟨[⟨cSc lC,2,[("code",1)]⟩,lvA],[.vars [("script",.lst (ns.map .int)),("kids",.lst (ks.map kv))],.cell (some (.int z)),.vars []]⟩) hB [("code",1)] (λu=>⟨[⟨cSc lC,2,[("code",1)]⟩,lvA],[.vars [("script",.lst (ns.map .int)),("kids",.lst (ks.map kv))],.cell (some (.int z)),.vars [("k",u)]]⟩) _ ?i ?ok rfl rfl ?cl rfl (λv=>?h0) (λu v=>?hs) (λu hu=>?x) ?xl ?k ?ln ?s
  case i=>wtm_at "m.it"
  case xl=>decide
  case ok=>rfl'
  case cl=>rfl'
  case h0=>wtm_at "m.set"
  case hs=>wtm_at "m.set"
  case k=>decide +kernel
  case ln=>decide +kernel
  case s=>wtm_at "m.set"
  case x =>
   rw[show inds 0 6=(K7 6).map λ(i:Nat)=>V.int i from rfl] at hu;obtain⟨k,hk,rfl⟩:=K9.mp hu;rw[MK] at hk;refine'⟨?y,rfl⟩
   case y =>
    show REv c b ⟨[⟨cSc lC,2,[("code",1)]⟩,lvA],[.vars [("script",.lst (ns.map .int)),("kids",.lst (ks.map kv))],.cell (some (.int z)),.vars [("k",.int k)]]⟩ (.Subscript (.Constant (.str _) _ _) _ _) (.str (nameAt z k));have p0:(3:Int) ^ k≠0:=Int.pow_ne_zero (by decide)
    have f0:0<=K6 (K8 z (3 ^ k)) 3:=Qg _ (by decide)
    have f1:K6 (K8 z (3 ^ k)) 3<3:=Qh _ (by decide)
    refine' R.sign (i:=(K6 (K8 z (3 ^ k)) 3).toNat) rfl R.cstS ?y1 ?y2 ?y3
    case y1 =>
     rw[R6 f0];wtm_at "m.ev"
    case y2 =>
     have:(K6 (K8 z (3 ^ k)) 3).toNat<([98,34,92]:List Nat).length:=zr3 f0 (Qh _ (by decide))
     rw[tD,Lb this];rfl
    case y3=>rw[tD];decide
 have n0:0<=K6 ns.sum (((S0.map V.str).length:Nat):Int):=by
  rw[KN];exact Qg _ (by have:=OJ.mpr hp;omega)
 have n1:(((S0.map V.str).length:Nat):Int)≠0:=by
  rw[KN];have:=OJ.mpr hp;omega
 have g0:(S.map tv)[0]?=some (tv S0):=by rw[Lf,h0];rfl
 have g1:(S0.map V.str)[(K6 ns.sum (((S0.map V.str).length:Nat):Int)).toNat]?=some (.str text):=by rw[KN,Lf,ht];rfl
 have l1:(S.map tv).length<=16777216:=by rw[KN];omega
 have l2:(S0.map V.str).length<=16777216:=by rw[KN];omega
 subst hz1;refine' Lh _ ?h
 case h=>wtm_at "m.xs"
end
end
section
noncomputable abbrev tdy:Stmt->List Stmt:=bdOf
noncomputable def thd:Stmt->List Stmt
 | .Try _ (.ExceptHandler _ _ b _::_) _ _ _=>b
 | _=>[]
noncomputable abbrev wtE:Stmt->Expr:=tgOf
noncomputable abbrev slW:Stmt:=nthS eH.body 3
noncomputable abbrev slT:Stmt:=nthS (bdOf slW) 0
noncomputable abbrev slI:Stmt:=nthS (bdOf (nthS (tdy slT) 2)) 2
noncomputable abbrev sgX(X:List Str)(i:Int)(more:List (Str × V))(m u:List V):Sg :=
 ⟨[⟨eH.names,0,[]⟩],[.vars (("expected",tv X)::("actual",.lst [.str "~"])::("i",.int i)::("j",.int 0)::("missing",.own 1)::("unexpected",.own 2)::more),.list m,.list u]⟩
noncomputable def aN(x:Str):List Str->Nat
 | []=>0
 | y::r=>match decide (y=x) with | true=>aN x r+1 | false=>0
theorem lK{x y:Str}{r:List Str}(h:y=x):aN x (y::r)=aN x r+1:=congrArg (cond · (aN x r+1) 0) (decide_eq_true h)
theorem lL{x y:Str}{r:List Str}(h:¬ y=x):aN x (y::r)=0:=congrArg (cond · (aN x r+1) 0) (decide_eq_false h)
theorem zA(x:Str):∀r:List Str,aN x r<=r.length:=by
 intro l_
 induction l_ with
 | nil=>exact K3 _
 | cons y r ih =>
  by_cases h:y=x
  ·rw[lK h,KJ];omega
  ·rw[lL h];exact K5 _
noncomputable def ddS:Option Str->List Str->List Str
 | _,[]=>[]
 | o,y::r=>match decide (o=some y) with | true=>ddS o r | false=>y::ddS (some y) r
theorem vJ{o:Option Str}{y:Str}{r:List Str}(h:o=some y):ddS o (y::r)=ddS o r:=congrArg (cond · (ddS o r) (y::ddS (some y) r)) (decide_eq_true h)
theorem oE{o:Option Str}{y:Str}{r:List Str}(h:¬ o=some y):ddS o (y::r)=y::ddS (some y) r:=congrArg (cond · (ddS o r) (y::ddS (some y) r)) (decide_eq_false h)
theorem oA{y:Str}{r:List Str}:ddS none (y::r)=y::ddS (some y) r:=oE λe=>nomatch e
theorem H5(x:Str):∀r:List Str,ddS (some x) r=ddS none (r.drop (aN x r)):=by
 intro l_
 induction l_ with
 | nil=>exact rfl
 | cons y r ih =>
  by_cases h:y=x
  ·subst h
   rw[vJ rfl,lK rfl,PX];exact ih
  ·rw[oE λe=>h (Option.some.inj e).symm,lL h,Ph,oA]
section
variable{c:Cx}{b:Nat}(hB:Wd c c.hb)(hg:aj c G)
include hB hg
theorem zz{X:List Str}{x:Str}{m u:List V}(hX:X.length<=1000):∀(r:List Str) (i:Nat),X.drop i=r->i+r.length=X.length ->
  (aN x r<r.length->RWh c b (sgX X i [("e",.str x),("a",.str "~")] m u) (wtE slI) (bdOf slI) .next (sgX X (i+aN x r:Nat) [("e",.str x),("a",.str "~")] m u)) /\
  (aN x r=r.length->RWh c b (sgX X i [("e",.str x),("a",.str "~")] m u) (wtE slI) (bdOf slI) (.exc "IndexError") (sgX X (i+aN x r:Nat) [("e",.str x),("a",.str "~")] m u)):=by
 intro l_
 induction l_ with
 | nil =>
  intro i hd hl;refine⟨λh=>absurd h (Mq _),λ_=>?_⟩;have l0:(X.map V.str).length<=i:=by rw[KN];simp at hl;omega
  refine' R.whX hB ?t;show RTx c b _ (.Compare _ _ [_] _) _;refine' R.trCmpX rfl (R.itemX (i:=i) rfl ?a ?k Seq.lst l0 (by simp at hl;omega))
  case a=>wtm_at "m.ev"
  case k=>wtm_at "m.ev"
 | cons y r ih =>
  intro i hd hl;rw[KJ] at hl;have ih:=ih (i+1) (by rw[<-Nv,hd];rfl) (by omega)
  have g1:(X.map V.str)[i]?=some (.str y):=by
   have:=congrArg (λz=>z[0]?) hd;rw[Lf,show X[i]?=some y by simpa [Nj] using this];rfl
  have l1:(X.map V.str).length<=16777216:=by rw[KN];omega
  by_cases h:y=x
  ·rw[lK h,KJ,show i+(aN x r+1)=i+1+aN x r by omega]
   rw[show((i+1:Nat):Int)=(i:Int)+1 from rfl] at ih;have t1:=decide_eq_true h;have ht:RTr c b (sgX X i [("e",.str x),("a",.str "~")] m u) (wtE slI) true:=by
    rw[<-t1];show RTr c b _ (.Compare _ _ _ _) _;wtm_at "m.tr"
   have hb:RXs c b (sgX X i [("e",.str x),("a",.str "~")] m u) (bdOf slI) .next (sgX X ((i:Int)+1) [("e",.str x),("a",.str "~")] m u):=by
    refine' R.less ?zp ?zq
    case zp=>wtm_at "m.xs"
    case zq=>wtm_at "m.csle"
   exact⟨λk=>R.whN hB ht hb (ih.1 (by omega)),λk=>R.whN hB ht hb (ih.2 (by omega))⟩
  ·rw[lL h,Nf]
   have t1:=decide_eq_false h;refine⟨λ_=>R.whF ?_,λk=>absurd k (by simp)⟩
   rw[<-t1];show RTr c b _ (.Compare _ _ _ _) _;wtm_at "m.tr"
end
end
section
noncomputable abbrev fY(m:List V):Sg:=⟨[⟨eH.names,0,[]⟩],[.vars [("missing",.own 1),("unexpected",.own 2)],.list m,.list [.str "~"]]⟩
section
variable{c:Cx}{b:Nat}(hB:Wd c c.hb)(hg:aj c G)
include hB hg
theorem qy{X:List Str}{i:Nat}{more:List (Str × V)}{m:List V}(hX:X.length<=1000)(hi:X.length=i)(hm:m.length<=1000):RHd c (sgX X i more m []) (thd slT) .brk (sgX X i more m [.str "~"]):=by
 have hd0:(X.map V.str).drop i=[]:=by rw[<-QH,NP (by omega)];rfl
 have l1:(X.map V.str).length<=16777216:=by rw[KN];omega
 have l2:m.length+([]:List V).length<=16777216:=by simp;omega
 have l3:([]:List V).length+[V.str "~"].length<=16777216:=by decide
 show RHd c _ (.Expr (.Call (.Attribute (.Name _ _) _ _) [_] [] _) _::.Expr (.Call (.Attribute (.Name _ _) _ _) [_] [] _) _::[.Break _]) _ _;refine' R.hdExt (i:=1) (xs:=m) (ys:=[]) hB hg rfl ?ln ?k1 rfl (R.haCut hg rfl ?k2 ?k3 l1 hd0) l2 ?rest
 case ln=>rfl
 case k1=>wtm_at "m.name"
 case k2=>wtm_at "m.name"
 case k3=>wtm_at "m.name"
 case rest =>
  refine' R.hdExt (i:=2) (xs:=[]) (ys:=[.str "~"]) hB hg rfl ?ln2 ?n1 rfl (R.haCut (i:=0) hg rfl ?n2 ?n3 ?n4 rfl) l3 ?r2
  case ln2=>rfl
  case n1=>wtm_at "m.name"
  case n2=>wtm_at "m.name"
  case n3 =>
   show Nm _ _ _ _ (.int 0);wtm_at "m.name"
  case n4=>decide
  case r2 =>
   have:(⟨(sgX X i more m []).lv,[.vars (("expected",tv X)::("actual",.lst [.str "~"])::("i",.int i)::("j",.int 0)::("missing",.own 1)::("unexpected",.own 2)::more),.list (m++[]),.list ([]++[.str "~"])]⟩:Sg)=sgX X i more m [.str "~"]:=by rw[Lg];rfl
   rw[<-this];exact R.hdBrk
theorem qw{X:List Str}(hX:X.length<=1000)(hlt:∀x∈X,bR x "~"=true){n:Nat}(ih:∀n',n=n'+1->∀(r:List Str) (i:Nat) (m:List V),r.length<=n'->X.drop i=r->i+r.length=X.length->m.length<=i ->
  RWh c b (sgX X i [] m []) (wtE slW) (bdOf slW) .next (fY (m++(ddS none r).map .str))):∀(r:List Str) (i:Nat) (m:List V),r.length<=n->X.drop i=r->i+r.length=X.length->m.length<=i ->
  RWh c b (sgX X i [] m []) (wtE slW) (bdOf slW) .next (fY (m++(ddS none r).map .str))
 | [],i,m,hn,hd,hl,hm=>by
  have hi:X.length=i:=by simp at hl;omega
  have l0:(X.map V.str).length<=i:=by rw[KN];omega
  have hh:=qy hB hg (more:=[]) (m:=m) hX hi (by omega)
  have e0:fY (m++(ddS none []).map .str)=fY m:=by show fY (m++[])=_;rw[Lg]
  rw[e0];refine' R.whB hB ?t (R.less (R.xsStop (R.tryX hB hg rfl (R.xsStop (R.asgX rfl (R.itemX (i:=i) rfl ?a ?k Seq.lst l0 (by omega))) ?f1) rfl ?nn hh) ?f2) ?w)
  case t =>
   show RTr c b _ (.Constant (.bool true) _ _) _;wtm_at "m.tr"
  case a=>wtm_at "m.ev"
  case k=>wtm_at "m.ev"
  case f1=>exact Fl.noConfusion
  case f2=>exact Fl.noConfusion
  case nn=>wtm_at "m.name"
  case w=>wtm_at "m.csle"
 | x::r,i,m,hn,hd,hl,hm=>by
  rw[KJ] at hl hn;have hx:x∈X:=Nz (i:=i) (by rw[hd];exact .head _)
  have t1:=hlt x hx;have g1:(X.map V.str)[i]?=some (.str x):=by
   have:=congrArg (λz=>z[0]?) hd;rw[Lf,show X[i]?=some x by simpa [Nj] using this];rfl
  have l1:(X.map V.str).length<=16777216:=by rw[KN];omega
  have l2:m.length<16777216:=by omega
  have dr:X.drop (i+1)=r:=by rw[<-Nv,hd];rfl
  have inn:=zz (b:=b) hB hg (x:=x) (m:=m++[V.str x]) (u:=[]) hX r (i+1) dr (by omega)
  have sk:=zA x r;have e1:ddS none (x::r)=x::ddS none (r.drop (aN x r)):=by rw[<-H5,oA]
  have e2:m++(ddS none (x::r)).map V.str=(m++[V.str x])++(ddS none (r.drop (aN x r))).map V.str:=by rw[e1,Lj];rfl
  rw[e2];have k0:i+1+aN x r=i+1+aN x r:=rfl;rw[show((i+1:Nat):Int)=(i:Int)+1 from rfl] at inn
  by_cases h:aN x r<r.length
  ·have lp:=inn.1 h
   have turn:RXs c b (sgX X i [] m []) (bdOf slW) .next (sgX X (i+1+aN x r:Nat) [] (m++[V.str x]) []):=by
    refine' R.less (R.xs1 (R.tryN ?bd ?nf) (.go R.xsNil)) ?w
    case bd=>wtm_at "m.xs"
    case nf=>exact λk=>Fl.noConfusion
    case w=>wtm_at "m.csle"
   obtain⟨n,rfl⟩:∃n',n=n'+1:=⟨n-1,by omega⟩
   have ih:=ih n rfl (r.drop (aN x r)) (i+1+aN x r) (m++[V.str x]) (by rw[Ni];omega) (by rw[<-dr,Pj]) (by rw[Ni];omega) (by rw[KR,Ln];omega)
   refine' R.whN hB ?t turn ih
   case t =>
    show RTr c b _ (.Constant (.bool true) _ _) _;wtm_at "m.tr"
  ·have lp:=inn.2 (by omega)
   have hh:=qy hB hg (i:=i+1+aN x r) (more:=[("e",.str x),("a",.str "~")]) (m:=m++[V.str x]) hX (by omega) (by rw[KR,Ln];omega)
   have e3:r.drop (aN x r)=[]:=NP (by omega)
   rw[e3,show(ddS none []).map V.str=[] from rfl,Lg];refine' R.whB hB ?t (R.less (R.xsStop (R.tryX (kx:="IndexError") hB hg rfl ?bd rfl ?nn hh) ?f2) ?w)
   case t =>
    show RTr c b _ (.Constant (.bool true) _ _) _;wtm_at "m.tr"
   case bd=>wtm_at "m.xs"
   case f2=>exact Fl.noConfusion
   case nn=>wtm_at "m.name"
   case w=>wtm_at "m.csle"
theorem qx{X:List Str}(hX:X.length<=1000)(hlt:∀x∈X,bR x "~"=true):∀(n:Nat) (r:List Str) (i:Nat) (m:List V),r.length<=n->X.drop i=r->i+r.length=X.length->m.length<=i ->
  RWh c b (sgX X i [] m []) (wtE slW) (bdOf slW) .next (fY (m++(ddS none r).map .str))
 | 0=>qw hB hg hX hlt λ_ h=>nomatch h
 | n+1=>qw hB hg hX hlt λ_ h=>Nat.succ.inj h▸qx hX hlt n
theorem zu{X:List Str}(hX:X.length<=1000)(hlt:∀x∈X,bR x "~"=true):∃τ,RXs c b (sg0 eH [("expected",tv X),("actual",.lst [.str "~"])]) eH.body (.ret (.tup [tv (ddS none X),.lst [.str "~"]])) τ:=by
 have lp:=qx (b:=b) hB hg hX hlt X.length X 0 [] (K3 _) rfl (Lr _) (K3 _);rw[Mj,show((0:Nat):Int)=0 from rfl] at lp;refine' Lh _ ?h
 case h=>wtm_at "m.xs"
end
end
section
theorem Je{c:Cx}{b:Nat}(hB:Wd c c.hb){x:Str}{f:Addr}{fd:FuncData}{F:Fn}(hx:c.D.mg x=some (.ref f))(D:ak c f fd F){as:List V}{cs cs':List Cell}{σ τ:Sg}{r:V}
  (hb:∀(s:Shared) (γ:Gh) (P:Frz) (vs:List Value),Wd c s.heap->IsL c.D γ P vs as->BindsTo s fd ⟨vs,[]⟩ (F.pars.zip vs)) (hst:Svs (F.pars.zip as) (aL F cs) σ) (hr:RXs c b σ F.body (.ret r) τ) (hl:Left cs τ cs' r):CmOk c (b+1) x cs as [] r cs':=by
 obtain⟨ob,hK,hd⟩:=D.obj;refine⟨_,hx,λlv N vs ks E hv hk=>⟨⟨.frame,λQ hq=>?_⟩,?_⟩⟩
 ·show wpAny c.M N.A _ _ _ _
  unfold keeperOf;refine wpAny_bind (wpAny_load (N.Y.st.wd.kp _ _ hK) ?_);rw[hd];exact wpAny_pure hq
 ·exact wpAny_mono (iQ hB N.hA.z N.Y D (args:=⟨vs,[]⟩) (hb N.s N.γ N.P vs N.Y.st.wd hv) hv hst hr (.inl rfl) hl) (λv s1 q_=>Exists.p3 q_ λP1 Y1 i1=>⟨N.γ,P1,.refl _,Y1,i1⟩) λ_ _ q=>q
noncomputable abbrev uW:Stmt:=nthS eG.body 1
noncomputable abbrev uT:Stmt:=nthS (bdOf uW) 1
noncomputable abbrev sgU(vs:List (Str × V))(A B:List Str)(more:List (Str × V))(m:List Str):Sg:=⟨[⟨eG.names,3,[]⟩],[.vars vs,.list (A.map .str),.list (B.map .str),.vars (("expected",.own 1)::("actual",.own 2)::("missing",.own 4)::more),.list (m.map .str)]⟩
section
variable{c:Cx}{b:Nat}(hB:Wd c c.hb)(hg:aj c G)
include hB hg
theorem xK{vs:List (Str × V)}:∀(r B m:List Str),r.length+m.length<=1000->B.length<=1000->RWh c b (sgU vs r.reverse B [] m) (wtE uW) (bdOf uW) .next (sgU vs [] (uldP r B m).2 [] (uldP r B m).1):=by
 intro l_
 induction l_ with
 | nil =>
  intro B m _ _;refine R.whF ?_;have l0:([]:List V).length<=16777216:=by decide
  show RTr c b (sgU vs [] B [] m) (.Name _ _) (!([]:List V).isEmpty);wtm_at "m.tr"
 | cons x r ih =>
  intro B m h1 h2;rw[KJ] at h1;have e1:((x::r).reverse).map V.str=r.reverse.map .str++[.str x]:=by rw[List.reverse_cons,NB];rfl
  have l0:(r.reverse.map V.str++[V.str x]).length<=16777216:=by simp;omega
  have l1:(r.reverse.map V.str).length<16777216:=by rw[KN,RK];omega
  have l2:(B.map V.str).length<=16777216:=by rw[KN];omega
  have l3:(m.map V.str).length<16777216:=by rw[KN];omega
  have tB:=jh B;have ht:RTr c b (sgU vs (x::r).reverse B [] m) (wtE uW) true:=by
   have e2:true = !(r.reverse.map V.str++[V.str x]).isEmpty:=by cases r.reverse <;> rfl
   rw[e2];show RTr c b ⟨_,[.vars vs,.list ((x::r).reverse.map .str),.list (B.map .str),_,_]⟩ (.Name _ _) _;rw[e1];wtm_at "m.tr"
  have hp:RX c b (sgU vs (x::r).reverse B [] m) (nthS (bdOf uW) 0) .next (sgU vs r.reverse B [("item",.str x)] m):=by
   show RX c b ⟨_,[.vars vs,.list ((x::r).reverse.map .str),.list (B.map .str),_,_]⟩ (.Assign [.Name _ _] (.Call (.Attribute _ _ _) [] [] _) _) _ _;rw[e1];refine' R.asg hB rfl (R.pop (i:=1) hB rfl rfl ?ze rfl l1) ?zs
   case ze=>wtm_at "m.ev"
   case zs=>wtm_at "m.set"
  by_cases hx:x∈B
  ·have ih:=ih (aY x B) m (by omega) (KQ (by
    have:∀l:List Str,(aY x l).length<=l.length:=λl=>by
     induction l with
     | nil=>exact K3 _
     | cons a l ih =>
      by_cases h:a=x
      ·rw[jX h];exact M3 _
      ·rw[jY h];exact Mm ih
    exact this B) h2)
   rw[pB hx];have ht2:RX c b (sgU vs r.reverse B [("item",.str x)] m) uT .next (sgU vs r.reverse (aY x B) [("item",.str x)] m):=by
    show RX c b _ (.Try [.Expr (.Call (.Attribute _ _ _) [_] [] _) _] [.ExceptHandler (some (.Name _ _)) .none [_] _] [] [] _) _ _;refine' R.tryN (R.xsCons (R.exprC (R.remove (i:=2) hB rfl rfl ?za rfl rfl ?zb tB hx l2)) R.xsNil) (λk=>Fl.noConfusion)
    case za=>wtm_at "m.ev"
    case zb=>wtm_at "m.ev"
   refine' R.whN hB ht (R.less (R.xsCons hp (R.xsCons ht2 R.xsNil)) ?zw) ih
   case zw=>wtm_at "m.csle"
  ·have ih:=ih B (m++[x]) (by rw[KR,Ln];omega) h2
   rw[pF hx];have e4:(m++[x]).map V.str=m.map .str++[.str x]:=by rw[NB];rfl
   have ht2:RX c b (sgU vs r.reverse B [("item",.str x)] m) uT .next (sgU vs r.reverse B [("item",.str x)] (m++[x])):=by
    show RX c b _ (.Try [.Expr (.Call (.Attribute _ _ _) [_] [] _) _] [.ExceptHandler (some (.Name _ _)) .none [.Expr (.Call (.Attribute (.Name _ _) _ _) [_] [] _) _] _] [] [] _) _ ⟨_,[_,_,_,_,.list ((m++[x]).map .str)]⟩;rw[e4];refine' R.tryX (kx:="ValueError") hB hg rfl (R.xsStop (R.exprX (R.removeX (i:=2) rfl rfl ?za rfl rfl ?zb tB hx)) Fl.noConfusion) rfl ?zn (R.hdApp (i:=4) hB hg rfl ?zl ?zk rfl (R.haName hg rfl ?zm) rfl l3 R.hdNil)
    case za=>wtm_at "m.ev"
    case zb=>wtm_at "m.ev"
    case zn=>wtm_at "m.name"
    case zl=>rfl
    case zk=>wtm_at "m.name"
    case zm=>wtm_at "m.name"
   refine' R.whN hB ht (R.less (R.xsCons hp (R.xsCons ht2 R.xsNil)) ?zw) ih
   case zw=>wtm_at "m.csle"
theorem xJ{vs:List (Str × V)}{A B:List Str}(h1:A.length<=1000)(h2:B.length<=1000) :
  RXs c b ⟨[⟨eG.names,3,[]⟩],[.vars vs,.list (A.map .str),.list (B.map .str),.vars [("expected",.own 1),("actual",.own 2)]]⟩ eG.body (.ret (.tup [.lst ((uldP A.reverse B []).1.map .str),.lst ((uldP A.reverse B []).2.map .str)]))
   ⟨[⟨eG.names,3,[]⟩],[.vars vs,.list [],.dead,.vars [("expected",.own 1),("actual",.own 2),("missing",.own 4)],.dead]⟩:=by
 have lp:=xK (b:=b) hB hg (vs:=vs) A.reverse B [] (by rw[RK];exact h1) h2
 rw[List.reverse_reverse] at lp;refine' R.less ?zx ?zw
 case zx=>wtm_at "m.xs"
 case zw=>wtm_at "m.csle"
end
end
section
noncomputable def escS(l:List Nat):List Nat:=l.flatMap λch=>match ch==34||ch==92 with | true=>[92,ch] | false=>[ch]
noncomputable def jv(tok:Bool)(v:Str):Str:=match tok with
 | true=>v
 | false=>mkS (34::((mkS (escS v.cps.toList)).cps.toList++[34]))
noncomputable def kvS(tok:Str->Bool)(k v:Str):Str:=mkS (k.cps.toList++("=":Str).cps.toList++(jv (tok v) v).cps.toList)
noncomputable abbrev jO:Stmt:=nthS dN.body 1
noncomputable abbrev jI:Stmt:=nthS (bdOf jO) 1
noncomputable abbrev jSub:Expr:=retE (nthS (bdOf (nthS (bdOf (nthS (bdOf jI) 0)) 0)) 0)
noncomputable abbrev lvJ:Lv:=⟨dN.names,0,[]⟩
structure oX(c:Cx)(b:Nat)(tok:Str->Bool)(v:Str):Prop where
 full:∀σ,∃r,Mp c b σ (.gl "HEADER_JOIN_TOKEN_RE") "fullmatch" [.str v] r/\((tok v=true/\∃re sp,r=.mat re v sp)∨(tok v=false/\r=.none))
 sub:∀cs,Nm G cs "v" lvJ (.str v)->REv c b ⟨[lvJ],cs⟩ jSub (.str (mkS (escS v.cps.toList)))
noncomputable abbrev sgJ(L:V)(p:List V)(hs at_:List V)(more:List (Str × V)):Sg:=⟨[lvJ],[.vars (("lists",L)::("headers",.own 1)::("pairs",.lst p)::("attr",.own 2)::more),.list hs,.list at_]⟩
theorem nY(l:List Nat):(escS l).length<=2*l.length:=by
 induction l with
 | nil=>exact K3 _
 | cons a l ih =>
  unfold escS at ih ⊢;rw[Ml,KR,KJ];generalize (List.flatMap _ l).length=n at ih ⊢;cases a==34||a==92 <;> dsimp only <;> simp only[KJ,LC] <;> omega
local macro_rules (kind:=PySem.W.tacticWtm_at_) | x=>bj x "m.fmt" "R.fmt ev len"
local macro_rules (kind:=PySem.W.tacticWtm_at_) | x=>bj x "m.ev" "R.joined fmt ev fmt len"
section
variable{c:Cx}{b:Nat}(hB:Wd c c.hb)(hg:aj c G)
include hB hg
theorem Gf{L:V}{p hs:List V}{tok:Str->Bool}:∀(r:List (Str × Str)) (a:List V),(∀x∈r,oX c b tok x.2/\x.1.cps.toList.length<=10/\x.2.cps.toList.length<=100000)->a.length+r.length<=1000 ->
  RFor c b (sgJ L p hs a []) (tgOf jI) (bdOf jI) (r.map λx=>.tup [.str x.1,.str x.2]) .next (sgJ L p hs (a++(r.map λx=>kvS tok x.1 x.2).map .str) []):=by
 intro l_
 induction l_ with
 | nil =>
  intro a _ _;simp only[Oc,Lg];exact R.fNil
 | cons x_ r ih =>
  intro a h hl;obtain⟨k,v⟩:=x_;rw[KJ] at hl;have ih:=ih (a++[.str (kvS tok k v)]) (λx hx=>h x (.tail _ hx)) (by rw[KR,Ln];omega)
  rw[Lj] at ih;obtain⟨⟨hf,hsub⟩,h10,h20⟩:=h (k,v) (.head _);simp only at h10 h20 hf hsub;obtain⟨rr,m1,m2⟩:=hf (sgJ L p hs a [("k",.str k),("v",.str v)]);have l2:a.length<16777216:=by omega
  have es:=nY v.cps.toList;have eq1:("=":Str).cps.toList.length=1:=by rfl'
  have lk:k.cps.toList.length<=16777216:=by omega
  have lv:v.cps.toList.length<=16777216:=by omega
  have z1:(k.cps.toList++("=":Str).cps.toList++v.cps.toList).length<=16777216:=by simp only[KR];omega
  have z0:(mkS (escS v.cps.toList)).length<=1000000:=by rw[len_mkS];omega
  have z3:(mkS (34::((mkS (escS v.cps.toList)).cps.toList++[34]))).cps.toList.length<=16777216:=by rw[toList_mkS,toList_mkS,KJ,KR,Ln];omega
  have z2:(k.cps.toList++("=":Str).cps.toList++(mkS (34::((mkS (escS v.cps.toList)).cps.toList++[34]))).cps.toList).length<=16777216:=by
   rw[KR,KR,toList_mkS,toList_mkS,KJ,KR,Ln];omega
  have e3:a++([V.str (kvS tok k v)]++(r.map λx=>kvS tok x.1 x.2).map .str)=a++(((k,v)::r).map λx=>kvS tok x.1 x.2).map .str:=rfl;rw[e3] at ih;show RFor c b _ _ _ (.tup [.str k,.str v]::r.map λx=>.tup [.str x.1,.str x.2]) _ _;rcases m2 with ⟨t1,re,sp,rfl⟩ | ⟨t1,rfl⟩
  ·have e4:kvS tok k v=mkS (k.cps.toList++("=":Str).cps.toList++v.cps.toList):=by unfold kvS jv;rw[t1]
   rw[e4] at ih;refine' R.fN hB (.pair ?za ?zb) (R.less ?zx ?zw) ih
   case za=>wtm_at "m.set"
   case zb=>wtm_at "m.set"
   case zx=>wtm_at "m.xs"
   case zw=>wtm_at "m.csle"
  ·have e4:kvS tok k v=mkS (k.cps.toList++("=":Str).cps.toList++(mkS (34::((mkS (escS v.cps.toList)).cps.toList++[34]))).cps.toList):=by unfold kvS jv;rw[t1]
   rw[e4] at ih;have sb:=hsub (sgJ L p hs a [("k",.str k),("v",.str v)]).cs (by wtm_at "m.name")
   have sx:RX c b (sgJ L p hs a [("k",.str k),("v",.str v)]) (nthS (bdOf (nthS (bdOf (nthS (bdOf jI) 0)) 0)) 0) .next (sgJ L p hs a [("k",.str k),("v",.str (mkS (escS v.cps.toList)))]):=by
    show RX c b _ (.Assign [.Name _ _] _ _) _ _;refine' R.asg hB rfl (R.effV (R.evE sb rfl)) ?zs
    case zs=>wtm_at "m.set"
   refine' R.fN hB (.pair ?za ?zb) (R.less (R.xsCons (R.ifB (k := !false) ?t1 (.y rfl (R.xsCons (R.ifB (k := !false) ?t2 (.y ?t3 (R.xsCons (R.xE sx rfl) ?t4))) ?t5))) ?t6) ?zw) ih
   case za=>wtm_at "m.set"
   case zb=>wtm_at "m.set"
   case t1=>wtm_at "m.tr"
   case t2=>wtm_at "m.tr"
   case t3=>rfl
   case t4=>wtm_at "m.xs"
   case t5=>wtm_at "m.xs"
   case t6=>wtm_at "m.xs"
   case zw=>wtm_at "m.csle"
end
end
section
section
variable{c:Cx}{b:Nat}(hB:Wd c c.hb)(hg:aj c G)
include hB hg
theorem Gb{tok:Str->Bool}{r:List (Str × Str)}(h0:r≠[])(h:∀x∈r,oX c b tok x.2/\x.1.cps.toList.length<=10/\x.2.cps.toList.length<=100000)(hl:r.length<=10)(hz:bc "; " (r.map λx=>kvS tok x.1 x.2)<=16777216)(hz2:bc ", " [Txt.join "; " (r.map λx=>kvS tok x.1 x.2)]<=16777216) :
  ∃τ,RXs c b (sg0 dN [("lists",.lst [.lst (r.map λx=>.tup [.str x.1,.str x.2])])]) dN.body (.ret (.str (Txt.join ", " [Txt.join "; " (r.map λx=>kvS tok x.1 x.2)]))) τ:=by
 have inn:=Gf (b:=b) hB hg (L:=.lst [.lst (r.map λx=>.tup [.str x.1,.str x.2])]) (p:=r.map λx=>.tup [.str x.1,.str x.2]) (hs:=[]) (tok:=tok) r [] h (by rw[LC];omega)
 rw[Mj] at inn;have l1:((r.map λx=>kvS tok x.1 x.2).map V.str).length<=16777216:=by rw[KN,KN];omega
 have k1:=jh (r.map λx=>kvS tok x.1 x.2);have k2:txts [V.str (Txt.join "; " (r.map λx=>kvS tok x.1 x.2))]=some [Txt.join "; " (r.map λx=>kvS tok x.1 x.2)]:=rfl;have t1:(!((r.map λx=>kvS tok x.1 x.2).map V.str).isEmpty)=true:=by cases r with | nil=>exact absurd rfl h0 | cons=>rfl
 have lp:RFor c b ⟨[lvJ],[.vars [("lists",.lst [.lst (r.map λx=>.tup [.str x.1,.str x.2])]),("headers",.own 1)],.list []]⟩ (tgOf jO) (bdOf jO) [.lst (r.map λx=>.tup [.str x.1,.str x.2])] .next
   ⟨[lvJ],[.vars [("headers",.own 1)],.list [.str (Txt.join "; " (r.map λx=>kvS tok x.1 x.2))],.list ((r.map λx=>kvS tok x.1 x.2).map .str)]⟩:=by
  refine' R.fN hB (.name ?za) (R.less ?zx ?zw) R.fNil
  case za=>wtm_at "m.set"
  case zx=>wtm_at "m.xs"
  case zw=>wtm_at "m.csle"
 clear inn;refine' Lh _ ?h
 case h=>wtm_at "m.xs"
end
end
section
theorem R.assertB{c:Cx}{b:Nat}{σ:Sg}{t:Expr}{mm:Option Expr}{k:Bool}{pos:Pos}(h:RTr c b σ t k)(hk:k=true):RX c b σ (.Assert t mm pos) .next σ:=by subst hk;exact R.assert h
noncomputable def unmP(t:Str)(p:Nat × Nat):Str:=mkS ((mkS (seg t.cps.toList none (some p.1))).cps.toList++(mkS (seg t.cps.toList (some p.2) none)).cps.toList)
section
variable{c:Cx}{b:Nat}(hB:Wd c c.hb)(hg:aj c G)
include hB hg
theorem xn{re t:Str}{sp:List (Nat × Nat)}{p:Nat × Nat}(hp:sp[0]?=some p)(hz:t.cps.toList.length<=100000) :
  ∃τ,RXs c b (sg0 jc [("match",.mat re t sp)]) jc.body (.ret (.str (unmP t p))) τ:=by
 have l0:t.cps.toList.length<=16777216:=by omega
 have l1:((mkS (seg t.cps.toList none (some p.1))).cps.toList++(mkS (seg t.cps.toList (some p.2) none)).cps.toList).length<=sizeLine:=by
  show _<=16777216;rw[KR,toList_mkS,toList_mkS];have hz':t.cps.size<=100000:=by simpa using hz
  show((t.cps.toList.take p.1).drop 0).length+(t.cps.toList.drop p.2).length<=_;simp;omega
 show ∃τ,RXs c b _ _ (.ret (.str (mkS ((mkS (seg t.cps.toList none (some p.1))).cps.toList++(mkS (seg t.cps.toList (some p.2) none)).cps.toList)))) τ;refine' Lh _ ?h
 case h=>wtm_at "m.xs"
end
noncomputable abbrev lvH:Lv:=⟨dG.names,0,[]⟩
noncomputable abbrev hF:Stmt:=nthS dG.body 2
noncomputable abbrev hW:Stmt:=nthS (bdOf hF) 2
noncomputable abbrev hI:Stmt:=nthS (bdOf hW) 1
noncomputable abbrev hQ:Stmt:=nthS (bdOf hI) 3
noncomputable abbrev hSub:Expr:=retE (nthS (bdOf hQ) 2)
inductive Shw(c:Cx)(b:Nat):Str->List (Str × Str)->Prop
 | nil {t:Str}:t.cps.toList=[]->Shw c b t []
 | quoted {t t1 t2 value:Str} {sp1 sp2:List (Nat × Nat)} {p1 p2:Nat × Nat} {r:List (Str × Str)}:t.cps.toList≠[]->t.cps.toList.length<=100000 ->
   (∀σ,Mp c b σ (.gl "HEADER_TOKEN_RE") "search" [.str t] (.mat "HEADER_TOKEN_RE" t sp1))->FnOk c b "unmatched" [.mat "HEADER_TOKEN_RE" t sp1] (.str t1)->sp1[1]?=some p1 ->
   t1.cps.toList.length<=100000->(∀σ,Mp c b σ (.gl "HEADER_QUOTED_VALUE_RE") "search" [.str t1] (.mat "HEADER_QUOTED_VALUE_RE" t1 sp2))->FnOk c b "unmatched" [.mat "HEADER_QUOTED_VALUE_RE" t1 sp2] (.str t2)->sp2[1]?=some p2 ->
   (∀cs,Nm G cs "value" lvH (.str (mkS (aC t1 p2)))->REv c b ⟨[lvH],cs⟩ hSub (.str value))->Shw c b t2 r->Shw c b t ((mkS (aC t p1),value)::r)
 | plain {t t1 t2:Str} {sp1 sp2:List (Nat × Nat)} {p1 p2:Nat × Nat} {r:List (Str × Str)}:t.cps.toList≠[]->t.cps.toList.length<=100000 ->
   (∀σ,Mp c b σ (.gl "HEADER_TOKEN_RE") "search" [.str t] (.mat "HEADER_TOKEN_RE" t sp1))->FnOk c b "unmatched" [.mat "HEADER_TOKEN_RE" t sp1] (.str t1)->sp1[1]?=some p1 ->
   t1.cps.toList.length<=100000->(∀σ,Mp c b σ (.gl "HEADER_QUOTED_VALUE_RE") "search" [.str t1] .none)->(∀σ,Mp c b σ (.gl "HEADER_VALUE_RE") "search" [.str t1] (.mat "HEADER_VALUE_RE" t1 sp2))->FnOk c b "unmatched" [.mat "HEADER_VALUE_RE" t1 sp2] (.str t2)->sp2[1]?=some p2 ->
   Shw c b t2 r->Shw c b t ((mkS (aC t p1),Txt.rstrip (mkS (aC t1 p2)))::r)
 | junk {t t1:Str} {r:List (Str × Str)}:t.cps.toList≠[]->t.cps.toList.length<=100000->(∀σ,Mp c b σ (.gl "HEADER_TOKEN_RE") "search" [.str t] .none)->Txt.startswith (Txt.lstrip t) ","=false ->
   (∀σ,Mp c b σ (.gl "_twin_re_7") "subn" [.str "",.str t] (.tup [.str t1,.int 1]))->Shw c b t1 r->Shw c b t r
noncomputable abbrev sgH(L:V)(t o:Str)(res ps:List V)(more:List (Str × V)):Sg:=⟨[lvH],[.vars (("header_values",L)::("result",.own 1)::("text",.str t)::("orig_text",.str o)::("pairs",.own 2)::more),.list res,.list ps]⟩
noncomputable abbrev fZ(x:Str × Str):V:=.tup [.str x.1,.str x.2]
local macro_rules (kind:=PySem.W.tacticWtm_at_) | x=>bj x "m.x" "R.assertB tr rd"
local macro_rules (kind:=PySem.W.tacticWtm_at_) | x=>bj x "m.x" "R.xE A r"
theorem gV(t:Str)(p:Nat × Nat):(aC t p).length<=t.cps.toList.length:=by
 unfold aC;rw[Ni];have:=RJ p.2 t.cps.toList;have h2:(t.cps.toList.take p.2).length<=t.cps.toList.length:=by rw[Mr];exact Nr _ _
 omega
section
variable{c:Cx}{b:Nat}(hB:Wd c c.hb)(hg:aj c G)
include hB hg
theorem jt{L:V}{o t:Str}{res ps:List V}(hz:t.cps.toList.length<=100000):RTr c b (sgH L t o res ps []) (wtE hW) (!t.cps.toList.isEmpty):=by
 have l0:t.cps.toList.length<=16777216:=by omega
 show RTr c b _ (.Name _ _) _;wtm_at "m.tr"
theorem zL{L:V}{o t:Str}{res:List V}{r:List (Str × Str)}(h:Shw c b t r):∀(ps:List V),ps.length+r.length<=1000 ->
  ∃t',RWh c b (sgH L t o res ps []) (wtE hW) (bdOf hW) .next (sgH L t' o res (ps++r.map fZ) []):=by
 induction h with
 | @nil t h0 =>
  intro ps hl;rw[Oc,Lg];have ht:=jt (b:=b) hB hg (L:=L) (o:=o) (t:=t) (res:=res) (ps:=ps) (by rw[h0];decide)
  rw[h0] at ht;exact⟨t,R.whF ht⟩
 | @quoted t t1 t2 value sp1 sp2 p1 p2 r h0 hz m1 f1 g1 hz1 m2 f2 g2 hs hr ih =>
  intro ps hl;rw[KJ] at hl;obtain⟨t',ih⟩:=ih (ps++[.tup [.str (mkS (aC t p1)),.str value]]) (by rw[KR,Ln];omega)
  rw[Lj] at ih;have ht:=jt (b:=b) hB hg (L:=L) (o:=o) (t:=t) (res:=res) (ps:=ps) hz;rw[QK.mpr h0] at ht;have k1:=m1 (sgH L t o res ps []);have k2:=m2 (sgH L t1 o res ps [("m",.mat "HEADER_TOKEN_RE" t sp1),("name",.str (mkS (aC t p1)))]);have l1:(aC t p1).length<=16777216:=by have:=gV t p1;omega
  have l2:(aC t1 p2).length<=16777216:=by have:=gV t1 p2;omega
  have l3:ps.length<16777216:=by omega
  have sb:=hs (sgH L t2 o res ps [("m",.mat "HEADER_QUOTED_VALUE_RE" t1 sp2),("name",.str (mkS (aC t p1))),("value",.str (mkS (aC t1 p2)))]).cs (by wtm_at "m.name")
  have sx:RX c b (sgH L t2 o res ps [("m",.mat "HEADER_QUOTED_VALUE_RE" t1 sp2),("name",.str (mkS (aC t p1))),("value",.str (mkS (aC t1 p2)))]) (nthS (bdOf hQ) 2) .next
    (sgH L t2 o res ps [("m",.mat "HEADER_QUOTED_VALUE_RE" t1 sp2),("name",.str (mkS (aC t p1))),("value",.str value)]):=by
   show RX c b _ (.Assign [.Name _ _] _ _) _ _;refine' R.asg hB rfl (R.effV (R.evE sb rfl)) ?zs
   case zs=>wtm_at "m.set"
  refine⟨t',?_⟩;clear hs;refine' R.whN hB ht (R.less ?zx ?zw) ih
  case zx=>wtm_at "m.xs"
  case zw=>wtm_at "m.csle"
 | @plain t t1 t2 sp1 sp2 p1 p2 r h0 hz m1 f1 g1 hz1 m2 m3 f2 g2 hr ih =>
  intro ps hl;rw[KJ] at hl;obtain⟨t',ih⟩:=ih (ps++[.tup [.str (mkS (aC t p1)),.str (Txt.rstrip (mkS (aC t1 p2)))]]) (by rw[KR,Ln];omega)
  rw[Lj] at ih;have ht:=jt (b:=b) hB hg (L:=L) (o:=o) (t:=t) (res:=res) (ps:=ps) hz;rw[QK.mpr h0] at ht;have k1:=m1 (sgH L t o res ps []);have k2:=m2 (sgH L t1 o res ps [("m",.mat "HEADER_TOKEN_RE" t sp1),("name",.str (mkS (aC t p1)))]);have k3:=m3 (sgH L t1 o res ps [("m",.none),("name",.str (mkS (aC t p1)))]);have l1:(aC t p1).length<=16777216:=by have:=gV t p1;omega
  have l2:(aC t1 p2).length<=16777216:=by have:=gV t1 p2;omega
  have l4:(mkS (aC t1 p2)).cps.toList.length<=16777216:=l2;have l3:ps.length<16777216:=by omega
  refine⟨t',?_⟩;refine' R.whN hB ht (R.less ?zx ?zw) ih
  case zx=>wtm_at "m.xs"
  case zw=>wtm_at "m.csle"
 | @junk t t1 r h0 hz m1 h1 m2 hr ih =>
  intro ps hl;obtain⟨t',ih⟩:=ih ps hl;have ht:=jt (b:=b) hB hg (L:=L) (o:=o) (t:=t) (res:=res) (ps:=ps) hz;rw[QK.mpr h0] at ht;have k1:=m1 (sgH L t o res ps []);have k2:=m2 (sgH L t o res ps [("m",.none)]);have l0:t.cps.toList.length<=16777216:=by omega
  refine⟨t',?_⟩;refine' R.whN hB ht (R.less ?zx ?zw) ih
  case zx=>wtm_at "m.xs"
  case zw=>wtm_at "m.csle"
local macro_rules (kind:=PySem.W.tacticWtm_at_) | x=>bj x "m.eff" "R.app a r r ev r r ev rt r r len;abcfdeghijk"
theorem zJ{t:Str}{r:List (Str × Str)}(h:Shw c b t r)(h0:r≠[])(hl:r.length<=100):∃τ,RXs c b (sg0 dG [("header_values",.lst [.str t])]) dG.body (.ret (.lst [.lst (r.map fZ)])) τ:=by
 obtain⟨t',lp⟩:=zL (b:=b) hB hg (L:=.lst [.str t]) (o:=t) (res:=[]) h [] (by rw[LC];omega)
 rw[Mj] at lp;have l1:(r.map fZ).length<=16777216:=by rw[KN];omega
 have t1:(!(r.map fZ).isEmpty)=true:=by cases r with | nil=>exact absurd rfl h0 | cons=>rfl
 have fo:RFor c b ⟨[lvH],[.vars [("header_values",.lst [.str t]),("result",.own 1)],.list []]⟩ (tgOf hF) (bdOf hF) [.str t] .next ⟨[lvH],[.vars [("result",.own 1)],.list [.lst (r.map fZ)],.dead]⟩:=by
  refine' R.fN hB (.name ?za) (R.less ?zx ?zw) R.fNil
  case za=>wtm_at "m.set"
  case zx=>wtm_at "m.xs"
  case zw=>wtm_at "m.csle"
 clear lp;refine' Lh _ ?h
 case h=>wtm_at "m.xs"
end
end
section
noncomputable abbrev dH:Fn:=F_m 12 25
noncomputable abbrev fO:Fn:=F_m 12 3
noncomputable abbrev fM:Fn:=F_m 12 1
noncomputable abbrev fL:Fn:=F_m 12 2
noncomputable abbrev sio(buf:Str)(pos:Int):Cell:=.inst "StringIO" [("_StringIO__newline",.str "\n"),("_StringIO__buf",.str buf),("_StringIO__pos",.int pos)]
section
variable{c:Cx}{b:Nat}(hB:Wd c c.hb)(hg:aj c G)
include hB hg
theorem Gk{w:Str}:∃τ,RXs c b (sg0 kW [("n",.int 1),("what",.str w)]) kW.body (.ret (.int 1)) τ:=by
 refine' Lh _ ?h
 case h=>wtm_at "m.xs"
theorem z7{buf:Str}{pos:Int}{cs:List Cell}{i k:Nat}(hk:AtG c "StringIO" "_StringIO__buf")(h:(cs++[.vars [("self",.obj i)]])[i]?=some (sio buf pos))(h2:(cs++[.vars [("self",.obj i)]])[cs.length]?=some (.vars [("self",.obj i)])) :
  RXs c b ⟨[⟨fO.names,cs.length,[]⟩],cs++[.vars [("self",.obj i)]]⟩ fO.body .next ⟨[⟨fO.names,cs.length,[]⟩],cs++[.vars [("self",.obj i)]]⟩:=by
 show RXs c b _ [.If (.Compare (.Attribute (.Name _ _) _ _) _ [_] _) _ [] _] _ _;refine' R.xsCons (R.ifB ?t (.n rfl R.xsNil)) R.xsNil
 case t =>
  refine' R.trCmp rfl (R.attr rfl (R.name hg rfl (.loc ?n h2 ?l)) h hk ?a) R.cst0 (Cp.is_ Cp.noneS)
  case n =>
   show aget "self" fO.names=some .local
   decide +kernel
  case l=>wtm_at "m.look"
  case a=>wtm_at "m.look"
noncomputable abbrev sgRd(c0 c1 c2 c4 c5 c6 c7:Cell)(buf:Str)(pos:Int)(vs:List (Str × V)):Sg:=⟨[⟨dH.names,8,[]⟩],[c0,c1,c2,sio buf pos,c4,c5,c6,c7,.vars vs]⟩
structure km(c:Cx)(b:Nat):Prop where
 gb:AtG c "StringIO" "_StringIO__buf"
 gp:AtG c "StringIO" "_StringIO__pos"
 sp:AtS c "StringIO" "_StringIO__pos"
 ix:FnOk c b "_index" [.int 1,.str "StringIO.read of a size that is no exact int"] (.int 1)
theorem yV{c0 c1 c2 c4 c5 c6 c7:Cell}{buf:Str}{pos:Nat}(h:km c b)(hz:buf.cps.toList.length<=100000)(hp:pos+1<buf.cps.toList.length)
  (hc:MeOk c b "StringIO" "_StringIO__check" (sgRd c0 c1 c2 c4 c5 c6 c7 buf pos [("self",.obj 3),("size",.int 1)]).cs 3 [] .none (sgRd c0 c1 c2 c4 c5 c6 c7 buf pos [("self",.obj 3),("size",.int 1)]).cs) :
  RXs c b (sgRd c0 c1 c2 c4 c5 c6 c7 buf pos [("self",.obj 3),("size",.int 1)]) dH.body (.ret (.str (mkS (seg buf.cps.toList (some pos) (some (pos+1)))))) (sgRd c0 c1 c2 c4 c5 c6 c7 buf ((pos:Int)+1) []):=by
 obtain⟨g1,g2,g3,g4⟩:=h;have l0:buf.cps.toList.length<=16777216:=by omega
 have t1:decide (((buf.cps.toList.length:Nat):Int)<=(pos:Int))=false:=decide_eq_false (by omega)
 have t2:decide ((pos:Int)+1<((buf.cps.toList.length:Nat):Int))=true:=decide_eq_true (by omega)
 refine' R.less ?zx ?zw
 case zx=>wtm_at "m.xs"
 case zw=>wtm_at "m.csle"
theorem yU{c0 c1 c2 c4 c5 c6 c7:Cell}{buf:Str}{pos:Nat}(h:km c b)(hz:buf.cps.toList.length<=100000)(hp:pos+1=buf.cps.toList.length)
  (hc:MeOk c b "StringIO" "_StringIO__check" (sgRd c0 c1 c2 c4 c5 c6 c7 buf pos [("self",.obj 3),("size",.int 1)]).cs 3 [] .none (sgRd c0 c1 c2 c4 c5 c6 c7 buf pos [("self",.obj 3),("size",.int 1)]).cs) :
  RXs c b (sgRd c0 c1 c2 c4 c5 c6 c7 buf pos [("self",.obj 3),("size",.int 1)]) dH.body (.ret (.str (mkS (seg buf.cps.toList (some pos) (some buf.cps.toList.length))))) (sgRd c0 c1 c2 c4 c5 c6 c7 buf ((buf.cps.toList.length:Nat):Int) []):=by
 obtain⟨g1,g2,g3,g4⟩:=h;have l0:buf.cps.toList.length<=16777216:=by omega
 have t1:decide (((buf.cps.toList.length:Nat):Int)<=(pos:Int))=false:=decide_eq_false (by omega)
 have t2:decide ((pos:Int)+1<((buf.cps.toList.length:Nat):Int))=false:=decide_eq_false (by omega)
 refine' R.less ?zx ?zw
 case zx=>wtm_at "m.xs"
 case zw=>wtm_at "m.csle"
theorem yW{c0 c1 c2 c4 c5 c6 c7:Cell}{buf:Str}{pos:Nat}(h:km c b)(hz:buf.cps.toList.length<=100000)(hp:buf.cps.toList.length=pos)
  (hc:MeOk c b "StringIO" "_StringIO__check" (sgRd c0 c1 c2 c4 c5 c6 c7 buf pos [("self",.obj 3),("size",.int 1)]).cs 3 [] .none (sgRd c0 c1 c2 c4 c5 c6 c7 buf pos [("self",.obj 3),("size",.int 1)]).cs) :
  RXs c b (sgRd c0 c1 c2 c4 c5 c6 c7 buf pos [("self",.obj 3),("size",.int 1)]) dH.body (.ret (.str "")) (sgRd c0 c1 c2 c4 c5 c6 c7 buf pos []):=by
 obtain⟨g1,g2,g3,g4⟩:=h;have l0:buf.cps.toList.length<=16777216:=by omega
 have t1:decide (((buf.cps.toList.length:Nat):Int)<=(pos:Int))=true:=decide_eq_true (by omega)
 refine' R.less ?zx ?zw
 case zx=>wtm_at "m.xs"
 case zw=>wtm_at "m.csle"
end
end
section
noncomputable abbrev F_rt:Fn:=F_m 22 6
noncomputable abbrev shl(W:Str)(st:V)(tok:Str):List (Str × V) :=
 [("instream",.obj 3),("infile",.none),("posix",.bool true),("eof",.none),("commenters",.str ""),("wordchars",.str W),("whitespace",.str " \t\r\n"),("whitespace_split",.bool true),("quotes",.str "'\""),("escape",.str "\\"),("escapedquotes",.str "\""),
 ("state",st),("pushback",.deq),("lineno",.int 1),("debug",.int 0),("token",.str tok),("filestack",.deq),("source",.none),("_punctuation_chars",.str "")]
noncomputable abbrev shc(W:Str)(st:V)(tok:Str):Cell:=.inst "shlex" (shl W st tok)
structure ShOk(c:Cx)(b:Nat):Prop where
 g1:AtG c "shlex" "instream"
 g2:AtG c "shlex" "posix"
 g3:AtG c "shlex" "eof"
 g4:AtG c "shlex" "commenters"
 g5:AtG c "shlex" "wordchars"
 g6:AtG c "shlex" "whitespace"
 g7:AtG c "shlex" "whitespace_split"
 g8:AtG c "shlex" "quotes"
 g9:AtG c "shlex" "escape"
 g10:AtG c "shlex" "escapedquotes"
 g11:AtG c "shlex" "state"
 g12:AtG c "shlex" "debug"
 g13:AtG c "shlex" "token"
 s1:AtS c "shlex" "state"
 s2:AtS c "shlex" "token"
 pc:∀W st tok,AtP c b "shlex" "punctuation_chars" (shl W st tok) (.str "")
noncomputable abbrev rW:Stmt:=nthS F_rt.body 2
noncomputable abbrev sgR(c0 c2 c4 c5 c6:Cell)(W:Str)(st:V)(tok:Str)(buf:Str)(pos:Int)(q:Bool)(more:List (Str × V)):Sg :=
 ⟨[⟨F_rt.names,7,[]⟩],[c0,shc W st tok,c2,sio buf pos,c4,c5,c6,.vars (("self",.obj 1)::("quoted",.bool q)::("escapedstate",.str " ")::more)]⟩
abbrev RdOk(c:Cx)(b:Nat)(c0 c2 c4 c5 c6:Cell)(W:Str)(st:V)(tok:Str)(buf:Str)(pos:Int)(q:Bool)(ch:Str)(pos':Int):Prop :=
 MeOk c b "StringIO" "read" (sgR c0 c2 c4 c5 c6 W st tok buf pos q []).cs 3 [.int 1] (.str ch) (sgR c0 c2 c4 c5 c6 W st tok buf pos' q []).cs
section
variable{c:Cx}{b:Nat}(hB:Wd c c.hb)(hg:aj c G)
include hB hg
set_option maxHeartbeats 800000 in
theorem Ah{c0 c2 c4 c5 c6:Cell}{W tok buf:Str}{pos pos':Int}{q:Bool}{a:Nat}(h:ShOk c b)(hr:RdOk c b c0 c2 c4 c5 c6 W (.str "a") tok buf pos q (mkS [a]) pos')
  (n1:decide (mkS [a]="\n")=false) (n2:decide (a∈(" \t\r\n":Str).cps.toList)=false) (n3:decide (a∈("'\"":Str).cps.toList)=false) (n4:decide (a∈("\\":Str).cps.toList)=false) (hz:tok.cps.toList.length<=100000) :
  RXs c b (sgR c0 c2 c4 c5 c6 W (.str "a") tok buf pos q []) (bdOf rW) .next (sgR c0 c2 c4 c5 c6 W (.str "a") (mkS (tok.cps.toList++(mkS [a]).cps.toList)) buf pos' q []):=by
 obtain⟨g1,g2,g3,g4,g5,g6,g7,g8,g9,g10,g11,g12,g13,s1,s2,pc⟩:=h;have pc:=pc W (.str "a") tok;have sa:("a":Str).cps.toList=[97]:=by rfl'
 have sc:(mkS [a]).cps.toList=[a]:=rfl;have d1:decide (("a":Str)=" ")=false:=by rfl'
 have d2:decide (97∈("'\"":Str).cps.toList)=false:=by rfl'
 have d3:decide (97∈("\\":Str).cps.toList)=false:=by rfl'
 have d4:decide (a∈("":Str).cps.toList)=false:=decide_eq_false (by rw[show("":Str).cps.toList=[] by rfl'];exact λh=>nomatch h)
 have d5:decide (("a":Str)="c")=false:=by rfl'
 have d6:(!("":Str).cps.toList.isEmpty)=false:=by rfl'
 have d7:(["a","c"]:List Str).any (λz=>decide (z="a"))=true:=by rfl'
 have e1:(!!(mkS [a]).cps.toList.isEmpty)=false:=rfl;have d8:decide ((3:Int)<=0)=false:=by decide
 have d9:decide ((2:Int)<=0)=false:=by decide
 have w0:("":Str).cps.toList.length<=16777216:=by decide +kernel
 have w1:(mkS [a]).cps.toList.length<=16777216:=by show 1<=16777216;decide
 have w2:tok.cps.toList.length<=16777216:=by omega
 have z1:(tok.cps.toList++(mkS [a]).cps.toList).length<=sizeLine:=by show _<=16777216;rw[KR,toList_mkS,Ln];omega
 have d10:(!decide (a∈("":Str).cps.toList))=true:=by rw[d4];rfl
 cases hw:decide (a∈W.cps.toList) with
 | true =>
  refine' R.less ?zx ?zw
  case zx=>wtm_at "m.xs"
  case zw=>wtm_at "m.csle"
 | false =>
  refine' R.less ?zx ?zw
  case zx=>wtm_at "m.xs"
  case zw=>wtm_at "m.csle"
end
end
section
section
variable{c:Cx}{b:Nat}(hB:Wd c c.hb)(hg:aj c G)
include hB hg
set_option maxHeartbeats 800000 in
theorem Aj{c0 c2 c4 c5 c6:Cell}{W tok buf:Str}{pos pos':Int}{q:Bool}{a:Nat}(h:ShOk c b)(hr:RdOk c b c0 c2 c4 c5 c6 W (.str " ") tok buf pos q (mkS [a]) pos')(n1:decide (mkS [a]="\n")=false)(n2:decide (a∈(" \t\r\n":Str).cps.toList)=false)(n3:decide (a∈("'\"":Str).cps.toList)=false)(n4:decide (a∈("\\":Str).cps.toList)=false)(hz:tok.cps.toList.length<=100000) :
  RXs c b (sgR c0 c2 c4 c5 c6 W (.str " ") tok buf pos q []) (bdOf rW) .next (sgR c0 c2 c4 c5 c6 W (.str "a") (mkS [a]) buf pos' q []):=by
 obtain⟨g1,g2,g3,g4,g5,g6,g7,g8,g9,g10,g11,g12,g13,s1,s2,pc⟩:=h;have pc:=pc W (.str " ") tok;have d6:(!("":Str).cps.toList.isEmpty)=false:=by rfl'
 have d8:decide ((3:Int)<=0)=false:=by decide
 have d9:decide ((2:Int)<=0)=false:=by decide
 have w0:("":Str).cps.toList.length<=16777216:=by decide +kernel
 have w2:tok.cps.toList.length<=16777216:=by omega
 have sc:(mkS [a]).cps.toList=[a]:=rfl;have e1:(!!(mkS [a]).cps.toList.isEmpty)=false:=rfl;have w1:(mkS [a]).cps.toList.length<=16777216:=by show 1<=16777216;decide
 have d4:decide (a∈("":Str).cps.toList)=false:=decide_eq_false (by rw[show("":Str).cps.toList=[] by rfl'];exact λh=>nomatch h)
 have d10:(!decide (a∈("":Str).cps.toList))=true:=by rw[d4];rfl
 have z1:(tok.cps.toList++(mkS [a]).cps.toList).length<=sizeLine:=by show _<=16777216;rw[KR,toList_mkS,Ln];omega
 have d1:decide ((" ":Str)=" ")=true:=by rfl'
 cases hw:decide (a∈W.cps.toList) with
 | true =>
  refine' R.less ?zx ?zw
  case zx=>wtm_at "m.xs"
  case zw=>wtm_at "m.csle"
 | false =>
  refine' R.less ?zx ?zw
  case zx=>wtm_at "m.xs"
  case zw=>wtm_at "m.csle"
set_option maxHeartbeats 800000 in
theorem Ai{c0 c2 c4 c5 c6:Cell}{W tok buf:Str}{pos pos':Int}{q:Bool}{a:Nat}(h:ShOk c b)(hr:RdOk c b c0 c2 c4 c5 c6 W (.str " ") tok buf pos q (mkS [a]) pos')(n1:decide (mkS [a]="\n")=false)(n2:decide (a∈(" \t\r\n":Str).cps.toList)=false)(n3:decide (a∈("'\"":Str).cps.toList)=true)(n4:decide (a∈("\\":Str).cps.toList)=false)(n5:decide (a∈W.cps.toList)=false)(hz:tok.cps.toList.length<=100000) :
  RXs c b (sgR c0 c2 c4 c5 c6 W (.str " ") tok buf pos q []) (bdOf rW) .next (sgR c0 c2 c4 c5 c6 W (.str (mkS [a])) tok buf pos' q []):=by
 obtain⟨g1,g2,g3,g4,g5,g6,g7,g8,g9,g10,g11,g12,g13,s1,s2,pc⟩:=h;have pc:=pc W (.str " ") tok;have d6:(!("":Str).cps.toList.isEmpty)=false:=by rfl'
 have d8:decide ((3:Int)<=0)=false:=by decide
 have d9:decide ((2:Int)<=0)=false:=by decide
 have w0:("":Str).cps.toList.length<=16777216:=by decide +kernel
 have w2:tok.cps.toList.length<=16777216:=by omega
 have sc:(mkS [a]).cps.toList=[a]:=rfl;have e1:(!!(mkS [a]).cps.toList.isEmpty)=false:=rfl;have w1:(mkS [a]).cps.toList.length<=16777216:=by show 1<=16777216;decide
 have d4:decide (a∈("":Str).cps.toList)=false:=decide_eq_false (by rw[show("":Str).cps.toList=[] by rfl'];exact λh=>nomatch h)
 have d10:(!decide (a∈("":Str).cps.toList))=true:=by rw[d4];rfl
 have z1:(tok.cps.toList++(mkS [a]).cps.toList).length<=sizeLine:=by show _<=16777216;rw[KR,toList_mkS,Ln];omega
 have d1:decide ((" ":Str)=" ")=true:=by rfl'
 refine' R.less ?zx ?zw
 case zx=>wtm_at "m.xs"
 case zw=>wtm_at "m.csle"
set_option maxHeartbeats 800000 in
theorem rt_q{c0 c2 c4 c5 c6:Cell}{W tok buf:Str}{pos pos':Int}{q:Bool}{a:Nat}(h:ShOk c b)(hr:RdOk c b c0 c2 c4 c5 c6 W (.str "a") tok buf pos q (mkS [a]) pos')(n1:decide (mkS [a]="\n")=false)(n2:decide (a∈(" \t\r\n":Str).cps.toList)=false)(n3:decide (a∈("'\"":Str).cps.toList)=true)(hz:tok.cps.toList.length<=100000) :
  RXs c b (sgR c0 c2 c4 c5 c6 W (.str "a") tok buf pos q []) (bdOf rW) .next (sgR c0 c2 c4 c5 c6 W (.str (mkS [a])) tok buf pos' q []):=by
 obtain⟨g1,g2,g3,g4,g5,g6,g7,g8,g9,g10,g11,g12,g13,s1,s2,pc⟩:=h;have pc:=pc W (.str "a") tok;have d6:(!("":Str).cps.toList.isEmpty)=false:=by rfl'
 have d8:decide ((3:Int)<=0)=false:=by decide
 have d9:decide ((2:Int)<=0)=false:=by decide
 have w0:("":Str).cps.toList.length<=16777216:=by decide +kernel
 have w2:tok.cps.toList.length<=16777216:=by omega
 have sc:(mkS [a]).cps.toList=[a]:=rfl;have e1:(!!(mkS [a]).cps.toList.isEmpty)=false:=rfl;have w1:(mkS [a]).cps.toList.length<=16777216:=by show 1<=16777216;decide
 have d4:decide (a∈("":Str).cps.toList)=false:=decide_eq_false (by rw[show("":Str).cps.toList=[] by rfl'];exact λh=>nomatch h)
 have d10:(!decide (a∈("":Str).cps.toList))=true:=by rw[d4];rfl
 have z1:(tok.cps.toList++(mkS [a]).cps.toList).length<=sizeLine:=by show _<=16777216;rw[KR,toList_mkS,Ln];omega
 have sa:("a":Str).cps.toList=[97]:=by rfl'
 have d1:decide (("a":Str)=" ")=false:=by rfl'
 have d2:decide (97∈("'\"":Str).cps.toList)=false:=by rfl'
 have d3:decide (97∈("\\":Str).cps.toList)=false:=by rfl'
 have d5:decide (("a":Str)="c")=false:=by rfl'
 have d7:(["a","c"]:List Str).any (λz=>decide (z="a"))=true:=by rfl'
 refine' R.less ?zx ?zw
 case zx=>wtm_at "m.xs"
 case zw=>wtm_at "m.csle"
set_option maxHeartbeats 800000 in
theorem qO{c0 c2 c4 c5 c6:Cell}{W tok buf:Str}{pos pos':Int}{q:Bool}{a s:Nat}(h:ShOk c b)(hr:RdOk c b c0 c2 c4 c5 c6 W (.str (mkS [s])) tok buf pos q (mkS [a]) pos')(n1:decide (mkS [a]="\n")=false)(hs:decide (s∈("'\"":Str).cps.toList)=true)(m1:decide (mkS [s]=" ")=false)(m2:decide (mkS [a]=mkS [s])=false)(n4:decide (a∈("\\":Str).cps.toList)=false)(hz:tok.cps.toList.length<=100000) :
  RXs c b (sgR c0 c2 c4 c5 c6 W (.str (mkS [s])) tok buf pos q []) (bdOf rW) .next (sgR c0 c2 c4 c5 c6 W (.str (mkS [s])) (mkS (tok.cps.toList++(mkS [a]).cps.toList)) buf pos' true []):=by
 obtain⟨g1,g2,g3,g4,g5,g6,g7,g8,g9,g10,g11,g12,g13,s1,s2,pc⟩:=h;have pc:=pc W (.str (mkS [s])) tok;have d6:(!("":Str).cps.toList.isEmpty)=false:=by rfl'
 have d8:decide ((3:Int)<=0)=false:=by decide
 have d9:decide ((2:Int)<=0)=false:=by decide
 have w0:("":Str).cps.toList.length<=16777216:=by decide +kernel
 have w2:tok.cps.toList.length<=16777216:=by omega
 have sc:(mkS [a]).cps.toList=[a]:=rfl;have e1:(!!(mkS [a]).cps.toList.isEmpty)=false:=rfl;have w1:(mkS [a]).cps.toList.length<=16777216:=by show 1<=16777216;decide
 have d4:decide (a∈("":Str).cps.toList)=false:=decide_eq_false (by rw[show("":Str).cps.toList=[] by rfl'];exact λh=>nomatch h)
 have d10:(!decide (a∈("":Str).cps.toList))=true:=by rw[d4];rfl
 have z1:(tok.cps.toList++(mkS [a]).cps.toList).length<=sizeLine:=by show _<=16777216;rw[KR,toList_mkS,Ln];omega
 have ss:(mkS [s]).cps.toList=[s]:=rfl;refine' R.less ?zx ?zw
 case zx=>wtm_at "m.xs"
 case zw=>wtm_at "m.csle"
set_option maxHeartbeats 800000 in
theorem Av{c0 c2 c4 c5 c6:Cell}{W tok buf:Str}{pos pos':Int}{q:Bool}{a s:Nat}(h:ShOk c b)(hr:RdOk c b c0 c2 c4 c5 c6 W (.str (mkS [s])) tok buf pos q (mkS [a]) pos')(n1:decide (mkS [a]="\n")=false)(hs:decide (s∈("'\"":Str).cps.toList)=true)(m1:decide (mkS [s]=" ")=false)(m2:decide (mkS [a]=mkS [s])=false)(n4:decide (a∈("\\":Str).cps.toList)=true)(n5:decide (s∈("\"":Str).cps.toList)=false)(hz:tok.cps.toList.length<=100000) :
  RXs c b (sgR c0 c2 c4 c5 c6 W (.str (mkS [s])) tok buf pos q []) (bdOf rW) .next (sgR c0 c2 c4 c5 c6 W (.str (mkS [s])) (mkS (tok.cps.toList++(mkS [a]).cps.toList)) buf pos' true []):=by
 obtain⟨g1,g2,g3,g4,g5,g6,g7,g8,g9,g10,g11,g12,g13,s1,s2,pc⟩:=h;have pc:=pc W (.str (mkS [s])) tok;have d6:(!("":Str).cps.toList.isEmpty)=false:=by rfl'
 have d8:decide ((3:Int)<=0)=false:=by decide
 have d9:decide ((2:Int)<=0)=false:=by decide
 have w0:("":Str).cps.toList.length<=16777216:=by decide +kernel
 have w2:tok.cps.toList.length<=16777216:=by omega
 have sc:(mkS [a]).cps.toList=[a]:=rfl;have e1:(!!(mkS [a]).cps.toList.isEmpty)=false:=rfl;have w1:(mkS [a]).cps.toList.length<=16777216:=by show 1<=16777216;decide
 have d4:decide (a∈("":Str).cps.toList)=false:=decide_eq_false (by rw[show("":Str).cps.toList=[] by rfl'];exact λh=>nomatch h)
 have d10:(!decide (a∈("":Str).cps.toList))=true:=by rw[d4];rfl
 have z1:(tok.cps.toList++(mkS [a]).cps.toList).length<=sizeLine:=by show _<=16777216;rw[KR,toList_mkS,Ln];omega
 have ss:(mkS [s]).cps.toList=[s]:=rfl;refine' R.less ?zx ?zw
 case zx=>wtm_at "m.xs"
 case zw=>wtm_at "m.csle"
set_option maxHeartbeats 800000 in
theorem lV{c0 c2 c4 c5 c6:Cell}{W tok buf:Str}{pos pos':Int}{q:Bool}{s:Nat}(h:ShOk c b)(hr:RdOk c b c0 c2 c4 c5 c6 W (.str (mkS [s])) tok buf pos q (mkS [s]) pos')(n1:decide (mkS [s]="\n")=false)(hs:decide (s∈("'\"":Str).cps.toList)=true)(m1:decide (mkS [s]=" ")=false)(hz:tok.cps.toList.length<=100000) :
  RXs c b (sgR c0 c2 c4 c5 c6 W (.str (mkS [s])) tok buf pos q []) (bdOf rW) .next (sgR c0 c2 c4 c5 c6 W (.str "a") tok buf pos' true []):=by
 obtain⟨g1,g2,g3,g4,g5,g6,g7,g8,g9,g10,g11,g12,g13,s1,s2,pc⟩:=h;have pc:=pc W (.str (mkS [s])) tok;have d6:(!("":Str).cps.toList.isEmpty)=false:=by rfl'
 have d8:decide ((3:Int)<=0)=false:=by decide
 have d9:decide ((2:Int)<=0)=false:=by decide
 have w0:("":Str).cps.toList.length<=16777216:=by decide +kernel
 have w2:tok.cps.toList.length<=16777216:=by omega
 have sc:(mkS [s]).cps.toList=[s]:=rfl;have e1:(!!(mkS [s]).cps.toList.isEmpty)=false:=rfl;have w1:(mkS [s]).cps.toList.length<=16777216:=by show 1<=16777216;decide
 have m2:decide (mkS [s]=mkS [s])=true:=decide_eq_true rfl;refine' R.less ?zx ?zw
 case zx=>wtm_at "m.xs"
 case zw=>wtm_at "m.csle"
set_option maxHeartbeats 800000 in
theorem Ak{c0 c2 c4 c5 c6:Cell}{W tok buf:Str}{pos pos':Int}{q:Bool}{a:Nat}(h:ShOk c b)(hr:RdOk c b c0 c2 c4 c5 c6 W (.str "a") tok buf pos q (mkS [a]) pos')(n1:decide (mkS [a]="\n")=false)(n2:decide (a∈(" \t\r\n":Str).cps.toList)=true)(ht:(!tok.cps.toList.isEmpty)=true)(hz:tok.cps.toList.length<=100000) :
  RXs c b (sgR c0 c2 c4 c5 c6 W (.str "a") tok buf pos q []) (bdOf rW) .brk (sgR c0 c2 c4 c5 c6 W (.str " ") tok buf pos' q []):=by
 obtain⟨g1,g2,g3,g4,g5,g6,g7,g8,g9,g10,g11,g12,g13,s1,s2,pc⟩:=h;have pc:=pc W (.str "a") tok;have d6:(!("":Str).cps.toList.isEmpty)=false:=by rfl'
 have d8:decide ((3:Int)<=0)=false:=by decide
 have d9:decide ((2:Int)<=0)=false:=by decide
 have w0:("":Str).cps.toList.length<=16777216:=by decide +kernel
 have w2:tok.cps.toList.length<=16777216:=by omega
 have sc:(mkS [a]).cps.toList=[a]:=rfl;have e1:(!!(mkS [a]).cps.toList.isEmpty)=false:=rfl;have w1:(mkS [a]).cps.toList.length<=16777216:=by show 1<=16777216;decide
 have d4:decide (a∈("":Str).cps.toList)=false:=decide_eq_false (by rw[show("":Str).cps.toList=[] by rfl'];exact λh=>nomatch h)
 have d10:(!decide (a∈("":Str).cps.toList))=true:=by rw[d4];rfl
 have z1:(tok.cps.toList++(mkS [a]).cps.toList).length<=sizeLine:=by show _<=16777216;rw[KR,toList_mkS,Ln];omega
 have sa:("a":Str).cps.toList=[97]:=by rfl'
 have d1:decide (("a":Str)=" ")=false:=by rfl'
 have d2:decide (97∈("'\"":Str).cps.toList)=false:=by rfl'
 have d3:decide (97∈("\\":Str).cps.toList)=false:=by rfl'
 have d5:decide (("a":Str)="c")=false:=by rfl'
 have d7:(["a","c"]:List Str).any (λz=>decide (z="a"))=true:=by rfl'
 refine' R.less ?zx ?zw
 case zx=>wtm_at "m.xs"
 case zw=>wtm_at "m.csle"
set_option maxHeartbeats 800000 in
theorem Aw{c0 c2 c4 c5 c6:Cell}{W tok buf:Str}{pos pos':Int}{q:Bool}(h:ShOk c b)(hr:RdOk c b c0 c2 c4 c5 c6 W (.str "a") tok buf pos q "" pos')(hz:tok.cps.toList.length<=100000) :
  RXs c b (sgR c0 c2 c4 c5 c6 W (.str "a") tok buf pos q []) (bdOf rW) .brk (sgR c0 c2 c4 c5 c6 W (.none) tok buf pos' q []):=by
 obtain⟨g1,g2,g3,g4,g5,g6,g7,g8,g9,g10,g11,g12,g13,s1,s2,pc⟩:=h;have pc:=pc W (.str "a") tok;have d6:(!("":Str).cps.toList.isEmpty)=false:=by rfl'
 have d8:decide ((3:Int)<=0)=false:=by decide
 have d9:decide ((2:Int)<=0)=false:=by decide
 have w0:("":Str).cps.toList.length<=16777216:=by decide +kernel
 have w2:tok.cps.toList.length<=16777216:=by omega
 have e1:(!!("":Str).cps.toList.isEmpty)=true:=by rfl'
 have n1:decide (("":Str)="\n")=false:=by rfl'
 have sa:("a":Str).cps.toList=[97]:=by rfl'
 have d1:decide (("a":Str)=" ")=false:=by rfl'
 have d2:decide (97∈("'\"":Str).cps.toList)=false:=by rfl'
 have d3:decide (97∈("\\":Str).cps.toList)=false:=by rfl'
 have d5:decide (("a":Str)="c")=false:=by rfl'
 have d7:(["a","c"]:List Str).any (λz=>decide (z="a"))=true:=by rfl'
 refine' R.less ?zx ?zw
 case zx=>wtm_at "m.xs"
 case zw=>wtm_at "m.csle"
set_option maxHeartbeats 800000 in
theorem Aq{c0 c2 c4 c5 c6:Cell}{W tok buf:Str}{pos pos':Int}{q:Bool}(h:ShOk c b)(hr:RdOk c b c0 c2 c4 c5 c6 W (.none) tok buf pos q "" pos')(hz:tok.cps.toList.length<=100000) :
  RXs c b (sgR c0 c2 c4 c5 c6 W (.none) tok buf pos q []) (bdOf rW) .brk (sgR c0 c2 c4 c5 c6 W (.none) "" buf pos' q []):=by
 obtain⟨g1,g2,g3,g4,g5,g6,g7,g8,g9,g10,g11,g12,g13,s1,s2,pc⟩:=h;have pc:=pc W (.none) tok;have d6:(!("":Str).cps.toList.isEmpty)=false:=by rfl'
 have d8:decide ((3:Int)<=0)=false:=by decide
 have d9:decide ((2:Int)<=0)=false:=by decide
 have w0:("":Str).cps.toList.length<=16777216:=by decide +kernel
 have w2:tok.cps.toList.length<=16777216:=by omega
 have e1:(!!("":Str).cps.toList.isEmpty)=true:=by rfl'
 have n1:decide (("":Str)="\n")=false:=by rfl'
 refine' R.less ?zx ?zw
 case zx=>wtm_at "m.xs"
 case zw=>wtm_at "m.csle"
end
end
section
noncomputable abbrev low5(c0 c2 c4 c5 c6:Cell):Prop:=[c0,c2,c4,c5,c6].all (aD 8)=true
inductive bQ(c:Cx)(b:Nat)(W buf:Str):V->Str->Int->Bool->V->Str->Int->Bool->Prop
 | stop {st st':V} {tok tok':Str} {pos pos':Int} {q q':Bool}:(∀c0 c2 c4 c5 c6,low5 c0 c2 c4 c5 c6->RXs c b (sgR c0 c2 c4 c5 c6 W st tok buf pos q []) (bdOf rW) .brk (sgR c0 c2 c4 c5 c6 W st' tok' buf pos' q' []))->bQ c b W buf st tok pos q st' tok' pos' q'
 | step {st st1 st':V} {tok tok1 tok':Str} {pos pos1 pos':Int} {q q1 q':Bool}:(∀c0 c2 c4 c5 c6,low5 c0 c2 c4 c5 c6->RXs c b (sgR c0 c2 c4 c5 c6 W st tok buf pos q []) (bdOf rW) .next (sgR c0 c2 c4 c5 c6 W st1 tok1 buf pos1 q1 []))->bQ c b W buf st1 tok1 pos1 q1 st' tok' pos' q' ->
   bQ c b W buf st tok pos q st' tok' pos' q'
noncomputable abbrev F_gt:Fn:=F_m 22 5
noncomputable abbrev sgR0(c0 c2 c4 c5 c6:Cell)(W:Str)(st:V)(tok:Str)(buf:Str)(pos:Int)(vs:List (Str × V)):Sg:=⟨[⟨F_rt.names,7,[]⟩],[c0,shc W st tok,c2,sio buf pos,c4,c5,c6,.vars vs]⟩
noncomputable abbrev sgG(c0 c2 c4 c5:Cell)(W:Str)(st:V)(tok:Str)(buf:Str)(pos:Int)(vs:List (Str × V)):Sg:=⟨[⟨F_gt.names,6,[]⟩],[c0,shc W st tok,c2,sio buf pos,c4,c5,.vars vs]⟩
section
variable{c:Cx}{b:Nat}(hB:Wd c c.hb)(hg:aj c G)
include hB hg
theorem qN{W buf tok tok':Str}{st st':V}{pos pos':Int}{q q':Bool}(h:bQ c b W buf st tok pos q st' tok' pos' q'):∀c0 c2 c4 c5 c6,low5 c0 c2 c4 c5 c6->RWh c b (sgR c0 c2 c4 c5 c6 W st tok buf pos q []) (wtE rW) (bdOf rW) .next (sgR c0 c2 c4 c5 c6 W st' tok' buf pos' q' []):=by
 have ht:∀σ,RTr c b σ (wtE rW) true:=λσ=>by
  show RTr c b _ (.Constant (.bool true) _ _) _;wtm_at "m.tr"
 induction h with
 | stop h=>exact λc0 c2 c4 c5 c6 z=>R.whB hB (ht _) (h c0 c2 c4 c5 c6 z)
 | step h _ ih=>exact λc0 c2 c4 c5 c6 z=>R.whN hB (ht _) (h c0 c2 c4 c5 c6 z) (ih c0 c2 c4 c5 c6 z)
set_option maxHeartbeats 800000 in
theorem Ao{c0 c2 c4 c5 c6:Cell}{W buf tok':Str}{st st':V}{pos pos':Int}{q':Bool}(h:ShOk c b)(hr:bQ c b W buf st "" pos false st' tok' pos' q')(ht:decide (tok'="")=false)(hlow:low5 c0 c2 c4 c5 c6) :
  RXs c b (sgR0 c0 c2 c4 c5 c6 W st "" buf pos [("self",.obj 1)]) F_rt.body (.ret (.str tok')) (sgR0 c0 c2 c4 c5 c6 W st' "" buf pos' []):=by
 have lp:=qN hB hg hr c0 c2 c4 c5 c6 hlow;obtain⟨g1,g2,g3,g4,g5,g6,g7,g8,g9,g10,g11,g12,g13,s1,s2,pc⟩:=h;have d9:decide ((1:Int)<0)=false:=by decide
 cases q' with
 | true =>
  refine' R.less ?zx ?zw
  case zx=>wtm_at "m.xs"
  case zw=>wtm_at "m.csle"
 | false =>
  refine' R.less ?zx ?zw
  case zx=>wtm_at "m.xs"
  case zw=>wtm_at "m.csle"
set_option maxHeartbeats 800000 in
theorem Al{c0 c2 c4 c5 c6:Cell}{W buf:Str}{st st':V}{pos pos':Int}(h:ShOk c b)(hr:bQ c b W buf st "" pos false st' "" pos' false)(hlow:low5 c0 c2 c4 c5 c6) :
  RXs c b (sgR0 c0 c2 c4 c5 c6 W st "" buf pos [("self",.obj 1)]) F_rt.body (.ret .none) (sgR0 c0 c2 c4 c5 c6 W st' "" buf pos' []):=by
 have lp:=qN hB hg hr c0 c2 c4 c5 c6 hlow;obtain⟨g1,g2,g3,g4,g5,g6,g7,g8,g9,g10,g11,g12,g13,s1,s2,pc⟩:=h;have d9:decide ((1:Int)<0)=false:=by decide
 have ht:decide (("":Str)="")=true:=decide_eq_true rfl;refine' R.less ?zx ?zw
 case zx=>wtm_at "m.xs"
 case zw=>wtm_at "m.csle"
end
end
section
structure GtOk(c:Cx)(b:Nat):Prop where
 k1:AtG c "shlex" "pushback"
 k2:AtG c "shlex" "source"
 k3:AtG c "shlex" "filestack"
 deq:∀σ,Tp c b σ .deq false
noncomputable abbrev F_nx:Fn:=F_m 22 10
noncomputable abbrev gW:Stmt:=nthS F_gt.body 3
noncomputable abbrev sgN(c0 c2 c4:Cell)(W:Str)(st:V)(tok:Str)(buf:Str)(pos:Int)(vs:List (Str × V)):Sg:=⟨[⟨F_nx.names,5,[]⟩],[c0,shc W st tok,c2,sio buf pos,c4,.vars vs]⟩
section
variable{c:Cx}{b:Nat}(hB:Wd c c.hb)(hg:aj c G)
include hB hg
set_option maxHeartbeats 800000 in
theorem Gs{c0 c2 c4 c5:Cell}{W buf r:Str}{st st':V}{pos pos':Int}(h:ShOk c b)(k:GtOk c b)(hm:MeOk c b "shlex" "read_token" (sgG c0 c2 c4 c5 W st "" buf pos [("self",.obj 1)]).cs 1 [] (.str r) (sgG c0 c2 c4 c5 W st' "" buf pos' [("self",.obj 1)]).cs) :
  RXs c b (sgG c0 c2 c4 c5 W st "" buf pos [("self",.obj 1)]) F_gt.body (.ret (.str r)) (sgG c0 c2 c4 c5 W st' "" buf pos' []):=by
 obtain⟨g1,g2,g3,g4,g5,g6,g7,g8,g9,g10,g11,g12,g13,s1,s2,pc⟩:=h;obtain⟨k1,k2,k3,hq⟩:=k;have q1:=hq (sgG c0 c2 c4 c5 W st "" buf pos [("self",.obj 1)]);have d9:decide ((1:Int)<=0)=false:=by decide
 have lp:RWh c b (sgG c0 c2 c4 c5 W st' "" buf pos' [("self",.obj 1),("raw",.str r)]) (wtE gW) (bdOf gW) .next (sgG c0 c2 c4 c5 W st' "" buf pos' [("self",.obj 1),("raw",.str r)]):=by
  refine' R.whF ?zt
  case zt =>
   show RTr c b _ (.Compare _ _ _ _) _;wtm_at "m.tr"
 refine' R.less ?zx ?zw
 case zx=>wtm_at "m.xs"
 case zw=>wtm_at "m.csle"
set_option maxHeartbeats 800000 in
theorem Gq{c0 c2 c4 c5:Cell}{W buf:Str}{st st':V}{pos pos':Int}(h:ShOk c b)(k:GtOk c b)(hm:MeOk c b "shlex" "read_token" (sgG c0 c2 c4 c5 W st "" buf pos [("self",.obj 1)]).cs 1 [] .none (sgG c0 c2 c4 c5 W st' "" buf pos' [("self",.obj 1)]).cs) :
  RXs c b (sgG c0 c2 c4 c5 W st "" buf pos [("self",.obj 1)]) F_gt.body (.ret .none) (sgG c0 c2 c4 c5 W st' "" buf pos' []):=by
 obtain⟨g1,g2,g3,g4,g5,g6,g7,g8,g9,g10,g11,g12,g13,s1,s2,pc⟩:=h;obtain⟨k1,k2,k3,hq⟩:=k;have q1:=hq (sgG c0 c2 c4 c5 W st "" buf pos [("self",.obj 1)]);have q2:=hq (sgG c0 c2 c4 c5 W st' "" buf pos' [("self",.obj 1),("raw",.none)]);have lp:RWh c b (sgG c0 c2 c4 c5 W st' "" buf pos' [("self",.obj 1),("raw",.none)]) (wtE gW) (bdOf gW) (.ret .none) (sgG c0 c2 c4 c5 W st' "" buf pos' [("self",.obj 1),("raw",.none)]):=by
  refine' R.whR hB ?zt ?zb
  case zt =>
   show RTr c b _ (.Compare _ _ _ _) _;wtm_at "m.tr"
  case zb=>wtm_at "m.xs"
 refine' R.less ?zx ?zw
 case zx=>wtm_at "m.xs"
 case zw=>wtm_at "m.csle"
set_option maxHeartbeats 800000 in
theorem Dt{c0 c2 c4:Cell}{W buf r:Str}{st st':V}{pos pos':Int}(h:ShOk c b)(hm:MeOk c b "shlex" "get_token" (sgN c0 c2 c4 W st "" buf pos [("self",.obj 1)]).cs 1 [] (.str r) (sgN c0 c2 c4 W st' "" buf pos' [("self",.obj 1)]).cs) :
  RXs c b (sgN c0 c2 c4 W st "" buf pos [("self",.obj 1)]) F_nx.body (.ret (.str r)) (sgN c0 c2 c4 W st' "" buf pos' []):=by
 obtain⟨g1,g2,g3,g4,g5,g6,g7,g8,g9,g10,g11,g12,g13,s1,s2,pc⟩:=h;refine' R.less ?zx ?zw
 case zx=>wtm_at "m.xs"
 case zw=>wtm_at "m.csle"
end
end
section
structure oU(c:Cx):Prop where
 g1:AtG c "StringIO" "_StringIO__newline"
 s1:AtS c "StringIO" "_StringIO__newline"
 s2:AtS c "StringIO" "_StringIO__buf"
 s3:AtS c "StringIO" "_StringIO__pos"
section
variable{c:Cx}{b:Nat}(hB:Wd c c.hb)(hg:aj c G)
include hB hg
noncomputable abbrev sgI5(F:Fn)(c0 c1 c2 c3 c4:Cell)(vs:List (Str × V)):Sg:=⟨[⟨F.names,5,[]⟩],[c0,c1,c2,c3,c4,.vars vs]⟩
set_option maxHeartbeats 800000 in
theorem yJ{c0 c1 c2 c4:Cell}{buf s:Str}{pos:Int}(h:oU c) :
  RXs c b (sgI5 fL c0 c1 c2 (sio buf pos) c4 [("self",.obj 3),("s",.str s)]) fL.body (.ret (.str s)) (sgI5 fL c0 c1 c2 (sio buf pos) c4 []):=by
 obtain⟨g1,s1,s2,s3⟩:=h;have d1:decide (("\n":Str)="\r")=false:=by rfl'
 have d2:decide (("\n":Str)="\r\n")=false:=by rfl'
 refine' R.less ?zx ?zw
 case zx=>wtm_at "m.xs"
 case zw=>wtm_at "m.csle"
set_option maxHeartbeats 800000 in
theorem zE{c0 c1 c2:Cell}{s:Str}(h:oU c)
  (hm:MeOk c b "StringIO" "_StringIO__translated" [c0,c1,c2,sio "" 0,.vars [("self",.obj 3),("initial_value",.str s),("newline",.str "\n")]] 3 [.str s] (.str s) [c0,c1,c2,sio "" 0,.vars [("self",.obj 3),("initial_value",.str s),("newline",.str "\n")]]) :
  RXs c b ⟨[⟨fM.names,4,[]⟩],[c0,c1,c2,.inst "StringIO" [],.vars [("self",.obj 3),("initial_value",.str s),("newline",.str "\n")]]⟩ fM.body .next ⟨[⟨fM.names,4,[]⟩],[c0,c1,c2,sio s 0,.vars []]⟩:=by
 obtain⟨g1,s1,s2,s3⟩:=h;have d1:(!decide (("\n":Str)=""))=true:=by rfl'
 have d2:(!decide (("\n":Str)="\n"))=false:=by rfl'
 refine' R.less ?zx ?zw
 case zx=>wtm_at "m.xs"
 case zw=>wtm_at "m.csle"
end
end
section
noncomputable abbrev W0:Str:=mkS (("abcdfeghijklmnopqrstuvwxyzABCDEFGHIJKLMNOPQRSTUVWXYZ0123456789_":Str).cps.toList++("ßàáâãäåæçèéêëìíîïðñòóôõöøùúûüýþÿÀÁÂÃÄÅÆÇÈÉÊËÌÍÎÏÐÑÒÓÔÕÖØÙÚÛÜÝÞ":Str).cps.toList)
noncomputable abbrev fU:Fn:=F_m 22 0
structure ShIn(c:Cx)(b:Nat):Prop where
 a1:AtS c "shlex" "instream"
 a2:AtS c "shlex" "infile"
 a3:AtS c "shlex" "posix"
 a4:AtS c "shlex" "eof"
 a5:AtS c "shlex" "commenters"
 a6:AtS c "shlex" "wordchars"
 a7:AtS c "shlex" "whitespace"
 a8:AtS c "shlex" "whitespace_split"
 a9:AtS c "shlex" "quotes"
 a10:AtS c "shlex" "escape"
 a11:AtS c "shlex" "escapedquotes"
 a12:AtS c "shlex" "state"
 a13:AtS c "shlex" "pushback"
 a14:AtS c "shlex" "lineno"
 a15:AtS c "shlex" "debug"
 a16:AtS c "shlex" "token"
 a17:AtS c "shlex" "filestack"
 a18:AtS c "shlex" "source"
 a19:AtS c "shlex" "_punctuation_chars"
 g1:AtG c "shlex" "posix"
 g2:AtG c "shlex" "wordchars"
 dq:FnOk c b "deque" [] .deq
noncomputable abbrev shl0:List (Str × V) :=
 [("instream",.obj 3),("infile",.none),("posix",.bool true),("eof",.none),("commenters",.str "#"),("wordchars",.str W0),("whitespace",.str " \t\r\n"),("whitespace_split",.bool false),("quotes",.str "'\""),("escape",.str "\\"),("escapedquotes",.str "\""),
 ("state",.str " "),("pushback",.deq),("lineno",.int 1),("debug",.int 0),("token",.str ""),("filestack",.deq),("source",.none),("_punctuation_chars",.str "")]
local macro_rules (kind:=PySem.W.tacticWtm_at_) | x=>bj x "m.eff" "R.effCall a r name evs =R.kwNil A;bacdef"
section
variable{c:Cx}{b:Nat}(hB:Wd c c.hb)(hg:aj c G)
include hB hg
set_option maxHeartbeats 1600000 in
theorem Gn{c0:Cell}{s:Str}(h:ShIn c b)
  (hs:CmOk c b "StringIO" [c0,.inst "shlex" [],.vars [("self",.obj 1),("instream",.str s),("infile",.none),("posix",.bool true),("punctuation_chars",.bool false)]] [.str s] [] (.obj 3)
   [c0,.inst "shlex" [],.vars [("self",.obj 1),("instream",.str s),("infile",.none),("posix",.bool true),("punctuation_chars",.bool false)],sio s 0]) :
  RXs c b ⟨[⟨fU.names,2,[]⟩],[c0,.inst "shlex" [],.vars [("self",.obj 1),("instream",.str s),("infile",.none),("posix",.bool true),("punctuation_chars",.bool false)]]⟩ fU.body .next
   ⟨[⟨fU.names,2,[]⟩],[c0,.inst "shlex" shl0,.vars [],sio s 0]⟩:=by
 obtain⟨a1,a2,a3,a4,a5,a6,a7,a8,a9,a10,a11,a12,a13,a14,a15,a16,a17,a18,a19,g1,g2,dq⟩:=h;have d6:(!("":Str).cps.toList.isEmpty)=false:=by rfl'
 have w0:("":Str).cps.toList.length<=16777216:=by decide +kernel
 have z1:(("abcdfeghijklmnopqrstuvwxyzABCDEFGHIJKLMNOPQRSTUVWXYZ0123456789_":Str).cps.toList++("ßàáâãäåæçèéêëìíîïðñòóôõöøùúûüýþÿÀÁÂÃÄÅÆÇÈÉÊËÌÍÎÏÐÑÒÓÔÕÖØÙÚÛÜÝÞ":Str).cps.toList).length<=sizeLine:=by decide +kernel
 refine' R.less ?zx ?zw
 case zx=>wtm_at "m.xs"
 case zw=>wtm_at "m.csle"
end
end
section
noncomputable abbrev lvP:Lv:=⟨cW.names,0,[]⟩
noncomputable abbrev csP(s:Str):List Cell:=[.vars [("s",.str s),("comments",.bool false),("posix",.bool true),("lex",.obj 1)],shc W0 (.str " ") "",.vars [],sio s 0]
local macro_rules (kind:=PySem.W.tacticWtm_at_) | x=>bj x "m.kws" "^R.kwNil|~R.kwCons ev kws"
local macro_rules (kind:=PySem.W.tacticWtm_at_) | x=>bj x "m.eff" "R.effCall a r name evs kws A;bacdef"
local macro_rules (kind:=PySem.W.tacticWtm_at_) | x=>bj x "m.x" "R.xE A r"
section
variable{c:Cx}{b:Nat}(hB:Wd c c.hb)(hg:aj c G)
include hB hg
set_option maxHeartbeats 800000 in
theorem yX{s:Str}{ws:List Str}{τ:Sg}(h:ShIn c b)
  (hc:CmOk c b "shlex" [.vars [("s",.str s),("comments",.bool false),("posix",.bool true)]] [.str s] [("posix",.bool true)] (.obj 1) [.vars [("s",.str s),("comments",.bool false),("posix",.bool true)],.inst "shlex" shl0,.vars [],sio s 0])
  (hl:REff c b ⟨[lvP],csP s⟩ (retE (nthS cW.body 4)) (tv ws) τ) :
  ∃τ,RXs c b (sg0 cW [("s",.str s),("comments",.bool false),("posix",.bool true)]) cW.body (.ret (tv ws)) τ:=by
 have hx:RX c b ⟨[lvP],csP s⟩ (nthS cW.body 4) (.ret (tv ws)) τ:=by
  show RX c b _ (.Return (some _) _) _ _;exact R.retE hl
 have s1:=h.a8;have s2:=h.a5;refine' Lh _ ?zh
 case zh=>wtm_at "m.xs"
end
end
section
open PySem.Sre (Op ops accepts itemWidth)
structure Kn where
 code:Array Nat
 text:Array Nat
 lim:Nat
 ls:Nat
 wt:Bool
structure Fd where
 start:Nat
 handed:Nat
 marks:Array (Option Nat)
 lm:Int
 li:Int
structure Fs where
 frames:List Sre.Frame
 weight:Nat
 loops:Array Sre.Loop
 inner:Option Nat
noncomputable abbrev rst(K:Kn)(pc pos:Nat)(o:Bool)(A:Fd)(F:Fs)(x:Sre.Seen):Sre.M :=
 {code:=K.code,text:=K.text,lim:=K.lim,start:=A.start,lastStart:=K.ls,wholeText:=K.wt,mustAdvance:=false,pc:=pc,pos:=pos,handed:=A.handed,outermost:=o,marks:=A.marks,lastmark:=A.lm,lastindex:=A.li,
  loops:=F.loops,inner:=F.inner,frames:=F.frames,weight:=F.weight,answer:=none,seen:=x,outcome:=none}
noncomputable abbrev ran(b:Bool)(K:Kn)(pc pos:Nat)(o:Bool)(A:Fd)(F:Fs)(x:Sre.Seen):Sre.M:={rst K pc pos o A F x with answer:=some b}
noncomputable def its:Nat->Sre.M->Sre.M
 | 0,m=>m
 | n+1,m=>its n m.step
theorem gn(a b:Nat):∀m,its (a+b) m=its b (its a m):=by
 induction a with
 | zero=>intro m;rw[Lr];rfl
 | succ a ih=>intro m;rw[Nat.succ_add];exact ih m.step
theorem yP{m:Sre.M}(h:m.outcome.isSome=true):m.step=m:=by unfold Sre.M.step;rw[if_pos h]
theorem jM{m:Sre.M}(h:m.outcome.isSome=true):∀n,its n m=m:=by
 intro l_
 induction l_ with
 | zero=>exact rfl
 | succ n ih =>
  show its n m.step=m;rw[yP h];exact ih
theorem Af:∀(n:Nat) (m:Sre.M),m.runFor n=its n m:=by
 intro l_
 induction l_ with
 | zero=>exact λ_=>rfl
 | succ n ih =>
  intro m;show(if m.outcome.isSome=true then m else m.step.runFor n)=its (n+1) m
  by_cases h:m.outcome.isSome=true
  ·rw[if_pos h,jM h]
  ·rw[if_neg h];exact ih m.step
abbrev Ms:=Sre.Seen->Sre.M
def Go(k:Nat)(a b:Ms):Prop:=∀x,∃n y,n<=k/\its n (a x)=b y
theorem Go.trans{k l:Nat}{a b c:Ms}(h:Go k a b)(g:Go l b c):Go (k+l) a c:=λx=>by
 obtain⟨n,y,h1,h2⟩:=h x;obtain⟨m,z,g1,g2⟩:=g y;exact⟨n+m,z,MF h1 g1,by rw[gn,h2,g2]⟩
theorem Go.one{a b:Ms}(h:∀x,∃y,(a x).step=b y):Go 1 a b:=λx=>let ⟨y,e⟩:=h x;⟨1,y,K3 _,e⟩
structure End(k:Nat)(a:Ms)(P:Sre.M->Prop):Prop where
 run:∀x,∃n,n<=k/\(its n (a x)).outcome.isSome=true/\P (its n (a x))
theorem Go.ends{k l:Nat}{a b:Ms}{P:Sre.M->Prop}(h:Go k a b)(g:End l b P):End (k+l) a P:=⟨λx=>by
 obtain⟨n,y,h1,h2⟩:=h x;obtain⟨m,g1,g2⟩:=g.run y;exact⟨n+m,MF h1 g1,by rw[gn,h2];exact g2⟩⟩
theorem End.le{k l:Nat}{a:Ms}{P:Sre.M->Prop}(h:End k a P)(e:k<=l):End l a P:=⟨λx=>let ⟨n,h1,h2⟩:=h.run x;⟨n,KQ h1 e,h2⟩⟩
section
variable{K:Kn}{pc pos:Nat}{o:Bool}{A:Fd}{F:Fs}{x:Sre.Seen}{i n w:Nat}
theorem yO{m:Sre.M}(h1:m.outcome=none)(h2:m.answer=none)(h3:m.pc<m.code.size):m.step=m.exec:=by
 unfold Sre.M.step;rw[h1,h2];dsimp only;rw[if_neg (show ¬ (none:Option Sre.Outcome).isSome=true from NT),if_pos h3]
def Wd0(K:Kn)(pc:Nat)(op:Op):Prop:=pc<K.code.size/\ops[K.code.getD pc 0]?=some op
theorem Hn(h:Wd0 K pc op):(rst K pc pos o A F x).step=(rst K pc pos o A F x).exec:=yO rfl rfl h.1
noncomputable def mL:Op->Bool
 | .ANY | .LITERAL | .IN=>true
 | _=>false
def Acc(K:Kn)(i c:Nat)(b:Bool):Prop:=∀x,∃y,accepts K.code i c x=.ok (b,y)
theorem Ad(hy:∀j,j<w->Acc K i (K.text.getD (pos+j) 0) true)(hn:w<n->Acc K i (K.text.getD (pos+w) 0) false)(hw:w<=n):∀(f:Nat) (x:Sre.Seen),∃y,Sre.run K.code K.text i n pos f x=.ok (f+w,y):=by
 induction w generalizing n pos with
 | zero =>
  intro f x;cases n with
  | zero=>exact⟨x,rfl⟩
  | succ n =>
   obtain⟨y,e⟩:=hn (My _) x;refine⟨y,?_⟩;show(accepts K.code i (K.text.getD pos 0) x >>= _)=_;rw[show pos=pos+0 from rfl,e];rfl
 | succ w ih =>
  intro f x;obtain⟨n,rfl⟩:∃n',n=n'+1:=⟨n-1,(Rd (Lk (My _) hw)).symm⟩;obtain⟨y,e⟩:=hy 0 (My _) x;obtain⟨z,e2⟩:=ih (pos:=pos+1) (n:=n) (λj hj=>by have:=hy (j+1) (Rg hj);rwa [N8,LR]) (λh=>by have:=hn (Rg h);rwa [N8,LR]) (Qu hw) (f+1) y
  refine⟨z,?_⟩;show(accepts K.code i (K.text.getD pos 0) x >>= _)=_;rw[show pos=pos+0 from rfl,e];show Sre.run K.code K.text i n (pos+1) (f+1) y=_;rw[e2,LR,Mf 1 w]
noncomputable abbrev Fs.push(F:Fs)(f:Sre.Frame):Fs:=⟨f::F.frames,F.weight+1+f.kept.marks.size,F.loops,F.inner⟩
noncomputable abbrev Fd.at_(A:Fd)(p:Nat):Fd:=⟨A.start,p,A.marks,A.lm,A.li⟩
noncomputable abbrev Fy(b:Bool)(A:Fd):Sre.Kept:={lastmark:=A.lm,lastindex:=A.li,whole:=b,marks:=if b then A.marks.extract 0 (A.lm+1).toNat else #[]}
noncomputable abbrev bY(b:Bool)(pc pos:Nat)(o:Bool)(A:Fd)(c:Int):Sre.Frame:={wait:=.giveBack,pc:=pc,pos:=pos,outermost:=o,count:=c,kept:=Fy b A}
noncomputable abbrev vY(pc pos:Nat)(o:Bool):Sre.Frame:={wait:=.closeLoop,pc:=pc,pos:=pos,outermost:=o,loop:=0}
noncomputable abbrev dg(pc pos:Nat)(o:Bool)(A:Fd)(c:Int)(bg:Option Nat):Sre.Frame:={wait:=.maxMore,pc:=pc,pos:=pos,outermost:=o,loop:=0,count:=c,kept:={lastmark:=A.lm,lastindex:=A.li,whole:=true,marks:=A.marks.extract 0 (A.lm+1).toNat},began:=bg}
noncomputable abbrev pP(pc pos:Nat)(o:Bool)(lm li:Int)(c:Int):Sre.Frame:={wait:=.maxTail,pc:=pc,pos:=pos,outermost:=o,loop:=0,count:=c,kept:={lastmark:=lm,lastindex:=li,whole:=false,marks := #[]}}
theorem light{a b:Nat}(h:a<=1000000)(hb:b<=10):¬ (a+1+b>16777216):=by omega
def Does(op:Op)(K:Kn)(pc pos:Nat)(o:Bool)(A:Fd)(F:Fs)(x:Sre.Seen)(E:Sre.M):Prop:=match op with
 | .AT=>K.code.getD (pc+1) 0=0->∃y,E=match pos with | 0=>rst K (pc+2) 0 o A F y | p+1=>ran false K pc (p+1) o A F y
 | .MARK=>∀i:Nat,K.code.getD (pc+1) 0=i->(i:Int)<=A.lm+1->∃y,E=rst K (pc+2) pos o ⟨A.start,A.handed,A.marks.setIfInBounds i (some pos),max A.lm i,if i % 2==1 then (i / 2+1:Nat) else A.li⟩ F y
 | .ANY | .LITERAL | .IN=>(K.lim<=pos->∃y,E=ran false K pc pos o A F y)/\(pos<K.lim->∀b y,accepts K.code pc (K.text.getD pos 0) (x.add (K.code.getD pc 0))=.ok (b,y)->E=match b with | true=>rst K (pc+itemWidth K.code pc) (pos+1) o A F y | false=>ran false K pc pos o A F y)
 | .REPEAT_ONE=>K.code.getD (pc+3) 0=4294967295->(K.code.getD (pc+2) 0:Int)<=(K.lim:Int)-pos->A.marks.size<=4->F.weight<=1000000->∀w n,min 4294967295 ((K.lim:Int)-pos).toNat=n->(∀z,∃y,Sre.run K.code K.text (pc+4) n pos 0 z=.ok (w,y)) ->
   ∃y,E=match decide (w<K.code.getD (pc+2) 0) with | true=>ran false K pc pos o A F y | false=>rst K (pc+1+K.code.getD (pc+1) 0) (pos+w) o (A.at_ (pos+w)) (F.push (bY F.inner.isSome pc (pos+w) o A w)) y
 | .SUCCESS=>∃y,E=match o&&(K.wt&&pos != K.lim) with | true=>ran false K pc pos o A F y | false=>ran true K pc pos o (A.at_ pos) F y
 | .REPEAT=>F.loops = #[]->F.inner=none->F.weight<=1000000->∃y,E=rst K (pc+1+K.code.getD (pc+1) 0) pos o (A.at_ pos) ⟨vY pc pos o::F.frames,F.weight+1,#[{pc:=pc,outer:=none}],some 0⟩ y
 | .MAX_UNTIL=>∀(lp:Nat) (cnt:Int) (bg:Option Nat),F.loops = #[{pc:=lp,count:=cnt,began:=bg,outer:=none}]->F.inner=some 0->F.weight<=1000000->K.code.getD (lp+2) 0=0->K.code.getD (lp+3) 0=4294967295 -> -1<=cnt->(bg==some pos)=false->A.marks.size<=4 ->
   ∃y,E=rst K (lp+4) pos o (A.at_ pos) ⟨dg (pc+1) pos o A (cnt+1) bg::F.frames,F.weight+1+(A.marks.extract 0 (A.lm+1).toNat).size,#[{pc:=lp,count:=cnt+1,began:=some pos,outer:=none}],some 0⟩ y
 | _=>True
theorem does(h:Wd0 K pc op):Does op K pc pos o A F x (rst K pc pos o A F x).exec:=by
 obtain⟨ff,fw,fl,fi⟩:=F;unfold Sre.M.exec;rw[show ops[(rst K pc pos o A ⟨ff,fw,fl,fi⟩ x).word 0]?=some op from h.2];have one:∀E:Sre.M,E=(if pos≥K.lim then ran false K pc pos o A ⟨ff,fw,fl,fi⟩ (x.add (K.code.getD pc 0)) else match accepts K.code pc (K.text.getD pos 0) (x.add (K.code.getD pc 0)) with
   | .error why=>(rst K pc pos o A ⟨ff,fw,fl,fi⟩ (x.add (K.code.getD pc 0))).stick why
   | .ok (false,y)=>ran false K pc pos o A ⟨ff,fw,fl,fi⟩ y
   | .ok (true,y)=>rst K (pc+itemWidth K.code pc) (pos+1) o A ⟨ff,fw,fl,fi⟩ y)->(K.lim<=pos->∃y,E=ran false K pc pos o A ⟨ff,fw,fl,fi⟩ y)/\(pos<K.lim->∀b y,accepts K.code pc (K.text.getD pos 0) (x.add (K.code.getD pc 0))=.ok (b,y)->E=match b with | true=>rst K (pc+itemWidth K.code pc) (pos+1) o A ⟨ff,fw,fl,fi⟩ y | false=>ran false K pc pos o A ⟨ff,fw,fl,fi⟩ y):=λE e=>by
  subst e;refine⟨λhp=>⟨_,if_pos hp⟩,λhp b y e=>?_⟩;rw[if_neg (Nat.not_le.mpr hp),e];cases b <;> rfl
 cases op <;> first
  | exact trivial
  | exact one _ rfl
  | skip
 case AT =>
  intro h1;have e1:∀s,(Sre.M.word {rst K pc pos o A ⟨ff,fw,fl,fi⟩ x with seen:=s} 1)=0:=λ_=>h1
  dsimp only;rw[e1];cases pos <;> exact⟨_,rfl⟩
 case MARK =>
  intro i h1 hi;have e1:∀s,(Sre.M.word {rst K pc pos o A ⟨ff,fw,fl,fi⟩ x with seen:=s} 1)=i:=λ_=>h1
  dsimp only;rw[e1];unfold Sre.M.mark;dsimp only;rw[if_pos hi];exact⟨_,rfl⟩
 case SUCCESS =>
  show ∃y,(if (o&&(K.wt&&pos != K.lim||false))=true then ran false K pc pos o A ⟨ff,fw,fl,fi⟩ (x.add (K.code.getD pc 0)) else ran true K pc pos o (A.at_ pos) ⟨ff,fw,fl,fi⟩ (x.add (K.code.getD pc 0)))=_
  rw[Bool.or_false];cases o&&(K.wt&&pos != K.lim) <;> exact⟨_,rfl⟩
 case REPEAT_ONE =>
  clear one;intro h3 h2 hi hw w n hn hr;have e1:∀s k,(Sre.M.word {rst K pc pos o A ⟨ff,fw,fl,fi⟩ x with seen:=s} k)=K.code.getD (pc+k) 0:=λ_ _=>rfl
  dsimp only;rw[e1,e1,e1,h3,if_neg (Q6.mpr h2)];rw[show min (if false=true then K.code.getD (pc+2) 0 else 4294967295) ((K.lim:Int)-(pos:Int)).toNat=n from hn];generalize Sre.Seen.add (Sre.Seen.add x _) _=z;obtain⟨y,e2⟩:=hr z;rw[e2];cases hd:decide (w<K.code.getD (pc+2) 0) with
  | true=>dsimp only;rw[if_pos (of_decide_eq_true hd)];exact⟨y,rfl⟩
  | false =>
   dsimp only;rw[if_neg (of_decide_eq_false hd)];unfold Sre.M.afterRun Sre.M.attempt;refine⟨y,if_neg (light hw ?_)⟩;show(if fi.isSome=true then A.marks.extract 0 (A.lm+1).toNat else #[]).size<=10
   by_cases q:fi.isSome=true
   ·rw[if_pos q,Qj];omega
   ·rw[if_neg q];exact K5 _
 case REPEAT =>
  intro hl hi hw;obtain rfl:fl=_:=hl;obtain rfl:fi=_:=hi;unfold Sre.M.attempt;exact⟨_,if_neg (light hw (K5 _))⟩
 case MAX_UNTIL =>
  clear one;intro lp cnt bg hl hi hw h2 h3 hc hb hm;obtain rfl:fl=_:=hl;obtain rfl:fi=_:=hi;dsimp only;unfold Sre.M.until_;have e1:∀(m:Sre.M),m.loops = #[{pc:=lp,count:=cnt,began:=bg,outer:=none}]->m.loopAt 0={pc:=lp,count:=cnt,began:=bg,outer:=none}:=λm e=>by unfold Sre.M.loopAt;rw[e];rfl
  dsimp only;rw[e1 _ rfl];dsimp only;rw[h2,h3,if_neg (by omega),if_neg (by decide),if_pos (by simp[bne,hb,Sre.maxRepeat])]
  unfold Sre.M.round Sre.M.attempt;rw[e1 _ rfl];refine⟨_,if_neg (light hw ?_)⟩;show(A.marks.extract 0 (A.lm+1).toNat).size<=10;rw[Qj];omega
end
end
section
open PySem.Sre (Op ops accepts itemWidth)
noncomputable abbrev nsF(pc pos:Nat)(o:Bool):Sre.Frame:={wait:=.nextStart,pc:=pc,pos:=pos,outermost:=o}
section
variable{K:Kn}{pc pos:Nat}{o:Bool}{A:Fd}{F:Fs}{x:Sre.Seen}{i n w:Nat}{r:List Sre.Frame}{l:Array Sre.Loop}{u:Option Nat}{pc' pos' s:Nat}{o':Bool}{c lm li:Int}
theorem Go.does{op:Op}{b:Ms}(h:Wd0 K pc op)(g:∀x E,Does op K pc pos o A F x E->∃y,E=b y):Go 1 (rst K pc pos o A F) b:=.one λx=>by
 rw[Hn h];exact g x _ (Mine.does h)
theorem gw(h:Wd0 K pc .AT)(h1:K.code.getD (pc+1) 0=0):Go 1 (rst K pc 0 o A F) (rst K (pc+2) 0 o A F):=.does h λx E g=>g h1
theorem GC{p:Nat}(h:Wd0 K pc .AT)(h1:K.code.getD (pc+1) 0=0):Go 1 (rst K pc (p+1) o A F) (ran false K pc (p+1) o A F):=.does h λx E g=>g h1
theorem cG(h:Wd0 K pc .MARK)(h1:K.code.getD (pc+1) 0=i)(hi:(i:Int)<=A.lm+1) :
  Go 1 (rst K pc pos o A F) (rst K (pc+2) pos o ⟨A.start,A.handed,A.marks.setIfInBounds i (some pos),max A.lm i,if i % 2==1 then (i / 2+1:Nat) else A.li⟩ F):=.does h λx E g=>g i h1 hi
theorem oh{op:Op}{E:Sre.M}(ho:mL op=true)(g:Does op K pc pos o A F x E):(K.lim<=pos->∃y,E=ran false K pc pos o A F y)/\(pos<K.lim->∀b y,accepts K.code pc (K.text.getD pos 0) (x.add (K.code.getD pc 0))=.ok (b,y)->E=match b with | true=>rst K (pc+itemWidth K.code pc) (pos+1) o A F y | false=>ran false K pc pos o A F y):=by
 cases op <;> first | exact g | cases ho
theorem cD{op:Op}(h:Wd0 K pc op)(ho:mL op=true)(hp:pos<K.lim)(ha:Acc K pc (K.text.getD pos 0) true):Go 1 (rst K pc pos o A F) (rst K (pc+itemWidth K.code pc) (pos+1) o A F):=.does h λx E g=>by
 obtain⟨y,e⟩:=ha (x.add (K.code.getD pc 0));exact⟨y,(oh ho g).2 hp _ _ e⟩
theorem iB{op:Op}(h:Wd0 K pc op)(ho:mL op=true)(ha:pos<K.lim->Acc K pc (K.text.getD pos 0) false):Go 1 (rst K pc pos o A F) (ran false K pc pos o A F):=.does h λx E g=>by
 by_cases hp:pos<K.lim
 ·obtain⟨y,e⟩:=ha hp (x.add (K.code.getD pc 0))
  exact⟨y,(oh ho g).2 hp _ _ e⟩
 ·exact(oh ho g).1 (MT.mp hp)
theorem uo{j:Nat}(h:Wd0 K pc .REPEAT_ONE)(h2:K.code.getD (pc+2) 0=j)(h3:K.code.getD (pc+3) 0=4294967295)(hl:pos+w<=K.lim)(hj:pos+j<=K.lim)(hL:K.lim<=100000)(hi:A.marks.size<=4)(hF:F.weight<=1000000)
  (hy:∀j,j<w->Acc K (pc+4) (K.text.getD (pos+j) 0) true) (hn:pos+w<K.lim->Acc K (pc+4) (K.text.getD (pos+w) 0) false) :
  Go 1 (rst K pc pos o A F) (λy=>match decide (w<j) with | true=>ran false K pc pos o A F y | false=>rst K (pc+1+K.code.getD (pc+1) 0) (pos+w) o (A.at_ (pos+w)) (F.push (bY F.inner.isSome pc (pos+w) o A w)) y):=.does h λx E g=>by
 subst h2;refine g h3 (Int.le_sub_left_of_add_le (Qe.mpr hj)) hi hF w (K.lim-pos) (by rw[Int.toNat_sub];exact Qo (KQ (MP _ _) (KQ hL (by decide)))) λz=>?_
 obtain⟨y,e⟩:=Ad (K:=K) (i:=pc+4) (pos:=pos) (w:=w) (n:=K.lim-pos) hy (λhh=>hn (by omega)) (by omega) 0 z
 exact⟨y,by rw[e,Lr]⟩
theorem bN{j:Nat}(h:Wd0 K pc .REPEAT_ONE)(h2:K.code.getD (pc+2) 0=j)(h3:K.code.getD (pc+3) 0=4294967295)(h1:pc+1+K.code.getD (pc+1) 0=i)(hj:j<=w)(hl:pos+w<=K.lim)(hL:K.lim<=100000)(hi:A.marks.size<=4)(hF:F.weight<=1000000)
  (hy:∀j,j<w->Acc K (pc+4) (K.text.getD (pos+j) 0) true) (hn:pos+w<K.lim->Acc K (pc+4) (K.text.getD (pos+w) 0) false) :
  Go 1 (rst K pc pos o A F) (rst K i (pos+w) o (A.at_ (pos+w)) (F.push (bY F.inner.isSome pc (pos+w) o A w))):=by
 have:=uo (o:=o) (A:=A) h h2 h3 hl (by omega) hL hi hF hy hn
 rw[decide_eq_false (MT.mpr hj)] at this;subst h1;exact this
theorem ur{j:Nat}(h:Wd0 K pc .REPEAT_ONE)(h2:K.code.getD (pc+2) 0=j)(h3:K.code.getD (pc+3) 0=4294967295)(hw:w<j)(hl:pos+w<=K.lim)(hj:pos+j<=K.lim)(hL:K.lim<=100000)(hi:A.marks.size<=4)(hF:F.weight<=1000000)
  (hy:∀j,j<w->Acc K (pc+4) (K.text.getD (pos+j) 0) true) (hn:pos+w<K.lim->Acc K (pc+4) (K.text.getD (pos+w) 0) false) :
  Go 1 (rst K pc pos o A F) (ran false K pc pos o A F):=by
 have:=uo (o:=o) (A:=A) h h2 h3 hl hj hL hi hF hy hn;rw[decide_eq_true hw] at this;exact this
theorem dZ(h:Wd0 K pc .SUCCESS)(hw:(o&&(K.wt&&pos != K.lim))=false):Go 1 (rst K pc pos o A F) (ran true K pc pos o (A.at_ pos) F):=.does h λx E g=>by
 have g:∃y,E=match o&&(K.wt&&pos != K.lim) with | true=>ran false K pc pos o A F y | false=>ran true K pc pos o (A.at_ pos) F y:=g
 rw[hw] at g;exact g
theorem uq(h:Wd0 K pc .SUCCESS)(hw:(o&&(K.wt&&pos != K.lim))=true):Go 1 (rst K pc pos o A F) (ran false K pc pos o A F):=.does h λx E g=>by
 have g:∃y,E=match o&&(K.wt&&pos != K.lim) with | true=>ran false K pc pos o A F y | false=>ran true K pc pos o (A.at_ pos) F y:=g
 rw[hw] at g;exact g
theorem yN{b:Bool}{f:Sre.Frame}:(ran b K pc pos o A ⟨f::r,w,l,u⟩ x).step=Sre.M.resume (rst K f.pc f.pos f.outermost A ⟨r,w-(1+f.kept.marks.size),l,u⟩ x) f b:=by
 unfold Sre.M.step;rw[if_neg (by simp)]
theorem Go.res{b:Bool}{f:Sre.Frame}{t:Ms}(g:∀x,∃y,Sre.M.resume (rst K f.pc f.pos f.outermost A ⟨r,w-(1+f.kept.marks.size),l,u⟩ x) f b=t y):Go 1 (ran b K pc pos o A ⟨f::r,w,l,u⟩) t:=.one λx=>by
 rw[yN];exact g x
theorem sW(hw:w<=1000000):¬ (w-(1+(#[]:Array (Option Nat)).size)+1+0>16777216):=by
 show ¬ (w-(1+0)+1+0>16777216);omega
theorem iC{A':Fd}(hc:c-1<K.code.getD (pc'+2) 0) :
  Go 1 (ran false K pc pos o A ⟨bY false pc' pos' o' A' c::r,w,l,u⟩) (ran false K pc' pos' o' ⟨A.start,A.handed,A.marks,A'.lm,A'.li⟩ ⟨r,w-1,l,u⟩):=.res λx=>⟨x,if_pos hc⟩
theorem Gz{A':Fd}(hc:¬ (c-1<K.code.getD (pc'+2) 0))(h1:pc'+1+K.code.getD (pc'+1) 0=i)(hw:w<=1000000) :
  Go 1 (ran false K pc pos o A ⟨bY false pc' pos' o' A' c::r,w,l,u⟩) (rst K i (pos'-1) o' ⟨A.start,pos'-1,A.marks,A'.lm,A'.li⟩ ⟨bY false pc' (pos'-1) o' A' (c-1)::r,w-1+1,l,u⟩):=.res λx=>by
 subst h1;exact⟨x,(if_neg hc).trans (if_neg (sW hw))⟩
theorem jR(hs:s<K.ls)(hf:∀m:Sre.M,m.code=K.code->m.hasFirstSet=false)(hw:w<=1000000) :
  Go 1 (ran false K pc pos o A ⟨nsF pc' s o'::r,w,l,u⟩) (rst K pc' (s+1) false ⟨s+1,s+1,A.marks,-1,-1⟩ ⟨nsF pc' (s+1) false::r,w-1+1,l,u⟩):=.res λx=>by
 refine⟨x,(if_pos hs).trans ?_⟩;unfold Sre.M.attemptFrom;rw[if_pos (by rw[hf _ rfl];rfl)]
 exact if_neg (sW hw)
theorem nH(hs:¬ s<K.ls):Go 1 (ran false K pc pos o A ⟨nsF pc' s o'::r,w,l,u⟩) (ran false K pc' s o' A ⟨r,w-1,l,u⟩):=.res λx=>⟨x,if_neg hs⟩
theorem Gw{A':Fd}{bg:Option Nat}{lp:Nat}{cn:Int}{b0:Option Nat}(hw:w<=1000000) :
  Go 1 (ran false K pc pos o A ⟨dg pc' pos' o' A' c bg::r,w,#[{pc:=lp,count:=cn,began:=b0,outer:=none}],u⟩)
   (rst K pc' pos' o' ⟨A.start,pos',A'.marks.extract 0 (A'.lm+1).toNat++A.marks.extract (A'.marks.extract 0 (A'.lm+1).toNat).size A.marks.size,A'.lm,A'.li⟩ ⟨pP pc' pos' o' A'.lm A'.li c::r,w-(1+(A'.marks.extract 0 (A'.lm+1).toNat).size)+1,#[{pc:=lp,count:=c-1,began:=bg,outer:=none}],none⟩) :=
 .res λx=>⟨x,if_neg (MT.mpr (KQ (Mm (KQ (MP _ _) hw)) (by decide)))⟩
theorem fails:End 1 (ran false K pc pos o A ⟨[],w,l,u⟩) λm=>m.outcome=some .failed:=⟨λx=>⟨1,K3 _,rfl,rfl⟩⟩
structure Found(s e:Nat)(marks:Array (Option Nat))(lm li:Int)(m:Sre.M):Prop where
 out:m.outcome=some .matched
 start:m.start=s
 handed:m.handed=e
 marks:m.marks=marks
 lm:m.lastmark=lm
 li:m.lastindex=li
noncomputable def yesF(f:Sre.Frame):Bool:=match f.wait with
 | .nextStart | .giveBack | .closeLoop | .maxMore | .maxTail=>true
 | _=>false
theorem Gv{f:Sre.Frame}(hf:yesF f=true):∃w' l' u',Go 1 (ran true K pc pos o A ⟨f::r,w,l,u⟩) (ran true K f.pc f.pos f.outermost A ⟨r,w',l',u'⟩):=by
 obtain⟨wt,a1,a2,a3,a4,a5,a6,a7⟩:=f;cases wt <;> first
  | exact Bool.noConfusion (show false=true from hf)
  | exact⟨_,_,_,.res λx=>⟨x,rfl⟩⟩
  | exact⟨_,l.pop,(l.getD a6 {pc:=0,outer:=none}).outer,.res λx=>⟨x,rfl⟩⟩
  | exact⟨_,l.modify a6 λl=>{l with began:=a7},u,.res λx=>⟨x,rfl⟩⟩
  | exact⟨_,l,some a6,.res λx=>⟨x,rfl⟩⟩
theorem dR:∀(r:List Sre.Frame) (pc pos:Nat) (o:Bool) (w:Nat) (l:Array Sre.Loop) (u:Option Nat),r.all yesF=true->End (r.length+1) (ran true K pc pos o A ⟨r,w,l,u⟩) (Found A.start A.handed A.marks A.lm A.li):=by
 intro l_
 induction l_ with
 | nil=>exact λ_ _ _ _ _ _ _=>⟨λx=>⟨1,K3 _,rfl,⟨rfl,rfl,rfl,rfl,rfl,rfl⟩⟩⟩
 | cons f r ih =>
  intro pc pos o w l u h;rw[Lw,Lx] at h;obtain⟨w',l',u',g⟩:=Gv (K:=K) (pc:=pc) (pos:=pos) (o:=o) (A:=A) (r:=r) (w:=w) (l:=l) (u:=u) h.1;exact(g.ends (ih _ _ _ _ _ _ h.2)).le (LK (Mf _ _))
theorem wD{n:Nat}(ha:Wd0 K pc .AT)(h1:K.code.getD (pc+1) 0=0)(hf:∀m:Sre.M,m.code=K.code->m.hasFirstSet=false)
  (ih:∀n',n=n'+1->∀(s:Nat) (o:Bool) (A:Fd) (w:Nat),K.ls<=s+1+n'->w<=1000000->End (2*n'+3) (rst K pc (s+1) o A ⟨[nsF pc (s+1) o],w,l,u⟩) λm=>m.outcome=some .failed)
  (s:Nat) (o:Bool) (A:Fd) (w:Nat) (hn:K.ls<=s+1+n) (hw:w<=1000000):End (2*n+3) (rst K pc (s+1) o A ⟨[nsF pc (s+1) o],w,l,u⟩) λm=>m.outcome=some .failed:=by
 have g1:=GC (K:=K) (pc:=pc) (p:=s) (o:=o) (A:=A) (F:=⟨[nsF pc (s+1) o],w,l,u⟩) ha h1
 by_cases hs:s+1<K.ls
 ·cases n with
  | zero=>exact absurd hs (MT.mpr hn)
  | succ n=>exact((g1.trans (jR hs hf hw)).ends (ih n rfl (s+1) false _ _ (by rw[LR,Mf 1 n];exact hn) (KQ (by cases w <;> simp) (Qq.mpr ⟨hw,(by decide:1<=1000000)⟩)))).le (by omega)
 ·exact((g1.trans (nH hs)).ends fails).le (by omega)
theorem oM(ha:Wd0 K pc .AT)(h1:K.code.getD (pc+1) 0=0)(hf:∀m:Sre.M,m.code=K.code->m.hasFirstSet=false):∀(n s:Nat) (o:Bool) (A:Fd) (w:Nat),K.ls<=s+1+n->w<=1000000 ->
  End (2*n+3) (rst K pc (s+1) o A ⟨[nsF pc (s+1) o],w,l,u⟩) λm=>m.outcome=some .failed
 | 0=>wD ha h1 hf λ_ h=>nomatch h
 | n+1=>wD ha h1 hf λ_ h=>Nat.succ.inj h▸oM ha h1 hf n
theorem wF(ha:Wd0 K pc' .AT)(h1:K.code.getD (pc'+1) 0=0)(hf:∀m:Sre.M,m.code=K.code->m.hasFirstSet=false)(hl:K.ls<=100000)(hw:w<=100000) :
  End 300000 (ran false K pc pos o A ⟨[nsF pc' s o'],w,l,u⟩) λm=>m.outcome=some .failed:=by
 by_cases hs:s<K.ls
 ·exact((jR hs hf (by omega)).ends (oM ha h1 hf K.ls s false _ _ (by omega) (by omega))).le (by omega)
 ·exact((nH hs).ends fails).le (by omega)
end
end
section
open PySem.Sre (Op ops accepts itemWidth)
noncomputable abbrev Sig:List Nat:=[32,34,39,59,61,92,98,107,110]
noncomputable def okIs(r:Except String (Bool × Sre.Seen))(b:Bool):Bool:=match r with
 | .ok (a,_)=>a==b
 | .error _=>false
theorem rM{r:Except String (Bool × Sre.Seen)}{b:Bool}(h:okIs r b=true):∃y,r=.ok (b,y):=by
 cases r with
 | ok p=>exact⟨p.2,by rw[<-eq_of_beq (show(p.1==b)=true from h)]⟩
 | error=>cases h
noncomputable abbrev yesS:Sre.Seen->Bool:=λ_=>true
noncomputable def takes(code:Array Nat)(i:Nat)(l:List Nat):Sre.Seen->Bool:=λx=>Sig.all λc=>okIs (accepts code i c x) (l.contains c)
theorem acc{K:Kn}{i c:Nat}{l:List Nat}(h:takes K.code i l=yesS)(hc:c∈Sig):Acc K i c (l.contains c):=λx=>rM (La.mp (congrFun h x) c hc)
end
section
open PySem.Sre (Op ops accepts itemWidth)
noncomputable abbrev cT:Array Nat := #[14,4,0,1,4294967295,6,0,24,9,0,4294967295,13,4,8,12,0,1,17,0,24,19,1,4294967295,13,14,21,9,0,671092736,0,0,0,0,0,0,8,12,0,1,17,1,1]
noncomputable abbrev cQ:Array Nat := #[14,4,0,3,4294967295,6,0,24,9,0,4294967295,13,4,8,12,0,1,16,61,24,9,0,4294967295,13,4,8,12,0,1,16,34,17,0,24,12,0,4294967295,13,7,21,16,34,16,92,0,1,23,19,0,4294967295,16,92,2,24,12,0,4294967295,13,7,21,16,34,16,92,0,1,18,17,1,16,34,1]
noncomputable abbrev cV:Array Nat := #[14,4,0,1,4294967295,6,0,24,9,0,4294967295,13,4,8,12,0,1,16,61,24,9,0,4294967295,13,4,8,12,0,1,17,0,24,14,0,4294967295,13,9,21,8,12,16,59,16,44,0,1,17,1,1]
noncomputable abbrev c7:Array Nat := #[14,4,0,0,4294967295,6,0,24,13,0,4294967295,13,8,16,61,8,12,16,59,0,1,1]
noncomputable abbrev kn(code:Array Nat)(t:List Nat)(ls:Nat):Kn:=⟨code,t.toArray,t.length,ls,false⟩
noncomputable abbrev fd0(s:Nat)(m:Array (Option Nat)):Fd:=⟨s,s,m,-1,-1⟩
noncomputable abbrev fs0(pc s:Nat):Fs:=⟨[nsF pc s true],1,#[],none⟩
def aO(m:Sre.M)(P:Sre.M->Prop):Prop:=∃n,n<=4000000/\(its n m).outcome.isSome=true/\P (its n m)
theorem End.sought{k:Nat}{a:Ms}{P:Sre.M->Prop}{m:Sre.M}(h:End k a P)(e:∃x,m=a x)(hk:k<=4000000):aO m P:=by
 obtain⟨x,rfl⟩:=e;obtain⟨n,h1,h2⟩:=h.run x;exact⟨n,KQ h1 hk,h2⟩
theorem wd{K:Kn}{pc:Nat}{op:Op}(h1:N6 (pc+1) K.code.size=true)(h2:ops[K.code.getD pc 0]?=some op):Wd0 K pc op:=⟨Ly h1,h2⟩
theorem tget{t:List Nat}{p:Nat}:t.toArray.getD p 0=t.getD p 0:=by simp[Rb,Mh]
theorem accT{K:Kn}{i c:Nat}{l:List Nat}(h:takes K.code i l=yesS)(hc:c∈Sig)(hl:l.contains c=true):Acc K i c true:=hl▸acc h hc
theorem accF{K:Kn}{i c:Nat}{l:List Nat}(h:takes K.code i l=yesS)(hc:c∈Sig)(hl:l.contains c=false):Acc K i c false:=hl▸acc h hc
section
variable{t r:List Nat}{c d:Nat}
theorem hf0{code:Array Nat}(h:code.getD 2 0=0):∀m:Sre.M,m.code=code->m.hasFirstSet=false:=λm e=>by
 unfold Sre.M.hasFirstSet;rw[e,h];exact O3 _
theorem hfT:∀m:Sre.M,m.code=cT->m.hasFirstSet=false:=hf0 rfl
theorem srG{code:Array Nat}{g p:Nat}(hp:p<=t.length)(hl:(Sre.header code).1<=t.length-p)(hf:∀m:Sre.M,m.code=code->m.hasFirstSet=false) :
  ∃x,Sre.forSearch code t.toArray g p t.length false=rst (kn code t (if (decide ((Sre.header code).1>1) && !((Sre.header code).2 != 0&&code.getD 2 0 &&& 5 != 0))=true then max p (t.length-((Sre.header code).1-1)) else t.length))
   (Sre.header code).2 p true (fd0 p (Sq (2*g) none)) (fs0 (Sre.header code).2 p) x:=by
 unfold Sre.forSearch;dsimp only;rw[if_neg (show ¬ ((decide (p>t.length)||decide (t.length-p<(Sre.header code).1))=true) by rw[Pr,decide_eq_true_eq,decide_eq_true_eq];omega)]
 unfold Sre.M.attemptFrom;rw[if_pos (by rw[hf _ rfl];rfl)]
 exact⟨_,rfl⟩
theorem srT(h:1<=t.length):∃x,Sre.forSearch cT t.toArray 1 0 t.length false=rst (kn cT t t.length) 5 0 true (fd0 0 #[none,none]) (fs0 5 0) x:=srG (K5 _) h hfT
theorem xW(hc:c=110∨c=107)(h0:r.length<=90000)(ht:t=c::61::r):aO (Sre.forSearch cT t.toArray 1 0 t.length false) (Found 0 1 #[some 0,some 1] 1 1):=by
 have e0:(kn cT t t.length).text.getD 0 0=c:=by show t.toArray.getD 0 0=c;rw[tget,ht];rfl
 have e1:(kn cT t t.length).text.getD 1 0=61:=by show t.toArray.getD 1 0=61;rw[tget,ht];rfl
 have hl:t.length=r.length+2:=by rw[ht];rfl
 have hs:c∈Sig:=by rcases hc with rfl | rfl <;> decide
 have g1:=gw (K:=kn cT t t.length) (pc:=5) (o:=true) (A:=fd0 0 #[none,none]) (F:=fs0 5 0) (wd rfl rfl) rfl;have g2:=g1.trans (bN (i:=17) (w:=0) (j:=0) (wd rfl rfl) rfl rfl rfl (K3 _) (K5 _) (by show t.length<=_;omega) (by show(2:Nat)<=4;decide) (by decide) (λj h=>absurd h (Ma _)) λ_=>accF (l:=[32]) (by rfl') (by rw[e0];exact hs) (by rw[e0];rcases hc with rfl | rfl <;> rfl))
 have g3:=g2.trans (cG (i:=0) (wd rfl rfl) rfl (by decide))
 have g4:=g3.trans (bN (i:=39) (w:=1) (j:=1) (wd rfl rfl) rfl rfl rfl (K3 _) (by show 1<=t.length;omega) (by show t.length<=_;omega) (by show(2:Nat)<=4;decide) (by decide) (λj h=>by
  obtain rfl:=Nat.lt_one_iff.mp h;exact accT (l:=[34,39,92,98,107,110]) (by rfl') (by rw[e0];exact hs) (by rw[e0];rcases hc with rfl | rfl <;> rfl)) λ_=>accF (l:=[34,39,92,98,107,110]) (by rfl') (by rw[e1];decide) (by rw[e1];rfl))
 have g5:=g4.trans (cG (i:=1) (wd rfl rfl) rfl (by show(1:Int)<=0+1;decide))
 have g6:=g5.trans (dZ (wd rfl rfl) rfl);exact(g6.ends (dR _ _ _ _ _ _ _ rfl)).sought (srT (by omega)) (Ly rfl)
theorem xX(h0:r.length<=90000)(ht:t=59::r):aO (Sre.forSearch cT t.toArray 1 0 t.length false) λm=>m.outcome=some .failed:=by
 have e0:(kn cT t t.length).text.getD 0 0=59:=by show t.toArray.getD 0 0=59;rw[tget,ht];rfl
 have hl:t.length=r.length+1:=by rw[ht];rfl
 have g1:=gw (K:=kn cT t t.length) (pc:=5) (o:=true) (A:=fd0 0 #[none,none]) (F:=fs0 5 0) (wd rfl rfl) rfl;have g2:=g1.trans (bN (i:=17) (w:=0) (j:=0) (wd rfl rfl) rfl rfl rfl (K3 _) (K5 _) (by show t.length<=_;omega) (by show(2:Nat)<=4;decide) (by decide) (λj h=>absurd h (Ma _)) λ_=>accF (l:=[32]) (by rfl') (by rw[e0];decide) (by rw[e0];rfl))
 have g3:=g2.trans (cG (i:=0) (wd rfl rfl) rfl (by decide))
 have g4:=g3.trans (ur (w:=0) (j:=1) (wd rfl rfl) rfl rfl (by decide) (K5 _) (by show 1<=t.length;omega) (by show t.length<=_;omega) (by show(2:Nat)<=4;decide) (by decide) (λj h=>absurd h (Ma _)) λ_=>accF (l:=[34,39,92,98,107,110]) (by rfl') (by rw[e0];decide) (by rw[e0];rfl))
 have g5:=g4.trans (iC (by show((0:Nat):Int)-1<((0:Nat):Int);decide))
 exact(g5.ends (wF (wd rfl rfl) rfl hfT (by show t.length<=_;omega) (by decide))).sought (srT (by omega)) (Ly rfl)
end
end
section
open PySem.Sre (Op ops accepts itemWidth)
noncomputable abbrev Tok4:List Nat:=[39,98,107,110]
section
variable{t r v:List Nat}{c d:Nat}
theorem srV(h:1<=t.length):∃x,Sre.forSearch cV t.toArray 1 0 t.length false=rst (kn cV t t.length) 5 0 true (fd0 0 #[none,none]) (fs0 5 0) x:=srG (K5 _) h (hf0 rfl)
theorem sr7{p:Nat}(h:p<=t.length):∃x,Sre.forSearch c7 t.toArray 0 p t.length false=rst (kn c7 t t.length) 5 p true (fd0 p #[]) (fs0 5 p) x:=srG h (K5 _) (hf0 rfl)
theorem srQ(h:3<=t.length):∃x,Sre.forSearch cQ t.toArray 1 0 t.length false=rst (kn cQ t (max 0 (t.length-2))) 5 0 true (fd0 0 #[none,none]) (fs0 5 0) x:=srG (K5 _) h (hf0 rfl)
theorem ut{a b:List Nat}{j:Nat}(h:j<a.length):(a++b).getD j 0=a.getD j 0:=by
 rw[Mh,Mh,Oh h]
theorem fC{a:List Nat}{j:Nat}(h:j<a.length):a.getD j 0∈a:=by
 rw[Mh,Lb h];exact QL h
theorem tok4{x:Nat}(h:x∈Tok4):x∈Sig/\([34,39,61,92,98,107,110]:List Nat).contains x=true/\([32]:List Nat).contains x=false/\x≠34:=by
 exact(by decide:∀x∈Tok4,x∈Sig/\([34,39,61,92,98,107,110]:List Nat).contains x=true/\([32]:List Nat).contains x=false/\x≠34) x h
theorem xg(hv:∀x∈v,x∈Tok4)(hr:r=[]∨∃r',r=59::r')(h0:v.length+r.length<=90000)(ht:t=61::(v++r)):aO (Sre.forSearch cV t.toArray 1 0 t.length false) (Found 0 (1+v.length) #[some 1,some (1+v.length)] 1 1):=by
 have hl:t.length=v.length+r.length+1:=by rw[ht,KJ,KR]
 have e0:(kn cV t t.length).text.getD 0 0=61:=by show t.toArray.getD 0 0=61;rw[tget,ht];rfl
 have ev:∀j,(kn cV t t.length).text.getD (1+j) 0=(v++r).getD j 0:=λj=>by
  show t.toArray.getD (1+j) 0=_;rw[tget,ht,Mf];rfl
 have er:v.length+1<t.length->(v++r).getD v.length 0=59:=λh=>by
  rcases hr with rfl | ⟨r',rfl⟩
  ·rw[hl,LC] at h;omega
  ·rw[Mh,PT (K3 _),PK];rfl
 have one:1<t.length->Acc (kn cV t t.length) 23 ((kn cV t t.length).text.getD 1 0) false:=λh=>by
  have e1:=ev 0;rw[Nf] at e1;rw[e1];cases v with
  | nil=>rw[show(([]:List Nat)++r).getD 0 0=59 from er h];exact accF (l:=[32]) (by rfl') (by decide) rfl
  | cons a v=>exact accF (l:=[32]) (by rfl') (tok4 (hv a (.head _))).1 (tok4 (hv a (.head _))).2.2.1
 have L1:(kn cV t t.length).lim<=100000:=by show t.length<=_;omega
 have g1:=gw (K:=kn cV t t.length) (pc:=5) (o:=true) (A:=fd0 0 #[none,none]) (F:=fs0 5 0) (wd rfl rfl) rfl;have g2:=g1.trans (bN (i:=17) (w:=0) (j:=0) (wd rfl rfl) rfl rfl rfl (K3 _) (K5 _) L1 (by show(2:Nat)<=4;decide) (by decide) (λj h=>absurd h (Ma _)) λ_=>by rw[e0];exact accF (l:=[32]) (by rfl') (by decide) rfl)
 have g3:=g2.trans (cD (op:=.LITERAL) (wd rfl rfl) rfl (by show 0<t.length;omega) (by rw[e0];exact accT (l:=[61]) (by rfl') (by decide) rfl))
 have g4:=g3.trans (bN (i:=29) (w:=0) (j:=0) (wd rfl rfl) rfl rfl rfl (K3 _) (by show 1<=t.length;omega) L1 (by show(2:Nat)<=4;decide) (by decide) (λj h=>absurd h (Ma _)) one)
 have g5:=g4.trans (cG (i:=0) (wd rfl rfl) rfl (by decide))
 have g6:=g5.trans (bN (i:=46) (w:=v.length) (j:=0) (wd rfl rfl) rfl rfl rfl (K5 _) (by show 1+v.length<=t.length;omega) L1 (by show(2:Nat)<=4;decide) (by show(3:Nat)<=1000000;decide)
  (λj h=>by
   have:=tok4 (hv _ (fC h));show Acc _ _ ((kn cV t t.length).text.getD (1+j) 0) _;rw[ev,ut h];exact accT (l:=[34,39,61,92,98,107,110]) (by rfl') this.1 this.2.1) λh=>by
   show Acc _ _ ((kn cV t t.length).text.getD (1+v.length) 0) _;have h':1+v.length<t.length:=h;rw[ev,er (by omega)]
   exact accF (l:=[34,39,61,92,98,107,110]) (by rfl') (by decide) rfl)
 have g7:=g6.trans (cG (i:=1) (wd rfl rfl) rfl (by show(1:Int)<=0+1;decide))
 have g8:=g7.trans (dZ (wd rfl rfl) rfl);exact(g8.ends (dR _ _ _ _ _ _ _ rfl)).sought (srV (by omega)) (Ly rfl)
theorem Fz(h0:r.length<=90000)(ht:t=59::32::107::r):aO (Sre.forSearch c7 t.toArray 0 0 t.length false) (Found 0 2 #[] (-1) (-1)):=by
 have hl:t.length=r.length+3:=by rw[ht];rfl
 have e0:∀j,(kn c7 t t.length).text.getD j 0=(59::32::107::r).getD j 0:=λj=>by show t.toArray.getD j 0=_;rw[tget,ht]
 have g1:=gw (K:=kn c7 t t.length) (pc:=5) (o:=true) (A:=fd0 0 #[]) (F:=fs0 5 0) (wd rfl rfl) rfl;have g2:=g1.trans (bN (i:=21) (w:=2) (j:=0) (wd rfl rfl) rfl rfl rfl (K5 _) (by show 2<=t.length;omega) (by show t.length<=_;omega) (by show(0:Nat)<=4;decide) (by decide) (λj h=>by
  have h:j=0∨j=1:=by omega
  rcases h with rfl | rfl
  ·rw[e0];exact accT (l:=[32,59,61]) (by rfl') (by show 59∈Sig;decide) rfl
  ·rw[e0];exact accT (l:=[32,59,61]) (by rfl') (by show 32∈Sig;decide) rfl) λ_=>by rw[e0];exact accF (l:=[32,59,61]) (by rfl') (by show 107∈Sig;decide) rfl)
 have g3:=g2.trans (dZ (wd rfl rfl) rfl);exact(g3.ends (dR _ _ _ _ _ _ _ rfl)).sought (sr7 (K5 _)) (Ly rfl)
theorem FP(h0:t.length<=90000)(h:2<=t.length):aO (Sre.forSearch c7 t.toArray 0 2 t.length false) λm=>m.outcome=some .failed :=
 ((oM (K:=kn c7 t t.length) (pc:=5) (l := #[]) (u:=none) (wd rfl rfl) rfl (hf0 rfl) t.length 1 true (fd0 2 #[]) 1 (by show t.length<=_;omega) (by decide)).le (by omega:_<=300000)).sought (sr7 h) (Ly rfl)
theorem Cd(hv:∀x∈v,x∈Tok4)(h1:v≠[])(h0:v.length+r.length<=90000)(ht:t=61::(v++r)):aO (Sre.forSearch cQ t.toArray 1 0 t.length false) λm=>m.outcome=some .failed:=by
 obtain⟨a,v,rfl⟩:∃a v',v=a::v':=by cases v with | nil=>exact absurd rfl h1 | cons a v=>exact⟨a,v,rfl⟩
 have ha:=tok4 (hv a (.head _));have hl:t.length=v.length+r.length+2:=by rw[ht,KJ,KR,KJ];omega
 rw[KJ] at h0
 by_cases h3:3<=t.length
 ·have e0:(kn cQ t (max 0 (t.length-2))).text.getD 0 0=61:=by show t.toArray.getD 0 0=61;rw[tget,ht];rfl
  have e1:(kn cQ t (max 0 (t.length-2))).text.getD 1 0=a:=by show t.toArray.getD 1 0=a;rw[tget,ht];rfl
  have L1:(kn cQ t (max 0 (t.length-2))).lim<=100000:=by show t.length<=_;omega
  have g1:=gw (K:=kn cQ t (max 0 (t.length-2))) (pc:=5) (o:=true) (A:=fd0 0 #[none,none]) (F:=fs0 5 0) (wd rfl rfl) rfl;have g2:=g1.trans (bN (i:=17) (w:=0) (j:=0) (wd rfl rfl) rfl rfl rfl (K3 _) (K5 _) L1 (by show(2:Nat)<=4;decide) (by decide) (λj h=>absurd h (Ma _)) λ_=>by rw[e0];exact accF (l:=[32]) (by rfl') (by decide) rfl)
  have g3:=g2.trans (cD (op:=.LITERAL) (wd rfl rfl) rfl (by show 0<t.length;omega) (by rw[e0];exact accT (l:=[61]) (by rfl') (by decide) rfl))
  have g4:=g3.trans (bN (i:=29) (w:=0) (j:=0) (wd rfl rfl) rfl rfl rfl (K3 _) (by show 1<=t.length;omega) L1 (by show(2:Nat)<=4;decide) (by decide) (λj h=>absurd h (Ma _)) λ_=>by
   show Acc _ _ ((kn cQ t (max 0 (t.length-2))).text.getD 1 0) _;rw[e1];exact accF (l:=[32]) (by rfl') ha.1 ha.2.2.1)
  have g5:=g4.trans (iB (op:=.LITERAL) (wd rfl rfl) rfl λ_=>by
   show Acc _ _ ((kn cQ t (max 0 (t.length-2))).text.getD 1 0) _;rw[e1];exact accF (l:=[34]) (by rfl') ha.1 (by simp[ha.2.2.2]))
  have g6:=g5.trans (iC (by show((0:Nat):Int)-1<((0:Nat):Int);decide))
  have g7:=g6.trans (iC (by show((0:Nat):Int)-1<((0:Nat):Int);decide))
  exact(g7.ends (wF (wd rfl rfl) rfl (hf0 rfl) (Qq.mpr ⟨K5 _,KQ (MP _ _) L1⟩) (by show(1:Nat)<=100000;decide))).sought (srQ h3) (Ly rfl)
 ·have e:∃x,Sre.forSearch cQ t.toArray 1 0 t.length false=ran false (kn cQ t 0) 5 0 true (fd0 0 #[none,none]) ⟨[],0,#[],none⟩ x :=
   ⟨_,(if_pos (show((decide (0>t.length)||decide (t.length-0<3))=true) by rw[Pr,decide_eq_true_eq,decide_eq_true_eq];omega)).trans rfl⟩
  exact fails.sought e (by decide)
end
end
section
open PySem.Sre (Op ops accepts itemWidth)
section
variable{t r v:List Nat}{c d:Nat}
noncomputable def plainQ(c:Nat):Bool := !(c==34||c==92)
theorem gF(a b:List Nat):escS (a++b)=escS a++escS b:=by unfold escS;rw[QT]
theorem gB{u:List Nat}(h:∀x∈u,plainQ x=true):escS u=u:=by
 induction u with
 | nil=>rfl
 | cons a u ih =>
  have ha:=h a (.head _);have e:(a==34||a==92)=false:=by unfold plainQ at ha;simpa using ha
  show escS ([a]++u)=_;rw[gF,ih λx hx=>h x (.tail _ hx)];show(match (a==34||a==92) with | true=>[92,a] | false=>[a])++[]++u=_
  rw[e];rfl
theorem iG(w:List Nat)(h:plainQ c=false):escS (c::w)=92::c::escS w:=by
 have e:(c==34||c==92)=true:=by
  unfold plainQ at h;cases hx:(c==34||c==92) with
  | true=>rfl
  | false=>rw[hx] at h;cases h
 show(match (c==34||c==92) with | true=>[92,c] | false=>[c])++escS w=_
 rw[e];rfl
theorem jA:∀w:List Nat,∃u v,w=u++v/\(∀x∈u,plainQ x=true)/\(v=[]∨∃c v',v=c::v'/\plainQ c=false):=by
 intro l_
 induction l_ with
 | nil=>exact⟨[],[],rfl,λ_ h=>(nomatch h),.inl rfl⟩
 | cons a w ih =>
  cases h:plainQ a with
  | true =>
   obtain⟨u,v,e,hu,hv⟩:=ih;exact⟨a::u,v,by rw[e];rfl,λx hx=>(KZ.mp hx).elim (λq=>q▸h) (hu x),hv⟩
  | false=>exact⟨[],a::w,rfl,λ_ h=>(nomatch h),.inr ⟨a,w,rfl,h⟩⟩
structure From(t:List Nat)(p:Nat)(l:List Nat):Prop where
 le:p+l.length=t.length
 get:∀j,t.toArray.getD (p+j) 0=l.getD j 0
theorem From.of(a l:List Nat):From (a++l) a.length l:=⟨(KR ..).symm,λj=>by
 rw[tget,Mh,PT (LQ ..),Ow,Mh]⟩
theorem From.skip{p:Nat}{a l:List Nat}(h:From t p (a++l)):From t (p+a.length) l:=⟨by rw[<-h.le,KR,LR],λj=>by
 rw[LR,h.get,Mh,PT (LQ ..),Ow,Mh]⟩
theorem From.hd{p:Nat}{l:List Nat}(h:From t p (c::l)):t.toArray.getD p 0=c/\p<t.length:=⟨h.get 0,by have:=h.le;rw[KJ] at this;omega⟩
theorem From.tl{p:Nat}{l:List Nat}(h:From t p (c::l)):From t (p+1) l:=From.skip (a:=[c]) h
theorem From.in_{p j:Nat}{a l:List Nat}(h:From t p (a++l))(hj:j<a.length):t.toArray.getD (p+j) 0=a.getD j 0:=by rw[h.get,ut hj]
noncomputable abbrev kq(t:List Nat):Kn:=kn cQ t (max 0 (t.length-2))
theorem Ck{x:Nat}(hs:x∈Sig)(h:plainQ x=true)(i:Nat)(hi:takes cQ i [32,39,59,61,98,107,110]=yesS):Acc (kq t) i x true:=by
 exact accT hi hs ((by decide:∀x∈Sig,plainQ x=true->([32,39,59,61,98,107,110]:List Nat).contains x=true) x hs h)
theorem q9{p pc i:Nat}{o:Bool}{A:Fd}{F:Fs}{u l:List Nat}(hw:Wd0 (kq t) pc .REPEAT_ONE)(h2:cQ.getD (pc+2) 0=0)(h3:cQ.getD (pc+3) 0=4294967295)(h1:pc+1+cQ.getD (pc+1) 0=i)(ht:takes cQ (pc+4) [32,39,59,61,98,107,110]=yesS)
  (hF:F.weight<=1000000) (hA:A.marks.size<=4) (hL:t.length<=100000) (f:From t p (u++c::l)) (hu:∀x∈u,x∈Sig/\plainQ x=true) (hc:c∈Sig) (hc2:plainQ c=false) :
  Go 1 (rst (kq t) pc p o A F) (rst (kq t) i (p+u.length) o (A.at_ (p+u.length)) (F.push (bY F.inner.isSome pc (p+u.length) o A u.length))):=by
 have hl:=f.le;rw[KR,KJ] at hl;refine bN hw h2 h3 h1 (K5 _) (by show p+u.length<=t.length;omega) hL hA hF (λj hj=>?_) λ_=>?_
 ·show Acc _ _ (t.toArray.getD (p+j) 0) _
  rw[f.in_ hj];exact Ck (hu _ (fC hj)).1 (hu _ (fC hj)).2 _ ht
 ·show Acc _ _ (t.toArray.getD (p+u.length) 0) _
  rw[f.skip.hd.1];exact accF ht hc ((by decide:∀x∈Sig,plainQ x=false->([32,39,59,61,98,107,110]:List Nat).contains x=false) c hc hc2)
noncomputable abbrev qA(p:Nat):Fd:=⟨0,p,#[some 2,none],0,-1⟩
noncomputable abbrev qL(cnt:Int)(bg:Option Nat):Array Sre.Loop := #[{pc:=46,count:=cnt,began:=bg,outer:=none}]
theorem q_go{p h w:Nat}{cnt:Int}{bg:Option Nat}{fs:List Sre.Frame}(hb:(bg==some p)=false)(hc : -1<=cnt)(hw:w<=1000000) :
  Go 1 (rst (kq t) 66 p true (qA h) ⟨fs,w,qL cnt bg,some 0⟩) (rst (kq t) 50 p true (qA p) ⟨dg 67 p true (qA h) (cnt+1) bg::fs,w+1+1,qL (cnt+1) (some p),some 0⟩) :=
 .does (op:=.MAX_UNTIL) (wd rfl rfl) λx E g=>g 46 cnt bg rfl rfl hw rfl rfl hc hb (by show(2:Nat)<=4;decide)
theorem rn{p h w:Nat}{cnt:Int}{bg:Option Nat}{fs:List Sre.Frame}(hb:(bg==some p)=false)(hc : -1<=cnt)(hw:w<=500000)(f:From t p (34::r))(hf:fs.all yesF=true) :
  End (fs.length+8) (rst (kq t) 66 p true (qA h) ⟨fs,w,qL cnt bg,some 0⟩) (Found 0 (p+1) #[some 2,some p] 1 1):=by
 obtain⟨e1,e2⟩:=f.hd;have g2:Go 1 (rst (kq t) 50 p true (qA p) ⟨dg 67 p true (qA h) (cnt+1) bg::fs,w+1+1,qL (cnt+1) (some p),some 0⟩) _:=iB (op:=.LITERAL) (wd rfl rfl) rfl λ_=>by show Acc _ _ (t.toArray.getD p 0) _;rw[e1];exact accF (l:=[92]) (by rfl') (by decide) rfl
 have g4:Go 1 (rst (kq t) 67 p true (qA p) ⟨pP 67 p true 0 (-1) (cnt+1)::fs,w+1+1-(1+1)+1,qL (cnt+1-1) bg,none⟩) _:=cG (i:=1) (wd rfl rfl) rfl (by show(1:Int)<=0+1;decide)
 have g5:=g4.trans (cD (op:=.LITERAL) (wd rfl rfl) rfl e2 (by show Acc _ _ (t.toArray.getD p 0) _;rw[e1];exact accT (l:=[34]) (by rfl') (by decide) rfl))
 have g6:=g5.trans (dZ (wd rfl rfl) rfl);have g7:=g6.ends (dR _ _ _ _ _ _ _ (by rw[Lw,hf];rfl))
 exact((((q_go hb hc (KQ hw (by decide))).trans g2).trans (Gw (KQ (Mz hw 2) (by decide)))).ends g7).le (by simp only[KJ];omega)
theorem Ci{p h w:Nat}{cnt:Int}{bg:Option Nat}{fs:List Sre.Frame}{u l:List Nat}(hL:t.length<=100000)(hb:(bg==some p)=false)(hc : -1<=cnt)(hw:w<=500000)(f:From t p (92::c::(u++d::l)))(hcs:c∈Sig)(hu:∀x∈u,x∈Sig/\plainQ x=true)(hd1:d∈Sig)(hd2:plainQ d=false) :
  Go 4 (rst (kq t) 66 p true (qA h) ⟨fs,w,qL cnt bg,some 0⟩) (rst (kq t) 66 (p+1+1+u.length) true (qA (p+1+1+u.length)) ⟨bY true 53 (p+1+1+u.length) true (qA p) u.length::dg 67 p true (qA h) (cnt+1) bg::fs,w+1+1+1+1,qL (cnt+1) (some p),some 0⟩):=by
 obtain⟨e1,e2⟩:=f.hd;obtain⟨e3,e4⟩:=f.tl.hd;have g2:Go 1 (rst (kq t) 50 p true (qA p) ⟨dg 67 p true (qA h) (cnt+1) bg::fs,w+1+1,qL (cnt+1) (some p),some 0⟩) _:=cD (op:=.LITERAL) (wd rfl rfl) rfl e2 (by show Acc _ _ (t.toArray.getD p 0) _;rw[e1];exact accT (l:=[92]) (by rfl') (by decide) rfl)
 have g3:=g2.trans (cD (op:=.ANY) (wd rfl rfl) rfl e4 (by show Acc _ _ (t.toArray.getD (p+1) 0) _;rw[e3];exact accT (l:=Sig) (by rfl') hcs (M6.mpr hcs)))
 exact(q_go hb hc (KQ hw (by decide))).trans (g3.trans (q9 (t:=t) (u:=u) (c:=d) (l:=l) (p:=p+1+1) (pc:=53) (i:=66) (wd rfl rfl) rfl rfl rfl (by rfl') (KQ (Mz hw 2) (by decide)) (by show(2:Nat)<=4;decide) hL f.tl.tl hu hd1 hd2))
theorem Cj(hL:t.length<=100000)(n:Nat):∀(v:List Nat) (p:Nat) (cnt:Int) (bg:Option Nat) (fs:List Sre.Frame) (w h:Nat),v.length<=n->(v=[]∨∃c v',v=c::v'/\plainQ c=false)->(∀x∈v,x∈Sig)->From t p (escS v++34::r)->(bg==some p)=false -> -1<=cnt ->
  w+4*n<=500000->fs.all yesF=true->fs.length<=w ->
  End (8*n+w+20) (rst (kq t) 66 p true (qA h) ⟨fs,w,qL cnt bg,some 0⟩) (Found 0 (p+(escS v).length+1) #[some 2,some (p+(escS v).length)] 1 1):=by
 induction n with
 | zero =>
  intro v p cnt bg fs w h hn hv hs f hb hc hw hf hfl;obtain rfl:v=[]:=Mt.mp (Qs.mp hn);exact(rn hb hc (by omega) f hf).le (by omega)
 | succ n ih =>
  intro v p cnt bg fs w h hn hv hs f hb hc hw hf hfl;rcases hv with rfl | ⟨c,v,rfl,hcp⟩
  ·exact(rn hb hc (by omega) f hf).le (by omega)
  ·obtain⟨u,v',rfl,hu,hv'⟩:=jA v
   rw[KJ,KR] at hn;rw[iG _ hcp,gF,gB hu] at f ⊢;have f:From t p (92::c::(u++escS v'++34::r)):=f;rw[Lj] at f;obtain⟨d,l,hd,hd1,hd2⟩:∃d l,escS v'++34::r=d::l/\d∈Sig/\plainQ d=false:=by
    rcases hv' with rfl | ⟨d,v'',rfl,hd⟩
    ·exact⟨34,r,rfl,by decide,rfl⟩
    ·exact⟨92,d::(escS v''++34::r),by rw[iG _ hd];rfl,by decide,rfl⟩
   have g:=Ci (fs:=fs) (h:=h) (w:=w) hL hb hc (by omega) (hd▸f) (hs c (.head _)) (λx hx=>⟨hs x (.tail _ (O7 _ hx)),hu x hx⟩) hd1 hd2
   have e5:p+(92::c::(u++escS v')).length=p+1+1+u.length+(escS v').length:=by simp only[KJ,KR];omega
   rw[e5];have e6:=g.ends (ih v' (p+1+1+u.length) (cnt+1) (some p) (bY true 53 (p+1+1+u.length) true (qA p) u.length::dg 67 p true (qA h) (cnt+1) bg::fs) (w+1+1+1+1) (p+1+1+u.length) (by omega) hv' (λx hx=>hs x (.tail _ (Ob _ hx))) f.tl.tl.skip (by simp;omega) (by omega) (by omega) (by rw[Lw,Lw,hf];rfl) (by simp only[KJ];omega))
   exact e6.le (by omega)
theorem Ca(hs:∀x∈v,x∈Sig)(h0:(escS v).length+r.length<=90000)(h1:v.length<=90000)(ht:t=61::34::(escS v++34::r)) :
  aO (Sre.forSearch cQ t.toArray 1 0 t.length false) (Found 0 ((escS v).length+3) #[some 2,some ((escS v).length+2)] 1 1):=by
 have hl:t.length=(escS v).length+r.length+3:=by rw[ht,KJ,KJ,KR,KJ];omega
 have L1:t.length<=100000:=by omega
 have f0:From t 0 (61::34::(escS v++34::r)):=by have:=From.of [] t;rw[<-ht];exact this
 obtain⟨e0,e0'⟩:=f0.hd;obtain⟨e1,e1'⟩:=f0.tl.hd;obtain⟨u,v',rfl,hu,hv'⟩:=jA v;rw[gF,gB hu] at f0 ⊢;rw[Lj] at f0;obtain⟨d,l,hd,hd1,hd2⟩:∃d l,escS v'++34::r=d::l/\d∈Sig/\plainQ d=false:=by
  rcases hv' with rfl | ⟨d,v'',rfl,hd⟩
  ·exact⟨34,r,rfl,by decide,rfl⟩
  ·exact⟨92,d::(escS v''++34::r),by rw[iG _ hd];rfl,by decide,rfl⟩
 have g1:=gw (K:=kq t) (pc:=5) (o:=true) (A:=fd0 0 #[none,none]) (F:=fs0 5 0) (wd rfl rfl) rfl;have g2:=g1.trans (bN (i:=17) (w:=0) (j:=0) (wd rfl rfl) rfl rfl rfl (K3 _) (K5 _) L1 (by show(2:Nat)<=4;decide) (by decide) (λj h=>absurd h (Ma _)) λ_=>by show Acc _ _ (t.toArray.getD 0 0) _;rw[e0];exact accF (l:=[32]) (by rfl') (by decide) rfl)
 have g3:=g2.trans (cD (op:=.LITERAL) (wd rfl rfl) rfl e0' (by show Acc _ _ (t.toArray.getD 0 0) _;rw[e0];exact accT (l:=[61]) (by rfl') (by decide) rfl))
 have g4:=g3.trans (bN (i:=29) (w:=0) (j:=0) (wd rfl rfl) rfl rfl rfl (K3 _) (by show 1<=t.length;omega) L1 (by show(2:Nat)<=4;decide) (by decide) (λj h=>absurd h (Ma _)) λ_=>by
  show Acc _ _ (t.toArray.getD 1 0) _;rw[show t.toArray.getD 1 0=34 from e1];exact accF (l:=[32]) (by rfl') (by decide) rfl)
 have g5:=g4.trans (cD (op:=.LITERAL) (wd rfl rfl) rfl e1' (by show Acc _ _ (t.toArray.getD 1 0) _;rw[show t.toArray.getD 1 0=34 from e1];exact accT (l:=[34]) (by rfl') (by decide) rfl))
 have g6:=g5.trans (cG (i:=0) (wd rfl rfl) rfl (by decide))
 have g7:=g6.trans (q9 (t:=t) (u:=u) (c:=d) (l:=l) (p:=2) (pc:=33) (i:=46) (wd rfl rfl) rfl rfl rfl (by rfl') (by show(3:Nat)<=1000000;decide) (by show(2:Nat)<=4;decide) L1 (hd▸f0.tl.tl) (λx hx=>⟨hs x (O7 _ hx),hu x hx⟩) hd1 hd2)
 have g8:=g7.trans (Go.does (op:=.REPEAT) (b:=rst (kq t) 66 (2+u.length) true (qA (2+u.length)) ⟨_,5,qL (-1) none,some 0⟩) (wd rfl rfl) λx E g=>g rfl rfl (by show(4:Nat)<=1000000;decide))
 rw[KR] at h1;have g9:=Cj (t:=t) (r:=r) L1 v'.length v' (2+u.length) (-1) none 5 (2+u.length) (K3 _) hv' (λx hx=>hs x (Ob _ hx)) f0.tl.tl.skip rfl (by decide) (by omega) (fs:=vY 46 (2+u.length) true::bY false 33 (2+u.length) true ⟨0,1,#[some 2,none],0,-1⟩ u.length::bY false 19 1 true ⟨0,0,#[none,none],-1,-1⟩ 0::bY false 7 0 true (fd0 0 #[none,none]) 0::(fs0 5 0).frames) rfl (by show 5<=5;decide)
 have e5:2+u.length+(escS v').length=(u++escS v').length+2:=by rw[KR];omega
 rw[e5] at g9;exact(g8.ends g9).sought (srQ (by omega)) (by omega)
end
end
section
open PySem.Sre (Op ops accepts itemWidth)
noncomputable abbrev cE:Array Nat := #[14,8,1,2,2,1,1,92,0,16,92,17,0,2,17,1,1]
noncomputable abbrev cS:Array Nat := #[14,9,4,1,1,16,34,16,92,0,17,0,13,6,16,34,16,92,0,17,1,1]
noncomputable abbrev cJ:Array Nat := #[14,4,0,1,4294967295,24,16,1,4294967295,13,11,9,0,67071226,3355443198,1476395007,0,0,0,0,0,1,1]
noncomputable abbrev cF:Array Nat := #[14,17,4,1,1,21,9,0,604043296,1,0,0,0,0,0,8,4,0,13,14,21,9,0,604043296,1,0,0,0,0,0,8,4,0,1]
section
variable{t r v u l:List Nat}{c d p:Nat}
theorem hfE:∀m:Sre.M,m.code=cE->m.hasFirstSet=false:=λm e=>by
 unfold Sre.M.hasFirstSet;rw[e];rfl
noncomputable abbrev kE(t:List Nat):Kn:=kn cE t t.length
theorem Hz(hL:t.length<=100000):∀(u:List Nat) (s:Nat) (o:Bool),From t s (u++92::c::l)->(∀x∈u,x∈Sig/\x≠92)->c∈Sig ->
  End (2*u.length+7) (rst (kE t) 9 s o (fd0 s #[none,none]) ⟨[nsF 9 s o],1,#[],none⟩) (Found (s+u.length) (s+u.length+2) #[some (s+u.length+1),some (s+u.length+2)] 1 1):=by
 intro l_
 induction l_ with
 | nil =>
  intro s o f hu hc;obtain⟨e0,e0'⟩:=f.hd;obtain⟨e1,e1'⟩:=f.tl.hd;have g1:Go 1 (rst (kE t) 9 s o (fd0 s #[none,none]) ⟨[nsF 9 s o],1,#[],none⟩) _:=cD (op:=.LITERAL) (wd rfl rfl) rfl e0' (by show Acc _ _ (t.toArray.getD s 0) _;rw[e0];exact accT (l:=[92]) (by rfl') (by decide) rfl)
  have g2:=g1.trans (cG (i:=0) (wd rfl rfl) rfl (by show(0:Int) <= -1+1;decide))
  have g3:=g2.trans (cD (op:=.ANY) (wd rfl rfl) rfl e1' (by show Acc _ _ (t.toArray.getD (s+1) 0) _;rw[e1];exact accT (l:=Sig) (by rfl') hc (M6.mpr hc)))
  have g4:=g3.trans (cG (i:=1) (wd rfl rfl) rfl (by show(1:Int)<=0+1;decide))
  have g5:=g4.trans (dZ (wd rfl rfl) (by show(o&&(false&&_))=false;cases o <;> rfl))
  exact(g5.ends (dR _ _ _ _ _ _ _ rfl)).le (Ly rfl)
 | cons a u ih =>
  intro s o f hu hc;obtain⟨e0,e0'⟩:=(show From t s (a::(u++92::c::l)) from f).hd;obtain⟨ha,ha2⟩:=hu a (.head _);have g1:Go 1 (rst (kE t) 9 s o (fd0 s #[none,none]) ⟨[nsF 9 s o],1,#[],none⟩) _:=iB (op:=.LITERAL) (wd rfl rfl) rfl λ_=>by show Acc _ _ (t.toArray.getD s 0) _;rw[e0];exact accF (l:=[92]) (by rfl') ha (by simp[ha2])
  have g2:=g1.trans (jR e0' hfE (by decide))
  have e:=g2.ends (ih (s+1) false (show From t s (a::(u++92::c::l)) from f).tl (λx hx=>hu x (.tail _ hx)) hc);rw[KJ,show s+(u.length+1)=s+1+u.length by omega]
  exact e.le (by omega)
theorem HB:∀(u:List Nat) (s:Nat) (o:Bool),From t s u->(∀x∈u,x∈Sig/\x≠92) ->
  End (2*u.length+4) (rst (kE t) 9 s o (fd0 s #[none,none]) ⟨[nsF 9 s o],1,#[],none⟩) λm=>m.outcome=some .failed:=by
 intro l_
 induction l_ with
 | nil =>
  intro s o f hu;have hs:¬ s<t.length:=by have:=f.le;rw[LC] at this;omega
  have g1:Go 1 (rst (kE t) 9 s o (fd0 s #[none,none]) ⟨[nsF 9 s o],1,#[],none⟩) _:=iB (op:=.LITERAL) (wd rfl rfl) rfl λh=>absurd h hs;exact((g1.trans (nH hs)).ends fails).le (by decide)
 | cons a u ih =>
  intro s o f hu;obtain⟨e0,e0'⟩:=f.hd;obtain⟨ha,ha2⟩:=hu a (.head _);have g1:Go 1 (rst (kE t) 9 s o (fd0 s #[none,none]) ⟨[nsF 9 s o],1,#[],none⟩) _:=iB (op:=.LITERAL) (wd rfl rfl) rfl λ_=>by show Acc _ _ (t.toArray.getD s 0) _;rw[e0];exact accF (l:=[92]) (by rfl') ha (by simp[ha2])
  have g2:=g1.trans (jR e0' hfE (by decide))
  exact(g2.ends (ih (s+1) false f.tl λx hx=>hu x (.tail _ hx))).le (by rw[KJ];omega)
theorem Hr(hL:t.length<=100000)(f:From t p (u++92::c::l))(hu:∀x∈u,x∈Sig/\x≠92)(hc:c∈Sig) :
  aO (Sre.forSearch cE t.toArray 1 p t.length false) (Found (p+u.length) (p+u.length+2) #[some (p+u.length+1),some (p+u.length+2)] 1 1):=by
 have hl:=f.le;rw[KR,KJ,KJ] at hl;exact(Hz hL u p true f hu hc).sought (srG (by omega) (by show 2<=_;omega) hfE) (by omega)
theorem vo(hL:t.length<=100000)(f:From t p u)(hu:∀x∈u,x∈Sig/\x≠92):aO (Sre.forSearch cE t.toArray 1 p t.length false) λm=>m.outcome=some .failed:=by
 have hl:=f.le
 by_cases h2:2<=t.length-p
 ·exact(HB u p true f hu).sought (srG (by omega) h2 hfE) (by omega)
 ·have e:∃x,Sre.forSearch cE t.toArray 1 p t.length false=ran false (kn cE t 0) 9 p true (fd0 p #[none,none]) ⟨[],0,#[],none⟩ x :=
   ⟨_,(if_pos (show((decide (p>t.length)||decide (t.length-p<2))=true) by rw[Pr,decide_eq_true_eq,decide_eq_true_eq];omega)).trans rfl⟩
  exact fails.sought e (by decide)
def Ins(code:Array Nat)(c:Nat)(b:Bool):Prop:=∀x,∃y,Sre.inSet code c code.size 5 true x=.ok (b,y)
noncomputable def yh(code:Array Nat)(l:List Nat):Sre.Seen->Bool:=λx=>Sig.all λc=>okIs (Sre.inSet code c code.size 5 true x) (l.contains c)
theorem ins{code:Array Nat}{l:List Nat}(h:yh code l=yesS)(hc:c∈Sig){b:Bool}(hb:l.contains c=b):Ins code c b:=λx=>hb▸rM (La.mp (congrFun h x) c hc)
theorem Km{m:Sre.M}{code:Array Nat}(hm:m.code=code)(ht:m.text=t.toArray)(hl:m.lim=t.length)(hc:Ins code c true):∀(u:List Nat) (s n:Nat) (x:Sre.Seen),From t s (u++c::l)->(∀x∈u,Ins code x false)->u.length<n->∃y,m.admitted n s x=.ok (some (s+u.length),y):=by
 intro l_
 induction l_ with
 | nil =>
  intro s n x f hu hn;obtain⟨n,rfl⟩:∃n',n=n'+1:=⟨n-1,by have:0<n:=hn;omega⟩
  obtain⟨e0,e0'⟩:=f.hd;obtain⟨y,e⟩:=hc x;refine⟨y,?_⟩;show(if s≥m.lim then Except.ok (none,x) else _)=_;rw[if_neg (by rw[hl];omega),hm,ht,e0,e];rfl
 | cons a u ih =>
  intro s n x f hu hn;rw[KJ] at hn;obtain⟨n,rfl⟩:∃n',n=n'+1:=⟨n-1,by omega⟩
  have f:From t s (a::(u++c::l)):=f;obtain⟨e0,e0'⟩:=f.hd;obtain⟨y,e⟩:=hu a (.head _) x;obtain⟨z,ih⟩:=ih (s+1) n y f.tl (λx hx=>hu x (.tail _ hx)) (by omega)
  refine⟨z,?_⟩;show(if s≥m.lim then Except.ok (none,x) else _)=_;rw[if_neg (by rw[hl];omega),hm,ht,e0,e]
  rw[KJ,show s+(u.length+1)=s+1+u.length by omega];exact ih
theorem wJ{m:Sre.M}{code:Array Nat}(hm:m.code=code)(ht:m.text=t.toArray)(hl:m.lim=t.length):∀(u:List Nat) (s n:Nat) (x:Sre.Seen),From t s u->(∀x∈u,Ins code x false)->∃y,m.admitted n s x=.ok (none,y)
 | _,s,0,x,f,hu=>⟨x,rfl⟩
 | [],s,n+1,x,f,hu=>by
  refine⟨x,?_⟩;show(if s≥m.lim then Except.ok (none,x) else _)=_;rw[if_pos (by rw[hl];have:=f.le;rw[LC] at this;omega)]
 | a::u,s,n+1,x,f,hu=>by
  obtain⟨e0,e0'⟩:=f.hd;obtain⟨y,e⟩:=hu a (.head _) x;obtain⟨z,ih⟩:=wJ hm ht hl u (s+1) n y f.tl (λx hx=>hu x (.tail _ hx));refine⟨z,?_⟩;show(if s≥m.lim then Except.ok (none,x) else _)=_;rw[if_neg (by rw[hl];omega),hm,ht,e0,e]
  exact ih
theorem setM{m:Sre.M}{code:Array Nat}(hm:m.code=code)(ht:m.text=t.toArray)(hl:m.lim=t.length)(h4:m.answer=none)(h5:m.outcome=none)(h6:m.weight=0)(h7:m.frames=[])(hf:m.hasFirstSet=true)(f:From t p (u++c::l))(hu:∀x∈u,Ins code x false)(hc:Ins code c true) :
  ∃x,m.attemptFrom p true=rst ⟨m.code,m.text,m.lim,m.lastStart,m.wholeText⟩ m.pc (p+u.length) true ⟨p+u.length,p+u.length,m.marks,-1,-1⟩ ⟨[nsF m.pc (p+u.length) true],1,m.loops,m.inner⟩ x:=by
 have hle:=f.le;rw[KR,KJ] at hle;obtain⟨y,e⟩:=Km hm ht hl hc u p (m.lim+1-p) m.seen f hu (by rw[hl];omega)
 refine⟨y,?_⟩;unfold Sre.M.attemptFrom;rw[if_neg (by rw[hf];decide),e]
 dsimp only;unfold Sre.M.attemptAt Sre.M.attempt;dsimp only;rw[h6,if_neg (by decide),h4,h5,h7]
 rfl
theorem setN{m:Sre.M}{code:Array Nat}(hm:m.code=code)(ht:m.text=t.toArray)(hl:m.lim=t.length)(hf:m.hasFirstSet=true)(f:From t p u)(hu:∀x∈u,Ins code x false):∃x,m.attemptFrom p true=({m with seen:=x}:Sre.M).say false:=by
 obtain⟨y,e⟩:=wJ hm ht hl u p (m.lim+1-p) m.seen f hu;refine⟨y,?_⟩;unfold Sre.M.attemptFrom;rw[if_neg (by rw[hf];decide),e]
theorem hfS:∀m:Sre.M,m.code=cS->m.hasFirstSet=true:=λm e=>by
 unfold Sre.M.hasFirstSet;rw[e];rfl
theorem hfF:∀m:Sre.M,m.code=cF->m.hasFirstSet=true:=λm e=>by
 unfold Sre.M.hasFirstSet;rw[e];rfl
theorem nones{m:Sre.M}(h1:m.answer=some false)(h2:m.outcome=none)(h3:m.frames=[]):aO m λm=>m.outcome=some .failed:=by
 have e:m.step={m with outcome:=some .failed}:=by
  unfold Sre.M.step;rw[h2,h1,h3];rfl
 exact⟨1,by decide,by show m.step.outcome.isSome=true;rw[e];rfl,by show m.step.outcome=_;rw[e]⟩
theorem zY{m:Sre.M}{code:Array Nat}(hm:m.code=code)(ht:m.text=t.toArray)(hl:m.lim=t.length)(h5:m.outcome=none)(h7:m.frames=[])(hf:m.hasFirstSet=true)(f:From t p u)(hu:∀x∈u,Ins code x false):aO (m.attemptFrom p true) λm=>m.outcome=some .failed:=by
 obtain⟨x,e⟩:=setN hm ht hl hf f hu;rw[e];exact nones rfl h5 h7
theorem setF{code:Array Nat}{g:Nat}(hl:(Sre.header code).1<=t.length-p)(hf:∀m:Sre.M,m.code=code->m.hasFirstSet=true)(f:From t p (u++c::l))(hu:∀x∈u,Ins code x false)(hc:Ins code c true) :
  ∃x,Sre.forSearch code t.toArray g p t.length false=rst (kn code t (if (decide ((Sre.header code).1>1) && !((Sre.header code).2 != 0&&code.getD 2 0 &&& 5 != 0))=true then max p (t.length-((Sre.header code).1-1)) else t.length))
   (Sre.header code).2 (p+u.length) true (fd0 (p+u.length) (Sq (2*g) none)) (fs0 (Sre.header code).2 (p+u.length)) x:=by
 have hp:=f.le;unfold Sre.forSearch;dsimp only;rw[if_neg (show ¬ ((decide (p>t.length)||decide (t.length-p<(Sre.header code).1))=true) by rw[Pr,decide_eq_true_eq,decide_eq_true_eq];omega)]
 exact setM rfl rfl rfl rfl rfl rfl rfl (hf _ rfl) f hu hc
theorem qJ{code:Array Nat}{g:Nat}(hf:∀m:Sre.M,m.code=code->m.hasFirstSet=true)(f:From t p u)(hu:∀x∈u,Ins code x false):aO (Sre.forSearch code t.toArray g p t.length false) λm=>m.outcome=some .failed:=by
 unfold Sre.forSearch;dsimp only;split
 ·exact nones rfl rfl rfl
 ·exact zY rfl rfl rfl rfl rfl (hf _ rfl) f hu
theorem rm{x:Nat}(h:x∈Sig/\plainQ x=true):Ins cS x false:=ins (l:=[34,92]) (by rfl') h.1 (by
 exact(by decide:∀x∈Sig,plainQ x=true->([34,92]:List Nat).contains x=false) x h.1 h.2)
theorem Ce(hL:t.length<=100000)(f:From t p (u++c::l))(hu:∀x∈u,x∈Sig/\plainQ x=true)(hc:c=34∨c=92) :
  aO (Sre.forSearch cS t.toArray 1 p t.length false) (Found (p+u.length) (p+u.length+1) #[some (p+u.length),some (p+u.length+1)] 1 1):=by
 have hle:=f.le;rw[KR,KJ] at hle;have hcs:c∈Sig:=by rcases hc with rfl | rfl <;> decide
 have e0:t.toArray.getD (p+u.length) 0=c:=f.skip.hd.1;have g1:Go 1 (rst (kn cS t t.length) 10 (p+u.length) true (fd0 (p+u.length) #[none,none]) (fs0 10 (p+u.length))) _:=cG (i:=0) (wd rfl rfl) rfl (by show(0:Int) <= -1+1;decide)
 have g2:=g1.trans (cD (op:=.IN) (wd rfl rfl) rfl (by show _<t.length;omega) (by show Acc _ _ (t.toArray.getD (p+u.length) 0) _;rw[e0];exact accT (l:=[34,92]) (by rfl') hcs (by rcases hc with rfl | rfl <;> rfl)))
 have g3:=g2.trans (cG (i:=1) (wd rfl rfl) rfl (by show(1:Int)<=0+1;decide))
 have g4:=g3.trans (dZ (wd rfl rfl) rfl);exact(g4.ends (dR _ _ _ _ _ _ _ rfl)).sought (setF (by show 1<=_;omega) hfS f (λx hx=>rm (hu x hx)) (ins (l:=[34,92]) (by rfl') hcs (by rcases hc with rfl | rfl <;> rfl))) (Ly rfl)
theorem q8(f:From t p u)(hu:∀x∈u,x∈Sig/\plainQ x=true):aO (Sre.forSearch cS t.toArray 1 p t.length false) λm=>m.outcome=some .failed:=qJ hfS f λx hx=>rm (hu x hx)
noncomputable abbrev Uns:List Nat:=[32,34,39,59,92]
theorem xu(hL:t.length<=100000)(ht:t=u++c::l)(hu:∀x∈u,x∈Sig/\Uns.contains x=false)(hc:c∈Sig)(hc2:Uns.contains c=true):aO (Sre.forSearch cF t.toArray 0 0 t.length false) (Found u.length (u.length+1) #[] (-1) (-1)):=by
 have f:From t 0 (u++c::l):=by have:=From.of [] t;rw[<-ht];exact this
 have hle:=f.le;rw[KR,KJ] at hle;have e0:t.toArray.getD (0+u.length) 0=c:=f.skip.hd.1;rw[Lr] at e0;have g2:Go 1 (rst (kn cF t t.length) 18 u.length true (fd0 u.length #[]) (fs0 18 u.length)) _:=cD (op:=.IN) (wd rfl rfl) rfl (by show _<t.length;omega) (by show Acc _ _ (t.toArray.getD u.length 0) _;rw[e0];exact accT (l:=Uns) (by rfl') hc hc2)
 have g4:=g2.trans (dZ (wd rfl rfl) rfl);have e:=setF (g:=0) (by show 1<=_;omega) hfF f (λx hx=>ins (l:=Uns) (by rfl') (hu x hx).1 (hu x hx).2) (ins (l:=Uns) (by rfl') hc hc2)
 rw[Lr] at e;exact(g4.ends (dR _ _ _ _ _ _ _ rfl)).sought e (Ly rfl)
theorem xG(hu:∀x∈t,x∈Sig/\Uns.contains x=false):aO (Sre.forSearch cF t.toArray 0 0 t.length false) λm=>m.outcome=some .failed :=
 qJ hfF (From.of [] t) λx hx=>ins (l:=Uns) (by rfl') (hu x hx).1 (hu x hx).2
noncomputable abbrev kJ(t:List Nat):Kn:=⟨cJ,t.toArray,t.length,0,true⟩
theorem stJ(h:1<=t.length):∃x,Sre.forMatch cJ t.toArray 0 0 t.length true false=rst (kJ t) 5 0 true (fd0 0 #[]) ⟨[],0,#[],none⟩ x:=by
 unfold Sre.forMatch;dsimp only;rw[if_neg (show ¬ (((Sre.header cJ).1 != 0&&decide (0<=t.length)&&decide (t.length-0<(Sre.header cJ).1))=true) from λhh=>by
  have:t.length-0<1:=of_decide_eq_true (Px.mp hh).2;omega)]
 exact⟨_,rfl⟩
theorem yd(h1:t≠[])(hL:t.length<=100000)(ht:∀x∈t,x∈Tok4):aO (Sre.forMatch cJ t.toArray 0 0 t.length true false) (Found 0 t.length #[] (-1) (-1)):=by
 have hl:1<=t.length:=by cases t with | nil=>exact absurd rfl h1 | cons=>exact Mm (K5 _)
 have f:From t 0 (t++[]):=by rw[Lg];exact From.of [] t
 have g1:Go 1 (rst (kJ t) 5 0 true (fd0 0 #[]) ⟨[],0,#[],none⟩) _:=bN (i:=22) (w:=t.length) (j:=1) (wd rfl rfl) rfl rfl rfl hl (by show 0+t.length<=t.length;omega) hL (by show(0:Nat)<=4;decide) (by show(0:Nat)<=1000000;decide) (λj hj=>by
  show Acc _ _ (t.toArray.getD (0+j) 0) _;rw[f.in_ hj];exact accT (l:=Tok4) (by rfl') (tok4 (ht _ (fC hj))).1 (M6.mpr (ht _ (fC hj)))) λh=>absurd h (by show ¬ (0+t.length<t.length);omega)
 have g2:=g1.trans (dZ (wd rfl rfl) (by show(true&&(true&&0+t.length != t.length))=false;rw[Lr];simp))
 have e:=(g2.ends (dR _ _ _ _ _ _ _ rfl)).sought (stJ hl) (Ly rfl)
 rwa [Lr] at e
theorem yf{A A':Fd}(n:Nat):∀(pc q p w:Nat) (A A':Fd),p<=t.length->n<p+1->w<=1000->End (2*n+3) (ran false (kJ t) pc q true A ⟨[bY false 5 p true A' n],w,#[],none⟩) λm=>m.outcome=some .failed:=by
 induction n with
 | zero =>
  intro pc q p w A A' hp hn hw;exact((iC (by show((0:Nat):Int)-1<((1:Nat):Int);decide)).ends fails).le (by decide)
 | succ n ih =>
  intro pc q p w A A' hp hn hw
  by_cases h0:n=0
  ·subst h0
   exact((iC (by show((1:Nat):Int)-1<((1:Nat):Int);decide)).ends fails).le (by decide)
  ·have e:((n+1:Nat):Int)-1=(n:Int):=by omega
   have g1:=Gz (K:=kJ t) (pc:=pc) (pos:=q) (o:=true) (A:=A) (pc':=5) (pos':=p) (o':=true) (A':=A') (c:=((n+1:Nat):Int)) (r:=[]) (w:=w) (l := #[]) (u:=none) (i:=22) (by rw[e];show ¬ ((n:Int)<((1:Nat):Int));omega) rfl (by omega)
   rw[e] at g1;have g2:=g1.trans (uq (wd rfl rfl) (by show(true&&(true&&p-1 != t.length))=true;simp;omega))
   exact(g2.ends (ih 22 (p-1) (p-1) (w-1+1) _ A' (by omega) (by omega) (by omega))).le (by omega)
theorem ye(hL:t.length<=100000)(ht:t=u++c::l)(hu:∀x∈u,x∈Tok4)(hc:c∈Sig)(hc2:Tok4.contains c=false):aO (Sre.forMatch cJ t.toArray 0 0 t.length true false) λm=>m.outcome=some .failed:=by
 have f:From t 0 (u++c::l):=by have:=From.of [] t;rw[<-ht];exact this
 have hle:=f.le;rw[KR,KJ] at hle;have hy:∀j,j<u.length->Acc (kJ t) (5+4) ((kJ t).text.getD (0+j) 0) true:=λj hj=>by
  show Acc _ _ (t.toArray.getD (0+j) 0) _;rw[f.in_ hj];exact accT (l:=Tok4) (by rfl') (tok4 (hu _ (fC hj))).1 (M6.mpr (hu _ (fC hj)))
 have hn:0+u.length<(kJ t).lim->Acc (kJ t) (5+4) ((kJ t).text.getD (0+u.length) 0) false:=λ_=>by
  show Acc _ _ (t.toArray.getD (0+u.length) 0) _;rw[f.skip.hd.1];exact accF (l:=Tok4) (by rfl') hc hc2
 by_cases h0:u.length<1
 ·have g1:Go 1 (rst (kJ t) 5 0 true (fd0 0 #[]) ⟨[],0,#[],none⟩) _:=ur (w:=u.length) (j:=1) (wd rfl rfl) rfl rfl h0 (by show 0+u.length<=t.length;omega) (by show 0+1<=t.length;omega) hL (by show(0:Nat)<=4;decide) (by show(0:Nat)<=1000000;decide) hy hn
  exact(g1.ends fails).sought (stJ (by omega)) (by decide)
 ·have g1:Go 1 (rst (kJ t) 5 0 true (fd0 0 #[]) ⟨[],0,#[],none⟩) _:=bN (i:=22) (w:=u.length) (j:=1) (wd rfl rfl) rfl rfl rfl (by omega) (by show 0+u.length<=t.length;omega) hL (by show(0:Nat)<=4;decide) (by show(0:Nat)<=1000000;decide) hy hn
  have g2:=g1.trans (uq (wd rfl rfl) (by show(true&&(true&&0+u.length != t.length))=true;simp;omega))
  exact(g2.ends (yf (A:=fd0 0 #[]) (A':=fd0 0 #[]) u.length 22 (0+u.length) (0+u.length) 1 _ _ (by omega) (by omega) (by decide))).sought (stJ (by omega)) (by omega)
end
end
section
open PySem.Builtin.Re
section
variable{M:Model}{A:Around}{E:Value->Shared->Prop}{s:Shared}
theorem vC{P:Sre.M->Prop}{k:Nat}(ih:∀k',k=k'+1->∀(m:Sre.M) (n:Nat) (Q:Sre.M->Shared->Prop),n<=4*(k'+1)->(its n m).outcome.isSome=true->P (its n m)->(∀m',P m'->Q m' s)->wpAny M A (reDrive (k'+1) m) Q E s)(m:Sre.M)(n:Nat)(Q:Sre.M->Shared->Prop):n<=4*(k+1)->(its n m).outcome.isSome=true->P (its n m)->(∀m',P m'->Q m' s)->wpAny M A (reDrive (k+1) m) Q E s:=by
 intro hn ho hp hq;show wpAny M A (if (m.runFor reTurnSteps).outcome.isSome=true then pure (m.runFor reTurnSteps) else rule "sre.turn" >>= λ_=>reDrive k (m.runFor reTurnSteps)) Q E s;have e4:m.runFor reTurnSteps=its 4 m:=Af 4 m;rw[e4]
 by_cases h:(its 4 m).outcome.isSome=true
 ·rw[if_pos h]
  refine wpAny_pure (hq _ ?_)
  by_cases h4:n<=4
  ·have e:=gn n (4-n) m
   rw[N7 h4,jM ho] at e;rw[e];exact hp
  ·have e:its n m=its 4 m:=by
    obtain⟨j,rfl⟩:∃j,n=4+j:=⟨n-4,by omega⟩
    rw[gn,jM h]
   rw[<-e];exact hp
 ·rw[if_neg h]
  refine wpAny_bind (wpAny_rule ?_);have h4:4<n:=by
   refine Ov λq=>h ?_;have e:=gn n (4-n) m;rw[N7 q,jM ho] at e;rw[e];exact ho
  obtain⟨j,rfl⟩:∃j,n=4+j:=⟨n-4,by omega⟩
  rw[gn] at ho hp;cases k with
  | zero=>omega
  | succ k=>exact ih k rfl (its 4 m) j Q (by omega) ho hp hq
theorem drive{P:Sre.M->Prop}:∀(k:Nat) (m:Sre.M) (n:Nat) (Q:Sre.M->Shared->Prop),n<=4*(k+1)->(its n m).outcome.isSome=true->P (its n m)->(∀m',P m'->Q m' s)->wpAny M A (reDrive (k+1) m) Q E s
 | 0=>vC λ_ h=>nomatch h
 | k+1=>vC λ_ h=>Nat.succ.inj h▸drive k
theorem wU{l:List Nat}{p:Nat->Bool}{f:Nat->String}{Q:PUnit->Shared->Prop}(h:Q ⟨⟩ s) :
  wpAny M A (forIn l (⟨⟩:PUnit) λi _=>if p i=true then do rule (f i);pure (ForInStep.yield ⟨⟩) else pure (ForInStep.yield ⟨⟩)) Q E s:=by
 induction l with
 | nil=>rw[Oi];exact wpAny_pure h
 | cons a l ih =>
  rw[NK];refine wpAny_bind ?_
  by_cases q:p a=true
  ·rw[if_pos q];exact wpAny_bind (wpAny_rule (wpAny_pure ih))
  ·rw[if_neg q];exact wpAny_pure ih
theorem jz{m:Sre.M}{P:Sre.M->Prop}{Q:Option Sre.M->Shared->Prop}(h:aO m P)(hok:∀m',P m'->(m'.outcome=some .matched/\Q (some m') s)∨(m'.outcome=some .failed/\Q none s)):wpAny M A (reRunToEnd m) Q E s:=by
 obtain⟨n,h1,h2,h3⟩:=h;unfold reRunToEnd;refine wpAny_bind ?_;show wpAny M A (reDrive (18446744073709551615+1) m) _ _ _;refine drive _ m n _ (by omega) h2 h3 λm' hp=>?_
 refine wpAny_bind (wU ?_);rcases hok m' hp with ⟨e,q⟩ | ⟨e,q⟩
 ·rw[e];exact wpAny_pure q
 ·rw[e];exact wpAny_pure q
end
def SpOf(g s e:Nat)(marks:Array (Option Nat))(lm:Int)(sp:List (Nat × Nat)):Prop:=(g=0/\sp=[(s,e)])∨(g=1/\∃a b,a<=b/\marks = #[some a,some b]/\lm=1/\sp=[(s,e),(a,b)])
section
variable{c:Cx}{b:Nat}{σ:Sg}
theorem rU{A:Around}{fr:List Env}{γ:Gh}{P:Frz}{s:Shared}{cs:List Cell}(S:St c fr γ P s cs){re t:Str}{tk:Tok}{pat:Value}{g pos lim:Nat}{m:Sre.M}{sp:List (Nat × Nat)}(hre:c.D.mg re=some pat)(h:SpOf g m.start m.handed m.marks m.lastmark sp)(E:Value->Shared->Prop) :
  wpAny c.M A (reNewMatch pat (.str t tk) g pos lim m) (Ev c fr γ P s cs (.mat re t sp)) E s:=by
 have fin:∀vs:List Value,vs=bU sp->wpAny c.M A (do newFields "re.Match" [.str t tk,pat,rawInt pos,rawInt lim,rawInt m.lastindex,<-newTuple vs]) (Ev c fr γ P s cs (.mat re t sp)) E s:=λvs e=>by
  refine wpAny_bind (wpAny_newTuple ?_ ?_)
  ·refine wpAny_newObj_type ?_ (by size_fits)
   have a1:=Aft.push S (o:=aQ vs.toArray 0) rfl (tyF (by decide)) tyN s.toks
   have a2:=Aft.push a1.st (o:=cC (.str t tk) pat (rawInt pos) (rawInt lim) (rawInt m.lastindex) (.ref s.heap.objs.size)) rfl (tyF (by decide)) tyN s.toks
   refine⟨_,a1.trans a2,.mat (n:=0) (Frz.put_self ..) hre (a2.gr.le _ _ ?_)⟩;rw[e];exact Frz.put_self ..
  ·rw[e]
   rcases h with ⟨_,rfl⟩ | ⟨_,a,b,_,_,_,rfl⟩
   ·show 2<=sizeLine;decide
   ·show 4<=sizeLine;decide
 unfold reNewMatch;rcases h with ⟨rfl,rfl⟩ | ⟨rfl,a,b,hab,h1,h2,rfl⟩
 ·exact fin _ rfl
 ·dsimp only
  rw[h1,h2];rw[if_neg (by
   show ¬ ((decide (((2*0+1:Nat):Int)<=1)&&decide (b<a))||false)=true
   rw[decide_eq_false (MT.mpr hab),O3];decide)]
  exact fin _ rfl
end
structure aV(c:Cx)(re:Str)(code:Array Nat)(g:Nat):Prop where
 at_:∃p tp pn fl x3 x4 k1 k2 vs n,c.D.mg re=some (.ref p)/\c.K p=some ⟨.type "re.Pattern",none,.fields #[pn,fl,.int (g:Nat) k1,x3,x4,.ref tp,.int 0 k2],#[]⟩/\c.K tp=some (aQ vs n)/\(vs.map reRawOf).map (·.toNat)=code
theorem jB:PlainAttrs "re.Pattern" :=
 ⟨⟨"object.__getattribute__",by rw[typeLookup_type,builtinLookup_eq_fast];rfl',by decide +kernel⟩,by rw[typeLookup_type,builtinLookup_eq_fast];rfl'⟩
theorem rB:Slot "re.Pattern" "search" "re.Pattern.search" :=
 .of (owner:="re.Pattern") (n:="search") (by rw[typeLookup_type,builtinLookup_eq_fast];rfl') (by decide +kernel) (by decide +kernel) (by decide +kernel)
  (by first | exact .inl (by decide +kernel) | exact .inr (by decide +kernel)) (by rw[isSubtype_type];rfl')
theorem rD:Slot "re.Pattern" "fullmatch" "re.Pattern.fullmatch" :=
 .of (owner:="re.Pattern") (n:="fullmatch") (by rw[typeLookup_type,builtinLookup_eq_fast];rfl') (by decide +kernel) (by decide +kernel) (by decide +kernel)
  (by first | exact .inl (by decide +kernel) | exact .inr (by decide +kernel)) (by rw[isSubtype_type];rfl')
theorem Cw:typeOf (.builtin "re.Pattern.search")=pure (.type "method_descriptor"):=by show builtinType _=_;rw[builtinType_eq_fast];rfl'
theorem Cy:typeOf (.builtin "re.Pattern.fullmatch")=pure (.type "method_descriptor"):=by show builtinType _=_;rw[builtinType_eq_fast];rfl'
theorem rE:entryFor table "re.Pattern.search"=some Builtin.«re.Pattern.search» := entryFor_of_tree (by rfl')
theorem CP:entryFor table "re.Pattern.fullmatch"=some Builtin.«re.Pattern.fullmatch» := entryFor_of_tree (by rfl')
theorem ie:Manifest.owners.lookup (String.ofList ['n','r','e','t','t','a','P','.','e','r'].reverse)=some Manifest.sig_re_Pattern:=by rfl'
theorem CW(a b:Value):argsOk "re.Pattern.search" ⟨[a,b],[]⟩:=by
 unfold argsOk;rw[signature?_of (id:="re.Pattern.search") (n:=['h','c','r','a','e','s']) (o:=['n','r','e','t','t','a','P','.','e','r']) (by rfl') ie];rfl'
theorem CX(a b:Value):argsOk "re.Pattern.fullmatch" ⟨[a,b],[]⟩:=by
 unfold argsOk;rw[signature?_of (id:="re.Pattern.fullmatch") (n:=['h','c','t','a','m','l','l','u','f']) (o:=['n','r','e','t','t','a','P','.','e','r']) (by rfl') ie];rfl'
section
variable{prog:Program}{w:World}{A:Around}{E:Value->Shared->Prop}{s:Shared}
theorem mC{id f:String}{p tp:Addr}{t:Str}{tk k1 k2:Tok}{pn fl x3 x4:Value}{g n:Nat}{vs:Array Value}{code:Array Nat}{Q:ReTarget->Shared->Prop}(h1:s.heap.get? p=some ⟨.type "re.Pattern",none,.fields #[pn,fl,.int (g:Nat) k1,x3,x4,.ref tp,.int 0 k2],#[]⟩)
  (h2:s.heap.get? tp=some (aQ vs n)) (h3:(vs.map reRawOf).map (·.toNat)=code) (hz:t.cps.size<=16777216) (hq:Q ⟨.ref p,.str t tk,code,t.cps,0,g,0,t.cps.size⟩ s):wpAny (model prog w) A (reTarget id f ⟨[.ref p,.str t tk],[]⟩) Q E s:=by
 unfold reTarget;dsimp only;have e:reNamed id f ["string","pos","endpos"] 1 [.str t tk] []=pure [some (.str t tk),none,none]:=rfl;rw[e];refine wpAny_bind (wpAny_pure ?_);refine wpAny_bind (wpAny_pure ?_);refine wpAny_bind (wpAny_pure ?_);refine wpAny_bind (wpAny_fieldsOf h1 rfl ?_);have e2:reTextOf (.str t tk)=pure (t.cps,0):=rfl;rw[e2];refine wpAny_bind (wpAny_pure ?_);show wpAny _ A (do let r <- reRawItems (.ref tp);pure (⟨.ref p,.str t tk,r.map (·.toNat),t.cps,0,g,min (Qd 0) t.cps.size,min (Qd (2 ^ 63-1)) t.cps.size⟩:ReTarget)) _ _ s
 unfold reRawItems;refine wpAny_bind (wpAny_bind (wpAny_seqItems h2 rfl (wpAny_pure (wpAny_pure ?_))));show Q ⟨_,_,(vs.map reRawOf).map (·.toNat),_,_,_,_,_⟩ _;rw[h3];have e3:min (Qd 0) t.cps.size=0:=Nat.zero_min _;have e4:min (Qd (2 ^ 63-1)) t.cps.size=t.cps.size:=Qo (KQ hz (by decide))
 rw[e3,e4];exact hq
end
section
variable{c:Cx}{b:Nat}{σ:Sg}
inductive Hit(g:Nat)(re t:Str)(m:Sre.M):V->Prop
 | no:aO m (λm=>m.outcome=some .failed)->Hit g re t m .none
 | yes {s e:Nat} {marks:Array (Option Nat)} {lm li:Int} {sp:List (Nat × Nat)}:aO m (Found s e marks lm li)->SpOf g s e marks lm sp->Hit g re t m (.mat re t sp)
theorem nG{A:Around}{fr:List Env}{γ:Gh}{P:Frz}{s:Shared}{cs:List Cell}(S:St c fr γ P s cs){re t:Str}{tk:Tok}{pat:Value}{code:Array Nat}{g:Nat}{m:Sre.M}{r:V}(hre:c.D.mg re=some pat)(h:Hit g re t m r)(E:Value->Shared->Prop) :
  wpAny c.M A (reAnswer ⟨pat,.str t tk,code,t.cps,0,g,0,t.cps.size⟩ m) (λf s'=>∃v,f=.done (.ret v)/\Ev c fr γ P s cs r v s') E s:=by
 unfold reAnswer;refine wpAny_bind ?_;cases h with
 | no h=>exact jz h λm' e=>.inr ⟨e,wpAny_pure ⟨_,rfl,.old S (.pu .none)⟩⟩
 | yes h hs=>exact jz h λm' e=>.inl ⟨e.out,wpAny_bind (wpAny_mono (rU S hre (by rw[e.start,e.handed,e.marks,e.lm];exact hs) E) (λv s' q=>wpAny_pure ⟨v,rfl,q⟩) λ_ _ q=>q)⟩
theorem Mp.search{re t:Str}{code:Array Nat}{g:Nat}{r:V}(hp:aV c re code g)(hz:t.cps.size<=16777216)(h:Hit g re t (Sre.forSearch code t.cps g 0 t.cps.size false) r):Mp c b σ (.gl re) "search" [.str t] r:=λN u hu=>by
 obtain⟨p,tp,pn,fl,x3,x4,k1,k2,vs,n,e1,e2,e3,e4⟩:=hp.at_;cases e1.symm.trans hu.gl_inv;have ho:=N.S.wd.kp _ _ e2;refine⟨_,_,⟨jB,rB,Cw,⟨_,ho,rfl⟩,λa' e=>by cases e;exact⟨_,ho,rfl⟩⟩,λP' s' ae xs E is=>?_⟩
 obtain⟨_,rfl,h1⟩:=is.one;obtain⟨tk,rfl⟩:=h1.str_inv;have ho':=ae.st.wd.kp _ _ e2;refine wpAny_call_entry rB ⟨_,ho',rfl⟩ rE ?_ (CW _ _);show wpAny _ N.A.in1 (do let t <- reTarget "re.Pattern.search" "search" ⟨[.ref p,.str t tk],[]⟩;reAnswer t (Sre.forSearch t.code t.text t.groups t.pos t.lim false)) _ _ s'
 refine wpAny_bind (mC ho' (ae.st.wd.kp _ _ e3) e4 hz ?_);exact nG ae.st e1 h E
theorem Mp.full{re t:Str}{code:Array Nat}{g:Nat}{r:V}(hp:aV c re code g)(hz:t.cps.size<=16777216)(h:Hit g re t (Sre.forMatch code t.cps g 0 t.cps.size true false) r):Mp c b σ (.gl re) "fullmatch" [.str t] r:=λN u hu=>by
 obtain⟨p,tp,pn,fl,x3,x4,k1,k2,vs,n,e1,e2,e3,e4⟩:=hp.at_;cases e1.symm.trans hu.gl_inv;have ho:=N.S.wd.kp _ _ e2;refine⟨_,_,⟨jB,rD,Cy,⟨_,ho,rfl⟩,λa' e=>by cases e;exact⟨_,ho,rfl⟩⟩,λP' s' ae xs E is=>?_⟩
 obtain⟨_,rfl,h1⟩:=is.one;obtain⟨tk,rfl⟩:=h1.str_inv;have ho':=ae.st.wd.kp _ _ e2;refine wpAny_call_entry rD ⟨_,ho',rfl⟩ CP ?_ (CX _ _);show wpAny _ N.A.in1 (do let t <- reTarget "re.Pattern.fullmatch" "fullmatch" ⟨[.ref p,.str t tk],[]⟩;reAnswer t (Sre.forMatch t.code t.text t.groups t.pos t.lim true false)) _ _ s'
 refine wpAny_bind (mC ho' (ae.st.wd.kp _ _ e3) e4 hz ?_);exact nG ae.st e1 h E
end
end
section
structure bz(c:Cx)(cd T:Addr):Prop where
 hd:CodeHd c.hb cd T
 tab:c.hb.get? T=some (tabObj #[])
 bui:c.hb.BuiltinsAt c.D.mg T
 ne:T≠cStatics/\mainGlobals≠T
section
variable{c:Cx}{fr:List Env}{γ:Gh}{P:Frz}{s s':Shared}{cs:List Cell}{A:Around}{E:Value->Shared->Prop}{cd T:Addr}{b:Nat}{σ:Sg}
theorem Tri.ok{h:Heap}{l:List Value}(x:Tri h l):TriplesOk l:=by
 induction x with
 | nil=>exact trivial
 | cons _ _ ih=>exact ih
theorem Tri.among{h:Heap}{l:List Value}(x:Tri h l)(pos:Pos):codeAmong pos l=none∨∃cv,codeAmong pos l=some cv/\bA h cv:=by
 induction x with
 | nil=>exact .inl rfl
 | @cons i j t u cv r c _ ih =>
  unfold codeAmong;split
  ·exact .inr ⟨cv,rfl,c⟩
  ·exact ih
theorem Tri.snoc{h:Heap}{cv:Value}{p:Pos}(x:bA h cv):Tri h (#[rawInt p.line,rawInt p.col,cv]:Array Value).toList:=.cons x .nil
theorem bz.at_(L:bz c cd T)(S:St c fr γ P s cs):∃ps,s.heap.get? T=some (tabObj ps)/\Tri s.heap ps.toList/\CodeHd s.heap cd T:=by
 obtain⟨o',e',q⟩:=S.wd.bk.sim _ _ L.tab;have hd:CodeHd s.heap cd T:=by
  obtain⟨o,vs,file,tf,flags,tg,inF,text,tt,e,e2,r⟩:=L.hd;exact⟨o,vs,file,tf,flags,tg,inF,text,tt,S.wd.bk.exact e (by rw[e2];exact tyF (by decide)) (by rw[e2];exact tyN),e2,r⟩
 rcases q with rfl | ⟨q,_⟩ | ⟨_,vs,more,q,ht,rfl⟩
 ·exact⟨#[],e',.nil,hd⟩
 ·cases q
 ·cases q
  rw[Array.empty_append] at e';exact⟨more,e',ht,hd⟩
theorem bz.bm(L:bz c cd T)(S:St c fr γ P s cs):∃bm o,c.D.mg "__builtins__"=some (.ref bm)/\bm≠builtinsNs/\bm≠T/\s.heap.get? bm=some o/\o.cls=.type "module"/\o.dict=some builtinsNs/\o.data=.plain:=by
 obtain⟨bm,o,h1,h2,_,h4,h5,h6,h7⟩:=L.bui;exact⟨bm,o,h1,h2,h4,S.wd.bk.exact h5 (by rw[h6];exact tyF (by decide)) (by rw[h6];exact tyN),h6,h7⟩
theorem bz.grown(L:bz c cd T)(S:St c fr γ P s cs){ps more:Array Value}{h':Heap}{t:Nat}(hT:s.heap.get? T=some (tabObj ps))(hx:Heap.ExtBut T s.heap h')(hT':h'.get? T=some (tabObj (ps++more)))(ht:Tri h' more.toList) :
  Aft c fr γ P s cs P {s with heap:=h',toks:=t}:=by
 have kp:Keep s.heap h':=⟨λb o e=>by
  by_cases hb:b=T
  ·subst hb
   rw[hT] at e;cases e;exact⟨_,hT',.inr (.inr ⟨rfl,ps,more,rfl,ht,rfl⟩)⟩
  ·exact⟨o,hx _ _ hb e,.inl rfl⟩⟩
 have le:∀b o,P b=some o->h'.get? b=some o:=λb o e=>kp.exact (S.real.le b o e) (S.real.kind b o e).1 (S.real.kind b o e).2;obtain⟨_,_,_,hd⟩:=L.at_ S;have hd':CodeHd h' cd T:=by
  obtain⟨o,vs,file,tf,flags,tg,inF,text,tt,e,e2,r⟩:=hd;exact⟨o,vs,file,tf,flags,tg,inF,text,tt,kp.exact e (by rw[e2];exact tyF (by decide)) (by rw[e2];exact tyN),e2,r⟩
 exact⟨.refl _ _,⟨S.real.keep (.refl _ _) kp le S.real.kind,S.wd.keep kp,S.frs.keep kp⟩,⟨kp,λo=>o.step_table (L.hd.tab L.tab) (hd.tab hT) (hd'.tab hT') hx L.ne.1,.refl _,rfl⟩⟩
theorem Fg(L:bz c cd T)(S:St c fr γ P s cs){env:Env}(hc:env.code=.ref cd){pos:Pos}{fl:Nat}{nm q:Str}{p:Arguments}{scope:Scope}{body:FuncBody}{Q:Value->Shared->Prop}
  (hQ:∀cv s',Aft c fr γ P s cs P s'->bA s'.heap cv->Q cv s'):wpAny c.M A (functionCode env pos fl nm q p scope body) Q E s:=by
 obtain⟨ps,hT,ht,hd⟩:=L.at_ S;rcases ht.among pos with hn | ⟨cv,hs,hcv⟩
 ·refine wpAny_functionCodeX hc (hd.code hT ht.ok) (hd.tab hT) hn λc' h' tk hx hge hlt _ hrec htb ⟨P',_,_,ho,_⟩=>?_
  have hca:bA h' (.ref c'):=by
   obtain⟨o,vs,e1,e2,e3,_⟩:=ho;obtain⟨c2,o2,vs2,t2,q1,q2,q3,q4⟩:=hrec;cases q1;rw[e1] at q2;cases q2;exact⟨c',o,vs2,t2,q,rfl,e1,e2,q3,q4⟩
  exact hQ _ _ (L.grown S hT hx htb.2 (.snoc hca)) hca
 ·exact wpAny_functionCode_hit hc (hd.code hT ht.ok) hs (hQ cv s (.refl S) hcv)
theorem Ff(N:Now c b σ)(L:bz c cd T)(hc:N.env.code=.ref cd){params:Arguments}{body:Expr}{scope:Scope}{pos:Pos}(hdef:defaultsOf params N.env=([],[]))(hko:params.kwonlyargs=[])(hcl:closureFor scope N.env=pure []){Q:Value->Shared->Prop}{E:Value->Shared->Prop}
  (hQ:∀f P' s' fd ob,N.To P' s'->N.P f=none->P' f=some ob->ob.data=.func fd->ob.cls=.type "function"->bA s'.heap fd.code->fd.params=params->fd.body=.expr body->fd.scope=scope->fd.closure=[]->fd.defaults=.none->fd.kwdefaults=.none->fd.globals=mainGlobals->fd.builtins=builtinsNs->Q (.ref f) s') :
  N.wp (eval (.Lambda params body scope pos) N.env) Q E:=by
 refine PySem.W.kla_eval hdef ?_;rw[makeFunction_eq];simp only[QB,List.filterMap_nil,RL,if_true,pure_bind];unfold makeTail;rw[hcl,N.he.gl,N.he.bu];refine wpAny_bind (wpAny_pure ?_);simp only[RL,if_true];refine wpAny_bind (wpAny_pure ?_);refine wpAny_bind (Fg L N.S hc λcv s1 a1 hcv=>?_);obtain⟨bm,o,h1,h2,_,h4,h5,h6,h7⟩:=L.bm a1.st;refine wpAny_bind (wpAny_builtinsFor a1.st.wd.g h1 h2 h4 h5 h6 h7 ?_);refine wpAny_bind (wpAny_nsGet a1.st.wd.g ?_);refine wpAny_bind (wpAny_pure (wpAny_newObj_type ?_ (by size_fits)))
 have a2:=Aft.push a1.st (o:={cls:=.type "function",data:=.func {name:="<lambda>",qualname:=N.env.qual++"<lambda>",params:=params,body:=.expr body,scope:=scope,globals:=mainGlobals,closure:=[],defaults:=.none,kwdefaults:=.none,doc:=.none,pyModule:=(c.D.mg "__name__").getD .none,annotations:=none,code:=cv,closureTuple:=.none,builtins:=builtinsNs}}) rfl (tyF (by decide)) tyN s1.toks
 refine hQ _ _ _ _ _ (a1.trans a2) ?_ (Frz.put_self ..) rfl rfl ?_ rfl rfl rfl rfl rfl rfl rfl rfl
 ·cases q:N.P s1.heap.objs.size with
  | none=>rfl
  | some o=>exact absurd (Heap.lt_size (a1.st.real.le _ _ (a1.gr.le _ _ q))) (Mq _)
 ·obtain⟨a,oc,vs,t,q,e1,e2,e3⟩:=hcv
  exact⟨a,oc,vs,t,q,e1,Heap.get?_push_of_some _ e2,e3⟩
end
end
section
open PySem.Builtin.Re
noncomputable def bx(t:Str)(p s:Nat):List Str:=match decide (p<s) with | true=>[⟨t.cps.extract p s⟩] | false=>[]
inductive Subs(code:Array Nat)(g:Nat)(t:Str)(F:List (Nat × Nat)->Str):Nat->List Str->Nat->Prop
 | fin {p:Nat}:aO (Sre.forSearch code t.cps g p t.cps.size false) (λm=>m.outcome=some .failed)->Subs code g t F p (bx t p t.cps.size) 0
 | step {p s e n:Nat} {marks:Array (Option Nat)} {lm li:Int} {sp:List (Nat × Nat)} {r:List Str}:aO (Sre.forSearch code t.cps g p t.cps.size false) (Found s e marks lm li)->SpOf g s e marks lm sp->s<e->Subs code g t F e r n ->
   Subs code g t F p (bx t p s++F sp::r) (n+1)
section
variable{prog:Program}{w:World}{A:Around}{E:Value->Shared->Prop}{s:Shared}
theorem jf{p tp:Addr}{t:Str}{tk k1 k2:Tok}{pn fl x3 x4:Value}{g n:Nat}{vs:Array Value}{code:Array Nat}{Q:ReTarget->Shared->Prop}(h1:s.heap.get? p=some ⟨.type "re.Pattern",none,.fields #[pn,fl,.int (g:Nat) k1,x3,x4,.ref tp,.int 0 k2],#[]⟩)
  (h2:s.heap.get? tp=some (aQ vs n)) (h3:(vs.map reRawOf).map (·.toNat)=code) (hq:Q ⟨.ref p,.str t tk,code,t.cps,0,g,0,t.cps.size⟩ s):wpAny (model prog w) A (reWholeTarget (.ref p) (.str t tk)) Q E s:=by
 unfold reWholeTarget;refine wpAny_bind (wpAny_fieldsOf h1 rfl ?_);have e2:reTextOf (.str t tk)=pure (t.cps,0):=rfl;rw[e2];refine wpAny_bind (wpAny_pure ?_);show wpAny _ A (do let r <- reRawItems (.ref tp);pure (⟨.ref p,.str t tk,r.map (·.toNat),t.cps,0,g,0,t.cps.size⟩:ReTarget)) _ _ s
 unfold reRawItems;refine wpAny_bind (wpAny_bind (wpAny_seqItems h2 rfl (wpAny_pure (wpAny_pure ?_))));show Q ⟨_,_,(vs.map reRawOf).map (·.toNat),_,_,_,_,_⟩ _;rw[h3];exact hq
end
theorem pY:entryFor table "re.Pattern.sub.loop"=some Builtin.«re.Pattern.sub.loop» := entryFor_of_tree (by rfl')
section
variable{c:Cx}{fr:List Env}{γ:Gh}{P0 P:Frz}{s0 s:Shared}{cs:List Cell}{A:Around}{b:Nat}{σ:Sg}{L:Addr}
theorem Aft.pushL(hB:Wd c c.hb)(hf:Frs c.hb s0.heap fr)(X:Aft c fr γ P0 s0 cs P s)(bL:aF c γ P s0.heap L){acc:Array Value}{m:Nat}(eL:s.heap.get? L=some (aa acc m))(hz:acc.size<=1000000){v:Value}{Q:Unit->Shared->Prop}{E:Value->Shared->Prop}
  (hQ:∀m' h',Aft c fr γ P0 s0 cs P {s with heap:=h' }->h'.get? L=some (aa (acc.push v) m')->Q () {s with heap:=h' }):wpAny c.M A (updateSeq L (·.push v)) Q E s:=by
 obtain⟨m',hm⟩:=f9 (·.push v) acc m;have X2:=bH.but hB hf (⟨X.gr,X.ext,X.st⟩:bH c fr γ P0 s0 P s cs) bL (h':=s.heap.update L (Obj.mapSeq (·.push v))) (t:=s.toks) (λb o hb e=>by rw[Heap.get?_update_other _ _ (Ne.symm hb)];exact e) (.data eL λ_ q=>by cases q)
 refine wpAny_updateSeq eL rfl (hQ m' _ ⟨X2.gr,X2.st,X2.ext⟩ ?_) (by show acc.size<=16777216;omega) (by show(acc.push v).size<=16777216+1;rw[Py];omega)
 rw[Heap.get?_update_self _ eL (by rw[hm];rfl),hm]
theorem lF{vs:List Value}{ss:List Str}(a:StrsAre vs ss)(x:Str)(t:Tok):StrsAre (vs++[.str x t]) (ss++[x]):=by
 induction a with
 | nil=>exact .cons x t .nil
 | cons y u _ ih=>exact .cons y u ih
theorem o5{α:Type}{k:Bool}{x:Sem Unit}{r:Sem α}{Q:α->Shared->Prop}{E:Value->Shared->Prop}(h:k=true->x=pure ())(hr:wpAny c.M A r Q E s):wpAny c.M A (if k=true then x >>= λ_=>r else r) Q E s:=by
 by_cases hk:k=true
 ·rw[if_pos hk,h hk];exact wpAny_bind (wpAny_pure hr)
 ·rw[if_neg hk];exact hr
theorem wW{α β δ:Type}{k:Prop}[Decidable k]{x:Sem α}{y:Sem β}{z:β->Sem α}{K:α->Sem δ}{Q:δ->Shared->Prop}{E:Value->Shared->Prop}(h:wpAny c.M A (if k then x else y >>= z) (λa s=>wpAny c.M A (K a) Q E s) E s) :
  wpAny c.M A (if k then x >>= K else y >>= λb=>z b >>= K) Q E s:=by
 have e:(if k then x >>= K else y >>= λb=>z b >>= K)=(if k then x else y >>= z) >>= K:=by
  by_cases q:k
  ·rw[if_pos q,if_pos q]
  ·rw[if_neg q,if_neg q,bind_assoc]
 rw[e];exact wpAny_bind h
theorem pX(hB:Wd c c.hb)(hf:Frs c.hb s0.heap fr)(X:Aft c fr γ P0 s0 cs P s)(bL:aF c γ P s0.heap L){acc:Array Value}{m:Nat}(eL:s.heap.get? L=some (aa acc m))(hz:acc.size<=1000000){ss:List Str}(ha:StrsAre acc.toList ss){t:Str}{p q:Nat}(ht:t.cps.size<=1000000)
  {α:Type} {k:Sem α} {Q:α->Shared->Prop} {E:Value->Shared->Prop}
  (hQ:∀s' acc' m',Aft c fr γ P0 s0 cs P s'->s'.heap.get? L=some (aa acc' m')->StrsAre acc'.toList (ss++bx t p q)->wpAny c.M A k Q E s'):wpAny c.M A (if p<q then reSlice t.cps 0 p q >>= λx=>updateSeq L (·.push x) >>= λ_=>k else k) Q E s:=by
 by_cases h:p<q
 ·rw[if_pos h]
  rw[show bx t p q=[⟨t.cps.extract p q⟩] from congrArg (cond · _ []) (decide_eq_true h)] at hQ;unfold reSlice;rw[if_pos (by decide)]
  refine wpAny_bind (wpAny_mkStr ?_ (by show(t.cps.extract p q).size<=16777216;rw[Qj];omega))
  refine wpAny_bind (Aft.pushL (s:={s with toks:=s.toks+1}) hB hf (X.trans (.toks X.st _)) bL eL hz λm' h' X' e'=>?_)
  refine hQ _ _ _ X' e' ?_;rw[Oo];exact lF ha _ _
 ·rw[if_neg h]
  rw[show bx t p q=[] from congrArg (cond · [(⟨t.cps.extract p q⟩:Str)] []) (decide_eq_false h),Lg] at hQ;exact hQ s acc m X eL ha
theorem yz{A1:Around}(X:Aft c fr γ P0 s0 cs P s){acc:Array Value}{m:Nat}(eL:s.heap.get? L=some (aa acc m)){tt:List Str}(ha:StrsAre acc.toList tt)(hne:tt≠[])(hg:bc "" tt<=16777216){wc:Bool}{n:Nat}{y:Str}{ty:Tok}(hy:y=""){R:Result->Shared->Prop}
  (hR:∀v s' P',Aft c fr γ P0 s0 cs P' s'->Is c.D γ P' v (cond wc (.tup [.str (Txt.join "" tt),.int n]) (.str (Txt.join "" tt)))->R (.ok (.ret v)) s') {E:Value->Shared->Prop} {z:Sem Fin} :
  wpAny c.M A1 (do
   let xs <- seqItems? (Value.ref L)
   if (xs.getD #[]).isEmpty=true then z else do
    let text <- call (.builtin "str.join") [.str y ty,.ref L]
    if wc=true then do
     let r <- holding [text] do
      let i <- mkInt n
      newTuple [text,i]
     ret r
    else ret text) (λfin s'=>match fin with | .done f=>R (.ok f) s' | .again c'=>c'.quiet=true/\codeAny c.M A c' R s') E s:=by
 subst hy;refine wpAny_bind (wpAny_seqItems eL rfl ?_);have hl:=gU ha;have h0:0<tt.length:=OJ.mpr hne;rw[if_neg (show ¬ (((some acc).getD #[]).isEmpty=true) by
  show ¬ (acc.isEmpty=true);rw[Array.isEmpty_iff]
  rintro rfl
  rw[<-hl] at h0;exact absurd h0 (Mq _))]
 obtain⟨l,e1,e2⟩:=lE ha;refine wpAny_bind (SC.join (l:=l) ⟨_,eL,rfl,m,by rw[<-e1]⟩ e2 (joinOk_of hg) λt' k=>?_)
 have X2:=X.trans (.toks X.st k);cases wc with
 | false=>exact wpAny_pure (hR _ _ _ X2 (.pu (.str _ _)))
 | true =>
  rw[if_pos rfl];refine wpAny_bind (wpAny_holding (wpAny_bind (wpAny_mkInt (wpAny_newTuple ?_ (by show 2<=sizeLine;decide)))))
  obtain⟨P2,a2,i2⟩:=jU (vs:=[.str (Txt.join "" tt) t',.int n k]) X2.st (.cons (.str _ _) (.cons (.int _ _) .nil)) (k+1);exact wpAny_pure (hR _ _ _ (X2.trans a2) i2)
theorem pW(hB:Wd c c.hb)(hf:Frs c.hb s0.heap fr){t:Str}{tk k1 k2:Tok}{code:Array Nat}{g:Nat}{p tp:Addr}{pn fl x3 x4 repl:Value}{n0:Nat}{vs:Array Value}{F:List (Nat × Nat)->Str}{way:Int}{wc:Bool}
  (e2:c.K p=some ⟨.type "re.Pattern",none,.fields #[pn,fl,.int (g:Nat) k1,x3,x4,.ref tp,.int 0 k2],#[]⟩) (e3:c.K tp=some (aQ vs n0)) (e4:(vs.map reRawOf).map (·.toNat)=code) (hw:(way==0)=true->reLiteralCannotBeTurned repl=pure ()) (ht:t.cps.size<=100000)
  (item:∀(s:Shared) (P:Frz) (m:Sre.M) (s1 e:Nat) marks lm li sp (Q:Value->Shared->Prop) (E:Value->Shared->Prop),Aft c fr γ P0 s0 cs P s->Found s1 e marks lm li m->SpOf g s1 e marks lm sp->(∀k P' s',Aft c fr γ P s cs P' s'->Q (.str (F sp) k) s') ->
   wpAny c.M A.in1 (if (way==0)=true then pure repl else do let found <- reNewMatch (.ref p) (.str t tk) g 0 t.cps.size m;holding [found] (if (way==1)=true then call repl [found] else do reExpand repl (<- reFound found))) Q E s) {R:Result->Shared->Prop} :
  ∀ {q n k:Nat} {r:List Str} (_:Subs code g t F q r k) {s:Shared} {P:Frz} {acc:Array Value} {m:Nat} {ss:List Str},Aft c fr γ P0 s0 cs P s->aF c γ P s0.heap L->s.heap.get? L=some (aa acc m)->StrsAre acc.toList ss->acc.size+r.length<=1000000->bc "" (ss++r)<=16777216->ss++r≠[] ->
   (∀v s' P',Aft c fr γ P0 s0 cs P' s'->Is c.D γ P' v (cond wc (.tup [.str (Txt.join "" (ss++r)),.int ((n+k:Nat):Int)]) (.str (Txt.join "" (ss++r))))->R (.ok (.ret v)) s') ->
   codeAny c.M A (.builtin "re.Pattern.sub.loop" ⟨[.ref p,.str t tk,repl,rawInt way,rawInt 0,rawInt n,rawInt q,rawInt q,.bool false,.ref L,.bool wc],[]⟩) R s:=by
 intro q n k r h
 induction h generalizing n with
 | @fin q h =>
  intro s P acc m ss X bL eL ha hz hg hne hR;refine codeAny_builtin pY ?_;rw[Around.under_plainId (by decide +kernel) _]
  unfold Builtin.«re.Pattern.sub.loop»;dsimp only[rawInt];refine wpAny_bind (jf (X.st.wd.kp _ _ e2) (X.st.wd.kp _ _ e3) e4 ?_);refine o5 hw ?_;refine wpAny_bind ?_;rw[if_neg (by simp)]
  refine jz h λm' e=>.inr ⟨e,?_⟩;refine pX hB hf X bL eL (by omega) ha (KQ ht (by decide)) λs1 acc1 m1 X1 eL1 ha1=>?_
  refine wpAny_bind (wpAny_mkStr ?_ (by show(t.cps.extract 0 0).size<=16777216;rw[Qj];omega))
  exact yz (s:={s1 with toks:=s1.toks+1}) (X1.trans (.toks X1.st _)) eL1 ha1 hne hg (by show(⟨t.cps.extract 0 0⟩:Str)=⟨#[]⟩;simp) hR
 | @step q s1 e n' marks lm li sp r h hs hlt _ ih =>
  intro s P acc m ss X bL eL ha hz hg hne hR;refine codeAny_builtin pY ?_;rw[Around.under_plainId (by decide +kernel) _]
  unfold Builtin.«re.Pattern.sub.loop»;dsimp only[rawInt];refine wpAny_bind (jf (X.st.wd.kp _ _ e2) (X.st.wd.kp _ _ e3) e4 ?_);refine o5 hw ?_;refine wpAny_bind ?_;rw[if_neg (by simp)]
  refine jz h λm' e'=>.inl ⟨e'.out,?_⟩;refine pX hB hf X bL eL (by omega) ha (KQ ht (by decide)) λs2 acc1 m1 X1 eL1 ha1=>?_
  refine wW ?_;have ha1:StrsAre acc1.toList (ss++bx t q s1):=e'.start▸ha1;refine item s2 P m' s1 e marks lm li sp _ _ X1 e' hs λkk P' s3 a3=>?_;rw[if_pos (by rfl)]
  have eL3:=a3.ext.keep.exact eL1 (tyF (by decide)) tyN
  have bL3:=bL.grow eL1 a3.gr;have l1:=gU ha1;have l2:=gU ha;rw[Lp,KR] at l1;rw[Lp] at l2;rw[KR,KJ] at hz;refine wpAny_bind (Aft.pushL hB hf (X1.trans a3) bL3 eL3 (by omega) λm' h' X' e2'=>?_)
  refine wpAny_pure ⟨Code.quiet_builtin _ (by decide +kernel),?_⟩
  rw[e'.handed,e'.start,show((n:Int)+1)=((n+1:Nat):Int) from rfl,show(e==s1)=false from beq_eq_false_iff_ne.mpr (by omega)]
  have eq:ss++(bx t q s1++F sp::r)=(ss++bx t q s1++[F sp])++r:=by simp
  rw[eq] at hg hne hR;refine ih (n:=n+1) X' bL3 e2' (by rw[Oo];exact lF ha1 _ _) ?_ hg hne λv s' P2 X2 i2=>hR v s' P2 X2 ?_
  ·rw[Py];omega
  ·rw[show n+(n'+1)=n+1+n' by omega];exact i2
end
end
section
open PySem.Builtin.Re
theorem mF:Slot "re.Pattern" "sub" "re.Pattern.sub" :=
 .of (owner:="re.Pattern") (n:="sub") (by rw[typeLookup_type,builtinLookup_eq_fast];rfl') (by decide +kernel) (by decide +kernel) (by decide +kernel)
  (by first | exact .inl (by decide +kernel) | exact .inr (by decide +kernel)) (by rw[isSubtype_type];rfl')
theorem mD:Slot "re.Pattern" "subn" "re.Pattern.subn" :=
 .of (owner:="re.Pattern") (n:="subn") (by rw[typeLookup_type,builtinLookup_eq_fast];rfl') (by decide +kernel) (by decide +kernel) (by decide +kernel)
  (by first | exact .inl (by decide +kernel) | exact .inr (by decide +kernel)) (by rw[isSubtype_type];rfl')
theorem Cv:typeOf (.builtin "re.Pattern.sub")=pure (.type "method_descriptor"):=by show builtinType _=_;rw[builtinType_eq_fast];rfl'
theorem Cu:typeOf (.builtin "re.Pattern.subn")=pure (.type "method_descriptor"):=by show builtinType _=_;rw[builtinType_eq_fast];rfl'
theorem CN:entryFor table "re.Pattern.sub"=some Builtin.«re.Pattern.sub» := entryFor_of_tree (by rfl')
theorem CK:entryFor table "re.Pattern.subn"=some Builtin.«re.Pattern.subn» := entryFor_of_tree (by rfl')
theorem CV(a b d:Value):argsOk "re.Pattern.sub" ⟨[a,b,d],[]⟩:=by
 unfold argsOk;rw[signature?_of (id:="re.Pattern.sub") (n:=['b','u','s']) (o:=['n','r','e','t','t','a','P','.','e','r']) (by rfl') ie];rfl'
theorem CT(a b d:Value):argsOk "re.Pattern.subn" ⟨[a,b,d],[]⟩:=by
 unfold argsOk;rw[signature?_of (id:="re.Pattern.subn") (n:=['n','b','u','s']) (o:=['n','r','e','t','t','a','P','.','e','r']) (by rfl') ie];rfl'
theorem yK:typeLookup (.type "str") "__call__"=pure none:=by rw[typeLookup_type,builtinLookup_eq_fast];rfl'
theorem Ha:typeLookup (.type "function") "__call__"=pure (some (.builtin "function.__call__")):=by rw[typeLookup_type,builtinLookup_eq_fast];rfl'
section
variable{c:Cx}{fr:List Env}{γ:Gh}{P0 P:Frz}{s0 s:Shared}{cs:List Cell}{A:Around}{E:Value->Shared->Prop}{b:Nat}{σ:Sg}
theorem yx{p tp f:Addr}{t:Str}{tk k1 k2:Tok}{pn fl x3 x4:Value}{g n:Nat}{vs:Array Value}{code:Array Nat}{ob:Obj}{Q:Value->Shared->Prop}(h1:s.heap.get? p=some ⟨.type "re.Pattern",none,.fields #[pn,fl,.int (g:Nat) k1,x3,x4,.ref tp,.int 0 k2],#[]⟩)
  (h2:s.heap.get? tp=some (aQ vs n)) (h3:(vs.map reRawOf).map (·.toNat)=code) (hf:s.heap.get? f=some ob) (hfc:ob.cls=.type "function")
  (h:codeAny c.M A (.builtin "re.Pattern.sub.loop" ⟨[.ref p,.str t tk,.ref f,rawInt 1,rawInt 0,rawInt 0,rawInt 0,rawInt 0,.bool false,.ref s.heap.objs.size,.bool false],[]⟩) (λr s'=>match r with | .ok (.ret v)=>Q v s' | _=>False) {s with heap:=s.heap.push (aa #[] 0)}) :
  wpAny c.M A (call (.builtin "re.Pattern.sub") [.ref p,.ref f,.str t tk]) Q E s:=by
 refine wpAny_call (codeAny_call_builtin mF.plain CN (mF.check _ _ _ _ _ _ _ _ ⟨_,h1,rfl⟩ (CV _ _ _) ?_));show wpAny _ A.in1 (reSubstitute "re.Pattern.sub" "sub" false ⟨[.ref p,.ref f,.str t tk],[]⟩) _ _ s;unfold reSubstitute;dsimp only;have e:reNamed "re.Pattern.sub" "sub" ["repl","string","count"] 2 [.ref f,.str t tk] []=pure [some (.ref f),some (.str t tk),none]:=rfl;rw[e];refine wpAny_bind (wpAny_pure (wpAny_bind (wpAny_pure ?_)));refine wpAny_bind (wpAny_specialOf (T:="function") ⟨_,hf,hfc⟩ Ha ?_);refine wpAny_bind (wpAny_pure (wpAny_bind (wpAny_pure ?_)));refine wpAny_bind (wpAny_holding (jf h1 h2 h3 ?_));have e2:reNotHeld "re.Pattern.sub" (.str t tk)=pure ():=rfl;rw[e2];refine wpAny_bind (wpAny_pure (wpAny_bind (wpAny_newList ?_ (by show 0<=sizeLine;exact K5 _))))
 refine wpAny_pure ⟨Code.quiet_builtin _ (by decide +kernel),?_⟩
 exact codeAny_mono h λr s' q=>by
  cases r with
  | ok r=>cases r with
   | ret v=>exact q
   | _=>exact q.elim
  | error=>exact q.elim
theorem yu{p tp:Addr}{t:Str}{tk k0 k1 k2:Tok}{pn fl x3 x4:Value}{g n:Nat}{vs:Array Value}{code:Array Nat}{Q:Value->Shared->Prop}(h1:s.heap.get? p=some ⟨.type "re.Pattern",none,.fields #[pn,fl,.int (g:Nat) k1,x3,x4,.ref tp,.int 0 k2],#[]⟩)
  (h2:s.heap.get? tp=some (aQ vs n)) (h3:(vs.map reRawOf).map (·.toNat)=code)
  (h:codeAny c.M A (.builtin "re.Pattern.sub.loop" ⟨[.ref p,.str t tk,.str "" k0,rawInt 0,rawInt 0,rawInt 0,rawInt 0,rawInt 0,.bool false,.ref s.heap.objs.size,.bool true],[]⟩) (λr s'=>match r with | .ok (.ret v)=>Q v s' | _=>False) {s with heap:=s.heap.push (aa #[] 0)}) :
  wpAny c.M A (call (.builtin "re.Pattern.subn") [.ref p,.str "" k0,.str t tk]) Q E s:=by
 refine wpAny_call (codeAny_call_builtin mD.plain CK (mD.check _ _ _ _ _ _ _ _ ⟨_,h1,rfl⟩ (CT _ _ _) ?_));show wpAny _ A.in1 (reSubstitute "re.Pattern.subn" "subn" true ⟨[.ref p,.str "" k0,.str t tk],[]⟩) _ _ s;unfold reSubstitute;dsimp only;have e:reNamed "re.Pattern.subn" "subn" ["repl","string","count"] 2 [.str "" k0,.str t tk] []=pure [some (.str "" k0),some (.str t tk),none]:=rfl;rw[e];refine wpAny_bind (wpAny_pure (wpAny_bind (wpAny_pure ?_)));refine wpAny_bind (wpAny_specialOf_val (T:="str") rfl yK ?_);have e3:asStr? (.str "" k0)=(pure (some (KY "")):Sem (Option Str)):=rfl;rw[if_neg (show ¬ (none:Option Value).isSome=true from NT),e3];refine wpAny_bind (wpAny_pure (wpAny_bind (wpAny_pure ?_)));refine wpAny_ite_false rfl (wpAny_ite_true (by decide +kernel) ?_)
 refine wpAny_bind (wpAny_pure ?_);refine wpAny_bind (wpAny_holding (jf h1 h2 h3 ?_));refine wpAny_ite_false rfl ?_;refine wpAny_bind (wpAny_newList ?_ (by show 0<=sizeLine;exact K5 _))
 refine wpAny_pure ⟨Code.quiet_builtin _ (by decide +kernel),?_⟩
 exact codeAny_mono h λr s' q=>by
  cases r with
  | ok r=>cases r with
   | ret v=>exact q
   | _=>exact q.elim
  | error=>exact q.elim
theorem Fj{fd:FuncData}{pp:Pos}{v:Value}(h1:fd.params=⟨[],[⟨"_m",none,pp⟩],none,[],[],none,[]⟩)(h2:fd.defaults=.none)(h3:fd.kwdefaults=.none):bindArgs fd ⟨[v],[]⟩=(pure [(KY "_m",v)]:Sem (List (Str × Value))):=by
 cases fd;dsimp only at h1 h2 h3;subst h1 h2 h3;rfl
structure oW(c:Cx)(b:Nat)(body:Expr)(u:V)(r:Str):Prop where
 h:REv c b ⟨[⟨[("_m",.local)],0,[]⟩],[.vars [("_m",u)]]⟩ body (.str r)
theorem Fe(hB:Wd c c.hb)(hA:Am0 c A fr (b+1))(S:St c fr γ P s cs){f:Addr}{fd:FuncData}{ob:Obj}{pp:Pos}{body:Expr}{scope:Scope}{v:Value}{u:V}{r:Str}{Q:Value->Shared->Prop}(hP:P f=some ob)(hd:ob.data=.func fd)(hc:bA s.heap fd.code)
  (h1:fd.params=⟨[],[⟨"_m",none,pp⟩],none,[],[],none,[]⟩) (h2:fd.defaults=.none) (h3:fd.kwdefaults=.none) (he:fd.body=.expr body) (hs:fd.scope=scope) (hcl:fd.closure=[]) (hg:fd.globals=mainGlobals) (hbu:fd.builtins=builtinsNs)
  (hsc:scope=⟨.function,[("_m",.local)],false,false,[]⟩) (hcd:c.cd [("_m",.local)]=none) (hi:Is c.D γ P v u) (hh:hand u=true) (L:oW c b body u r) (hQ:∀k P' s',Aft c fr γ P s cs P' s'->Q (.str r k) s') :
  wpAny c.M A (call (.ref f) [v]) Q E s:=by
 obtain⟨q,hq⟩:=hc.rec_;refine wpAny_mono (Jv (F:=⟨["_m"],[],[("_m",.local)]⟩) (as:=[u]) hB hA S.bare (S.real.le _ _ hP) hd hq he ⟨by rw[hs,hsc],by rw[hs,hsc],hg,hbu,hcl,by decide,λa h=>(by rw[hcd] at h;cases h),by rw[hs,hsc],by rw[hs,hsc]⟩ (args:=⟨[v],[]⟩) (xs:=[v]) (.of_eq (Fj h1 h2 h3))
  (IsL.hand (.cons hi .nil) (by rw[Lw,hh];rfl)) (.cons (.loc rfl rfl) .nil) L.h) (λx s1 q_=>Exists.p5 q_ λγ1 P1 g1 Y1 i1=>?_) λ_ _ q=>q
 obtain⟨k,rfl⟩:=i1.str_inv;have Y2:=Y1.cut g1 (K5 _) (by rfl)
 exact hQ k P1 s1 ⟨Y2.since.gr,⟨S.real.keep Y2.since.gr Y2.since.ext.keep Y2.st.real.le Y2.st.real.kind,Y2.st.wd,Y2.st.frs⟩,Y2.since.ext⟩
end
end
section
open PySem.Builtin.Re
section
variable{c:Cx}{g:Glb}{fr:List Env}{γ:Gh}{P0 P:Frz}{s0 s:Shared}{cs:List Cell}{A:Around}{E:Value->Shared->Prop}{b:Nat}{σ:Sg}
theorem wI(S:St c fr γ P s cs)(o:Obj):Aft c fr γ P s cs P {s with heap:=s.heap.push o} :=
 ⟨.refl _ _,⟨S.real.keep (.refl _ _) (.of_push _ _) (λb o e=>Heap.get?_push_of_some _ (S.real.le b o e)) S.real.kind,S.wd.keep (.of_push _ _),S.frs.keep (.of_push _ _)⟩,.push _ _ _ _⟩
theorem wi(S:St c fr γ P s cs){h:Heap}:aF c γ P s.heap s.heap.objs.size :=
 ⟨by cases q:P s.heap.objs.size with
  | none=>rfl
  | some o=>exact absurd (Heap.lt_size (S.real.le _ _ q)) (Mq _),λi hi q=>by
  obtain⟨o,e⟩:=S.real.there hi;rw[q] at e;exact absurd (Heap.lt_size e) (Mq _),aU _,S.wd.bk.gone (aU _)⟩
theorem bA.keep{h h':Heap}(k:Keep h h'){cv:Value}(x:bA h cv):bA h' cv:=by
 obtain⟨a,oc,vs,t,q,e1,e2,e3,e4,e5⟩:=x;exact⟨a,oc,vs,t,q,e1,k.exact e2 (by rw[e3];exact tyF (by decide)) (by rw[e3];exact tyN),e3,e4,e5⟩
theorem R.orS{x:Expr}{p p2:Pos}{n:Nat}{u:Str}(hx:REv c b σ x (.str u))(hl:u.cps.toList.length<=16777216):REv c b σ (.BoolOp .Or [x,.Constant (.str "") n p2] p) (.str u):=λN E =>
 wpAny_Or2 (hx.then N λP1 s1 a1 v i=>wpAny_mono (Tp.str hl (N.go a1) v E ((N.go a1).hs i)) (λk s2 q=>by
  obtain⟨e,P2,a2⟩:=q;cases k with
  | true=>rw[if_pos rfl];exact⟨P2,a1.trans a2,i.mono a2.gr.le⟩
  | false =>
   rw[if_neg (by decide)]
   have e2:u="":=by
    have e3:u.cps.toList=[]:=by
     cases q:u.cps.toList with
     | nil=>rfl
     | cons=>rw[q] at e;cases e
    obtain⟨⟨l⟩⟩:=u;subst e3;rfl
   subst e2;refine wpAny_Constant_str ?_;exact⟨P2,(a1.trans a2).trans (.toks a2.st _),.pu (.str _ _)⟩) λ_ _ q=>q)
noncomputable abbrev tH(pp:Pos):Arguments:=⟨[],[⟨"_m",none,pp⟩],none,[],[],none,[]⟩
noncomputable abbrev tG:Scope:=⟨.function,[("_m",.local)],false,false,[]⟩
structure oR(code:Array Nat)(t:Str)(F:List (Nat × Nat)->Str)(r:List Str):Prop where
 subs:∃n,Subs code 1 t F 0 r n
 len:r.length<=1000000
 room:bc "" r<=16777216
 ne:r≠[]
 size:t.cps.size<=100000
theorem R.subLam(hB:Wd c c.hb)(hg:aj c g){lv:Lv}{lr:List Lv}(hl:σ.lv=lv::lr){re nm x t:Str}{code:Array Nat}{cd T:Addr}(hp:aV c re code 1)(hL:bz c cd T)(hc:c.cd lv.names=some cd)(h0:aget ".0" lv.names=none)(hcd:c.cd [("_m",.local)]=none)
  {pp px pa pl p2 q:Pos} {body:Expr} (hline:bw pa q=true) (hre:Nm g σ.cs nm lv (.gl re)) (hx:Nm g σ.cs x lv (.str t)) {F:List (Nat × Nat)->Str} {r:List Str} (hs:oR code t F r) (hlam:∀sp p,sp[1]?=some p->oW c b body (.mat re t sp) (F sp)) :
  REv c (b+2) σ (.Call (.Attribute (.Name nm px) "sub" pa) [.Lambda (tH pp) body tG pl,.Name x p2] [] q) (.str (Txt.join "" r)):=λN E=>by
 cases hl.symm.trans N.hl;obtain⟨n,hsubs⟩:=hs.subs;obtain⟨p,tp,pn,fl,x3,x4,k1,k2,vs,n0,e1,e2,e3,e4⟩:=hp.at_;refine dB rfl rfl (Ou (by decide:0<20-2)) hline (aR hg N.S N.he hre λv hv pl=>?_)
 cases e1.symm.trans hv.gl_inv;have ho:=N.S.wd.kp _ _ e2;have hm:MethAt c N.s (.ref p) "sub" "re.Pattern" "re.Pattern.sub":=⟨jB,mF,Cv,⟨_,ho,rfl⟩,λa' e=>by cases e;exact⟨_,ho,rfl⟩⟩
 refine hm.get (bO rfl ?_);show wpAny c.M N.A (spliced [(false,eval (.Lambda (tH pp) body tG _) N.env),(false,eval (.Name x p2) N.env)]) _ _ _;refine Calls.spliced_cons (Ff N hL (N.he.code h0 _ hc) rfl rfl rfl λf P1 s1 fd ob a1 hPn hP1 hd hoc hca hpar hbd hscp hclo hdf hkd hgl hbu=>?_);refine Calls.spliced_cons (aR hg a1.st N.he hx λv hv=>Calls.spliced_nil ⟨dX,?_⟩);obtain⟨tk,rfl⟩:=hv.str_inv;show wpAny c.M N.A (call (.builtin "re.Pattern.sub") [.ref p,.ref f,.str t tk]) _ _ _;refine yx (a1.st.wd.kp _ _ e2) (a1.st.wd.kp _ _ e3) e4 (a1.st.real.le _ _ hP1) hoc ?_;have a2:=wI a1.st (aa #[] 0);have bes:aF c N.γ P1 s1.heap s1.heap.objs.size:=wi a1.st (h:=s1.heap);refine pW (wc:=false) (n:=0) (ss:=[]) (acc := #[]) (s0:=s1) hB a1.st.frs e2 e3 e4 (λh=>absurd h (by decide)) hs.size ?_ hsubs a2 bes (Heap.get?_push_size _ rfl) .nil (by simpa using hs.len) hs.room hs.ne ?_
 ·intro s3 P3 m s1' e' marks lm li sp Q E a3 hF hsp hQ
  rw[if_neg (by decide)]
  refine wpAny_bind (wpAny_mono (rU (sp:=sp) a3.st e1 (by rw[hF.start,hF.handed,hF.marks,hF.lm];exact hsp) E) (λv s4 q_=>Exists.p3 q_ λP4 a4 i4=>?_) λ_ _ q=>q)
  refine wpAny_holding ?_;rw[if_pos (by decide)]
  obtain⟨sp1,hsp1⟩:∃p,sp[1]?=some p:=by
   rcases hsp with ⟨h,_⟩ | ⟨_,a,b,_,_,_,rfl⟩
   ·cases h
   ·exact⟨_,rfl⟩
  have hA:Am0 c N.A.in1 N.fr (b+1):=⟨N.hA.handled,by have:=N.hA.depth;show N.A.depth+_+_<_;omega,by have:=N.hA.units;show N.A.units+1+_+_<_;omega,N.hA.frames,N.hA.tree⟩
  exact Fe hB hA a4.st (a4.gr.le _ _ (a3.gr.le _ _ hP1)) hd ((hca.keep a3.ext.keep).keep a4.ext.keep) hpar hdf hkd hbd hscp hclo hgl hbu rfl hcd i4 rfl (hlam sp sp1 hsp1) λk P' s' a5=>hQ k P' s' (a4.trans a5)
 ·intro v s' P' X i
  exact⟨P',a1.trans X,i⟩
end
end
section
noncomputable def cat(l:List Str):List Nat:=l.flatMap λs=>s.cps.toList
theorem iM(s:Str)(l:List Str):cat (s::l)=s.cps.toList++cat l:=rfl
theorem oG(a b:List Str):cat (a++b)=cat a++cat b:=QT ..
theorem bW(s:Str):mkS s.cps.toList=s:=by obtain⟨⟨l⟩⟩:=s;rfl
theorem Hg:∀(l:List Str) (a:Array Nat),(l.foldl (λ(acc:Array Nat) (p:Str)=>acc++(KY "").cps++p.cps) a).toList=a.toList++cat l:=by
 intro l_
 induction l_ with
 | nil =>
  intro a;simp[cat]
 | cons x l ih =>
  intro a;rw[RP,ih,iM];have e:(KY "").cps.toList=[]:=by rfl'
  simp[e]
theorem nD(l:List Str):Txt.join "" l=mkS (cat l):=by
 rw[<-bW (Txt.join "" l)]
 congr 1
 show((l.drop 1).foldl _ (l.headD Str.empty).cps).toList=_;cases l with
 | nil=>rfl
 | cons x l=>exact Hg l x.cps
theorem lZ(l:List Str):bc "" l=(cat l).length:=by
 unfold bc;rw[show(KY "").length=0 by rfl',Nat.mul_zero,Nf]
 induction l with
 | nil=>rfl
 | cons x l ih=>rw[Li,Mw,ih,iM,KR];show x.cps.size+_=_;simp
theorem cU{t a l:List Nat}{p:Nat}(f:From t p (a++l)):cat (bx (mkS t) p (p+a.length))=a/\(bx (mkS t) p (p+a.length)).length<=1:=by
 have e:∀j,j<a.length->t[p+j]?=a[j]?:=λj hj=>by
  have h:=f.le;rw[KR] at h;have e1:=f.get j;rw[tget,Mh,Mh,Oh hj,Lb (by omega),Lb hj] at e1
  rw[Lb (by omega),Lb hj]
  exact congrArg some e1
 have hl:=f.le;rw[KR] at hl;unfold bx;cases a with
 | nil=>rw[show decide (p<p+([]:List Nat).length)=false from decide_eq_false (by rw[LC];omega)];exact⟨rfl,K5 _⟩
 | cons x a =>
  rw[show decide (p<p+(x::a).length)=true from decide_eq_true (by rw[KJ];omega)]
  refine⟨?_,K3 _⟩;show((t.toArray.extract p (p+(x::a).length)).toList)++[]=_;rw[Lg,Array.toList_extract];refine QW λj=>?_;show(List.extract t p (p+(x::a).length))[j]?=_;rw[RT,Ow,RN,Nj];split
  ·rename_i h;exact e j h
  ·rename_i h;exact(O1 (by omega)).symm
theorem qg{t l:List Nat}{p x:Nat}(f:From t p (x::l)):aC (mkS t) (p,p+1)=[x]:=by
 obtain⟨e1,e2⟩:=f.hd;show(t.take (p+1)).drop p=_;rw[tget,Mh,Lb e2] at e1;rw[PQ,Lb e2,List.drop_append,NP (by rw[Mr];omega),Mr,Qp (Nb e2),PK]
 show[t[p]]=[x];rw[<-e1];rfl
noncomputable def lamF(pre t:Str)(sp:List (Nat × Nat)):Str:=mkS (pre.cps.toList++(mkS (aC t ((sp[1]?).getD (0,0)))).cps.toList)
theorem yr(t:List Nat)(hL:t.length<=100000):∀(n:Nat) (w:List Nat) (p:Nat),w.length<=n->(∀x∈w,x∈Sig)->From t p w->∃r k,Subs cS 1 (mkS t) (lamF "\\" (mkS t)) p r k/\cat r=escS w/\r.length<=2*w.length+1:=by
 intro l_
 induction l_ with
 | zero =>
  intro w p hn hw f;obtain rfl:w=[]:=Mt.mp (Qs.mp hn);have h:=q8 (u:=[]) f λx hx=>by cases hx
  refine⟨_,_,.fin h,?_,?_⟩
  ·have e:=(cU (a:=[]) (l:=[]) f).1
   have:=f.le;rw[LC] at this;show cat (bx (mkS t) p t.length)=_;rw[<-this];exact e
  ·have e:=(cU (a:=[]) (l:=[]) f).2
   have:=f.le;rw[LC] at this;show(bx (mkS t) p t.length).length<=_;rw[<-this];omega
 | succ n ih =>
  intro w p hn hw f;obtain⟨u,v,rfl,hu,hv⟩:=jA w;rcases hv with rfl | ⟨x,v,rfl,hx⟩
  ·rw[Lg] at f hn hw ⊢
   have h:=q8 (u:=u) f λx hx=>⟨hw x hx,hu x hx⟩;refine⟨_,_,.fin h,?_,?_⟩
   ·have e:=(cU (a:=u) (l:=[]) (by rw[Lg];exact f)).1
    have:=f.le;show cat (bx (mkS t) p t.length)=_;rw[<-this,e,gB hu]
   ·have e:=(cU (a:=u) (l:=[]) (by rw[Lg];exact f)).2
    have:=f.le;show(bx (mkS t) p t.length).length<=_;rw[<-this];omega
  ·have hx2:x=34∨x=92:=by
    have:(!(x==34||x==92))=false:=hx
    by_cases q:x=34
    ·exact .inl q
    ·exact .inr (by simpa [q] using this)
   have h:=Ce hL f (λy hy=>⟨hw y (O7 _ hy),hu y hy⟩) hx2;have f2:=f.skip;rw[KR,KJ] at hn;obtain⟨r,k,i1,i2,i3⟩:=ih v (p+u.length+1) (by omega) (λy hy=>hw y (Ob _ (.tail _ hy))) f2.tl
   obtain⟨e1,e2⟩:=cU f;refine⟨_,_,.step h (sp:=[(p+u.length,p+u.length+1),(p+u.length,p+u.length+1)]) (.inr ⟨rfl,_,_,M3 _,rfl,rfl,rfl⟩) (Mv _) i1,?_,?_⟩
   ·rw[oG,iM,e1,i2,gF,gB hu,iG v hx]
    show u++([92]++aC (mkS t) (p+u.length,p+u.length+1)++escS v)=_;rw[qg f2];rfl
   ·rw[KR,KJ,KR,KJ];omega
theorem pl92{x:Nat}(h:plainQ x=true):x≠92:=by rintro rfl;exact absurd h (by decide)
theorem nZ(w:List Nat):w.length<=(escS w).length:=by
 induction w with
 | nil=>exact K3 _
 | cons a w ih =>
  show _<=(escS ([a]++w)).length;rw[gF,KR,KJ];have:1<=(escS [a]).length:=by
   show 1<=((match (a==34||a==92) with | true=>[92,a] | false=>[a])++[]).length
   cases a==34||a==92 <;> exact Mm (K5 _)
  omega
theorem yq(t:List Nat)(hL:t.length<=100000):∀(n:Nat) (w:List Nat) (p:Nat),w.length<=n->(∀x∈w,x∈Sig)->From t p (escS w)->∃r k,Subs cE 1 (mkS t) (lamF "" (mkS t)) p r k/\cat r=w/\r.length<=2*w.length+1:=by
 intro l_
 induction l_ with
 | zero =>
  intro w p hn hw f;obtain rfl:w=[]:=Mt.mp (Qs.mp hn);have f:From t p []:=f;have h:=vo (u:=[]) hL f λx hx=>by cases hx
  have e:=cU (a:=[]) (l:=[]) f;have:=f.le;rw[LC] at this;rw[LC,this] at e;exact⟨_,_,.fin h,e.1,KQ e.2 (K3 _)⟩
 | succ n ih =>
  intro w p hn hw f;obtain⟨u,v,rfl,hu,hv⟩:=jA w;rcases hv with rfl | ⟨x,v,rfl,hx⟩
  ·rw[Lg] at f hn hw ⊢
   rw[gB hu] at f;have h:=vo (u:=u) hL f λx hx=>⟨hw x hx,pl92 (hu x hx)⟩;have e:=cU (a:=u) (l:=[]) (by rw[Lg];exact f)
   rw[f.le] at e;exact⟨_,_,.fin h,e.1,KQ e.2 (by omega)⟩
  ·rw[gF,gB hu,iG v hx] at f
   have h:=Hr hL f (λy hy=>⟨hw y (O7 _ hy),pl92 (hu y hy)⟩) (hw x (Ob _ (.head _)));have f2:=f.skip.tl;rw[KR,KJ] at hn;obtain⟨r,k,i1,i2,i3⟩:=ih v (p+u.length+1+1) (by omega) (λy hy=>hw y (Ob _ (.tail _ hy))) f2.tl
   obtain⟨e1,e2⟩:=cU f;refine⟨_,_,.step h (sp:=[(p+u.length,p+u.length+2),(p+u.length+1,p+u.length+2)]) (.inr ⟨rfl,_,_,M3 _,rfl,rfl,rfl⟩) (by omega) i1,?_,?_⟩
   ·rw[oG,iM,e1,i2]
    show u++((KY "").cps.toList++aC (mkS t) (p+u.length+1,p+u.length+1+1)++v)=_;rw[qg f2,show(KY "").cps.toList=[] by rfl'];rfl
   ·rw[KR,KJ,KR,KJ];omega
theorem yC{w:List Nat}(hw:∀x∈w,x∈Sig)(h0:w≠[])(hl:w.length<=90000):∃r,oR cS (mkS w) (lamF "\\" (mkS w)) r/\Txt.join "" r=mkS (escS w):=by
 obtain⟨r,k,h1,h2,h3⟩:=yr w (by omega) w.length w 0 (K3 _) hw (From.of [] w)
 refine⟨r,⟨⟨k,h1⟩,by omega,?_,?_,by show w.length<=_;omega⟩,by rw[nD,h2]⟩
 ·rw[lZ,h2];have:=nY w;omega
 ·rintro rfl
  have:=nZ w;rw[<-h2] at this;cases w with
  | nil=>exact h0 rfl
  | cons=>exact absurd this (Nat.not_succ_le_zero _)
theorem yw{w:List Nat}(hw:∀x∈w,x∈Sig)(h0:w≠[])(hl:(escS w).length<=90000):∃r,oR cE (mkS (escS w)) (lamF "" (mkS (escS w))) r/\Txt.join "" r=mkS w:=by
 have hl2:=nZ w;obtain⟨r,k,h1,h2,h3⟩:=yq (escS w) (by omega) w.length w 0 (K3 _) hw (From.of [] _)
 refine⟨r,⟨⟨k,h1⟩,by omega,by rw[lZ,h2];omega,?_,by show(escS w).length<=_;omega⟩,by rw[nD,h2]⟩
 rintro rfl
 exact h0 (h2.symm.trans rfl)
theorem tE{c:Cx}{b:Nat}{pre re t:Str}{sp:List (Nat × Nat)}{p:Nat × Nat}(hp:sp[1]?=some p)(hl:t.cps.toList.length<=1000000)(hpre:pre.cps.toList.length<=10){n n1 n2:Nat}{p1 p2 p3 p4 p5 p6 p7 p8:Pos}(hline:bw p5 p6=true) :
  oW c b (.BinOp (.Constant (.str pre) n p1) .Add (.BoolOp .Or [.Call (.Attribute (.Name "_m" p4) "group" p5) [.Constant (.int 1) n1 p7] [] p6,.Constant (.str "") n2 p8] p3) p2) (.mat re t sp) (lamF pre t sp):=by
 refine⟨?_⟩;have h1:=gV t p;have e:lamF pre t sp=mkS (pre.cps.toList++(mkS (aC t p)).cps.toList):=by unfold lamF;rw[hp];rfl
 rw[e];refine R.bin R.cstS (R.orS (R.meth rfl hline (Ou (by decide:0<20-1)) (R.name (lv:=⟨[("_m",.local)],0,[]⟩) (lr:=[]) (g:=⟨[],[]⟩) ⟨λ_ h=>(nomatch h),λ_ _ _ h=>(nomatch h)⟩ rfl (.loc rfl rfl rfl)) (R.cons rfl R.cstI R.nil) (Mp.group hp (by omega))) (by rw[toList_mkS];omega)) (Bp.addS (by rw[KR,toList_mkS];show _<=16777216;omega))
end
section
open PySem.Builtin.Re
section
variable{c:Cx}{b:Nat}{σ:Sg}
theorem Mp.subn(hB:Wd c c.hb){re t:Str}{code:Array Nat}{r:List Str}{k:Nat}(hp:aV c re code 0)(hs:Subs code 0 t (λ_=>"") 0 r k)(hl:r.length<=1000000)(hg:bc "" r<=16777216)(hne:r≠[])(hz:t.cps.size<=100000) :
  Mp c b σ (.gl re) "subn" [.str "",.str t] (.tup [.str (Txt.join "" r),.int k]):=λN u hu=>by
 obtain⟨p,tp,pn,fl,x3,x4,k1,k2,vs,n,e1,e2,e3,e4⟩:=hp.at_;cases e1.symm.trans hu.gl_inv;have ho:=N.S.wd.kp _ _ e2;refine⟨_,_,⟨jB,mD,Cu,⟨_,ho,rfl⟩,λa' e=>by cases e;exact⟨_,ho,rfl⟩⟩,λP' s' ae xs E is=>?_⟩
 obtain⟨_,_,rfl,h1,h2⟩:=is.two;obtain⟨k0,rfl⟩:=h1.str_inv;obtain⟨tk,rfl⟩:=h2.str_inv;refine yu (ae.st.wd.kp _ _ e2) (ae.st.wd.kp _ _ e3) e4 ?_;have a2:=wI ae.st (aa #[] 0);have bes:aF c N.γ P' s'.heap s'.heap.objs.size:=wi ae.st (h:=s'.heap);refine pW (wc:=true) (n:=0) (ss:=[]) (acc := #[]) (s0:=s') hB ae.st.frs e2 e3 e4 (λ_=>rfl) hz ?_ hs a2 bes (Heap.get?_push_size _ rfl) .nil (by simpa using hl) hg hne ?_
 ·intro s3 P3 m s1' e' marks lm li sp Q E a3 hF hsp hQ
  rw[if_pos (by decide)]
  exact wpAny_pure (hQ k0 P3 s3 (.refl a3.st))
 ·intro v s'' P'' X i
  rw[Lr] at i;exact⟨P'',X,i⟩
structure ReOk(c:Cx)(b:Nat):Prop where
 tok:aV c "HEADER_TOKEN_RE" cT 1
 quo:aV c "HEADER_QUOTED_VALUE_RE" cQ 1
 val:aV c "HEADER_VALUE_RE" cV 1
 esc:aV c "HEADER_ESCAPE_RE" cE 1
 jtok:aV c "HEADER_JOIN_TOKEN_RE" cJ 0
 jesc:aV c "HEADER_JOIN_ESCAPE_RE" cS 1
 junk:aV c "_twin_re_7" c7 0
 unm:∀re t sp p,sp[0]?=some p->t.cps.toList.length<=100000->FnOk c b "unmatched" [.mat re t sp] (.str (unmP t p))
 lamS:∃cd T,bz c cd T/\c.cd dG.names=some cd
 lamJ:∃cd T,bz c cd T/\c.cd dN.names=some cd
 cdm:c.cd [("_m",.local)]=none
noncomputable def tokB(v:Str):Bool:=v.cps.toList.all λx=>Tok4.contains x
theorem tX(hB:Wd c c.hb)(hg:aj c G)(K:ReOk c (b+2)){v:Str}(h0:v.cps.toList≠[])(hv:∀x∈v.cps.toList,x∈Sig)(hl:v.cps.toList.length<=90000):oX c (b+2) tokB v:=by
 obtain⟨w,rfl⟩:∃w,v=mkS w:=⟨_,(bW v).symm⟩;rw[toList_mkS] at h0 hv hl;refine⟨λσ=>?_,λcs hn=>?_⟩
 ·by_cases ht:tokB (mkS w)=true
  ·refine⟨_,Mp.full K.jtok (by show w.length<=_;omega) (.yes (yd h0 (by omega) λx hx=>M6.mp (La.mp ht x hx)) (.inl ⟨rfl,rfl⟩)),.inl ⟨ht,_,_,rfl⟩⟩
  ·have hf:tokB (mkS w)=false:=by cases q:tokB (mkS w) with
    | true=>exact absurd q ht
    | false=>rfl
   obtain⟨u,x,l,e,h1,h2⟩:∃u x l,w=u++x::l/\(∀y∈u,y∈Tok4)/\Tok4.contains x=false:=by
    have hf':w.all (λx=>Tok4.contains x)=false:=hf;clear hv h0 hl hf ht
    induction w with
    | nil=>cases hf'
    | cons a w ih =>
     cases ha:Tok4.contains a with
     | false=>exact⟨[],a,w,rfl,λ_ h=>(nomatch h),ha⟩
     | true =>
      rw[Lw,ha,Pq] at hf';obtain⟨u,x,l,e,h1,h2⟩:=ih hf';exact⟨a::u,x,l,by rw[e];rfl,λy hy=>(KZ.mp hy).elim (λq=>q▸M6.mp ha) (h1 y),h2⟩
   exact⟨_,Mp.full K.jtok (by show w.length<=_;omega) (.no (ye (by omega) e h1 (hv x (e▸Ob _ (.head _))) h2)),.inr ⟨hf,rfl⟩⟩
 ·obtain⟨r,hs,e⟩:=yC hv h0 hl
  obtain⟨cd,T,hL,hc⟩:=K.lamJ;rw[toList_mkS,<-e];exact R.subLam hB hg rfl K.jesc hL hc rfl K.cdm (by rfl') (by wtm_at "m.name") hn hs λsp p hp=>tE hp (by rw[toList_mkS];omega) (Ly (by rfl')) (by rfl')
theorem Ht(hB:Wd c c.hb)(hg:aj c G)(K:ReOk c (b+2)){w:List Nat}(h0:w≠[])(hv:∀x∈w,x∈Sig)(hl:(escS w).length<=90000)(cs:List Cell)(hn:Nm G cs "value" lvH (.str (mkS (escS w)))):REv c (b+2) ⟨[lvH],cs⟩ hSub (.str (mkS w)):=by
 obtain⟨r,hs,e⟩:=yw hv h0 hl;obtain⟨cd,T,hL,hc⟩:=K.lamS;rw[<-e];exact R.subLam hB hg rfl K.esc hL hc rfl K.cdm (by rfl') (by wtm_at "m.name") hn hs λsp p hp=>tE hp (by rw[toList_mkS];omega) (Ly (by rfl')) (by rfl')
noncomputable def rowT:List (Str × Str)->List Nat
 | []=>[]
 | [x]=>(kvS tokB x.1 x.2).cps.toList
 | x::r=>(kvS tokB x.1 x.2).cps.toList++59::32::rowT r
noncomputable def aq:List (Str × Str)->List Nat
 | []=>[]
 | r=>59::32::rowT r
theorem cZ(x:Str × Str)(r:List (Str × Str)):rowT (x::r)=(kvS tokB x.1 x.2).cps.toList++aq r:=by
 cases r with
 | nil=>exact(Lg _).symm
 | cons=>rfl
theorem nq{k v:Str}(h:tokB v=true):(kvS tokB k v).cps.toList=k.cps.toList++61::v.cps.toList:=by
 unfold kvS jv;rw[h,toList_mkS,Lj];rfl
theorem nu{k v:Str}(h:tokB v=false):(kvS tokB k v).cps.toList=k.cps.toList++61::34::(escS v.cps.toList++[34]):=by
 unfold kvS jv;rw[h,toList_mkS,Lj];rfl
structure iU(x:Str × Str):Prop where
 key:∃k,x.1=mkS [k]/\(k=107∨k=110)
 ne:x.2.cps.toList≠[]
 sig:∀y∈x.2.cps.toList,y∈Sig
theorem FJ{r:List Nat}(h:r.length<=80000):∃l k,Subs c7 0 (mkS (59::32::107::r)) (λ_=>"") 0 l k/\cat l=107::r/\l.length<=5/\l≠[]/\k=1:=by
 have f:From (59::32::107::r) 0 (59::32::107::r):=From.of [] _;have f2:=f.tl.tl;have e:=cU (a:=107::r) (l:=[]) (by rw[Lg];exact f2)
 rw[f2.le] at e;have e0:=cU (a:=[]) f;have j1:=Fz (t:=59::32::107::r) (by omega) rfl
 have j2:=FP (t:=59::32::107::r) (by simp only[KJ];omega) (by simp only[KJ];omega)
 refine⟨_,_,.step (sp:=[(0,2)]) j1 (.inl ⟨rfl,rfl⟩) (by decide) (.fin j2),?_,?_,?_,rfl⟩
 ·rw[oG,iM]
  show cat (bx _ 0 (0+([]:List Nat).length))++((KY "").cps.toList++_)=_;rw[e0.1,show(KY "").cps.toList=[] by rfl']
  exact e.1
 ·have h1:=e0.2
  have h2:=e.2;rw[KR,KJ];exact KQ (MF h1 (Mm h2)) (by decide)
 ·intro h;exact absurd h (by simp)
end
end
section
open PySem.Builtin.Str
theorem rT{goes:Nat->Bool}:∀ {l:List Nat},(∀x∈l,goes x=false)->l.takeWhile goes=[]
 | [],_=>rfl
 | x::l,h=>by rw[Ry,h x (.head _)];rfl
theorem JB{goes:Nat->Bool}{r l':Bool}{l:List Nat}(h:∀y∈l,goes y=false):Txt.stripBy goes l' r (mkS l)=mkS l:=by
 have e1:stripLo goes l' (mkS l)=0:=by
  unfold stripLo;rw[toList_mkS,rT h];split <;> rfl
 have e2:stripHi goes r (mkS l) 0=(mkS l).length:=by
  unfold stripHi;rw[toList_mkS,Ph,rT λx hx=>h x (Ox.mp hx)];split <;> rfl
 unfold Txt.stripBy;rw[if_pos];unfold stripSame;rw[e1,e2];simp
theorem Em(l:List Nat):Txt.startswith (Txt.lstrip (mkS (59::l))) ","=false:=by
 have e1:stripLo Unicode.isSpace true (mkS (59::l))=0:=by
  unfold stripLo;rw[toList_mkS,Ry,show Unicode.isSpace 59=false by decide +kernel];rfl
 have e2:stripHi Unicode.isSpace false (mkS (59::l)) 0=(mkS (59::l)).length:=by
  unfold stripHi;rfl
 have e:Txt.lstrip (mkS (59::l))=mkS (59::l):=by
  unfold Txt.lstrip Txt.stripBy;rw[if_pos];unfold stripSame;rw[e1,e2];simp
 rw[e];unfold Txt.startswith subAt;have:((mkS (59::l)).cps.extract 0 (0+(KY ",").length)==(KY ",").cps)=false:=by
  have h1:(KY ",").cps = #[44]:=by rfl'
  have h2:(KY ",").length=1:=by rfl'
  have h3:(mkS (59::l)).cps.extract 0 1 = #[59]:=by
   show(59::l).toArray.extract 0 1=_;simp[List.extract_toArray,RT]
  rw[h1,h2,h3];rfl
 rw[this,O3]
theorem Ax{v:Str}(h:tokB v=true):Txt.rstrip v=v:=by
 rw[<-bW v];refine JB λy hy=>?_;have:=M6.mp (La.mp h y hy);simp only[KZ,M4,or_false] at this;rcases this with rfl | rfl | rfl | rfl <;> decide +kernel
section
variable{c:Cx}{b:Nat}
theorem qi{t u l:List Nat}{p:Nat}(f:From t p (u++l)):aC (mkS t) (p,p+u.length)=u:=by
 have h:=f.le;rw[KR] at h;show(t.take (p+u.length)).drop p=_;refine QW λj=>?_;rw[Nj,RN];split
 ·rename_i hj
  have e1:=f.get j;rw[tget,Mh,Mh,Oh (by omega),Lb (by omega),Lb (by omega)] at e1
  rw[Lb (by omega),Lb (by omega)]
  exact congrArg some e1
 ·exact(O1 (by omega)).symm
theorem ym(r:List (Str × Str)):aq r=[]∨∃r',aq r=59::r':=by
 cases r with
 | nil=>exact .inl rfl
 | cons x r=>exact .inr ⟨_,rfl⟩
theorem qF(hB:Wd c c.hb)(hg:aj c G)(K:ReOk c (b+2)){x:Str × Str}{r:List (Str × Str)}(hx:iU x)(hl:(rowT (x::r)).length<=70000)(h:Shw c (b+2) (mkS (aq r)) r):Shw c (b+2) (mkS (rowT (x::r))) (x::r):=by
 obtain⟨nm,v⟩:=x;obtain⟨k,e1,hk⟩:=hx.key;dsimp only at e1;subst e1;have hvs:=hx.sig;have hv0:=hx.ne;dsimp only at hvs hv0;rw[cZ] at hl ⊢;dsimp only at hl ⊢;have m1:∀q:List Nat,q.length<=70000->∀σ,Mp c (b+2) σ (.gl "HEADER_TOKEN_RE") "search" [.str (mkS (k::61::q))] (.mat "HEADER_TOKEN_RE" (mkS (k::61::q)) [(0,1),(0,1)]):=λq hq σ =>
  Mp.search K.tok (by show(k::61::q).length<=_;simp only[KJ];omega) (.yes (xW hk.symm (by omega) rfl) (.inr ⟨rfl,0,1,by decide,rfl,rfl,rfl⟩))
 have f1:∀q:List Nat,q.length<=70000->FnOk c (b+2) "unmatched" [.mat "HEADER_TOKEN_RE" (mkS (k::61::q)) [(0,1),(0,1)]] (.str (mkS (61::q))):=λq hq=>K.unm _ _ _ (0,1) rfl (by show(k::61::q).length<=_;simp only[KJ];omega)
 have lt:(kvS tokB (mkS [k]) v).cps.toList.length+(aq r).length<=70000:=by rw[KR] at hl;exact hl
 cases ht:tokB v with
 | true =>
  rw[nq ht] at lt ⊢;have e:(mkS [k]).cps.toList++61::v.cps.toList++aq r=k::61::(v.cps.toList++aq r):=rfl;rw[e];have lt:2+v.cps.toList.length+(aq r).length<=70000:=by rw[KR,KJ] at lt;have:(mkS [k]).cps.toList.length=1:=rfl;omega
  have lq:(v.cps.toList++aq r).length<=70000:=by rw[KR];omega
  have hT:∀y∈v.cps.toList,y∈Tok4:=λy hy=>M6.mp (La.mp ht y hy);have f2:FnOk c (b+2) "unmatched" [.mat "HEADER_VALUE_RE" (mkS (61::(v.cps.toList++aq r))) [(0,1+v.cps.toList.length),(1,1+v.cps.toList.length)]] (.str (mkS (aq r))):=by
   have:=K.unm "HEADER_VALUE_RE" (mkS (61::(v.cps.toList++aq r))) [(0,1+v.cps.toList.length),(1,1+v.cps.toList.length)] _ rfl (by show(61::(v.cps.toList++aq r)).length<=_;rw[KJ];omega)
   have e2:unmP (mkS (61::(v.cps.toList++aq r))) (0,1+v.cps.toList.length)=mkS (aq r):=by
    show mkS ((61::(v.cps.toList++aq r)).drop (1+v.cps.toList.length))=_;rw[Mf,PX,QZ]
   rw[e2] at this;exact this
  have e3:aC (mkS (61::(v.cps.toList++aq r))) (1,1+v.cps.toList.length)=v.cps.toList:=qi (l:=aq r) (From.of [61] _);have:=Shw.plain (p1:=(0,1)) (p2:=(1,1+v.cps.toList.length)) (Q0 _ _) (by show(k::61::(v.cps.toList++aq r)).length<=_;simp only[KJ];omega) (m1 _ lq) (f1 _ lq) rfl (by show(61::(v.cps.toList++aq r)).length<=_;rw[KJ];omega)
   (λσ=>Mp.search K.quo (by show(61::(v.cps.toList++aq r)).length<=_;rw[KJ];omega) (.no (Cd hT hv0 (by omega) rfl)))
   (λσ=>Mp.search K.val (by show(61::(v.cps.toList++aq r)).length<=_;rw[KJ];omega) (.yes (xg hT (ym r) (by omega) rfl) (.inr ⟨rfl,_,_,LQ _ _,rfl,rfl,rfl⟩))) f2 rfl h
  rw[e3,bW,Ax ht] at this;exact this
 | false =>
  rw[nu ht] at lt ⊢;have e:(mkS [k]).cps.toList++61::34::(escS v.cps.toList++[34])++aq r=k::61::34::(escS v.cps.toList++34::aq r):=by
   show k::61::34::((escS v.cps.toList++[34])++aq r)=_;rw[Lj];rfl
  rw[e];have lt:4+(escS v.cps.toList).length+(aq r).length<=70000:=by
   rw[KR,KJ,KJ,KR] at lt;have:(mkS [k]).cps.toList.length=1:=rfl;have:[34].length=1:=rfl;omega
  have l2:=nZ v.cps.toList;have lq:(34::(escS v.cps.toList++34::aq r)).length<=70000:=by rw[KJ,KR,KJ];omega
  have l1:(61::34::(escS v.cps.toList++34::aq r)).length<=70001:=Mm lq;have f2:FnOk c (b+2) "unmatched" [.mat "HEADER_QUOTED_VALUE_RE" (mkS (61::34::(escS v.cps.toList++34::aq r))) [(0,(escS v.cps.toList).length+3),(2,(escS v.cps.toList).length+2)]] (.str (mkS (aq r))):=by
   have:=K.unm "HEADER_QUOTED_VALUE_RE" (mkS (61::34::(escS v.cps.toList++34::aq r))) [(0,(escS v.cps.toList).length+3),(2,(escS v.cps.toList).length+2)] _ rfl (KQ l1 (by decide))
   have e2:unmP (mkS (61::34::(escS v.cps.toList++34::aq r))) (0,(escS v.cps.toList).length+3)=mkS (aq r):=by
    show mkS ((61::34::(escS v.cps.toList++34::aq r)).drop ((escS v.cps.toList).length+3))=_;rw[PX,PX,show escS v.cps.toList++34::aq r=(escS v.cps.toList++[34])++aq r by rw[Lj];rfl,show(escS v.cps.toList).length+1=(escS v.cps.toList++[34]).length by rw[KR];rfl,QZ]
   rw[e2] at this;exact this
  have e3:aC (mkS (61::34::(escS v.cps.toList++34::aq r))) (2,(escS v.cps.toList).length+2)=escS v.cps.toList:=by
   rw[Mf];exact qi (l:=34::aq r) (From.of [61,34] _)
  exact Shw.quoted (p1:=(0,1)) (p2:=(2,(escS v.cps.toList).length+2)) (Q0 _ _) (KQ (Mm l1) (by decide)) (m1 _ lq) (f1 _ lq) rfl (KQ l1 (by decide))
   (λσ=>Mp.search K.quo (KQ l1 (by decide)) (.yes (Ca hvs (by omega) (by omega) rfl) (.inr ⟨rfl,_,_,Nt _ _,rfl,rfl,rfl⟩))) f2 rfl
   (λcs hn=>by
    rw[e3] at hn;have:=Ht hB hg K hv0 hvs (by omega) cs hn
    rw[bW] at this;exact this) h
theorem zK(hB:Wd c c.hb)(hg:aj c G)(K:ReOk c (b+2)):∀(r:List (Str × Str)) (x:Str × Str),iU x->(∀y∈r,iU y/\y.1=mkS [107])->(rowT (x::r)).length<=70000->Shw c (b+2) (mkS (rowT (x::r))) (x::r):=by
 intro l_
 induction l_ with
 | nil=>exact λx hx _ hl=>qF hB hg K hx hl (.nil rfl)
 | cons y r ih =>
  intro x hx hr hl;refine qF hB hg K hx hl ?_;obtain⟨hy,ey⟩:=hr y (.head _);have hl2:(rowT (y::r)).length+2<=70000:=by
   rw[cZ,KR] at hl;have:(aq (y::r)).length=(rowT (y::r)).length+2:=rfl;omega
  have ih:=ih y hy (λz hz=>hr z (.tail _ hz)) (by omega)
  obtain⟨q,eq⟩:∃q,rowT (y::r)=107::q:=by
   rw[cZ,ey];cases ht:tokB y.2 with
   | true=>rw[nq ht];exact⟨_,rfl⟩
   | false=>rw[nu ht];exact⟨_,rfl⟩
  show Shw c (b+2) (mkS (59::32::rowT (y::r))) (y::r);rw[eq] at ih hl2 ⊢;rw[KJ] at hl2;obtain⟨l,k,h1,h2,h3,h4,rfl⟩:=FJ (r:=q) (by omega)
  have lz:(59::32::107::q).length<=80000:=by simp only[KJ];omega
  have sb:∀σ,Mp c (b+2) σ (.gl "_twin_re_7") "subn" [.str "",.str (mkS (59::32::107::q))] (.tup [.str (mkS (107::q)),.int 1]):=λσ=>by
   have:=Mp.subn (c:=c) (b:=b+2) (σ:=σ) hB K.junk h1 (by omega) (by rw[lZ,h2,KJ];omega) h4 (KQ lz (by decide))
   rw[nD,h2] at this;exact this
  exact .junk (Q0 _ _) (KQ lz (by decide)) (λσ=>Mp.search K.tok (KQ lz (by decide)) (.no (xX (by simp only[KJ];omega) rfl))) (Em _) sb ih
end
end
section
open PySem.Builtin.Re
theorem CJ:builtinKind "re.Pattern.search"=some .method:=by decide +kernel
theorem Cz:Manifest.varargsMethods.contains "re.Pattern.search"=false:=by decide +kernel
theorem CG:isSubtype (.type "re.Pattern") (.type "module")=pure false:=by rw[isSubtype_type];rfl'
theorem CQ(a b:Value):∃sig,Manifest.signature? "re.Pattern.search"=some sig/\Bind.checkArgs "re.Pattern.search" {sig with full:=s!"{Bind.lastOf "re.Pattern"}.{Bind.lastOf "re.Pattern.search"}" } ⟨[a,b],[]⟩=pure ():=by
 rw[signature?_of (id:="re.Pattern.search") (n:=['h','c','r','a','e','s']) (o:=['n','r','e','t','t','a','P','.','e','r']) (by rfl') ie]
 exact⟨_,rfl,by rfl'⟩
section
variable{c:Cx}{b:Nat}
structure wM(c:Cx)(x re:Str):Prop where
 at_:∃f p o vs,c.D.mg x=some (.ref f)/\c.D.mg re=some (.ref p)/\c.K f=some o/\o.cls=.type "builtin_function_or_method"/\o.data=.fields vs/\vs[0]?=some (.builtin "re.Pattern.search")/\vs[1]?=some (.ref p)
theorem uy{x re t:Str}{code:Array Nat}{g:Nat}{r:V}(hb:wM c x re)(hp:aV c re code g)(hz:t.cps.size<=16777216)(h:Hit g re t (Sre.forSearch code t.cps g 0 t.cps.size false) r):FnOk c b x [.str t] r:=λσ N u vs E hu hv=>by
 obtain⟨f,p',o,ws,f1,f2,f3,f4,f5,f6,f7⟩:=hb.at_;obtain⟨p,tp,pn,fl,x3,x4,k1,k2,ps,n,e1,e2,e3,e4⟩:=hp.at_;cases f2.symm.trans e1;cases f1.symm.trans hu.gl_inv;obtain⟨_,rfl,h1⟩:=hv.one;obtain⟨tk,rfl⟩:=h1.str_inv;have hf:=N.S.wd.kp _ _ f3;have ho:=N.S.wd.kp _ _ e2;refine⟨⟨.machine,λQ hq=>?_⟩,?_⟩
 ·show wpAny c.M N.A _ _ _ _
  unfold keeperOf;refine wpAny_bind (wpAny_load hf ?_);rw[f5];dsimp only;rw[f4];exact wpAny_pure hq
 ·refine wpAny_call (codeAny_of_tree ?_)
  show wpAny _ N.A.in1 (callAny (.ref f) ⟨[.str t tk],[]⟩) _ _ _;unfold callAny;refine wpAny_bind (wpAny_load hf ?_);rw[f5];dsimp only;rw[f4,f6,f7];dsimp only;refine wpAny_ite_true rfl ?_;refine wpAny_ite_true rfl ?_;refine wpAny_bind ?_
  ·obtain⟨sig,g1,g2⟩:=CQ (.ref p') (.str t tk)
   show wpAny _ N.A.in1 (checkBoundCall "re.Pattern.search" ⟨[.ref p',.str t tk],[]⟩) _ _ _;unfold checkBoundCall;rw[g1,CJ];dsimp only;refine wpAny_ite_false rfl ?_;refine wpAny_bind (wpAny_isInstance (T:="re.Pattern") ⟨_,ho,rfl⟩ CG ?_);rw[Cz];refine wpAny_ite_false rfl ?_;refine wpAny_bind (PySem.ks_wpAny_isType_inst (x:=p') (h:=N.s.heap) (d:=N.s.drawn) (os:=N.s.os) (g:=N.s.gens) (t:=N.s.toks) ho (λ_ e=>by cases e) ?_)
   refine wpAny_ite_false rfl ?_;refine wpAny_bind (wpAny_typeOf (T:="re.Pattern") ⟨_,ho,rfl⟩ ?_);show wpAny _ _ (Bind.checkArgs _ _ _) _ _ _;rw[g2];refine wpAny_pure ?_;refine wpAny_pure ⟨Code.quiet_builtin _ (by decide +kernel),?_⟩
   refine codeAny_builtin rE ?_;rw[Around.under_plainId (by decide +kernel) _]
   show wpAny _ N.A.in1 (do let t <- reTarget "re.Pattern.search" "search" ⟨[.ref p',.str t tk],[]⟩;reAnswer t (Sre.forSearch t.code t.text t.groups t.pos t.lim false)) _ _ _
   refine wpAny_bind (mC ho (N.S.wd.kp _ _ e3) e4 hz ?_);refine wpAny_mono (nG N.S e1 h _) (λf s' ⟨v,e,q⟩=>?_) λ_ _ q=>q;subst e;exact q
end
end
section
section
variable{c:Cx}{g:Glb}{A:Around}{fr:List Env}{γ:Gh}{P0 P P':Frz}{s0 s s':Shared}{cs:List Cell}{E:Value->Shared->Prop}{b:Nat}{env:Env}{σ:Sg}{l:Lv}{lr:List Lv}
theorem Act.gens(X:Act c fr γ P0 s0 P s cs){G:Array GenState}(h:cL s.gens G):Act c fr γ P0 s0 P {s with gens:=G} cs :=
 ⟨⟨X.since.gr,⟨X.since.ext.keep,X.since.ext.old,X.since.ext.gens.trans h,X.since.ext.os⟩,⟨X.st.real,X.st.wd,X.st.frs⟩⟩,X.base,X.kb⟩
theorem nJ(s:Shared)(k:Nat){x:GenState}(hx:x.bare=true):cL s.gens (s.setGen k x).gens:=by
 refine⟨λh=>?_,by simp[Shared.setGen]⟩
 by_cases hk:k<s.gens.size
 ·exact(GenOnlyQ.of (GenOnly.setGen s k x) (setGen_self (gs:=s.gens[k]) (Ra hk)) hx).bare h
 ·have:(s.setGen k x).gens=s.gens:=by simp[Shared.setGen,Array.setIfInBounds,hk]
  rw[this];exact h
theorem lQ(hB:Wd c c.hb)(X:Act c (env::fr) γ P0 s0 P s cs)(he:aM c γ env l){x:Str}{v:Value}(hk:aget x l.names=some .local){vs:List (Str × V)}(hc:cs[l.loc]?=some (.vars vs))(hx:aget x vs=none){Q:Unit->Shared->Prop}
  (hQ:∀s',Act c (env::fr) γ P0 s0 P s' (cs.set l.loc (.vars vs))->(∀b o,b≠γ.ρ l.loc->s.heap.get? b=some o->s'.heap.get? b=some o)->s'.gens=s.gens->Q () s'):wpAny c.M A (storeName env x v) Q E s:=by
 have hp:(env.scope.kind == .class||(env.scope.kind == .module&&env.locals != env.globals))=false:=by rw[he.fn];rfl
 obtain⟨o,es,ep,e1,e2,e3,e4⟩:=X.st.real.cell _ _ hc;rw[storeName_local (he.loc_ x hk) hp,he.loc];refine rQ e1 e2 e3 λh' es' ep' g1 g2 g3 g4=>hQ _ (X.turn hB (i:=l.loc) ⟨he.lok,g4,X.st.real.upd hc (by intro q;cases q) g4 ⟨_,es',ep',g1,rfl,g2,λy w hy=>?_⟩,⟨o,_,e1,g1,rfl,λ_=>⟨es',ep',rfl⟩⟩,rfl,rfl⟩) (λb o hb e=>(g4.2 b hb).trans e) rfl
 obtain⟨r,r1,r2⟩:=e4 y w hy;have hne:¬ y=x:=λq=>by subst q;rw[hx] at hy;cases hy
 exact⟨r,by rw[g3,if_neg hne];exact r1,r2⟩
theorem Now.iterAll(N:Now c b σ){xs:List V}{x:Value}{E:Value->Shared->Prop}{Q:Value->Shared->Prop}(hx:N.Is x (.lst xs))
  (hQ:∀I fp Pn T,(∀A':Around,A'.handled=none->Wk c A' N.P I fp xs Pn T)->T 0 (N.s.heap.push {cls:=.type "list_iterator",data:=.fields #[x,rawInt 0]})->I=N.s.heap.objs.size->Q (.ref I) {N.s with heap:=N.s.heap.push {cls:=.type "list_iterator",data:=.fields #[x,rawInt 0]}}):N.wp (pyIter x) Q E:=by
 obtain⟨a,vs,n,rfl,e,p⟩:=hx.lst_inv;have ho:=N.S.real.le _ _ e;have hlen:=p.length;rw[Lp] at hlen;have hne:a≠N.s.heap.objs.size:=λq=>Mq _ (q▸Heap.lt_size ho);refine wpAny_pyIter_list ⟨_,ho,rfl,n,rfl⟩ (hQ _ _ _ _ (λA' hA'=>⟨hlen▸Walks.list hA' N.s.heap.objs.size a hne vs,λi w hw d hd=>?_,λb hb=>?_,λi h t=>?_⟩) ?_ rfl)
 ·obtain⟨w',e1,e2⟩:=p.get hd
  have:vs[i]?=some w':=by rw[<-e1];simp
  rw[hw] at this;cases this;exact e2
 ·simp only[KZ,M4,or_false] at hb
  rcases hb with rfl | rfl
  ·exact .inl rfl
  ·exact .inr ⟨_,e⟩
 ·obtain⟨⟨o,e1,e2,_⟩,_⟩:=t
  exact⟨o,e1,_,e2,by decide⟩
 ·exact⟨⟨_,Heap.get?_push_size _ rfl,rfl,rfl⟩,⟨_,Heap.get?_push_of_some _ ho,rfl,n,rfl⟩⟩
structure GI(c:Cx)(fr:List Env)(γ:Gh)(P0:Frz)(s0:Shared)(I:Addr)(fp:List Addr)(xs:List V)(Pn:Nat->Value->Prop)(T:Nat->Heap->Prop)(S:Addr)(j:Nat)(s:Shared):Prop where
 h:∃P vs,Act c fr γ P0 s0 P s [.vars vs]/\(∀A':Around,A'.handled=none->Wk c A' P I fp xs Pn T)/\aF c γ P s0.heap I/\T j s.heap/\aF c γ P s0.heap S/\S≠I/\∃acc m,s.heap.get? S=some (aa acc m)
structure Kp2(γ:Gh)(I:Addr)(s s':Shared):Prop where
 h:∀b o,(∀i,i<γ.k->γ.ρ i≠b)->b≠I->o.cls≠.type "frame"->o.cls≠.none->s.heap.get? b=some o->s'.heap.get? b=some o
 g:s.gens.size<=s'.gens.size
theorem Kp2.refl(γ:Gh)(I:Addr)(s:Shared):Kp2 γ I s s:=⟨λ_ _ _ _ _ _ e=>e,K3 _⟩
theorem Kp2.trans{I:Addr}{a d e:Shared}(x:Kp2 γ I a d)(y:Kp2 γ I d e):Kp2 γ I a e:=⟨λb o h1 h2 h3 h4 h=>y.h b o h1 h2 h3 h4 (x.h b o h1 h2 h3 h4 h),KQ x.g y.g⟩
def oY(c:Cx)(fr:List Env)(γ:Gh)(l:Lv)(cenv:Env)(x:Str)(A:Around)(elt:Expr)(xs:List V)(ys:List Str):Prop :=
 ∀(j:Nat) (d:V) (P:Frz) (s:Shared) (vs:List (Str × V)) (E:Value->Shared->Prop),xs[j]?=some d->aget x vs=some d->St c (cenv::fr) γ P s [.vars vs]->wpAny c.M A (eval elt cenv) (Ev c (cenv::fr) γ P s [.vars vs] (.str (ys.getD j ""))) E s
noncomputable abbrev genP(c:Cx)(fr:List Env)(γ:Gh)(P0:Frz)(s0:Shared)(I:Addr)(fp:List Addr)(xs:List V)(Pn:Nat->Value->Prop)(T:Nat->Heap->Prop)(S:Addr)(ys:List Str):Protocol:=λm sa v s kap =>
 ∃k,v=.str (ys.getD (xs.length-1-m) "") k/\Kp2 γ I sa s/\GI c fr γ P0 s0 I fp xs Pn T S (xs.length-m) s/\∀s'',GI c fr γ P0 s0 I fp xs Pn T S (xs.length-m) s''->kap (.send .none) s''
noncomputable abbrev genR(c:Cx)(fr:List Env)(γ:Gh)(P0:Frz)(s0:Shared)(I:Addr):GenEnd:=λn sa r s=>r=.ok .next/\(n=0/\Kp2 γ I sa s/\∃P vs,Act c fr γ P0 s0 P s [.vars vs])
theorem GP(hB:Wd c c.hb){cenv:Env}{x:Str}{px pos:Pos}{elt iter:Expr}{scope:Scope}{I:Addr}{fp:List Addr}{xs:List V}{Pn:Nat->Value->Prop}{T:Nat->Heap->Prop}{S:Addr}{ys:List Str}(hh:A.handled=none)(he:aM c γ cenv l)(hk:aget x l.names=some .local)(h0:l.loc=0)
  (hco:cenv.scope.isCoroutine=false) (hel:oY c fr γ l cenv x (A.over (.compLoop (.GeneratorExp elt [⟨.Name x px,iter,[],0⟩] scope pos) 0 (.ref I) .none cenv) []) elt xs ys) :
  ∀(k j:Nat) (sa s:Shared),xs.length-j=k->j<=xs.length->GI c (cenv::fr) γ P0 s0 I fp xs Pn T S j s->Kp2 γ I sa s ->
   Seg c.M A (genR c (cenv::fr) γ P0 s0 I) (genP c (cenv::fr) γ P0 s0 I fp xs Pn T S ys) (xs.length-j) sa
    (.compLoop (.GeneratorExp elt [⟨.Name x px,iter,[],0⟩] scope pos) 0 (.ref I) .none cenv)
    (c.M.den (.compLoop (.GeneratorExp elt [⟨.Name x px,iter,[],0⟩] scope pos) 0 (.ref I) .none cenv)) [] s:=by
 have hh':(A.over (.compLoop (.GeneratorExp elt [⟨.Name x px,iter,[],0⟩] scope pos) 0 (.ref I) .none cenv) []).handled=none:=hh;intro k
 induction k with
 | zero =>
  intro j sa s hkj hj G K;have hin:j=xs.length:=by omega
  subst hin;obtain⟨P,vs,X,w,bI,t,bS,hSI,acc,ma,eS⟩:=G.h;show Seg _ A _ _ _ sa _ ((compTurn (.GeneratorExp elt [⟨.Name x px,iter,[],0⟩] scope pos) 0 (.ref I) .none cenv).onRaise (leaving cenv)) [] s;rw[compTurn_gen,Sem.onRaise_eq_wrap];refine seg_bind_wrap (wpAny_standAt ?_);refine seg_bind_wrap ((w _ hh').W.done s _ _ t λh' tk kp=>?_);have kp:∀b o,b∉[I]->s.heap.get? b=some o->h'.get? b=some o:=kp;refine seg_end (.ok .next) ⟨rfl,PK _,K.trans ⟨λb o _ h2 _ _ e=>kp b o (by simpa using h2) e,K3 _⟩,P,vs,X.walk hB (W:=[I]) (λb hb=>?_) (λb hb=>?_) kp⟩
  ·obtain rfl:b=I:=by simpa using hb
   exact bI
  ·obtain rfl:b=I:=by simpa using hb
   exact(w _ hh').wlk _ _ t
 | succ k ih =>
  intro j sa s hkj hj G K;have hlt:j<xs.length:=by omega
  obtain⟨P,vs,X,w,bI,t,bS,hSI,acc,ma,eS⟩:=G.h;show Seg _ A _ _ _ sa _ ((compTurn (.GeneratorExp elt [⟨.Name x px,iter,[],0⟩] scope pos) 0 (.ref I) .none cenv).onRaise (leaving cenv)) [] s;rw[compTurn_gen,Sem.onRaise_eq_wrap];refine seg_bind_wrap (wpAny_standAt ?_);refine seg_bind_wrap ((w _ hh').W.item j s _ _ hlt t λv h1 tk1 hv t1 kp=>?_);have kp:∀b o,b∉[I]->s.heap.get? b=some o->h1.get? b=some o:=kp;have X1:Act c (cenv::fr) γ P0 s0 P {s with heap:=h1,toks:=tk1} [.vars vs]:=X.walk hB (W:=[I]) (λb hb=>by
   obtain rfl:b=I:=by simpa using hb
   exact bI) (λb hb=>by
   obtain rfl:b=I:=by simpa using hb
   exact(w _ hh').wlk _ _ t) kp
  obtain⟨d,hd⟩:∃d,xs[j]?=some d:=⟨_,Lb hlt⟩;have pv:=(w _ hh').item j v hv d hd;refine seg_bind_wrap (wpAny_of_eq (rfl:letOwnedTupleGo (.Name x px) (.ref I) v=pure ()) ?_);refine seg_bind_wrap (wpAny_assign_Name (jw (σ:=⟨[l],[.vars vs]⟩) (σ':=⟨[l],[.vars (aput x d vs)]⟩) X1.st rfl he (.pu pv) (by have:=Sv.loc (l:=l) (r:=[]) (v:=d) (cs:=[.vars vs]) hk (by rw[h0];rfl);rw[h0] at this;exact this) λi s2 tn _ _=>?_))
  have X2:=X1.turn hB tn;have kp2:∀b o,(∀i,i<γ.k->γ.ρ i≠b)->h1.get? b=some o->s2.heap.get? b=some o:=λb o hb e=>(tn.same.2 b λq=>hb i tn.lt q.symm).trans e;have t2:T (j+1) s2.heap:=(w _ hh').frame t1 (λo e=>kp2 I o (λi hi=>bI.n i hi) e) X1.st.real.le X2.st.real.le;refine seg_bind_wrap (wpAny_tests_nil ?_);simp only[if_true];have hy:∀v,yieldOut cenv v=yieldValue v:=λv=>by simp only[yieldOut,hco,O2,if_false]
  simp only[hy];obtain⟨m,hm⟩:=sb1 hlt;rw[hm,Sem.bind_eq_wrap',Sem.bind_eq_wrap',Sem.wrap_wrap,Sem.wrap_wrap];refine seg_wrap (wpAny_mono (hel j d P s2 _ _ hd (by rw[kj,if_pos rfl]) X2.st) (λy s4 q_=>Exists.p3 q_ λP4 a4 i4=>?_) λ_ _ e=>e)
  obtain⟨tk,rfl⟩:=i4.str_inv;have X4:=X2.aft a4;obtain⟨oI,eI,qI⟩:=(w _ hh').cls _ _ t2;have eS2:s2.heap.get? S=some (aa acc ma):=kp2 S _ bS.n (kp S _ (by simpa using hSI) eS)
  have G4:GI c (cenv::fr) γ P0 s0 I fp xs Pn T S (j+1) s4:=⟨P4,_,X4,λA' hA'=>(w A' hA').mono a4.gr.le,bI.grow eI a4.gr,(w _ hh').keep t2 a4.ext.keep X2.st.real.le (λb o e=>X4.st.real.le b o (a4.gr.le b o e)),bS.grow eS2 a4.gr,hSI,acc,ma,a4.ext.keep.exact eS2 (tyF (by decide)) tyN⟩
  have K4:Kp2 γ I sa s4:=K.trans ⟨λb o h1 h2 h3 h4 e=>a4.ext.keep.exact (kp2 b o h1 (kp b o (by simpa using h2) e)) h3 h4,by have h1:=a4.ext.gens.size;rw[tn.gens] at h1;exact h1⟩
  have e1:=sb2 hm;refine seg_at (seg_yield rfl rfl rfl ⟨tk,by rw[sb4 e1],K4,by rw[e1];exact G4,λs'' G''=>?_⟩)
  rw[e1] at G'';have:=ih (j+1) s'' s'' (by omega) hlt G'' (.refl _ _ _)
  rw[sb3 e1] at this;exact seg_again rfl this
theorem GK(hB:Wd c c.hb){cenv:Env}{x:Str}{px pos:Pos}{elt iter:Expr}{scope:Scope}{I:Addr}{fp:List Addr}{xs:List V}{Pn:Nat->Value->Prop}{T:Nat->Heap->Prop}{S:Addr}{ys:List Str}(hh:A.handled=none)(he:aM c γ cenv l)(hk:aget x l.names=some .local)(h0:l.loc=0)
  (hco:cenv.scope.isCoroutine=false) (hel:oY c fr γ l cenv x (A.over (.compLoop (.GeneratorExp elt [⟨.Name x px,iter,[],0⟩] scope pos) 0 (.ref I) .none cenv) []) elt xs ys) (sa s:Shared) (G:GI c (cenv::fr) γ P0 s0 I fp xs Pn T S 0 s) (K:Kp2 γ I sa s) :
  Seg c.M A (genR c (cenv::fr) γ P0 s0 I) (genP c (cenv::fr) γ P0 s0 I fp xs Pn T S ys) xs.length sa
   (.compStart (.GeneratorExp elt [⟨.Name x px,iter,[],0⟩] scope pos) 0 (.ref I) .none cenv)
   (c.M.den (.compStart (.GeneratorExp elt [⟨.Name x px,iter,[],0⟩] scope pos) 0 (.ref I) .none cenv)) [] s:=by
 have hh':(A.over (.compStart (.GeneratorExp elt [⟨.Name x px,iter,[],0⟩] scope pos) 0 (.ref I) .none cenv) []).handled=none:=hh;have loop:=GP (iter:=iter) (px:=px) (pos:=pos) (scope:=scope) (S:=S) hB hh he hk h0 hco hel xs.length 0 sa s (PJ _) (K5 _) G K;rw[PJ] at loop;obtain⟨P,vs,X,w,bI,t,_⟩:=G.h;show Seg _ A _ _ _ sa _ ((compStart (.GeneratorExp elt [⟨.Name x px,iter,[],0⟩] scope pos) 0 (.ref I) .none cenv).onRaise (leaving cenv)) [] s;unfold compStart;rw[Sem.onRaise_eq_wrap];show Seg _ A _ _ _ sa _ ((ask >>= _).wrap _ _ _ _) [] s;refine seg_bind_wrap (wpAny_askSetting ?_);split
 ·exact seg_again rfl loop
 ·first
   | exact seg_bind_wrap (wpAny_rule (seg_bind_wrap (wpAny_standAt (seg_bind_wrap ((w _ hh').W.self 0 s _ _ t (seg_again rfl loop))))))
   | (refine seg_bind_wrap (wpAny_rule ?_);show Seg _ A _ _ _ sa _ ((standAt iter.pos >>= _).wrap _ _ _ _) [] s;exact seg_bind_wrap (wpAny_standAt (seg_bind_wrap ((w _ hh').W.self 0 s _ _ t (seg_again rfl loop)))))
theorem GI.gens{I:Addr}{fp:List Addr}{xs:List V}{Pn:Nat->Value->Prop}{T:Nat->Heap->Prop}{S:Addr}{j:Nat}(h:GI c fr γ P0 s0 I fp xs Pn T S j s){G:Array GenState}(hG:cL s.gens G):GI c fr γ P0 s0 I fp xs Pn T S j {s with gens:=G} :=
 let ⟨P,vs,X,r⟩:=h.h;⟨P,vs,X.gens hG,r⟩
theorem GX(hB:Wd c c.hb){I:Addr}{fp:List Addr}{xs:List V}{Pn:Nat->Value->Prop}{T:Nat->Heap->Prop}{S a:Addr}{gk:Nat}{ys:List Str}{res:Value}{R:Result->Shared->Prop}(hh:A.handled=none)(hd:A.depth<recursionLimit)(hlen:ys.length=xs.length)(hn:xs.length<=1000)(hx:∀i,i<γ.k->γ.ρ i≠a)(haI:a≠I)
  (hR:∀s' acc m P vs,Act c fr γ P0 s0 P s' [.vars vs]->s'.heap.get? S=some (aa acc m)->StrsAre acc.toList ys->R (.ok (.ret res)) s') :
  ∀(k j:Nat) (s:Shared) (acc:Array Value) (m:Nat) (gs:GenState),xs.length-j=k->j<=xs.length->GI c fr γ P0 s0 I fp xs Pn T S j s->s.heap.IsGen a gk->s.gens[gk]?=some gs -> 
   (∀s'',GI c fr γ P0 s0 I fp xs Pn T S j s''->gs.Goes c.M A.in1.in1 (genR c fr γ P0 s0 I) (genP c fr γ P0 s0 I fp xs Pn T S ys) (xs.length-j) (.send .none) s'') ->
   s.heap.get? S=some (aa acc m)->StrsAre acc.toList (ys.take j)->codeAny c.M A (.builtin "list.extend.loop" ⟨[.ref S,.ref a,res],[]⟩) R s:=by
 intro k;have goal:∀(j:Nat) (s:Shared) (acc:Array Value) (m:Nat) (gs:GenState),j<=xs.length->GI c fr γ P0 s0 I fp xs Pn T S j s->s.heap.IsGen a gk->s.gens[gk]?=some gs ->
   (∀s'',GI c fr γ P0 s0 I fp xs Pn T S j s''->gs.Goes c.M A.in1.in1 (genR c fr γ P0 s0 I) (genP c fr γ P0 s0 I fp xs Pn T S ys) (xs.length-j) (.send .none) s'') ->
   s.heap.get? S=some (aa acc m)->StrsAre acc.toList (ys.take j) ->
   (∀(acc':Array Value) (m':Nat) (gs':GenState) (s':Shared),j<xs.length->GI c fr γ P0 s0 I fp xs Pn T S (j+1) s'->s'.heap.IsGen a gk->s'.gens[gk]?=some gs' ->
    (∀s'',GI c fr γ P0 s0 I fp xs Pn T S (j+1) s''->gs'.Goes c.M A.in1.in1 (genR c fr γ P0 s0 I) (genP c fr γ P0 s0 I fp xs Pn T S ys) (xs.length-(j+1)) (.send .none) s'') ->
    s'.heap.get? S=some (aa acc' m')->StrsAre acc'.toList (ys.take (j+1))->codeAny c.M A (.builtin "list.extend.loop" ⟨[.ref S,.ref a,res],[]⟩) R s') ->
   codeAny c.M A (.builtin "list.extend.loop" ⟨[.ref S,.ref a,res],[]⟩) R s:=by
  intro j s acc m gs hj G hg hgs hgo eS hacc again;obtain⟨P,vs,X,w,bI,t,bS,hSI,_⟩:=G.h;have hgk:gk<s.gens.size:=by
   rcases Nat.lt_or_ge gk s.gens.size with h' | h'
   ·exact h'
   ·rw[Ss h'] at hgs;cases hgs
  have go:=hgo (s.setGen gk .running) (G.gens (nJ s gk rfl));refine codeAny_builtin F.entry_extend_loop ?_;rw[Around.under_plainId F.plain_extend_loop _];show wpAny _ A.in1 (pyNext (.ref a) >>= _) _ _ s;refine wpAny_bind (wpAny_pyNext_genexpQ (A:=A.in1) (P:=λn s₀ s₁=>n=0/\Kp2 γ I s₀ s₁/\∃P vs,Act c fr γ P0 s0 P s₁ [.vars vs]) (Y:=genP c fr γ P0 s0 I fp xs Pn T S ys) hh X.st.wd.nl hd hg hgs go ?_ ?_)
  ·intro v s₁ gs' hb hv
   obtain⟨tk,rfl,K1,G1,hkap⟩:=hv
   by_cases hlt:j<xs.length
   ·obtain⟨n,hm⟩:=sb1 hlt
    rw[hm] at hkap G1;simp only[Qz] at hkap G1;have e1:=sb2 hm;rw[e1] at hkap G1;have eS1:s₁.heap.get? S=some (aa acc m):=K1.h S _ bS.n hSI (tyF (by decide)) tyN eS
    have hsz1:gk<s₁.gens.size:=Lk (by simpa [Shared.setGen] using hgk) K1.g
    have hl1:=gU hacc;rw[Lp,Mr] at hl1;obtain⟨P1,vs1,X1,w1,bI1,t1,bS1,_,_⟩:=G1.h;obtain⟨m',hm'⟩:=f9 (·.push (.str (ys.getD (xs.length-1-(xs.length-j-1)) "") tk)) acc m;show wpAny _ A.in1 (updateSeq S (·.push _) >>= _) _ _ _;refine wpAny_bind (wpAny_updateSeq (s:=s₁.setGen gk gs') eS1 rfl (wpAny_pure ⟨plainId_quiet F.plain_extend_loop _,?_⟩) (by show acc.size<=16777216;omega) (by show(acc.push _).size<=16777216+1;rw[Py];omega))
    have oth:∀b o,b≠S->s₁.heap.get? b=some o->(s₁.heap.update S (Obj.mapSeq (·.push (.str (ys.getD (xs.length-1-(xs.length-j-1)) "") tk)))).get? b=some o:=λb o hb e=>by rw[Heap.get?_update_other _ _ (Ne.symm hb)];exact e
    have eS2:(s₁.heap.update S (Obj.mapSeq (·.push (.str (ys.getD (xs.length-1-(xs.length-j-1)) "") tk)))).get? S=some (aa (acc.push (.str (ys.getD (xs.length-1-(xs.length-j-1)) "") tk)) m'):=by rw[Heap.get?_update_self _ eS1 (by rw[hm'];rfl),hm']
    have X2:=((X1.gens (nJ s₁ gk hb)).but hB bS1 eS1 (λ_ _ q=>by cases q) (t:=s₁.toks) oth (.data eS1 λ_ q=>by cases q))
    refine again _ _ gs' _ hlt ⟨P1,vs1,X2,w1,bI1,(w1 _ hh).frame t1 (λo e=>oth I o (Ne.symm hSI) e) X1.st.real.le X2.st.real.le,bS1,hSI,_,_,eS2⟩ ?_ (setGen_self (gs:=s₁.gens[gk]) (Ra hsz1)) (λs'' G''=>?_) eS2 ?_
    ·obtain⟨o,nm,qn,ho,hc,r⟩:=hg
     have haS:a≠S:=λq=>by subst q;rw[eS] at ho;cases ho;exact absurd (Value.type.inj hc) (by decide)
     exact⟨o,nm,qn,oth a o haS (K1.h a o hx haI (by rw[hc];exact tyF (by decide)) (by rw[hc];exact tyN) ho),hc,r⟩
    ·have:=hkap s'' G''
     rw[sb3 e1];exact this
    ·rw[Oo,PQ]
     have:ys[j]?=some (ys.getD (xs.length-1-(xs.length-j-1)) ""):=by
      rw[sb6 hlt,Mh,Lb (by omega)];rfl
     rw[this];exact lF hacc _ _
   ·have h0:xs.length-j=0:=by omega
    rw[h0] at hkap G1;exact(hkap s₁ G1).elim
  ·intro s₁ hp h' hk
   obtain⟨h0,K1,P1,vs1,X1⟩:=hp;have eS1:s₁.heap.get? S=some (aa acc m):=K1.h S _ bS.n hSI (tyF (by decide)) tyN eS
   refine wpAny_pure (hR _ acc m P1 vs1 ((X1.gens (nJ s₁ gk (x:=.finished) rfl)).kept hk) (hk _ _ eS1) ?_);rw[Rx (by omega)] at hacc
   exact hacc
 induction k with
 | zero=>exact λj s acc m gs hk hj G hg hgs hgo eS hacc=>goal j s acc m gs hj G hg hgs hgo eS hacc λ_ _ _ _ h=>absurd h (by omega)
 | succ k ih=>exact λj s acc m gs hk hj G hg hgs hgo eS hacc=>goal j s acc m gs hj G hg hgs hgo eS hacc λacc' m' gs' s' h G' hg' hgs' hgo' eS' hacc'=>ih (j+1) s' acc' m' gs' (by omega) h G' hg' hgs' hgo' eS' hacc'
end
end
section
open PySem.Builtin.Str
section
variable{c:Cx}{g:Glb}{A:Around}{fr:List Env}{γ:Gh}{P0 P P':Frz}{s0 s s':Shared}{cs:List Cell}{E:Value->Shared->Prop}{b:Nat}{env:Env}{σ:Sg}{l:Lv}{lr:List Lv}
theorem GQ(hB:Wd c c.hb){I:Addr}{fp:List Addr}{xs:List V}{Pn:Nat->Value->Prop}{T:Nat->Heap->Prop}{a:Addr}{gk:Nat}{ys:List Str}{sep:Str}{t:Tok}{vs:List (Str × V)}{gs:GenState}{Q:Value->Shared->Prop}
  (hh:A.handled=none) (hd:A.depth<recursionLimit) (hlen:ys.length=xs.length) (hn:xs.length<=1000) (hx:∀i,i<γ.k->γ.ρ i≠a) (haI:a≠I)
  (X:Act c fr γ P0 s0 P s [.vars vs]) (w:∀A':Around,A'.handled=none->Wk c A' P I fp xs Pn T) (bI:aF c γ P s0.heap I) (t0:T 0 s.heap) (hg:s.heap.IsGen a gk) (hgs:s.gens[gk]?=some gs)
  (hgo:∀S s'',GI c fr γ P0 s0 I fp xs Pn T S 0 s''->gs.Goes c.M A.in1.in1.in1 (genR c fr γ P0 s0 I) (genP c fr γ P0 s0 I fp xs Pn T S ys) xs.length (.send .none) s'') (hroom:bc sep ys<=16777216)
  (hQ:∀t' s' P vs,Act c fr γ P0 s0 P s' [.vars vs]->Q (.str (Txt.join sep ys) t') s') :
  wpAny c.M A (call (.builtin "str.join") [.str sep t,.ref a]) Q E s:=by
 refine wpAny_call (codeAny_call_builtin F.slot_str_join.plain F.entry_str_join (F.slot_str_join.check _ _ _ _ _ _ _ _ (typeIs_str _ _ _) (F.args_str_join_2 _ _) ?_));rw[join_tree_other];refine wpAny_bind (wpAny_typeOf hg.typeIs ?_);show wpAny _ A.in1 ((pyIter (.ref a)).tryCatch _ >>= λit=>collect it >>= λitems=>joinTail sep items) _ _ s;refine wpAny_bind (wpAny_tryCatch (wpAny_pyIter_gen hg ?_));refine wpAny_bind ?_;unfold collect;refine wpAny_bind (wpAny_runValue (codeAny_builtin F.entry_proto_collect ?_));rw[Around.under_plainId F.plain_proto_collect _];show wpAny _ A.in1.in1 (newList [] >>= λl=>again (.builtin "list.__iadd__" ⟨[l,.ref a],[]⟩)) _ _ s;refine wpAny_bind (wpAny_newObj_type ?_);refine wpAny_pure ⟨plainId_quiet F.plain_list_iadd _,codeAny_builtin F.entry_list_iadd ?_⟩;rw[Around.under_plainId F.plain_list_iadd _];obtain⟨oa,nm,qn,hoa,hca,hra⟩:=id hg;have haS:s.heap.objs.size≠a:=Nq (Heap.lt_size hoa);have bS:aF c γ P s0.heap s.heap.objs.size:=iR X (aU _);have X1:=X.push (aa #[] 0) s.toks;have hg1:(s.heap.push (aa #[] 0)).IsGen a gk:=hg.push _;have hS1:(s.heap.push (aa #[] 0)).get? s.heap.objs.size=some (aa #[] 0):=Heap.get?_push_size _ rfl;show wpAny _ A.in1.in1 (Builtin.List.listExtendWith (.ref s.heap.objs.size) (.ref a) (.ref s.heap.objs.size)) _ _ _;unfold Builtin.List.listExtendWith;refine wpAny_bind (wpAny_typeOf hg1.typeIs ?_);have h1:Builtin.List.listSameRef (.ref s.heap.objs.size) (.ref a)=false:=by simp[Builtin.List.listSameRef,haS]
 have h2:(Value.type "generator"==Value.type "list")=false:=by decide
 have h3:(Value.type "generator"==Value.type "tuple")=false:=by decide
 rw[h1,h2,h3,if_neg (by decide)]
 refine wpAny_bind (wpAny_pyIter_gen hg1 ?_);refine wpAny_bind (wpAny_holding ?_);unfold Builtin.List.listLengthHint;refine wpAny_bind (wpAny_specialOf hg1.typeIs F.gen_no_len ?_);show wpAny _ A.in1.in1 (specialOf (Value.ref a) (KY "__length_hint__") >>= _) _ _ _;refine wpAny_bind (wpAny_specialOf hg1.typeIs F.gen_no_hint ?_);refine wpAny_pure ?_;show wpAny _ A.in1.in1 (rule "list.extend.makes-room" >>= λ_=>Builtin.List.listTouch (.ref s.heap.objs.size) >>= λ_ =>
  again (.builtin "list.extend.loop" ⟨[.ref s.heap.objs.size,.ref a,.ref s.heap.objs.size],[]⟩)) _ _ _
 refine wpAny_bind (wpAny_rule ?_);refine wpAny_bind ?_;show wpAny _ A.in1.in1 (updateSeq s.heap.objs.size (·.push .none) >>= λ_=>updateSeq s.heap.objs.size (·.pop)) _ _ _;obtain⟨m2,hm2⟩:=f9 (·.push Value.none) #[] 0;obtain⟨m3,hm3⟩:=f9 (·.pop) (#[].push Value.none) m2;refine wpAny_bind (wpAny_updateSeq hS1 rfl ?_ (by decide) (by decide))
 have hS2:((s.heap.push (aa #[] 0)).update s.heap.objs.size (Obj.mapSeq (·.push Value.none))).get? s.heap.objs.size=some (aa (#[].push Value.none) m2):=by rw[Heap.get?_update_self _ hS1 (by rw[hm2];rfl),hm2]
 refine wpAny_updateSeq hS2 rfl ?_ (by decide) (by decide)
 have hS3:(((s.heap.push (aa #[] 0)).update s.heap.objs.size (Obj.mapSeq (·.push Value.none))).update s.heap.objs.size (Obj.mapSeq (·.pop))).get? s.heap.objs.size=some (aa #[] m3):=by rw[Heap.get?_update_self _ hS2 (by rw[hm3];rfl),hm3];rfl
 have oth:∀b o,b≠s.heap.objs.size->(s.heap.push (aa #[] 0)).get? b=some o->(((s.heap.push (aa #[] 0)).update s.heap.objs.size (Obj.mapSeq (·.push Value.none))).update s.heap.objs.size (Obj.mapSeq (·.pop))).get? b=some o :=
  λb o hb e=>(Heap.get?_update_other _ _ (Ne.symm hb)).trans ((Heap.get?_update_other _ _ (Ne.symm hb)).trans e)
 have X3:=X1.but hB bS hS1 (λ_ _ q=>by cases q) (t:=s.toks) oth (.data hS1 λ_ q=>by cases q)
 have kp3:∀b o,s.heap.get? b=some o->(((s.heap.push (aa #[] 0)).update s.heap.objs.size (Obj.mapSeq (·.push Value.none))).update s.heap.objs.size (Obj.mapSeq (·.pop))).get? b=some o:=λb o e=>oth b o (Mu (Heap.lt_size e)) (Heap.get?_push_of_some _ e);obtain⟨oI,eI,_⟩:=(w A hh).cls _ _ t0;have hSI:s.heap.objs.size≠I:=Nq (Heap.lt_size eI);have t3:=(w A hh).frame t0 (λo e=>kp3 I o e) X.st.real.le X3.st.real.le;refine wpAny_pure ⟨plainId_quiet F.plain_extend_loop _,GX (A:=A.in1) (S:=s.heap.objs.size) (a:=a) (gk:=gk) (ys:=ys) hB hh hd hlen hn hx haI (λs' acc m P1 vs1 X' e' ha=>?_) xs.length 0 _ #[] m3 gs (PJ _) (K5 _) ⟨P,vs,X3,w,bI,t3,bS,hSI,_,_,hS3⟩ (hg.keeps kp3) hgs (λs'' G''=>hgo _ s'' G'') hS3 .nil⟩;show wpAny _ A.in1 (load s.heap.objs.size >>= _) _ _ s';refine wpAny_bind (wpAny_load e' ?_);refine wpAny_pure ?_;obtain⟨l,e1,e2⟩:=lE ha;rw[e1];have hok:JoinOk sep (l.map (·.1))=true:=by rw[e2];exact joinOk_of hroom
 unfold JoinOk at hok;rw[Oj] at hok;have g:Gives (joinTail sep (strValues l)) (joinMade sep l):=by
  have g0:=gives_joinTail sep l hok;cases l with
  | nil=>exact g0
  | cons p r=>cases r with
   | nil=>exact g0
   | cons q r'=>exact g0
 exact g c.prog c.w A (wants Q E) s' (post_join l ⟨joinFit_length hok,λt' k=>by rw[e2];exact hQ t' _ P1 vs1 (X'.aft (.toks X'.st k))⟩)
end
end
section
noncomputable abbrev bG:Scope:=⟨.function,[(".0",.local),("arg",.local),("quote",.globalImplicit)],true,false,[]⟩
noncomputable abbrev fG:Lv:=⟨bG.names,0,[]⟩
section
variable{c:Cx}{g:Glb}{A:Around}{fr:List Env}{γ:Gh}{P0 P P':Frz}{s0 s s':Shared}{cs:List Cell}{E:Value->Shared->Prop}{b:Nat}{env:Env}{σ:Sg}{l:Lv}{lr:List Lv}{cd T:Addr}
theorem G3(L:bz c cd T)(S:St c fr γ P s cs){env:Env}(hc:env.code=.ref cd){pos:Pos}{q:Str}{scope:Scope}{Q:Value->Shared->Prop}
  (hQ:∀cv s',Aft c fr γ P s cs P s'->s'.gens=s.gens->Q cv s'):wpAny c.M A (genexprCode env pos q scope) Q E s:=by
 obtain⟨ps,hT,ht,hd⟩:=L.at_ S;rcases ht.among pos with hn | ⟨cv,hs,hcv⟩
 ·refine wpAny_genexprCodeX hc (hd.code hT ht.ok) (hd.tab hT) hn λc' h' tk hx hge hlt _ hrec htb ⟨P',_,_,ho,_⟩=>?_
  have hca:bA h' (.ref c'):=by
   obtain⟨o,vs,e1,e2,e3,_⟩:=ho;obtain⟨c2,o2,vs2,t2,q1,q2,q3,q4⟩:=hrec;cases q1;rw[e1] at q2;cases q2;exact⟨c',o,vs2,t2,q,rfl,e1,e2,q3,q4⟩
  exact hQ _ _ (L.grown S hT hx htb.2 (.snoc hca)) rfl
 ·exact wpAny_genexprCode_hit hc (hd.code hT ht.ok) hs (hQ cv s (.refl S) rfl)
theorem GJ(G:Array GenState){x:GenState}(hx:x.bare=true):cL G (G.push x):=⟨λh=>h.push hx,by rw[Py];exact M3 _⟩
theorem GR(hB:Wd c c.hb)(Y:Act c fr Gh.nil P0 s0 P s []){it cv:Value}{qual:Str}{Q:Env->Shared->Prop}
  (hQ:∀cenv γ' s',cenv.scope.isCoroutine=false->(∀i,i<γ'.k->γ'.ρ i=s.heap.objs.size)->aM c γ' cenv fG->Act c (cenv::fr) γ' P0 s0 P s' [.vars []]->(∀b o,s.heap.get? b=some o->s'.heap.get? b=some o)->s.heap.objs.size<s'.heap.objs.size->s'.gens=s.gens->Q cenv s') :
  wpAny c.M A (newFunctionEnv bG mainGlobals [] [(".0",it)] (qual++"<genexpr>.") none cv none builtinsNs) Q E s:=by
 simp only[newFunctionEnv,Qk,O2,if_false];refine wpAny_bind (wpAny_alloc ?_);refine wpAny_bind (wpAny_layCells _ (λname kind cells=>by cases hkc:kind==NameKind.cell <;> simp) _ _ _ _ ?_)
 have kn:=jP s.heap {cls:=.type "frame",data:=.dict #[]} bG.names;have R1:=jN Y.st (.type "frame") bG.names;have EV:aM c (Gh.nil.inner s.heap.objs.size 1) ⟨bG,s.heap.objs.size,mainGlobals,[],qual++"<genexpr>.",none,cv,some s.heap.objs.size,builtinsNs⟩ fG:=by
  have kind:∀x k,aget x fG.names=some k->Env.kindOf (⟨bG,s.heap.objs.size,mainGlobals,[],qual++"<genexpr>.",none,cv,some s.heap.objs.size,builtinsNs⟩:Env) x=some k:=λx k h=>oO h;refine⟨?_,Mv 0,λx i h=>(nomatch h),λx h=>kind x _ h,λx h=>kind x _ h,λx h=>.inl (kind x _ h),λx h=>kind x _ h,λx k h=>?_,rfl,rfl,rfl,λh=>?_⟩
  ·exact(Gh.nil.inner_new s.heap.objs.size 1 0).symm
  ·have:fG.names.all plainName=true:=by decide
   have:=(La.mp this) _ (dD h);unfold plainName at this;simpa using this
  ·exact absurd h (by decide)
 have hL:(pushCells (s.heap.push {cls:=.type "frame",data:=.dict #[]}) bG.names).get? s.heap.objs.size=some {cls:=.type "frame",data:=.dict #[]}:=pushCells_keeps _ _ _ _ (Heap.get?_push_size _ rfl);have zn:∀a,s.heap.objs.size<=a->s.heap.get? a=none:=λa ha=>gA ha;have hsz:(pushCells (s.heap.push {cls:=.type "frame",data:=.dict #[]}) bG.names).objs.size=s.heap.objs.size+1:=Heap.size_push ..;have main:∀env:Env,aM c (Gh.nil.inner s.heap.objs.size 1) env fG->env.frame=some s.heap.objs.size->env.scope.isCoroutine=false ->
   wpAny c.M A (do forIn [((".0":Str),it)] (⟨⟩:PUnit) (λ(x:Str × Value) (_:PUnit)=>do storeName env x.1 x.2;pure (ForInStep.yield ⟨⟩));pure env) Q E {s with heap:=pushCells (s.heap.push {cls:=.type "frame",data:=.dict #[]}) bG.names}:=by
  intro env EV frame g2;have hρ:∀i,i<(Gh.nil.inner s.heap.objs.size 1).k->(Gh.nil.inner s.heap.objs.size 1).ρ i=s.heap.objs.size:=λi hi=>by
   have hi:i<0+1:=hi;obtain rfl:i=0:=by omega
   exact Gh.nil.inner_new s.heap.objs.size 1 0
  have Y1:Act c (env::fr) (Gh.nil.inner s.heap.objs.size 1) P0 s0 P {s with heap:=pushCells (s.heap.push {cls:=.type "frame",data:=.dict #[]}) bG.names} [.vars []]:=by
   refine⟨⟨Y.since.gr,Y.since.ext.trans ⟨.of_keeps kn,λo=>o.step_keeps kn,.refl _,rfl⟩,⟨R1,Y.st.wd.keep (.of_keeps kn),λe he=>?_⟩⟩,λi hi=>?_,Y.kb⟩
   ·rcases KZ.mp he with rfl | he
    ·refine⟨?_,s.heap.objs.size,_,frame,Y.st.wd.bk.gone (zn _ (K3 _)),hL,rfl,#[],0,rfl⟩
     rw[EV.fn];decide
    ·exact Y.st.frs.keep (.of_keeps kn) e he
   ·refine Y.since.ext.keep.gone (zn _ ?_)
    rw[hρ i hi];exact K3 _
  refine wpAny_bind ?_;rw[NK];refine wpAny_bind (wpAny_bind (lQ (x:=".0") hB Y1 EV (by decide) (vs:=[]) rfl rfl λs2 Y2 kp hgn=>wpAny_pure ?_))
  show wpAny c.M A (forIn ([]:List (Str × Value)) _ _) _ _ _;rw[Oi];have kp2:∀b o,s.heap.get? b=some o->s2.heap.get? b=some o:=λb o e=>kp b o (by rw[hρ 0 (Mv 0)];exact Mu (Heap.lt_size e)) (kn b o e)
  have hlt:s.heap.objs.size<s2.heap.objs.size:=by
   obtain⟨o,e⟩:=Y2.st.real.there (i:=0) (Mv 0);rw[hρ 0 (Mv 0)] at e;exact Heap.lt_size e
  exact wpAny_pure (wpAny_pure (hQ env _ s2 g2 hρ EV Y2 kp2 hlt hgn))
 exact main _ EV rfl rfl
end
end
section
section
variable{c:Cx}{g:Glb}{A:Around}{fr:List Env}{γ:Gh}{P0 P P':Frz}{s0 s s':Shared}{cs:List Cell}{E:Value->Shared->Prop}{b:Nat}{env:Env}{σ:Sg}{l:Lv}{lr:List Lv}{cd T:Addr}
theorem GZ(hg:aj c g)(hq:g.own.contains "quote"=true){cenv:Env}{pf pc pa:Pos}{xs:List V}{ys:List Str}(he:aM c γ cenv fG)(hA:Am0 c A (cenv::fr) b)(hfn:∀(j:Nat) (d:V),xs[j]?=some d->FnAt c b "quote" [d] (.str (ys.getD j ""))) :
  oY c fr γ fG cenv "arg" A (.Call (.Name "quote" pf) [.Name "arg" pa] [] pc) xs ys:=λj d P s vs E hd hv S=>by
 refine wpAny_Call_NameR (aR hg S he (.glo rfl hq) λu iu=>?_);refine bO rfl ?_;show wpAny c.M A (spliced [(false,eval (.Name "arg" pa) cenv)]) _ _ _;refine Calls.spliced_cons (aR hg S he (.loc rfl rfl hv) λv iv=>Calls.spliced_nil ?_);rw[Mj];obtain⟨⟨k,h1⟩,h2⟩:=hfn j d hd A (cenv::fr) γ P s [.vars vs] u [v] E hA S iu.gl_inv (.cons iv .nil);exact⟨⟨k,λQ' hq=>h1 Q' hq⟩,h2⟩
theorem R.joinGen(hB:Wd c c.hb)(hg:aj c g)(hq:g.own.contains "quote"=true){lv:Lv}{lr:List Lv}(hl:σ.lv=lv::lr)(hL:bz c cd T)(hc:c.cd lv.names=some cd)(h0:aget ".0" lv.names=none){it sep:Str}{xs:List V}{ys:List Str}{n1:Nat}{p1 pa pf px px2 pc pi pos q:Pos}
  (hline:bw pa q=true) (hit:Nm g σ.cs it lv (.lst xs)) (hn:xs.length<=1000) (hlen:ys.length=xs.length) (hfn:∀(j:Nat) (d:V),xs[j]?=some d->FnAt c b "quote" [d] (.str (ys.getD j ""))) (hroom:bc sep ys<=16777216) :
  REv c (b+1) σ (.Call (.Attribute (.Constant (.str sep) n1 p1) "join" pa) [.GeneratorExp (.Call (.Name "quote" pf) [.Name "arg" px2] [] pc) [⟨.Name "arg" px,.Name it pi,[],0⟩] bG pos] [] q) (.str (Txt.join sep ys)):=λN E=>by
 cases hl.symm.trans N.hl;refine dB rfl rfl (Ou (by decide:0<20-1)) hline (wpAny_Constant_str λpl=>?_)
 have hm:MethAt c {N.s with toks:=N.s.toks+1} (.str sep N.s.toks) "join" "str" "str.join":=⟨F.plainAttrs_str,F.slot_str_join,F.type_str_join,typeIs_str _ _ _,λ_ e=>by cases e⟩
 with_reducible refine MethAt.get hm ?_
 refine(bO (bM (es:=[.GeneratorExp (.Call (.Name "quote" pf) [.Name "arg" px2] [] pc) [⟨.Name "arg" px,.Name it pi,[],0⟩] bG pos]) rfl _) ?_);show wpAny c.M N.A (spliced [(false,eval (.GeneratorExp (.Call (.Name "quote" pf) [.Name "arg" px2] [] pc) [⟨.Name "arg" px,.Name it pi,[],0⟩] bG _) N.env)]) _ _ _;refine Calls.spliced_cons ?_;rw[eval_GeneratorExp1 _ _ _ _ _ _ _ rfl];have a1:N.To N.P {N.s with toks:=N.s.toks+1}:=.toks N.S _
 let N1:=N.go a1
 refine wpAny_bind (aR hg a1.st N.he hit λxv hx=>?_);refine wpAny_bind (wpAny_standAt ?_);refine wpAny_bind (wpAny_of_eq (rfl:genFold (.Name it pi) N.env xv=pure xv) ?_);have Y1:Act c N.fr Gh.nil N.P N.s N.P {N.s with toks:=N.s.toks+1} []:=N.S.bare.aft (.toks N.S.bare.st _)
 refine wpAny_bind (wpAny_holding (N1.iterAll hx λI fp Pn T0 w t0 hI=>?_));have bI0:aF c Gh.nil N.P N.s.heap I:=hI▸iR Y1 (aU _);have Y2:=Y1.push {cls:=.type "list_iterator",data:=.fields #[xv,rawInt 0]} (N.s.toks+1);have hd:N.A.depth<recursionLimit:=by have:=N.hA.depth;omega
 refine wpAny_bind (wpAny_enterFrame Y2.st.wd.nl hd ?_);have hcl:closureFor bG N.env=pure []:=rfl;rw[hcl];refine wpAny_bind (wpAny_pure ?_);refine wpAny_bind (G3 hL Y2.st (N.he.code h0 _ hc) λcv s3 a3 hgn=>?_);have Y3:=Y2.aft a3;rw[N.he.gl,N.he.bu];obtain⟨bm,o,h1,h2,_,h4,h5,h6,h7⟩:=hL.bm Y3.st;refine wpAny_bind (wpAny_builtinsFor Y3.st.wd.g h1 h2 h4 h5 h6 h7 ?_);refine wpAny_bind (GR hB Y3 λcenv γ' s5 hco hρ EV Y5 kp5 hsz5 hgn5=>?_);simp only[newGenerator,newFields];refine wpAny_bind (wpAny_newGen (wpAny_bind (wpAny_mkText (wpAny_bind (wpAny_mkText (wpAny_newObj_type ?_ (by size_fits)))))))
 refine Calls.spliced_nil ⟨dX,?_⟩;have Y6:=(Y5.gens (GJ s5.gens (x:=.fresh (.compStart (.GeneratorExp (.Call (.Name "quote" pf) [.Name "arg" px2] [] pc) [⟨.Name "arg" px,.Name it pi,[],0⟩] bG pos) 0 (.ref I) .none cenv)) rfl)).push {cls:=.type "generator",data:=.fields #[.int s5.gens.size 0,.str "<genexpr>" s5.toks,.str (N.env.qual++"<genexpr>") (s5.toks+1)]} (s5.toks+1+1);obtain⟨oI,eI,qI1,qI2⟩:=(w N.A N.hA.handled).cls _ _ t0;have eI3:=a3.ext.keep.exact eI qI1 qI2;have bI:aF c γ' N.P N.s.heap I:=⟨bI0.p,λi hi=>by rw[hρ i hi];exact Nq (Heap.lt_size eI3),bI0.z,bI0.b⟩
 have t3:=(w N.A N.hA.handled).keep t0 a3.ext.keep Y2.st.real.le Y3.st.real.le;have t5:=(w N.A N.hA.handled).frame t3 (λo e=>kp5 I o e) Y3.st.real.le Y5.st.real.le;have t6:=(w N.A N.hA.handled).frame t5 (λo e=>Heap.get?_push_of_some _ e) Y5.st.real.le Y6.st.real.le;have eI5:=kp5 I oI eI3;refine GQ (A:=N.A) (fr:=cenv::N.fr) (a:=s5.heap.objs.size) (gk:=s5.gens.size) hB N.hA.handled hd hlen hn (λi hi=>by rw[hρ i hi];exact Mu hsz5) (Nq (Heap.lt_size eI5)) Y6 w bI t6 ⟨_,_,_,Heap.get?_push_size _ rfl,rfl,rfl,rfl⟩ (Array.getElem?_push_size ..) (λS s'' G''=>⟨rfl,?_⟩) hroom λt' s' P' vs' X'=>?_
 ·refine GK (A:=N.A.in1.in1.in1) hB N.hA.handled EV rfl rfl hco (GZ hg hq EV ⟨N.hA.handled,?_,?_,?_,N.hA.tree⟩ hfn) s'' s'' G'' (.refl _ _ _)
  ·show N.A.depth+0+1+b+150<_
   have:=N.hA.depth;omega
  ·show N.A.units+1+1+1+0+3+20*b+200<_
   have:=N.hA.units;omega
  ·show N.A.frames.map _=_
   rw[N.hA.frames];rfl
 ·exact⟨P',⟨X'.since.gr,⟨N.S.real.keep X'.since.gr X'.since.ext.keep X'.st.real.le X'.st.real.kind,X'.st.wd,λe he=>X'.st.frs e (.tail _ he)⟩,X'.since.ext⟩,.pu (.str _ _)⟩
end
end
section
noncomputable def dM:Fn:=fnOf (nthS pgm.main.body 24)
section
variable{c:Cx}{b:Nat}
theorem FT(hB:Wd c c.hb)(hg:aj c G){cd T:Addr}(hL:bz c cd T)(hc:c.cd dM.names=some cd){xs:List V}{ys:List Str}(hn:xs.length<=1000)(hlen:ys.length=xs.length)(hfn:∀(j:Nat) (d:V),xs[j]?=some d->FnAt c b "quote" [d] (.str (ys.getD j "")))(hroom:bc " " ys<=16777216) :
  ∃τ,RXs c (b+1) (sg0 dM [("split_command",.lst xs)]) dM.body (.ret (.str (Txt.join " " ys))) τ:=by
 have hj:REv c (b+1) (sg0 dM [("split_command",.lst xs)]) (retE (nthS dM.body 0)) (.str (Txt.join " " ys)):=R.joinGen hB hg (by rfl') rfl hL hc rfl (by rfl') (by wtm_at "m.name") hn hlen hfn hroom
 exact⟨_,R.xsStop (R.ret hj .old) (by intro h;cases h)⟩
end
end
section
structure ClsAt(c:Cx)(cl:Str)(Kf:Frag)(C:Addr)(kd:ClassData):Prop where
 cls:c.D.cls cl=C
 kin:∀a o,Kf.lookup a=some o->c.K a=some o
 cd:clsIn Kf C=some kd
 hd:kd.hasDict=true
 ga:findIn Kf (.ref C) "__getattribute__"=some (some (.builtin "object.__getattribute__"))
 gt:findIn Kf (.ref C) "__getattr__"=some none
 sa:findIn Kf (.ref C) "__setattr__"=some (some (.builtin "object.__setattr__"))
 po:plainOver Kf C=true
section
variable{c:Cx}{cl a:Str}{Kf:Frag}{C:Addr}{cd:ClassData}{s:Shared}{x d:Addr}{es:Array DictEntry}{ep:Nat}
theorem ClsAt.frag(K:ClsAt c cl Kf C cd)(W:Wd c s.heap):Kf.In s.heap:=λb o e=>W.kp b o (K.kin b o e)
theorem fu(K:ClsAt c cl Kf C cd)(h:gq c.D s.heap x cl d es ep):InstAt s.heap x ⟨.ref C,some d,.plain,#[]⟩ C (some ⟨.type "dict",none,.dict es ep,#[]⟩) :=
 ⟨by rw[<-K.cls];exact h.1,rfl,rfl,h.2.1⟩
theorem yM(h:StrKeys es):es.toList.any (·.refKey)=false:=by
 rw[Q3];intro e he;obtain⟨n,t,q⟩:=h e (by simpa using he)
 unfold DictEntry.refKey;rw[q];simp
theorem sV(h:StrKeys es):lookIn a ⟨.type "dict",none,.dict es ep,#[]⟩=some (nsFind es a):=by
 unfold lookIn nsFind findBy;dsimp only;rw[<-Array.find?_toList];cases q:es.toList.find? (λe=>e.key.isStr a) with
 | some e=>rfl
 | none=>rw[yM h];rfl
theorem atG(K:ClsAt c cl Kf C cd)(h:findIn Kf (.ref C) a=some none):AtG c cl a:=λA E s Q x d es ep v W hi hv hh hQ=>by
 refine PySem.W.get_value (K.frag W) (fu K hi) K.ga ?_ ?_ (hQ _)
 ·unfold findObj
  rw[K.cd,O4,h,O4];dsimp only;rw[O4,O4];dsimp only;unfold PySem.W.ownOf;rw[if_pos K.hd];dsimp only;rw[sV hi.2.2,hv];rfl
 ·cases v <;> first | rfl | exact hh
theorem atS(K:ClsAt c cl Kf C cd)(h:takerIn Kf C a=some none):AtS c cl a:=λA E s Q x d es ep v W hi hz hQ=>by
 have X:=K.frag W;have I:=fu K hi;have SF:=PySem.F.store_object;unfold setAttr;refine wpAny_bind (wpAny_mkText ?_);refine wpAny_bind ?_;unfold callSpecial? specialOf;have X1:Kf.In ({s with toks:=s.toks+1}:Shared).heap:=X
 have I1:InstAt ({s with toks:=s.toks+1}:Shared).heap x ⟨.ref C,some d,.plain,#[]⟩ C (some ⟨.type "dict",none,.dict es ep,#[]⟩):=I
 refine wpAny_bind (wpAny_bind (I1.type.here ((PySem.W.looks_findIn X1 K.sa).here (wpAny_holding ?_))));rw[SF.slot.bind];refine wpAny_bind (wpAny_pure (wpAny_bind (wpAny_call ?_)));refine PySem.W.osa_open X1 I1 K.po h λb=>?_;dsimp only;refine wpAny_bind (wpAny_pure (wpAny_bind (wpAny_bind (wpAny_loadPart I1.at_ (wpAny_bind ((PySem.W.looks_clsIn X1 K.cd).here ?_))))));rw[K.hd];refine wpAny_pure (a:=some d) (wpAny_bind (wpAny_pure (wpAny_bind ?_)));refine rP hi.2.1 rfl hi.2.2 λh' es' ep' g1 g2 g3 g4 z1 z2=>?_;refine wpAny_bind (wpAny_lookBehind g1 (pastItsLine_dict ?_) ?_)
 ·have:es'.size<=es.size+1:=by
   cases q:nsFind es a with
   | none=>exact LK (z1 q)
   | some w=>rw[z2 (by rw[q];exact λh=>nomatch h)];omega
  show _<=16777216+1;omega
 ·exact wpAny_pure (wpAny_pure (wpAny_pure (hQ h' es' ep' _ g1 g2 g3 g4 z1 z2)))
end
end
section
section
variable{c:Cx}{g:Glb}{A:Around}{fr:List Env}{γ γ':Gh}{P0 P P':Frz}{s0 s s':Shared}{cs cs':List Cell}{E:Value->Shared->Prop}{b:Nat}{env:Env}{σ σ' τ:Sg}{l:Lv}{lr:List Lv}
theorem Jx(hB:Wd c c.hb)(hA:Am0 c A fr (b+1))(Y:Act c fr γ P0 s0 P s cs){f:Addr}{fd:FuncData}{F:Fn}(D:ak c f fd F){args:Args}{xs:List Value}{as:List V}
  (hb:BindsTo s fd args (F.pars.zip xs)) (hx:IsL c.D γ P xs as) (hst:Svs (F.pars.zip as) (aL F cs) σ) {fl:Fl} {r:V} (hr:RXs c b σ F.body fl τ) (hfl:fl=.ret r∨fl=.next/\r=.none) {R:Result->Shared->Prop}
  (hR:∀v s' γ' P',γ.Le γ'->Act c fr γ' P0 s0 P' s' τ.cs->Is c.D γ' P' v r->R (.ok (.ret v)) s'):codeAny c.M A (.call (.ref f) args) R s:=by
 obtain⟨ob,hK,hdat⟩:=D.obj;have ho:=Y.st.wd.kp _ _ hK;have hroom:A.depth<recursionLimit:=by have:=hA.depth;omega
 refine codeAny_call_function hroom ho hdat D.ok.co D.ok.gen D.body (Y.st.wd.bk.codeRec D.code) (jV hB hA Y D.ok hb hx hst λN e1 e2 g e3 e4 e5=>⟨N.Y.st.wd.nl,codeAny_func ?_⟩);rw[<-e2];refine wpAny_mono (hr.2 N) (λfl' s3 q_=>Exists.p5 q_ λγ3 P3 g3 Y3 f3=>?_) λx s3 q=>?_
 ·have Y3:=Y3.tail
  rw[e1,e3,e4] at Y3;rcases hfl with rfl | ⟨rfl,rfl⟩
  ·obtain⟨_,rfl,i⟩:=f3.inv;exact hR _ _ γ3 P3 (g.trans g3) Y3 i
  ·obtain rfl:=f3.inv;exact hR _ _ γ3 P3 (g.trans g3) Y3 (.pu .none)
 ·obtain⟨_,_,k,_,q,_⟩:=q
  rcases hfl with rfl | ⟨rfl,rfl⟩ <;> cases q
theorem Act.newInst(Y:Act c fr γ P0 s0 P s cs){cl:Str}{C:Addr}(hC:c.D.cls cl=C):∃γ' P',γ.Le γ'/\Act c fr γ' P0 s0 P' {s with heap:=(s.heap.push emptyDict).push (instObj C s.heap.objs.size)} (cs++[.inst cl []])/\FLe P P'/\Is c.D γ' P' (.ref (s.heap.objs.size+1)) (.obj cs.length):=by
 have Y1:=Y.push emptyDict s.toks;have hsz:(s.heap.push emptyDict).objs.size=s.heap.objs.size+1:=Heap.size_push ..;have hn:P s.heap.objs.size=none:=Y.st.real.none_at;have hi:∀i,i<γ.k->γ.ρ i≠s.heap.objs.size:=λi hi q=>by
  obtain⟨o,e⟩:=Y.st.real.there hi;rw[q,aU] at e;cases e
 have R':Real c.D (γ.more s.heap.objs.size cl) P (s.heap.push emptyDict) (cs++[.inst cl []]):=Y1.st.real.more hn hi ⟨γ.more_kc _ _,#[],0,by rw[γ.more_ρ];exact Heap.get?_push_size _ rfl,(λ_ he=>by simp at he),(λx v h=>by cases h),(λ_ _=>rfl),rfl⟩
 have Y2:Act c fr (γ.more s.heap.objs.size cl) P0 s0 P {s with heap:=s.heap.push emptyDict} (cs++[.inst cl []]):=⟨⟨Y1.since.gr,Y1.since.ext,⟨R',Y1.st.wd,Y1.st.frs⟩⟩,λi h=>by
  by_cases q:i<γ.k
  ·rw[(γ.more_le _ _).ρ i q];exact Y.base i q
  ·have h:i<γ.k+1:=h
   obtain rfl:i=γ.k:=by omega
   rw[γ.more_ρ];exact Y.since.ext.keep.gone (aU _),Y.kb⟩
 have a3:=Aft.push Y2.st (o:=instObj C s.heap.objs.size) rfl (λh=>by cases h) (λh=>by cases h) s.toks
 rw[show({s with heap:=s.heap.push emptyDict}:Shared).heap.objs.size=s.heap.objs.size+1 from hsz] at a3
 refine⟨_,_,γ.more_le _ _,Y2.aft a3,a3.gr.le,?_⟩;have hk:cs.length=γ.k:=Y.st.real.k.symm;rw[hk];refine .obj (Mv _) ?_;rw[γ.more_kc,γ.more_ρ,hC];exact Frz.put_self ..
theorem Jg(hB:Wd c c.hb){cl:Str}{Kf:Frag}{C fI:Addr}{cd:ClassData}(K:ClsAt c cl Kf C cd)(hx:c.D.mg cl=some (.ref C))(hm:makesIn Kf C=true)(hi:findIn Kf (.ref C) "__init__"=some (some (.ref fI)))(hf:typeIn Kf (.ref fI)=some (.type "function"))
  {fd:FuncData} {F:Fn} (D:ak c fI fd F) {as ds:List V} {kv:List (Str × V)}
  (hb:∀(s:Shared) (γ:Gh) (P:Frz) (x:Value) (vs ks:List Value),Wd c s.heap->IsL c.D γ P vs as->IsL c.D γ P ks (kv.map (·.2))->∃ws,BindsTo s fd ⟨x::vs,(kv.map (·.1)).zip ks⟩ (F.pars.zip (x::ws))/\IsL c.D γ P ws ds)
  (hst:Svs (F.pars.zip (.obj cs.length::ds)) (aL F (cs++[.inst cl []])) σ) (hr:RXs c b σ F.body .next τ):CmOk c (b+2) cl cs as kv (.obj cs.length) τ.cs:=by
 refine⟨_,hx,λlv N vs ks E hv hk=>?_⟩;have X:=K.frag N.Y.st.wd;have Mk:=PySem.W.makes_of (M:=c.M) X hm;obtain⟨⟨oc,od,cd',sl,hC,_⟩,_,_,_,_,hcall,_⟩:=id Mk;refine⟨⟨.machine,λQ hq=>?_⟩,?_⟩
 ·show wpAny c.M N.A _ _ _ _
  unfold keeperOf;refine wpAny_bind (wpAny_load hC ?_);dsimp only;refine wpAny_bind (hcall.here ?_);exact wpAny_pure hq
 ·refine wpAny_call ?_
  show codeAny c.M N.A _ _ ⟨N.s.heap,N.s.gens,N.s.drawn,N.s.toks,N.s.os⟩;refine PySem.W.make_core Mk (PySem.W.looks_findIn X hi) (λself=>PySem.W.bind_fn X self hf) (.inl rfl) ?_;obtain⟨γ',P',g',Y',f',i'⟩:=N.Y.newInst K.cls;obtain⟨ws,hbd,hws⟩:=hb _ γ' P' (.ref (N.s.heap.objs.size+1)) vs ks Y'.st.wd ((hv.gm g').mono f') ((hk.gm g').mono f');have hA:Am0 c (N.A.under (.builtin "type.__call__" ⟨.ref C::vs,(kv.map (·.1)).zip ks⟩)) (N.env::N.rest) (b+1):=by
   refine⟨N.hA.handled,?_,?_,?_,N.hA.tree⟩
   ·show N.A.depth+1+(b+1)+150<_
    have:=N.hA.depth;omega
   ·show N.A.units+1+20*(b+1)+200<_
    have:=N.hA.units;omega
   ·exact N.hA.frames
  refine Jx (args:=⟨.ref (N.s.heap.objs.size+1)::vs,(kv.map (·.1)).zip ks⟩) hB hA Y'.rebase D hbd (.cons i' hws) hst hr (.inr ⟨rfl,rfl⟩) ?_;intro v s' γ3 P3 g3 Y3 iv;refine⟨?_,γ3,P3,g'.trans g3,Y3.under Y'.since.gr,(i'.gmono g3).mono Y3.since.gr.le⟩;cases iv with | pu h=>cases h;rfl
end
end
section
section
variable{c:Cx}{cl m:Str}{Kf:Frag}{C f:Addr}{cd:ClassData}{b:Nat}{cs cs':List Cell}{i:Nat}{σ τ:Sg}
theorem m5(hB:Wd c c.hb)(K:ClsAt c cl Kf C cd)(hf:findIn Kf (.ref C) m=some (some (.ref f)))(ht:typeIn Kf (.ref f)=some (.type "function")){fd:FuncData}{F:Fn}(D:ak c f fd F){as ds:List V}
  (hb:∀(s:Shared) (γ:Gh) (P:Frz) (x:Value) (vs:List Value),Wd c s.heap->IsL c.D γ P vs as->∃ws,BindsTo s fd ⟨x::vs,[]⟩ (F.pars.zip (x::ws))/\IsL c.D γ P ws ds)
  (hst:Svs (F.pars.zip (.obj i::ds)) (aL F cs) σ) {fl:Fl} {r:V} (hr:RXs c b σ F.body fl τ) (hfl:fl=.ret r∨fl=.next/\r=.none) (hl:Left cs τ cs' r):MeOk c (b+1) cl m cs i as r cs':=by
 obtain⟨ob,hK,hd⟩:=D.obj;refine⟨f,ob,fd,hK,hd,λA E s x d es ep Q pl W hi hno hq=>?_,λlv N vs x E hx hv=>?_⟩
 ·exact PySem.W.method_fn (K.frag W) (fu K hi) K.ga K.gt hf ht (by unfold shadowIn;dsimp only;rw[sV hi.2.2,hno];rfl) hq
 ·obtain⟨ws,hbd,hws⟩:=hb N.s N.γ N.P (.ref x) vs N.Y.st.wd hv
  exact wpAny_mono (iQ hB N.hA.z N.Y D (args:=⟨.ref x::vs,[]⟩) hbd (.cons hx hws) hst hr hfl hl) (λv s1 q_=>Exists.p3 q_ λP1 Y1 i1=>⟨P1,Y1,i1⟩) λ_ _ q=>q
end
end
section
open PySem.Builtin
theorem rZ:mroOf (.type "collections.deque")=pure [.type "collections.deque",.type "object"]:=by rw[mroOf_type];rfl'
theorem En:typeLookup (.type "collections.deque") "__new__"=pure (some (.builtin "collections.deque.__new__")):=by rw[typeLookup_type,builtinLookup_eq_fast];rfl'
theorem zr:Slot "collections.deque" "__init__" "collections.deque.__init__" :=
 .of (owner:="collections.deque") (n:="__init__") (by rw[typeLookup_type,builtinLookup_eq_fast];rfl') (by decide +kernel) (by decide +kernel) (by decide +kernel)
  (by first | exact .inl (by decide +kernel) | exact .inr (by decide +kernel)) (by rw[isSubtype_type];rfl')
theorem Jr:TypeCalled "collections.deque" "collections.deque.__new__" "collections.deque.__init__" :=
 ⟨by decide +kernel,by decide +kernel,⟨_,_,rZ⟩,madeBy_type rZ En (by decide +kernel),by decide +kernel,by rw[isSubtype_type];rfl',zr⟩
theorem xO:checkTypeCall "collections.deque" ⟨[],[]⟩=pure ():=by rfl'
theorem DG:checkBuiltinCall "collections.deque.__new__" ⟨[.type "collections.deque"],[]⟩=pure ():=by rfl'
theorem Hw:entryFor table "collections.deque.__new__"=some Builtin.«collections.deque.__new__» := entryFor_of_tree (by rfl')
theorem Hy:entryFor table "collections.deque.__init__"=some Builtin.«collections.deque.__init__» := entryFor_of_tree (by rfl')
theorem Ka(a:Value):argsOk "collections.deque.__init__" ⟨[a],[]⟩:=by unfold argsOk;rfl'
theorem yD:isSubtype (.type "collections.deque") (.type "collections.deque")=pure true:=by rw[isSubtype_type];rfl'
theorem HN(a:Value) : «collections.deque.__init__» ⟨[a],[]⟩=(do setField a 0 .none;Deque.clear a;ret .none):=by first | rfl | rfl'
section
variable{c:Cx}{b:Nat}{σ:Sg}
theorem Now.laid(N:Now c b σ){h':Heap}{a:Addr}{o:Obj}{t:Nat}(hk:∀b o,N.s.heap.get? b=some o->h'.get? b=some o)(ha:N.s.heap.get? a=none)(e:h'.get? a=some o)(h1:o.cls≠.type "frame")(h2:o.cls≠.none):N.To (N.P.put a o) {N.s with heap:=h',toks:=t}:=by
 have kp:Keep N.s.heap h':=.of_keeps hk;have pD:N.P a=none:=by
  cases q:N.P a with
  | none=>rfl
  | some o=>have:=N.S.real.le _ _ q;rw[ha] at this;cases this
 have gr:=Gr.put (o:=o) pD ha;refine⟨gr,⟨N.S.real.keep gr kp (λb o' e'=>?_) λb o' e'=>?_,N.S.wd.keep kp,N.S.frs.keep kp⟩,⟨kp,λo=>o.step_keeps hk,.refl _,rfl⟩⟩
 ·rcases Frz.put_at e' with ⟨q,w⟩ | e'
  ·subst q w;exact e
  ·exact hk _ _ (N.S.real.le _ _ e')
 ·rcases Frz.put_at e' with ⟨_,w⟩ | e'
  ·subst w;exact⟨h1,h2⟩
  ·exact N.S.real.kind _ _ e'
theorem HH(hx:c.D.mg "deque"=some (.type "collections.deque")):FnOk c b "deque" [] .deq:=λσ N u vs E hu hv=>by
 cases hx.symm.trans hu.gl_inv;obtain rfl:=hv.zero;refine⟨jL,?_⟩;show wpAny c.M N.A (call (.type "collections.deque") []) _ _ N.s;refine callType_codes (Q₁:=λv s₁=>v=.ref N.s.heap.objs.size/\s₁={N.s with heap:=N.s.heap.push dm}) Jr xO Hy ?_ λobj s₁ hq=>?_
 ·refine codeAny_of_tree ?_
  show wpAny _ _ (do checkBuiltinCall "collections.deque.__new__" ⟨[.type "collections.deque"],[]⟩;again (.builtin "collections.deque.__new__" ⟨[.type "collections.deque"],[]⟩)) _ _ _
  refine wpAny_bind (wpAny_of_eq DG (wpAny_pure ⟨plainId_quiet (by decide +kernel) _,codeAny_builtin Hw ?_⟩))
  unfold «collections.deque.__new__» Deque.newArgs;dsimp only;refine wpAny_bind (wpAny_bind (wpAny_pure ?_));refine wpAny_ite_false rfl ?_;refine wpAny_bind (wpAny_of_eq yD ?_);refine wpAny_ite_false rfl ?_;refine wpAny_pure ?_;unfold Deque.new;refine wpAny_bind (wpAny_ite_false (by decide) (wpAny_bind ?_))
  refine wpAny_pure (wpAny_newObj_type ?_ (by size_fits))
  exact wpAny_pure ⟨rfl,rfl⟩
 ·obtain⟨rfl,rfl⟩:=hq
  have e0:(N.s.heap.push dm).get? N.s.heap.objs.size=some dm:=Heap.get?_push_size _ rfl;refine⟨⟨_,e0,rfl⟩,Ka _,?_⟩;rw[HN];refine wpAny_bind (wpAny_setField_rec e0 (Nat.zero_lt_succ _) λh' e1 hs=>?_);have e1:h'.get? N.s.heap.objs.size=some dm:=e1;have hk:∀b o,N.s.heap.get? b=some o->h'.get? b=some o:=λb o e=>hs.extBut b o (Mu (Heap.lt_size e)) (Heap.get?_push_of_some _ e);refine wpAny_bind ?_;unfold Deque.clear Deque.items;refine wpAny_bind (wpAny_bind (wpAny_fieldsOf e1 rfl (wpAny_pure ?_)));refine wpAny_ite_false (by decide) (wpAny_pure (wpAny_pure ⟨rfl,?_⟩))
  exact⟨_,N.laid hk (aU _) e1 (tyF (by decide)) tyN,.deq (Frz.put_self ..)⟩
theorem HJ(a:Value) : «collections.deque.__len__» ⟨[a],[]⟩=(do retInt (<- Deque.size a)):=by first | rfl | rfl'
end
end
section
open PySem.Builtin
theorem vG:typeLookup (.type "collections.deque") "__bool__"=pure none:=by rw[typeLookup_type,builtinLookup_eq_fast];rfl'
theorem jn:Slot "collections.deque" "__len__" "collections.deque.__len__" :=
 .of (owner:="collections.deque") (n:="__len__") (by rw[typeLookup_type,builtinLookup_eq_fast];rfl') (by decide +kernel) (by decide +kernel) (by decide +kernel)
  (by first | exact .inl (by decide +kernel) | exact .inr (by decide +kernel)) (by rw[isSubtype_type];rfl')
theorem Hx:entryFor table "collections.deque.__len__"=some Builtin.«collections.deque.__len__» := entryFor_of_tree (by rfl')
theorem J9(a:Value):argsOk "collections.deque.__len__" ⟨[a],[]⟩:=by unfold argsOk;rfl'
section
variable{prog:Program}{w:World}{A:Around}{E:Value->Shared->Prop}{s:Shared}
theorem Es{l:Addr}{Q:Value->Shared->Prop}(ho:s.heap.get? l=some dm)
  (h:Q (.int 0 (s.toks+1)) {s with toks:=s.toks+1+1}):wpAny (model prog w) A (Builtin.«len» ⟨[.ref l],[]⟩) (λfin s'=>∃r,fin=.done (.ret r)/\Q r s') E s:=by
 have hT:s.TypeIs (.ref l) "collections.deque":=⟨_,ho,rfl⟩;unfold Builtin.«len»;refine wpAny_bind (m:=oneArg "len" _) (wpAny_pure ?_);refine wpAny_bind (m:=callSpecial? (.ref l) (KY "__len__")) (wpAny_callSpecial?_slot (name:=KY "__len__") hT jn
  (wpAny_call_entry jn hT Hx ?_ (J9 _)))
 ·rw[HJ]
  unfold Deque.size;refine wpAny_bind (wpAny_bind (wpAny_fieldsOf ho rfl (wpAny_pure ?_)));refine wpAny_bind (wpAny_mkInt (wpAny_pure ⟨_,rfl,?_⟩));refine wpAny_bind (wpAny_holding (wpAny_pure ?_));refine wpAny_bind (wpAny_letGo ?_);show wpAny _ _ (if ((0:Nat):Int)<0 then _ else _) _ _ _;rw[if_neg (by omega)]
  show wpAny _ _ (if ((0:Nat):Int)≥2 ^ 63 then _ else _) _ _ _;rw[if_neg (by omega)]
  exact wpAny_bind (wpAny_mkInt (wpAny_pure ⟨_,rfl,h⟩))
theorem xR{l:Addr}{Q:Bool->Shared->Prop}(ho:s.heap.get? l=some dm)(h:Q false {s with toks:=s.toks+1+1}):wpAny (model prog w) A (truthy (.ref l)) Q E s:=by
 have hT:s.TypeIs (.ref l) "collections.deque":=⟨_,ho,rfl⟩;have key:wpAny (model prog w) A (runValue (.builtin "len" ⟨[.ref l],[]⟩)) (λr s'=>r=.int 0 (s.toks+1)/\Q false s') E s:=by
  refine wpAny_runValue (codeAny_builtin entry_len ?_);rw[Around.under_plainId plain_len _];exact wpAny_mono (Es (Q:=λr s'=>r=.int 0 (s.toks+1)/\Q false s') ho ⟨rfl,h⟩) (λfin s' h'=>by obtain⟨r,rfl,hq⟩:=h';exact hq) λ_ _ e=>e
 unfold truthy
 first
  | refine wpAny_bind (wpAny_callSpecial?_none (name:=KY "__bool__") hT vG ?_)
  | refine wpAny_bind (wpAny_pure (wpAny_bind (wpAny_callSpecial?_none (name:=KY "__bool__") hT vG ?_)))
 first
  | refine wpAny_bind (wpAny_specialOf (name:=KY "__len__") hT jn.lookup ?_)
  | refine wpAny_bind (wpAny_pure (wpAny_bind (wpAny_specialOf (name:=KY "__len__") hT jn.lookup ?_)))
 first
  | exact wpAny_bind (wpAny_mono key (λr s' h'=>by obtain⟨rfl,hq⟩:=h';exact wpAny_pure hq) λ_ _ e=>e)
  | exact wpAny_bind (wpAny_pure (wpAny_bind (wpAny_mono key (λr s' h'=>by obtain⟨rfl,hq⟩:=h';exact wpAny_pure hq) λ_ _ e=>e)))
end
theorem Tp.deq{c:Cx}{b:Nat}{σ:Sg}:Tp c b σ .deq false:=λN u E h=>by
 obtain⟨a,rfl,e⟩:∃a,u=.ref a/\N.s.heap.get? a=some dm:=by
  cases h with
  | pu q=>cases q
  | deq q=>exact⟨_,rfl,q⟩
 exact xR e ⟨rfl,N.P,.toks N.S _⟩
end
section
section
variable{c:Cx}{g:Glb}{A:Around}{fr:List Env}{γ γ':Gh}{P0 P P':Frz}{s0 s s':Shared}{cs cs':List Cell}{E:Value->Shared->Prop}{b:Nat}{env:Env}{σ σ' τ:Sg}{l:Lv}{lr:List Lv}
theorem Js(hB:Wd c c.hb)(hA:Am c A fr (b+1))(S:St c fr γ P s cs){f:Addr}{fd:FuncData}{F:Fn}(D:ak c f fd F){x:Str}{e:Expr}{pos:Pos}{v:Value}{d r:V}(hF:F.pars=[x])(hbd:F.body=[.Return (some e) pos])(hk:aget x F.names=some .local)(hno:ao F.names=[])(hc0:cellsFrom (cs.length+1) F.names []=[])
  (hb:BindsTo s fd ⟨[v],[]⟩ [(x,v)]) (hx:Is c.D γ P v d) (hr:REv c b ⟨[⟨F.names,cs.length,[]⟩],cs++[.vars [(x,d)]]⟩ e r) (hbl:below γ.k r=true) {R:Result->Shared->Prop} (hR:∀v s',Ev c fr γ P s cs r v s'->R (.ok (.ret v)) s') :
  codeAny c.M A (.call (.ref f) ⟨[v],[]⟩) R s:=by
 obtain⟨ob,hK,hdat⟩:=D.obj;have ho:=S.wd.kp _ _ hK;have hroom:A.depth<recursionLimit:=by have:=hA.depth;omega
 refine codeAny_call_function hroom ho hdat D.ok.co D.ok.gen D.body (S.wd.bk.codeRec D.code) ?_;refine hb _ _ _ _ ?_;rw[D.ok.clo];simp only[newFunctionEnv,Qk,O2,if_false];refine wpAny_bind (wpAny_alloc ?_);refine wpAny_bind (wpAny_layCells _ (λname kind cells=>by cases hkc:kind==NameKind.cell <;> simp) _ _ _ _ ?_)
 rw[show({s with heap:=s.heap.push {cls:=.type "frame",data:=.dict #[]}}:Shared).heap.objs.size=s.heap.objs.size+1 from Heap.size_push ..]
 have hnm:=D.ok.names;have kn:=jP s.heap {cls:=.type "frame",data:=.dict #[]} F.names;have R1:=jN S (.type "frame") F.names;have EV:=v7 S D.ok (fd.qualname++".<locals>.") (some f);rw[hnm] at EV;rw[hno] at R1 EV;rw[hc0] at EV;have hL:(pushCells (s.heap.push {cls:=.type "frame",data:=.dict #[]}) F.names).get? s.heap.objs.size=some {cls:=.type "frame",data:=.dict #[]}:=pushCells_keeps _ _ _ _ (Heap.get?_push_size _ rfl);have zn:∀a,s.heap.objs.size<=a->s.heap.get? a=none:=λa ha=>gA ha;have hρ:(γ.inner s.heap.objs.size (1+([]:List Cell).length)).ρ cs.length=s.heap.objs.size:=by
  rw[<-S.real.k];simpa using γ.inner_new s.heap.objs.size 1 0
 have main:∀env,aM c (γ.inner s.heap.objs.size (1+([]:List Cell).length)) env ⟨F.names,cs.length,[]⟩->env.frame=some s.heap.objs.size->env.scope.isGenerator=false->env.scope.isCoroutine=false ->
   wpAny c.M A.in1 (do forIn [(x,v)] (⟨⟩:PUnit) (λ(x:Str × Value) (_:PUnit)=>do storeName env x.1 x.2;pure (ForInStep.yield ⟨⟩));pure env) (λenv s₂=>s₂.heap.NoLimit/\codeAny c.M A (.func F.body env) R s₂) (λe s'=>R (.error e) s')
     {s with heap:=pushCells (s.heap.push {cls:=.type "frame",data:=.dict #[]}) F.names}:=by
  intro env EV frame g1 g2;have S1:St c (env::fr) (γ.inner s.heap.objs.size (1+([]:List Cell).length)) P {s with heap:=pushCells (s.heap.push {cls:=.type "frame",data:=.dict #[]}) F.names} (cs++[.vars []]):=by
   refine⟨R1,S.wd.keep (.of_keeps kn),λe he=>?_⟩;rcases KZ.mp he with rfl | he
   ·refine⟨?_,s.heap.objs.size,_,frame,S.wd.bk.gone (zn _ (K3 _)),hL,rfl,#[],0,rfl⟩
    rw[EV.fn];decide
   ·exact S.frs.keep (.of_keeps kn) e he
  refine wpAny_bind ?_;rw[NK];refine wpAny_bind (wpAny_bind (jw (σ:=⟨[⟨F.names,cs.length,[]⟩],cs++[.vars []]⟩) (σ':=⟨[⟨F.names,cs.length,[]⟩],cs++[.vars [(x,d)]]⟩) S1 rfl EV (hx.gmono (γ.inner_le _ _)) ?_ λi s2 tn _ hi=>wpAny_pure ?_))
  ·have:=Sv.loc (x:=x) (v:=d) (l:=⟨F.names,cs.length,[]⟩) (r:=[]) (cs:=cs++[.vars []]) (vs:=[]) hk (by simp)
   rw[show(cs++[Cell.vars []]).set cs.length (.vars (aput x d []))=cs++[.vars [(x,d)]] by simp[j7]] at this
   exact this
  ·show wpAny c.M A.in1 (forIn ([]:List (Str × Value)) _ _) _ _ _
   rw[Oi];obtain rfl:i=cs.length:=by
    rcases hi with ⟨_,q⟩ | ⟨_,q⟩
    ·exact q
    ·cases q
   have S2:St c (env::fr) (γ.inner s.heap.objs.size (1+([]:List Cell).length)) P s2 (cs++[.vars [(x,d)]]):=tn.st hB (by rw[hρ];exact S.wd.bk.gone (zn _ (K3 _))) S1
   refine wpAny_pure (wpAny_pure ⟨S2.wd.nl,codeAny_func ?_⟩);have hA':Am c (A.deeper env) (env::fr) b:=by
    refine⟨hA.handled,?_,?_,?_,⟨env,fr,rfl,g1,g2,EV.bu,EV.gl⟩,hA.tree⟩
    ·show A.depth+1+b+150<_
     have:=hA.depth;omega
    ·show A.units+3+20*b+200<_
     have:=hA.units;omega
    ·show A.frames.map _=_
     rw[hA.frames];rfl
   let N':Now c b ⟨[⟨F.names,cs.length,[]⟩],cs++[.vars [(x,d)]]⟩:={A:=A.deeper env,fr:=env::fr,env:=env,γ:=_,P:=P,s:=s2,l:=_,lr:=[],hA:=hA',hl:=rfl,he:=EV,S:=S2}
   have kp:∀b o,s.heap.get? b=some o->s2.heap.get? b=some o:=λb o e=>(tn.same.2 b (by rw[hρ];exact Mu (Heap.lt_size e))).trans (kn b o e)
   rw[hbd];refine wpAny_execs_cons (wpAny_Return_some (hr.then N' λP3 s3 a3 w iw=>?_));have gr:Gr P P3 s.heap:=(Gr.refl P s.heap).trans a3.gr (.of_keeps kp);have kp3:Keep s.heap s3.heap:=(Keep.of_keeps kp).trans a3.ext.keep;refine hR _ _ ⟨P3,⟨gr,⟨S.real.keep gr kp3 a3.st.real.le a3.st.real.kind,a3.st.wd,λe he=>a3.st.frs e (.tail _ he)⟩,⟨kp3,λo=>a3.ext.old (o.step_keeps kp),?_,?_⟩⟩,iw.cut (γ.inner_le _ _) hbl⟩
   ·have:=a3.ext.gens
    rw[tn.gens] at this;exact this
   ·exact a3.ext.os.trans tn.os
 rw[hnm];exact main _ EV rfl D.ok.gen D.ok.co
end
end
section
section
variable{c:Cx}{cl a:Str}{Kf:Frag}{C:Addr}{cd:ClassData}{b:Nat}
theorem atP(hB:Wd c c.hb)(K:ClsAt c cl Kf C cd){p fget:Addr}{rest:List Value}(ha:findIn Kf (.ref C) a=some (some (.ref p)))(hn:specialIn Kf (.ref p) "__get__"=some (some (.builtin "property.__get__")))(ht:takesIn Kf (.ref p)=some true)(hp:recIn Kf p "property"=some (.ref fget::rest))
  {fd:FuncData} {F:Fn} (D:ak c fget fd F) {x y:Str} {p1 p2 p3:Pos} (hF:F.pars=[x]) (hbd:F.body=[.Return (some (.Attribute (.Name x p1) y p2)) p3]) (hk:aget x F.names=some .local) (hno:ao F.names=[]) (hc0:∀n,cellsFrom n F.names []=[])
  (hb:∀(s:Shared) (v:Value),BindsTo s fd ⟨[v],[]⟩ [(x,v)]) (hg:AtG c cl y) {l:List (Str × V)} {r:V} (hy:aget y l=some r) (hr:hand r=true):AtP c (b+2) cl a l r:=λσ N E i xa hc hx=>by
 obtain⟨_,e,hi,ho⟩:=hx.obj_inv;cases e;obtain⟨es,ep,hin,_,_⟩:=fB N.S hc ho;have X:=K.frag N.S.wd;have I:=fu K hin;have hA:Am c N.A.in1 N.fr (b+1):=⟨N.hA.handled,by have:=N.hA.depth;show N.A.depth+_+_<_;omega,by have:=N.hA.units;show N.A.units+1+_+_<_;omega,N.hA.frames,N.hA.head,N.hA.tree⟩
 have S1:=(Aft.toks N.S (N.s.toks+1)).st;refine PySem.W.get_bind X I K.ga (PySem.W.findObj_data (by rw[K.cd];rfl) ha hn ht) K.gt (wpAny_call (PySem.W.prop_get (s:={N.s with toks:=N.s.toks+1}) X hp ?_))
 have hcs:(σ.cs++[Cell.vars [(x,.obj i)]])[i]?=some (.inst cl l):=by
  rw[Oh (Ld.mp hc).1];exact hc
 have h1:(σ.cs++[Cell.vars [(x,V.obj i)]])[σ.cs.length]?=some (.vars [(x,.obj i)]):=by simp
 have h2:aget x [(x,V.obj i)]=some (.obj i):=iT;have he:REv c b ⟨[⟨F.names,σ.cs.length,[]⟩],σ.cs++[.vars [(x,.obj i)]]⟩ (.Attribute (.Name x p1) y p2) r :=
  R.attr rfl (R.name (lv:=⟨F.names,σ.cs.length,[]⟩) (lr:=[]) (g:=⟨[],[]⟩) ⟨λ_ h=>(nomatch h),λ_ _ _ h=>(nomatch h)⟩ rfl (.loc hk h1 h2)) hcs hg hy
 refine Js hB hA S1 D hF hbd hk hno (hc0 _) (hb _ _) hx he (uh hr _) λv s' q_=>Exists.p3 q_ λP' a' iv=>?_
 ·show wpAny _ N.A (handedOut v) _ _ _
  rw[PySem.W.handedOut_of (v:=v) (by have:=iv.hand a'.st.wd;cases v <;> first | rfl | exact this)]
  exact wpAny_pure ⟨P',(Aft.toks N.S (N.s.toks+1)).trans a',iv⟩
end
end
section
section
variable{c:Cx}{g:Glb}{b:Nat}{σ:Sg}{x:Str}
theorem R.raiseStop(hg:aj c g){lv:Lv}{lr:List Lv}(hl:σ.lv=lv::lr)(hn:Nm g σ.cs x lv (.ty "StopIteration")){np pos:Pos}:RX c b σ (.Raise (some (.Name x np)) none pos) (.exc "StopIteration") σ:=⟨rfl,λN=>by
 cases hl.symm.trans N.hl;refine PySem.W.owsi_raiseC N.hA.handled (aR hg N.Y.st N.he hn λv hv=>⟨hv.ty_inv,rfl⟩) λh' e hm=>N.thrown (mz (A:=N.A) N.Y.st (tk:=N.s.toks) hm.newExc)⟩
end
theorem g_Stop:aget "StopIteration" G.bis=some (.ty "StopIteration"):=by first | rfl'
section
variable{c:Cx}{b:Nat}(hB:Wd c c.hb)(hg:aj c G)
include hB hg
local macro_rules (kind:=PySem.W.tacticWtm_at_) | x=>bj x "m.x" "R.raiseStop a r nst;bac"
local macro_rules (kind:=PySem.W.tacticWtm_at_) | x=>bj x "m.nst" "~Nm.bis r k =g_Stop"
set_option maxHeartbeats 800000 in
theorem Dr{c0 c2 c4:Cell}{W buf:Str}{st st':V}{pos pos':Int}(h:ShOk c b)(hm:MeOk c b "shlex" "get_token" (sgN c0 c2 c4 W st "" buf pos [("self",.obj 1)]).cs 1 [] .none (sgN c0 c2 c4 W st' "" buf pos' [("self",.obj 1)]).cs) :
  RXs c b (sgN c0 c2 c4 W st "" buf pos [("self",.obj 1)]) F_nx.body (.exc "StopIteration") (sgN c0 c2 c4 W st' "" buf pos' []):=by
 obtain⟨g1,g2,g3,g4,g5,g6,g7,g8,g9,g10,g11,g12,g13,s1,s2,pc⟩:=h;refine' R.less ?zx ?zw
 case zx=>wtm_at "m.xs"
 case zw=>wtm_at "m.csle"
end
end
section
section
variable{c:Cx}{g:Glb}{A:Around}{fr rest:List Env}{γ γ':Gh}{P0 P P':Frz}{s0 s s':Shared}{cs cs':List Cell}{E:Value->Shared->Prop}{b:Nat}{env:Env}{σ σ' τ:Sg}{l:Lv}{lr:List Lv}{L:Addr}
theorem Jt(hB:Wd c c.hb)(hA:Am0 c A fr (b+1))(Y:Act c fr γ P0 s0 P s cs){f:Addr}{fd:FuncData}{F:Fn}(D:ak c f fd F){args:Args}{xs:List Value}{as:List V}
  (hb:BindsTo s fd args (F.pars.zip xs)) (hx:IsL c.D γ P xs as) (hst:Svs (F.pars.zip as) (aL F cs) σ) {k:String} (hr:RXs c b σ F.body (.exc k) τ) {Q:Value->Shared->Prop}
  (hE:∀x s' γ' P',γ.Le γ'->Act c fr γ' P0 s0 P' s' τ.cs->Held c γ' s0 P' s' .none k x->E x s'):wpAny c.M A (call (.ref f) args.pos args.kw) Q E s:=by
 obtain⟨ob,hK,hdat⟩:=D.obj;have ho:=Y.st.wd.kp _ _ hK;have hroom:A.depth<recursionLimit:=by have:=hA.depth;omega
 refine wpAny_call ?_;have e:(⟨args.pos,args.kw⟩:Args)=args:=by cases args;rfl
 rw[e];refine codeAny_call_function hroom ho hdat D.ok.co D.ok.gen D.body (Y.st.wd.bk.codeRec D.code) (jV hB hA Y D.ok hb hx hst λN e1 e2 g e3 e4 e5=>⟨N.Y.st.wd.nl,codeAny_func ?_⟩);rw[<-e2];refine wpAny_mono (hr.2 N) (λfl' s3 q_=>Exists.p5 q_ λγ3 P3 g3 Y3 f3=>f3.inv.elim) λx s3 q=>?_;obtain⟨γ3,P3,k',g3,hk,Y3,T3⟩:=q;cases hk;refine wpAny_bind (mV hB N.hA.frames N.hf Y3 T3 λh' X' H'=>jx hB X' H' none λh'' X'' H''=>?_);have X'':=X''.tail;rw[e1,e3,e4] at X'';rw[e4] at H'';exact hE _ _ γ3 P3 (g.trans g3) X'' H''
end
end
section
section
variable{c:Cx}{cl:Str}{Kf:Frag}{C fn:Addr}{cd:ClassData}{b:Nat}{fr:List Env}{γ:Gh}{P0:Frz}{s0:Shared}{A:Around}
def Step(c:Cx)(b:Nat)(F:Fn)(i:Nat)(cs:List Cell)(fl:Fl)(r:V)(cs':List Cell):Prop:=∃σ τ,Svs (F.pars.zip [.obj i]) (aL F cs) σ/\RXs c b σ F.body fl τ/\Left cs τ cs' r
theorem Dh(hB:Wd c c.hb)(K:ClsAt c cl Kf C cd)(hnx:findIn Kf (.ref C) "__next__"=some (some (.ref fn)))(ht:typeIn Kf (.ref fn)=some (.type "function")){fd:FuncData}{F:Fn}(D:ak c fn fd F)(hbd:∀(s:Shared) (v:Value),BindsTo s fd ⟨[v],[]⟩ (F.pars.zip [v]))
  (hA:Am0 c A.in1 fr (b+1)) {i j:Nat} {G:Nat->List V->List Cell} {ts:List Str} {xa:Addr} {res:Value} {R:Result->Shared->Prop} (hn:ts.length<=1000000) (hj:∀k l,(G k l)[j]?=some (.list l)) (hset:∀k l l',(G k l).set j (.list l')=G k l') (hinst:∀k l,∃at_,(G k l)[i]?=some (.inst cl at_))
  (hstep:∀k t l,ts[k]?=some t->Step c b F i (G k l) (.ret (.str t)) (.str t) (G (k+1) l)) (hstop:∀l,Step c b F i (G ts.length l) (.exc "StopIteration") .none (G (ts.length+1) l))
  (hR:∀s P,Act c fr γ P0 s0 P s (G (ts.length+1) (ts.map .str))->R (.ok (.ret res)) s) :
  ∀(n k:Nat) (s:Shared) (P:Frz),ts.length-k=n->k<=ts.length->Act c fr γ P0 s0 P s (G k ((ts.take k).map .str))->Is c.D γ P (.ref xa) (.obj i)->codeAny c.M A (.builtin "list.extend.loop" ⟨[.ref (γ.ρ j),.ref xa,res],[]⟩) R s:=by
 have open_:∀(s:Shared) (P:Frz) (k:Nat) (l:List V),Act c fr γ P0 s0 P s (G k l)->Is c.D γ P (.ref xa) (.obj i)->∃ox od,InstAt s.heap xa ox C od:=λs P k l Y hx=>by
  obtain⟨_,e,_,ho⟩:=hx.obj_inv;cases e;obtain⟨at_,hc⟩:=hinst k l;obtain⟨es,ep,hin,_,_⟩:=fB Y.st hc ho;exact⟨_,_,fu K hin⟩
 intro n
 induction n with
 | zero =>
  intro k s P hk hle Y hx;have hin:k=ts.length:=by omega
  subst hin;obtain⟨ox,od,I⟩:=open_ _ _ _ _ Y hx;obtain⟨σ,τ,h1,h2,h3,h4,h5,h6⟩:=hstop ((ts.take ts.length).map .str);refine codeAny_builtin PySem.F.entry_extend_loop ?_;rw[Around.under_plainId PySem.F.plain_extend_loop _];show wpAny _ A.in1 (pyNext (.ref xa) >>= _) _ _ s;refine wpAny_bind ?_;unfold pyNext;refine wpAny_bind (wpAny_attempt (PySem.W.special_fn (K.frag Y.st.wd) I hnx ht ?_));refine Jt (args:=⟨[.ref xa],[]⟩) hB hA Y D (hbd s _) (.cons hx .nil) h1 h2 λx s' γ' P' g Y' T=>?_;obtain⟨e,ob,vs,rfl,_,he,hc,_⟩:=T;refine wpAny_bind (wpAny_isInstance (T:="StopIteration") (b:=true) ⟨_,he,hc⟩ isSubtype_stop ?_);rw[if_pos rfl];refine wpAny_pure (wpAny_pure ?_);rw[<-Y.st.real.k] at h3 h4 h6;have Y2:=Y'.cut g h4 h3;rw[<-h6,O6] at Y2;exact hR _ _ Y2
 | succ n ih =>
  intro k s P hk hle Y hx;have hlt:k<ts.length:=by omega
  obtain⟨t,ht'⟩:∃t,ts[k]?=some t:=⟨_,Lb hlt⟩;obtain⟨ox,od,I⟩:=open_ _ _ _ _ Y hx;obtain⟨σ,τ,h1,h2,h3⟩:=hstep k t ((ts.take k).map .str) ht';refine codeAny_builtin PySem.F.entry_extend_loop ?_;rw[Around.under_plainId PySem.F.plain_extend_loop _];show wpAny _ A.in1 (pyNext (.ref xa) >>= _) _ _ s;refine wpAny_bind ?_;unfold pyNext;refine wpAny_bind (wpAny_attempt (PySem.W.special_fn (K.frag Y.st.wd) I hnx ht ?_));refine wpAny_mono (iQ (args:=⟨[.ref xa],[]⟩) hB hA Y.rebase D (hbd s _) (.cons hx .nil) h1 h2 (.inl rfl) h3) (λv s1 q_=>Exists.p3 q_ λP1 Y1 i1=>?_) λ_ _ q=>q;obtain⟨tk,rfl⟩:=i1.str_inv;have hx1:=hx.mono Y1.since.gr.le;have Y1:=Y1.under Y.since.gr;refine wpAny_pure ?_;obtain⟨vs,m,e,p⟩:=Y1.st.real.cell j _ (hj (k+1) _);have hlen:=p.length;rw[Lp,KN,Mr] at hlen;show wpAny _ A.in1 (updateSeq (γ.ρ j) (·.push _) >>= _) _ _ _;refine wpAny_bind (wpAny_updateSeq e rfl (wpAny_pure ⟨plainId_quiet PySem.F.plain_extend_loop _,ih (k+1) _ P1 (by omega) hlt ?_ hx1⟩) (by show vs.size<=16777216;omega) (by show(vs.push _).size<=16777216+1;rw[Py];omega))
  have Y2:=Y1.mapped hB (hj (k+1) _) e (·.push (.str t tk)) (l':=(ts.take (k+1)).map .str) (by
   rw[Oo,PQ,ht',NB];exact p.append (.cons (.str _ _) .nil)) s1.toks
  rw[hset] at Y2;exact Y2
end
end
section
section
variable{M:Model}{A:Around}{E:Value->Shared->Prop}{s:Shared}{Kf:Frag}{x C f:Addr}{ox:Obj}{od:Option Obj}
theorem Df{Q:Value->Shared->Prop}(X:Kf.In s.heap)(I:InstAt s.heap x ox C od)(hs:findIn Kf (.ref C) "__iter__"=some (some (.ref f)))(hf:typeIn Kf (.ref f)=some (.type "function"))
  (h:wpAny M A (call (.ref f) [.ref x]) (λv s'=>wpAny M A (specialOf v "__next__") (λr s₂=>r.isSome=true/\Q v s₂) E s') E s):wpAny M A (pyIter (.ref x)) Q E s:=by
 have hb:=PySem.W.bind_fn (M:=M) X (.ref x) hf;have called:∀refuse:Sem Value,wpAny M A (callSpecialIfBoundUnlessNone? (.ref x) "__iter__" refuse) (λr s'=>∃v,r=some v/\wpAny M A (specialOf v "__next__") (λr s₂=>r.isSome=true/\Q v s₂) E s') E s:=by
  intro refuse;unfold callSpecialIfBoundUnlessNone? bindSpecialIfBound?;have last:wpAny M A (if (Value.ref f==Value.none)=true then refuse >>= λv=>pure (some v) else call (.ref f) [.ref x] >>= λv=>pure (some v)) (λr s'=>∃v,r=some v/\wpAny M A (specialOf v "__next__") (λr s₂=>r.isSome=true/\Q v s₂) E s') E s :=
   wpAny_ite_false rfl (wpAny_bind (wpAny_mono h (λv s' q=>wpAny_pure ⟨v,rfl,q⟩) λ_ _ q=>q))
  refine wpAny_holding (wpAny_bind (wpAny_bind (wpAny_bind (I.type.here ((PySem.W.looks_findIn X hs).here ?_)))));refine wpAny_bind (wpAny_askSetting (wpAny_ite ?_));split
  ·exact wpAny_bind (hb.here (wpAny_pure (by exact last)))
  ·exact wpAny_tryCatch (wpAny_bind (hb.here (wpAny_pure (by exact last))))
 unfold pyIter;refine wpAny_bind (wpAny_bind (I.type.here ((PySem.W.looks_findIn X hs).here ?_)));dsimp only;refine wpAny_bind (wpAny_mono (called _) (λr s' ⟨v,e,hv⟩=>?_) λ_ _ q=>q);subst e;refine wpAny_bind (wpAny_mono hv (λr s₂ ⟨hr,hq⟩=>?_) λ_ _ q=>q);cases r with
 | none=>cases hr
 | some g=>exact wpAny_pure hq
end
end
section
section
variable{c:Cx}{cl:Str}{Kf:Frag}{C fn fi:Addr}{cd:ClassData}{b:Nat}{fr:List Env}{γ:Gh}{P0:Frz}{s0:Shared}{A:Around}
theorem Dg(hB:Wd c c.hb)(K:ClsAt c cl Kf C cd)(hnx:findIn Kf (.ref C) "__next__"=some (some (.ref fn)))(ht:typeIn Kf (.ref fn)=some (.type "function"))(hit:findIn Kf (.ref C) "__iter__"=some (some (.ref fi)))(hti:typeIn Kf (.ref fi)=some (.type "function"))(hle:findIn Kf (.ref C) "__len__"=some none)(hlh:findIn Kf (.ref C) "__length_hint__"=some none)
  {fd fdi:FuncData} {F Fi:Fn} (D:ak c fn fd F) (hbd:∀(s:Shared) (v:Value),BindsTo s fd ⟨[v],[]⟩ (F.pars.zip [v])) (Di:ak c fi fdi Fi) (hbi:∀(s:Shared) (v:Value),BindsTo s fdi ⟨[v],[]⟩ (Fi.pars.zip [v]))
  (hA:Am0 c A.in1 fr (b+1)) {i j:Nat} {G:Nat->List V->List Cell} {ts:List Str} (hn:ts.length<=1000000) (hj:∀k l,(G k l)[j]?=some (.list l)) (hset:∀k l l',(G k l).set j (.list l')=G k l') (hinst:∀k l,∃at_,(G k l)[i]?=some (.inst cl at_))
  (hiter:Step c b Fi i (G 0 []) (.ret (.obj i)) (.obj i) (G 0 [])) (hstep:∀k t l,ts[k]?=some t->Step c b F i (G k l) (.ret (.str t)) (.str t) (G (k+1) l)) (hstop:∀l,Step c b F i (G ts.length l) (.exc "StopIteration") .none (G (ts.length+1) l))
  {R:Result->Shared->Prop} (hR:∀s P,Act c fr γ P0 s0 P s (G (ts.length+1) (ts.map .str))->R (.ok (.ret .none)) s) {s:Shared} {P:Frz} {xa:Addr} (Y:Act c fr γ P0 s0 P s (G 0 [])) (hx:Is c.D γ P (.ref xa) (.obj i)) (hne:γ.ρ j≠xa) :
  wpAny c.M A.in1 (Builtin.«list.__init__» ⟨[.ref (γ.ρ j),.ref xa],[]⟩) (λfin s'=>match fin with | .done f=>R (.ok f) s' | .again c'=>c'.quiet=true/\codeAny c.M A c' R s') (λe s'=>R (.error e) s') s:=by
 have open_:∀(s:Shared) (P:Frz) (k:Nat) (l:List V) (xa:Addr),Act c fr γ P0 s0 P s (G k l)->Is c.D γ P (.ref xa) (.obj i)->∃ox od,InstAt s.heap xa ox C od:=λs P k l xa Y hx=>by
  obtain⟨_,e,_,ho⟩:=hx.obj_inv;cases e;obtain⟨at_,hc⟩:=hinst k l;obtain⟨es,ep,hin,_,_⟩:=fB Y.st hc ho;exact⟨_,_,fu K hin⟩
 obtain⟨vs,m,e,p⟩:=Y.st.real.cell j _ (hj 0 []);have hlen:=p.length;rw[Lp] at hlen;obtain rfl:vs = #[]:=Sh.mp hlen;show wpAny _ A.in1 (do let old <- Builtin.List.listItems (.ref (γ.ρ j));Builtin.List.listUpdate (.ref (γ.ρ j)) (λ_ => #[]);letGo old.toList.reverse;Builtin.List.listExtendWith (.ref (γ.ρ j)) (.ref xa) .none) _ _ s
 refine wpAny_bind ?_;unfold Builtin.List.listItems;refine wpAny_bind (wpAny_seqItems e rfl (wpAny_pure ?_));show wpAny _ A.in1 (updateSeq (γ.ρ j) (λ_ => #[]) >>= λ_=>letGo (#[]:Array Value).toList.reverse >>= λ_=>Builtin.List.listExtendWith (.ref (γ.ρ j)) (.ref xa) .none) _ _ s;refine wpAny_bind (wpAny_updateSeq e rfl ?_ (by decide) (by decide))
 have Y1:=Y.mapped hB (hj 0 []) e (λ_ => #[]) (l':=[]) .nil s.toks;rw[hset] at Y1;obtain⟨ox,od,I⟩:=open_ _ _ _ _ _ Y1 hx;have X1:=K.frag Y1.st.wd;refine wpAny_bind (wpAny_letGo ?_);unfold Builtin.List.listExtendWith;refine wpAny_bind (I.type.here ?_);have h1:Builtin.List.listSameRef (.ref (γ.ρ j)) (.ref xa)=false:=by simp[Builtin.List.listSameRef,hne]
 have h2:(Value.ref C==Value.type "list")=false:=rfl;have h3:(Value.ref C==Value.type "tuple")=false:=rfl;rw[h1,h2,h3,if_neg (by decide)]
 obtain⟨σ,τ,g1,g2,g3⟩:=hiter;refine wpAny_bind (Df X1 I hit hti ?_);refine wpAny_mono (iQ (args:=⟨[.ref xa],[]⟩) hB hA Y1.rebase Di (hbi _ _) (.cons hx .nil) g1 g2 (.inl rfl) g3) (λv s1 q_=>Exists.p3 q_ λP1 Y2 i2=>?_) λ_ _ q=>q;have hx2:=hx.mono Y2.since.gr.le;have Y2:=Y2.under Y1.since.gr;obtain⟨xb,rfl,_,_⟩:=i2.obj_inv;obtain⟨ox2,od2,I2⟩:=open_ _ _ _ _ _ Y2 i2;obtain⟨ox3,od3,I3⟩:=open_ _ _ _ _ _ Y2 hx2;have X2:=K.frag Y2.st.wd;refine wpAny_bind (I2.type.here ((PySem.W.looks_findIn X2 hnx).here ⟨rfl,?_⟩));refine wpAny_bind (wpAny_holding ?_);unfold Builtin.List.listLengthHint;refine wpAny_bind (wpAny_bind (I3.type.here ((PySem.W.looks_findIn X2 hle).here ?_)));show wpAny _ A.in1 (specialOf (Value.ref xa) (KY "__length_hint__") >>= _) _ _ _;refine wpAny_bind (wpAny_bind (I3.type.here ((PySem.W.looks_findIn X2 hlh).here ?_)));refine wpAny_pure ?_;refine wpAny_ite_true rfl ?_;refine wpAny_bind (wpAny_rule (wpAny_bind ?_));show wpAny _ A.in1 (updateSeq (γ.ρ j) (·.push .none) >>= λ_=>updateSeq (γ.ρ j) (·.pop)) _ _ _;obtain⟨ws,m2,e2,p2⟩:=Y2.st.real.cell j _ (hj 0 []);have hlen2:=p2.length;rw[Lp] at hlen2;obtain rfl:ws = #[]:=Sh.mp hlen2;have Y3:=Y2.mapped hB (hj 0 []) e2 (·.push Value.none) (l':=[.none]) (.cons .none .nil) s1.toks;rw[hset] at Y3;refine wpAny_bind (wpAny_updateSeq e2 rfl ?_ (by decide) (by decide))
 obtain⟨m3,hm3⟩:=f9 (·.push Value.none) #[] m2;have e3:(s1.heap.update (γ.ρ j) (Obj.mapSeq (·.push Value.none))).get? (γ.ρ j)=some (aa (#[].push Value.none) m3):=by rw[Heap.get?_update_self _ e2 (by rw[hm3];rfl),hm3]
 refine wpAny_updateSeq e3 rfl ?_ (by decide) (by decide)
 have Y4:=Y3.mapped hB (hj 0 [.none]) e3 (·.pop) (l':=[]) .nil s1.toks;rw[hset] at Y4;exact wpAny_pure ⟨plainId_quiet PySem.F.plain_extend_loop _,Dh hB K hnx ht D hbd hA hn hj hset hinst hstep hstop hR ts.length 0 _ P1 (PJ _) (K5 _) Y4 i2⟩
end
end
section
section
variable{c:Cx}{fr:List Env}{γ:Gh}{P0 P:Frz}{s0 s:Shared}{cs:List Cell}
theorem Act.newList(Y:Act c fr γ P0 s0 P s cs):Act c fr (γ.more s.heap.objs.size "") P0 s0 P {s with heap:=s.heap.push (aa #[] 0)} (cs++[.list []]):=by
 have Y1:=Y.push (aa #[] 0) s.toks;have hn:P s.heap.objs.size=none:=Y.st.real.none_at;have hi:∀i,i<γ.k->γ.ρ i≠s.heap.objs.size:=λi hi q=>by
  obtain⟨o,e⟩:=Y.st.real.there hi;rw[q,aU] at e;cases e
 have R':Real c.D (γ.more s.heap.objs.size "") P (s.heap.push (aa #[] 0)) (cs++[.list []]):=Y1.st.real.more hn hi ⟨#[],0,by rw[γ.more_ρ];exact Heap.get?_push_size _ rfl,.nil⟩
 exact⟨⟨Y1.since.gr,Y1.since.ext,⟨R',Y1.st.wd,Y1.st.frs⟩⟩,λi h=>by
  by_cases q:i<γ.k
  ·rw[(γ.more_le _ _).ρ i q];exact Y.base i q
  ·have h:i<γ.k+1:=h
   obtain rfl:i=γ.k:=by omega
   rw[γ.more_ρ];exact Y.since.ext.keep.gone (aU _),Y.kb⟩
theorem Ep{cl:Str}{Kf:Frag}{C fn fi:Addr}{cd:ClassData}{b:Nat}{A:Around}(hB:Wd c c.hb)(K:ClsAt c cl Kf C cd)(hnx:findIn Kf (.ref C) "__next__"=some (some (.ref fn)))(ht:typeIn Kf (.ref fn)=some (.type "function"))(hit:findIn Kf (.ref C) "__iter__"=some (some (.ref fi)))(hti:typeIn Kf (.ref fi)=some (.type "function"))(hle:findIn Kf (.ref C) "__len__"=some none)(hlh:findIn Kf (.ref C) "__length_hint__"=some none)
  {fd fdi:FuncData} {F Fi:Fn} (D:ak c fn fd F) (hbd:∀(s:Shared) (v:Value),BindsTo s fd ⟨[v],[]⟩ (F.pars.zip [v])) (Di:ak c fi fdi Fi) (hbi:∀(s:Shared) (v:Value),BindsTo s fdi ⟨[v],[]⟩ (Fi.pars.zip [v]))
  (hA:Am0 c A fr (b+2)) {i:Nat} {G:Nat->List V->List Cell} {ts:List Str} (hn:ts.length<=1000000) (h0:cs++[.list []]=G 0 []) (hj:∀k l,(G k l)[cs.length]?=some (.list l)) (hset:∀k l l',(G k l).set cs.length (.list l')=G k l') (hinst:∀k l,∃at_,(G k l)[i]?=some (.inst cl at_))
  (hiter:Step c b Fi i (G 0 []) (.ret (.obj i)) (.obj i) (G 0 [])) (hstep:∀k t l,ts[k]?=some t->Step c b F i (G k l) (.ret (.str t)) (.str t) (G (k+1) l)) (hstop:∀l,Step c b F i (G ts.length l) (.exc "StopIteration") .none (G (ts.length+1) l))
  (Y:Act c fr γ P0 s0 P s cs) {xa:Addr} (hx:Is c.D γ P (.ref xa) (.obj i)) {E:Value->Shared->Prop} :
  wpAny c.M A (call (.type "list") [.ref xa]) (λv s'=>∃γ' P',γ.Le γ'/\Act c fr γ' P0 s0 P' s' ((G (ts.length+1) (ts.map .str)).set cs.length .dead)/\Is c.D γ' P' v (.lst (ts.map .str))) E s:=by
 refine callType_codes (Q₁:=λobj s₁=>obj=.ref s.heap.objs.size/\s₁={s with heap:=s.heap.push {cls:=.type "list",data:=.seq #[]}}) PySem.F.called_list (PySem.F.typeCall_list_1 _) PySem.F.entry_list_init (code_list_new _ ⟨rfl,rfl⟩) λobj s₁ h₁=>?_
 obtain⟨rfl,rfl⟩:=h₁;have hS:(s.heap.push {cls:=.type "list",data:=.seq #[]}).get? s.heap.objs.size=some {cls:=.type "list",data:=.seq #[]}:=Heap.get?_push_size _ rfl;refine⟨⟨_,hS,rfl⟩,PySem.F.args_list_init_2 _ _,?_⟩;have Y1:=Y.newList;rw[h0] at Y1;have hρ:(γ.more s.heap.objs.size "").ρ cs.length=s.heap.objs.size:=by rw[<-Y.st.real.k];exact γ.more_ρ _ _
 have hne:(γ.more s.heap.objs.size "").ρ cs.length≠xa:=by
  rw[hρ];obtain⟨_,e,_,ho⟩:=hx.obj_inv;cases e;exact Nq (Heap.lt_size (Y.st.real.le _ _ ho))
 have hA':Am0 c A.in1.in1 fr (b+1):=⟨hA.handled,by have:=hA.depth;show A.depth+_+_<_;omega,by have:=hA.units;show A.units+1+1+_+_<_;omega,hA.frames,hA.tree⟩
 have main:=Dg (A:=A.in1) hB K hnx ht hit hti hle hlh D hbd Di hbi hA' hn hj hset hinst hiter hstep hstop (R:=wants (λr s₂=>r=.none/\∃γ' P',γ.Le γ'/\Act c fr γ' P0 s0 P' s₂ ((G (ts.length+1) (ts.map .str)).set cs.length .dead)/\Is c.D γ' P' (.ref s.heap.objs.size) (.lst (ts.map .str))) E)
  (λs' P' Y'=>by
   obtain⟨P2,Y2,_,i2⟩:=Y'.retire (hj _ _);rw[hρ] at i2;exact⟨rfl,_,P2,γ.more_le _ _,Y2,i2⟩) Y1 (hx.gmono (γ.more_le _ _)) hne
 rw[hρ] at main;exact main
end
end
section
section
variable{c:Cx}{g:Glb}{b:Nat}{σ τ:Sg}{nm:Str}{p q:Pos}{x:Expr}{u r:V}
theorem R.effType(hg:aj c g){lv:Lv}{lr:List Lv}(hl:σ.lv=lv::lr){T:String}(hn:Nm g σ.cs nm lv (.ty T))(hs:isStarred x=false)(hx:REv c b σ x u)(hlv:τ.lv=σ.lv)
  (h:∀(N:Run c b σ) (v:Value) (E:Value->Shared->Prop),Is c.D N.γ N.P v u->N.wp (call (.type T) [v]) (λy s'=>∃γ' P',N.γ.Le γ'/\N.Ac γ' P' s' τ.cs/\Is c.D γ' P' y r) E):REff c b σ (.Call (.Name nm p) [x] [] q) r τ:=⟨hlv,λN E=>by
 cases hl.symm.trans N.hl;have ha:REvs c b σ [x] [u]:=R.cons hs hx R.nil;refine wpAny_Call_NameR (aR hg N.Y.st N.he hn λxa ia=>?_);obtain rfl:=ia.ty_inv;refine bO (bM ha.1 _) (ha.then N.now λP1 s1 a1 xs is=>⟨jL,?_⟩);obtain⟨v,rfl,iv⟩:=is.one;rw[Mj];have Nn:Run c b σ:=N.go a1;refine wpAny_mono (h (N.go a1) v E iv) (λy s2 q_=>Exists.p5 q_ λγ' P' g' Y' i'=>⟨γ',P',g',Y',i'⟩) λ_ _ q=>q⟩
end
end
section
noncomputable abbrev F_it:Fn:=F_m 22 9
section
variable{c:Cx}{b:Nat}(hB:Wd c c.hb)(hg:aj c G)
include hB hg
theorem Gi{cs:List Cell}(hi:1<cs.length)(hc:cs.all (aD cs.length)=true):Step c b F_it 1 cs (.ret (.obj 1)) (.obj 1) cs:=by
 refine⟨⟨[⟨F_it.names,cs.length,[]⟩],cs++[.vars [("self",.obj 1)]]⟩,⟨[⟨F_it.names,cs.length,[]⟩],cs++[.vars [("self",.obj 1)]]⟩,?_,?_,?_,?_,?_,?_⟩
 ·have hp:F_it.pars=[KY "self"]:=by rfl'
  have e:aL F_it cs=⟨[⟨F_it.names,cs.length,[]⟩],cs++[.vars []]⟩:=by
   unfold aL;have h1:ao F_it.names=[]:=by rfl'
   have h2:cellsFrom (cs.length+1) F_it.names []=[]:=rfl;rw[h1,h2]
  rw[hp,e];have:=Sv.loc (x:="self") (v:=.obj 1) (l:=⟨F_it.names,cs.length,[]⟩) (r:=[]) (cs:=cs++[.vars []]) (vs:=[]) (by rfl') (by simp)
  rw[show(cs++[Cell.vars []]).set cs.length (.vars (aput "self" (.obj 1) []))=cs++[.vars [("self",.obj 1)]] by simp[j7]] at this
  exact .cons this .nil
 ·exact R.xsStop (R.ret (R.name hg rfl (.loc (by rfl') (List.getElem?_concat_length ..) iT)) .old) (by intro h;cases h)
 ·rw[PP];exact hc
 ·simp
 ·exact decide_eq_true hi
 ·exact(PP ..).symm
end
end
section
structure Mth(c:Cx)(Kf:Frag)(C:Addr)(m:Str)(f:Addr)(fd:FuncData)(F:Fn):Prop where
 fin:findIn Kf (.ref C) m=some (some (.ref f))
 ty:typeIn Kf (.ref f)=some (.type "function")
 df:ak c f fd F
 bd:∀(s:Shared) (v:Value),BindsTo s fd ⟨[v],[]⟩ (F.pars.zip [v])
theorem Mth.me{c:Cx}{cl m:Str}{Kf:Frag}{C f:Addr}{cd:ClassData}{b:Nat}{cs cs':List Cell}{i:Nat}{σ τ:Sg}{fd:FuncData}{F:Fn}(h:Mth c Kf C m f fd F)(hB:Wd c c.hb)(K:ClsAt c cl Kf C cd)
  (hst:Svs (F.pars.zip [.obj i]) (aL F cs) σ) {fl:Fl} {r:V} (hr:RXs c b σ F.body fl τ) (hfl:fl=.ret r∨fl=.next/\r=.none) (hl:Left cs τ cs' r):MeOk c (b+1) cl m cs i [] r cs' :=
 m5 (ds:=[]) hB K h.fin h.ty h.df (λs γ P x vs _ hv=>by cases hv;exact⟨[],h.bd s x,.nil⟩) hst hr hfl hl
theorem eQ{F:Fn}{cs:List Cell}{i:Nat}(hp:F.pars=[KY "self"])(h1:ao F.names=[])(h2:∀n,cellsFrom n F.names []=[])(h3:aget "self" F.names=some .local):Svs (F.pars.zip [.obj i]) (aL F cs) ⟨[⟨F.names,cs.length,[]⟩],cs++[.vars [("self",.obj i)]]⟩:=by
 have e:aL F cs=⟨[⟨F.names,cs.length,[]⟩],cs++[.vars []]⟩:=by
  unfold aL;rw[h1,h2]
 rw[hp,e];have:=Sv.loc (x:="self") (v:=.obj i) (l:=⟨F.names,cs.length,[]⟩) (r:=[]) (cs:=cs++[.vars []]) (vs:=[]) h3 (by simp)
 rw[show(cs++[Cell.vars []]).set cs.length (.vars (aput "self" (.obj i) []))=cs++[.vars [("self",.obj i)]] by simp[j7]] at this
 exact .cons this .nil
theorem dh{cs cs':List Cell}{lv:List Lv}{x:Cell}{r:V}(h:cs'.length=cs.length)(hc:cs'.all (aD cs.length)=true)(hr:below cs.length r=true):Left cs ⟨lv,cs'++[x]⟩ cs' r:=by
 have e:(cs'++[x]).take cs.length=cs':=by rw[<-h];exact PP ..
 refine⟨?_,?_,hr,?_⟩
 ·show(((cs'++[x]).take cs.length).all _)=true
  rw[e];exact hc
 ·show cs.length<=(cs'++[x]).length
  rw[KR,h];exact LQ _ _
 ·exact e.symm
structure Toks(c:Cx)(b:Nat)(s:Str)(ts:List Str)(st:Nat->V)(pos:Nat->Int):Prop where
 s0:st 0=.str " "
 p0:pos 0=0
 low:∀k,below 0 (st k)=true
 ne:∀t∈ts,decide (t="")=false
 tok:∀k t,ts[k]?=some t->∃q,bQ c b W0 s (st k) "" (pos k) false (st (k+1)) t (pos (k+1)) q
 fin:bQ c b W0 s (st ts.length) "" (pos ts.length) false (st (ts.length+1)) "" (pos (ts.length+1)) false
noncomputable abbrev gLx(c0:Cell)(s:Str)(st:Nat->V)(pos:Nat->Int)(k:Nat)(l:List V):List Cell:=[c0,shc W0 (st k) "",.vars [],sio s (pos k),.list l]
theorem wj{n:Nat}{v:V}(h:below 0 v=true):below n v=true:=by
 cases v with
 | own i=>exact absurd (of_decide_eq_true (show decide (i<0)=true from h)) (Ma _)
 | obj i=>exact absurd (of_decide_eq_true (show decide (i<0)=true from h)) (Ma _)
 | _=>rfl
theorem gM(n i:Nat):below n (.obj i)=decide (i<n):=rfl
theorem gK(n:Nat)(s:Str):below n (.str s)=true:=rfl
theorem j5(n:Nat)(s:Int):below n (.int s)=true:=rfl
theorem j6(n:Nat)(s:Bool):below n (.bool s)=true:=rfl
theorem oH(n:Nat):below n .none=true:=rfl
theorem wg(n:Nat):below n .deq=true:=rfl
theorem gJ(n:Nat)(l:List (Str × V)):aD n (.vars l)=l.all λx=>below n x.2:=rfl
theorem iK(n:Nat)(c:Str)(l:List (Str × V)):aD n (.inst c l)=l.all λx=>below n x.2:=rfl
theorem v6(n:Nat)(l:List V):aD n (.list l)=true:=rfl
theorem fH{c0:Cell}{s:Str}{st:V}{pos:Int}{l:List V}{n:Nat}(hn:5<=n)(h0:aD n c0=true)(h1:below 0 st=true)(r:List Cell)(hr:r.all (aD n)=true):([c0,shc W0 st "",.vars [],sio s pos,.list l]++r).all (aD n)=true:=by
 have h1:below n st=true:=wj h1;have h3:decide (3<n)=true:=decide_eq_true (by omega)
 rw[R5,hr,Ol];simp only[Lw,M7,gJ,iK,v6,gM,gK,j5,j6,oH,wg,h0,h1,h3,Om]
theorem sU{c0:Cell}{l:List V}(h:aD 8 c0=true):low5 c0 (.vars []) (.list l) (.vars [("self",.obj 1)]) (.vars [("self",.obj 1)]):=by
 show(aD 8 c0&&_)=true;rw[h];rfl
section
variable{c:Cx}{b:Nat}(hB:Wd c c.hb)(hg:aj c G)
include hB hg
variable{Kf:Frag}{C f1 f2 f3 f4:Addr}{cd:ClassData}{d1 d2 d3 d4:FuncData}{s:Str}{ts:List Str}{st:Nat->V}{pos:Nat->Int}{c0:Cell}
omit hB hg in
theorem KC{n:Nat}(hn:5<=n):aD n (.vars [("self",.obj 1)])=true:=by
 have:decide (1<n)=true:=decide_eq_true (by omega)
 simp only[gJ,Lw,M7,gM,this,Om]
theorem ul(K:ClsAt c "shlex" Kf C cd)(m1:Mth c Kf C "read_token" f1 d1 F_rt)(m2:Mth c Kf C "get_token" f2 d2 F_gt)(h0:ShOk c b)(h1:ShOk c (b+1))(k1:GtOk c (b+1)){st st':V}{tok:Str}{pos pos':Int}{q:Bool}{l:List V}(hc:aD 5 c0=true)(hc':∀n,5<=n->aD n c0=true)(hs':below 0 st'=true)
  (hr:bQ c b W0 s st "" pos false st' tok pos' q) (hz:decide (tok="")=false∨tok=""/\q=false):MeOk c (b+2) "shlex" "get_token" (sgN c0 (.vars []) (.list l) W0 st "" s pos [("self",.obj 1)]).cs 1 [] (if decide (tok="") then .none else .str tok) (sgN c0 (.vars []) (.list l) W0 st' "" s pos' [("self",.obj 1)]).cs:=by
 have p1:F_rt.pars=[KY "self"]:=by rfl'
 have p2:F_gt.pars=[KY "self"]:=by rfl'
 have o1:ao F_rt.names=[]:=by rfl'
 have o2:ao F_gt.names=[]:=by rfl'
 have n1:aget "self" F_rt.names=some .local:=by rfl'
 have n2:aget "self" F_gt.names=some .local:=by rfl'
 rcases hz with hz | ⟨rfl,rfl⟩
 ·rw[if_neg (by rw[hz];exact NT)]
  have r1:=m1.me (r:=.str tok) (cs:=(sgG c0 (.vars []) (.list l) (.vars [("self",.obj 1)]) W0 st "" s pos [("self",.obj 1)]).cs) (cs':=(sgG c0 (.vars []) (.list l) (.vars [("self",.obj 1)]) W0 st' "" s pos' [("self",.obj 1)]).cs) hB K (eQ p1 o1 (λ_=>rfl) n1) (Ao hB hg (c0:=c0) (c2:=.vars []) (c4:=.list l) (c5:=.vars [("self",.obj 1)]) (c6:=.vars [("self",.obj 1)]) h0 hr hz (sU (hc' 8 (by decide)))) (.inl rfl)
   (dh rfl (fH (by decide) (hc' 7 (by decide)) hs' [.vars [("self",.obj 1)],.vars [("self",.obj 1)]] (by rfl')) rfl)
  exact m2.me (cs:=(sgN c0 (.vars []) (.list l) W0 st "" s pos [("self",.obj 1)]).cs) (cs':=(sgN c0 (.vars []) (.list l) W0 st' "" s pos' [("self",.obj 1)]).cs) hB K (eQ p2 o2 (λ_=>rfl) n2) (Gs hB hg h1 k1 r1) (.inl rfl)
   (dh rfl (fH (by decide) (hc' 6 (by decide)) hs' [.vars [("self",.obj 1)]] (by rfl')) rfl)
 ·have ht:decide (("":Str)="")=true:=decide_eq_true rfl
  rw[if_pos ht];have r1:=m1.me (r:=.none) (cs:=(sgG c0 (.vars []) (.list l) (.vars [("self",.obj 1)]) W0 st "" s pos [("self",.obj 1)]).cs) (cs':=(sgG c0 (.vars []) (.list l) (.vars [("self",.obj 1)]) W0 st' "" s pos' [("self",.obj 1)]).cs) hB K (eQ p1 o1 (λ_=>rfl) n1) (Al hB hg (c0:=c0) (c2:=.vars []) (c4:=.list l) (c5:=.vars [("self",.obj 1)]) (c6:=.vars [("self",.obj 1)]) h0 hr (sU (hc' 8 (by decide)))) (.inl rfl)
   (dh rfl (fH (by decide) (hc' 7 (by decide)) hs' [.vars [("self",.obj 1)],.vars [("self",.obj 1)]] (by rfl')) rfl)
  exact m2.me (cs:=(sgN c0 (.vars []) (.list l) W0 st "" s pos [("self",.obj 1)]).cs) (cs':=(sgN c0 (.vars []) (.list l) W0 st' "" s pos' [("self",.obj 1)]).cs) hB K (eQ p2 o2 (λ_=>rfl) n2) (Gq hB hg h1 k1 r1) (.inl rfl)
   (dh rfl (fH (by decide) (hc' 6 (by decide)) hs' [.vars [("self",.obj 1)]] (by rfl')) rfl)
theorem Er(K:ClsAt c "shlex" Kf C cd)(m1:Mth c Kf C "read_token" f1 d1 F_rt)(m2:Mth c Kf C "get_token" f2 d2 F_gt)(m3:Mth c Kf C "__next__" f3 d3 F_nx)(m4:Mth c Kf C "__iter__" f4 d4 F_it)
  (hle:findIn Kf (.ref C) "__len__"=some none) (hlh:findIn Kf (.ref C) "__length_hint__"=some none) (h0:ShOk c b) (h1:ShOk c (b+1)) (h2:ShOk c (b+2)) (k1:GtOk c (b+1)) (hn:ts.length<=1000000) (T:Toks c b s ts st pos) {lv:Lv} {σ:Sg} {nx nl:Str} {p q r:Pos} (hl:σ.lv=[lv]) (hcs:σ.cs=[c0,shc W0 (.str " ") "",.vars [],sio s 0]) (hc:aD 5 c0=true) (hc':∀n,5<=n->aD n c0=true)
  (nl':Nm G σ.cs nl lv (.ty "list")) (hx:REv c (b+4) σ (.Name nx p) (.obj 1)) :
  REff c (b+4) σ (.Call (.Name nl q) [.Name nx p] [] r) (.lst (ts.map .str)) ⟨[lv],[c0,shc W0 (st (ts.length+1)) "",.vars [],sio s (pos (ts.length+1)),.dead]⟩:=by
 have p3:F_nx.pars=[KY "self"]:=by rfl'
 have o3:ao F_nx.names=[]:=by rfl'
 have n3:aget "self" F_nx.names=some .local:=by rfl'
 refine R.effType hg hl nl' rfl hx hl.symm λN v E iv=>?_;obtain⟨xa,rfl⟩:∃a,v=.ref a:=by obtain⟨a,e,_⟩:=iv.obj_inv;exact⟨a,e⟩
 have Y:=N.Y;rw[hcs] at Y;have h:=Ep (A:=N.A) (b:=b+2) (G:=gLx c0 s st pos) (ts:=ts) (i:=1) (E:=E) hB K m3.fin m3.ty m4.fin m4.ty hle hlh m3.df m3.bd m4.df m4.bd N.hA.z hn (by rw[gLx,T.s0,T.p0];rfl) (λ_ _=>rfl) (λ_ _ _=>rfl) (λ_ _=>⟨_,rfl⟩)
  (Gi hB hg (by decide:1<5) (by have:=fH (s:=s) (pos:=pos 0) (l:=[]) (by decide) hc (T.low 0) [] rfl;rwa [Lg] at this)) (λk t l hk=>?_) (λl=>?_) Y iv
 ·exact h
 ·obtain⟨q,hr⟩:=T.tok k t hk
  have hz:=T.ne t (Oa hk);have g1:=ul hB hg (l:=l) K m1 m2 h0 h1 k1 hc hc' (T.low (k+1)) hr (.inl hz);rw[if_neg (by rw[hz];exact NT)] at g1
  exact⟨_,_,eQ p3 o3 (λ_=>rfl) n3,Dt hB hg h2 g1,dh rfl (by have:=fH (s:=s) (pos:=pos (k+1)) (l:=l) (by decide) hc (T.low (k+1)) [] rfl;rwa [Lg] at this) rfl⟩
 ·have g1:=ul hB hg (l:=l) K m1 m2 h0 h1 k1 hc hc' (T.low _) T.fin (.inr ⟨rfl,rfl⟩)
  rw[if_pos (decide_eq_true rfl)] at g1;exact⟨_,_,eQ p3 o3 (λ_=>rfl) n3,Dr hB hg h2 g1,dh rfl (by have:=fH (s:=s) (pos:=pos (ts.length+1)) (l:=l) (by decide) hc (T.low (ts.length+1)) [] rfl;rwa [Lg] at this) rfl⟩
end
end
section
theorem je{M:Model}{A:Around}{α:Type}{x y:Sem α}{Q:α->Shared->Prop}{E:Value->Shared->Prop}{s:Shared}(k:wpAny M A y Q E s):wpAny M A (if false=true then x else y) Q E s:=k
theorem o6{M:Model}{A:Around}{α:Type}{x y:Sem α}{Q:α->Shared->Prop}{E:Value->Shared->Prop}{s:Shared}{b:Bool}(h:b=false)(k:wpAny M A y Q E s):wpAny M A (if b=true then x else y) Q E s:=by subst h;exact k
theorem wV{M:Model}{A:Around}{α:Type}{x y:Sem α}{Q:α->Shared->Prop}{E:Value->Shared->Prop}{s:Shared}(h:x=y)(k:wpAny M A y Q E s):wpAny M A x Q E s:=by rw[h];exact k
structure iY(c:Cx)(Kf:Frag)(C:Addr)(fN:Addr):Prop where
 obj:∃oc od cd sl,Kf.lookup C=some ⟨oc,od,.cls cd,sl⟩/\cd.abstract=false/\cd.hasDel=false/\cd.mro.isEmpty=false
 made:PySem.W.peek Kf ⟨c.prog,c.w.params⟩ (Bind.madeBy (.ref C))=some none
 base:PySem.W.peek Kf ⟨c.prog,c.w.params⟩ (Bind.staticBase (.ref C))=some (.type "object")
 madeO:PySem.W.peek Kf ⟨c.prog,c.w.params⟩ (Bind.madeBy (.type "object"))=some (some "object.__new__")
 subO:PySem.W.peek Kf ⟨c.prog,c.w.params⟩ (isSubtype (.ref C) (.type "object"))=some true
 self:PySem.W.subIn Kf (.ref C) (.ref C)=some true
 top:PySem.W.subIn Kf (.ref C) (.type "object")=some true
 call:specialIn Kf (.ref C) "__call__"=some (some (.builtin "type.__call__"))
 typ:instIn Kf (.ref C) (.type "type")=some true
 reads:PySem.W.readsIn Kf C (.type "type")=true
 new:∃p rest,findCls Kf (.ref C) (.type "type") "__new__"=some (.get (.builtin "staticmethod.__get__") (.ref p) .none (.ref C))/\recIn Kf p "staticmethod"=some (.ref fN::rest)
section
variable{c:Cx}{g:Glb}{A:Around}{Kf:Frag}{C fN:Addr}{R:Result->Shared->Prop}{h:Heap}{G:Array GenState}{d:Drawn}{t:Nat}{os:OsState}
theorem Dz(X:Kf.In h)(Nw:iY c Kf C fN)(hq:R (.ok (.ret (.ref (h.objs.size+1)))) ⟨(h.push emptyDict).push (instObj C h.objs.size),G,d,t,os⟩) :
  codeAny c.M A (.call (.builtin "object.__new__") ⟨[.ref C],[]⟩) R ⟨h,G,d,t,os⟩:=by
 obtain⟨⟨oc,od,cd,sl,hC,e1,e2,e4⟩,made,base,madeO,subO,self,top,call,typ,_,_⟩:=Nw;have hC:=X _ _ hC;have base:Looks c.M h (Bind.staticBase (.ref C)) (.type "object"):=.of_peek X base;have madeO:Looks c.M h (Bind.madeBy (.type "object")) (some "object.__new__"):=.of_peek X madeO;have here:Looks c.M h (Bind.madeHere "object.__new__" (.ref C)) ():=base.andThen (madeO.andThen (Looks.of_pure (by simp only[Option.map_some,bne_self_eq_false,O2,if_false])))
 have typ:Looks c.M h (isInstance (.ref C) (.type "type")) true:=PySem.W.looks_instIn X typ;have top:Looks c.M h (isSubtype (.ref C) (.type "object")) true:=PySem.W.looks_subIn X top;have F:=PySem.F.objNew;refine codeAny_call_builtin_code (Code.quiet_builtin _ F.quiet) ?_;unfold checkBuiltinCall;rw[F.kind,F.split,F.row];have args:Bind.checkArgs "object.__new__" ⟨.hand,"object.__new__","__new__",.cls,[]⟩ ⟨[.ref C],[]⟩=pure ():=by rfl'
 repeat (first | with_reducible refine wV args ?_ | refine je ?_ | lk)
 refine codeAny_builtin F.entry ?_;unfold Builtin.«object.__new__»;have fin:∀A',wpAny c.M A' (do
   let d <- if typeHasDict (.ref C) then some <$> alloc {cls:=.type "dict",data:=.dict #[]} else pure none
   ret (<- newObj (.ref C) .plain d)) (λfin s'=>match fin with | .done f=>R (.ok f) s' | .again c'=>c'.quiet=true/\codeAny c.M A c' R s') (λe s'=>R (.error e) s') ⟨h,G,d,t,os⟩:=by
  intro A';show wpAny _ _ ((alloc emptyDict >>= λx=>pure (some x)) >>= _) _ _ _;refine wpAny_bind (wpAny_bind (wpAny_alloc (wpAny_pure (wpAny_bind ?_))));show wpAny _ _ (newObjAsIs _ _ _) _ _ _;unfold newObjAsIs classHasDel;refine wpAny_bind (wpAny_alloc (wpAny_bind (wpAny_bind (wpAny_load (Heap.get?_push_of_some _ (Heap.get?_push_of_some _ hC)) (wpAny_pure ?_)))));rw[e2];refine wpAny_pure (wpAny_pure ?_);show R _ _;rw[Heap.size_push];exact hq
 repeat (first | refine je ?_ | refine o6 e1 ?_ | exact fin _ | lk)
end
end
section
noncomputable abbrev dK:Fn:=F_m 8 1
theorem G7:aget "object" G.bis=some (.ty "object"):=by first | rfl'
section
variable{c:Cx}{g:Glb}{A:Around}{fr:List Env}{γ γ':Gh}{P0 P:Frz}{s0 s:Shared}{cs ds:List Cell}{E:Value->Shared->Prop}{b:Nat}{σ τ:Sg}{Kf:Frag}{C fN:Addr}{cl:Str}{x:Expr}
theorem Dq{X:Kf.In s.heap}{pl:Sem Bool}{Q:Value × List Value->Shared->Prop}(h:Q (.builtin "object.__new__",[]) {s with toks:=s.toks+1}):wpAny c.M A (getMethod (.type "object") "__new__" pl) Q E s:=by
 have ht:typeOf (.type "object")=pure (.type "type"):=by rfl'
 have hs:specialOf (.type "object") "__getattribute__"=pure (some (.builtin "type.__getattribute__")):=by
  unfold specialOf;rw[ht];show typeLookup (.type "type") "__getattribute__"=_;rw[typeLookup_type,builtinLookup_eq_fast];rfl'
 unfold getMethod;rw[hs];refine wpAny_bind (wpAny_pure ?_);dsimp only;rw[if_pos PySem.W.canon_tga];refine wpAny_bind (PySem.W.cls_open (K:=Kf) (c:=.type "object") (mc:=.type "type") (r:=.val (.builtin "object.__new__")) (hook:=none) X (Looks.of_pure (by rfl')) (Looks.of_pure ht) (by rfl') (Looks.of_pure (by rfl')) (by rfl') (by rfl') ?_)
 refine wpAny_pure ?_;show wpAny _ _ (handedOut _) _ _ _;rw[PySem.W.handedOut_of (by rfl')]
 exact wpAny_pure (wpAny_pure h)
theorem R.objNew(hg:aj c g){lv:Lv}{lr:List Lv}(hl:σ.lv=lv::lr){p q np:Pos}(hline:bw p q=true)(hno:Nm g σ.cs "object" lv (.ty "object"))(hs:isStarred x=false)(hx:REv c b σ x (.gl cl))(hC:c.D.mg cl=some (.ref C))(hcls:c.D.cls cl=C)(hX:∀h,Wd c h->Kf.In h)(Nw:iY c Kf C fN) :
  REff c b σ (.Call (.Attribute (.Name "object" np) "__new__" p) [x] [] q) (.obj σ.cs.length) ⟨σ.lv,σ.cs++[.inst cl []]⟩:=⟨rfl,λN E=>by
 have ha:REvs c b σ [x] [.gl cl]:=R.cons hs hx R.nil;refine dB rfl ha.1 (by decide:1<20) hline ((R.name hg hl hno:REv c b σ (.Name "object" np) (.ty "object")).then N.now λP1 s1 a1 xa ia pl=>?_)
 obtain rfl:=ia.ty_inv;have X:=hX _ a1.st.wd;refine Dq (X:=X) (bO (bM ha.1 _) ?_);have a2:=a1.trans (Aft.toks a1.st (s1.toks+1));refine ha.then (N.go a2).now λP3 s3 a3 ys is=>⟨dX,?_⟩;obtain⟨_,rfl,h1⟩:=is.one;cases hC.symm.trans h1.gl_inv;have Y:=((N.go a2).go a3).Y;obtain⟨γ',P',g',Y',f',i'⟩:=Y.newInst hcls;have X3:=hX _ a3.st.wd;exact wpAny_call (Dz (h:=s3.heap) (G:=s3.gens) (d:=s3.drawn) (t:=s3.toks) (os:=s3.os) X3 Nw (by
  show ∃γ' P',_;exact⟨γ',P',g',Y',i'⟩))⟩
theorem Act.adopt(Y:Act c fr γ' P0 s0 P s ds)(hg:γ.Le γ')(hlen:γ.k<=ds.length)(hb:(ds.take γ.k).all (aD γ.k)=true){j:Nat}(hj:ds[j]?=some (.inst cl []))(hlt:γ.k<=j){v:Value}(iv:Is c.D γ' P v (.obj j)) :
  ∃γ2,γ.Le γ2/\Act c fr γ2 P0 s0 P s (ds.take γ.k++[.inst cl []])/\Is c.D γ2 P v (.obj γ.k):=by
 have hjk:j<γ'.k:=by rw[Y.st.real.k];exact(Ld.mp hj).1
 have Y1:=Y.cut hg hlen hb;obtain⟨h0,es,ep,h1,h2,h3,h4,h5⟩:=Y.st.real.cell j _ hj;have hn:P (γ'.ρ j)=none:=Y.st.real.off j _ hj (by intro q;cases q)
 have hi:∀i,i<γ.k->γ.ρ i≠γ'.ρ j:=λi hi q=>by
  rw[<-hg.ρ i hi] at q;have:=Y.st.real.inj i j (Lk hi hg.k) hjk q;omega
 have hz:es.size=0:=h5;obtain rfl:es = #[]:=Su hz;refine⟨γ.more (γ'.ρ j) cl,γ.more_le _ _,⟨⟨Y1.since.gr,Y1.since.ext,⟨Y1.st.real.more hn hi ⟨γ.more_kc _ _,#[],ep,by rw[γ.more_ρ];exact h1,h2,(λx v h=>by cases h),h4,rfl⟩,Y1.st.wd,Y1.st.frs⟩⟩,λi h=>?_,Y.kb⟩,?_⟩
 ·by_cases q:i<γ.k
  ·rw[(γ.more_le _ _).ρ i q];exact Y1.base i q
  ·have h:i<γ.k+1:=h
   obtain rfl:i=γ.k:=by omega
   rw[γ.more_ρ];exact Y.base j hjk
 ·obtain⟨x,rfl,_,hx⟩:=iv.obj_inv
  refine .obj (Mv _) ?_;rw[γ.more_kc,γ.more_ρ,<-h0];exact hx
end
end
section
def oZ(c:Cx)(C:Addr)(fd:FuncData):Prop:=∀(A:Around) (E:Value->Shared->Prop) (s:Shared) (v:Value) (Q:List (Str × Value)->Shared->Prop),
 Q [("cls",.ref C),("args",.ref s.heap.objs.size),("kwargs",.ref (s.heap.objs.size+1))] {s with heap:=(s.heap.push (aQ #[v] 0)).push emptyDict}->wpAny c.M A (bindArgs fd ⟨[.ref C,v],[]⟩) Q E s
section
variable{c:Cx}{g:Glb}{A:Around}{fr:List Env}{γ γ':Gh}{P0 P:Frz}{s0 s:Shared}{cs ds:List Cell}{E:Value->Shared->Prop}{b:Nat}{σ τ:Sg}{Kf:Frag}{C fN:Addr}{cl:Str}
theorem Ju(hB:Wd c c.hb)(hA:Am0 c A fr (b+1))(Y:Act c fr γ P0 s0 P s cs){fd:FuncData}{F:Fn}(D:ak c fN fd F)(n1:aget "cls" F.names=some .local)(n2:aget "args" F.names=some .local)(n3:aget "kwargs" F.names=some .local)(ho:ao F.names=[])(hcf:∀n,cellsFrom n F.names []=[])
  (hC:c.D.mg cl=some (.ref C)) (hbd:oZ c C fd) {v:Value} {r:V} (hr:RXs c b ⟨[⟨F.names,cs.length,[]⟩],cs++[.vars [("cls",.gl cl)]]⟩ F.body (.ret r) τ) :
  wpAny c.M A (call (.ref fN) [.ref C,v] []) (λv s'=>∃γ' P',γ.Le γ'/\Act c fr γ' P0 s0 P' s' τ.cs/\Is c.D γ' P' v r) E s:=by
 obtain⟨ob,hK,hdat⟩:=D.obj;have hob:=Y.st.wd.kp _ _ hK;have hroom:A.depth<recursionLimit:=by have:=hA.depth;omega
 have e0:aL F cs=⟨[⟨F.names,cs.length,[]⟩],cs++[.vars []]⟩:=by unfold aL;rw[ho,hcf]
 have Y2:=(Y.push (aQ #[v] 0) s.toks).push emptyDict s.toks;refine wpAny_call ?_;refine codeAny_call_function hroom hob hdat D.ok.co D.ok.gen D.body (Y.st.wd.bk.codeRec D.code) (hbd _ _ s v _ ?_);refine vA (σ:=⟨[⟨F.names,cs.length,[]⟩],cs++[.vars [("cls",.gl cl)]]⟩) hA Y2 D.ok (by rw[e0]) (λenv γ1 s1 EV g1 Y3 Q hq=>?_) (λN e1 e2 g e3 e4 e5=>⟨N.Y.st.wd.nl,codeAny_func ?_⟩)
 ·rw[hcf] at EV
  rw[e0] at Y3;have ec:(cs++[Cell.vars []])[cs.length]?=some (.vars []):=by simp
  have ec':(cs++[Cell.vars [("cls",V.gl cl)]])[cs.length]?=some (.vars [("cls",V.gl cl)]):=by simp
  have e1:(cs++[Cell.vars []]).set cs.length (.vars (aput "cls" (.gl cl) []))=cs++[.vars [("cls",.gl cl)]]:=by simp[j7]
  have e2:(cs++[Cell.vars [("cls",V.gl cl)]]).set cs.length (.vars [("cls",.gl cl)])=cs++[.vars [("cls",.gl cl)]]:=by simp
  rw[NK];have hsv:Sv "cls" (.gl cl) ⟨[⟨F.names,cs.length,[]⟩],cs++[.vars []]⟩ ⟨[⟨F.names,cs.length,[]⟩],(cs++[Cell.vars []]).set cs.length (Cell.vars (aput "cls" (.gl cl) []))⟩:=Sv.loc n1 ec;rw[e1] at hsv;refine wpAny_bind (wpAny_bind (Act.set (σ:=⟨[⟨F.names,cs.length,[]⟩],cs++[.vars []]⟩) hB Y3 rfl EV (.gl hC) hsv λs2 Y4 _ _=>wpAny_pure ?_));dsimp only;rw[NK];refine wpAny_bind (wpAny_bind (lQ hB Y4 EV n2 ec' (oN (Eq.refl false) wG) λs3 Y5 _ _=>wpAny_pure ?_));have Y5:Act c (env::fr) γ1 P0 s0 P s3 (cs++[.vars [("cls",.gl cl)]]):=by rw[<-e2];exact Y5
  dsimp only;rw[NK];refine wpAny_bind (wpAny_bind (lQ hB Y5 EV n3 ec' (oN (Eq.refl false) wG) λs4 Y6 _ _=>wpAny_pure ?_));have Y6:Act c (env::fr) γ1 P0 s0 P s4 (cs++[.vars [("cls",.gl cl)]]):=by rw[<-e2];exact Y6
  dsimp only;rw[Oi];exact wpAny_pure (hq s4 Y6)
 ·rw[<-e2]
  refine wpAny_mono (hr.2 N) (λfl' s3 q_=>Exists.p5 q_ λγ3 P3 g3 Y3 f3=>?_) λx s3 q=>?_
  ·have Y3:=Y3.tail
   rw[e1,e3,e4] at Y3;cases f3 with | ret i=>exact⟨γ3,P3,g.trans g3,Y3,i⟩
  ·obtain⟨_,_,k,_,q,_⟩:=q
   cases q
theorem Jf(hB:Wd c c.hb){fI:Addr}{cd:ClassData}(K:ClsAt c cl Kf C cd){Kn:Frag}(hX:∀h,Wd c h->Kn.In h)(Nw:iY c Kn C fN)(hx:c.D.mg cl=some (.ref C)){fdN:FuncData}{FN:Fn}(DN:ak c fN fdN FN)(hbN:oZ c C fdN)(n1:aget "cls" FN.names=some .local)(n2:aget "args" FN.names=some .local)(n3:aget "kwargs" FN.names=some .local)(ho:ao FN.names=[])(hcf:∀n,cellsFrom n FN.names []=[])
  (hN:RXs c b ⟨[⟨FN.names,cs.length,[]⟩],cs++[.vars [("cls",.gl cl)]]⟩ FN.body (.ret (.obj (cs.length+1))) ⟨[⟨FN.names,cs.length,[]⟩],cs++[.vars [("cls",.gl cl)]]++[.inst cl []]⟩)
  (hi:findIn Kf (.ref C) "__init__"=some (some (.ref fI))) (hf:typeIn Kf (.ref fI)=some (.type "function")) {fd:FuncData} {F:Fn} (D:ak c fI fd F) {a1:V} {ds:List V} (hcs:cs.all (aD cs.length)=true)
  (hb:∀(s:Shared) (γ:Gh) (P:Frz) (x:Value) (vs:List Value),Wd c s.heap->IsL c.D γ P vs [a1]->∃ws,BindsTo s fd ⟨x::vs,[]⟩ (F.pars.zip (x::ws))/\IsL c.D γ P ws ds)
  (hst:Svs (F.pars.zip (.obj cs.length::ds)) (aL F (cs++[.inst cl []])) σ) (hr:RXs c b σ F.body .next τ):CmOk c (b+2) cl cs [a1] [] (.obj cs.length) τ.cs:=by
 refine⟨_,hx,λlv N vs ks E hv hk=>?_⟩;cases hk;obtain⟨v0,hv0,_⟩:=hv.one;subst hv0;have X:=hX _ N.Y.st.wd;obtain⟨⟨oc,od,cd',sl,hC,e1,e2,e4⟩,made,base,madeO,subO,self,top,call,typ,reads,p,rest,fc,hp⟩:=id Nw;have hC':=X _ _ hC;have call:Looks c.M N.s.heap (specialOf (.ref C) "__call__") (some (.builtin "type.__call__")):=PySem.W.looks_specialIn X call;have typ:Looks c.M N.s.heap (isInstance (.ref C) (.type "type")) true:=PySem.W.looks_instIn X typ;have made:Looks c.M N.s.heap (Bind.madeBy (.ref C)) none:=.of_peek X made;have hm:Looks c.M N.s.heap (mroOf (.ref C)) cd'.mro:=((Looks.ld (part:=none) hC').andThen .now).andThen .now;refine⟨⟨.machine,λQ hq=>?_⟩,?_⟩
 ·show wpAny c.M N.A _ _ _ _
  unfold keeperOf;refine wpAny_bind (wpAny_load hC' ?_);dsimp only;refine wpAny_bind (call.here ?_);exact wpAny_pure hq
 refine wpAny_call ?_;refine codeAny_of_tree ?_;show wpAny _ _ (callAny (.ref C) _) _ _ _;unfold callAny;refine wpAny_bind (wpAny_load hC' ?_);dsimp only;unfold callAny.viaDunder;refine wpAny_bind (call.here ?_);dsimp only;rw[tc_bind];refine wpAny_bind (wpAny_pure (wpAny_bind (wpAny_pure ?_)));refine wpAny_pure (a:=Fin.again (.call (.builtin "type.__call__") ⟨[.ref C,v0],[]⟩)) (And.intro rfl ?_);refine codeAny_call_builtin_at (Code.quiet_builtin _ (by decide +kernel)) entry_typeCall (PySem.W.check_slot tc_kind tc_split typ (PySem.W.tc_args _ _ _) ?_)
 unfold Builtin.«type.__call__»
 iterate 6 (first | refine o6 e4 ?_ | refine je ?_ | lk)
 dsimp only;have hk:N.γ.k=cs.length:=N.Y.st.real.k;have hA:Am0 c (N.A.under (.builtin "type.__call__" ⟨[.ref C,v0],[]⟩)) (N.env::N.rest) (b+1):=by
  refine⟨N.hA.handled,?_,?_,?_,N.hA.tree⟩
  ·show N.A.depth+1+(b+1)+150<_
   have:=N.hA.depth;omega
  ·show N.A.units+1+20*(b+1)+200<_
   have:=N.hA.units;omega
  ·exact N.hA.frames
 have Y1:=N.Y.aft (Aft.toks N.Y.st (N.s.toks+1));refine wpAny_bind (PySem.W.cls_bind X reads fc (wpAny_call (PySem.W.sm_get (s:={N.s with toks:=N.s.toks+1}) X hp (PySem.W.handed_on rfl ?_))))
 refine wpAny_bind (wpAny_holding (wpAny_mono (Ju (s:={N.s with toks:=N.s.toks+1}) hB hA Y1.rebase DN n1 n2 n3 ho hcf hx hbN (v:=v0) hN) (λobj s2 q_=>Exists.p5 q_ λγ1 P1 g1 Y2 i2=>?_) λ_ _ q=>q))
 have ht:(cs++[Cell.vars [("cls",V.gl cl)]]++[Cell.inst cl []]).take N.γ.k=cs:=by rw[hk,Lj];exact PP ..
 obtain⟨γ2,g2,Y3,i3⟩:=Y2.adopt (γ:=N.γ) (cl:=cl) (j:=cs.length+1) g1 (by rw[hk];simp) (by rw[ht,hk];exact hcs) (by rw[Lj];simp) (by omega) i2
 rw[ht] at Y3;rw[hk] at i3;obtain⟨ws,hbd,hws⟩:=hb s2 γ2 P1 obj [v0] Y3.st.wd ((hv.gm g2).mono Y2.since.gr.le);obtain⟨xa,rfl,_,hxo⟩:=id i3.obj_inv;have X2:Kf.In s2.heap:=K.frag Y3.st.wd;obtain⟨es,ep,hin,_,_⟩:=fB Y3.st (by simp:(cs++[Cell.inst cl []])[cs.length]?=some (.inst cl [])) hxo
 have I:=fu K hin;have ii:Looks c.M s2.heap (isInstance (.ref xa) (.ref C)) true:=I.type.andThen (PySem.W.looks_subIn (hX _ Y3.st.wd) self);refine wpAny_bind (ii.here ?_);refine je (wpAny_bind (wpAny_holding (PySem.W.special_fn X2 I hi hf ?_)));refine wpAny_mono (v8 (args:=⟨[.ref xa,v0],[]⟩) hB hA Y3.rebase D hbd (.cons i3 hws) hst hr (.inr ⟨rfl,rfl⟩)) (λv s3 q_=>Exists.p5 q_ λγ3 P3 g3 Y4 iv=>?_) λ_ _ q=>q;obtain rfl:=iv.none_inv;exact wpAny_pure ⟨γ3,P3,g2.trans g3,(Y4.under Y3.since.gr).under Y1.since.gr,(i3.gmono g3).mono Y4.since.gr.le⟩
end
end
section
structure fV(c:Cx)(x:Str)(a:Addr):Prop where
 mg:c.D.mg x=some (.ref a)
 ob:∃o,c.K a=some o/\o.cls=.type "type"
theorem z9{M:Model}{A:Around}{E:Value->Shared->Prop}{s:Shared}{a d:Addr}{o o':Obj}{Q:Bool->Shared->Prop}(hne:(a==d)=false)(h1:s.heap.get? a=some o)(h2:s.heap.get? d=some o')(h3:o.cls=.type "type")(hq:Q false s):wpAny M A (isSame (.ref a) (.ref d)) Q E s:=by
 unfold isSame;dsimp only;rw[hne,if_neg NT];refine wpAny_bind (wpAny_load h1 (wpAny_bind (wpAny_load h2 ?_)));rw[h3];exact wpAny_pure hq
theorem same_self{M:Model}{A:Around}{E:Value->Shared->Prop}{s:Shared}{a:Addr}{Q:Bool->Shared->Prop}(hq:Q true s):wpAny M A (isSame (.ref a) (.ref a)) Q E s:=by
 unfold isSame;dsimp only;rw[if_pos (beq_self_eq_true a)];exact wpAny_pure hq
section
variable{c:Cx}{b:Nat}{σ:Sg}{x y:Str}{a d:Addr}
theorem Cp.isNotG(hx:fV c x a)(hy:fV c y d)(hne:(a==d)=false):Cp c b σ .IsNot (.gl x) (.gl y) true:=λN u v E hu hv=>by
 cases hx.mg.symm.trans hu.gl_inv;cases hy.mg.symm.trans hv.gl_inv;obtain⟨o,k1,e1⟩:=hx.ob;obtain⟨o',k2,_⟩:=hy.ob;show wpAny c.M N.A (do return Value.bool (!(<- isSame _ _))) _ _ _
 exact wpAny_bind (z9 hne (N.S.wd.kp _ _ k1) (N.S.wd.kp _ _ k2) e1 (wpAny_pure (N.bool _)))
theorem Cp.isNotS(hx:fV c x a):Cp c b σ .IsNot (.gl x) (.gl x) false:=λN u v E hu hv=>by
 cases hx.mg.symm.trans hu.gl_inv;cases hx.mg.symm.trans hv.gl_inv;show wpAny c.M N.A (do return Value.bool (!(<- isSame _ _))) _ _ _
 exact wpAny_bind (same_self (wpAny_pure (N.bool _)))
end
local macro_rules (kind:=PySem.W.tacticWtm_at_) | x=>bj x "m.x" "R.xE A r"
local macro_rules (kind:=PySem.W.tacticWtm_at_) | x=>bj x "m.cp" "A"
section
variable{c:Cx}{b:Nat}(hB:Wd c c.hb)(hg:aj c G)
include hB hg
omit hB in
set_option maxHeartbeats 800000 in
theorem Dy{Kf:Frag}{C fN aB:Addr}{c0 c1 c2:Cell}(hS:fV c "StringIO" C)(hY:fV c "BytesIO" aB)(hne:(C==aB)=false)(hcls:c.D.cls "StringIO"=C)(hX:∀h,Wd c h->Kf.In h)(Nw:iY c Kf C fN) :
  RXs c b ⟨[⟨dK.names,3,[]⟩],[c0,c1,c2,.vars [("cls",.gl "StringIO")]]⟩ dK.body (.ret (.obj 4)) ⟨[⟨dK.names,3,[]⟩],[c0,c1,c2,.vars [("cls",.gl "StringIO")],.inst "StringIO" []]⟩:=by
 have q1:Cp c b ⟨[⟨dK.names,3,[]⟩],[c0,c1,c2,.vars [("cls",.gl "StringIO")]]⟩ .IsNot (.gl "StringIO") (.gl "BytesIO") true:=Cp.isNotG hS hY hne;have q2:Cp c b ⟨[⟨dK.names,3,[]⟩],[c0,c1,c2,.vars [("cls",.gl "StringIO")]]⟩ .IsNot (.gl "StringIO") (.gl "StringIO") false:=Cp.isNotS hS;have hx:RX c b ⟨[⟨dK.names,3,[]⟩],[c0,c1,c2,.vars [("cls",.gl "StringIO")]]⟩ (nthS dK.body 1) (.ret (.obj 4)) ⟨[⟨dK.names,3,[]⟩],[c0,c1,c2,.vars [("cls",.gl "StringIO")],.inst "StringIO" []]⟩:=by
  show RX c b _ (.Return (some (.Call (.Attribute (.Name "object" _) "__new__" _) [.Name "cls" _] [] _)) _) _ _;exact R.retE (R.objNew hg rfl rfl (.bis (by rfl') (by rfl') G7) rfl (R.name hg rfl (.loc (by rfl') rfl iT)) hS.mg hcls hX Nw)
 wtm_at "m.xs"
end
end
section
noncomputable def jZ(o:Option Obj):Option (Array DictEntry × Nat):=match o with
 | some o=>(match o.data with
  | .dict es n=>some (es,n)
  | _=>none)
 | none=>none
theorem vD{o:Option Obj}{x:Array DictEntry × Nat}(h:jZ o=some x):∃ob,o=some ob/\ob.data=.dict x.1 x.2:=by
 cases o with
 | none=>cases h
 | some ob =>
  obtain⟨cl,di,da,sl⟩:=ob;cases da with
  | dict es n=>cases h;exact⟨_,rfl,rfl⟩
  | _=>cases h
noncomputable def esG(w:World):Array DictEntry:=((jZ ((Kc w).lookup 3)).getD (#[],0)).1
noncomputable def mgc(w:World)(x:Str):Option Value:=nsFind (esG w) x
noncomputable def clsF(x:Str):Addr:=if x="shlex" then 732 else 597
noncomputable def cdF(n:List (Str × NameKind)):Option Addr:=if n=dM.names then some 750 else if n=dG.names then some 797 else if n=dN.names then some 814 else none
noncomputable abbrev cx(w:World)(h:Heap)(mb:Str->Option Value):Cx:=⟨pw,w,⟨mgc w,clsF⟩,h,mb,λa=>(Kc w).lookup a,cdF⟩
def YPw(w:World)(h:Heap):Prop:=∀a o,(Vc w).lookup a=some o->h.get? a=some o
theorem il{l:Frag}{x:Addr × Obj}{a:Addr}(h:(a==x.1)=false):Oe a (x::l)=Oe a l:=by
 obtain⟨x,y⟩:=x;show(match a==x with | true=>some y | false=>Oe a l)=_
 rw[h]
theorem mem_lookup{l:Frag}{a:Addr}{o:Obj}(ho:l.lookup a=some o):(a,o)∈l:=by
 induction l with
 | nil=>cases ho
 | cons x l ih =>
  obtain⟨x,y⟩:=x;have ho:(match a==x with | true=>some y | false=>Oe a l)=some o:=ho
  cases q:a==x with
  | true=>rw[q] at ho;cases ho;rw[beq_iff_eq.mp q];exact .head _
  | false=>rw[q] at ho;exact .tail _ (ih ho)
theorem ypw(w:World)(s:Shared)(e:Yf s=Ya w):YPw w s.heap:=by
 have hk:vAdr=(Vc w).map Prod.fst:=by rfl'
 unfold Yf Ya at e;rw[hk] at e;intro a o ho;have:=mem_lookup ho;generalize Vc w=l at e this;rw[Lq] at e;have:=RG.mp e (a,o) this;exact(Prod.mk.inj this).2
theorem Eo{w:World}{a:Addr}{o:Obj}(h:(Kc w).lookup a=some o)(h1:(a==2)=false)(h2:(a==746)=false)(h3:(a==793)=false)(h4:(a==810)=false):(Vc w).lookup a=some o:=by
 unfold Vc;rw[il h1,il h2,il h3,il h4];exact h
theorem notK(w:World):(Kc w).lookup 2=none/\(Kc w).lookup 746=none/\(Kc w).lookup 793=none/\(Kc w).lookup 810=none:=⟨by rfl',by rfl',by rfl',by rfl'⟩
theorem ypK{w:World}{h:Heap}(Y:YPw w h){a:Addr}{o:Obj}(e:(Kc w).lookup a=some o):h.get? a=some o:=by
 obtain⟨n1,n2,n3,n4⟩:=notK w;have ne:∀b,(Kc w).lookup b=none->(a==b)=false:=λb hb=>by
  cases q:a==b with
  | false=>rfl
  | true=>rw[beq_iff_eq.mp q,hb] at e;cases e
 exact Y a o (Eo e (ne 2 n1) (ne 746 n2) (ne 793 n3) (ne 810 n4))
noncomputable def mR(o:Obj):Bool:=match o.cls with
 | .none=>false
 | .type t => !(t=="frame")
 | _=>true
theorem Dp{o:Obj}(h:mR o=true):o.cls≠.type "frame"/\o.cls≠.none:=by
 unfold mR at h;constructor <;> intro q <;> rw[q] at h <;> revert h <;> decide
noncomputable def jQ:Value->Bool
 | .builtin i=>(withoutEnding? i "#data").isNone
 | _=>true
noncomputable def bv(v:V):Option Value × Bool:=match v with
 | .ty n=>(some (.type n),true)
 | .bi n=>(some (.builtin n),jQ (.builtin n))
 | _=>(none,false)
theorem Jy{v:V}{r:Option Value}(h:bv v=(r,true)):∃y,r=some y/\((∃n,y=.type n/\v=.ty n)∨∃n,y=.builtin n/\v=.bi n/\jQ (.builtin n)=true):=by
 cases v with
 | ty n=>obtain⟨rfl,_⟩:=Prod.mk.inj (show(some (Value.type n),true)=(r,true) from h);exact⟨_,rfl,.inl ⟨_,rfl,rfl⟩⟩
 | bi n=>obtain⟨rfl,q⟩:=Prod.mk.inj (show(some (Value.builtin n),jQ (.builtin n))=(r,true) from h);exact⟨_,rfl,.inr ⟨_,rfl,rfl,q⟩⟩
 | _=>exact zn3 (Prod.mk.inj (show((none:Option Value),false)=(r,true) from h)).2
section
variable{w:World}{h:Heap}{mb:Str->Option Value}
theorem wZ{p:Program}{loose:List Str}{mean:ExcName->Option Value}{mg:Str->Option Value}(T:Top p loose mean mg mb h)(hi:importsNone p=true)(Y:YPw w h):mg=mgc w/\Wd (cx w h mb) h:=by
 obtain⟨o,es,ep,e1,e2,e3,e4⟩:=T.g;have k3:(jZ ((Kc w).lookup 3)).isSome=true:=by rfl'
 obtain⟨x,hx⟩:=Pz.mp k3;obtain⟨o',k1,k2⟩:=vD hx;have k2:o'.data=.dict (esG w) x.2:=by unfold esG;rw[hx];exact k2
 cases (ypK Y k1).symm.trans e1;rw[k2] at e2;cases e2;have hm:mg=mgc w:=funext λx=>(e4 x).symm;subst hm;refine⟨rfl,T.g,T.b,T.nolimit,T.seer hi,λa o e=>ypK Y e,λa o e=>Dp ?_,.refl _,λx v e=>?_⟩
 ·have:(Kc w).all (λx=>mR x.2)=true:=by rfl'
  exact La.mp this _ (mem_lookup e)
 ·have k:(esG w).toList.all (λx=>jQ x.val)=true:=by rfl'
  have e:nsFind (esG w) x=some v:=e;unfold nsFind findBy at e;obtain⟨y,hy,rfl⟩:=M8.mp e;have:=La.mp k y (by simpa using Array.mem_of_find?_eq_some hy)
  exact this
theorem GF{p:Program}{loose:List Str}{mean:ExcName->Option Value}{mg:Str->Option Value}(T:Top p loose mean mg mb h):aj (cx w h mb) G:=by
 refine⟨λx hx=>?_,λx v hx hv=>?_⟩
 ·have k:G.own.all (λx=>(mgc w x).isSome)=true:=by rfl'
  exact Pz.mp (La.mp k x (by simpa using hx))
 ·have k:G.bis.all (λx=>(mgc w x.1).isNone && !(x.1=="__name__"))=true:=by rfl'
  have k2:G.bis.map (λx=>bv x.2)=G.bis.map λx=>(bootBuiltins x.1,true):=by rfl'
  have m:=dD hv;obtain⟨a,c⟩:=Px.mp (La.mp k (x,v) m);have b:=RG.mp k2 (x,v) m;refine⟨Option.isNone_iff_eq_none.mp a,?_⟩;have c:(!(x=="__name__"))=true:=c;have hne:x≠"__name__":=λq=>by rw[q] at c;exact absurd c (by decide +kernel)
  obtain⟨y,e1,e2⟩:=Jy b;exact⟨y,(T.builtins x hne).trans e1,e2⟩
end
end
section
noncomputable def rN:Stmt->Bool
 | .FunctionDef _ _ _ _ _ _ sc _ _ _=>(sc.kind == .function) && !sc.isCoroutine && !sc.isGenerator&&sc.names.all plainName
 | _=>false
noncomputable def oF(o:Option Obj)(q:Str):Bool:=match o with
 | some o=>(match o.data with
  | .fields vs=>(match (vs.toList[1]?:Option Value) with | some (.str q' _)=>decide (q'=q) | _=>false)
  | _=>false)
 | none=>false
noncomputable def cdOk(n:List (Str × NameKind))(code:Addr):Bool:=match cdF n with
 | some a=>a==code
 | none=>true
theorem codeRec_of{K:Frag}{h:Heap}{code:Addr}{q:Str}(hk:∀o,K.lookup code=some o->h.get? code=some o)(e:oF (K.lookup code) q=true):h.CodeRec (.ref code) q:=by
 cases ho:K.lookup code with
 | none=>rw[ho] at e;cases e
 | some o =>
  rw[ho] at e;have hh:=hk o ho;obtain⟨cl,di,da,sl⟩:=o;cases da with
  | fields vs =>
   unfold oF at e;dsimp only at e;cases hv:(vs.toList[1]?:Option Value) with
   | none=>rw[hv] at e;cases e
   | some x =>
    rw[hv] at e;cases x with
    | str q' t=>exact⟨code,_,vs,t,rfl,hh,rfl,by rw[<-Array.getElem?_toList,hv,of_decide_eq_true e]⟩
    | _=>cases e
  | _=>cases e
section
variable{w:World}{h:Heap}{mb:Str->Option Value}
theorem aH(W:Wd (cx w h mb) h){a code:Addr}{st:Stmt}{q:Str}{d pm:Value}(hK:(Kc w).lookup a=some (aG (fdOf st q d pm code)))(hs:rN st=true)(hc:oF ((Kc w).lookup code) q=true)(hcd:cdOk (lH st).names code=true) :
  ak (cx w h mb) a (fdOf st q d pm code) (fnOf st):=by
 cases st with
 | FunctionDef n ar bd x1 x2 x3 sc x4 x5 x6 =>
  unfold rN at hs;simp only[Lx,Oj,beq_iff_eq] at hs;obtain⟨⟨⟨s1,s2⟩,s3⟩,s4⟩:=hs;refine⟨⟨_,hK,rfl⟩,codeRec_of (λo e=>W.kp code o e) hc,rfl,⟨rfl,s1,rfl,rfl,rfl,s4,λa e=>?_,s2,s3⟩⟩;unfold cdOk at hcd;have e:cdF (lH (.FunctionDef n ar bd x1 x2 x3 sc x4 x5 x6)).names=some a:=e;rw[e] at hcd;show Value.ref code=Value.ref a;rw[beq_iff_eq.mp hcd]
 | _=>cases hs
noncomputable abbrev F_pc:Fn:=F_m 22 1
noncomputable abbrev uU:FuncData:=fdOf (nthS pgm.main.body 27) "quote" (.none) (.str "cpy313.shlex" 1087) 758
theorem Im(W:Wd (cx w h mb) h):ak (cx w h mb) 759 uU fP:=aH W (by rfl') (by rfl') (by rfl') (by rfl')
theorem JT(s:Shared)(v0:Value):BindsTo s uU ⟨[v0],[]⟩ (fP.pars.zip [v0]):=.of_eq (by rfl')
noncomputable abbrev vd:FuncData:=fdOf (nthS pgm.main.body 6) "_index" (.none) (.str "io" 371) 62
theorem IW(W:Wd (cx w h mb) h):ak (cx w h mb) 63 vd kW:=aH W (by rfl') (by rfl') (by rfl') (by rfl')
theorem J4(s:Shared)(v0 v1:Value):BindsTo s vd ⟨[v0,v1],[]⟩ (kW.pars.zip [v0,v1]):=.of_eq (by rfl')
noncomputable abbrev uH:FuncData:=fdOf (nthS pgm.main.body 23) "split" (.ref 737) (.str "cpy313.shlex" 1087) 743
theorem H8(W:Wd (cx w h mb) h):ak (cx w h mb) 744 uH cW:=aH W (by rfl') (by rfl') (by rfl') (by rfl')
noncomputable abbrev u6:FuncData:=fdOf (nthS pgm.main.body 24) "join" (.none) (.str "cpy313.shlex" 1087) 750
theorem IK(W:Wd (cx w h mb) h):ak (cx w h mb) 751 u6 dM:=aH W (by rfl') (by rfl') (by rfl') (by rfl')
theorem J2(s:Shared)(v0:Value):BindsTo s u6 ⟨[v0],[]⟩ (dM.pars.zip [v0]):=.of_eq (by rfl')
noncomputable abbrev uF:FuncData:=fdOf (nthS pgm.main.body 30) "unmatched" (.none) (.str "cpy313.http.cookiejar" 1255) 770
theorem H6(W:Wd (cx w h mb) h):ak (cx w h mb) 771 uF jc:=aH W (by rfl') (by rfl') (by rfl') (by rfl')
theorem JC(s:Shared)(v0:Value):BindsTo s uF ⟨[v0],[]⟩ (jc.pars.zip [v0]):=.of_eq (by rfl')
noncomputable abbrev uK:FuncData:=fdOf (nthS pgm.main.body 35) "split_header_words" (.none) (.str "cpy313.http.cookiejar" 1255) 797
theorem Ib(W:Wd (cx w h mb) h):ak (cx w h mb) 798 uK dG:=aH W (by rfl') (by rfl') (by rfl') (by rfl')
theorem JK(s:Shared)(v0:Value):BindsTo s uK ⟨[v0],[]⟩ (dG.pars.zip [v0]):=.of_eq (by rfl')
noncomputable abbrev u9:FuncData:=fdOf (nthS pgm.main.body 38) "join_header_words" (.none) (.str "cpy313.http.cookiejar" 1255) 814
theorem IV(W:Wd (cx w h mb) h):ak (cx w h mb) 815 u9 dN:=aH W (by rfl') (by rfl') (by rfl') (by rfl')
theorem J3(s:Shared)(v0:Value):BindsTo s u9 ⟨[v0],[]⟩ (dN.pars.zip [v0]):=.of_eq (by rfl')
noncomputable abbrev uJ:FuncData:=fdOf (nthS pgm.main.body 40) "sorted_list_difference" (.none) (.str "cpy313.unittest.util" 1583) 821
theorem Ia(W:Wd (cx w h mb) h):ak (cx w h mb) 822 uJ eH:=aH W (by rfl') (by rfl') (by rfl') (by rfl')
theorem JH(s:Shared)(v0 v1:Value):BindsTo s uJ ⟨[v0,v1],[]⟩ (eH.pars.zip [v0,v1]):=.of_eq (by rfl')
noncomputable abbrev uG:FuncData:=fdOf (nthS pgm.main.body 41) "unorderable_list_difference" (.none) (.str "cpy313.unittest.util" 1583) 828
theorem H7(W:Wd (cx w h mb) h):ak (cx w h mb) 829 uG eG:=aH W (by rfl') (by rfl') (by rfl') (by rfl')
theorem JD(s:Shared)(v0 v1:Value):BindsTo s uG ⟨[v0,v1],[]⟩ (eG.pars.zip [v0,v1]):=.of_eq (by rfl')
noncomputable abbrev u5:FuncData:=fdOf (nthS pgm.main.body 43) "_law_kids" (.none) (.str "law_om0176_01" 1609) 833
theorem Iz(W:Wd (cx w h mb) h):ak (cx w h mb) 834 u5 b8:=aH W (by rfl') (by rfl') (by rfl') (by rfl')
theorem J1(s:Shared)(v0:Value):BindsTo s u5 ⟨[v0],[]⟩ (b8.pars.zip [v0]):=.of_eq (by rfl')
noncomputable abbrev vh:FuncData:=fdOf (nthS pgm.main.body 44) "_law_depths" (.none) (.str "law_om0176_01" 1609) 840
theorem I6(W:Wd (cx w h mb) h):ak (cx w h mb) 841 vh cg:=aH W (by rfl') (by rfl') (by rfl') (by rfl')
theorem J7(s:Shared)(v0:Value):BindsTo s vh ⟨[v0],[]⟩ (cg.pars.zip [v0]):=.of_eq (by rfl')
noncomputable abbrev uP:FuncData:=fdOf (nthS pgm.main.body 45) "_law_rows" (.none) (.str "law_om0176_01" 1609) 847
theorem vM(W:Wd (cx w h mb) h):ak (cx w h mb) 848 uP aW:=aH W (by rfl') (by rfl') (by rfl') (by rfl')
theorem wz(s:Shared)(v0:Value):BindsTo s uP ⟨[v0],[]⟩ (aW.pars.zip [v0]):=.of_eq (by rfl')
noncomputable abbrev uD:FuncData:=fdOf (nthS pgm.main.body 46) "_law_written" (.none) (.str "law_om0176_01" 1609) 852
theorem vK(W:Wd (cx w h mb) h):ak (cx w h mb) 853 uD cB:=aH W (by rfl') (by rfl') (by rfl') (by rfl')
theorem wu(s:Shared)(v0 v1 v2:Value):BindsTo s uD ⟨[v0,v1,v2],[]⟩ (cB.pars.zip [v0,v1,v2]):=.of_eq (by rfl')
noncomputable abbrev uL:FuncData:=fdOf (nthS pgm.main.body 47) "_law_sets" (.none) (.str "law_om0176_01" 1609) 857
theorem Ie(W:Wd (cx w h mb) h):ak (cx w h mb) 858 uL eN:=aH W (by rfl') (by rfl') (by rfl') (by rfl')
theorem JL(s:Shared)(v0 v1 v2:Value):BindsTo s uL ⟨[v0,v1,v2],[]⟩ (eN.pars.zip [v0,v1,v2]):=.of_eq (by rfl')
noncomputable abbrev u0:FuncData:=fdOf (nthS pgm.main.body 48) "_law_laid" (.none) (.str "law_om0176_01" 1609) 864
theorem Iw(W:Wd (cx w h mb) h):ak (cx w h mb) 865 u0 cX:=aH W (by rfl') (by rfl') (by rfl') (by rfl')
theorem J0(s:Shared)(v0 v1 v2 v3:Value):BindsTo s u0 ⟨[v0,v1,v2,v3],[]⟩ (cX.pars.zip [v0,v1,v2,v3]):=.of_eq (by rfl')
noncomputable abbrev uE:FuncData:=fdOf (nthS pgm.main.body 49) "_law_ways" (.none) (.str "law_om0176_01" 1609) 871
theorem vL(W:Wd (cx w h mb) h):ak (cx w h mb) 872 uE fK:=aH W (by rfl') (by rfl') (by rfl') (by rfl')
theorem ww(s:Shared)(v0 v1 v2 v3:Value):BindsTo s uE ⟨[v0,v1,v2,v3],[]⟩ (fK.pars.zip [v0,v1,v2,v3]):=.of_eq (by rfl')
noncomputable abbrev uY:FuncData:=fdOf (nthS pgm.main.body 50) "_law_orders" (.none) (.str "law_om0176_01" 1609) 878
theorem Ir(W:Wd (cx w h mb) h):ak (cx w h mb) 879 uY dJ:=aH W (by rfl') (by rfl') (by rfl') (by rfl')
theorem JW(s:Shared)(v0 v1:Value):BindsTo s uY ⟨[v0,v1],[]⟩ (dJ.pars.zip [v0,v1]):=.of_eq (by rfl')
noncomputable abbrev uX:FuncData:=fdOf (nthS pgm.main.body 51) "_law_pair" (.none) (.str "law_om0176_01" 1609) 885
theorem Io(W:Wd (cx w h mb) h):ak (cx w h mb) 886 uX eO:=aH W (by rfl') (by rfl') (by rfl') (by rfl')
theorem JV(s:Shared)(v0 v1 v2:Value):BindsTo s uX ⟨[v0,v1,v2],[]⟩ (eO.pars.zip [v0,v1,v2]):=.of_eq (by rfl')
noncomputable abbrev uR:FuncData:=fdOf (nthS pgm.main.body 52) "_law_read" (.none) (.str "law_om0176_01" 1609) 890
theorem Il(W:Wd (cx w h mb) h):ak (cx w h mb) 891 uR dI:=aH W (by rfl') (by rfl') (by rfl') (by rfl')
theorem JS(s:Shared)(v0 v1:Value):BindsTo s uR ⟨[v0,v1],[]⟩ (dI.pars.zip [v0,v1]):=.of_eq (by rfl')
noncomputable abbrev vg:FuncData:=fdOf (nthS pgm.main.body 53) "_law_fits" (.none) (.str "law_om0176_01" 1609) 897
theorem I5(W:Wd (cx w h mb) h):ak (cx w h mb) 898 vg jd:=aH W (by rfl') (by rfl') (by rfl') (by rfl')
theorem J6(s:Shared)(v0 v1 v2 v3:Value):BindsTo s vg ⟨[v0,v1,v2,v3],[]⟩ (jd.pars.zip [v0,v1,v2,v3]):=.of_eq (by rfl')
noncomputable abbrev uI:FuncData:=fdOf (nthS pgm.main.body 54) "_law_some" (.none) (.str "law_om0176_01" 1609) 904
theorem H9(W:Wd (cx w h mb) h):ak (cx w h mb) 905 uI bh:=aH W (by rfl') (by rfl') (by rfl') (by rfl')
theorem JG(s:Shared)(v0 v1 v2 v3:Value):BindsTo s uI ⟨[v0,v1,v2,v3],[]⟩ (bh.pars.zip [v0,v1,v2,v3]):=.of_eq (by rfl')
noncomputable abbrev uQ:FuncData:=fdOf (nthS pgm.main.body 55) "_law_right" (.none) (.str "law_om0176_01" 1609) 911
theorem Ik(W:Wd (cx w h mb) h):ak (cx w h mb) 912 uQ cM:=aH W (by rfl') (by rfl') (by rfl') (by rfl')
theorem JR(s:Shared)(v0 v1 v2 v3:Value):BindsTo s uQ ⟨[v0,v1,v2,v3],[]⟩ (cM.pars.zip [v0,v1,v2,v3]):=.of_eq (by rfl')
noncomputable abbrev uZ:FuncData:=fdOf (nthS pgm.main.body 56) "law" (.none) (.str "law_om0176_01" 1609) 916
theorem Iv(W:Wd (cx w h mb) h):ak (cx w h mb) 917 uZ fQ:=aH W (by rfl') (by rfl') (by rfl') (by rfl')
theorem JZ(s:Shared)(v0:Value):BindsTo s uZ ⟨[v0],[]⟩ (fQ.pars.zip [v0]):=.of_eq (by rfl')
noncomputable abbrev nQ:FuncData:=fdOf (nthS (aP (nthS pgm.main.body 8)) 1) "IOBase.__new__" (.none) (.str "io" 371) 89
theorem Iu(W:Wd (cx w h mb) h):ak (cx w h mb) 90 nQ dK:=aH W (by rfl') (by rfl') (by rfl') (by rfl')
noncomputable abbrev uO:FuncData:=fdOf (nthS (aP (nthS pgm.main.body 12)) 1) "StringIO.__init__" (.ref 360) (.str "io" 371) 366
theorem Ii(W:Wd (cx w h mb) h):ak (cx w h mb) 367 uO fM:=aH W (by rfl') (by rfl') (by rfl') (by rfl')
noncomputable abbrev uM:FuncData:=fdOf (nthS (aP (nthS pgm.main.body 12)) 2) "StringIO.__translated" (.none) (.str "io" 371) 373
theorem Ig(W:Wd (cx w h mb) h):ak (cx w h mb) 374 uM fL:=aH W (by rfl') (by rfl') (by rfl') (by rfl')
theorem JM(s:Shared)(v0 v1:Value):BindsTo s uM ⟨[v0,v1],[]⟩ (fL.pars.zip [v0,v1]):=.of_eq (by rfl')
noncomputable abbrev nM:FuncData:=fdOf (nthS (aP (nthS pgm.main.body 12)) 3) "StringIO.__check" (.none) (.str "io" 371) 380
theorem Ij(W:Wd (cx w h mb) h):ak (cx w h mb) 381 nM fO:=aH W (by rfl') (by rfl') (by rfl') (by rfl')
theorem JQ(s:Shared)(v0:Value):BindsTo s nM ⟨[v0],[]⟩ (fO.pars.zip [v0]):=.of_eq (by rfl')
noncomputable abbrev uN:FuncData:=fdOf (nthS (aP (nthS pgm.main.body 12)) 25) "StringIO.read" (.ref 536) (.str "io" 371) 542
theorem Ih(W:Wd (cx w h mb) h):ak (cx w h mb) 543 uN dH:=aH W (by rfl') (by rfl') (by rfl') (by rfl')
noncomputable abbrev vf:FuncData:=fdOf (nthS (aP (nthS pgm.main.body 22)) 0) "shlex.__init__" (.ref 649) (.str "cpy313.shlex" 1087) 655
theorem I4(W:Wd (cx w h mb) h):ak (cx w h mb) 656 vf fU:=aH W (by rfl') (by rfl') (by rfl') (by rfl')
noncomputable abbrev uV:FuncData:=fdOf (nthS (aP (nthS pgm.main.body 22)) 1) "shlex.punctuation_chars" (.none) (.str "cpy313.shlex" 1087) 662
theorem d_pc(W:Wd (cx w h mb) h):ak (cx w h mb) 663 uV F_pc:=aH W (by rfl') (by rfl') (by rfl') (by rfl')
theorem b_pc(s:Shared)(v0:Value):BindsTo s uV ⟨[v0],[]⟩ (F_pc.pars.zip [v0]):=.of_eq (by rfl')
noncomputable abbrev nT:FuncData:=fdOf (nthS (aP (nthS pgm.main.body 22)) 5) "shlex.get_token" (.none) (.str "cpy313.shlex" 1087) 692
theorem d_gt(W:Wd (cx w h mb) h):ak (cx w h mb) 693 nT F_gt:=aH W (by rfl') (by rfl') (by rfl') (by rfl')
theorem b_gt(s:Shared)(v0:Value):BindsTo s nT ⟨[v0],[]⟩ (F_gt.pars.zip [v0]):=.of_eq (by rfl')
noncomputable abbrev nO:FuncData:=fdOf (nthS (aP (nthS pgm.main.body 22)) 6) "shlex.read_token" (.none) (.str "cpy313.shlex" 1087) 699
theorem d_rt(W:Wd (cx w h mb) h):ak (cx w h mb) 700 nO F_rt:=aH W (by rfl') (by rfl') (by rfl') (by rfl')
theorem b_rt(s:Shared)(v0:Value):BindsTo s nO ⟨[v0],[]⟩ (F_rt.pars.zip [v0]):=.of_eq (by rfl')
noncomputable abbrev nR:FuncData:=fdOf (nthS (aP (nthS pgm.main.body 22)) 9) "shlex.__iter__" (.none) (.str "cpy313.shlex" 1087) 721
theorem d_it(W:Wd (cx w h mb) h):ak (cx w h mb) 722 nR F_it:=aH W (by rfl') (by rfl') (by rfl') (by rfl')
theorem b_it(s:Shared)(v0:Value):BindsTo s nR ⟨[v0],[]⟩ (F_it.pars.zip [v0]):=.of_eq (by rfl')
noncomputable abbrev nP:FuncData:=fdOf (nthS (aP (nthS pgm.main.body 22)) 10) "shlex.__next__" (.none) (.str "cpy313.shlex" 1087) 728
theorem d_nx(W:Wd (cx w h mb) h):ak (cx w h mb) 729 nP F_nx:=aH W (by rfl') (by rfl') (by rfl') (by rfl')
theorem b_nx(s:Shared)(v0:Value):BindsTo s nP ⟨[v0],[]⟩ (F_nx.pars.zip [v0]):=.of_eq (by rfl')
theorem JN(s:Shared)(X:(Kc w).In s.heap)(v0 v1:Value):BindsTo s uN ⟨[v0,v1],[]⟩ (dH.pars.zip [v0,v1]):=kp_binds X λS=>by rfl'
theorem JF(s:Shared)(X:(Kc w).In s.heap)(v0:Value):BindsTo s uH ⟨[v0],[]⟩ (cW.pars.zip [v0,.bool false,.bool true]):=kp_binds X λS=>by rfl'
theorem JP(s:Shared)(X:(Kc w).In s.heap)(v0 v1:Value):BindsTo s uO ⟨[v0,v1],[]⟩ (fM.pars.zip [v0,v1,.str "\n" 756]):=kp_binds X λS=>by rfl'
theorem J5(s:Shared)(X:(Kc w).In s.heap)(v0 v1 v2:Value):BindsTo s vf ⟨[v0,v1],[("posix",v2)]⟩ (fU.pars.zip [v0,v1,.none,v2,.bool false]):=kp_binds X λS=>by rfl'
theorem JX{c:Cx}{C:Addr}:oZ c C nQ:=λA E s v Q hq=>by
 have e:bindArgs nQ ⟨[.ref C,v],[]⟩=(do
   let t <- newTuple [v]
   let d <- alloc emptyDict
   pure [("cls",.ref C),("args",t),("kwargs",.ref d)]):=by rfl'
 rw[e];exact wpAny_bind (wpAny_newTuple (wpAny_bind (wpAny_alloc (wpAny_pure (by rw[show({s with heap:=s.heap.push {cls:=.type "tuple",data:=.seq [v].toArray}}:Shared).heap.objs.size=s.heap.objs.size+1 from Heap.size_push ..];exact hq)))))
end
end
section
theorem vU{w:World}{h:Heap}{mb:Str->Option Value}{cl:Str}{C:Addr}(h0:clsF cl=C)(h1:(clsIn (Kc w) C).isSome=true)(h2:(clsIn (Kc w) C).any (·.hasDict)=true)(h3:findIn (Kc w) (.ref C) "__getattribute__"=some (some (.builtin "object.__getattribute__")))(h4:findIn (Kc w) (.ref C) "__getattr__"=some none)
  (h5:findIn (Kc w) (.ref C) "__setattr__"=some (some (.builtin "object.__setattr__"))) (h6:plainOver (Kc w) C=true):∃kd,ClsAt (cx w h mb) cl (Kc w) C kd:=by
 obtain⟨kd,hk⟩:=Pz.mp h1;rw[hk] at h2;exact⟨kd,h0,λ_ _ e=>e,hk,h2,h3,h4,h5,h6⟩
section
variable{w:World}{h:Heap}{mb:Str->Option Value}
theorem gZ:∃kd,ClsAt (cx w h mb) "shlex" (Kc w) 732 kd:=vU (by rfl') (by rfl') (by rfl') (by rfl') (by rfl') (by rfl') (by rfl')
theorem gY:∃kd,ClsAt (cx w h mb) "StringIO" (Kc w) 597 kd:=vU (by rfl') (by rfl') (by rfl') (by rfl') (by rfl') (by rfl') (by rfl')
noncomputable def vW:Option Obj->Bool
 | some ⟨_,_,.cls cd,_⟩ => !cd.abstract && !cd.hasDel && !cd.mro.isEmpty
 | _=>false
theorem Jh{o:Option Obj}(h:vW o=true):∃oc od cd sl,o=some ⟨oc,od,.cls cd,sl⟩/\cd.abstract=false/\cd.hasDel=false/\cd.mro.isEmpty=false:=by
 cases o with
 | none=>cases h
 | some ob =>
  obtain⟨a,b,d,s⟩:=ob;cases d with
  | cls cd =>
   have h:(!cd.abstract && !cd.hasDel && !cd.mro.isEmpty)=true:=h;simp only[Lx,Oj] at h;exact⟨_,_,_,_,rfl,h.1.1,h.1.2,h.2⟩
  | _=>cases h
noncomputable def noAt(K:Frag)(C:Addr)(l:List Str):Bool:=l.all λa=>match findIn K (.ref C) a with
 | some none=>true
 | _=>false
theorem jF{K:Frag}{C:Addr}{l:List Str}(hl:noAt K C l=true){a:Str}(ha:l.contains a=true):findIn K (.ref C) a=some none:=by
 have:=La.mp hl a (by simpa using ha)
 cases q:findIn K (.ref C) a with
 | none=>rw[q] at this;cases this
 | some v =>
  cases v with
  | none=>rfl
  | some _=>rw[q] at this;cases this
theorem rR{K:Frag}{C:Addr}{a:Str}(h:findIn K (.ref C) a=some none):takerIn K C a=some none:=by
 unfold takerIn;rw[h];rfl
noncomputable def lN:List Str:=Od KY ["instream","infile","posix","eof","commenters","wordchars","whitespace","whitespace_split","quotes","escape","escapedquotes","state","pushback","lineno","debug","token","filestack","source","_punctuation_chars"]
theorem qH:noAt (Kc w) 732 lN=true:=by rfl'
theorem qz:noAt (Kc w) 597 (Od KY ["_StringIO__newline","_StringIO__buf","_StringIO__pos"])=true:=by rfl'
theorem sh_g{a:Str}(ha:lN.contains a=true):AtG (cx w h mb) "shlex" a:=by
 obtain⟨kd,K⟩:=gZ (w:=w) (h:=h) (mb:=mb);exact atG K (jF qH ha)
theorem sh_s{a:Str}(ha:lN.contains a=true):AtS (cx w h mb) "shlex" a:=by
 obtain⟨kd,K⟩:=gZ (w:=w) (h:=h) (mb:=mb);exact atS K (rR (jF qH ha))
theorem jq{a:Str}(ha:(Od KY ["_StringIO__newline","_StringIO__buf","_StringIO__pos"]).contains a=true):AtG (cx w h mb) "StringIO" a:=by
 obtain⟨kd,K⟩:=gY (w:=w) (h:=h) (mb:=mb);exact atG K (jF qz ha)
theorem jo{a:Str}(ha:(Od KY ["_StringIO__newline","_StringIO__buf","_StringIO__pos"]).contains a=true):AtS (cx w h mb) "StringIO" a:=by
 obtain⟨kd,K⟩:=gY (w:=w) (h:=h) (mb:=mb);exact atS K (rR (jF qz ha))
theorem qC:oU (cx w h mb):=⟨jq (by rfl'),jo (by rfl'),jo (by rfl'),jo (by rfl')⟩
theorem zO(W:Wd (cx w h mb) h){b:Nat}(W1:Str)(st:V)(tok:Str):AtP (cx w h mb) (b+2) "shlex" "punctuation_chars" (shl W1 st tok) (.str ""):=by
 obtain⟨kd,K⟩:=gZ (w:=w) (h:=h) (mb:=mb);have hp:F_pc.pars=[KY "self"]:=by rfl'
 have hb:∃p1 p2 p3,F_pc.body=[.Return (some (.Attribute (.Name "self" p1) "_punctuation_chars" p2)) p3]:=⟨_,_,_,rfl⟩;obtain⟨p1,p2,p3,hb⟩:=hb;exact atP W K (p:=664) (rest:=[.none,.none,.none,.str "punctuation_chars" 1120,.bool false]) (by rfl') (by rfl') (by rfl') (by rfl') (d_pc W) hp hb (by rfl') (by rfl') (λ_=>rfl) (λs v=>by have:=b_pc s v;rw[hp] at this;exact this) (sh_g (by rfl')) (by with_unfolding_all rfl) rfl
theorem shOk(W:Wd (cx w h mb) h){b:Nat}:ShOk (cx w h mb) (b+2):=⟨sh_g (by rfl'),sh_g (by rfl'),sh_g (by rfl'),sh_g (by rfl'),sh_g (by rfl'),sh_g (by rfl'),sh_g (by rfl'),sh_g (by rfl'),sh_g (by rfl'),sh_g (by rfl'),sh_g (by rfl'),sh_g (by rfl'),sh_g (by rfl'),sh_s (by rfl'),sh_s (by rfl'),λW1 st tok=>zO W W1 st tok⟩
theorem HQ{b:Nat}:FnOk (cx w h mb) b "deque" [] .deq:=HH (by rfl')
theorem shIn{b:Nat}:ShIn (cx w h mb) b:=⟨sh_s (by rfl'),sh_s (by rfl'),sh_s (by rfl'),sh_s (by rfl'),sh_s (by rfl'),sh_s (by rfl'),sh_s (by rfl'),sh_s (by rfl'),sh_s (by rfl'),sh_s (by rfl'),sh_s (by rfl'),sh_s (by rfl'),sh_s (by rfl'),sh_s (by rfl'),sh_s (by rfl'),sh_s (by rfl'),sh_s (by rfl'),sh_s (by rfl'),sh_s (by rfl'),sh_g (by rfl'),sh_g (by rfl'),HQ⟩
theorem gtOk{b:Nat}:GtOk (cx w h mb) b:=⟨sh_g (by rfl'),sh_g (by rfl'),sh_g (by rfl'),λ_=>Tp.deq⟩
theorem m_rt(W:Wd (cx w h mb) h):Mth (cx w h mb) (Kc w) 732 "read_token" 700 nO F_rt:=⟨by rfl',by rfl',d_rt W,b_rt⟩
theorem m_gt(W:Wd (cx w h mb) h):Mth (cx w h mb) (Kc w) 732 "get_token" 693 nT F_gt:=⟨by rfl',by rfl',d_gt W,b_gt⟩
theorem m_nx(W:Wd (cx w h mb) h):Mth (cx w h mb) (Kc w) 732 "__next__" 729 nP F_nx:=⟨by rfl',by rfl',d_nx W,b_nx⟩
theorem m_it(W:Wd (cx w h mb) h):Mth (cx w h mb) (Kc w) 732 "__iter__" 722 nR F_it:=⟨by rfl',by rfl',d_it W,b_it⟩
theorem El(W:Wd (cx w h mb) h):Mth (cx w h mb) (Kc w) 597 "_StringIO__check" 381 nM fO:=⟨by rfl',by rfl',Ij W,JQ⟩
noncomputable def stO(w:World):Obj:=((Vc w).lookup 2).getD jj
noncomputable def Ks(w:World):Frag:=(2,stO w)::Kc w
theorem tR(Y:YPw w h)(h':Heap)(W:Wd (cx w h mb) h'):(Ks w).In h':=λa o e=>by
 cases q:a==2 with
 | false =>
  unfold Ks at e;rw[il (x:=(2,stO w)) q] at e;exact W.kp a o e
 | true =>
  have e:(match a==2 with | true=>some (stO w) | false=>Oe a (Kc w))=some o:=e
  rw[q] at e;cases e;rw[beq_iff_eq.mp q];have h1:(Vc w).lookup 2=some (stO w):=by rfl'
  have h2:(jZ (some (stO w))).isSome=true:=by rfl'
  have h3:(stO w).cls=.none:=by rfl'
  obtain⟨x,hx⟩:=Pz.mp h2;obtain⟨ob,ho,hd⟩:=vD hx;have ho:stO w=ob:=Option.some.inj ho;rw[<-ho] at hd;obtain⟨o',e',s⟩:=W.bk.sim _ _ (Y _ _ h1);rcases s with s | ⟨s1,_⟩ | ⟨_,_,_,s1,_⟩
  ·rw[s] at e';exact e'
  ·rw[h3] at s1;cases s1
  ·rw[hd] at s1;cases s1
theorem rY:iY (cx w h mb) (Ks w) 597 90:=by
 refine⟨?_,by rfl',by rfl',by rfl',by rfl',by rfl',by rfl',by rfl',by rfl',by rfl',94,[],by rfl',by rfl'⟩
 have h1:vW ((Ks w).lookup 597)=true:=by rfl'
 exact Jh h1
end
end
section
theorem six{p k n:Nat}(h:6-p<=n+1)(h1:p<k):6-k<=n:=by omega
noncomputable abbrev rmv{α:Type}(l:List α)(k:Nat):List α:=l.take k++l.drop (k+1)
theorem eU{α β:Type}(f:α->β)(l:List α)(k:Nat):rmv (l.map f) k=(rmv l k).map f:=by
 simp only[rmv,NB,RC,QH]
theorem rA{α:Type}{l:List α}{k:Nat}{x:α}(h:l[k]?=some x):l.Perm (x::rmv l k):=by
 have e:l=l.take k++x::l.drop (k+1):=by
  have hk:=(Ld.mp h).1;have e1:=List.take_append_drop k l;have e2:l.drop k=x::l.drop (k+1):=by
   rw[RV hk]
   congr 1
   exact(Ld.mp h).2
  rw[e2] at e1;exact e1.symm
 exact(List.Perm.of_eq e).trans List.perm_middle
theorem cu{α:Type}{l:List α}{k:Nat}(h:k<l.length):(rmv l k).length+1=l.length:=by
 rw[(rA (Lb h)).length_eq];rfl
noncomputable def aK{α:Type}:Nat->List (List α)->List (List α)
 | 0,_=>[[]]
 | n+1,S=>(S.zipIdx 0).flatMap λx=>x.1.flatMap λt=>(aK n (rmv S x.2)).map (t :: ·)
theorem qQ{α:Type}{S:List (List α)}:aK 0 S=[[]]:=rfl
theorem Bh{α:Type}{n:Nat}{S:List (List α)}:aK (n+1) S=(S.zipIdx 0).flatMap λx=>x.1.flatMap λt=>(aK n (rmv S x.2)).map (t :: ·):=rfl
inductive Row{α:Type}:List (List α)->List α->Prop
 | nil:Row [] []
 | cons {S:List (List α)} {k:Nat} {s:List α} {t:α} {ts:List α}:S[k]?=some s->t∈s->Row (rmv S k) ts->Row S (t::ts)
theorem eV{α:Type}:∀(n:Nat) (S:List (List α)) (ts:List α),S.length=n->(ts∈aK n S↔Row S ts):=by
 intro l_
 induction l_ with
 | zero =>
  intro S ts h;obtain rfl:=Mt.mp h;constructor
  ·intro m;obtain rfl:ts=[]:=by rw[qQ] at m;simpa using m
   exact .nil
  ·intro r;cases r with
   | nil=>rw[qQ];simp
   | cons e _ _=>simp at e
 | succ n ih =>
  intro S ts h;constructor
  ·intro m
   obtain⟨x,hx,m⟩:=Oz.mp m;obtain⟨t,ht,m⟩:=Oz.mp m;obtain⟨r,hr,rfl⟩:=K9.mp m;have e:=QF.mp hx;have hk:x.2<S.length:=(Ld.mp e).1;exact .cons e ht ((ih (rmv S x.2) r (by have:=cu hk;omega)).mp hr)
  ·intro r
   cases r with
   | nil=>simp at h
   | @cons _ k s t ts e ht hr =>
    have hk:k<S.length:=(Ld.mp e).1;refine Oz.mpr ⟨(s,k),QF.mpr e,Oz.mpr ⟨t,ht,K9.mpr ⟨ts,?_,rfl⟩⟩⟩;exact(ih (rmv S k) ts (by have:=cu hk;omega)).mpr hr
theorem Row.len{α:Type}{S:List (List α)}{ts:List α}(h:Row S ts):ts.length=S.length:=by
 induction h with
 | nil=>rfl
 | cons e _ _ ih =>
  have:=cu (Ld.mp e).1;rw[KJ,ih,this]
theorem Row.mem{α:Type}{S:List (List α)}{ts:List α}(h:Row S ts):∀t∈ts,∃s∈S,t∈s:=by
 induction h with
 | nil=>intro t ht;cases ht
 | @cons S k s t ts e ht _ ih =>
  intro u hu;rcases KZ.mp hu with rfl | hu
  ·exact⟨s,Oa e,ht⟩
  ·obtain⟨s',hs',q⟩:=ih u hu
   refine⟨s',?_,q⟩;rcases Nh.mp hs' with m | m
   ·exact QG m
   ·exact Nz m
theorem Row.map{α β:Type}{f:α->β}{S:List (List α)}{ts:List α}(h:Row S ts):Row (S.map (Od f)) (ts.map f):=by
 induction h with
 | nil=>exact .nil
 | @cons S k s t ts e ht _ ih =>
  refine .cons (k:=k) (s:=s.map f) (by rw[Lf,e];rfl) (K9.mpr ⟨t,ht,rfl⟩) ?_
  rw[eU];exact ih
theorem Row.of_map{α β:Type}{ι:Type}{f:α->β}{A:ι->List α}{B:ι->List β}:∀(n:Nat) (l:List ι) (ys:List β),l.length=n->(∀i∈l,∀y∈B i,∃x∈A i,f x=y)->Row (l.map B) ys->∃xs,Row (l.map A) xs/\xs.map f=ys:=by
 intro l_
 induction l_ with
 | zero =>
  intro l ys hn h r;obtain rfl:=Mt.mp hn;cases r with
  | nil=>exact⟨[],.nil,rfl⟩
  | cons e _ _=>simp at e
 | succ n ih =>
  intro l ys hn h r;generalize hS:l.map B=S at r;cases r with
  | nil =>
   have:=congrArg Mx hS;rw[KN,hn] at this;cases this
  | @cons _ k s t ts e ht hr =>
   subst hS;rw[Lf] at e;obtain⟨i,hi,rfl⟩:=M8.mp e;obtain⟨x,hx,rfl⟩:=h i (Oa hi) t ht;rw[eU] at hr;have hk:k<l.length:=(Ld.mp hi).1;obtain⟨xs,hxs,rfl⟩:=ih (rmv l k) ts (by have:=cu hk;omega) (λj hj=>h j (by
    rcases Nh.mp hj with m | m
    ·exact QG m
    ·exact Nz m)) hr
   exact⟨x::xs,.cons (k:=k) (s:=A i) (by rw[Lf,hi];rfl) hx (by rw[eU];exact hxs),rfl⟩
noncomputable def lay{α:Type}(W:α->Nat->Nat):List α->List Nat->Nat
 | [],others=>match others with | []=>1 | _=>0
 | a::as,others=>match decide (as.length+1=others.length) with
  | true=>laidAt (W a) (λk=>lay W as (rmv others k)) 0 others 0
  | false=>0
theorem dj{α:Type}(W:α->Nat->Nat){a:α}{as:List α}{others:List Nat}(h:as.length+1=others.length):lay W (a::as) others=laidAt (W a) (λk=>lay W as (rmv others k)) 0 others 0:=by
 have e:lay W (a::as) others=(match decide (as.length+1=others.length) with | true=>laidAt (W a) (λk=>lay W as (rmv others k)) 0 others 0 | false=>0):=rfl
 rw[e,decide_eq_true h]
theorem s7{α:Type}(W:α->Nat->Nat){a:α}{as:List α}{others:List Nat}(h:¬ as.length+1=others.length):lay W (a::as) others=0:=by
 have e:lay W (a::as) others=(match decide (as.length+1=others.length) with | true=>laidAt (W a) (λk=>lay W as (rmv others k)) 0 others 0 | false=>0):=rfl
 rw[e,decide_eq_false h]
theorem s8(W:Nat->Nat->Nat):∀(ones others:List Nat),aX W ones others=lay W ones others:=by
 intro l_
 induction l_ with
 | nil =>
  intro others;cases others <;> rfl
 | cons a as ih =>
  intro others
  by_cases q:as.length+1=others.length
  ·rw[tM q,dj _ q,show(λk=>aX W as (others.take k++others.drop (k+1)))=λk=>lay W as (rmv others k) from funext λk=>ih _]
  ·rw[tO q,s7 _ q]
theorem tQ(W Z:Nat->Nat):∀(r:List Nat) (k a:Nat),laidAt W Z k r a=a+laidAt W Z k r 0:=by
 intro l_
 induction l_ with
 | nil =>
  intro k a;exact(Nf _).symm
 | cons o r ih =>
  intro k a;rw[gf,gf,ih (k+1) (a+W o*Z k),ih (k+1) (0+W o*Z k)];omega
theorem ni{W W' Z Z':Nat->Nat}:∀(r:List Nat) (k a:Nat),(∀o∈r,W o=W' o)->(∀j,k<=j->j<k+r.length->Z j=Z' j)->laidAt W Z k r a=laidAt W' Z' k r a:=by
 intro l_
 induction l_ with
 | nil=>exact λk a _ _=>rfl
 | cons o r ih =>
  intro k a h1 h2;rw[gf,gf,h1 o (.head _),h2 k (K3 _) (by simp)]
  exact ih (k+1) _ (λx hx=>h1 x (.tail _ hx)) λj hj hj'=>h2 j (by omega) (by rw[KJ];omega)
theorem I8{α:Type}[BEq α][LawfulBEq α](L:Nat->List α):∀(ts:List α) (others:List Nat),ts.length=others.length->(aK others.length (others.map L)).count ts=lay (λt o=>(L o).count t) ts others:=by
 intro l_
 induction l_ with
 | nil =>
  intro others h;obtain rfl:=Mt.mp h.symm;show[([]:List α)].count []=1;simp
 | cons t ts ihc =>
  intro others h;obtain⟨n,hn⟩:∃n,others.length=n+1:=⟨ts.length,h.symm⟩;rw[KJ] at h;rw[dj _ h];rw[hn,Bh];have inner:∀(s:List α) (R:List (List α)),(s.flatMap λu=>R.map (u :: ·)).count (t::ts)=s.count t*R.count ts:=by
   intro s R
   induction s with
   | nil=>simp
   | cons u s ih =>
    rw[Ml,RZ,ih,NQ]
    by_cases q:u=t
    ·subst q
     have:(R.map (u :: ·)).count (u::ts)=R.count ts:=by
      clear ih
      induction R with
      | nil=>rfl
      | cons r R ih=>rw[Li,NQ,NQ,ih];simp only[List.cons_beq_cons,beq_self_eq_true,Pq]
     rw[this,beq_self_eq_true,if_pos rfl,O5,M9,Mf]
    ·have:(R.map (u :: ·)).count (t::ts)=0:=by
      refine RW.mpr λm=>?_;obtain⟨r,_,e⟩:=K9.mp m;exact q (List.cons.inj e).1
     rw[this,if_neg (by simpa using q),Nf,Lr]
  have outer:∀(r:List Nat) (k:Nat),others.drop k=r->(((r.map L).zipIdx k).flatMap λx=>x.1.flatMap λu=>(aK n (rmv (others.map L) x.2)).map (u :: ·)).count (t::ts)=laidAt (λo=>(L o).count t) (λj=>lay (λt o=>(L o).count t) ts (rmv others j)) k r 0:=by
   intro r
   induction r with
   | nil=>intro k _;rfl
   | cons o r ih =>
    intro k hd;have hk:k<others.length:=by
     have:=congrArg Mx hd;rw[Ni,KJ] at this;omega
    rw[Li,QD,Ml,RZ,inner,ih (k+1) (by rw[<-Pj,hd];rfl),gf]
    have ac:=tQ (λo=>(L o).count t) (λj=>lay (λt o=>(L o).count t) ts (rmv others j)) r (k+1) (0+(L o).count t*lay (λt o=>(L o).count t) ts (rmv others k));rw[ac];have hl:=cu hk;have hr:=ihc (rmv others k) (by omega)
    rw[show(rmv others k).length=n by omega] at hr
    rw[eU,hr];dsimp only;omega
  exact outer others 0 rfl
end
section
theorem eX{α:Type}{l:List α}{k:Nat}{x:α}(h:x∈rmv l k):x∈l:=by
 rcases Nh.mp h with m | m
 ·exact QG m
 ·exact Nz m
theorem cR{α:Type}(W:α->Nat->Nat){as:List α}{others:List Nat}(h:as.length≠others.length):lay W as others=0:=by
 cases as with
 | nil=>cases others with
  | nil=>exact absurd rfl h
  | cons _ _=>rfl
 | cons a as =>
  exact s7 _ (by simpa using h)
inductive All2{α β:Type}(R:α->β->Prop):List α->List β->Prop
 | nil:All2 R [] []
 | cons {a:α} {b:β} {as:List α} {bs:List β}:R a b->All2 R as bs->All2 R (a::as) (b::bs)
theorem All2.len{α β:Type}{R:α->β->Prop}{as:List α}{bs:List β}(h:All2 R as bs):as.length=bs.length:=by
 induction h with
 | nil=>rfl
 | cons _ _ ih=>rw[KJ,KJ,ih]
theorem All2.withP{α β:Type}{R:α->β->Prop}{P:β->Prop}{as:List α}{bs:List β}(h:All2 R as bs):(∀b∈bs,P b)->All2 (λa b=>R a b/\P b) as bs:=by
 induction h with
 | nil=>intro _;exact .nil
 | cons r _ ih=>intro hp;exact .cons ⟨r,hp _ (.head _)⟩ (ih λb hb=>hp b (.tail _ hb))
theorem Ex{α β:Type}{R:α->β->Prop}{W:α->Nat->Nat}{W':β->Nat->Nat}{as:List α}{bs:List β}(h:All2 R as bs):∀(others:List Nat),(∀a b,R a b->∀o∈others,W a o=W' b o)->lay W as others=lay W' bs others:=by
 induction h with
 | nil=>intro others _;cases others <;> rfl
 | @cons a b as bs r hr ih =>
  intro others hw
  by_cases q:as.length+1=others.length
  ·rw[dj W q,dj W' (by rw[<-hr.len];exact q)]
   exact ni _ _ _ (λo ho=>hw a b r o ho) λj _ _=>ih _ λa b r o ho=>hw a b r o (eX ho)
  ·rw[cR W (by simpa using q),cR W' (by rw[KJ,<-hr.len];exact q)]
theorem sw3(a1 a2 a3 b1 b2 b3 x y z:Nat):a1*(b2*z+b3*y)+a2*(b1*z+b3*x)+a3*(b1*y+b2*x)=b1*(a2*z+a3*y)+b2*(a1*z+a3*x)+b3*(a1*y+a2*x):=by
 simp only[Nat.mul_add]
 ac_rfl
theorem lay2{α:Type}(W:α->Nat->Nat)(a b:α)(x y:Nat):lay W [a,b] [x,y]=W a x*W b y+W a y*W b x:=by
 show 0+W a x*(0+W b y*1)+W a y*(0+W b x*1)=_;simp only[Lr,PL]
theorem lay3{α:Type}(W:α->Nat->Nat)(a b c:α)(x y z:Nat):lay W [a,b,c] [x,y,z]=W a x*lay W [b,c] [y,z]+W a y*lay W [b,c] [x,z]+W a z*lay W [b,c] [x,y]:=by
 show 0+W a x*lay W [b,c] [y,z]+W a y*lay W [b,c] [x,z]+W a z*lay W [b,c] [x,y]=_;rw[Lr]
theorem Et{α:Type}(W:α->Nat->Nat)(a b:α)(r:List α)(others:List Nat)(h3:others.length<=3):lay W (a::b::r) others=lay W (b::a::r) others:=by
 by_cases q:r.length+1+1=others.length
 ·obtain⟨x,o1,rfl⟩:∃x o1,others=x::o1:=QX q.symm
  obtain⟨y,o2,rfl⟩:∃x o2,o1=x::o2:=QX (Nat.succ.inj q.symm);have q:=Nat.succ.inj (Nat.succ.inj q);cases r with
  | nil =>
   obtain rfl:=Mt.mp q.symm;rw[lay2,lay2,Mf,NZ,NZ (W a x)]
  | cons c r =>
   obtain⟨z,o3,rfl⟩:∃x o3,o2=x::o3:=QX q.symm;have q:=Nat.succ.inj q;cases o3 with
   | nil =>
    obtain rfl:=Mt.mp q;rw[lay3,lay3,lay2,lay2,lay2,lay2,lay2,lay2];exact sw3 ..
   | cons _ o4=>exact absurd h3 (Nat.not_le.mpr (Lk (by decide:3<4) (Nt 4 o4.length)))
 ·rw[cR W (by simpa using q),cR W (by simpa using q)]
theorem Eu{α:Type}{W:α->Nat->Nat}{as bs:List α}(h:as.Perm bs):∀(others:List Nat),others.length<=3->lay W as others=lay W bs others:=by
 induction h with
 | nil=>intro _ _;rfl
 | @cons x as bs hp ih =>
  intro others h3
  by_cases q:as.length+1=others.length
  ·rw[dj W q,dj W (by rw[<-hp.length_eq];exact q)]
   exact ni _ _ _ (λ_ _=>rfl) λj _ hj=>ih _ (by
    have:=cu (l:=others) (k:=j) (by omega)
    omega)
  ·rw[cR W (by simpa using q),cR W (by rw[KJ,<-hp.length_eq];exact q)]
 | swap x y l=>intro others h3;exact Et W y x l others h3
 | trans _ _ i1 i2=>intro others h3;rw[i1 others h3,i2 others h3]
theorem Row.perm{α ι:Type}{A:ι->List α}:∀(n:Nat) (l:List ι) (ts:List α),l.length=n->Row (l.map A) ts->∃l',l'.Perm l/\All2 (λt i=>t∈A i) ts l':=by
 intro l_
 induction l_ with
 | zero =>
  intro l ts hn r;obtain rfl:=Mt.mp hn;cases r with
  | nil=>exact⟨[],.nil,.nil⟩
  | cons e _ _=>simp at e
 | succ n ih =>
  intro l ts hn r;generalize hS:l.map A=S at r;cases r with
  | nil =>
   have:=congrArg Mx hS;rw[KN,hn] at this;cases this
  | @cons _ k s t ts e ht hr =>
   subst hS;rw[Lf] at e;obtain⟨i,hi,rfl⟩:=M8.mp e;rw[eU] at hr;have hk:k<l.length:=(Ld.mp hi).1;obtain⟨l',p,a⟩:=ih (rmv l k) ts (by have:=cu hk;omega) hr
   exact⟨i::l',(p.cons i).trans (rA hi).symm,.cons ht a⟩
structure Tr(κ:Nat->List Nat)(nm:Nat->Str)(Ts:Nat->List T)(wy:Nat->Nat->Nat):Prop where
 low:∀p,p<6->∀k∈κ p,p<k/\k<6
 k3:∀p,p<6->(κ p).length<=3
 ts:∀p,p<6->Ts p=(aK (κ p).length ((κ p).map Ts)).map (T.node (nm p))
 wy:∀p q,p<6->q<6->wy p q=if nm p=nm q then lay wy (κ p) (κ q) else 0
section
variable{κ:Nat->List Nat}{nm:Nat->Str}{Ts:Nat->List T}{wy:Nat->Nat->Nat}
theorem Tr.mem(H:Tr κ nm Ts wy){p:Nat}(hp:p<6){t:T}:t∈Ts p↔∃ts,t=.node (nm p) ts/\Row ((κ p).map Ts) ts:=by
 rw[H.ts p hp,K9];constructor
 ·rintro ⟨ts,h,rfl⟩
  exact⟨ts,rfl,(eV _ _ _ (KN ..)).mp h⟩
 ·rintro ⟨ts,rfl,h⟩
  exact⟨ts,(eV _ _ _ (KN ..)).mpr h,rfl⟩
theorem I9[BEq T][LawfulBEq T](n:Str)(ts:List T)(R:List (List T))(m:Str):(R.map (T.node m)).count (T.node n ts)=if n=m then R.count ts else 0:=by
 induction R with
 | nil=>split <;> rfl
 | cons r R ih =>
  rw[Li,NQ,ih]
  by_cases q:n=m
  ·rw[if_pos q,if_pos q,NQ]
   subst q
   by_cases e:r=ts
   ·subst e;simp
   ·rw[if_neg (by simpa using e),if_neg (by simpa using e)]
  ·rw[if_neg q,if_neg q,if_neg (by simp;intro e;exact absurd e.symm q)]
theorem Tr.count(H:Tr κ nm Ts wy)[BEq T][LawfulBEq T]:∀(n p:Nat),6-p<=n->p<6->∀t∈Ts p,∀q,q<6->(Ts q).count t=wy p q:=by
 intro l_
 induction l_ with
 | zero =>
  intro p hn hp t ht q hq;omega
 | succ n ih =>
  intro p hn hp t ht q hq;obtain⟨ts,rfl,hr⟩:=(H.mem hp).mp ht;rw[H.ts q hq,I9,H.wy p q hp hq];split
  ·have hl:ts.length=(κ p).length:=by rw[hr.len,KN]
   by_cases e:(κ p).length=(κ q).length
   ·rw[I8 Ts ts (κ q) (by omega)]
    obtain⟨l',hperm,ha⟩:=Row.perm _ _ _ rfl hr;have ha:=ha.withP (P:=λi=>i∈κ p) λi hi=>hperm.mem_iff.mp hi;rw[Ex (W':=wy) ha (κ q) λt a hta o ho=>ih a (six hn (H.low p hp a hta.2).1) (H.low p hp a hta.2).2 t hta.1 o (H.low q hq o ho).2];exact Eu hperm _ (H.k3 q hq)
   ·rw[cR _ e]
    refine RW.mpr λm=>?_;have:=((eV _ _ _ (KN ..)).mp m).len;rw[KN] at this;omega
  ·rfl
end
end
section
theorem Bk{α ι:Type}{A:ι->List α}:∀(l:List ι),(∀i∈l,A i≠[])->∃ts,Row (l.map A) ts:=by
 intro l_
 induction l_ with
 | nil=>exact λ_=>⟨[],.nil⟩
 | cons i l ih =>
  intro h;obtain⟨ts,r⟩:=ih λj hj=>h j (.tail _ hj);obtain⟨t,s,e⟩:=M5 (h i (.head _));exact⟨t::ts,.cons (k:=0) (s:=A i) rfl (by rw[e];exact .head _) r⟩
theorem sY{α:Type}(s:List α)(R:List (List α)):(s.flatMap λt=>R.map (t :: ·)).length=s.length*R.length:=by
 induction s with
 | nil=>simp
 | cons a s ih=>rw[Ml,KR,KN,ih,KJ,O5,M9,Mf]
noncomputable def rl:Nat->List Nat->Nat
 | 0,_=>1
 | n+1,L=>((L.zipIdx 0).map λx=>x.1*rl n (rmv L x.2)).sum
theorem Ba{α:Type}:∀(n:Nat) (S:List (List α)),(aK n S).length=rl n (S.map Mx):=by
 intro l_
 induction l_ with
 | zero=>exact λ_=>rfl
 | succ n ihn =>
  intro S;have g:∀(l:List (List α)) (k:Nat),((l.zipIdx k).flatMap λx=>x.1.flatMap λt=>(aK n (rmv S x.2)).map (t :: ·)).length=(((l.map Mx).zipIdx k).map λx=>x.1*rl n (rmv (S.map Mx) x.2)).sum:=by
   intro l
   induction l with
   | nil=>intro k;rfl
   | cons a l ih =>
    intro k;rw[QD,Ml,KR,ih,sY,ihn,Li,QD,Li,Mw,eU]
  exact g S 0
theorem rl3(a b c:Nat):a*(b*c+c*b)+b*(a*c+c*a)+c*(a*b+b*a)=a*2*b*3*c:=by
 rw[NZ c b,NZ c a,NZ b a,<-PB,<-PB,<-PB,show b*(2*(a*c))=a*(2*(b*c)) by ac_rfl,show c*(2*(a*b))=a*(2*(b*c)) by ac_rfl,show a*2*b*3*c=a*(2*(b*c))*3 by ac_rfl]
 omega
theorem sX{α:Type}{A:Nat->List α}{O:Nat->Nat}(l:List Nat)(h3:l.length<=3)(hA:∀i∈l,(A i).length=O i):(aK l.length (l.map A)).length=ordP O 0 l 1:=by
 rw[Ba,Lq,show l.map (Mx∘A)=l.map O from MN hA]
 match l,h3 with
 | [],_=>rfl
 | [x],_=>show O x*1+0=1*1*O x;simp only[M9,PL,Nf]
 | [x,y],_ =>
  show O x*(O y*1+0)+(O y*(O x*1+0)+0)=1*1*O x*2*O y;simp only[M9,PL,Nf];rw[NZ (O y),<-PB,NZ (O x) 2,Nat.mul_assoc]
 | [x,y,z],_ =>
  have:=rl3 (O x) (O y) (O z);show O x*(O y*(O z*1+0)+(O z*(O y*1+0)+0))+(O y*(O x*(O z*1+0)+(O z*(O x*1+0)+0))+(O z*(O x*(O y*1+0)+(O y*(O x*1+0)+0))+0))=1*1*O x*2*O y*3*O z;simp only[M9,PL,Nf,<-LR];exact this
 | _::_::_::_::_,h3=>exact absurd h3 (by simp)
section
variable{κ:Nat->List Nat}{nm:Nat->Str}{Ts:Nat->List T}{wy:Nat->Nat->Nat}
theorem Tr.ne(H:Tr κ nm Ts wy):∀(n p:Nat),6-p<=n->p<6->Ts p≠[]:=by
 intro l_
 induction l_ with
 | zero =>
  intro p hn hp;omega
 | succ n ih =>
  intro p hn hp;obtain⟨ts,r⟩:=Bk (A:=Ts) (κ p) λk hk=>ih k (six hn (H.low p hp k hk).1) (H.low p hp k hk).2;intro e;have:=(H.mem hp).mpr ⟨ts,rfl,r⟩;rw[e] at this;cases this
theorem Tr.cnt(H:Tr κ nm Ts wy)[BEq T][LawfulBEq T]{p q:Nat}(hp:p<6)(hq:q<6){t:T}(h:t∈Ts p):(Ts q).count t=wy p q:=H.count 6 p (by omega) hp t h q hq
theorem Tr.same(H:Tr κ nm Ts wy){p q:Nat}(hp:p<6)(hq:q<6)(h:0<wy p q)(t:T):t∈Ts p↔t∈Ts q:=by
 letI:DecidableEq T:=λa b=>Classical.propDecidable _
 have one:∀t,t∈Ts p->t∈Ts q:=λt ht=>Pk.mp (by rw[H.cnt hp hq ht];exact h)
 refine⟨one t,λht=>?_⟩;obtain⟨u,s,e⟩:=M5 (H.ne 6 p (by omega) hp)
 have hu:u∈Ts p:=by rw[e];exact .head _
 have h2:0<wy q p:=by rw[<-H.cnt hq hp (one u hu)];exact Pk.mpr hu
 exact Pk.mp (by rw[H.cnt hq hp ht];exact h2)
theorem Tr.apart(H:Tr κ nm Ts wy){p q:Nat}(hp:p<6)(hq:q<6)(h:wy p q=0){t:T}(ht:t∈Ts p):t∉Ts q:=by
 letI:DecidableEq T:=λa b=>Classical.propDecidable _
 intro m;have:=Pk.mpr m;rw[H.cnt hp hq ht] at this;omega
theorem Tr.len(H:Tr κ nm Ts wy){od:Nat->Nat}(ho:∀p,p<6->od p=ordP od 0 (κ p) 1):∀(n p:Nat),6-p<=n->p<6->(Ts p).length=od p:=by
 intro l_
 induction l_ with
 | zero =>
  intro p hn hp;omega
 | succ n ih =>
  intro p hn hp;rw[H.ts p hp,KN,ho p hp];exact sX (κ p) (H.k3 p hp) λk hk=>ih k (six hn (H.low p hp k hk).1) (H.low p hp k hk).2
theorem Tr.wle(H:Tr κ nm Ts wy){p q:Nat}(hp:p<6)(hq:q<6):wy p q<=(Ts q).length:=by
 letI:DecidableEq T:=λa b=>Classical.propDecidable _
 obtain⟨u,s,e⟩:=M5 (H.ne 6 p (by omega) hp)
 have hu:u∈Ts p:=by rw[e];exact .head _
 rw[<-H.cnt hp hq hu];exact List.count_le_length
end
theorem Jb{α:Type}[BEq α][LawfulBEq α](x:α):∀M:List α,M.count x+(M.filter (· != x)).length=M.length:=by
 intro l_
 induction l_ with
 | nil=>exact rfl
 | cons a M ih =>
  have ih:=ih;rw[NQ,List.filter_cons,KJ]
  by_cases h:a=x
  ·subst h;simp;omega
  ·simp[h];omega
theorem yp{α:Type}[BEq α][LawfulBEq α]{w:Nat}:∀(X M:List α),X.Nodup->(∀x∈X,M.count x=w)->(∀m∈M,m∈X)->X.length*w=M.length:=by
 intro l_
 induction l_ with
 | nil =>
  intro M _ _ h;cases M with
  | nil=>simp
  | cons a M=>exact absurd (h a (.head _)) (by simp)
 | cons x X ih =>
  intro M hn hc hm;rw[Ng] at hn;have ih:=ih (M.filter (· != x)) hn.2 (λy hy=>by
   rw[List.count_filter (by simp;exact λe=>hn.1 (e▸hy))]
   exact hc y (.tail _ hy)) λm h=>by
    rw[List.mem_filter] at h;exact(KZ.mp (hm m h.1)).resolve_left (by simpa using h.2)
  have:=Jb x M;rw[hc x (.head _)] at this;rw[KJ,O5,M9];omega
theorem Ja{α β:Type}[BEq α][LawfulBEq α][BEq β][LawfulBEq β]{f:α->β}{a:α}:∀(l:List α),(∀x∈l,f x=f a->x=a)->(l.map f).count (f a)=l.count a:=by
 intro l_
 induction l_ with
 | nil=>exact λ_=>rfl
 | cons b l ih =>
  intro h;rw[Li,NQ,NQ,ih λx hx=>h x (.tail _ hx)]
  by_cases q:b=a
  ·subst q;simp
  ·have:¬ f b=f a:=λe=>q (h b (.head _) e)
   simp[q,this]
theorem distinct{α β:Type}[DecidableEq β]{f:α->β}{X:List β}{M:List α}{w:Nat}(hn:X.Nodup)(hX:∀x,x∈X↔∃t∈M,f t=x)(hf:∀a∈M,∀b∈M,f a=f b->a=b)
  (hc:∀ [BEq α] [LawfulBEq α],∀t∈M,M.count t=w):X.length*w=M.length:=by
 letI:DecidableEq α:=λa b=>Classical.propDecidable _
 rw[yp X (M.map f) hn (λx hx=>?_) λm hm=>?_,KN]
 ·obtain⟨t,ht,rfl⟩:=(hX x).mp hx
  rw[Ja M λy hy e=>hf y hy t ht e];exact hc t ht
 ·obtain⟨t,ht,rfl⟩:=K9.mp hm
  exact(hX _).mpr ⟨t,ht,rfl⟩
theorem mZ{x:Str}:∀ {l:List Str},l.Nodup->∀y,y∈aY x l↔y∈l/\y≠x:=by
 intro l_
 induction l_ with
 | nil =>
  intro _ y;exact⟨λm=>(nomatch m),λm=>(nomatch m.1)⟩
 | cons a l ih =>
  intro h y;rw[Ng] at h
  by_cases q:a=x
  ·subst q
   rw[jX rfl];constructor
   ·intro m;exact⟨.tail _ m,λe=>h.1 (e▸m)⟩
   ·rintro ⟨m,e⟩;exact(KZ.mp m).resolve_left e
  ·rw[jY q,KZ,KZ,ih h.2 y]
   constructor
   ·rintro (rfl | ⟨m,e⟩)
    ·exact⟨.inl rfl,q⟩
    ·exact⟨.inr m,e⟩
   ·rintro ⟨rfl | m,e⟩
    ·exact .inl rfl
    ·exact .inr ⟨m,e⟩
theorem Du{x:Str}:∀ {l:List Str},l.Nodup->(aY x l).Nodup:=by
 intro l_
 induction l_ with
 | nil=>exact λ_=>.nil
 | cons a l ih =>
  intro h;have h':=Ng.mp h
  by_cases q:a=x
  ·rw[jX q];exact h'.2
  ·rw[jY q];exact Ng.mpr ⟨λm=>h'.1 ((mZ h'.2 a).mp m).1,ih h'.2⟩
theorem qp{F Z:Nat->Bool}:∀(r:List Nat) (k j p:Nat),r[j]?=some p->F p=true->Z (k+j)=true->cO F Z k r=true
 | [],k,j,p,h,_,_=>by simp at h
 | o::r,k,0,p,h,h1,h2=>by
  obtain rfl:o=p:=by simpa using h
  show(F o&&Z k||_)=true
  rw[h1,show Z k=true from h2];rfl
 | o::r,k,j+1,p,h,h1,h2=>by
  show(_||cO F Z (k+1) r)=true
  rw[qp r (k+1) j p (by simpa using h) h1 (by rw[<-h2];congr 1;omega),Bool.or_true]
theorem zg{A:Nat->List T}{F:T->Nat->Bool}:∀(n:Nat) (l:List Nat) (ts:List T),l.length=n->Row (l.map A) ts->(∀i∈l,∀t∈A i,F t i=true)->bK F ts l=true:=by
 intro l_
 induction l_ with
 | zero =>
  intro l ts hn r h;obtain rfl:=Mt.mp hn;cases r with
  | nil=>rfl
  | cons e _ _=>simp at e
 | succ n ih =>
  intro l ts hn r h;generalize hS:l.map A=S at r;cases r with
  | nil =>
   have:=congrArg Mx hS;rw[KN,hn] at this;cases this
  | @cons _ k s t ts e ht hr =>
   subst hS;rw[Lf] at e;obtain⟨i,hi,rfl⟩:=M8.mp e;rw[eU] at hr;have hk:k<l.length:=(Ld.mp hi).1;have ih:=ih (rmv l k) ts (by have:=cu hk;omega) hr λj hj=>h j (eX hj)
   exact qp l 0 k i hi (h i (Oa hi) t ht) (by rw[Lr];exact ih)
end
section
theorem Kd{α:Type}{x:Str}{v:α}:∀ {l:List (Str × α)},aget x l=none->aput x v l=l++[(x,v)]:=by
 intro l_
 induction l_ with
 | nil=>exact λ_=>rfl
 | cons x_ r ih =>
  intro h;obtain⟨y,t⟩:=x_
  by_cases q:y=x
  ·rw[dC q] at h;exact nomatch h
  ·rw[cI q] at h;rw[j8 q,ih h];rfl
noncomputable def jD(F:Fn):Bool:=(ao F.names).isEmpty&&F.pars.all (λx=>decide (aget x F.names=some .local))&&decide F.pars.Nodup
theorem Kl{α:Type}{x:Str}:∀ {l:List (Str × α)},x∉l.map (·.1)->aget x l=none:=by
 intro l_
 induction l_ with
 | nil=>exact λ_=>rfl
 | cons x_ r ih =>
  intro h;obtain⟨y,t⟩:=x_;rw[Li,KZ,not_or] at h;exact oN (decide_eq_false λq=>h.1 q.symm) (ih h.2)
noncomputable abbrev sgC(F:Fn)(cs:List Cell)(vs:List (Str × V)):Sg:=⟨[⟨F.names,cs.length,[]⟩],cs++[.vars vs]⟩
theorem pQ{F:Fn}{cs:List Cell}:∀(ps:List Str) (as:List V) (pre:List (Str × V)),(∀x∈ps,aget x F.names=some .local)->ps.Nodup->(∀x∈ps,x∉pre.map (·.1))->Svs (ps.zip as) (sgC F cs pre) (sgC F cs (pre++ps.zip as))
 | [],as,pre,_,_,_=>by rw[Rw,Lg];exact .nil
 | p::ps,[],pre,_,_,_=>by rw[QB,Lg];exact .nil
 | p::ps,a::as,pre,h1,h2,h3=>by
  rw[QC];have hs:Sv p a (sgC F cs pre) ⟨[⟨F.names,cs.length,[]⟩],(cs++[Cell.vars pre]).set cs.length (.vars (aput p a pre))⟩:=Sv.loc (l:=⟨F.names,cs.length,[]⟩) (h1 p (.head _)) (by simp)
  rw[Kd (Kl (h3 p (.head _))),show(cs++[Cell.vars pre]).set cs.length (.vars (pre++[(p,a)]))=cs++[.vars (pre++[(p,a)])] by simp] at hs
  have ih:=pQ (F:=F) (cs:=cs) ps as (pre++[(p,a)]) (λx hx=>h1 x (.tail _ hx)) (Ng.mp h2).2 (λx hx=>by
   rw[NB,Nh,not_or];refine⟨h3 x (.tail _ hx),λq=>?_⟩;rw[Li,Oc,MJ] at q;subst q;exact(Ng.mp h2).1 hx)
  rw[Lj] at ih;exact .cons hs ih
theorem fX{F:Fn}(h:jD F=true)(cs:List Cell)(as:List V):Svs (F.pars.zip as) (aL F cs) (sgC F cs (F.pars.zip as)):=by
 unfold jD at h;simp only[Lx,RM,decide_eq_true_eq,La] at h;obtain⟨⟨h1,h2⟩,h3⟩:=h;have hc:∀(l:List (Str × NameKind)) (n:Nat),ao l=[]->cellsFrom n l []=[]:=by
  intro l
  induction l with
  | nil=>intro n _;rfl
  | cons x r ih =>
   obtain⟨x,k⟩:=x;intro n hn;cases q:k == .cell with
   | true=>rw[mJ q] at hn;exact nomatch hn
   | false =>
    rw[mK q] at hn;unfold cellsFrom;rw[q];exact ih _ hn
 have e:aL F cs=sgC F cs []:=by
  unfold aL;rw[h1,hc _ _ h1]
 rw[e];have:=pQ (F:=F) (cs:=cs) F.pars as [] h2 h3 (λ_ _ h=>by cases h)
 rwa [Mj] at this
theorem pR{F:Fn}(h:jD F=true)(as:List V):Svs (F.pars.zip as) (aL F []) (sg0 F (F.pars.zip as)):=fX h [] as
section
variable{w:World}{h:Heap}{mb:Str->Option Value}{b:Nat}
theorem cP{vs:List Value}{n:Nat}(h:vs.length=n+1):∃v ws,vs=v::ws/\ws.length=n:=by
 cases vs with
 | nil=>cases h
 | cons v ws=>exact⟨v,ws,rfl,Nat.succ.inj h⟩
theorem jE{vs:List Value}(h:vs.length=0):vs=[]:=Mt.mp h
theorem of1{fd:FuncData}{F:Fn}(hb:∀(s:Shared) (v0:Value),BindsTo s fd ⟨[v0],[]⟩ (F.pars.zip [v0])):∀(s:Shared) (vs:List Value),vs.length=1->BindsTo s fd ⟨vs,[]⟩ (F.pars.zip vs):=λs vs h=>by
 obtain⟨a,v1,e1,h1⟩:=cP h;rw[e1,jE h1];exact hb s a
theorem of2{fd:FuncData}{F:Fn}(hb:∀(s:Shared) (v0 v1:Value),BindsTo s fd ⟨[v0,v1],[]⟩ (F.pars.zip [v0,v1])):∀(s:Shared) (vs:List Value),vs.length=2->BindsTo s fd ⟨vs,[]⟩ (F.pars.zip vs):=λs vs h=>by
 obtain⟨a,v1,e1,h1⟩:=cP h;obtain⟨b,v2,e2,h2⟩:=cP h1;rw[e1,e2,jE h2];exact hb s a b
theorem of3{fd:FuncData}{F:Fn}(hb:∀(s:Shared) (v0 v1 v2:Value),BindsTo s fd ⟨[v0,v1,v2],[]⟩ (F.pars.zip [v0,v1,v2])):∀(s:Shared) (vs:List Value),vs.length=3->BindsTo s fd ⟨vs,[]⟩ (F.pars.zip vs):=λs vs h=>by
 obtain⟨a,v1,e1,h1⟩:=cP h;obtain⟨b,v2,e2,h2⟩:=cP h1;obtain⟨c,v3,e3,h3⟩:=cP h2;rw[e1,e2,e3,jE h3];exact hb s a b c
theorem of4{fd:FuncData}{F:Fn}(hb:∀(s:Shared) (v0 v1 v2 v3:Value),BindsTo s fd ⟨[v0,v1,v2,v3],[]⟩ (F.pars.zip [v0,v1,v2,v3])):∀(s:Shared) (vs:List Value),vs.length=4->BindsTo s fd ⟨vs,[]⟩ (F.pars.zip vs):=λs vs h=>by
 obtain⟨a,v1,e1,h1⟩:=cP h;obtain⟨b,v2,e2,h2⟩:=cP h1;obtain⟨c,v3,e3,h3⟩:=cP h2;obtain⟨d,v4,e4,h4⟩:=cP h3;rw[e1,e2,e3,e4,jE h4];exact hb s a b c d
theorem IsL.len{D:Dc}{γ:Gh}{P:Frz}{vs:List Value}{as:List V}(h:IsL D γ P vs as):vs.length=as.length:=by
 induction h with
 | nil=>rfl
 | cons _ _ ih=>rw[KJ,KJ,ih]
theorem ir(W:Wd (cx w h mb) h){x:Str}{f:Addr}{fd:FuncData}{F:Fn}(hx:mgc w x=some (.ref f))(D:ak (cx w h mb) f fd F){as:List V}{n:Nat}(hb:∀(s:Shared) (vs:List Value),vs.length=n->BindsTo s fd ⟨vs,[]⟩ (F.pars.zip vs))(hn:as.length=n)(hh:as.all hand=true)
  {σ:Sg} (hst:Svs (F.pars.zip as) (aL F []) σ) {r:V} (hr:∃τ,RXs (cx w h mb) b σ F.body (.ret r) τ) (hb0:below 0 r=true):FnAt (cx w h mb) (b+1) x as r:=by
 obtain⟨τ,hr⟩:=hr;refine uz (ds:=[]) W hx D hh (λs γ P vs _ hv=>⟨[],?_,λ_ _=>.nil⟩) (by rw[Lg];exact hst) hr hb0
 rw[Lg];exact hb s vs (hv.len.trans hn)
theorem lift(W:Wd (cx w h mb) h){x:Str}{f:Addr}{fd:FuncData}{F:Fn}(hx:mgc w x=some (.ref f))(D:ak (cx w h mb) f fd F)(hk:jD F=true){as:List V}{n:Nat}(hb:∀(s:Shared) (vs:List Value),vs.length=n->BindsTo s fd ⟨vs,[]⟩ (F.pars.zip vs))(hn:as.length=n)(hh:as.all hand=true)
  {env:List (Str × V)} (he:F.pars.zip as=env) {r:V} (hr:∃τ,RXs (cx w h mb) b (sg0 F env) F.body (.ret r) τ) (hb0:below 0 r=true):FnAt (cx w h mb) (b+1) x as r:=by
 subst he;exact ir W hx D hb hn hh (pR hk as) hr hb0
end
end
section
section
variable{w:World}{h:Heap}{mb:Str->Option Value}{b:Nat}(W:Wd (cx w h mb) h)(hg:aj (cx w h mb) G)
include W hg
theorem Gl(s:Str):FnOk (cx w h mb) (b+1) "_index" [.int 1,.str s] (.int 1) :=
 (lift W (by rfl') (IW W) (by rfl') (of2 J4) rfl rfl (env:=[("n",.int 1),("what",.str s)]) (by rfl') (Gk W hg) rfl).ok
theorem lM:km (cx w h mb) (b+1):=⟨jq (by rfl'),jq (by rfl'),jo (by rfl'),Gl W hg _⟩
theorem Jl{cs:List Cell}{buf:Str}{pos:Int}(h3:cs[3]?=some (sio buf pos))(hl:cs.all (aD cs.length)=true):MeOk (cx w h mb) (b+1) "StringIO" "_StringIO__check" cs 3 [] .none cs:=by
 obtain⟨kd,K⟩:=gY (w:=w) (h:=h) (mb:=mb);have e3:∀x,(cs++[x])[3]?=some (sio buf pos):=λx=>by rw[Oh (Ld.mp h3).1];exact h3
 exact(El W).me W K (eQ (by rfl') (by rfl') (λ_=>rfl) (by rfl')) (z7 W hg (k:=0) (jq (by rfl')) (e3 _) (by simp)) (.inr ⟨rfl,rfl⟩) (dh rfl hl rfl)
noncomputable def rdS(l:List Nat)(p:Nat):Str:=match l[p]? with
 | some a=>mkS [a]
 | none=>""
noncomputable def rdP(l:List Nat)(p:Nat):Nat:=if p<l.length then p+1 else p
omit W hg in
theorem ig{c:Cell}(h:aD 8 c=true){n:Nat}(hn:8<=n):aD n c=true:=by
 have up:∀v,below 8 v=true->below n v=true:=λv hv=>by
  cases v with
  | own i=>exact decide_eq_true (Lk (of_decide_eq_true (show decide (i<8)=true from hv)) hn)
  | obj i=>exact decide_eq_true (Lk (of_decide_eq_true (show decide (i<8)=true from hv)) hn)
  | _=>rfl
 cases c with
 | vars l=>exact La.mpr λx hx=>up _ (La.mp h x hx)
 | inst c l=>exact La.mpr λx hx=>up _ (La.mp h x hx)
 | cell v=>cases v with
  | none=>rfl
  | some v=>exact up _ h
 | _=>rfl
omit W hg in
theorem qZ{c0 c2 c4 c5 c6:Cell}{W1:Str}{st:V}{tok buf:Str}{pos:Int}{q:Bool}(hl:low5 c0 c2 c4 c5 c6)(hst:below 0 st=true){n:Nat}(hn:8<=n)(r:List Cell)(hr:r.all (aD n)=true) :
  (([c0,shc W1 st tok,c2,sio buf pos,c4,c5,c6,.vars (("self",.obj 1)::("quoted",.bool q)::("escapedstate",.str " ")::[])]:List Cell)++r).all (aD n)=true:=by
 simp only[low5,Lw,M7,Ol,Lx] at hl;obtain⟨l0,l2,l4,l5,l6⟩:=hl;have h1:below n st=true:=wj hst;have h3:decide (3<n)=true:=decide_eq_true (by omega)
 have h4:decide (1<n)=true:=decide_eq_true (by omega)
 rw[R5,hr,Ol];simp only[Lw,M7,gJ,iK,v6,gM,gK,j5,j6,oH,wg,ig l0 hn,ig l2 hn,ig l4 hn,ig l5 hn,ig l6 hn,h1,h3,h4,Om]
theorem qY{c0 c2 c4 c5 c6:Cell}{W1:Str}{st:V}{tok buf:Str}{pos:Nat}{q:Bool}(hz:buf.cps.toList.length<=100000)(hp:pos<=buf.cps.toList.length)(hl:low5 c0 c2 c4 c5 c6)(hst:below 0 st=true) :
  RdOk (cx w h mb) (b+2) c0 c2 c4 c5 c6 W1 st tok buf pos q (rdS buf.cps.toList pos) (rdP buf.cps.toList pos:Nat):=by
 obtain⟨kd,K⟩:=gY (w:=w) (h:=h) (mb:=mb);have hc:MeOk (cx w h mb) (b+1) "StringIO" "_StringIO__check" (sgRd c0 (shc W1 st tok) c2 c4 c5 c6 (.vars (("self",.obj 1)::("quoted",.bool q)::("escapedstate",.str " ")::[])) buf pos [("self",.obj 3),("size",.int 1)]).cs 3 [] .none (sgRd c0 (shc W1 st tok) c2 c4 c5 c6 (.vars (("self",.obj 1)::("quoted",.bool q)::("escapedstate",.str " ")::[])) buf pos [("self",.obj 3),("size",.int 1)]).cs :=
  Jl W hg rfl (qZ (n:=9) hl hst (by decide) [.vars [("self",.obj 3),("size",.int 1)]] (by rfl'))
 have fin:∀ {r:Str} {pos':Int},RXs (cx w h mb) (b+1) (sgRd c0 (shc W1 st tok) c2 c4 c5 c6 (.vars (("self",.obj 1)::("quoted",.bool q)::("escapedstate",.str " ")::[])) buf pos [("self",.obj 3),("size",.int 1)]) dH.body (.ret (.str r)) (sgRd c0 (shc W1 st tok) c2 c4 c5 c6 (.vars (("self",.obj 1)::("quoted",.bool q)::("escapedstate",.str " ")::[])) buf pos' []) ->
   RdOk (cx w h mb) (b+2) c0 c2 c4 c5 c6 W1 st tok buf pos q r pos':=λ{r pos'} hr =>
  m5 (f:=543) (ds:=[.int 1]) W K (by rfl') (by rfl') (Ih W) (λs γ P x vs W' hv=>⟨vs,by
   obtain⟨v,rfl,_⟩:=hv.one;exact JN s (λa o e=>W'.kp a o e) x v,hv⟩) (by
   have e:dH.pars.zip [V.obj 3,V.int 1]=([("self",.obj 3),("size",.int 1)]:List (Str × V)):=by rfl'
   have:=fX (F:=dH) (by rfl') [c0,shc W1 st tok,c2,sio buf pos,c4,c5,c6,.vars (("self",.obj 1)::("quoted",.bool q)::("escapedstate",.str " ")::[])] [.obj 3,.int 1]
   rw[e] at this ⊢;exact this) hr (.inl rfl) (dh rfl (by have:=qZ (W1:=W1) (tok:=tok) (buf:=buf) (pos:=pos') (q:=q) hl hst (K3 8) [] rfl;rwa [Lg] at this) rfl)
 by_cases q1:pos<buf.cps.toList.length
 ·have e:rdS buf.cps.toList pos=mkS [buf.cps.toList[pos]]:=by unfold rdS;rw[Lb q1]
  have e2:rdP buf.cps.toList pos=pos+1:=if_pos q1;rw[e,e2];have tk:∀n,(buf.cps.toList.take n).drop pos=[buf.cps.toList[pos]]->n=pos+1∨n=buf.cps.toList.length->True:=λ_ _ _=>trivial;have s1:(buf.cps.toList.take (pos+1)).drop pos=[buf.cps.toList[pos]]:=by
   rw[PQ,Lb q1,List.drop_append_of_le_length (by rw[Mr];omega),NP (by rw[Mr];omega)]
   rfl
  by_cases q2:pos+1<buf.cps.toList.length
  ·have:=yV W hg (lM W hg) hz q2 hc
   rw[show seg buf.cps.toList (some pos) (some (pos+1))=[buf.cps.toList[pos]] from s1] at this;exact fin this
  ·have q3:pos+1=buf.cps.toList.length:=by omega
   have:=yU W hg (lM W hg) hz q3 hc;rw[show seg buf.cps.toList (some pos) (some buf.cps.toList.length)=[buf.cps.toList[pos]] from by rw[<-q3];exact s1,<-q3] at this
   exact fin this
 ·have e:rdS buf.cps.toList pos="":=by unfold rdS;rw[O1 (by omega)]
  have e2:rdP buf.cps.toList pos=pos:=if_neg q1;rw[e,e2];exact fin (yW W hg (lM W hg) hz (by omega) hc)
end
end
section
noncomputable def escQ(u:List Nat):List Nat:=u.flatMap λk=>if k=39 then [39,34,39,34,39] else [k]
noncomputable def aA(u:List Nat):List Nat:=if u.any Uns.contains then 39::(escQ u++[39]) else u
noncomputable abbrev iW:List Nat:=[61,98,107,110]
noncomputable def chkA(a:Nat):Bool := !decide (mkS [a]="\n") && !decide (a∈(" \t\r\n":Str).cps.toList) && !decide (a∈("'\"":Str).cps.toList) && !decide (a∈("\\":Str).cps.toList)
noncomputable def chkI(s a:Nat):Bool := !decide (mkS [a]="\n") && !decide (mkS [a]=mkS [s]) && !decide (a∈("\\":Str).cps.toList)
theorem qM{a:Nat}(h:a∈iW):decide (mkS [a]="\n")=false/\decide (a∈(" \t\r\n":Str).cps.toList)=false/\decide (a∈("'\"":Str).cps.toList)=false/\decide (a∈("\\":Str).cps.toList)=false:=by
 have k:iW.all chkA=true:=by rfl'
 have:=La.mp k a h;unfold chkA at this;simp only[Lx,Oj] at this;exact⟨this.1.1.1,this.1.1.2,this.1.2,this.2⟩
theorem Gm{a:Nat}(h:a∈[32,34,59,61,98,107,110]):decide (mkS [a]="\n")=false/\decide (mkS [a]=mkS [39])=false/\decide (a∈("\\":Str).cps.toList)=false:=by
 have k:([32,34,59,61,98,107,110]:List Nat).all (chkI 39)=true:=by rfl'
 have:=La.mp k a h;unfold chkI at this;simp only[Lx,Oj] at this;exact⟨this.1.1,this.1.2,this.2⟩
theorem zH:∀a∈Sig,a=39∨a=92∨a∈[32,34,59,61,98,107,110]:=by decide
theorem zF:∀a∈Sig,a∈Uns∨a∈iW:=by decide
theorem qD:∀a∈Sig,a<126:=by decide
theorem cH{l v:List Nat}{p a:Nat}(h:l.drop p=a::v):l[p]?=some a/\l.drop (p+1)=v/\p+1<=l.length:=by
 have e:l[p]?=some a:=by
  have:=congrArg (·[0]?) h;rw[Nj] at this;simpa using this
 refine⟨e,?_,(Ld.mp e).1⟩;have:=congrArg (List.drop 1) h;rw[Pj] at this;exact this
noncomputable def iH(rest:List Nat):V:=match rest with
 | []=>.none
 | _=>.str " "
noncomputable def endP(rest:List Nat)(p:Nat):Nat:=match rest with
 | []=>p
 | _=>p+1
section
variable{w:World}{h:Heap}{mb:Str->Option Value}{b:Nat}(W:Wd (cx w h mb) h)(hg:aj (cx w h mb) G)
include W hg
theorem cz{l:List Nat}{p a:Nat}{c0 c2 c4 c5 c6:Cell}{st:V}{tok:Str}{q:Bool}(hz:l.length<=100000)(ha:l[p]?=some a)(hl:low5 c0 c2 c4 c5 c6)(hst:below 0 st=true) :
  RdOk (cx w h mb) (b+2) c0 c2 c4 c5 c6 W0 st tok (mkS l) p q (mkS [a]) ((p+1:Nat):Int):=by
 have hp:p<l.length:=(Ld.mp ha).1;have:=qY (b:=b) W hg (buf:=mkS l) (pos:=p) (W1:=W0) (tok:=tok) (q:=q) (st:=st) hz (Nb hp) hl hst;rw[toList_mkS,show rdS l p=mkS [a] by unfold rdS;rw[ha],show rdP l p=p+1 from if_pos hp] at this
 exact this
theorem q7{l:List Nat}{p:Nat}{c0 c2 c4 c5 c6:Cell}{st:V}{tok:Str}{q:Bool}(hz:l.length<=100000)(ha:p=l.length)(hl:low5 c0 c2 c4 c5 c6)(hst:below 0 st=true) :
  RdOk (cx w h mb) (b+2) c0 c2 c4 c5 c6 W0 st tok (mkS l) p q "" (p:Int):=by
 have hp:¬ p<l.length:=by omega
 have:=qY (b:=b) W hg (buf:=mkS l) (pos:=p) (W1:=W0) (tok:=tok) (q:=q) (st:=st) hz (LK ha) hl hst;rw[toList_mkS,show rdS l p="" by unfold rdS;rw[O1 (by omega)],show rdP l p=p from if_neg hp] at this
 exact this
theorem pL{l rest t:List Nat}{p:Nat}{q:Bool}(hz:l.length<=100000)(hp:p<=l.length)(hd:l.drop p=rest)(hr:rest=[]∨∃r,rest=32::r)(ht:t≠[])(hl:t.length<=100000) :
  bQ (cx w h mb) (b+2) W0 (mkS l) (.str "a") (mkS t) (p:Nat) q (iH rest) (mkS t) (endP rest p:Nat) q:=by
 rcases hr with rfl | ⟨r,rfl⟩
 ·have hp':p=l.length:=by
   have:=congrArg Mx hd;rw[Ni] at this;simp at this;omega
  exact .stop λc0 c2 c4 c5 c6 z=>Aw W hg (shOk W) (q7 W hg hz hp' z rfl) hl
 ·obtain⟨e1,e2,e3⟩:=cH hd
  exact .stop λc0 c2 c4 c5 c6 z=>Ak W hg (shOk W) (cz W hg hz e1 z rfl) (by rfl') (by rfl') (by cases t with | nil=>exact absurd rfl ht | cons _ _=>rfl) hl
theorem Aa{l rest:List Nat}{q:Bool}(hz:l.length<=100000)(hr:rest=[]∨∃r,rest=32::r):∀(u t:List Nat) (p:Nat),p<=l.length->l.drop p=u++rest->(∀a∈u,a∈iW)->t≠[]->t.length+u.length<=100000 ->
  bQ (cx w h mb) (b+2) W0 (mkS l) (.str "a") (mkS t) (p:Nat) q (iH rest) (mkS (t++u)) (endP rest (p+u.length):Nat) q:=by
 intro l_
 induction l_ with
 | nil =>
  intro t p hp hd _ ht hl;rw[Lg];exact pL W hg hz hp hd hr ht hl
 | cons a u ih =>
  intro t p hp hd hs ht hl;obtain⟨e1,e2,e3⟩:=cH (show l.drop p=a::(u++rest) from hd);obtain⟨n1,n2,n3,n4⟩:=qM (hs a (.head _));rw[KJ] at hl;have ih:=ih (t++[a]) (p+1) e3 e2 (λx hx=>hs x (.tail _ hx)) (by simp) (by rw[KR,Ln];omega)
  rw[Lj,show p+1+u.length=p+(a::u).length by rw[KJ];omega] at ih
  exact .step (λc0 c2 c4 c5 c6 z=>Ah W hg (shOk W) (cz W hg hz e1 z rfl) n1 n2 n3 n4 (show t.length<=_ by omega)) ih
theorem Ae{l rest:List Nat}(hz:l.length<=100000)(hr:rest=[]∨∃r,rest=32::r):∀(u t:List Nat) (p:Nat) (q:Bool),l.drop p=escQ u++39::rest->(∀a∈u,a∈Sig)->t++u≠[]->t.length+u.length<=100000 ->
  ∃q',bQ (cx w h mb) (b+2) W0 (mkS l) (.str (mkS [39])) (mkS t) (p:Nat) q (iH rest) (mkS (t++u)) (endP rest (p+(escQ u).length+1):Nat) q':=by
 intro l_
 induction l_ with
 | nil =>
  intro t p q hd _ ht hl;obtain⟨e1,e2,e3⟩:=cH (show l.drop p=39::rest from hd);rw[Lg] at ht ⊢;exact⟨true,.step (λc0 c2 c4 c5 c6 z=>lV W hg (shOk W) (cz W hg hz e1 z rfl) (by rfl') (by rfl') (by rfl') (show t.length<=_ by simp at hl;omega)) (pL W hg hz e3 e2 hr ht (by simp at hl;omega))⟩
 | cons a u ih =>
  intro t p q hd hs ht hl;rw[KJ] at hl
  by_cases qa:a=39
  ·subst qa
   have ee:escQ (39::u)=39::34::39::34::39::escQ u:=rfl;rw[ee] at hd;obtain⟨a1,b1,_⟩:=cH (show l.drop p=39::(34::39::34::39::(escQ u++39::rest)) from hd);obtain⟨a2,b2,_⟩:=cH b1;obtain⟨a3,b3,_⟩:=cH b2;obtain⟨a4,b4,_⟩:=cH b3;obtain⟨a5,b5,_⟩:=cH b4;obtain⟨q',ih⟩:=ih (t++[39]) (p+1+1+1+1+1) true b5 (λx hx=>hs x (.tail _ hx)) (by simp) (by rw[KR,Ln];omega)
   rw[Lj,show p+1+1+1+1+1+(escQ u).length+1=p+(escQ (39::u)).length+1 by rw[ee];simp only[KJ];omega] at ih
   have hl2:(mkS (t++[39])).cps.toList.length<=100000:=by rw[toList_mkS,KR,Ln];omega
   have hl1:(mkS t).cps.toList.length<=100000:=by rw[toList_mkS];omega
   exact⟨q',.step (λc0 c2 c4 c5 c6 z=>lV W hg (shOk W) (cz W hg hz a1 z rfl) (by rfl') (by rfl') (by rfl') hl1)
    (.step (λc0 c2 c4 c5 c6 z=>rt_q W hg (shOk W) (cz W hg hz a2 z rfl) (by rfl') (by rfl') (by rfl') hl1)
    (.step (λc0 c2 c4 c5 c6 z=>qO W hg (shOk W) (cz W hg hz a3 z rfl) (by rfl') (by rfl') (by rfl') (by rfl') (by rfl') hl1)
    (.step (λc0 c2 c4 c5 c6 z=>lV W hg (shOk W) (cz W hg hz a4 z rfl) (by rfl') (by rfl') (by rfl') hl2)
    (.step (λc0 c2 c4 c5 c6 z=>rt_q W hg (shOk W) (cz W hg hz a5 z rfl) (by rfl') (by rfl') (by rfl') hl2) ih))))⟩
  ·have ee:escQ (a::u)=a::escQ u:=by unfold escQ;rw[Ml,if_neg qa];rfl
   rw[ee] at hd;obtain⟨a1,b1,_⟩:=cH (show l.drop p=a::(escQ u++39::rest) from hd);obtain⟨q',ih⟩:=ih (t++[a]) (p+1) true b1 (λx hx=>hs x (.tail _ hx)) (by simp) (by rw[KR,Ln];omega)
   rw[Lj,show p+1+(escQ u).length+1=p+(escQ (a::u)).length+1 by rw[ee,KJ];omega] at ih
   have hl1:(mkS t).cps.toList.length<=100000:=by rw[toList_mkS];omega
   have ha:=hs a (.head _)
   by_cases qb:a=92
   ·subst qb
    exact⟨q',.step (λc0 c2 c4 c5 c6 z=>Av W hg (shOk W) (cz W hg hz a1 z rfl) (by rfl') (by rfl') (by rfl') (by rfl') (by rfl') (by rfl') hl1) ih⟩
   ·have hm:a∈[32,34,59,61,98,107,110]:=by
     exact((zH a ha).resolve_left qa).resolve_left qb
    obtain⟨n1,n2,n3⟩:=Gm hm;exact⟨q',.step (λc0 c2 c4 c5 c6 z=>qO W hg (shOk W) (cz W hg hz a1 z rfl) n1 (by rfl') (by rfl') n2 n3 hl1) ih⟩
theorem Ab{l rest u:List Nat}{p:Nat}(hz:l.length<=100000)(hr:rest=[]∨∃r,rest=32::r)(hd:l.drop p=aA u++rest)(hs:∀a∈u,a∈Sig)(hu:u≠[])(hl:u.length<=90000) :
  ∃q,bQ (cx w h mb) (b+2) W0 (mkS l) (.str " ") "" (p:Nat) false (iH rest) (mkS u) (endP rest (p+(aA u).length):Nat) q:=by
 have l0:("":Str).cps.toList.length<=100000:=by decide +kernel
 unfold aA at hd ⊢;split
 ·rename_i q
  rw[if_pos q] at hd;obtain⟨a1,b1,_⟩:=cH (show l.drop p=39::(escQ u++[39]++rest) from hd);rw[Lj] at b1;obtain⟨q',ih⟩:=Ae (b:=b) W hg hz hr u [] (p+1) false b1 hs hu (by rw[LC];omega)
  rw[Mj,show p+1+(escQ u).length+1=p+(39::(escQ u++[39])).length by simp only[KJ,KR,LC];omega] at ih
  exact⟨q',.step (λc0 c2 c4 c5 c6 z=>Ai W hg (shOk W) (cz W hg hz a1 z rfl) (by rfl') (by rfl') (by rfl') (by rfl') (by rfl') l0) ih⟩
 ·rename_i q
  rw[if_neg q] at hd;cases u with
  | nil=>exact absurd rfl hu
  | cons a u =>
   have hsf:∀x∈a::u,x∈iW:=λx hx=>by
    have h1:=hs x hx;have h2:Uns.contains x=false:=by
     cases e:Uns.contains x with
     | false=>rfl
     | true=>exact absurd (R3.mpr ⟨x,hx,e⟩) q
    exact(zF x h1).resolve_left λm=>by rw[M6.mpr m] at h2;cases h2
   obtain⟨a1,b1,c1⟩:=cH (show l.drop p=a::(u++rest) from hd);obtain⟨n1,n2,n3,n4⟩:=qM (hsf a (.head _));rw[KJ] at hl;have ih:=Aa (b:=b) W hg (q:=false) hz hr u [a] (p+1) c1 b1 (λx hx=>hsf x (.tail _ hx)) (by simp) (by rw[Ln];omega)
   rw[show p+1+u.length=p+(a::u).length by rw[KJ];omega] at ih
   exact⟨false,.step (λc0 c2 c4 c5 c6 z=>Aj W hg (shOk W) (cz W hg hz a1 z rfl) n1 n2 n3 n4 l0) ih⟩
end
end
section
noncomputable def az:List (List Nat)->List Nat
 | []=>[]
 | [x]=>aA x
 | x::y::r=>aA x++32::az (y::r)
noncomputable def posF:List (List Nat)->Nat->Nat->Nat
 | [],p,_=>p
 | _::_,p,0=>p
 | x::r,p,k+1=>posF r (if r=[] then p+(aA x).length else p+(aA x).length+1) k
noncomputable def stF(n k:Nat):V:=if k<n then .str " " else .none
noncomputable def bV(r:List (List Nat)):List Nat:=if r=[] then [] else 32::az r
theorem dY(x:List Nat)(r:List (List Nat)):az (x::r)=aA x++bV r:=by
 cases r with
 | nil=>exact(Lg _).symm
 | cons y r=>rfl
theorem mq(r:List (List Nat)):bV r=[]∨∃t,bV r=32::t:=by
 unfold bV;split
 ·exact .inl rfl
 ·exact .inr ⟨_,rfl⟩
theorem tW{l x:List Nat}{r:List (List Nat)}{p:Nat}(h:l.drop p=az (x::r)):l.drop (if r=[] then p+(aA x).length else p+(aA x).length+1)=az r:=by
 rw[dY] at h;have e:l.drop (p+(aA x).length)=bV r:=by
  rw[<-Pj,h,QZ]
 unfold bV at e;split
 ·rename_i q;rw[if_pos q] at e;rw[e,q];rfl
 ·rename_i q;rw[if_neg q] at e
  rw[<-Pj,e];rfl
theorem Cr:∀ {xs:List (List Nat)} {l:List Nat} {p:Nat},p<=l.length->l.drop p=az xs->posF xs p xs.length=l.length:=by
 intro l_
 induction l_ with
 | nil =>
  intro l p hp h;have:=congrArg Mx h;rw[Ni] at this;have h0:(az []).length=0:=rfl;show p=_;omega
 | cons x r ih =>
  intro l p hp h;have e:=congrArg Mx h;rw[Ni,dY,KR] at e;show posF r _ r.length=_;refine ih ?_ (tW h)
  by_cases q:r=[]
  ·rw[if_pos q];omega
  ·have:(bV r).length=(az r).length+1:=by unfold bV;rw[if_neg q];rfl
   rw[if_neg q];omega
theorem Jp{m n:Nat}(hn:m<=n){c:Cell}(h:aD m c=true):aD n c=true:=by
 have up:∀v,below m v=true->below n v=true:=λv hv=>by
  cases v with
  | own i=>exact decide_eq_true (Lk (of_decide_eq_true (show decide (i<m)=true from hv)) hn)
  | obj i=>exact decide_eq_true (Lk (of_decide_eq_true (show decide (i<m)=true from hv)) hn)
  | _=>rfl
 cases c with
 | vars l=>exact La.mpr λx hx=>up _ (La.mp h x hx)
 | inst c l=>exact La.mpr λx hx=>up _ (La.mp h x hx)
 | cell v=>cases v with
  | none=>rfl
  | some v=>exact up _ h
 | _=>rfl
theorem vV{K:Frag}{a:Addr}(h:(K.lookup a).any (λo=>o.cls == .type "type")=true):∃o,K.lookup a=some o/\o.cls=.type "type":=by
 obtain⟨o,h1,h2⟩:=any_some h;exact⟨o,h1,beq_iff_eq.mp h2⟩
theorem CmOk.cut{c:Cx}{b:Nat}{k:Str}{cs cs1:List Cell}{as:List V}{kv:List (Str × V)}{r:V}(hk:CmOk c b k cs as kv r cs1){m:Nat}(h1:cs.length<=m)(h2:m<=cs1.length)(h3:(cs1.take m).all (aD m)=true)(h4:below m r=true):CmOk c b k cs as kv r (cs1.take m):=by
 obtain⟨fv,hf,hk⟩:=hk;refine⟨fv,hf,λlv N vs ks E hv hks=>?_⟩;obtain⟨q1,q2⟩:=hk lv N vs ks E hv hks;refine⟨q1,wpAny_mono q2 (λv s' q_=>Exists.p5 q_ λγ' P' g Y i=>?_) λ_ _ q=>q⟩;have hkk:N.γ.k=cs.length:=N.Y.st.real.k;have hk':γ'.k=cs1.length:=Y.st.real.k;have gl:(⟨γ'.ρ,γ'.kc,m⟩:Gh).Le γ':=⟨by show m<=γ'.k;omega,λ_ _=>rfl,λ_ _=>rfl⟩
 exact⟨⟨γ'.ρ,γ'.kc,m⟩,P',⟨by show N.γ.k<=m;omega,g.ρ,g.kc⟩,Y.cut (γ:=⟨γ'.ρ,γ'.kc,m⟩) gl h2 h3,i.cut gl h4⟩
section
variable{w:World}{h:Heap}{mb:Str->Option Value}{b:Nat}(W:Wd (cx w h mb) h)(hg:aj (cx w h mb) G)
include W hg
theorem pJ{l:List Nat}(hz:l.length<=100000):∀(xs:List (List Nat)) (p k:Nat) (t:List Nat),l.drop p=az xs->(∀x∈xs,x≠[]/\x.length<=90000/\∀a∈x,a∈Sig)->xs[k]?=some t ->
  ∃q,bQ (cx w h mb) (b+2) W0 (mkS l) (.str " ") "" (posF xs p k:Nat) false (stF xs.length (k+1)) (mkS t) (posF xs p (k+1):Nat) q
 | [],p,k,t,hd,hx,ht=>by simp at ht
 | x::r,p,0,t,hd,hx,ht=>by
  obtain rfl:x=t:=by simpa using ht
  obtain⟨h1,h2,h3⟩:=hx x (.head _);rw[dY] at hd;obtain⟨q,hq⟩:=Ab (b:=b) W hg hz (mq r) hd h3 h1 h2;refine⟨q,?_⟩;have e1:iH (bV r)=stF (x::r).length (0+1):=by
   unfold stF;cases r with
   | nil=>rfl
   | cons y r=>rw[if_pos (by simp)];rfl
  have e2:endP (bV r) (p+(aA x).length)=posF (x::r) p (0+1):=by
   cases r with
   | nil=>rfl
   | cons y r=>rfl
  rw[e1,e2] at hq;exact hq
 | x::r,p,k+1,t,hd,hx,ht=>by
  have ht':r[k]?=some t:=by simpa using ht
  obtain⟨q,hq⟩:=pJ hz r _ k t (tW hd) (λy hy=>hx y (.tail _ hy)) ht';refine⟨q,?_⟩;have e1:stF (x::r).length (k+1+1)=stF r.length (k+1):=by
   unfold stF;rw[KJ]
   by_cases c:k+1<r.length
   ·rw[if_pos c,if_pos (by omega)]
   ·rw[if_neg c,if_neg (by omega)]
  rw[e1];exact hq
theorem xV{xs:List (List Nat)}(hz:(az xs).length<=100000)(h0:xs≠[])(hx:∀x∈xs,x≠[]/\x.length<=90000/\∀a∈x,a∈Sig) :
  Toks (cx w h mb) (b+2) (mkS (az xs)) (xs.map mkS) (stF xs.length) (λk=>(posF xs 0 k:Nat)):=by
 have hn:0<xs.length:=OJ.mpr h0;refine⟨if_pos hn,?_,λk=>?_,λt ht=>?_,λk t hk=>?_,?_⟩
 ·cases xs with
  | nil=>rfl
  | cons _ _=>rfl
 ·unfold stF
  split <;> rfl
 ·obtain⟨x,hx',rfl⟩:=K9.mp ht
  refine decide_eq_false λe=>(hx x hx').1 ?_;have:=congrArg (λs:Str=>s.cps.toList) e;rw[toList_mkS] at this;rw[this];rfl'
 ·rw[Lf] at hk
  obtain⟨x,hk',rfl⟩:=M8.mp hk;have hlt:k<xs.length:=(Ld.mp hk').1;obtain⟨q,hq⟩:=pJ (b:=b) W hg hz xs 0 k x rfl hx hk';rw[show stF xs.length k=.str " " from if_pos hlt];exact⟨q,hq⟩
 ·rw[KN]
  have e1:stF xs.length xs.length=.none:=if_neg (Mq _);have e2:stF xs.length (xs.length+1)=.none:=if_neg (by omega)
  have e3:posF xs 0 xs.length=(az xs).length:=Cr (K5 _) rfl;have e4:∀(ys:List (List Nat)) (p:Nat),posF ys p (ys.length+1)=posF ys p ys.length:=by
   intro ys
   induction ys with
   | nil=>intro p;rfl
   | cons y r ih=>intro p;exact ih _
  rw[e1,e2,e4,e3];exact .stop λc0 c2 c4 c5 c6 z=>Aq W hg (shOk W) (q7 W hg hz rfl z rfl) (by decide +kernel)
theorem zB(Y:YPw w h){c0 c1 c2:Cell}{s:Str}(hl:[c0,c1,c2].all (aD 3)=true):CmOk (cx w h mb) (b+3) "StringIO" [c0,c1,c2] [.str s] [] (.obj 3) [c0,c1,c2,sio s 0]:=by
 obtain⟨kd,K⟩:=gY (w:=w) (h:=h) (mb:=mb);simp only[Lw,M7,Ol,Lx] at hl;obtain⟨l0,l1,l2⟩:=hl;have hS:fV (cx w h mb) "StringIO" 597:=⟨by rfl',vV (by rfl')⟩
 have hY:fV (cx w h mb) "BytesIO" 350:=⟨by rfl',vV (by rfl')⟩
 have up:∀ {c:Cell} {n:Nat},3<=n->aD 3 c=true->aD n c=true:=λ{c n} hn hc=>Jp hn hc;have hm:MeOk (cx w h mb) (b+1) "StringIO" "_StringIO__translated" [c0,c1,c2,sio "" 0,.vars [("self",.obj 3),("initial_value",.str s),("newline",.str "\n")]] 3 [.str s] (.str s) [c0,c1,c2,sio "" 0,.vars [("self",.obj 3),("initial_value",.str s),("newline",.str "\n")]]:=by
  have e:fL.pars.zip [V.obj 3,V.str s]=([("self",.obj 3),("s",.str s)]:List (Str × V)):=by rfl'
  have h5:([c0,c1,c2,sio "" 0,.vars [("self",.obj 3),("initial_value",.str s),("newline",.str "\n")]]:List Cell).all (aD 5)=true:=by
   have d3:decide (3<5)=true:=rfl;simp only[Lw,M7,gJ,iK,gM,gK,j5,up (by decide:3<=5) l0,up (by decide:3<=5) l1,up (by decide:3<=5) l2,d3,Om]
  exact m5 (f:=374) (ds:=[.str s]) W K (by rfl') (by rfl') (Ig W) (λs' γ P x vs W' hv=>⟨vs,by
   obtain⟨v,rfl,_⟩:=hv.one;exact JM s' x v,hv⟩) (by
   have:=fX (F:=fL) (by rfl') [c0,c1,c2,sio "" 0,.vars [("self",.obj 3),("initial_value",.str s),("newline",.str "\n")]] [.obj 3,.str s]
   rw[e] at this ⊢;exact this) (yJ W hg qC) (.inl rfl) (dh rfl h5 rfl)
 have hi:findIn (Kc w) (.ref 597) "__init__"=some (some (.ref 367)):=by rfl'
 have e:fM.pars.zip [V.obj 3,V.str s,V.str "\n"]=([("self",.obj 3),("initial_value",.str s),("newline",.str "\n")]:List (Str × V)):=by rfl'
 have main:=Jf (c:=cx w h mb) (cs:=[c0,c1,c2]) (a1:=.str s) (ds:=[.str s,.str "\n"]) W K (tR Y) rY hS.mg (Iu W) JX (by rfl') (by rfl') (by rfl') (by rfl') (λ_=>rfl) (Dy hg hS hY (by rfl') (by rfl') (tR Y) rY) hi (by rfl') (Ii W) (by simp only[Lw,M7,Ol,Lx];exact⟨l0,l1,l2⟩)
  (λs' γ P x vs W' hv=>by
   obtain⟨v,rfl,iv⟩:=hv.one;exact⟨[v,.str "\n" 756],JP s' (λa o e=>W'.kp a o e) x v,.cons iv (.cons (.pu (.str _ _)) .nil)⟩)
  (by
   have:=fX (F:=fM) (by rfl') ([c0,c1,c2]++[.inst "StringIO" []]) [.obj 3,.str s,.str "\n"]
   rw[e] at this;rw[<-e] at this;exact this) (by rw[e];exact zE W hg qC hm)
 have l34:([c0,c1,c2,sio s 0]:List Cell).all (aD 4)=true:=by
  simp only[Lw,M7,iK,gK,j5,up (by decide:3<=4) l0,up (by decide:3<=4) l1,up (by decide:3<=4) l2,Om]
 exact main.cut (m:=4) (show 3<=4 by decide) (show 4<=5 by decide) l34 rfl
theorem zN(Y:YPw w h){s:Str}:CmOk (cx w h mb) (b+5) "shlex" [.vars [("s",.str s),("comments",.bool false),("posix",.bool true)]] [.str s] [("posix",.bool true)] (.obj 1) [.vars [("s",.str s),("comments",.bool false),("posix",.bool true)],.inst "shlex" shl0,.vars [],sio s 0]:=by
 obtain⟨kd,K⟩:=gZ (w:=w) (h:=h) (mb:=mb);have e:fU.pars.zip [V.obj 1,V.str s,V.none,V.bool true,V.bool false]=([("self",.obj 1),("instream",.str s),("infile",.none),("posix",.bool true),("punctuation_chars",.bool false)]:List (Str × V)):=by rfl'
 have hl:([.vars [("s",.str s),("comments",.bool false),("posix",.bool true)],.inst "shlex" [],.vars [("self",.obj 1),("instream",.str s),("infile",.none),("posix",.bool true),("punctuation_chars",.bool false)]]:List Cell).all (aD 3)=true:=by
  have d1:decide (1<3)=true:=rfl;simp only[Lw,M7,gJ,iK,gM,gK,j6,oH,d1,Om]
 exact Jg (c:=cx w h mb) (b:=b+3) (cs:=[.vars [("s",.str s),("comments",.bool false),("posix",.bool true)]]) (as:=[.str s]) (kv:=[("posix",.bool true)]) (ds:=[.str s,.none,.bool true,.bool false]) (fI:=656) W K (by rfl') (by rfl') (by rfl') (by rfl') (I4 W)
  (λs' γ P x vs ks W' hv hk=>by
   obtain⟨v,rfl,iv⟩:=hv.one;obtain⟨k,rfl,ik⟩:=hk.one;exact⟨[v,.none,k,.bool false],J5 s' (λa o e=>W'.kp a o e) x v k,.cons iv (.cons (.pu .none) (.cons ik (.cons (.pu (.bool _)) .nil)))⟩)
  (by
   have:=fX (F:=fU) (by rfl') ([.vars [("s",.str s),("comments",.bool false),("posix",.bool true)]]++[.inst "shlex" []]) [.obj 1,.str s,.none,.bool true,.bool false]
   rw[e] at this;rw[<-e] at this;exact this) (by rw[e];exact Gn W hg shIn (zB W hg Y hl))
theorem yZ(Y:YPw w h){xs:List (List Nat)}(hz:(az xs).length<=100000)(h0:xs≠[])(hn:xs.length<=1000)(hx:∀x∈xs,x≠[]/\x.length<=90000/\∀a∈x,a∈Sig) :
  FnAt (cx w h mb) (b+8) "split" [.str (mkS (az xs))] (tv (xs.map mkS)):=by
 obtain⟨kd,K⟩:=gZ (w:=w) (h:=h) (mb:=mb);have hl:REff (cx w h mb) (b+7) ⟨[lvP],csP (mkS (az xs))⟩ (retE (nthS cW.body 4)) (tv (xs.map mkS)) ⟨[lvP],[.vars [("s",.str (mkS (az xs))),("comments",.bool false),("posix",.bool true),("lex",.obj 1)],shc W0 (stF xs.length ((xs.map mkS).length+1)) "",.vars [],sio (mkS (az xs)) (posF xs 0 ((xs.map mkS).length+1):Nat),.dead]⟩:=by
  have hc:∀n,5<=n->aD n (.vars [("s",.str (mkS (az xs))),("comments",.bool false),("posix",.bool true),("lex",.obj 1)])=true:=λn hn=>by
   have d1:decide (1<n)=true:=decide_eq_true (by omega)
   simp only[Lw,M7,gJ,gM,gK,j6,d1,Om]
  show REff _ _ _ (.Call (.Name "list" _) [.Name "lex" _] [] _) _ _;exact Er (b:=b+3) (pos:=λk=>(posF xs 0 k:Nat)) W hg K (m_rt W) (m_gt W) (m_nx W) (m_it W) (by rfl') (by rfl') (shOk W) (shOk W) (shOk W) gtOk (by rw[KN];omega) (xV W hg hz h0 hx) rfl rfl (hc 5 (K3 _)) hc (.bis (by rfl') (by rfl') G8) (R.name hg rfl (.loc (by rfl') rfl (by with_unfolding_all rfl)))
 have e:cW.pars.zip [V.str (mkS (az xs)),V.bool false,V.bool true]=([("s",.str (mkS (az xs))),("comments",.bool false),("posix",.bool true)]:List (Str × V)):=by rfl'
 obtain⟨τ,hr⟩:=yX W hg (b:=b+7) (s:=mkS (az xs)) (ws:=xs.map mkS) shIn (zN W hg Y) hl;exact uz (ds:=[.bool false,.bool true]) W (by rfl') (H8 W) rfl (λs' γ P vs W' hv=>by
  obtain⟨v,rfl,iv⟩:=hv.one;exact⟨[.bool false,.bool true],JF s' (λa o e=>W'.kp a o e) v,λ_ _=>.cons (.pu (.bool _)) (.cons (.pu (.bool _)) .nil)⟩) (by
   have:=pR (F:=cW) (by rfl') [.str (mkS (az xs)),.bool false,.bool true]
   rw[e] at this;rw[<-e] at this;exact this) (by rw[e];exact hr) rfl
end
end
section
theorem Bw(c:Nat)(z:Str):∀parts:List Str,(∀p∈parts,c∉p.cps.toList)->(Str.join ⟨#[c]⟩ parts).cps.toList.flatMap (λk=>if k=c then z.cps.toList else [k])=(Str.join z parts).cps.toList:=by
 have free:∀l:List Nat,c∉l->l.flatMap (λk=>if k=c then z.cps.toList else [k])=l:=by
  intro l
  induction l with
  | nil=>intro _;rfl
  | cons a l ih =>
   intro h;rw[KZ,not_or] at h;rw[Ml,if_neg (λe=>h.1 e.symm),ih h.2];rfl
 intro parts
 induction parts with
 | nil=>intro _;rfl
 | cons p r ih =>
  intro h;cases r with
  | nil=>exact free _ (h p (.head _))
  | cons q r =>
   have ih:=ih λa ha=>h a (.tail _ ha);show(p++⟨#[c]⟩++Str.join ⟨#[c]⟩ (q::r)).cps.toList.flatMap _=(p++z++Str.join z (q::r)).cps.toList;simp only[Str.cps_append,Oq,QT];rw[free _ (h p (.head _)),ih];show p.cps.toList++[c].flatMap _++_=_;rw[Ml,if_pos rfl,QS,Lg]
theorem Bv(x z:Str)(c:Nat):(Txt.replace x ⟨#[c]⟩ z).cps.toList=x.cps.toList.flatMap (λk=>if k=c then z.cps.toList else [k]):=by
 rw[StrLaws.replace_one,<-Bw c z _ (StrLaws.split_free x c),StrLaws.join_split]
theorem vp(u:List Nat):(Txt.replace (mkS u) "'" "'\"'\"'").cps.toList=escQ u:=by
 rw[show(KY "'")=⟨#[39]⟩ by rfl',Bv]
 rw[show(KY "'\"'\"'").cps.toList=[39,34,39,34,39] by rfl']
 rfl
theorem vq(u:List Nat):(escQ u).length<=5*u.length:=by
 induction u with
 | nil=>exact K3 _
 | cons a u ih =>
  unfold escQ at ih ⊢;rw[Ml,KR,KJ];split <;> simp only[KJ,LC] <;> omega
theorem xP(xs:List (List Nat)):Txt.join " " (xs.map λu=>mkS (aA u))=mkS (az xs):=by
 have e1:Txt.join " " (xs.map λu=>mkS (aA u))=Str.join " " (xs.map λu=>mkS (aA u)):=StrLaws.glued_eq_join _ _;rw[e1]
 induction xs with
 | nil=>rfl'
 | cons x r ih =>
  cases r with
  | nil=>rfl
  | cons y r =>
   show mkS (aA x)++KY " "++Str.join " " ((y::r).map λu=>mkS (aA u))=_;rw[ih ((StrLaws.glued_eq_join _ _))];refine(bW _).symm.trans (congrArg mkS ?_);simp only[Str.cps_append,Oq];rw[show(KY " ").cps.toList=[32] by rfl']
   show aA x++[32]++az (y::r)=aA x++32::az (y::r);rw[Lj];rfl
theorem GD(xs:List (List Nat)):bc " " (xs.map λu=>mkS (aA u))<=(az xs).length+1:=by
 unfold bc;rw[show(KY " ").length=1 by rfl']
 induction xs with
 | nil=>exact K5 _
 | cons x r ih =>
  cases r with
  | nil =>
   show((aA x).length+0)+1*1<=(aA x).length+1;omega
  | cons y r =>
   rw[Li,Li,Mw,KJ];have e:(az (x::y::r)).length=(aA x).length+((az (y::r)).length+1):=by
    show(aA x++32::az (y::r)).length=_;rw[KR,KJ]
   have e2:(mkS (aA x)).length=(aA x).length:=rfl;rw[e,e2];omega
section
variable{w:World}{h:Heap}{mb:Str->Option Value}{b:Nat}
theorem p_F:aV (cx w h mb) "_twin_re_1" cF 0:=⟨⟨49,48,.str "[^\\w@%+=:,./-]" 332,.int 256 369,.none,.none,0,0,(cF.toList.map rI).toArray,0,by rfl',by rfl',by rfl',by rfl'⟩⟩
theorem bndF:wM (cx w h mb) "_find_unsafe" "_twin_re_1":=⟨752,49,_,#[.builtin "re.Pattern.search",.ref 49],by rfl',by rfl',(by rfl':(cx w h mb).K 752=some ⟨.type "builtin_function_or_method",none,.fields #[.builtin "re.Pattern.search",.ref 49],#[]⟩),rfl,rfl,rfl,rfl⟩
variable(W:Wd (cx w h mb) h)(hg:aj (cx w h mb) G)
theorem m9{cd T:Addr}(Y:YPw w h)(h1:codeHdIn (Kc w) cd T=true)(h2:(Vc w).lookup T=some (tabObj #[]))(h3:(4==T)=false)(h4:T≠cStatics/\mainGlobals≠T):bz (cx w h mb) cd T :=
 ⟨codeHd_of_K (λa o e=>ypK Y e) h1,Y _ _ h2,⟨4,⟨.type "module",some 0,.plain,#[]⟩,by rfl',by decide,by decide,(λe=>by rw[e,beq_self_eq_true] at h3;cases h3),ypK Y (by rfl'),rfl,rfl,rfl⟩,h4⟩
theorem Fb(Y:YPw w h):bz (cx w h mb) 750 746:=m9 Y (by rfl') (by rfl') rfl (by decide)
include W hg
omit W hg in
theorem xx{u:List Nat}(hs:∀a∈u,a∈Sig)(hl:u.length<=100000)(q:u.any Uns.contains=false):FnOk (cx w h mb) b "_find_unsafe" [.str (mkS u)] .none :=
 uy bndF p_F (show u.length<=_ by omega) (.no (xG λx hx=>⟨hs x hx,by
  cases e:Uns.contains x with
  | false=>rfl
  | true=>rw[R3.mpr ⟨x,hx,e⟩] at q;cases q⟩))
omit W hg in
theorem xF{u:List Nat}(hs:∀a∈u,a∈Sig)(hl:u.length<=100000)(q:u.any Uns.contains=true):∃sp,FnOk (cx w h mb) b "_find_unsafe" [.str (mkS u)] (.mat "_twin_re_1" (mkS u) sp):=by
 obtain⟨v,x,l,e,h1,h2⟩:∃v x l,u=v++x::l/\(∀y∈v,Uns.contains y=false)/\Uns.contains x=true:=by
  clear hs hl
  induction u with
  | nil=>cases q
  | cons a u ih =>
   cases ha:Uns.contains a with
   | true=>exact⟨[],a,u,rfl,λ_ h=>(nomatch h),ha⟩
   | false =>
    rw[Qc,ha,Qi] at q;obtain⟨v,x,l,e,h1,h2⟩:=ih q;exact⟨a::v,x,l,by rw[e];rfl,λy hy=>(KZ.mp hy).elim (λz=>z▸ha) (h1 y),h2⟩
 exact⟨_,uy bndF p_F (show u.length<=_ by omega) (.yes (xu hl e (λy hy=>⟨hs y (e▸O7 _ hy),h1 y hy⟩) (hs x (e▸Ob _ (.head _))) h2) (.inl ⟨rfl,rfl⟩))⟩
theorem BZ{u:List Nat}(h0:u≠[])(hs:∀a∈u,a∈Sig)(hl:u.length<=90000):FnAt (cx w h mb) (b+1) "quote" [.str (mkS u)] (.str (mkS (aA u))):=by
 have e:fP.pars.zip [V.str (mkS u)]=([("s",.str (mkS u))]:List (Str × V)):=by rfl'
 refine lift W (by rfl') (Im W) (by rfl') (of1 JT) rfl rfl e ?_ rfl
 cases u with
 | nil=>exact absurd rfl h0
 | cons a l =>
  have lz:(a::l).length<=16777216:=by omega
  cases q:(a::l).any Uns.contains with
  | false =>
   rw[show aA (a::l)=a::l by unfold aA;rw[q];rfl]
   exact BP W hg lz (xx hs (by omega) q)
  | true =>
   obtain⟨sp,hf⟩:=xF (b:=b) hs (by omega) q
   have hr:=BR W hg (by omega) hf (by rw[vp];have:=vq (a::l);omega) (by
    rw[show(KY "'\"'\"'").length=5 by rfl']
    show(a::l).length+((a::l).length+1)*5<=_;omega)
   rw[vp] at hr;rw[show aA (a::l)=((KY "'").cps.toList++escQ (a::l))++(KY "'").cps.toList by
    unfold aA;rw[q,show(KY "'").cps.toList=[39] by rfl'];rfl]
   exact hr
theorem FZ(Y:YPw w h){xs:List (List Nat)}(hx:∀u∈xs,u≠[]/\u.length<=90000/\∀a∈u,a∈Sig)(hn:xs.length<=1000)(hz:(az xs).length<=1000000) :
  FnAt (cx w h mb) (b+3) "join_shlex" [.lst ((xs.map mkS).map .str)] (.str (mkS (az xs))):=by
 have e:dM.pars.zip [V.lst ((xs.map mkS).map .str)]=([("split_command",.lst ((xs.map mkS).map .str))]:List (Str × V)):=by rfl'
 refine lift W (by rfl') (IK W) (by rfl') (of1 J2) rfl rfl e ?_ rfl
 rw[<-xP];refine FT W hg (b:=b+1) (Fb Y) (by rfl') (by rw[KN,KN];exact hn) (by simp) (λj d hd=>?_) (KQ (GD xs) (by omega))
 rw[Lq,Lf] at hd;obtain⟨u,hu,rfl⟩:=M8.mp hd;have e2:(xs.map λu=>mkS (aA u)).getD j ""=mkS (aA u):=by rw[Mh,Lf,hu];rfl
 rw[e2];obtain⟨h1,h2,h3⟩:=hx u (Oa hu);exact BZ W hg h1 h3 h2
end
end
section
section
variable{w:World}{h:Heap}{mb:Str->Option Value}{b:Nat}
theorem p_T:aV (cx w h mb) "HEADER_TOKEN_RE" cT 1:=⟨⟨776,775,.str "^\\s*([^=\\s;,]+)" 1295,.int 32 1340,.none,.none,0,0,(cT.toList.map rI).toArray,0,by rfl',by rfl',by rfl',by rfl'⟩⟩
theorem p_Q:aV (cx w h mb) "HEADER_QUOTED_VALUE_RE" cQ 1:=⟨⟨781,780,.str "^\\s*=\\s*\\\"([^\\\"\\\\]*(?:\\\\.[^\\\"\\\\]*)*)\\\"" 1343,.int 32 1418,.none,.none,0,0,(cQ.toList.map rI).toArray,0,by rfl',by rfl',by rfl',by rfl'⟩⟩
theorem p_V:aV (cx w h mb) "HEADER_VALUE_RE" cV 1:=⟨⟨786,785,.str "^\\s*=\\s*([^\\s;,]*)" 1421,.int 32 1473,.none,.none,0,0,(cV.toList.map rI).toArray,0,by rfl',by rfl',by rfl',by rfl'⟩⟩
theorem p_E:aV (cx w h mb) "HEADER_ESCAPE_RE" cE 1:=⟨⟨791,790,.str "\\\\(.)" 1476,.int 32 1496,.none,.none,0,0,(cE.toList.map rI).toArray,0,by rfl',by rfl',by rfl',by rfl'⟩⟩
theorem p_J:aV (cx w h mb) "HEADER_JOIN_TOKEN_RE" cJ 0:=⟨⟨803,802,.str "[!#$%&'*+\\-.^_`|~0-9A-Za-z]+" 1515,.int 32 1541,.none,.none,0,0,(cJ.toList.map rI).toArray,0,by rfl',by rfl',by rfl',by rfl'⟩⟩
theorem p_S:aV (cx w h mb) "HEADER_JOIN_ESCAPE_RE" cS 1:=⟨⟨808,807,.str "([\\\"\\\\])" 1544,.int 32 1569,.none,.none,0,0,(cS.toList.map rI).toArray,0,by rfl',by rfl',by rfl',by rfl'⟩⟩
theorem p_7:aV (cx w h mb) "_twin_re_7" c7 0:=⟨⟨764,763,.str "^[=\\s;]*" 1258,.int 32 1283,.none,.none,0,0,(c7.toList.map rI).toArray,0,by rfl',by rfl',by rfl',by rfl'⟩⟩
variable(W:Wd (cx w h mb) h)(hg:aj (cx w h mb) G)
include W hg
theorem xq{re t:Str}{sp:List (Nat × Nat)}{p:Nat × Nat}(hp:sp[0]?=some p)(hz:t.cps.toList.length<=100000):FnOk (cx w h mb) (b+1) "unmatched" [.mat re t sp] (.str (unmP t p)) :=
 (lift W (by rfl') (H6 W) (by rfl') (of1 JC) rfl rfl (by rfl':jc.pars.zip [V.mat re t sp]=([("match",.mat re t sp)]:List (Str × V))) (xn W hg hp hz) rfl).ok
theorem reOk(Y:YPw w h):ReOk (cx w h mb) (b+1):=⟨p_T,p_Q,p_V,p_E,p_J,p_S,p_7,λre t sp p hp hz=>xq W hg hp hz,⟨797,793,m9 Y (by rfl') (by rfl') rfl (by decide),by rfl'⟩,⟨814,810,m9 Y (by rfl') (by rfl') rfl (by decide),by rfl'⟩,by rfl'⟩
noncomputable def rowW(n:List Nat)(ks:List (List Nat)):List (Str × Str):=(KY "n",mkS n)::ks.map λk=>(KY "k",mkS k)
noncomputable def jhwL(n:List Nat)(ks:List (List Nat)):List Nat:=rowT (rowW n ks)
omit W hg in
theorem lY:∀r:List (Str × Str),r≠[]->(Str.join "; " (r.map λx=>kvS tokB x.1 x.2))=mkS (rowT r)
 | [],h=>absurd rfl h
 | [x],_=>(bW _).symm
 | x::y::r,_=>by
  show kvS tokB x.1 x.2++KY "; "++Str.join "; " ((y::r).map λx=>kvS tokB x.1 x.2)=_;rw[lY (y::r) (by simp)]
  refine(bW _).symm.trans (congrArg mkS ?_);simp only[Str.cps_append,Oq];rw[show(KY "; ").cps.toList=[59,32] by rfl']
  show _++[59,32]++rowT (y::r)=_++59::32::rowT (y::r);rw[Lj];rfl
omit W hg in
theorem Bj(r:List (Str × Str)):bc "; " (r.map λx=>kvS tokB x.1 x.2)<=(rowT r).length+2:=by
 unfold bc;rw[show(KY "; ").length=2 by rfl']
 induction r with
 | nil=>exact K5 _
 | cons x r ih =>
  cases r with
  | nil =>
   show((kvS tokB x.1 x.2).length+0)+1*2<=(kvS tokB x.1 x.2).cps.toList.length+2;rw[show(kvS tokB x.1 x.2).cps.toList.length=(kvS tokB x.1 x.2).length from Lp ..];omega
  | cons y r =>
   rw[Li,Li,Mw,KJ];have e:(rowT (x::y::r)).length=(kvS tokB x.1 x.2).length+((rowT (y::r)).length+2):=by
    show((kvS tokB x.1 x.2).cps.toList++59::32::rowT (y::r)).length=_;rw[KR,KJ,KJ,Lp];rfl
   rw[e];omega
omit W hg in
theorem Bl{n:List Nat}{ks:List (List Nat)}(hn:n≠[]/\∀a∈n,a∈Sig)(hk:∀u∈ks,u≠[]/\∀a∈u,a∈Sig):iU (KY "n",mkS n)/\∀y∈ks.map λk=>(KY "k",mkS k),iU y/\y.1=mkS [107]:=by
 have en:KY "n"=mkS [110]:=by rfl'
 have ek:KY "k"=mkS [107]:=by rfl'
 refine⟨⟨⟨110,en,.inr rfl⟩,hn.1,hn.2⟩,λy hy=>?_⟩;obtain⟨u,hu,rfl⟩:=K9.mp hy;exact⟨⟨⟨107,ek,.inl rfl⟩,(hk u hu).1,(hk u hu).2⟩,ek⟩
theorem Gg(Y:YPw w h){n:List Nat}{ks:List (List Nat)}(hn:n≠[]/\∀a∈n,a∈Sig)(hk:∀u∈ks,u≠[]/\∀a∈u,a∈Sig)(hl:n.length<=90000/\∀u∈ks,u.length<=90000)(hc:ks.length<=9)(hz:(jhwL n ks).length<=1000000) :
  FnOk (cx w h mb) (b+3) "join_header_words" [.lst [.lst (kRow (mkS n) (ks.map mkS))]] (.str (mkS (jhwL n ks))):=by
 have e0:kRow (mkS n) (ks.map mkS)=(rowW n ks).map λx=>V.tup [.str x.1,.str x.2]:=by
  unfold rowW;rw[Li,Lq];show[V.tup [.str "n",.str (mkS n)]]++(ks.map mkS).map _=_;rw[Lq];rfl
 rw[e0];have e:dN.pars.zip [V.lst [.lst ((rowW n ks).map λx=>V.tup [.str x.1,.str x.2])]]=([("lists",.lst [.lst ((rowW n ks).map λx=>V.tup [.str x.1,.str x.2])])]:List (Str × V)):=by rfl'
 have ej:Txt.join ", " [Txt.join "; " ((rowW n ks).map λx=>kvS tokB x.1 x.2)]=mkS (jhwL n ks):=by
  have e1:Txt.join "; " ((rowW n ks).map λx=>kvS tokB x.1 x.2)=mkS (jhwL n ks):=(StrLaws.glued_eq_join _ _).trans (lY _ (by unfold rowW;simp))
  rw[e1];exact StrLaws.glued_eq_join _ _
 have g1:=Bj (rowW n ks);refine(lift W (by rfl') (IV W) (by rfl') (of1 J3) rfl rfl e ?_ rfl).ok
 rw[<-ej];refine Gb W hg (b:=b+2) (by unfold rowW;simp) (λx hx=>?_) (by unfold rowW;simp;omega) (KQ g1 (by unfold jhwL at hz;omega)) ?_
 ·rcases KZ.mp hx with rfl | hx
  ·exact⟨tX W hg (reOk W hg Y) hn.1 hn.2 hl.1,by show(KY "n").cps.toList.length<=10;decide +kernel,by have:=hl.1;show n.length<=_;omega⟩
  ·obtain⟨u,hu,rfl⟩:=K9.mp hx
   exact⟨tX W hg (reOk W hg Y) (hk u hu).1 (hk u hu).2 (hl.2 u hu),by show(KY "k").cps.toList.length<=10;decide +kernel,by have:=hl.2 u hu;show u.length<=_;omega⟩
 ·have e1:Txt.join "; " ((rowW n ks).map λx=>kvS tokB x.1 x.2)=mkS (jhwL n ks):=(StrLaws.glued_eq_join _ _).trans (lY _ (by unfold rowW;simp))
  rw[e1];unfold bc;rw[show(KY ", ").length=2 by rfl']
  show((jhwL n ks).length+0)+1*2<=_;omega
theorem zM(Y:YPw w h){n:List Nat}{ks:List (List Nat)}(hn:n≠[]/\∀a∈n,a∈Sig)(hk:∀u∈ks,u≠[]/\∀a∈u,a∈Sig)(hc:ks.length<=9)(hz:(jhwL n ks).length<=70000) :
  FnOk (cx w h mb) (b+3) "split_header_words" [.lst [.str (mkS (jhwL n ks))]] (.lst [.lst (kRow (mkS n) (ks.map mkS))]):=by
 have e0:kRow (mkS n) (ks.map mkS)=(rowW n ks).map fZ:=by
  unfold rowW;rw[Li,Lq];show[V.tup [.str "n",.str (mkS n)]]++(ks.map mkS).map _=_;rw[Lq];rfl
 rw[e0];have e:dG.pars.zip [V.lst [.str (mkS (jhwL n ks))]]=([("header_values",.lst [.str (mkS (jhwL n ks))])]:List (Str × V)):=by rfl'
 obtain⟨w1,w2⟩:=Bl hn hk;exact(lift W (by rfl') (Ib W) (by rfl') (of1 JK) rfl rfl e (zJ W hg (b:=b+2) (zK W hg (reOk W hg Y) _ _ w1 w2 hz) (by simp) (by simp;omega)) rfl).ok
end
end
section
abbrev Sp(r:List Nat):Prop:=r=[]∨∃t,r=32::t
theorem vy(a:Nat)(u:List Nat):escQ (a::u)=(if a=39 then [39,34,39,34,39] else [a])++escQ u:=Ml
theorem gG(u:List Nat):escQ (39::u)=39::34::39::34::39::escQ u:=by rw[vy,if_pos rfl];rfl
theorem gH{a:Nat}(h:a≠39)(u:List Nat):escQ (a::u)=a::escQ u:=by rw[vy,if_neg h];rfl
theorem bF{a b:Nat}{u v:List Nat}(h:a≠b)(e:a::u=b::v):False:=h (List.cons.inj e).1
theorem sp34{r t:List Nat}(h:Sp r)(e:r=34::t):False:=by
 rcases h with rfl | ⟨s,rfl⟩
 ·cases e
 ·exact bF (by decide) e
theorem n7:∀(u v r r':List Nat),Sp r->Sp r'->escQ u++39::r=escQ v++39::r'->u=v/\r=r'
 | [],[],r,r',_,_,h=>⟨rfl,(List.cons.inj (show 39::r=39::r' from h)).2⟩
 | [],b::v,r,r',hr,_,h=>by
  exfalso
  by_cases q:b=39
  ·subst q;rw[gG] at h
   exact sp34 hr (List.cons.inj (show 39::r=39::34::(39::34::39::escQ v++39::r') from h)).2
  ·rw[gH q] at h
   exact bF (λe=>q e.symm) (show 39::r=b::(escQ v++39::r') from h)
 | a::u,[],r,r',_,hr',h=>by
  exfalso
  by_cases q:a=39
  ·subst q;rw[gG] at h
   exact sp34 hr' (List.cons.inj (show 39::34::(39::34::39::escQ u++39::r)=39::r' from h)).2.symm
  ·rw[gH q] at h
   exact bF q (show a::(escQ u++39::r)=39::r' from h)
 | a::u,b::v,r,r',hr,hr',h=>by
  by_cases q:a=39
  ·by_cases p:b=39
   ·subst q;subst p
    rw[gG,gG] at h;simp only[Qa,List.cons.injEq,true_and] at h;obtain⟨rfl,rfl⟩:=n7 u v r r' hr hr' h;exact⟨rfl,rfl⟩
   ·subst q;rw[gG,gH p] at h
    exact(bF (λe=>p e.symm) (show 39::_=b::_ from h)).elim
  ·by_cases p:b=39
   ·subst p;rw[gG,gH q] at h
    exact(bF q (show a::_=39::_ from h)).elim
   ·rw[gH q,gH p] at h
    simp only[Qa,List.cons.injEq] at h;obtain⟨rfl,h⟩:=h;obtain⟨rfl,rfl⟩:=n7 u v r r' hr hr' h;exact⟨rfl,rfl⟩
theorem kY{m:Nat}:∀(u v r r':List Nat),(∀a∈u,a≠m)->(∀a∈v,a≠m)->(r=[]∨∃t,r=m::t)->(r'=[]∨∃t,r'=m::t)->u++r=v++r'->u=v/\r=r'
 | [],[],r,r',_,_,_,_,h=>⟨rfl,h⟩
 | [],b::v,r,r',_,hv,hr,_,h=>by
  have h:r=b::(v++r'):=h;rcases hr with rfl | ⟨s,rfl⟩
  ·cases h
  ·exact(hv b (.head _) (List.cons.inj h).1.symm).elim
 | a::u,[],r,r',hu,_,_,hr',h=>by
  have h:a::(u++r)=r':=h;rcases hr' with rfl | ⟨s,rfl⟩
  ·cases h
  ·exact(hu a (.head _) (List.cons.inj h).1).elim
 | a::u,b::v,r,r',hu,hv,hr,hr',h=>by
  obtain⟨e,g⟩:=List.cons.inj (show a::(u++r)=b::(v++r') from h);subst e;obtain⟨rfl,rfl⟩:=kY u v r r' (λx hx=>hu x (.tail _ hx)) (λx hx=>hv x (.tail _ hx)) hr hr' g;exact⟨rfl,rfl⟩
theorem jy{u:List Nat}{m:Nat}(hm:Uns.contains m=true)(h:u.any Uns.contains=false):∀a∈u,a≠m:=λa ha e=>by
 subst e;have:=Q3.mp h a ha;exact this hm
theorem BX{u v r r':List Nat}(hu:u≠[])(hv:v≠[])(hr:Sp r)(hr':Sp r')(h:aA u++r=aA v++r'):u=v/\r=r':=by
 unfold aA at h;cases q:u.any Uns.contains with
 | false =>
  rw[q] at h;cases p:v.any Uns.contains with
  | false =>
   rw[p] at h;exact kY u v r r' (jy (by decide) q) (jy (by decide) p) hr hr' h
  | true =>
   rw[p] at h;obtain⟨a,u,rfl⟩:=M5 hu;exact(bF (jy (m:=39) (by decide) q a (.head _)) (show a::(u++r)=39::(escQ v++[39]++r') from h)).elim
 | true =>
  rw[q] at h;cases p:v.any Uns.contains with
  | false =>
   rw[p] at h;obtain⟨b,v,rfl⟩:=M5 hv;exact(bF (jy (m:=39) (by decide) p b (.head _)).symm (show 39::(escQ u++[39]++r)=b::(v++r') from h)).elim
  | true =>
   rw[p] at h;have h:=(List.cons.inj (show 39::(escQ u++[39]++r)=39::(escQ v++[39]++r') from h)).2;rw[Lj,Lj] at h;exact n7 u v r r' hr hr' h
theorem tV:∀(xs ys:List (List Nat)),xs≠[]->ys≠[]->(∀u∈xs,u≠[])->(∀u∈ys,u≠[])->az xs=az ys->xs=ys
 | [],_,h,_,_,_,_=>absurd rfl h
 | _,[],_,h,_,_,_=>absurd rfl h
 | x::r,y::s,_,_,hx,hy,h=>by
  rw[dY,dY] at h;obtain⟨rfl,e⟩:=BX (hx x (.head _)) (hy y (.head _)) (mq r) (mq s) h;unfold bV at e
  by_cases q:r=[]
  ·by_cases p:s=[]
   ·rw[q,p]
   ·rw[if_pos q,if_neg p] at e;cases e
  ·by_cases p:s=[]
   ·rw[if_neg q,if_pos p] at e;cases e
   ·rw[if_neg q,if_neg p] at e
    rw[tV r s q p (λu hu=>hx u (.tail _ hu)) (λu hu=>hy u (.tail _ hu)) (List.cons.inj e).2]
theorem gD{a:Nat}(h:(a==34||a==92)=true)(u:List Nat):escS (a::u)=92::a::escS u:=by
 unfold escS;rw[Ml,h];rfl
theorem gC{a:Nat}(h:(a==34||a==92)=false)(u:List Nat):escS (a::u)=a::escS u:=by
 unfold escS;rw[Ml,h];rfl
theorem n6:∀(u v r r':List Nat),escS u++34::r=escS v++34::r'->u=v/\r=r'
 | [],[],r,r',h=>⟨rfl,(List.cons.inj (show 34::r=34::r' from h)).2⟩
 | [],b::v,r,r',h=>by
  exfalso
  cases q:(b==34||b==92) with
  | true=>rw[gD q] at h;exact bF (by decide) (show 34::r=92::_ from h)
  | false =>
   rw[gC q] at h;exact bF (λe=>by rw[<-e] at q;cases q) (show 34::r=b::_ from h)
 | a::u,[],r,r',h=>by
  exfalso
  cases q:(a==34||a==92) with
  | true=>rw[gD q] at h;exact bF (by decide) (show 92::_=34::r' from h)
  | false =>
   rw[gC q] at h;exact bF (λe=>by rw[e] at q;cases q) (show a::_=34::r' from h)
 | a::u,b::v,r,r',h=>by
  cases q:(a==34||a==92) with
  | true =>
   cases p:(b==34||b==92) with
   | true =>
    rw[gD q,gD p] at h;simp only[Qa,List.cons.injEq,true_and] at h;obtain⟨rfl,h⟩:=h;obtain⟨rfl,rfl⟩:=n6 u v r r' h;exact⟨rfl,rfl⟩
   | false =>
    rw[gD q,gC p] at h;exact(bF (λe=>by rw[<-e] at p;cases p) (show 92::_=b::_ from h)).elim
  | false =>
   cases p:(b==34||b==92) with
   | true =>
    rw[gC q,gD p] at h;exact(bF (λe=>by rw[e] at q;cases q) (show a::_=92::_ from h)).elim
   | false =>
    rw[gC q,gC p] at h;simp only[Qa,List.cons.injEq] at h;obtain⟨rfl,h⟩:=h;obtain⟨rfl,rfl⟩:=n6 u v r r' h;exact⟨rfl,rfl⟩
noncomputable def valT(v:List Nat):List Nat:=if tokB (mkS v)=true then v else 34::(escS v++[34])
theorem pK{v:List Nat}(h:tokB (mkS v)=true){a:Nat}(ha:a∈v):a∈Tok4:=M6.mp (La.mp h a ha)
abbrev Sc(r:List Nat):Prop:=r=[]∨∃t,r=59::t
theorem xm{u v r r':List Nat}(hu:u≠[])(hv:v≠[])(hr:Sc r)(hr':Sc r')(h:valT u++r=valT v++r'):u=v/\r=r':=by
 have t34:∀ {v:List Nat},tokB (mkS v)=true->∀a∈v,a≠34:=λh a ha e=>by
  have:=pK h ha;rw[e] at this;exact absurd this (by decide)
 have t59:∀ {v:List Nat},tokB (mkS v)=true->∀a∈v,a≠59:=λh a ha e=>by
  have:=pK h ha;rw[e] at this;exact absurd this (by decide)
 unfold valT at h
 by_cases q:tokB (mkS u)=true
 ·rw[if_pos q] at h
  by_cases p:tokB (mkS v)=true
  ·rw[if_pos p] at h
   exact kY u v r r' (t59 q) (t59 p) hr hr' h
  ·rw[if_neg p] at h
   obtain⟨a,u,rfl⟩:=M5 hu;exact(bF (t34 q a (.head _)) (show a::(u++r)=34::(escS v++[34]++r') from h)).elim
 ·rw[if_neg q] at h
  by_cases p:tokB (mkS v)=true
  ·rw[if_pos p] at h
   obtain⟨b,v,rfl⟩:=M5 hv;exact(bF (t34 p b (.head _)).symm (show 34::(escS u++[34]++r)=b::(v++r') from h)).elim
  ·rw[if_neg p] at h
   have h:=(List.cons.inj (show 34::(escS u++[34]++r)=34::(escS v++[34]++r') from h)).2;rw[Lj,Lj] at h;exact n6 u v r r' h
theorem gj(k:Str)(v:List Nat):(kvS tokB k (mkS v)).cps.toList=k.cps.toList++61::valT v:=by
 unfold valT;split
 ·rename_i q;exact nq q
 ·rename_i q
  exact nu (by cases e:tokB (mkS v) with | true=>exact absurd e q | false=>rfl)
theorem pO(r:List (Str × Str)):Sc (aq r):=by
 cases r with
 | nil=>exact .inl rfl
 | cons=>exact .inr ⟨_,rfl⟩
noncomputable abbrev kWs(ks:List (List Nat)):List (Str × Str):=ks.map λk=>(KY "k",mkS k)
theorem qU{k:Str}{n n':List Nat}{r r':List (Str × Str)}(hn:n≠[])(hn':n'≠[])(h:rowT ((k,mkS n)::r)=rowT ((k,mkS n')::r')):n=n'/\aq r=aq r':=by
 rw[cZ,cZ,gj,gj,Lj,Lj] at h;exact xm hn hn' (pO r) (pO r') (List.cons.inj (List.append_cancel_left h)).2
theorem pN:∀(ks ks':List (List Nat)),(∀u∈ks,u≠[])->(∀u∈ks',u≠[])->aq (kWs ks)=aq (kWs ks')->ks=ks'
 | [],[],_,_,_=>rfl
 | [],_::_,_,_,h=>by cases h
 | _::_,[],_,_,h=>by cases h
 | x::r,y::s,hx,hy,h=>by
  obtain⟨rfl,e⟩:=qU (r:=kWs r) (r':=kWs s) (hx x (.head _)) (hy y (.head _)) (List.cons.inj (List.cons.inj (show 59::32::rowT (kWs (x::r))=59::32::rowT (kWs (y::s)) from h)).2).2;rw[pN r s (λu hu=>hx u (.tail _ hu)) (λu hu=>hy u (.tail _ hu)) e]
theorem Ge{n n':List Nat}{ks ks':List (List Nat)}(hn:n≠[])(hn':n'≠[])(hx:∀u∈ks,u≠[])(hy:∀u∈ks',u≠[])(h:jhwL n ks=jhwL n' ks'):n=n'/\ks=ks':=by
 obtain⟨rfl,e⟩:=qU (r:=kWs ks) (r':=kWs ks') hn hn' h;exact⟨rfl,pN ks ks' hx hy e⟩
theorem BL{u:List Nat}(h:∀a∈u,a∈Sig):∀a∈aA u,a∈Sig:=λa ha=>by
 unfold aA at ha;split at ha
 ·rcases KZ.mp ha with rfl | ha
  ·decide
  ·rcases Nh.mp ha with ha | ha
   ·obtain⟨b,hb,ha⟩:=Oz.mp ha
    split at ha
    ·simp only[KZ,M4,or_false] at ha
     rcases ha with rfl | rfl | rfl | rfl | rfl <;> decide
    ·rw[MJ] at ha;subst ha;exact h _ hb
   ·rw[MJ] at ha;subst ha;decide
 ·exact h a ha
theorem FQ:∀(xs:List (List Nat)),(∀u∈xs,∀a∈u,a∈Sig)->∀a∈az xs,a∈Sig:=by
 intro l_
 induction l_ with
 | nil =>
  intro _ a ha;cases ha
 | cons x r ih =>
  intro h a ha;rw[dY] at ha;rcases Nh.mp ha with ha | ha
  ·exact BL (h x (.head _)) a ha
  ·unfold bV at ha
   split at ha
   ·cases ha
   ·rcases KZ.mp ha with rfl | ha
    ·decide
    ·exact ih (λu hu=>h u (.tail _ hu)) a ha
theorem xj{v:List Nat}(h:∀a∈v,a∈Sig):∀a∈valT v,a∈Sig:=λa ha=>by
 unfold valT at ha;split at ha
 ·exact h a ha
 ·rcases KZ.mp ha with rfl | ha
  ·decide
  ·rcases Nh.mp ha with ha | ha
   ·obtain⟨b,hb,ha⟩:=Oz.mp ha
    split at ha
    ·simp only[KZ,M4,or_false] at ha
     rcases ha with rfl | rfl
     ·decide
     ·exact h _ hb
    ·rw[MJ] at ha;subst ha;exact h _ hb
   ·rw[MJ] at ha;subst ha;decide
theorem qT{k:Str}{m:Nat}(hk:k.cps.toList=[m])(hm:m∈Sig){n:List Nat}{r:List (Str × Str)}(hn:∀a∈n,a∈Sig)(hr:∀a∈aq r,a∈Sig):∀a∈rowT ((k,mkS n)::r),a∈Sig:=λa ha=>by
 rw[cZ,gj,hk] at ha;rcases Nh.mp ha with ha | ha
 ·rcases KZ.mp ha with rfl | ha
  ·exact hm
  ·rcases KZ.mp ha with rfl | ha
   ·decide
   ·exact xj hn a ha
 ·exact hr a ha
theorem yj:∀(ks:List (List Nat)),(∀u∈ks,∀a∈u,a∈Sig)->∀a∈aq (kWs ks),a∈Sig:=by
 intro l_
 induction l_ with
 | nil =>
  intro _ a ha;cases ha
 | cons x r ih =>
  intro h a ha;rcases KZ.mp (show a∈59::32::rowT (kWs (x::r)) from ha) with rfl | ha
  ·decide
  ·rcases KZ.mp ha with rfl | ha
   ·decide
   ·exact qT (r:=kWs r) (by rfl':(KY "k").cps.toList=[107]) (by decide) (h x (.head _)) (ih λu hu=>h u (.tail _ hu)) a ha
theorem Ga{n:List Nat}{ks:List (List Nat)}(hn:∀a∈n,a∈Sig)(hk:∀u∈ks,∀a∈u,a∈Sig):∀a∈jhwL n ks,a∈Sig :=
 qT (r:=kWs ks) (by rfl':(KY "n").cps.toList=[110]) (by decide) hn (yj ks hk)
theorem BV{u:List Nat}(h:u≠[]):aA u≠[]:=by
 unfold aA;split
 ·exact λe=>nomatch e
 ·exact h
theorem FW{x:List Nat}{r:List (List Nat)}(h:x≠[]):az (x::r)≠[]:=by
 rw[dY];exact λe=>BV h (List.append_eq_nil_iff.mp e).1
theorem Gd{n:List Nat}{ks:List (List Nat)}:jhwL n ks≠[]:=by
 show rowT ((_,mkS n)::kWs ks)≠[];rw[cZ,gj];simp
theorem BW(u:List Nat):(aA u).length<=5*u.length+2:=by
 unfold aA;have:=vq u;split
 ·simp only[KJ,KR,LC];omega
 ·omega
theorem tU:∀(xs:List (List Nat)),(az xs).length<=(xs.map λu=>5*u.length+3).sum:=by
 intro l_
 induction l_ with
 | nil=>exact K5 _
 | cons x r ih =>
  have i:=ih;have q:=BW x;rw[dY,KR,Li,Mw];unfold bV;split
  ·simp only[LC];omega
  ·simp only[KJ];omega
theorem pg(v:List Nat):(valT v).length<=2*v.length+2:=by
 unfold valT;have:=nY v;split
 ·omega
 ·simp only[KJ,KR,LC];omega
theorem yl:∀(ks:List (List Nat)),(aq (kWs ks)).length<=(ks.map λu=>2*u.length+6).sum:=by
 intro l_
 induction l_ with
 | nil=>exact K5 _
 | cons x r ih =>
  have i:=ih;have q:=pg x;have e:(aq (kWs (x::r))).length=(rowT (kWs (x::r))).length+2:=rfl;have e2:(rowT (kWs (x::r))).length=((KY "k").cps.toList++61::valT x).length+(aq (kWs r)).length:=by
   show(rowT ((KY "k",mkS x)::kWs r)).length=_;rw[cZ,gj,KR]
  rw[e,e2,show(KY "k").cps.toList=[107] by rfl',Li,Mw]
  simp only[KR,KJ,LC];omega
theorem tY(n:List Nat)(ks:List (List Nat)):(jhwL n ks).length<=2*n.length+4+(ks.map λu=>2*u.length+6).sum:=by
 have i:=yl ks;have q:=pg n;have e2:(jhwL n ks).length=((KY "n").cps.toList++61::valT n).length+(aq (kWs ks)).length:=by
  show(rowT ((KY "n",mkS n)::kWs ks)).length=_;rw[cZ,gj,KR]
 rw[e2,show(KY "n").cps.toList=[110] by rfl']
 simp only[KR,KJ,LC];omega
theorem zG{u:List Nat}(h0:u≠[])(hs:∀a∈u,a∈Sig):bR (mkS u) "~"=true:=by
 obtain⟨a,u,rfl⟩:=M5 h0;have ha:=hs a (.head _);refine decide_eq_true ?_;rw[toList_mkS,show(KY "~").cps.toList=[126] by rfl']
 exact List.Lex.rel (qD a ha)
end
section
noncomputable def wrow(e:Bool)(c:List Nat)(ws:List (List Nat)):List Nat:=match e with
 | true=>az (c::ws)
 | false=>jhwL c ws
mutual
noncomputable def wrT:Bool->T->List Nat
 | e,.node c l=>wrow e c.cps.toList (wrTs (!e) l)
noncomputable def wrTs:Bool->List T->List (List Nat)
 | _,[]=>[]
 | e,t::r=>wrT e t::wrTs e r
end
theorem wR(e:Bool):∀l:List T,wrTs e l=l.map (wrT e):=by
 intro l_
 induction l_ with
 | nil=>exact rfl
 | cons t r ih =>
  show wrT e t::wrTs e r=_;rw[ih];rfl
theorem fW(e:Bool)(c:Str)(l:List T):wrT e (.node c l)=wrow e c.cps.toList (l.map (wrT (!e))):=by
 show wrow e c.cps.toList (wrTs (!e) l)=_;rw[wR]
noncomputable def fixF{α:Type}(Φ:(Nat->α)->Nat->α)(a0:α):Nat->Nat->α
 | 0,_=>a0
 | n+1,p=>Φ (fixF Φ a0 n) p
section
variable{α:Type}{Φ:(Nat->α)->Nat->α}{a0:α}{κ:Nat->List Nat}
theorem uC(low:∀p,p<6->∀k∈κ p,p<k/\k<6)(hΦ:∀f g p,(∀k∈κ p,f k=g k)->Φ f p=Φ g p):∀n m p,6-p<=n->6-p<=m->p<6->fixF Φ a0 n p=fixF Φ a0 m p
 | 0,_,p,h,_,hp=>by omega
 | _,0,p,_,h,hp=>by omega
 | n+1,m+1,p,h1,h2,hp=>hΦ _ _ p λk hk=>by
  obtain⟨a,b⟩:=low p hp k hk;exact uC low hΦ n m k (by omega) (by omega) b
theorem iD(low:∀p,p<6->∀k∈κ p,p<k/\k<6)(hΦ:∀f g p,(∀k∈κ p,f k=g k)->Φ f p=Φ g p){p:Nat}(hp:p<6):fixF Φ a0 6 p=Φ (fixF Φ a0 6) p :=
 uC low hΦ 6 7 p (by omega) (by omega) hp
end
theorem Ew{f g:Nat->Nat->Nat}:∀(as others:List Nat),(∀a∈as,f a=g a)->lay f as others=lay g as others:=by
 intro l_
 induction l_ with
 | nil =>
  intro others _;cases others <;> rfl
 | cons a as ih =>
  intro others h
  by_cases q:as.length+1=others.length
  ·rw[dj f q,dj g q]
   exact ni _ _ _ (λo _=>congrFun (h a (.head _)) o) λj _ _=>ih _ λx hx=>h x (.tail _ hx)
  ·rw[cR f (by simpa using q),cR g (by simpa using q)]
theorem Dn{f g:Nat->Nat}:∀(ks:List Nat) (j a:Nat),(∀k∈ks,f k=g k)->ordP f j ks a=ordP g j ks a:=by
 intro l_
 induction l_ with
 | nil=>exact λ_ _ _=>rfl
 | cons k r ih =>
  intro j a h;show ordP f (j+1) r (a*(j+1)*f k)=ordP g (j+1) r (a*(j+1)*g k);rw[h k (.head _)];exact ih _ _ λx hx=>h x (.tail _ hx)
theorem Dm{f g:Nat->Nat}:∀(ks:List Nat) (j a a':Nat),a<=a'->(∀k∈ks,f k<=g k)->ordP f j ks a<=ordP g j ks a':=by
 intro l_
 induction l_ with
 | nil=>exact λ_ _ _ h _=>h
 | cons k r ih=>exact λj a a' h hk=>ih _ _ _ (Ot (Ot h (K3 _)) (hk k (.head _))) λx hx=>hk x (.tail _ hx)
noncomputable abbrev wS(e:Bool)(c:Str)(row:List Str):Str:=mkS (wrow e c.cps.toList (row.map λs=>s.cps.toList))
noncomputable def TsF(κ:Nat->List Nat)(nm:Nat->Str):Nat->List T:=fixF (λf p=>(aK (κ p).length ((κ p).map f)).map (T.node (nm p))) [] 6
noncomputable def wyF(κ:Nat->List Nat)(nm:Nat->Str):Nat->Nat->Nat:=fixF (λf p q=>if nm p=nm q then lay f (κ p) (κ q) else 0) (λ_=>0) 6
noncomputable def odF(κ:Nat->List Nat):Nat->Nat:=fixF (λf p=>ordP f 0 (κ p) 1) 0 6
noncomputable def bdF(κ:Nat->List Nat):Nat->Bool->Nat:=fixF (λf p e=>((κ p).map λk=>(match e with | true=>5 | false=>2)*f k (!e)+6).sum+8) (λ_=>0) 6
noncomputable def SF(κ:Nat->List Nat)(nm:Nat->Str)(ev:Nat->Bool):Nat->List Str:=fixF (λf p=>ddS none (bJ ((aK (κ p).length ((κ p).map f)).map (wS (ev p) (nm p))))) [] 6
structure Pl(κ:Nat->List Nat)(nm:Nat->Str)(ev:Nat->Bool):Prop where
 low:∀p,p<6->∀k∈κ p,p<k/\k<6
 k3:∀p,p<6->(κ p).length<=3
 nms:∀p,p<6->∃a,nm p=mkS [a]/\(a=98∨a=34∨a=92)
 evk:∀p,p<6->∀k∈κ p,ev k = !ev p
 od:∀p,p<6->odF κ p<=12
 bd:∀p,p<6->∀e,bdF κ p e<=10000
theorem ou(y:Str):∀l:List Str,(y::l).Pairwise leS->(∀x,x∈ddS (some y) l↔x∈l/\x≠y)/\(ddS (some y) l).Nodup
 | [],_=>⟨λx=>by show x∈[]↔x∈[]/\_;simp,.nil⟩
 | z::r,h=>by
  rw[Ny] at h;have hr:=h.2;have hyz:=h.1 z (.head _);rw[Ny] at hr
  by_cases q:y=z
  ·subst q
   rw[vJ rfl];obtain⟨i1,i2⟩:=ou y r h.2;refine⟨λx=>?_,i2⟩;rw[i1 x,KZ];exact⟨λ⟨a,b⟩=>⟨.inr a,b⟩,λ⟨a,b⟩=>⟨a.resolve_left b,b⟩⟩
  ·rw[oE λe=>q (Option.some.inj e)]
   obtain⟨i1,i2⟩:=ou z r h.2;refine⟨λx=>?_,Ng.mpr ⟨λm=>((i1 z).mp m).2 rfl,i2⟩⟩;show x∈z::ddS (some z) r↔_;rw[KZ,KZ,i1 x];constructor
   ·rintro (rfl | ⟨a,b⟩)
    ·exact⟨.inl rfl,λe=>q e.symm⟩
    ·refine⟨.inr a,λe=>?_⟩
     subst e;exact q (s6 hyz (hr.1 x a))
   ·rintro ⟨rfl | a,b⟩
    ·exact .inl rfl
    ·by_cases e:x=z
     ·exact .inl e
     ·exact .inr ⟨a,e⟩
theorem HY{l:List Str}(h:l.Pairwise leS):(∀x,x∈ddS none l↔x∈l)/\(ddS none l).Nodup:=by
 cases l with
 | nil=>exact⟨λx=>.rfl,.nil⟩
 | cons y r =>
  obtain⟨i1,i2⟩:=ou y r h;rw[oA];refine⟨λx=>?_,Ng.mpr ⟨λm=>((i1 y).mp m).2 rfl,i2⟩⟩;rw[KZ,KZ,i1 x];constructor
  ·rintro (rfl | ⟨a,_⟩)
   ·exact .inl rfl
   ·exact .inr a
  ·rintro (rfl | a)
   ·exact .inl rfl
   ·by_cases q:x=y
    ·exact .inl q
    ·exact .inr ⟨a,q⟩
theorem vI(l:List Str):(∀x,x∈ddS none (bJ l)↔x∈l)/\(ddS none (bJ l)).Nodup:=by
 obtain⟨i1,i2⟩:=HY (ql l);exact⟨λx=>(i1 x).trans (jm l).mem_iff,i2⟩
theorem sO{α β:Type}{f:α->β}:∀(l m:List α),(∀a∈l,∀b∈m,f a=f b->a=b)->l.map f=m.map f->l=m
 | [],[],_,_=>rfl
 | [],_::_,_,h=>by cases h
 | _::_,[],_,h=>by cases h
 | a::l,b::m,h,e=>by
  obtain⟨e1,e2⟩:=List.cons.inj (show f a::l.map f=f b::m.map f from e);rw[h a (.head _) b (.head _) e1,sO l m (λx hx y hy=>h x (.tail _ hx) y (.tail _ hy)) e2]
theorem sum2{α β:Type}{R:α->β->Prop}{f:α->Nat}{g:β->Nat}{as:List α}{bs:List β}(h:All2 R as bs):(∀a b,R a b->f a<=g b)->(as.map f).sum<=(bs.map g).sum:=by
 induction h with
 | nil=>intro _;exact K3 _
 | cons r _ ih =>
  intro hf;rw[Li,Li,Mw,Mw];exact MF (hf _ _ r) (ih hf)
theorem yo{α:Type}{f g:α->Nat}:∀(l:List α),(∀a,f a<=g a)->(l.map f).sum<=(l.map g).sum:=by
 intro l_
 induction l_ with
 | nil=>exact λ_=>K3 _
 | cons a l ih =>
  intro h;rw[Li,Li,Mw,Mw];exact MF (h a) (ih h)
theorem uA{α β:Type}{f:α->List β}{x:α}:∀ {l:List α},x∈l->(f x).length<=(l.flatMap f).length
 | a::l,h=>by
  rw[Ml,KR];rcases KZ.mp h with rfl | h
  ·omega
  ·have:=uA (f:=f) h;omega
theorem Ay{α:Type}{S:List (List α)}{k n:Nat}{s:List α}(e:S[k]?=some s)(h:s≠[]):(aK n (rmv S k)).length<=(aK (n+1) S).length:=by
 have m:(s,k)∈S.zipIdx 0:=QF.mpr e;refine KQ ?_ (uA (f:=λx:List α × Nat=>x.1.flatMap λt=>(aK n (rmv S x.2)).map (t :: ·)) m);show _<=(s.flatMap λt=>(aK n (rmv S k)).map (t :: ·)).length;rw[sY];exact Nat.le_mul_of_pos_left _ (OJ.mpr h)
section
variable{κ:Nat->List Nat}{nm:Nat->Str}{ev:Nat->Bool}(H:Pl κ nm ev)
include H
theorem Pl.tr:Tr κ nm (TsF κ nm) (wyF κ nm) where
 low:=H.low
 k3:=H.k3
 ts p hp:=iD H.low (λf g p h=>by
  show(aK (κ p).length ((κ p).map f)).map _=(aK (κ p).length ((κ p).map g)).map _;rw[MN h]) hp
 wy p q hp hq:=congrFun (iD (Φ:=λf p q=>if nm p=nm q then lay f (κ p) (κ q) else 0) H.low (λf g p h=>by
  funext q
  show(if nm p=nm q then lay f (κ p) (κ q) else 0)=if nm p=nm q then lay g (κ p) (κ q) else 0;rw[Ew (κ p) (κ q) h]) hp) q
theorem Pl.ode{p:Nat}(hp:p<6):odF κ p=ordP (odF κ) 0 (κ p) 1:=iD (Φ:=λf p=>ordP f 0 (κ p) 1) H.low (λf g p h=>Dn _ _ _ h) hp
theorem Pl.bde{p:Nat}(hp:p<6)(e:Bool):bdF κ p e=((κ p).map λk=>(match e with | true=>5 | false=>2)*bdF κ k (!e)+6).sum+8 :=
 congrFun (iD (Φ:=λ(f:Nat->Bool->Nat) (p:Nat) (e:Bool)=>((κ p).map λk=>(match e with | true=>5 | false=>2)*f k (!e)+6).sum+8) H.low (λf g p h=>by
  funext e
  show((κ p).map λk=>(match e with | true=>5 | false=>2)*f k (!e)+6).sum+8=((κ p).map λk=>(match e with | true=>5 | false=>2)*g k (!e)+6).sum+8
  rw[MN λk hk=>by rw[h k hk]]) hp) e
theorem Pl.Se{p:Nat}(hp:p<6):SF κ nm ev p=ddS none (bJ ((aK (κ p).length ((κ p).map (SF κ nm ev))).map (wS (ev p) (nm p)))):=iD H.low (λf g p h=>by
  show ddS none (bJ ((aK (κ p).length ((κ p).map f)).map _))=ddS none (bJ ((aK (κ p).length ((κ p).map g)).map _));rw[MN h]) hp
theorem Pl.wr:∀(n p:Nat),6-p<=n->p<6->∀t∈TsF κ nm p,∀e,wrT e t≠[]/\(∀a∈wrT e t,a∈Sig)/\(wrT e t).length<=bdF κ p e
 | 0,p,hn,hp=>by omega
 | n+1,p,hn,hp=>by
  intro t ht e;obtain⟨ts,rfl,hr⟩:=(H.tr.mem hp).mp ht;obtain⟨c,hc,h3⟩:=H.nms p hp;have ih:∀u∈ts,∃k∈κ p,∀e,wrT e u≠[]/\(∀a∈wrT e u,a∈Sig)/\(wrT e u).length<=bdF κ k e:=λu hu=>by
   obtain⟨s,hs,hm⟩:=hr.mem u hu;obtain⟨k,hk,rfl⟩:=K9.mp hs;exact⟨k,hk,Pl.wr n k (six hn (H.low p hp k hk).1) (H.low p hp k hk).2 u hm⟩
  obtain⟨l',hperm,ha⟩:=Row.perm _ _ _ rfl hr;have ha:=ha.withP (P:=λi=>i∈κ p) λi hi=>hperm.mem_iff.mp hi;have hsum:=sum2 (f:=λu=>(match e with | true=>5 | false=>2)*(wrT (!e) u).length+6) (g:=λk=>(match e with | true=>5 | false=>2)*bdF κ k (!e)+6) ha λu k hk=>by
   have:=(Pl.wr n k (six hn (H.low p hp k hk.2).1) (H.low p hp k hk.2).2 u hk.1 (!e)).2.2;exact Mz (Qm _ this) _
  rw[(hperm.map _).sum_nat] at hsum;have c3:∀a∈[c],a∈Sig:=λa ha=>by
   rw[MJ] at ha;subst ha;rcases h3 with rfl | rfl | rfl <;> decide
  have s3:∀u∈ts.map (wrT (!e)),∀a∈u,a∈Sig:=λu hu=>by
   obtain⟨v,hv,rfl⟩:=K9.mp hu;obtain⟨k,_,i⟩:=ih v hv;exact(i (!e)).2.1
  rw[fW,hc,toList_mkS,H.bde hp e];cases e with
  | true =>
   show az ([c]::ts.map (wrT false))≠[]/\(∀a∈az ([c]::ts.map (wrT false)),a∈Sig)/\(az ([c]::ts.map (wrT false))).length<=_;refine⟨FW (by simp),FQ _ λu hu=>?_,?_⟩
   ·rcases KZ.mp hu with rfl | hu
    ·exact c3
    ·exact s3 u hu
   ·refine KQ (tU _) ?_
    rw[Li,Mw,Lq,Ln];have e1:(ts.map ((λu:List Nat=>5*u.length+3)∘wrT false)).sum<=(ts.map λu=>5*(wrT false u).length+6).sum:=yo ts λu=>Mi (by decide) _
    have hsum:(ts.map λu=>5*(wrT false u).length+6).sum<=((κ p).map λk=>5*bdF κ k false+6).sum:=hsum;show _<=((κ p).map λk=>5*bdF κ k false+6).sum+8;omega
  | false =>
   show jhwL [c] (ts.map (wrT true))≠[]/\(∀a∈jhwL [c] (ts.map (wrT true)),a∈Sig)/\(jhwL [c] (ts.map (wrT true))).length<=_;refine⟨Gd,Ga c3 s3,?_⟩;refine KQ (tY _ _) ?_;rw[Lq,Ln];have hsum:(ts.map λu=>2*(wrT true u).length+6).sum<=((κ p).map λk=>2*bdF κ k true+6).sum:=hsum;show 2*1+4+(ts.map ((λu:List Nat=>2*u.length+6)∘wrT true)).sum<=((κ p).map λk=>2*bdF κ k true+6).sum+8;have e1:(ts.map ((λu:List Nat=>2*u.length+6)∘wrT true)).sum=(ts.map λu=>2*(wrT true u).length+6).sum:=rfl;omega
theorem Pl.wr6{p:Nat}(hp:p<6){t:T}(h:t∈TsF κ nm p)(e:Bool):wrT e t≠[]/\(∀a∈wrT e t,a∈Sig)/\(wrT e t).length<=10000:=by
 obtain⟨h1,h2,h3⟩:=H.wr 6 p (by omega) hp t h e
 exact⟨h1,h2,KQ h3 (H.bd p hp e)⟩
theorem Pl.inj:∀(n p:Nat),6-p<=n->p<6->∀t∈TsF κ nm p,∀q,q<6->∀t'∈TsF κ nm q,∀e,wrT e t=wrT e t'->t=t':=by
 intro l_
 induction l_ with
 | zero =>
  intro p hn hp;omega
 | succ n ih =>
  intro p hn hp;intro t ht q hq t' ht' e h;obtain⟨ts,rfl,hr⟩:=(H.tr.mem hp).mp ht;obtain⟨ts',rfl,hr'⟩:=(H.tr.mem hq).mp ht';obtain⟨c,hc,_⟩:=H.nms p hp;obtain⟨c',hc',_⟩:=H.nms q hq;have sub:∀u∈ts,∃k∈κ p,u∈TsF κ nm k:=λu hu=>by
   obtain⟨s,hs,hm⟩:=hr.mem u hu;obtain⟨k,hk,rfl⟩:=K9.mp hs;exact⟨k,hk,hm⟩
  have sub':∀u∈ts',∃k∈κ q,u∈TsF κ nm k:=λu hu=>by
   obtain⟨s,hs,hm⟩:=hr'.mem u hu;obtain⟨k,hk,rfl⟩:=K9.mp hs;exact⟨k,hk,hm⟩
  have ne:∀u∈ts.map (wrT (!e)),u≠[]:=λu hu=>by
   obtain⟨v,hv,rfl⟩:=K9.mp hu;obtain⟨k,hk,m⟩:=sub v hv;exact(H.wr6 (H.low p hp k hk).2 m (!e)).1
  have ne':∀u∈ts'.map (wrT (!e)),u≠[]:=λu hu=>by
   obtain⟨v,hv,rfl⟩:=K9.mp hu;obtain⟨k,hk,m⟩:=sub' v hv;exact(H.wr6 (H.low q hq k hk).2 m (!e)).1
  rw[fW,fW,hc,hc',toList_mkS,toList_mkS] at h;have key:[c]=[c']/\ts.map (wrT (!e))=ts'.map (wrT (!e)):=by
   cases e with
   | true =>
    have:=tV _ _ (by simp) (by simp) (λu hu=>?_) (λu hu=>?_) (show az ([c]::ts.map (wrT (!true)))=az ([c']::ts'.map (wrT (!true))) from h)
    ·exact List.cons.inj this
    ·rcases KZ.mp hu with rfl | hu
     ·simp
     ·exact ne u hu
    ·rcases KZ.mp hu with rfl | hu
     ·simp
     ·exact ne' u hu
   | false=>exact Ge (by simp) (by simp) ne ne' h
  rw[hc,hc',key.1,sO ts ts' (λu hu u' hu' e'=>?_) key.2];obtain⟨k,hk,m⟩:=sub u hu;obtain⟨k',hk',m'⟩:=sub' u' hu';exact ih k (six hn (H.low p hp k hk).1) (H.low p hp k hk).2 u m k' (H.low q hq k' hk').2 u' m' _ e'
theorem Pl.inj6{p q:Nat}(hp:p<6)(hq:q<6){t t':T}(h:t∈TsF κ nm p)(h':t'∈TsF κ nm q){e:Bool}(he:mkS (wrT e t)=mkS (wrT e t')):t=t':=by
 refine H.inj 6 p (by omega) hp t h q hq t' h' e ?_
 have:=congrArg (λs:Str=>s.cps.toList) he
 rwa [toList_mkS,toList_mkS] at this
omit H in
theorem o9(e:Bool)(c:Str)(xs:List T):wS e c (xs.map λt=>mkS (wrT (!e) t))=mkS (wrT e (.node c xs)):=by
 unfold wS;rw[fW,Lq];rfl
theorem Pl.S:∀(n p:Nat),6-p<=n->p<6->(SF κ nm ev p).Nodup/\∀x,x∈SF κ nm ev p↔∃t∈TsF κ nm p,mkS (wrT (ev p) t)=x:=by
 intro l_
 induction l_ with
 | zero =>
  intro p hn hp;omega
 | succ n ih =>
  intro p hn hp;have ih:∀k∈κ p,∀x,x∈SF κ nm ev k↔∃t∈TsF κ nm k,mkS (wrT (!ev p) t)=x:=λk hk=>by
   have:=(ih k (six hn (H.low p hp k hk).1) (H.low p hp k hk).2).2
   rwa [H.evk p hp k hk] at this
  rw[H.Se hp];obtain⟨d1,d2⟩:=vI ((aK (κ p).length ((κ p).map (SF κ nm ev))).map (wS (ev p) (nm p)));refine⟨d2,λx=>(d1 x).trans ?_⟩;rw[K9];constructor
  ·rintro ⟨ys,hy,rfl⟩
   have hy:=(eV _ _ _ (KN ..)).mp hy;obtain⟨xs,hxs,rfl⟩:=Row.of_map (f:=λt=>mkS (wrT (!ev p) t)) (A:=TsF κ nm) _ (κ p) ys rfl (λk hk y h=>(ih k hk y).mp h) hy;exact⟨_,(H.tr.mem hp).mpr ⟨xs,rfl,hxs⟩,(o9 ..).symm⟩
  ·rintro ⟨t,ht,rfl⟩
   obtain⟨ts,rfl,hr⟩:=(H.tr.mem hp).mp ht;have h1:=hr.map (f:=λt=>mkS (wrT (!ev p) t));rw[Lq] at h1;obtain⟨xs,hxs,e⟩:=Row.of_map (f:=id) (A:=SF κ nm ev) _ (κ p) _ rfl (λk hk y h=>by
    obtain⟨t,ht,rfl⟩:=K9.mp h;exact⟨_,(ih k hk _).mpr ⟨t,ht,rfl⟩,rfl⟩) h1
   rw[O8] at e;subst e;exact⟨_,(eV _ _ _ (KN ..)).mpr hxs,o9 ..⟩
theorem Pl.Smem{p:Nat}(hp:p<6){x:Str}:x∈SF κ nm ev p↔∃t∈TsF κ nm p,mkS (wrT (ev p) t)=x:=(H.S 6 p (by omega) hp).2 x
theorem Pl.Snd{p:Nat}(hp:p<6):(SF κ nm ev p).Nodup:=(H.S 6 p (by omega) hp).1
theorem Pl.Slen{p:Nat}(hp:p<6):(SF κ nm ev p).length*wyF κ nm p p=odF κ p:=by
 rw[distinct (M:=TsF κ nm p) (f:=λt=>mkS (wrT (ev p) t)) (H.Snd hp) (λx=>H.Smem hp) (λa ha b hb e=>H.inj6 hp hp ha hb e) (λt ht=>H.tr.cnt hp hp ht)];exact H.tr.len (λp hp=>H.ode hp) 6 p (by omega) hp
theorem Pl.wpos{p:Nat}(hp:p<6):0<wyF κ nm p p:=by
 letI:DecidableEq T:=λa b=>Classical.propDecidable _
 obtain⟨u,s,e⟩:=M5 (H.tr.ne 6 p (by omega) hp)
 have hu:u∈TsF κ nm p:=by rw[e];exact .head _
 rw[<-H.tr.cnt hp hp hu];exact Pk.mpr hu
theorem Pl.Sod{p:Nat}(hp:p<6):(SF κ nm ev p).length<=odF κ p:=by
 rw[<-H.Slen hp];exact Nat.le_mul_of_pos_right _ (H.wpos hp)
theorem Pl.S12{p:Nat}(hp:p<6):(SF κ nm ev p).length<=12:=KQ (H.Sod hp) (H.od p hp)
theorem Pl.w12{p q:Nat}(hp:p<6)(hq:q<6):wyF κ nm p q<=12:=by
 refine KQ (H.tr.wle hp hq) ?_;rw[H.tr.len (λp hp=>H.ode hp) 6 q (by omega) hq]
 exact H.od q hq
theorem Pl.Sne{p:Nat}(hp:p<6):SF κ nm ev p≠[]:=by
 obtain⟨u,s,e⟩:=M5 (H.tr.ne 6 p (by omega) hp)
 have:=(H.Smem (ev:=ev) hp).mpr ⟨u,by rw[e];exact .head _,rfl⟩
 intro e';rw[e'] at this;cases this
theorem Pl.rows12{p:Nat}(hp:p<6):(aK (κ p).length ((κ p).map (SF κ nm ev))).length<=12:=by
 rw[sX (O:=λk=>(SF κ nm ev k).length) (κ p) (H.k3 p hp) λ_ _=>rfl];refine KQ (Dm _ _ _ _ (K3 _) λk hk=>H.Sod (H.low p hp k hk).2) ?_;rw[<-H.ode hp];exact H.od p hp
theorem Pl.same{p q:Nat}(hp:p<6)(hq:q<6)(he:ev p=ev q)(h:0<wyF κ nm p q)(x:Str):x∈SF κ nm ev p↔x∈SF κ nm ev q:=by
 rw[H.Smem hp,H.Smem hq,he];constructor
 ·rintro ⟨t,ht,rfl⟩;exact⟨t,(H.tr.same hp hq h t).mp ht,rfl⟩
 ·rintro ⟨t,ht,rfl⟩;exact⟨t,(H.tr.same hp hq h t).mpr ht,rfl⟩
theorem Pl.apart{p q:Nat}(hp:p<6)(hq:q<6)(he:ev p=ev q)(h:wyF κ nm p q=0){x:Str}(hx:x∈SF κ nm ev p):x∉SF κ nm ev q:=by
 intro hx';obtain⟨t,ht,rfl⟩:=(H.Smem hp).mp hx;obtain⟨t',ht',e⟩:=(H.Smem hq).mp hx';rw[<-he] at e;have:=H.inj6 hq hp ht' ht e;subst this;exact H.tr.apart hp hq h ht ht'
end
theorem qu{u:List Nat}(h:∀a∈u,a∈Sig):SOk (mkS u):=by
 show(u.toArray.all λx=>decide (x<0x110000))=true;rw[<-Array.all_toList];refine La.mpr λa ha=>decide_eq_true ?_;exact Nat.lt_trans (qD a (h a ha)) (by decide)
end
section
noncomputable def parN(a b c d:Nat):List Int:=[-1,0,1-(a:Int),3-1-(b:Int),4-1-(c:Int),5-1-(d:Int)]
noncomputable abbrev kapL(L:List (List Nat))(p:Nat):List Nat:=L[p]?.getD []
noncomputable abbrev depL(L:List (List Nat)):List Nat:=iI 0 L [0,0,0,0,0,0]
noncomputable def ju(L:List (List Nat)):Bool:=Nu L.length 6&&(K7 6).all λp=>N6 (kapL L p).length 3 &&
 (kapL L p).all (λk=>Nat.blt p k&&Nat.blt k 6&&Nu ((depL L)[k]?.getD 0) ((depL L)[p]?.getD 0+1))&&N6 (odF (kapL L) p) 12&&N6 (bdF (kapL L) p true) 10000&&N6 (bdF (kapL L) p false) 10000
theorem Kg:((K7 2).all λa=>(K7 3).all λb=>(K7 3).all λc=>(K7 3).all λd=>ju (kidsOf (parN a b c d)))=true:=by rfl'
theorem rG(z:Int):∃a b c d,a<2/\b<3/\c<3/\d<3/\dW z=parN a b c d:=by
 have t:∀(x:Int) (m:Nat),0<m->∃a:Nat,a<m/\K6 x m=(a:Int):=λx m hm=>by
  have h0:=Qg x (b:=(m:Int)) (R7.mpr hm);have h1:=Qh x (b:=(m:Int)) (R7.mpr hm);exact⟨(K6 x m).toNat,zr3 h0 h1,(R6 h0).symm⟩
 obtain⟨a,ha,ea⟩:=t z 2 (by decide)
 obtain⟨b,hb,eb⟩:=t (K8 z 2) 3 (by decide)
 obtain⟨c,hc,ec⟩:=t (K8 (K8 z 2) 3) 3 (by decide)
 obtain⟨d,hd,ed⟩:=t (K8 (K8 (K8 z 2) 3) 3) 3 (by decide)
 refine⟨a,b,c,d,ha,hb,hc,hd,?_⟩;unfold dW parN;rw[show(2:Int)=((2:Nat):Int) from rfl,show(3:Int)=((3:Nat):Int) from rfl] at *;rw[ea,eb,ec,ed]
theorem qG(z:Int):ju (kidsOf (dW z))=true:=by
 obtain⟨a,b,c,d,ha,hb,hc,hd,e⟩:=rG z;rw[e];have h:=Kg;have h:=La.mp h a (MK.mpr ha);have h:=La.mp h b (MK.mpr hb);have h:=La.mp h c (MK.mpr hc);exact La.mp h d (MK.mpr hd)
noncomputable abbrev Lz(z:Int):List (List Nat):=kidsOf (dW z)
noncomputable abbrev kz(z:Int):Nat->List Nat:=kapL (Lz z)
noncomputable abbrev dz(z:Int)(p:Nat):Nat:=(depL (Lz z))[p]?.getD 0
noncomputable def ez(z:Int)(p:Nat):Bool:=dz z p % 2==0
theorem iZ(z:Int):(Lz z).length=6:=by
 have h:=qG z;unfold ju at h;rw[Lx] at h;exact Qy h.1
theorem jW(z:Int):(depL (Lz z)).length=6:=by
 have g:∀(r:List (List Nat)) (p:Nat) (d:List Nat),(iI p r d).length=d.length:=by
  intro r
  induction r with
  | nil=>intro p d;rfl
  | cons κ r ih=>intro p d;exact(ih (p+1) _).trans (vH p κ d)
 exact g _ _ _
theorem dU(z:Int){p:Nat}(hp:p<6):(kz z p).length<=3/\(∀k∈kz z p,p<k/\k<6/\dz z k=dz z p+1)/\odF (kz z) p<=12/\bdF (kz z) p true<=10000/\bdF (kz z) p false<=10000:=by
 have h:=qG z;unfold ju at h;rw[Lx] at h;have h:=La.mp h.2 p (MK.mpr hp);simp only[Lx] at h;obtain⟨⟨⟨⟨h1,h2⟩,h3⟩,h4⟩,h5⟩:=h;refine⟨Ly h1,λk hk=>?_,Ly h3,Ly h4,Ly h5⟩;have h:=La.mp h2 k hk;simp only[Lx] at h;obtain⟨⟨h6,h7⟩,h8⟩:=h;exact⟨Ly h6,Ly h7,Qy h8⟩
theorem rF(n:Nat):((n+1) % 2==0) = !(n % 2==0):=by
 rcases Nat.mod_two_eq_zero_or_one n with h | h
 ·rw[h,show(n+1) % 2=1 by omega];rfl
 ·rw[h,show(n+1) % 2=0 by omega];rfl
theorem cA(z z':Int):Pl (kz z) (nameAt z') (ez z) where
 low p hp k hk:=⟨((dU z hp).2.1 k hk).1,((dU z hp).2.1 k hk).2.1⟩
 k3 p hp:=(dU z hp).1
 nms p hp:=by
  unfold nameAt;generalize (K6 (K8 z' (3 ^ p)) 3).toNat=i;refine⟨_,rfl,?_⟩
  match i with
  | 0=>exact .inl rfl
  | 1=>exact .inr (.inl rfl)
  | 2=>exact .inr (.inr rfl)
  | n+3=>exact .inl rfl
 evk p hp k hk:=by
  unfold ez;rw[((dU z hp).2.1 k hk).2.2,rF]
 od p hp:=(dU z hp).2.2.1
 bd p hp e:=by cases e with
  | true=>exact(dU z hp).2.2.2.1
  | false=>exact(dU z hp).2.2.2.2
theorem jT(d:Nat):K6 (d:Int) 2=((d % 2:Nat):Int):=by
 rw[R8 _ (by decide)];rfl
theorem Hm{z:Int}{p:Nat}(h:ez z p=true):K6 (dz z p:Int) 2=0:=by
 rw[jT];unfold ez at h;have:dz z p % 2=0:=by simpa using h
 rw[this];rfl
theorem Hl{z:Int}{p:Nat}(h:ez z p=false):K6 (dz z p:Int) 2≠0:=by
 rw[jT];unfold ez at h;have:dz z p % 2≠0:=by simpa using h
 omega
theorem Hj{z:Int}{p q:Nat}(h:K6 ((dz z p:Nat)-(dz z q:Nat):Int) 2=0):ez z p=ez z q:=by
 rw[R8 _ (by decide)] at h
 unfold ez;have:dz z p % 2=dz z q % 2:=Int.ofNat.inj (Int.emod_eq_emod_iff_emod_sub_eq_zero.mpr h);rw[this]
noncomputable abbrev KV(z:Int):List V:=(Lz z).map kv
noncomputable abbrev NS(z:Int):List Str:=(K7 6).map (nameAt z)
noncomputable abbrev NV(z:Int):V:=.lst ((NS z).map .str)
theorem jb(z:Int){p:Nat}(hp:p<6):(KV z)[p]?=some (kv (kz z p)):=by
 rw[Lf,Lb (by rw[iZ];exact hp)]
 show some (kv _)=some (kv ((Lz z)[p]?.getD []));rw[Lb (by rw[iZ];exact hp)];rfl
theorem kO(z:Int):(KV z).length=6:=by rw[KN,iZ]
theorem gP(z:Int){p:Nat}(hp:p<6):(NS z)[p]?=some (nameAt z p):=by
 rw[Lf,QQ hp];rfl
theorem oV(z:Int):(NS z).length=6:=rfl
theorem Ko(z:Int):∀κ∈Lz z,∀k∈κ,k<6:=λκ hκ k hk=>by
 obtain⟨p,hp,rfl⟩:=List.getElem_of_mem hκ;have h6:p<6:=by rw[iZ] at hp;exact hp
 refine((dU z h6).2.1 k ?_).2.1;show k∈(Lz z)[p]?.getD [];rw[Lb hp];exact hk
theorem Fq{W Z:Nat->Nat}{B:Nat}:∀(r:List Nat) (k:Nat),(∀o∈r,W o<=12)->(∀j,k<=j->j<k+r.length->Z j<=B)->laidAt W Z k r 0<=r.length*(12*B):=by
 intro l_
 induction l_ with
 | nil=>exact λk _ _=>K5 _
 | cons o r ih =>
  intro k h1 h2;rw[gf,tQ];have i1:=ih (k+1) (λx hx=>h1 x (.tail _ hx)) λj hj hj'=>h2 j (by omega) (by rw[KJ];omega)
  have i2:=Ot (h1 o (.head _)) (h2 k (K3 _) (by simp))
  rw[KJ,O5];omega
theorem tu{W:Nat->Nat->Nat}:∀(as others:List Nat),others.length<=2->(∀a∈as,∀o∈others,W a o<=12)->lay W as others<=[1,12,288][others.length]?.getD 0
 | [],[],_,_=>K3 _
 | [],_::_,_,_=>K5 _
 | a::as,others,h2,h=>by
  by_cases q:as.length+1=others.length
  ·rw[dj W q]
   refine KQ (Fq (B:=[1,12,288][others.length-1]?.getD 0) others 0 (h a (.head _)) λj _ hj=>?_) ?_
   ·have e:=cu (l:=others) (k:=j) (by omega)
    rw[show others.length-1=(rmv others j).length by omega]
    exact tu as (rmv others j) (by omega) λx hx o ho=>h x (.tail _ hx) o (eX ho)
   ·match others,h2 with
    | [],_=>simp at q
    | [_],_=>show 1*(12*1)<=12;omega
    | [_,_],_=>show 2*(12*12)<=288;omega
  ·rw[cR W (by simpa using q)];exact K5 _
theorem Ey{W:Nat->Nat->Nat}{as others:List Nat}(h2:others.length<=2)(h:∀a∈as,∀o∈others,W a o<=12):lay W as others<=1000:=by
 refine KQ (tu as others h2 h) ?_
 match others,h2 with
 | [],_=>decide
 | [_],_=>show 12<=1000;omega
 | [_,_],_=>show 288<=1000;omega
end
section
section
variable{w:World}{h:Heap}{mb:Str->Option Value}{b:Nat}{z z':Int}(W:Wd (cx w h mb) h)(hg:aj (cx w h mb) G)
include W hg
theorem Dl:∀(n p:Nat),6-p<=n->p<6->FnOk (cx w h mb) (b+n) "_law_orders" [.int p,.lst (KV z)] (.int (odF (kz z) p)):=by
 intro l_
 induction l_ with
 | zero =>
  intro p hn hp;omega
 | succ n ih =>
  intro p hn hp;have H:=cA z 0;have e:dJ.pars.zip [V.int p,.lst (KV z)]=([("place",.int p),("kids",.lst (KV z))]:List (Str × V)):=by rfl'
  rw[H.ode hp];exact(lift W (by rfl') (Ir W) (by rfl') (of2 JW) rfl rfl e (Dj W hg (jb z hp) (kO z) (λk hk=>⟨ih k (six hn (H.low p hp k hk).1) (H.low p hp k hk).2,by have:=H.od k (H.low p hp k hk).2;omega⟩) (H.k3 p hp)) rfl).ok
theorem tK{n m:Nat}(hw:∀(a o:Nat),6-a<=n->a<6->o<6->FnOk (cx w h mb) (b+5*n) "_law_ways" [.int a,.int o,.lst (KV z),NV z'] (.int (wyF (kz z) (nameAt z') a o)))
  (ih:∀(as others:List Nat),as.length+1=m->others.length<=3->(∀a∈as,6-a<=n/\a<6)->(∀o∈others,o<6)->FnOk (cx w h mb) (b+5*n+m) "_law_laid" [kv as,kv others,.lst (KV z),NV z'] (.int (aX (wyF (kz z) (nameAt z')) as others)))
  (ones others:List Nat) (hm:ones.length=m) (h3:m<=3) (h4:others.length<=3) (ha:∀a∈ones,6-a<=n/\a<6) (ho:∀o∈others,o<6):FnOk (cx w h mb) (b+5*n+m+1) "_law_laid" [kv ones,kv others,.lst (KV z),NV z'] (.int (aX (wyF (kz z) (nameAt z')) ones others)):=by
 have H:=cA z z';have e:cX.pars.zip [kv ones,kv others,.lst (KV z),NV z']=([("ones",kv ones),("others",kv others),("kids",.lst (KV z)),("names",NV z')]:List (Str × V)):=by rfl'
 refine(lift W (by rfl') (Iw W) (by rfl') (of4 J0) rfl rfl e (Fo W hg (λa as he o hmo=>?_) (λa as he j hj=>?_) h4 (hm▸h3)) rfl).ok
 ·have:=ha a (he ▸ .head _)
  exact⟨(hw a o this.1 this.2 (ho o hmo)).le (LQ _ _),KQ (H.w12 this.2 (ho o hmo)) (by decide)⟩
 ·subst he
  have hl:=cu (l:=others) (k:=j) hj;have l2:(rmv others j).length<=2:=Qu (KQ (LK hl) h4);refine⟨ih as (rmv others j) hm (Rp l2) (λa hx=>ha a (.tail _ hx)) (λo hx=>ho o (eX hx)),?_⟩;rw[s8];exact Ey l2 λa hx o hy=>H.w12 (ha a (.tail _ hx)).2 (ho o (eX hy))
theorem tL{n:Nat}(hw:∀(a o:Nat),6-a<=n->a<6->o<6->FnOk (cx w h mb) (b+5*n) "_law_ways" [.int a,.int o,.lst (KV z),NV z'] (.int (wyF (kz z) (nameAt z') a o))) :
  ∀(m:Nat) (ones others:List Nat),ones.length=m->m<=3->others.length<=3->(∀a∈ones,6-a<=n/\a<6)->(∀o∈others,o<6)->FnOk (cx w h mb) (b+5*n+m+1) "_law_laid" [kv ones,kv others,.lst (KV z),NV z'] (.int (aX (wyF (kz z) (nameAt z')) ones others))
 | 0=>tK W hg hw λ_ _ h=>nomatch h
 | m+1=>λones others hm h3=>tK W hg hw (λas others h h4=>tL hw m as others (Nat.succ.inj h) (Qv h3) h4) ones others hm h3
theorem o7:∀(n p q:Nat),6-p<=n->p<6->q<6->FnOk (cx w h mb) (b+5*n) "_law_ways" [.int p,.int q,.lst (KV z),NV z'] (.int (wyF (kz z) (nameAt z') p q)):=by
 intro l_
 induction l_ with
 | zero =>
  intro p q hn hp hq;omega
 | succ n ih =>
  intro p q hn hp hq;have H:=cA z z';have e:fK.pars.zip [V.int p,.int q,.lst (KV z),NV z']=([("one",.int p),("other",.int q),("kids",.lst (KV z)),("names",NV z')]:List (Str × V)):=by rfl'
  rw[H.tr.wy p q hp hq];have l6:(NS z').length<=6:=by rw[oV];omega
  by_cases hc:nameAt z' p=nameAt z' q
  ·rw[if_pos hc,<-s8]
   have f:=tL (b:=b) W hg (z:=z) (z':=z') (n:=n) (λa o h1 h2 h3=>ih a o h1 h2 h3) (kz z p).length (kz z p) (kz z q) rfl (H.k3 p hp) (H.k3 q hq) (λa ha=>⟨six hn (H.low p hp a ha).1,(H.low p hp a ha).2⟩) (λo ho=>(H.low q hq o ho).2);have l3:=H.k3 p hp;exact(lift (b:=b+5*n+4) W (by rfl') (vL W) (by rfl') (of4 ww) rfl rfl e (w7 W hg (gP z' hp) (by rw[hc];exact gP z' hq) l6 (jb z hp) (jb z hq) (LK (kO z)) (f.le (by omega))) rfl).ok
  ·rw[if_neg hc]
   exact(lift (b:=b+5*n+4) W (by rfl') (vL W) (by rfl') (of4 ww) rfl rfl e (w6 W hg (gP z' hp) (gP z' hq) l6 hc) rfl).ok
omit W hg in
theorem Be{S:List (List Str)}:∀(n:Nat) (x:List Str),S.length=n->x∈aK n S->x.length=n:=λn x hn hx=>by
 rw[((eV n S x hn).mp hx).len,hn]
theorem Bg:∀(n:Nat) (S:List (List Str)),S.length=n->n<=3->(∀l∈S,l≠[]/\l.length<=100/\∀s∈l,SOk s)->(aK n S).length<=100->FnOk (cx w h mb) (b+n+1) "_law_rows" [sv S] (sv (aK n S)):=by
 intro l_
 induction l_ with
 | zero =>
  intro S hn _ _ _;obtain rfl:=Mt.mp hn;have e:aW.pars.zip [sv []]=([("sets",sv [])]:List (Str × V)):=by rfl'
  exact(lift W (by rfl') (vM W) (by rfl') (of1 wz) rfl rfl e (Bc W hg) rfl).ok
 | succ n ih =>
  intro S hn h3 hs hz;have e:aW.pars.zip [sv S]=([("sets",sv S)]:List (Str × V)):=by rfl'
  have sub:∀k,k<S.length->(rmv S k).length=n/\(aK n (rmv S k)).length<=100:=λk hk=>by
   refine⟨by have:=cu hk;omega,KQ (Ay (Lb hk) (hs _ (QL hk)).1) hz⟩
  exact(lift (b:=b+(n+1)) W (by rfl') (vM W) (by rfl') (of1 wz) rfl rfl e (Az W hg (Z:=λk=>aK n (rmv S k)) (λe=>by rw[e] at hn;cases hn) (λl hl=>(hs l hl).2.2) (λl hl=>(hs l hl).2.1) (by omega) λk hk=>by
   obtain⟨s1,s2⟩:=sub k hk;exact⟨ih (rmv S k) s1 (by omega) (λl hl=>hs l (eX hl)) s2,λx hx=>by rw[Be n x s1 hx];omega,s2⟩) rfl).ok
structure TxOk(u:Str):Prop where
 ne:u.cps.toList≠[]
 sig:∀a∈u.cps.toList,a∈Sig
 len:u.cps.toList.length<=10000
omit W hg in
theorem vO(row:List Str):(row.map λs=>s.cps.toList).map mkS=row:=by
 rw[Lq]
 conv=>rhs;rw[<-O8 row]
 exact MN λs _=>bW s
theorem wO(Y:YPw w h){d:Nat}{nm:Str}{row:List Str}{e:Bool}(he:if e then K6 (d:Int) 2=0 else K6 (d:Int) 2≠0)(hn:TxOk nm)(hr:∀s∈row,TxOk s)(h3:row.length<=3) :
  FnOk (cx w h mb) (b+4) "_law_written" [.int d,.str nm,tv row] (.str (wS e nm row)):=by
 have ep:cB.pars.zip [V.int d,.str nm,tv row]=([("depth",.int d),("name",.str nm),("row",tv row)]:List (Str × V)):=by rfl'
 have hr':∀u∈row.map λs=>s.cps.toList,u≠[]/\u.length<=10000/\∀a∈u,a∈Sig:=λu hu=>by
  obtain⟨s,hs,rfl⟩:=K9.mp hu;exact⟨(hr s hs).ne,(hr s hs).len,(hr s hs).sig⟩
 have sl:∀(c k:Nat) (l:List (List Nat)),(∀u∈l,u.length<=10000)->(l.map λu=>c*u.length+k).sum<=l.length*(c*10000+k):=λc k l=>by
  induction l with
  | nil=>intro _;exact K5 _
  | cons a l ih =>
   intro hl;have:=ih λu hu=>hl u (.tail _ hu);have:=Qm c (hl a (.head _));rw[Li,Mw,KJ,O5];omega
 have ln:(row.map λs=>s.cps.toList).length<=3:=by rw[KN];exact h3
 cases e with
 | true =>
  have j:=FZ (b:=b) W hg Y (xs:=nm.cps.toList::row.map λs=>s.cps.toList) (λu hu=>by
   rcases KZ.mp hu with rfl | hu
   ·exact⟨hn.ne,by have:=hn.len;omega,hn.sig⟩
   ·exact⟨(hr' u hu).1,by have:=(hr' u hu).2.1;omega,(hr' u hu).2.2⟩) (by rw[KJ];omega) (by
    refine KQ (tU _) (KQ (sl 5 3 _ λu hu=>?_) ?_)
    ·rcases KZ.mp hu with rfl | hu
     ·exact hn.len
     ·exact(hr' u hu).2.1
    ·rw[KJ]
     refine KQ (Rn _ (Mm ln)) ?_;omega)
  rw[Li,vO,bW] at j;exact(lift (b:=b+3) W (by rfl') (vK W) (by rfl') (of3 wu) rfl rfl ep (wQ W hg (show K6 (d:Int) 2=0 by simpa using he) (by omega) j.ok) rfl).ok
 | false =>
  have j:=Gg (b:=b) W hg Y (n:=nm.cps.toList) (ks:=row.map λs=>s.cps.toList) ⟨hn.ne,hn.sig⟩ (λu hu=>⟨(hr' u hu).1,(hr' u hu).2.2⟩) ⟨by have:=hn.len;omega,λu hu=>by have:=(hr' u hu).2.1;omega⟩ (by omega) (by
   have i1:=tY nm.cps.toList (row.map λs=>s.cps.toList);have i2:=sl 2 6 _ λu hu=>(hr' u hu).2.1;have i3:=Rn (2*10000+6) ln;have:=hn.len;omega)
  rw[vO,bW] at j;exact(lift (b:=b+3) W (by rfl') (vK W) (by rfl') (of3 wu) rfl rfl ep (wN W hg (show K6 (d:Int) 2≠0 by simpa using he) (by omega) j) rfl).ok
theorem zy{X:List Str}(hX:X.length<=1000)(hlt:∀x∈X,bR x "~"=true):FnOk (cx w h mb) (b+1) "sorted_list_difference" [tv X,.lst [.str "~"]] (.tup [tv (ddS none X),.lst [.str "~"]]):=by
 have e:eH.pars.zip [tv X,.lst [.str "~"]]=([("expected",tv X),("actual",.lst [.str "~"])]:List (Str × V)):=by rfl'
 exact(lift W (by rfl') (Ia W) (by rfl') (of2 JH) rfl rfl e (zu W hg hX hlt) rfl).ok
end
end
section
theorem xN:∀(r B m:List Str),(∀x∈r,x∉B)->uldP r B m=(m++r,B):=by
 intro l_
 induction l_ with
 | nil =>
  intro B m _;rw[Lg];rfl
 | cons x r ih =>
  intro B m h;rw[pF (h x (.head _))];exact(ih B (m++[x]) λy hy=>h y (.tail _ hy)).trans (by rw[Lj];rfl)
theorem xH:∀(r B:List Str),r.Nodup->B.Nodup->(∀x∈r,x∈B)->(∀y∈B,y∈r)->uldP r B []=([],[]):=by
 intro l_
 induction l_ with
 | nil =>
  intro B _ _ _ h;cases B with
  | nil=>rfl
  | cons y B=>exact absurd (h y (.head _)) (by simp)
 | cons x r ih =>
  intro B hr hB h1 h2;rw[Ng] at hr;rw[pB (h1 x (.head _))];refine ih (aY x B) hr.2 (Du hB) (λy hy=>(mZ hB y).mpr ⟨h1 y (.tail _ hy),λe=>hr.1 (e▸hy)⟩) λy hy=>?_;obtain⟨a,q⟩:=(mZ hB y).mp hy;exact(KZ.mp (h2 y a)).resolve_left q
theorem pA{A B:List Str}(hA:A.Nodup)(hB:B.Nodup){w:Nat}(h1:0<w->∀x,x∈A↔x∈B)(h2:w=0->∀x∈A,x∉B):uldP A.reverse B []=if w=0 then (A.reverse,B) else ([],[]):=by
 split
 ·rename_i q
  rw[xN _ _ _ λx hx=>h2 q x (Ox.mp hx),Mj]
 ·rename_i q
  exact xH _ _ (List.pairwise_reverse.mpr (hA.imp λh e=>h e.symm)) hB (λx hx=>(h1 (by omega) x).mp (Ox.mp hx)) λx hx=>Ox.mpr ((h1 (by omega) x).mpr hx)
theorem CZ{A B:List Str}(hA:A.Nodup)(hB:B.Nodup){w:Nat}(h1:0<w->∀x,x∈A↔x∈B)(h2:w=0->∀x∈A,x∉B):jC A B w=true:=by
 unfold jC;rw[pA hA hB h1 h2]
 by_cases q:w=0
 ·rw[if_pos q,decide_eq_false (by omega)];simp
 ·rw[if_neg q,decide_eq_true (by omega)];simp
section
variable{w:World}{h:Heap}{mb:Str->Option Value}{b:Nat}{z z':Int}(W:Wd (cx w h mb) h)(hg:aj (cx w h mb) G)
include W hg
theorem xM{vs:List (Str × V)}{A B:List Str}(hv:vs.all (λx=>below 3 x.2)=true)(h1:A.length<=1000)(h2:B.length<=1000) :
  CmOk (cx w h mb) (b+1) "unorderable_list_difference" [.vars vs,.list (A.map .str),.list (B.map .str)] [.own 1,.own 2] [] (.tup [.lst ((uldP A.reverse B []).1.map .str),.lst ((uldP A.reverse B []).2.map .str)]) [.vars vs,.list [],.dead]:=by
 have e:eG.pars.zip [V.own 1,.own 2]=([("expected",.own 1),("actual",.own 2)]:List (Str × V)):=by rfl'
 refine Je W (by rfl') (H7 W) (as:=[.own 1,.own 2]) (cs:=[.vars vs,.list (A.map .str),.list (B.map .str)]) (λs γ P us _ hu=>of2 JD s us hu.len) (fX (by rfl') _ _) (by rw[e];exact xJ W hg (b:=b) h1 h2) ⟨?_,?_,rfl,rfl⟩
 ·show([Cell.vars vs,.list [],.dead].all (aD 3))=true
  show(vs.all (λx=>below 3 x.2)&&_)=true;rw[hv];rfl
 ·exact(by decide:3<=5)
theorem De{A B:List Str}{n:Nat}(hA:A.Nodup)(hB:B.Nodup)(h1:0<n->∀x,x∈A↔x∈B)(h2:n=0->∀x∈A,x∉B)(sA:∀s∈A,SOk s)(sB:∀s∈B,SOk s)(lA:A.length<=100)(lB:B.length<=100) :
  FnOk (cx w h mb) (b+2) "_law_pair" [tv A,tv B,.int n] (.bool true):=by
 have e:eO.pars.zip [tv A,tv B,.int n]=([("one",tv A),("other",tv B),("ways",.int n)]:List (Str × V)):=by rfl'
 have u:=pA hA hB h1 h2;rw[<-CZ hA hB h1 h2];refine(lift (b:=b+1) W (by rfl') (Io W) (by rfl') (of3 JV) rfl rfl e (Dd W hg sA sB (λs hs=>?_) (λs hs=>?_) lA lB (xM W hg rfl (by omega) (by omega))) rfl).ok
 ·rw[u] at hs
  split at hs
  ·exact sA s (Ox.mp hs)
  ·cases hs
 ·rw[u] at hs
  split at hs
  ·exact sB s hs
  ·cases hs
omit W hg in
theorem xQ(z':Int){p:Nat}(hp:p<6):TxOk (nameAt z' p):=by
 obtain⟨a,e,h3⟩:=(cA 0 z').nms p hp;rw[e];refine⟨by rw[toList_mkS];simp,λx hx=>?_,by rw[toList_mkS,Ln];omega⟩
 rw[toList_mkS,MJ] at hx;subst hx;rcases h3 with rfl | rfl | rfl <;> decide
noncomputable abbrev Sz(z z':Int):Nat->List Str:=SF (kz z) (nameAt z') (ez z)
omit W hg in
theorem gR{p:Nat}(hp:p<6){s:Str}(hs:s∈Sz z z' p):TxOk s:=by
 obtain⟨t,ht,rfl⟩:=((cA z z').Smem hp).mp hs;obtain⟨h1,h2,h3⟩:=(cA z z').wr6 hp ht (ez z p);exact⟨by rw[toList_mkS];exact h1,by rw[toList_mkS];exact h2,by rw[toList_mkS];exact h3⟩
omit W hg in
theorem TxOk.sok{s:Str}(t:TxOk s):SOk s:=by
 have:=qu t.sig
 rwa [bW] at this
theorem zX(Y:YPw w h){L:List (List Str)}{p:Nat}(hp:p<6)(hL:∀k,p<k->k<6->L[k]?=some (Sz z z' k)) :
  wL (cx w h mb) (b+8) (KV z) ((NS z').map .str) (nv (depL (Lz z))) L p (Sz z z' p):=by
 have H:=cA z z';have eκ:(kz z p).map (λk=>L[k]?.getD [])=(kz z p).map (Sz z z'):=MN λk hk=>by rw[hL k (H.low p hp k hk).1 (H.low p hp k hk).2];rfl
 have r12:(aK (kz z p).length ((kz z p).map (Sz z z'))).length<=12:=H.rows12 (ev:=ez z) hp;refine⟨kz z p,aK (kz z p).length ((kz z p).map (Sz z z')),wS (ez z p) (nameAt z' p),dz z p,nameAt z' p,hp,jb z hp,λk hk=>(H.low p hp k hk).2,H.k3 p hp,?_,?_,?_,?_,?_,?_⟩
 ·rw[Lf,gP z' hp];rfl
 ·rw[Lf,Lb (by rw[jW];exact hp)]
  show some (V.int _)=some (V.int ((depL (Lz z))[p]?.getD 0:Nat));rw[Lb (by rw[jW];exact hp)];rfl
 ·omega
 ·rw[eκ]
  have k3:=H.k3 p hp;exact(Bg (b:=b) W hg (kz z p).length ((kz z p).map (Sz z z')) (KN ..) k3 (λl hl=>by
   obtain⟨k,hk,rfl⟩:=K9.mp hl;have k6:=(H.low p hp k hk).2;exact⟨H.Sne k6,by have:(Sz z z' k).length<=12:=H.S12 (ev:=ez z) k6;omega,λs hs=>(gR k6 hs).sok⟩) (by omega)).le (by omega)
 ·intro row hrow
  have r:=(eV _ _ _ (KN ..)).mp hrow;refine(wO (b:=b) W hg Y (e:=ez z p) ?_ (xQ z' hp) (λs hs=>?_) ?_).le (by omega)
  ·cases q:ez z p with
   | true=>exact Hm q
   | false=>exact Hl q
  ·obtain⟨l,hl,m⟩:=r.mem s hs
   obtain⟨k,hk,rfl⟩:=K9.mp hl;exact gR (H.low p hp k hk).2 m
  ·rw[r.len,KN];exact H.k3 p hp
 ·have eS:=H.Se (ev:=ez z) hp
  have f:=zy (b:=b+7) W hg (X:=bJ ((aK (kz z p).length ((kz z p).map (Sz z z'))).map (wS (ez z p) (nameAt z' p)))) (by rw[(jm _).length_eq,KN];omega) (λx hx=>by
   have hx:x∈Sz z z' p:=by
    show x∈SF (kz z) (nameAt z') (ez z) p;rw[eS];exact(vI _).1 x |>.mpr ((jm _).mem_iff.mp hx)
   have t:=gR hp hx;have:=zG t.ne t.sig
   rwa [bW] at this)
  rw[<-eS] at f;exact f
theorem zQ(Y:YPw w h):∀(n:Nat) (L:List (List Str)),n<=6->L.length=6->(∀k,n<=k->k<6->L[k]?=some (Sz z z' k)) ->
  kI (cx w h mb) (b+8) (KV z) ((NS z').map .str) (nv (depL (Lz z))) (K7 n).reverse L ((K7 6).map (Sz z z')):=by
 intro l_
 induction l_ with
 | zero =>
  intro L _ h6 hL;have e:L=(K7 6).map (Sz z z'):=QW λk=>by
   by_cases hk:k<6
   ·rw[hL k (K5 _) hk,Lf,QQ hk];rfl
   ·rw[O1 (by omega),O1 (by rw[KN,QJ];omega)]
  exact e.symm
 | succ n ih =>
  intro L hn h6 hL;rw[List.range_succ,List.reverse_append];refine⟨Sz z z' n,zX W hg Y (by omega) λk h1 h2=>hL k (by omega) h2,ih (L.set n (Sz z z' n)) (by omega) (by rw[OD];exact h6) λk h1 h2=>?_⟩
  by_cases q:k=n
  ·subst q;rw[Pb (by omega)]
  ·rw[Og (λe=>q e.symm)];exact hL k (by omega) h2
noncomputable abbrev SV(z z':Int):List (List Str):=(K7 6).map (Sz z z')
theorem zT(Y:YPw w h):FnOk (cx w h mb) (b+9) "_law_sets" [.lst (KV z),NV z',.lst (nv (depL (Lz z)))] (sv (SV z z')):=by
 have e:eN.pars.zip [V.lst (KV z),NV z',.lst (nv (depL (Lz z)))]=([("kids",.lst (KV z)),("names",NV z'),("depths",.lst (nv (depL (Lz z))))]:List (Str × V)):=by rfl'
 refine(ir (b:=b+8) W (by rfl') (Ie W) (of3 JL) rfl rfl (σ:=⟨[lvS],[.vars [("kids",.lst (KV z))],.cell (some (NV z')),.cell (some (.lst (nv (depL (Lz z))))),.cell none,.cell none]⟩) ?_ (zP W hg (kO z) (oV z') (by rw[KN,jW]) (zQ W hg Y 6 [[],[],[],[],[],[]] (K3 _) rfl λk h1 h2=>by omega)) rfl).ok
 rw[e];refine' .cons ?a (.cons ?b (.cons ?c .nil))
 case a=>wtm_at "m.set"
 case b=>wtm_at "m.set"
 case c=>wtm_at "m.set"
end
end
section
theorem pG(l:List T):aJ l=l.map au:=by
 have:=lw (λt:T=>t) l
 rwa [List.map_id'] at this
theorem pH(t:T):flat (au t)=true:=by cases t;rfl
theorem xU(t:T):below 0 (au t)=true:=by cases t;rfl
theorem xT(t:T):hand (au t)=true:=by cases t;rfl
noncomputable def fitF(κ:Nat->List Nat)(nm:Nat->Str):Nat->T->Nat->Bool
 | 0,_,_=>false
 | n+1,.node c l,p=>(decide (c=nm p)&&decide (l.length=(κ p).length))&&bK (fitF κ nm n) l (κ p)
theorem Pl.sub{κ:Nat->List Nat}{nm:Nat->Str}{ev:Nat->Bool}(H:Pl κ nm ev){p:Nat}(hp:p<6){t:T}(h:t∈TsF κ nm p):∃ts,t=.node (nm p) ts/\ts.length<=3/\∀u∈ts,∃k∈κ p,u∈TsF κ nm k:=by
 obtain⟨ts,rfl,hr⟩:=(H.tr.mem hp).mp h;refine⟨ts,rfl,by rw[hr.len,KN];exact H.k3 p hp,λu hu=>?_⟩
 obtain⟨s,hs,hm⟩:=hr.mem u hu;obtain⟨k,hk,rfl⟩:=K9.mp hs;exact⟨k,hk,hm⟩
theorem Pl.fit{κ:Nat->List Nat}{nm:Nat->Str}{ev:Nat->Bool}(H:Pl κ nm ev):∀(n p:Nat),6-p<=n->p<6->∀t∈TsF κ nm p,fitF κ nm n t p=true:=by
 intro l_
 induction l_ with
 | zero =>
  intro p hn hp;omega
 | succ n ih =>
  intro p hn hp;intro t ht;obtain⟨ts,rfl,hr⟩:=(H.tr.mem hp).mp ht;show((decide (nm p=nm p)&&decide (ts.length=(κ p).length))&&bK (fitF κ nm n) ts (κ p))=true;rw[decide_eq_true rfl,decide_eq_true (by rw[hr.len,KN]),zg (A:=TsF κ nm) _ (κ p) ts rfl hr λk hk u hu=>ih k (six hn (H.low p hp k hk).1) (H.low p hp k hk).2 u hu]
  rfl
theorem Pl.lay{κ:Nat->List Nat}{nm:Nat->Str}{ev:Nat->Bool}(H:Pl κ nm ev):∀(n p:Nat),6-p<=n->p<6->∀t∈TsF κ nm p,∀d,n<=d->Lay d (au t):=by
 intro l_
 induction l_ with
 | zero =>
  intro p hn hp;omega
 | succ n ih =>
  intro p hn hp;intro t ht d hd;obtain⟨ts,rfl,_,hs⟩:=H.sub hp ht;obtain⟨a,ea,h3⟩:=H.nms p hp;obtain⟨d,rfl⟩:∃d',d=d'+1:=⟨d-1,by omega⟩
  show Lay (d+1) (.lst (.str (nm p)::aJ ts));rw[pG];refine .lst (.of λv hv=>?_);rcases KZ.mp hv with rfl | hv
  ·rw[ea]
   refine .str (qu λx hx=>?_);rw[MJ] at hx;subst hx;rcases h3 with rfl | rfl | rfl <;> decide
  ·obtain⟨u,hu,rfl⟩:=K9.mp hv
   obtain⟨k,hk,m⟩:=hs u hu;exact ih k (six hn (H.low p hp k hk).1) (H.low p hp k hk).2 u m d (by omega)
noncomputable abbrev Tz(z z':Int):Nat->List T:=TsF (kz z) (nameAt z')
section
variable{w:World}{h:Heap}{mb:Str->Option Value}{b:Nat}{z z':Int}(W:Wd (cx w h mb) h)(hg:aj (cx w h mb) G)
include W hg
theorem qm{n m:Nat}(hf:∀(o:Nat),6-o<=n->o<6->∀(q:Nat),q<6->∀t∈Tz z z' q,FnOk (cx w h mb) (b+5*n) "_law_fits" [au t,.int o,.lst (KV z),NV z'] (.bool (fitF (kz z) (nameAt z') n t o)))
  (ih:∀(ts:List T) (ps:List Nat),ts.length+1=m->ps.length<=3->(∀t∈ts,∃q,q<6/\t∈Tz z z' q)->(∀o∈ps,6-o<=n/\o<6)->FnOk (cx w h mb) (b+5*n+m) "_law_some" [.lst (aJ ts),kv ps,.lst (KV z),NV z'] (.bool (bK (fitF (kz z) (nameAt z') n) ts ps)))
  (ts:List T) (ps:List Nat) (hm:ts.length=m) (h3:m<=3) (h4:ps.length<=3) (ht:∀t∈ts,∃q,q<6/\t∈Tz z z' q) (ho:∀o∈ps,6-o<=n/\o<6) :
   FnOk (cx w h mb) (b+5*n+m+1) "_law_some" [.lst (aJ ts),kv ps,.lst (KV z),NV z'] (.bool (bK (fitF (kz z) (nameAt z') n) ts ps)):=by
 have H:=cA z z';have e:bh.pars.zip [.lst (aJ ts),kv ps,.lst (KV z),NV z']=([("trees",.lst (aJ ts)),("places",kv ps),("kids",.lst (KV z)),("names",NV z')]:List (Str × V)):=by rfl'
 refine(lift W (by rfl') (H9 W) (by rfl') (of4 JG) rfl rfl e (zf W hg ?_ (KQ (hm▸h3) (by decide)) h4 (λt hmt o hmo=>?_) (λt r he j hj=>?_)) rfl).ok
 ·rw[pG]
  refine .of λv hv=>?_;obtain⟨u,hu,rfl⟩:=K9.mp hv;obtain⟨q,hq,m⟩:=ht u hu;exact H.lay 6 q (MP _ _) hq u m 59 (by decide)
 ·obtain⟨q,hq,hmq⟩:=ht t hmt
  exact(hf o (ho o hmo).1 (ho o hmo).2 q hq t hmq).le (LQ _ _)
 ·subst he
  have hl:=cu (l:=ps) (k:=j) hj;exact ih r (rmv ps j) hm (Qv (KQ (LK hl) h4)) (λa hx=>ht a (.tail _ hx)) (λo hx=>ho o (eX hx))
theorem qt{n:Nat}(hf:∀(o:Nat),6-o<=n->o<6->∀(q:Nat),q<6->∀t∈Tz z z' q,FnOk (cx w h mb) (b+5*n) "_law_fits" [au t,.int o,.lst (KV z),NV z'] (.bool (fitF (kz z) (nameAt z') n t o))) :
  ∀(m:Nat) (ts:List T) (ps:List Nat),ts.length=m->m<=3->ps.length<=3->(∀t∈ts,∃q,q<6/\t∈Tz z z' q)->(∀o∈ps,6-o<=n/\o<6) ->
   FnOk (cx w h mb) (b+5*n+m+1) "_law_some" [.lst (aJ ts),kv ps,.lst (KV z),NV z'] (.bool (bK (fitF (kz z) (nameAt z') n) ts ps))
 | 0=>qm W hg hf λ_ _ h=>nomatch h
 | m+1=>λts ps hm h3=>qm W hg hf (λr ps h h4=>qt hf m r ps (Nat.succ.inj h) (Qv h3) h4) ts ps hm h3
theorem Hi:∀(n p:Nat),6-p<=n->p<6->∀(q:Nat),q<6->∀t∈Tz z z' q,FnOk (cx w h mb) (b+5*n) "_law_fits" [au t,.int p,.lst (KV z),NV z'] (.bool (fitF (kz z) (nameAt z') n t p)):=by
 intro l_
 induction l_ with
 | zero =>
  intro p hn hp;omega
 | succ n ih =>
  intro p hn hp;intro q hq t ht;have H:=cA z z';obtain⟨l,rfl,l3,hs⟩:=H.sub hq ht;have l6:(NS z').length<=6:=by rw[oV];omega
  have e:jd.pars.zip [au (.node (nameAt z' q) l),.int p,.lst (KV z),NV z']=([("tree",au (.node (nameAt z' q) l)),("place",.int p),("kids",.lst (KV z)),("names",NV z')]:List (Str × V)):=by rfl'
  have ef:fitF (kz z) (nameAt z') (n+1) (.node (nameAt z' q) l) p=((decide (nameAt z' q=nameAt z' p)&&decide (l.length=(kz z p).length))&&bK (fitF (kz z) (nameAt z') n) l (kz z p)):=rfl;refine(lift (b:=b+5*n+4) W (by rfl') (I5 W) (by rfl') (of4 J6) rfl ?_ e (Hh W hg (gP z' hp) l6 (jb z hp) (LK (kO z)) (by omega) (H.k3 p hp) (λh1 h2=>?_) ?_) rfl).ok
  ·show(hand (au _)&&_)=true
   rw[xT];rfl
  ·rw[ef,decide_eq_true h1,decide_eq_true h2]
   have f:=qt (b:=b) W hg (z:=z) (z':=z') (n:=n) (λo h1 h2=>ih o h1 h2) l.length l (kz z p) rfl l3 (H.k3 p hp) (λt ht=>by
    obtain⟨k,hk,m⟩:=hs t ht;exact⟨k,(H.low q hq k hk).2,m⟩) (λo ho=>⟨six hn (H.low p hp o ho).1,(H.low p hp o ho).2⟩)
   exact f.le (by omega)
  ·rw[ef]
   by_cases h1:nameAt z' q=nameAt z' p
   ·by_cases h2:l.length=(kz z p).length
    ·exact .inl ⟨h1,h2⟩
    ·right;rw[decide_eq_false h2,O3];rfl
   ·right;rw[decide_eq_false h1];rfl
omit W hg in
theorem back{e:Bool}{ts:List T}(hi:∀a∈ts,∀c∈ts,mkS (wrT e a)=mkS (wrT e c)->a=c):∃g:Str->T,∀a∈ts,g (mkS (wrT e a))=a:=by
 have:Nonempty T:=⟨.node "" []⟩;refine⟨λs=>Classical.epsilon λu=>u∈ts/\mkS (wrT e u)=s,λa ha=>?_⟩;have:=Classical.epsilon_spec (p:=λu=>u∈ts/\mkS (wrT e u)=mkS (wrT e a)) ⟨a,ha,rfl⟩;exact hi _ this.1 a ha this.2
theorem By(Y:YPw w h):∀(n p:Nat),6-p<=n->p<6->∀t∈Tz z z' p,∀(e:Bool) (d:Nat),(d % 2==0)=e->FnOk (cx w h mb) (b+8+n) "_law_read" [.str (mkS (wrT e t)),.int d] (au t):=by
 intro l_
 induction l_ with
 | zero =>
  intro p hn hp;omega
 | succ n ih =>
  intro p hn hp;intro t ht e d hd;have H:=cA z z';have t6:=H.wr6 hp ht e;obtain⟨ts,rfl,l3,hs⟩:=H.sub hp ht;obtain⟨a,ea,h3⟩:=H.nms p hp;obtain⟨g,hgv⟩:=back (e := !e) (ts:=ts) λu hu v hv h=>by
   obtain⟨k,hk,m⟩:=hs u hu;obtain⟨k',hk',m'⟩:=hs v hv;exact H.inj6 (H.low p hp k hk).2 (H.low p hp k' hk').2 m m' h
  have eg:(ts.map λu=>mkS (wrT (!e) u)).map g=ts:=by
   rw[Lq]
   conv=>rhs;rw[<-O8 ts]
   exact MN λu hu=>hgv u hu
  have h2:∀x∈ts.map λu=>mkS (wrT (!e) u),FnOk (cx w h mb) (b+8+n) "_law_read" [.str x,.int ((d:Int)+1)] (au (g x)):=λx hx=>by
   obtain⟨u,hu,rfl⟩:=K9.mp hx;obtain⟨k,hk,m⟩:=hs u hu;rw[hgv u hu];exact ih k (six hn (H.low p hp k hk).1) (H.low p hp k hk).2 u m (!e) (d+1) (by rw[rF,hd])
  have sub:∀x∈ts.map (wrT (!e)),x≠[]/\x.length<=10000/\∀a∈x,a∈Sig:=λx hx=>by
   obtain⟨u,hu,rfl⟩:=K9.mp hx;obtain⟨k,hk,m⟩:=hs u hu;have:=H.wr6 (H.low p hp k hk).2 m (!e);exact⟨this.1,this.2.2,this.2.1⟩
  have a3:∀x∈[a],x∈Sig:=λx hx=>by
   rw[MJ] at hx;subst hx;rcases h3 with rfl | rfl | rfl <;> decide
  have l0:(ts.map λu=>mkS (wrT (!e) u)).length<=10:=by rw[KN];omega
  have em:(ts.map (wrT (!e))).map mkS=ts.map λu=>mkS (wrT (!e) u):=by rw[Lq];rfl
  rw[fW,ea,toList_mkS] at t6;have ep:dI.pars.zip [V.str (mkS (wrT e (.node (nameAt z' p) ts))),.int d]=([("text",.str (mkS (wrT e (.node (nameAt z' p) ts)))),("depth",.int d)]:List (Str × V)):=by rfl'
  refine(ir (b:=b+8+n) W (by rfl') (Il W) (of2 JS) rfl rfl (σ:=⟨[lvR],[.vars [("text",.str (mkS (wrT e (.node (nameAt z' p) ts))))],.cell (some (.int d))]⟩) ?_ ?_ (xU _)).ok
  ·rw[ep]
   refine' .cons (τ:=⟨[lvR],[.vars [("text",.str (mkS (wrT e (.node (nameAt z' p) ts))))],.cell none]⟩) ?a (.cons ?b .nil)
   case a=>exact Sv.loc (l:=lvR) (vs:=[]) (by rfl') rfl
   case b=>exact Sv.cel (i:=1) (u:=none) (by rfl') (by rfl') rfl
  ·rw[fW,ea,toList_mkS]
   cases e with
   | true =>
    have d0:K6 (d:Int) 2=0:=by
     rw[jT];have:d % 2=0:=by simpa using hd
     rw[this];rfl
    have r:=λf1=>BJ W hg (t:=mkS (wrow true [a] (ts.map (wrT (!true))))) (name:=mkS [a]) d0 f1 l0 h2 λ_ _=>pH _;rw[eg] at r;refine r ?_;rw[<-em];have s:=yZ (b:=b) W hg Y (xs:=[a]::ts.map (wrT false)) (by have:(az ([a]::ts.map (wrT false))).length<=10000:=t6.2.2;omega) (by simp) (by rw[KJ,KN];omega) (λx hx=>by
     rcases KZ.mp hx with rfl | hx
     ·exact⟨by simp,by simp,a3⟩
     ·have:=sub x hx
      exact⟨this.1,by omega,this.2.2⟩)
    exact s.ok.le (by omega)
   | false =>
    have d0:K6 (d:Int) 2≠0:=by
     rw[jT];have:d % 2≠0:=by simpa using hd
     omega
    have r:=λf1=>Bx W hg (t:=mkS (wrow false [a] (ts.map (wrT (!false))))) (name:=mkS [a]) d0 f1 l0 h2 λ_ _=>pH _;rw[eg] at r;refine r ?_;rw[<-em];exact(zM (b:=b) W hg Y (n:=[a]) (ks:=ts.map (wrT true)) ⟨by simp,a3⟩ (λx hx=>⟨(sub x hx).1,(sub x hx).2.2⟩) (by rw[KN];omega) (by have:=t6.2.2;exact KQ this (by omega))).le (by omega)
theorem Bu:FnOk (cx w h mb) (b+31) "_law_right" [.lst (KV z),NV z',.lst (nv (depL (Lz z))),sv (SV z z')] (.bool true):=by
 have H:=cA z z';have e:cM.pars.zip [.lst (KV z),NV z',.lst (nv (depL (Lz z))),sv (SV z z')]=([("kids",.lst (KV z)),("names",NV z'),("depths",.lst (nv (depL (Lz z)))),("sets",sv (SV z z'))]:List (Str × V)):=by rfl'
 have eS:∀o,o<6->(SV z z')[o]?.getD []=Sz z z' o:=λo ho=>by rw[Lf,QQ ho];rfl
 refine(lift (b:=b+30) W (by rfl') (Ik W) (by rfl') (of4 JR) rfl rfl e (Bq W hg (W:=wyF (kz z) (nameAt z')) (O:=odF (kz z)) (jW z) (by rw[KN,QJ]) λo ho=>?_) rfl).ok
 rw[eS o ho];refine⟨o7 W hg 6 o o (by omega) ho ho,(Dl (b:=b) W hg 6 o (by omega) ho).le (by omega),H.Slen ho,by have:=H.S12 (ev:=ez z) ho;exact KQ this (by omega),λk hk=>?_⟩
 have hk6:k<6:=by omega
 rw[eS k hk6];refine⟨o7 W hg 6 o k (by omega) ho hk6,λhd=>?_⟩
 have he:=Hj (p:=o) (q:=k) hd;have l12:∀ {p:Nat},p<6->(Sz z z' p).length<=100:=λhp=>KQ (H.S12 (ev:=ez z) hp) (by omega)
 exact(De (b:=b) W hg (H.Snd ho) (H.Snd hk6) (λh0 x=>H.same ho hk6 he h0 x) (λh0 x hx=>H.apart ho hk6 he h0 hx) (λs hs=>(gR ho hs).sok) (λs hs=>(gR hk6 hs).sok) (l12 ho) (l12 hk6)).le (by omega)
theorem Fx:FnOk (cx w h mb) (b+1) "_law_kids" [.int z] (.lst (KV z)):=by
 have e:b8.pars.zip [V.int z]=([("code",.int z)]:List (Str × V)):=by rfl'
 refine(ir (b:=b) W (by rfl') (Iz W) (of1 J1) rfl rfl (σ:=⟨(aL b8 []).lv,[.vars [("code",.int z)],.cell none]⟩) ?_ (Ft W hg) rfl).ok
 rw[e];refine' .cons ?a .nil
 case a=>wtm_at "m.set"
theorem HS:FnOk (cx w h mb) (b+1) "_law_depths" [.lst (KV z)] (.lst (nv (depL (Lz z)))):=by
 have e:cg.pars.zip [V.lst (KV z)]=([("kids",.lst (KV z))]:List (Str × V)):=by rfl'
 exact(lift W (by rfl') (I6 W) (by rfl') (of1 J7) rfl rfl e (HR W hg (iZ z) (Ko z)) rfl).ok
end
end
section
theorem Bm:((K7 2).all λa=>(K7 3).all λb=>(K7 3).all λc=>(K7 3).all λd=>Nu ((depL (kidsOf (parN a b c d)))[0]?.getD 0) 0)=true:=by rfl'
theorem Hk(z:Int):ez z 0=true:=by
 obtain⟨a,b,c,d,ha,hb,hc,hd,e⟩:=rG z;have h:=Bm;have h:=La.mp h a (MK.mpr ha);have h:=La.mp h b (MK.mpr hb);have h:=La.mp h c (MK.mpr hc);have h:=Qy (La.mp h d (MK.mpr hd));unfold ez dz Lz;rw[e,h];rfl
section
variable{w:World}{h:Heap}{mb:Str->Option Value}{b:Nat}(W:Wd (cx w h mb) h)(hg:aj (cx w h mb) G)
include W hg
theorem EY(Y:YPw w h){ns:List Int}(hl:ns.length<=63):FnAt (cx w h mb) (b+32) "law" [.lst (ns.map .int)] (.bool true):=by
 generalize hz:(53+(pick ns (some 0) none (some 2)).sum:Int)=z;generalize hz':(687+(pick ns (some 1) none (some 2)).sum:Int)=z';have H:=cA z z';have e0:(SV z z')[0]?=some (Sz z z' 0):=rfl;have n0:Sz z z' 0≠[]:=H.Sne (ev:=ez z) (by omega)
 have p0:0<((Sz z z' 0).length:Int):=by have:=OJ.mpr n0;omega
 obtain⟨i,hi,ei⟩:∃i:Nat,i<(Sz z z' 0).length/\(K6 ns.sum (Sz z z' 0).length).toNat=i:=by
  have h0:=Qg ns.sum p0;have h1:=Qh ns.sum p0;exact⟨_,zr3 h0 h1,rfl⟩
 have ht:(Sz z z' 0)[(K6 ns.sum (Sz z z' 0).length).toNat]?=some ((Sz z z' 0)[i]):=by rw[ei,Lb hi]
 obtain⟨t,htm,et⟩:=(H.Smem (ev:=ez z) (p:=0) (by omega)).mp (QL hi)
 rw[Hk] at et;have rd:=By (b:=b) W hg Y (z:=z) (z':=z') 6 0 (by omega) (by omega) t htm true 0 rfl
 rw[et] at rd;have ft:=Hi (b:=b) W hg (z:=z) (z':=z') 6 0 (by omega) (by omega) 0 (by omega) t htm
 rw[H.fit 6 0 (by omega) (by omega) t htm] at ft
 have ep:fQ.pars.zip [V.lst (ns.map .int)]=([("script",.lst (ns.map .int))]:List (Str × V)):=by rfl'
 refine ir (b:=b+31) W (by rfl') (Iv W) (of1 JZ) rfl rfl (σ:=⟨[lvA],[.vars [("script",.lst (ns.map .int))],.cell none]⟩) ?_ (Ez W hg hl (ks:=Lz z) (ds:=depL (Lz z)) (S:=SV z z') (S0:=Sz z z' 0) (text:=(Sz z z' 0)[i]) (tr:=t) ?_ ?_ ?_ ?_ e0 ?_ ?_ n0 ht ?_ ?_) rfl
 ·rw[ep]
  exact .cons (τ:=⟨[lvA],[.vars [("script",.lst (ns.map .int))],.cell none]⟩) (Sv.loc (l:=lvA) (vs:=[]) (by rfl') rfl) .nil
 ·rw[hz];exact(Fx (b:=b) W hg).le (by omega)
 ·exact(HS (b:=b) W hg).le (by omega)
 ·rw[hz'];exact(zT (b:=b) W hg Y).le (by omega)
 ·rw[hz'];exact Bu (b:=b) W hg
 ·have:(Sz z z' 0).length<=12:=H.S12 (ev:=ez z) (by omega)
  omega
 ·rw[KN,QJ]
 ·exact rd.le (by omega)
 ·rw[hz'];exact ft.le (by omega)
end
end
section
theorem Cq{args:List WData}(h:(PySem.Challenge.rw_om0176_01.row).toRowW.claim.pre args=true):∃ns:List Int,args=[.list (ns.map .int)]/\ns.length<=63:=by
 obtain⟨h1,h2⟩:=pre_splitW h;have h1:WShape.hasAll [] args [.list .int]=true:=h1
 match args,h1 with
 | [],h1=>cases h1
 | [d],h1 =>
  have h1:(WShape.has [] d (.list .int)&&true)=true:=h1;rw[Ol] at h1;obtain⟨xs,rfl,h4⟩:=hasW_list h1;obtain⟨ns,rfl⟩:=items_int h4;refine⟨ns,rfl,?_⟩;have h3:(WTm.not (.lt (.lit (.int 63)) (.len (.arg 0)))).holds [] {args:=[.list (ns.map .int)]}=true:=(holds_andW h2).1;cases hd:decide ((63:Int)<(ns.map WData.int).length) with
  | true =>
   unfold WTm.holds at h3;have e:(WTm.not (.lt (.lit (.int 63)) (.len (.arg 0)))).value [] {args:=[.list (ns.map .int)]}=some (WData.bool (!decide ((63:Int)<(ns.map WData.int).length))):=rfl;rw[e,hd] at h3;cases h3
  | false =>
   have e:=of_decide_eq_false hd;rw[KN] at e;omega
 | d::e::r,h1 =>
  have h1:(WShape.has [] d (.list .int)&&false)=true:=h1;rw[O3] at h1;cases h1
theorem wY{P:Params}{h:Heap}{v:Value}{n:Int}(x:Well P h v (.int n)):∃t,v=.int n t:=by cases x;exact⟨_,rfl⟩
theorem wX{P:Params}{h:Heap}{v:Value}{xs:List WData}(x:Well P h v (.list xs)):∃a vs,v=.ref a/\h.get? a=some ⟨.type "list",none,.seq vs.toArray,#[]⟩/\WellAll P h vs xs:=by
 cases x with
 | list p q=>exact⟨_,_,rfl,p,q⟩
theorem Cm{P:Params}{h:Heap}{F:Frz}:∀ {ns:List Int} {vs:List Value},WellAll P h vs (ns.map .int)->PuL F vs (ns.map .int):=by
 intro l_
 induction l_ with
 | nil =>
  intro _ x;cases x;exact .nil
 | cons n ns ih =>
  intro _ x;obtain⟨v,vs,rfl,a,b⟩:=wellAll_cons_inv x;obtain⟨t,rfl⟩:=wY a;exact .cons (.int _ _) (ih b)
theorem walkO{d:DefRec}{kwd:List (Str × Expr)}(hn:d.name="law"):WalkO qv lz (λ_ _=>True) YPw (PySem.Challenge.rw_om0176_01.row).toRowW d kwd λf vs=>PySem.call f vs:=by
 intro w s₀ s₁ mg mb G Y a o pm cd doc dV kV ho hd hcd hD hmg hg args vals as hpre hlay hrd hwl hlo;obtain⟨ns,rfl,hl⟩:=Cq hpre;obtain⟨em,W⟩:=wZ (w:=w) G.T (by rfl') Y
 subst em;have hgl:=GF (w:=w) G.T;obtain⟨v,vs',rfl,hv,hnil⟩:=wellAll_cons_inv hwl;cases hnil;obtain⟨a',vs,rfl,hob,hvs⟩:=wX hv;rw[hn] at hmg;have L:=EY (b:=0) W hgl Y hl
 let P:Frz:=λb=>if b=a' then some ⟨.type "list",none,.seq vs.toArray,#[]⟩ else none
 have hP:∀b ob,P b=some ob->b=a'/\ob=⟨.type "list",none,.seq vs.toArray,#[]⟩:=λb ob e=>by
  by_cases q:b=a'
  ·refine⟨q,?_⟩
   have e:(if b=a' then some (⟨.type "list",none,.seq vs.toArray,#[]⟩:Obj) else none)=some ob:=e;rw[if_pos q] at e;exact(Option.some.inj e).symm
  ·have e:(if b=a' then some (⟨.type "list",none,.seq vs.toArray,#[]⟩:Obj) else none)=some ob:=e
   rw[if_neg q] at e;cases e
 have hPa:P a'=some ⟨.type "list",none,.seq vs.toArray,#[]⟩:=if_pos rfl;have is:IsL (cx w s₁.heap mb).D Gh.nil P [.ref a'] [.lst (ns.map .int)]:=.cons (.pu (.lst hPa (Cm hvs))) .nil;have st:St (cx w s₁.heap mb) [] Gh.nil P s₁ []:=⟨⟨rfl,λi c e=>by simp at e,λi j hi=>absurd hi (Ma _),λi c e=>by simp at e,λb ob e=>by
  obtain⟨rfl,rfl⟩:=hP b ob e;exact hob,λb ob e=>by
  obtain⟨rfl,rfl⟩:=hP b ob e;exact⟨λq=>by injection q with q;revert q;decide,λq=>by cases q⟩⟩,W,λe he=>by cases he⟩
 have am:Am0 (cx w s₁.heap mb) callerA [] (0+32):=⟨rfl,by decide +kernel,by decide +kernel,rfl,by rfl'⟩
 refine wpAny_mono (L callerA [] Gh.nil P s₁ [] (.ref a) [.ref a'] _ am st hmg is).2 (λv s' q_=>Exists.p3 q_ λP' af iv=>?_) λ_ _ q=>q;obtain rfl:=iv.bool_inv;refine⟨.inl ⟨.bool true,.bool true,[],rfl,λ_=>rfl,.bool true,(by rfl'),λ_=>⟨.nil,λ_ h=>by cases h⟩⟩,af.ext.old (.refl _),af.ext.os,af.ext.gens.bare ?_⟩
 rw[hg];intro i g;simp at g
end
end Mine
set_option maxHeartbeats 8000000 in
theorem PySem.Challenge.cw_om0176_01_holds : PySem.Challenge.rw_om0176_01.Holds := by
 refine holds_law Mine.law_said λsaid=>?_;exact holds_open (q:=Mine.qv) (loose:=Mine.lz) (Xt:=λ_=>true) (XP:=λ_ _=>True) (Yf:=Mine.Yf) (Ya:=Mine.Ya) (YP:=Mine.YPw) (N:=Mine.Nn) Mine.leftO (λw s e=>Mine.ypw w s e) (λw h h' Y k a o e=>k a o (Y a o e)) (λ_ _=>trivial) (λ_ _ _ _ _=>trivial) (by rfl) (by rfl) (by rfl) (λs _=>recFacts_of (by rfl)) (by rfl) (by assumption) (by decide +kernel) ⟨rfl,rfl,rfl,rfl,rfl,by decide +kernel⟩ ⟨[.list [.int 3,.int 1]],by decide +kernel,by decide +kernel⟩ (Mine.walkO rfl)