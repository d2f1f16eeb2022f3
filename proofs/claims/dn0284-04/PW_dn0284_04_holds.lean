import PyProof.Rows.All
import Wide.All
import OpenK.AllK
import Wide.FinOn
import PySem.Challenge.RW_dn0284_04
set_option Elab.async false
set_option compiler.extract_closed false
set_option genInjectivity false
set_option genCtorIdx false
set_option genSizeOf false
set_option linter.all false
set_option maxRecDepth 100000
open PySem PySem.W PyProof.Rows PySem.W.X PySem.SeqAt
section
set_option maxHeartbeats 8000000
namespace Mine
theorem ws:PySem.Challenge.rw_dn0284_04.wellSaid=true:=by kernel_rfl
open_top hd for (PySem.W.OpenLaw.row PySem.Challenge.rw_dn0284_04)
end Mine
end
open _root_.PySem renaming wpAny_bind→Aa,Shared→Ac,wpAny→Ad,wpAny_pure→Af,wpAny_mono→As,sizeLine→Au,sizeLine_eq→Av,starEach→Aw,wpAny_execs_cons→Ay,wpAny_holding→AC,builtinLookup_eq_fast→AF,wpAny_execs_nil→AI,Around→AJ,mainGlobals→AL,wpAny_standAt→AP,recursionLimit→Be,wpAny_of_eq→Bi,scanBound→Bu,wpAny_attempt→Bz
open _root_.List renaming length_append→Ae,mem_append_right→Ag,mem_map→Ah,append_assoc→Ai,append_nil→Aj,map_cons→Ak,length_map→Al,mem_append_left→Am,map_append→Ao,mem_of_getElem?→Ap,cons_append→Ar,mem_cons→At,nil_append→Ax,length_singleton→Az,dropLast_concat_getLast→AA,map_nil→AD,nodup_cons→AH,perm_middle→AM,size_toArray→AN,sublist_append_left→AO,sublist_cons_self→AQ,mem_singleton→AR,perm_append_comm→AU,length→AV,mem_append→AW,range→AY,map_map→AZ,length_cons→A9,drop_eq_getElem_cons→Ba,getElem_mem→Bb,lookup_cons→Bc,range'→Bg,lookup_eq_none_iff→Bl,drop_of_length_le→Bo,nodup_append→Bq,mem_range→Br,length_eq_zero_iff→Bs,all_eq_true→Bv,length_pos_iff→BF,not_mem_nil→BG,take_of_length_le→BH,drop→BI,all_cons→BJ,mem_cons_of_mem→BK,dropLast_concat→BL,getElem_of_mem→BN,pairwise_cons→BP
open _root_.Nat renaming le_trans→An,zero_le→AB,le_of_ble_eq_true→AE,le_refl→AG,lt_of_le_of_lt→AS,le_add_right→AX,add_le_add→A7,add_le_add_right→Bf,add_le_add_left→Bh,succ_le_succ→Bj,add_assoc→Bk,ble→Bm,add_right_comm→Bn,le_of_eq→Bp,mul_le_mul_left→Bt,ne_of_lt→Bx,zero_add→BA,le_succ_of_le→BB,add_comm→BC,lt_irrefl→BE,le_of_not_lt→BM,le_antisymm→BO
open _root_.Exists renaming elim→Aq
open _root_.Bool renaming and_eq_true→AK,not_eq_true'→Bw
open _root_.Array renaming length_toList→A8
open _root_.Int renaming ofNat_lt→By,toNat_natCast→BD
section
namespace Mine
theorem le_c{a m c:Nat}(h:a<=m)(e:Bm m c=true):a<=c:=An h (AE e)
theorem lt_c{a m c:Nat}(h:a<=m)(e:Bm (m+1) c=true):a<c:=AS h (AE e)
theorem ub_n{n:Nat}{i:OfNat Nat n}:(@OfNat.ofNat Nat n i)<=@OfNat.ofNat Nat n i:=AG _
theorem ub_l{a n:Nat}{i:OfNat Nat n}(h:a<=@OfNat.ofNat Nat n i):a<=@OfNat.ofNat Nat n i:=h
theorem ub_e{a n:Nat}{i:OfNat Nat n}(h:a=@OfNat.ofNat Nat n i):a<=@OfNat.ofNat Nat n i:=Bp h
theorem ub_t{a n:Nat}{i:OfNat Nat n}(h:a<@OfNat.ofNat Nat n i):a<=@OfNat.ofNat Nat n i:=Nat.le_of_lt h
theorem ub_app{a b:Str}{m n:Nat}(h:a.length<=m)(k:b.length<=n):(a++b).length<=m+n:=by rw[Str.length_append];exact A7 h k
theorem ub_lapp{α:Type}{a b:List α}{m n:Nat}(h:a.length<=m)(k:b.length<=n):(a++b).length<=m+n:=by rw[Ae];exact A7 h k
theorem ub_cons{α:Type}{x:α}{b:List α}{n:Nat}(k:b.length<=n):(x::b).length<=n+1:=Bj k
theorem ub_nil{α:Type}:([]:List α).length<=0:=AG 0
theorem ub_map{α β:Type}{f:α->β}{b:List α}{n:Nat}(k:b.length<=n):(b.map f).length<=n:=by rw[Al];exact k
theorem ub_mul{k m n:Nat}(h:m<=n):k*m<=k*n:=Bt k h
theorem ub_sub{a b m:Nat}(h:a<=m):a-b<=m:=An (Nat.sub_le a b) h
theorem ub_eq{a b m:Nat}(e:a=b)(h:b<=m):a<=m:=e▸h
theorem ub_ltc{a b m:Nat}(e:a<b)(h:b<=m):a<=m:=An (Nat.le_of_lt e) h
theorem ub_mt:Str.empty.length<=0:=by decide +kernel
theorem ub_min{a b m:Nat}(h:b<=m):min a b<=m:=An (Nat.min_le_right a b) h
theorem ub_div{a k m:Nat}(h:a<=m):a/k<=m:=An (Nat.div_le_self a k) h
theorem ar_a{n i m:Nat}(h:n-i=m+1):n-(i+1)=m:=by rw[Nat.sub_add_eq,h];rfl
theorem ar_b{n i m:Nat}(h:n-i=m+1):i<n:=Nat.lt_of_sub_eq_succ h
theorem ar_c{n i:Nat}(h:n-i=0):n<=i:=Nat.le_of_sub_eq_zero h
theorem ar_d{n i:Nat}(h:n-i=0)(k:i<=n):i=n:=BO k (ar_c h)
theorem ar_e{n i m:Nat}(h:n-i=0)(k:i<m):n<m:=AS (ar_c h) k
theorem ar_f{n k:Nat}(h:n=k+1):n-1=k:=by rw[h];rfl
theorem ar_g{a b:Nat}(h:¬a<b):b<=a:=BM h
theorem ar_h{a k c:Nat}(h:a+k<c):a<c:=AS (AX a k) h
theorem ar_i{a j k c:Nat}(h:j<=k)(h2:a+k<c):a+j<c:=AS (Bh h a) h2
theorem ar_j{a m j k c:Nat}(h:j<=k)(h2:a+m*k<c):a+m*j<c:=AS (Bh (Bt m h) a) h2
theorem aCO{a k c j:Nat}(e:Bm j 8=true)(h:a+8*(k+1)<c):a+j+8*k<c:=AS (by rw[Bk,BC j];exact Bh (Bh (AE e) _) _) h
theorem ar_k{a k c:Nat}(h:a+8*(k+1)<c):a+3+8*k<c:=aCO rfl h
theorem ar_k1{a k c:Nat}(h:a+8*(k+1)<c):a+1+8*k<c:=aCO rfl h
theorem ar_k2{a k c:Nat}(h:a+(k+1)<c):a+1+k<c:=by rw[Bk,BC 1];exact h
theorem ar_l{k:Int}{j:Nat}(h:k=(j:Int)):k.toNat=j:=by rw[h];rfl
theorem ar_r{a b:Nat}(h:b<=a):(a:Int)-(b:Int)=((a-b:Nat):Int):=(Int.ofNat_sub h).symm
theorem ar_q{n k:Nat}:(n:Int)-((n/k:Nat):Int)=((n-n/k:Nat):Int):=(Int.ofNat_sub (Nat.div_le_self n k)).symm
theorem ar_u{g:Nat}(h:g≠0):(g:Int)-1=((g-1:Nat):Int):=(Int.ofNat_sub (Nat.pos_of_ne_zero h)).symm
theorem ar_u2{g:Nat}(h:0<g):((g-1:Nat):Int)=(g:Int)-1:=Int.ofNat_sub h
theorem ar_v{b:Nat}:(b:Int)+1=((b+1:Nat):Int):=rfl
theorem ar_w{j n c:Nat}(h:j<n)(e:Bm n c=true):(j:Int)<(c:Int):=By.mpr (Nat.lt_of_lt_of_le h (AE e))
theorem ar_w'{j n:Nat}(h:j<n)(e:Bm n 1000000=true):(j:Int)<1000000:=ar_w h e
theorem ar_p{n i j:Nat}{P:Prop}(h:n<2)(h1:i<j)(h2:j<n):P:=absurd (AS (An (Bj (AB i)) h1) (Nat.lt_of_succ_lt_succ (AS h2 h))) (BE 1)
theorem ar_s{n k:Nat}(h:n=k)(m:Nat):n/m<=k:=h▸Nat.div_le_self n m
theorem ar_t{n m k:Nat}(h:m=n):n-k<=m:=h▸Nat.sub_le m k
theorem ar_x{n:Nat}:n/4<=n-n/4:=Nat.le_sub_of_add_le (An (An (Bp (Nat.two_mul _).symm) (Nat.mul_le_mul_right _ (by decide:2<=4))) (Nat.mul_div_le n 4))
theorem ar_y{n:Nat}(h:n<=63):min (n-n/4) n-n/4<=63:=An (Nat.sub_le _ _) (An (Nat.min_le_right _ _) h)
theorem ar_m1{n:Nat}(h:0<n):((-1:Int)+(n:Int)).toNat=n-1:=by rw[Int.add_comm,show(n:Int) + -1=((n-1:Nat):Int)from(ar_u2 h).symm];rfl
theorem ar_2{n g:Nat}(h:g≠0):n-(g-1)=n+1-g:=by
 cases g with
 | zero=>exact absurd rfl h
 | succ g=>exact(Nat.add_sub_add_right n 1 g).symm
theorem ar_3{n g:Nat}(h:g<=n+1-1):g-1<=n-1:=Nat.sub_le_sub_right h 1
theorem ar_4{i i1:Nat}(h:i1=i+1)(h2:i1<=2):(3<=i1↔3<=i)/\(i1=4↔i=4)/\(i1=3↔i=3)/\i<=3:=by
 subst h;exact(by decide:∀ i,i<2->(3<=i+1↔3<=i)/\(i+1=4↔i=4)/\(i+1=3↔i=3)/\i<=3) i h2
theorem ar_5{r l:Nat}(h:r<=l-1)(k:0<l):r+1<=l:=An (Bj h) (Bp (Nat.sub_add_cancel k))
theorem ar_7{n k:Nat}(e:n=k)(h:0<n):n-1+1=k:=(Nat.sub_add_cancel h).trans e
theorem ar_8{n k:Nat}(e:n<=k)(h:0<n):n-1+1<=k:=(Nat.sub_add_cancel h).symm▸e
theorem ar_9{g:Nat}(h:¬0<g):g-1=g:=by rw[Nat.eq_zero_of_not_pos h]
theorem as_sub{s n i c:Nat}(h:i<n)(h2:s+(n-i)+1<c):s+1+(n-(i+1))+1<c:=by
 rw[Bk s 1,BC 1,Nat.sub_add_eq,Nat.sub_add_cancel (Nat.sub_pos_of_lt h)];exact h2
theorem as_min{n k:Nat}:min (n/k) n=n/k:=Nat.min_eq_left (Nat.div_le_self n k)
theorem as_at{a p b e d q:Nat}(ha:a=1)(hb:b=2)(hd:d=1)(h:e<=6*q):a+p+b+e+d<=p+6*q+4:=by
 rw[ha,hb,hd,BC 1 p,Bn (p+1+2) e 1,Bn p (6*q) 4];exact Bh h _
theorem as_5{r l:Nat}(h:r<=l-1)(k:0<l):r+1<=l+1-1:=ar_5 h k
theorem as_i0{i:Nat}:0<=(i:Int):=Int.natCast_nonneg i
theorem as_i1{k:Int}{j:Nat}(h:k=(j:Int)):0<=k:=h▸Int.natCast_nonneg j
theorem as_rep{x z:Nat}(h:x<=6*300000)(k:(x+1)*z<=(x+1)*6):x+(x+1)*z<=16777216:=
 le_c (A7 h (An k (Nat.mul_le_mul_right 6 (Bj h)))) rfl
theorem as_d2{i:Nat}(h:i<2):i=0\/i=1:=(by decide:∀ i,i<2->i=0\/i=1) i h
theorem as_d4{i:Nat}(h:i<4):i=0\/i=1\/i=2\/i=3:=(by decide:∀ i,i<4->i=0\/i=1\/i=2\/i=3) i h
theorem as_d3{j:Nat}:j=0\/j=1\/j=2\/3<=j:=(Nat.lt_or_ge j 3).elim (λ h=>(by decide:∀ j,j<3->j=0\/j=1\/j=2\/3<=j) j h) λ h=>.inr (.inr (.inr h))
theorem as_d5{n:Nat}(h:2<=n)(k:n<=4):n=2\/n=3\/n=4:=(by decide:∀ n,n<5->2<=n->n=2\/n=3\/n=4) n (Nat.lt_succ_of_le k) h
theorem as_b1{b n:Nat}(h:b<9)(k:n<=b+1/\b<=9):n+1<=b+1+1/\b+1<=9:=⟨Bj k.1,h⟩
theorem as_b2{b n:Nat}(k:n+1<=b+1/\b<=9):n<=b+1/\b<=9:=⟨Nat.le_of_succ_le k.1,k.2⟩
theorem as_ser{a r b t c d:Nat}(h:a+r+b+t+c=d)(ha:a=17)(hd:d=0):False:=
 absurd (An (AX a r) (An (AX _ b) (An (AX _ t) (An (AX _ c) (Bp (h.trans hd)))))) (by rw[ha];decide)
theorem as_e1{a b k c:Nat}(e:a=b+1)(h:a<=k)(q:Bm k c=true):b<c:=An (An (Bp e.symm) h) (AE q)
theorem as_e2{a b k c:Nat}(e:b+1=a)(h:a<=k)(q:Bm k c=true):b<c:=as_e1 e.symm h q
theorem as_u1{a k j c:Nat}(h:a+k<c)(q:Bm j k=true):a+j<c:=ar_i (AE q) h
theorem as_u2{a k i j c:Nat}(h:a+k<c)(q:Bm (i+j) k=true):a+i+j<c:=by rw[Bk];exact as_u1 h q
theorem as_u3{a k i j l c:Nat}(h:a+k<c)(q:Bm (i+j+l) k=true):a+i+j+l<c:=by rw[Bk a,Bk a];exact as_u1 h q
theorem as_u4{a k c:Nat}(h:a+(k+1)<c):a+k<c:=Nat.lt_of_succ_lt h
theorem as_st{rs x l' ps l:Nat}(h1:rs=x+l')(h2:ps=x)(h3:ps<=60)(h4:l'=l)(h5:l<=3):rs<=70:=by
 rw[h1,h4,←h2];exact le_c (A7 h3 h5) rfl
theorem as_n1{i n m:Nat}(h:i<=n)(k:¬i<m):¬n<m:=λ q=>k (AS h q)
theorem as_s{i n:Nat}(h:i<n):i+1<=n:=h
theorem as_s'{i n:Nat}(h:i+1<=n):i<n:=h
theorem as_fl{P:Prop}{l a r:Nat}(h:P->l<=r)(k:P):l<=a+r:=An (h k) (Nat.le_add_left _ _)
theorem as_l1{n a b c:Nat}(h:n+(a+1)+b<c):n<c:=AS (An (AX _ _) (AX _ _)) h
theorem as_l2{n a c:Nat}(h:n+(a+1)+1<c):n+1<c:=AS (Bj (AX _ _)) h
theorem as_l3{n a c:Nat}(h:n+(a+1)+1<c):n+1+a+1<c:=by rw[Bn n 1 a];exact h
theorem as_l4{n a c:Nat}(h:n+(a+1)<=c):n+a<=c:=Nat.le_of_succ_le h
theorem as_l6{n a c:Nat}(h:n+(a+1)<=c):n+1+a<=c:=by rw[Bn];exact h
theorem as_c1{P:Prop}{x r k m c:Nat}(h:x<=k/\P)(h2:r<=m)(q:Bm (m+k) c=true):r+x<=c:=le_c (A7 h2 h.1) q
theorem as_w{x n:Nat}{i:OfNat Nat n}{c:Int}(h:x<@OfNat.ofNat Nat n i)(q:decide (((@OfNat.ofNat Nat n i:Nat):Int)<=c)=true):(x:Int)<c:=Int.lt_of_lt_of_le (By.mpr h) (of_decide_eq_true q)
theorem as_w1{x n:Nat}{i:OfNat Nat n}{c:Int}(h:x<=@OfNat.ofNat Nat n i)(q:decide (((@OfNat.ofNat Nat n i:Nat):Int)<c)=true):(x:Int)<c:=Int.lt_of_le_of_lt (Int.ofNat_le.mpr h) (of_decide_eq_true q)
theorem as_w2{k:Int}{j n:Nat}{i:OfNat Nat n}{c:Int}(e:k=(j:Int))(h:j<@OfNat.ofNat Nat n i)(q:decide (((@OfNat.ofNat Nat n i:Nat):Int)<=c)=true):k<c:=e▸as_w h q
theorem as_w3{x d:Int}{n:Nat}{i:OfNat Int n}(h:x<@OfNat.ofNat Int n i)(q:decide ((@OfNat.ofNat Int n i)<=d)=true):x<d:=Int.lt_of_lt_of_le h (of_decide_eq_true q)
theorem as_in{a b f k:Nat}(e:a=b)(h:a<=f)(h2:f<=k+7)(h3:k<=300):b<=1000:=e▸le_c (An h (An h2 (Bf h3 7))) rfl
theorem as_p1{i i1:Nat}(h:i1=i)(k:i=3):(3<=i1↔3<=i)/\(i1=4↔i=4)/\(i1=3↔i=3)/\i<=3:=by subst h;exact⟨Iff.rfl,Iff.rfl,Iff.rfl,Bp k⟩
theorem as_p2{i i1:Nat}(h:i1=i+1)(k:i1<=2):3<=i↔3<=i1:=(ar_4 h k).1.symm
theorem as_p3{i i1:Nat}(h:i1=i):3<=i↔3<=i1:=h▸Iff.rfl
theorem as_p4{P Q:Prop}{i1:Nat}(h:i1=3/\P\/i1=4/\Q):3<=3↔3<=i1:=⟨λ _=>h.elim (λ h=>Bp h.1.symm) λ h=>h.1▸(by decide),λ _=>AG 3⟩
theorem as_p5{i1 n:Nat}(h:i1=3)(k:0<n):n+1+1=2↔i1=4:=⟨λ e=>absurd k (by rw[Nat.succ.inj (Nat.succ.inj e)];decide),λ e=>absurd (h.symm.trans e) (by decide)⟩
theorem as_p6{P:Prop}{i:Nat}(h:i=2/\P):2<=i/\i<=3:=by rw[h.1];decide
theorem as_p7{i:Nat}(h:2<=i/\i<=3):i=4↔3=4:=⟨λ e=>absurd h.2 (by rw[e];decide),λ e=>absurd e (by decide)⟩
theorem as_p8{a n:Nat}(h:a=n+1+1):a-1=n-0+1:=by rw[h];rfl
theorem as_p9{d n:Nat}(h:d+1=n+1+1):d=n-0+1:=Nat.succ.inj h
theorem as_pa{f k x y:Nat}(h:f<=k+7)(e:f=x+y):y<=k+1+7:=An (Nat.le_add_left y x) (An (Bp e.symm) (An h (by rw[Bn];exact Nat.le_succ _)))
theorem as_pb{f k:Nat}(h:f<=k+7):f+1<=k+1+7:=by rw[Bn];exact Bj h
theorem as_cl{a e v s b d:Nat}(h:a<=2000/\v<=1000)(he:e<=6*v)(hs:s=1)(hb:b=2)(hd:d=1):s+a+b+e+d<=8100:=by
 rw[hs,hb,hd];exact le_c (Bf (A7 (Bf (Bh h.1 1) 2) (An he (Bt 6 h.2))) 1) rfl
theorem aA5{a b k:Nat}(h:a<=45100*k)(h2:b<=45100):a+b<=45100*(k+1):=A7 h h2
theorem as_x1{o h b k:Nat}(e:o+6*h<=45100*k)(f:b<=45000):o+(0+b)+6*h<=45100*(k+1):=by
 rw[BA,Bn];exact aA5 e (An f (by decide))
theorem as_x2{o h b k x:Nat}(e:o+6*h<=45100*k)(f:b<=45000)(g:x<=8):o+(0+b)+6*(h+x)<=45100*(k+1):=by
 rw[BA,Nat.mul_add,←Bk,Bn o b,Bk (o+6*h)];exact aA5 e (An (A7 f (Bt 6 g)) (by decide))
theorem as_x3{o h b k u:Nat}(e:o+6*h<=45100*k)(f:b<=45000)(g:u<=6*h):o+(u+b)+6*0<=45100*(k+1):=by
 rw[Nat.mul_zero,Nat.add_zero,←Bk];exact aA5 (An (Bh g o) e) (An f (by decide))
theorem as_k1{r c k:Nat}(h:r<=c*k):r<=c*(k+1):=An h (AX _ _)
theorem as_k2{o a c k:Nat}(h:o<=c*k)(g:a<=4)(q:Bm 4 c=true):o+a<=c*(k+1):=A7 h (An g (AE q))
theorem as_k3{P:Prop}{r h c k:Nat}(e:P/\r<=h)(f:h<=c*k):r<=c*(k+1):=as_k1 (An e.2 f)
theorem as_k4{P:Prop}{a b k:Nat}(e:a<=b/\P)(f:b<=k):a<=k+1:=BB (An e.1 f)
theorem as_k5{a k:Nat}(h:a<=k):a<=k+1:=BB h
theorem as_k6{h x k:Nat}(e:x<=h+1)(f:h<=k):x<=k+1:=An e (Bj f)
theorem as_k7{h x k c:Nat}(e:x<=h+c)(f:h<=c*k):x<=c*(k+1):=An e (Bf f c)
theorem as_k8{o a b k:Nat}(h:o<=5*k)(e:a<=1)(f:b<=4):o+(a+b)<=5*(k+1):=A7 h (A7 e f)
theorem as_q1{j d:Nat}(k:¬j<d)(h:j<d+1):j=d:=BO (Nat.le_of_lt_succ h) (BM k)
theorem as_r1{P:Prop}{i:Nat}(h:i=3↔¬P)(k:i<=4)(e:true=decide (3<=i))(p:P):i=4:=
 (Nat.lt_or_ge 3 i).elim (λ g=>BO k g) λ g=>absurd p (h.mp (BO g (of_decide_eq_true e.symm)))
theorem as_r2{i:Nat}(e:true=decide (3<=i)):¬i<3:=Nat.not_lt_of_le (of_decide_eq_true e.symm)
theorem as_r3{i:Nat}(e:false=decide (3<=i)):i<3:=Nat.lt_of_not_le (of_decide_eq_false e.symm)
theorem as_g1{g:Nat}(h:decide (0<(g:Int))=true):0<g:=By.mp (of_decide_eq_true h)
theorem as_g2{g:Nat}(h:decide (0<(g:Int))=false):¬0<g:=λ k=>of_decide_eq_false h (By.mpr k)
theorem as_g3{g:Nat}(h:decide (0<(g:Int))=false):g=0:=Nat.eq_zero_of_not_pos (as_g2 h)
theorem as_g4{g:Nat}(h:((g:Int)==0)=true):g=0:=Int.ofNat.inj (beq_iff_eq.mp h)
theorem as_g5{g:Nat}(h:((g:Int)==0)=true):¬0<g:=by rw[as_g4 h];decide
theorem as_g6{g:Nat}(h:((g:Int)==0)=false):0<g:=Nat.pos_of_ne_zero λ e=>by rw[e]at h;exact Bool.noConfusion h
theorem as_g7{g:Nat}(h:decide (1<(g:Int))=true):1<g:=By.mp (of_decide_eq_true h)
theorem as_g8{g:Nat}(h:decide ((g:Int)<9)=true):g<9:=By.mp (of_decide_eq_true h)
theorem as_g9{g:Nat}(h:¬g=0):¬(g:Int)=0:=λ e=>h (Int.ofNat.inj e)
theorem as_gb{g:Nat}(h:0<g):1<=(g:Int):=Int.ofNat_le.mpr h
theorem as_gc{n:Nat}:0<((n+1:Nat):Int):=By.mpr (Nat.succ_pos n)
theorem as_gd{n:Nat}:((n+1:Nat):Int)-1=(n:Int):=Int.add_sub_cancel (n:Int) 1
theorem as_h1{a b f k c:Nat}(e:a=b)(h:a<=f)(h2:f<=k)(q:Bm k c=true):b<=c:=e▸le_c (An h h2) q
theorem as_h2{a b k c:Nat}(e:a=b)(h:a<=k)(q:Bm k c=true):b<=c:=e▸le_c h q
theorem as_j1{a s k c:Nat}(e:a=s)(h:s+k<c):a<c:=e▸AS (AX s k) h
theorem as_j2{a b:Nat}(e:b=a+1)(h:b<=1):a=0:=by subst e;exact Nat.eq_zero_of_le_zero (Nat.le_of_succ_le_succ h)
theorem as_j3{Q:Prop}{p e n:Nat}(h:p=e/\Q)(k:e=n):p=n:=h.1.trans k
theorem as_j4{p e n:Nat}(h:p=e)(k:e=n):p=n:=h.trans k
theorem as_j5{e:Nat}(h:e<=1)(k:¬e=0):e=1:=BO h (Nat.pos_of_ne_zero k)
theorem as_o1{a k c u v:Nat}(h:a+8*(k+2)<c)(e:u<=3)(f:v<=1):a+(u+0)+v+8*k<c:=
 AS (by rw[Bk,Bk];refine Bh ?_ a;rw[Nat.mul_add,BC (8*k),←Bk];exact Bf (le_c (A7 (Bf e 0) f) rfl) _) h
theorem as_o2{a k c u:Nat}(h:a+(k+2)<c)(e:u<=1):a+(u+0)+0+k<c:=
 AS (by rw[Bk,Bk];refine Bh ?_ a;rw[BC k];exact An (A7 (le_c e rfl) (Bp (BA k))) (Bf (by decide:1<=2) k)) h
theorem as_sc{a b x:Nat}(h:a<=2000/\b<=1000)(e:x<=a+6*b+4):x<=8004:=le_c (An e (Bf (A7 h.1 (Bt 6 h.2)) 4)) rfl
theorem as_ni{r n b:Nat}(h:r=n)(e:b<=2)(f:0<b):b+r<=n+2/\n+1<=b+r:=by
 subst h;exact⟨BC b r▸Bh e r,BC b r▸Bh f r⟩
theorem as_lw{e l m:Nat}(h:e<=6*l):e+m<=6*l+m+1:=BB (Bf h m)
theorem as_lx{a l m:Nat}(h:a=1):m+a<=6*l+m+1:=by rw[h];exact Bj (Nat.le_add_left _ _)
theorem as_t1{o d r k c:Nat}(e:o=d+r)(h:o<=k)(q:Bm k c=true):d<=c:=le_c (An (AX d r) (An (Bp e.symm) h)) q
theorem as_t2{v o d r k c:Nat}(e0:v=d)(e:o=d+r)(h:o<=k)(q:Bm k c=true):v<=c:=e0▸as_t1 e h q
theorem as_t4{v d r x:Nat}(h:v<=d)(e:d+r+1=x)(k:x<=100):v+1<=101:=Bj (An h (An (AX d (r+1)) (An (Bp e) k)))
theorem as_t5{c d r k:Nat}(e:c=d+(r+1))(h:c<=k):d+1<=k:=An (Bj (AX d r)) (An (Bp e.symm) h)
theorem as_t6{n d r:Nat}(e:n=d+(r+1)):d<n:=e▸Bj (AX d r)
theorem as_t7{v d w k c:Nat}(e:w=v)(f:v=d)(h:d+1<=k)(q:Bm k c=true):w<=c:=e▸f▸le_c (Nat.le_of_succ_le h) q
theorem as_t8{v d m k c:Nat}(h:v<=d+m)(e:d+1<=k)(q:Bm (k+m) c=true):v<=c:=le_c (An h (Bf (Nat.le_of_succ_le e) m)) q
theorem as_y3{j a n:Nat}(e:a=n)(h:j<a):j<n:=e▸h
theorem as_y5{i k v:Nat}(e:k=0+v)(h:i<v):i<k:=by rw[e,BA];exact h
theorem as_y6{i k v s:Nat}(f:v=s)(e:k=0+v)(h:i<k):i<s:=by rw[e,BA,f]at h;exact h
theorem as_y7{k v:Nat}(e:k=0+v)(h:¬v<2):2<=k:=by rw[e,BA];exact BM h
theorem as_y8{m n:Nat}(e:m=n)(h:¬n<2):2<=m:=e▸BM h
theorem as_y9{v s k:Nat}(e:v=s)(h:s<k):v<k:=e▸h
theorem as_z1{n s x:Nat}(h:s<=n*x){r:Nat}(e:r<=n):r+s<=n*x+n:=BC s r▸A7 h e
theorem as_z2{n s x:Nat}(h:s<=n*x){r:Nat}(e:r<=n):r+s<=n*(x+1):=as_z1 h e
theorem as_z3{a b k c:Nat}(h:a+b<=k)(q:Bm k c=true):a<=c:=le_c (An (AX a b) h) q
theorem as_z5{a p:Nat}(e:a=6):a+p<=p+6:=by rw[e,BC];exact AG _
theorem as_z6{n k c:Nat}(h:n<=k)(q:Bm k c=true):¬c<n:=Nat.not_lt_of_le (le_c h q)
theorem as_z7{P:Prop}{f m:Nat}(h:P/\f<=m):¬m<f:=Nat.not_lt_of_le h.2
theorem as_z8{P:Prop}{b k c:Nat}(h:P/\b<=k)(q:Bm k c=true):b<=c:=le_c h.2 q
theorem as_z9{P:Prop}{b k c:Nat}(h:b<=k/\P)(q:Bm k c=true):b<=c:=le_c h.1 q
theorem as_a1{x y z:Nat}(e:z=x+y)(h:0<x):0<z:=e▸Nat.lt_of_lt_of_le h (AX x y)
theorem as_a2{p i:Nat}(h:p+1<=4)(k:i<p):i<4:=Nat.lt_trans k h
theorem as_a3{p i:Nat}(h:i=p)(k:i<p):False:=BE p (h▸k)
theorem as_a4{a b:Nat}(e:a=b+1):0<a:=e▸Nat.succ_pos b
theorem as_a5{a b:Nat}(e:a+1=b):a<b:=Bp e
theorem as_a7{n j:Nat}:n+1+j=n+(j+1):=Bn n 1 j
theorem as_a8{s v i:Nat}(e:s=v+1)(h:i<v):i+1<s:=e▸Nat.succ_lt_succ h
theorem as_a9{s v i:Nat}(e:s=v+1)(h:i<v):i<s:=e▸Nat.lt_succ_of_lt h
theorem as_aa{s v i:Nat}(e:s=v+1)(h:i<=v):i<s:=e▸Nat.lt_succ_of_le h
theorem as_ac{s i:Nat}(h:s+1+i<s):False:=BE s (AS (An (Nat.le_succ s) (AX _ i)) h)
theorem as_ad{n k x:Nat}(e:n=k)(h:x<k):x<n:=e▸h
theorem as_ae{n m:Nat}(h:n<=m+1)(k:¬n=m+1):n<=m:=Nat.le_of_lt_succ (Nat.lt_of_le_of_ne h k)
theorem as_af{P:Prop}{i:Nat}(h:i=4):¬(P/\i=3):=λ k=>absurd (h.symm.trans k.2) (by decide)
theorem as_ag{i:Nat}(h:i<=4)(k:¬i<3)(g:¬i=4):i=3:=BO (Nat.le_of_lt_succ (Nat.lt_of_le_of_ne h g)) (BM k)
theorem as_ah{j n:Nat}(k:j<n):0<n:=AS (AB j) k
theorem as_ai{f p:Nat}(e:f=p)(h:2<=p):0<f:=e▸Nat.lt_of_lt_of_le (by decide) h
theorem as_aj{x n:Nat}(h:x<0+n):x<n:=BA n▸h
theorem as_ak{m p:Nat}(e:m=p+1)(h:¬p=1):¬m=2:=λ k=>h (Nat.succ.inj (e.symm.trans k))
theorem as_al{p:Nat}(h:¬p=1):¬(p:Int)=1:=λ k=>h (Int.ofNat.inj k)
theorem as_am{c n:Nat}(e:c=n):4+c+3=7+n:=by rw[e,Bn]
theorem as_an{a b:Nat}(h:a<=b):¬b<a:=Nat.not_lt_of_le h
theorem aDb{n j:Nat}(h:j<n):seqIndex? (j:Int) n=some j:=by
 unfold seqIndex?;rw[if_neg (Int.not_lt.mpr (Int.natCast_nonneg j)),if_pos (by rw[decide_eq_true (Int.natCast_nonneg j),decide_eq_true (By.mpr h)];rfl)]
 rfl
theorem aBV(y:Int)(n:Nat)(h:0<n):∃ j:Nat,y.fmod (n:Int)=(j:Int)/\j<n:=by
 have hn:(0:Int)<n:=By.mpr h;have e:=Int.toNat_of_nonneg (Int.fmod_nonneg_of_pos y hn);exact⟨(y.fmod n).toNat,e.symm,By.mp (e.symm▸Int.fmod_lt_of_pos y hn)⟩
theorem ob02{A0 A1:Prop}{P:Prop}(h:A0/\A1)(f:A0->A1->P):P:=f h.1 h.2
theorem ob03{A0 A1 A2:Prop}{P:Prop}(h:A0/\A1/\A2)(f:A0->A1->A2->P):P:=f h.1 h.2.1 h.2.2
theorem ob04{A0 A1 A2 A3:Prop}{P:Prop}(h:A0/\A1/\A2/\A3)(f:A0->A1->A2->A3->P):P:=f h.1 h.2.1 h.2.2.1 h.2.2.2
theorem ob05{A0 A1 A2 A3 A4:Prop}{P:Prop}(h:A0/\A1/\A2/\A3/\A4)(f:A0->A1->A2->A3->A4->P):P:=f h.1 h.2.1 h.2.2.1 h.2.2.2.1 h.2.2.2.2
theorem ob06{A0 A1 A2 A3 A4 A5:Prop}{P:Prop}(h:A0/\A1/\A2/\A3/\A4/\A5)(f:A0->A1->A2->A3->A4->A5->P):P:=f h.1 h.2.1 h.2.2.1 h.2.2.2.1 h.2.2.2.2.1 h.2.2.2.2.2
theorem ob07{A0 A1 A2 A3 A4 A5 A6:Prop}{P:Prop}(h:A0/\A1/\A2/\A3/\A4/\A5/\A6)(f:A0->A1->A2->A3->A4->A5->A6->P):P:=f h.1 h.2.1 h.2.2.1 h.2.2.2.1 h.2.2.2.2.1 h.2.2.2.2.2.1 h.2.2.2.2.2.2
theorem ob11.{u0}{α:Sort u0}{A0:α->Prop}{P:Prop}(h:∃ x,A0 x)(f:∀ x,A0 x->P):P:=Aq h λ x h=>f x h
theorem ob12.{u0}{α:Sort u0}{A0 A1:α->Prop}{P:Prop}(h:∃ x,A0 x/\A1 x)(f:∀ x,A0 x->A1 x->P):P:=Aq h λ x h=>f x h.1 h.2
theorem ob13.{u0}{α:Sort u0}{A0 A1 A2:α->Prop}{P:Prop}(h:∃ x,A0 x/\A1 x/\A2 x)(f:∀ x,A0 x->A1 x->A2 x->P):P:=Aq h λ x h=>f x h.1 h.2.1 h.2.2
theorem ob14.{u0}{α:Sort u0}{A0 A1 A2 A3:α->Prop}{P:Prop}(h:∃ x,A0 x/\A1 x/\A2 x/\A3 x)(f:∀ x,A0 x->A1 x->A2 x->A3 x->P):P:=Aq h λ x h=>f x h.1 h.2.1 h.2.2.1 h.2.2.2
theorem ob15.{u0}{α:Sort u0}{A0 A1 A2 A3 A4:α->Prop}{P:Prop}(h:∃ x,A0 x/\A1 x/\A2 x/\A3 x/\A4 x)(f:∀ x,A0 x->A1 x->A2 x->A3 x->A4 x->P):P:=Aq h λ x h=>f x h.1 h.2.1 h.2.2.1 h.2.2.2.1 h.2.2.2.2
theorem ob16.{u0}{α:Sort u0}{A0 A1 A2 A3 A4 A5:α->Prop}{P:Prop}(h:∃ x,A0 x/\A1 x/\A2 x/\A3 x/\A4 x/\A5 x)(f:∀ x,A0 x->A1 x->A2 x->A3 x->A4 x->A5 x->P):P:=Aq h λ x h=>f x h.1 h.2.1 h.2.2.1 h.2.2.2.1 h.2.2.2.2.1 h.2.2.2.2.2
theorem ob17.{u0}{α:Sort u0}{A0 A1 A2 A3 A4 A5 A6:α->Prop}{P:Prop}(h:∃ x,A0 x/\A1 x/\A2 x/\A3 x/\A4 x/\A5 x/\A6 x)(f:∀ x,A0 x->A1 x->A2 x->A3 x->A4 x->A5 x->A6 x->P):P:=Aq h λ x h=>f x h.1 h.2.1 h.2.2.1 h.2.2.2.1 h.2.2.2.2.1 h.2.2.2.2.2.1 h.2.2.2.2.2.2
theorem ob21.{u0,u1}{α:Sort u0}{β:Sort u1}{A0:α->β->Prop}{P:Prop}(h:∃ x y,A0 x y)(f:∀ x y,A0 x y->P):P:=Aq h λ x h=>Aq h λ y h=>f x y h
theorem ob22.{u0,u1}{α:Sort u0}{β:Sort u1}{A0 A1:α->β->Prop}{P:Prop}(h:∃ x y,A0 x y/\A1 x y)(f:∀ x y,A0 x y->A1 x y->P):P:=Aq h λ x h=>Aq h λ y h=>f x y h.1 h.2
theorem ob23.{u0,u1}{α:Sort u0}{β:Sort u1}{A0 A1 A2:α->β->Prop}{P:Prop}(h:∃ x y,A0 x y/\A1 x y/\A2 x y)(f:∀ x y,A0 x y->A1 x y->A2 x y->P):P:=Aq h λ x h=>Aq h λ y h=>f x y h.1 h.2.1 h.2.2
theorem ob24.{u0,u1}{α:Sort u0}{β:Sort u1}{A0 A1 A2 A3:α->β->Prop}{P:Prop}(h:∃ x y,A0 x y/\A1 x y/\A2 x y/\A3 x y)(f:∀ x y,A0 x y->A1 x y->A2 x y->A3 x y->P):P:=Aq h λ x h=>Aq h λ y h=>f x y h.1 h.2.1 h.2.2.1 h.2.2.2
theorem ob25.{u0,u1}{α:Sort u0}{β:Sort u1}{A0 A1 A2 A3 A4:α->β->Prop}{P:Prop}(h:∃ x y,A0 x y/\A1 x y/\A2 x y/\A3 x y/\A4 x y)(f:∀ x y,A0 x y->A1 x y->A2 x y->A3 x y->A4 x y->P):P:=Aq h λ x h=>Aq h λ y h=>f x y h.1 h.2.1 h.2.2.1 h.2.2.2.1 h.2.2.2.2
theorem ob26.{u0,u1}{α:Sort u0}{β:Sort u1}{A0 A1 A2 A3 A4 A5:α->β->Prop}{P:Prop}(h:∃ x y,A0 x y/\A1 x y/\A2 x y/\A3 x y/\A4 x y/\A5 x y)(f:∀ x y,A0 x y->A1 x y->A2 x y->A3 x y->A4 x y->A5 x y->P):P:=Aq h λ x h=>Aq h λ y h=>f x y h.1 h.2.1 h.2.2.1 h.2.2.2.1 h.2.2.2.2.1 h.2.2.2.2.2
theorem ob31.{u0,u1,u2}{α:Sort u0}{β:Sort u1}{γ:Sort u2}{A0:α->β->γ->Prop}{P:Prop}(h:∃ x y z,A0 x y z)(f:∀ x y z,A0 x y z->P):P:=Aq h λ x h=>Aq h λ y h=>Aq h λ z h=>f x y z h
theorem ob32.{u0,u1,u2}{α:Sort u0}{β:Sort u1}{γ:Sort u2}{A0 A1:α->β->γ->Prop}{P:Prop}(h:∃ x y z,A0 x y z/\A1 x y z)(f:∀ x y z,A0 x y z->A1 x y z->P):P:=Aq h λ x h=>Aq h λ y h=>Aq h λ z h=>f x y z h.1 h.2
theorem ob33.{u0,u1,u2}{α:Sort u0}{β:Sort u1}{γ:Sort u2}{A0 A1 A2:α->β->γ->Prop}{P:Prop}(h:∃ x y z,A0 x y z/\A1 x y z/\A2 x y z)(f:∀ x y z,A0 x y z->A1 x y z->A2 x y z->P):P:=Aq h λ x h=>Aq h λ y h=>Aq h λ z h=>f x y z h.1 h.2.1 h.2.2
theorem ob34.{u0,u1,u2}{α:Sort u0}{β:Sort u1}{γ:Sort u2}{A0 A1 A2 A3:α->β->γ->Prop}{P:Prop}(h:∃ x y z,A0 x y z/\A1 x y z/\A2 x y z/\A3 x y z)(f:∀ x y z,A0 x y z->A1 x y z->A2 x y z->A3 x y z->P):P:=Aq h λ x h=>Aq h λ y h=>Aq h λ z h=>f x y z h.1 h.2.1 h.2.2.1 h.2.2.2
theorem ob35.{u0,u1,u2}{α:Sort u0}{β:Sort u1}{γ:Sort u2}{A0 A1 A2 A3 A4:α->β->γ->Prop}{P:Prop}(h:∃ x y z,A0 x y z/\A1 x y z/\A2 x y z/\A3 x y z/\A4 x y z)(f:∀ x y z,A0 x y z->A1 x y z->A2 x y z->A3 x y z->A4 x y z->P):P:=Aq h λ x h=>Aq h λ y h=>Aq h λ z h=>f x y z h.1 h.2.1 h.2.2.1 h.2.2.2.1 h.2.2.2.2
theorem ob41.{u0,u1,u2,u3}{α:Sort u0}{β:Sort u1}{γ:Sort u2}{δ:Sort u3}{A0:α->β->γ->δ->Prop}{P:Prop}(h:∃ x y z u,A0 x y z u)(f:∀ x y z u,A0 x y z u->P):P:=Aq h λ x h=>Aq h λ y h=>Aq h λ z h=>Aq h λ u h=>f x y z u h
theorem ob42.{u0,u1,u2,u3}{α:Sort u0}{β:Sort u1}{γ:Sort u2}{δ:Sort u3}{A0 A1:α->β->γ->δ->Prop}{P:Prop}(h:∃ x y z u,A0 x y z u/\A1 x y z u)(f:∀ x y z u,A0 x y z u->A1 x y z u->P):P:=Aq h λ x h=>Aq h λ y h=>Aq h λ z h=>Aq h λ u h=>f x y z u h.1 h.2
theorem ob43.{u0,u1,u2,u3}{α:Sort u0}{β:Sort u1}{γ:Sort u2}{δ:Sort u3}{A0 A1 A2:α->β->γ->δ->Prop}{P:Prop}(h:∃ x y z u,A0 x y z u/\A1 x y z u/\A2 x y z u)(f:∀ x y z u,A0 x y z u->A1 x y z u->A2 x y z u->P):P:=Aq h λ x h=>Aq h λ y h=>Aq h λ z h=>Aq h λ u h=>f x y z u h.1 h.2.1 h.2.2
theorem ob44.{u0,u1,u2,u3}{α:Sort u0}{β:Sort u1}{γ:Sort u2}{δ:Sort u3}{A0 A1 A2 A3:α->β->γ->δ->Prop}{P:Prop}(h:∃ x y z u,A0 x y z u/\A1 x y z u/\A2 x y z u/\A3 x y z u)(f:∀ x y z u,A0 x y z u->A1 x y z u->A2 x y z u->A3 x y z u->P):P:=Aq h λ x h=>Aq h λ y h=>Aq h λ z h=>Aq h λ u h=>f x y z u h.1 h.2.1 h.2.2.1 h.2.2.2
theorem ob51.{u0,u1,u2,u3,u4}{α:Sort u0}{β:Sort u1}{γ:Sort u2}{δ:Sort u3}{ε:Sort u4}{A0:α->β->γ->δ->ε->Prop}{P:Prop}(h:∃ x y z u v,A0 x y z u v)(f:∀ x y z u v,A0 x y z u v->P):P:=Aq h λ x h=>Aq h λ y h=>Aq h λ z h=>Aq h λ u h=>Aq h λ v h=>f x y z u v h
theorem ob52.{u0,u1,u2,u3,u4}{α:Sort u0}{β:Sort u1}{γ:Sort u2}{δ:Sort u3}{ε:Sort u4}{A0 A1:α->β->γ->δ->ε->Prop}{P:Prop}(h:∃ x y z u v,A0 x y z u v/\A1 x y z u v)(f:∀ x y z u v,A0 x y z u v->A1 x y z u v->P):P:=Aq h λ x h=>Aq h λ y h=>Aq h λ z h=>Aq h λ u h=>Aq h λ v h=>f x y z u v h.1 h.2
theorem ob53.{u0,u1,u2,u3,u4}{α:Sort u0}{β:Sort u1}{γ:Sort u2}{δ:Sort u3}{ε:Sort u4}{A0 A1 A2:α->β->γ->δ->ε->Prop}{P:Prop}(h:∃ x y z u v,A0 x y z u v/\A1 x y z u v/\A2 x y z u v)(f:∀ x y z u v,A0 x y z u v->A1 x y z u v->A2 x y z u v->P):P:=Aq h λ x h=>Aq h λ y h=>Aq h λ z h=>Aq h λ u h=>Aq h λ v h=>f x y z u v h.1 h.2.1 h.2.2
abbrev Sx:=Lean.Syntax
def nd(k:String)(as:List Sx):Sx:=.node .none k.toName as.toArray
def wlk(w:String):Sx:=nd "PyProof.Rows.tacticWalk_at_" [.atom .none "walk_at",Lean.Syntax.mkStrLit w]
def fld{α β:Type}(f:β->α->β)(b:β):List α->β
 | []=>b
 | x::r=>fld f (f b x) r
def word(fr:String->Sx)(p:List (List Sx)×List Sx)(w:String):List (List Sx)×List Sx:=
 let b:=String.ofList (w.toList.drop 1)
 let c:=w.front
 let z:=c==')'
 let q:=p.1.headD []
 let a:=q.reverse
 if c=='(' then([]::p.1,p.2)else
 if c=='.' then((p.2++q)::p.1.tail,[])else
 let n:=fr ("_h"++toString p.2.length)
 let x:=if z then(if b=="$" then nd "Lean.Parser.Term.app" [a.headD .missing,nd "null" a.tail]else nd b a)
  else if c=='\'' then .atom .none b
  else if c=='=' then wlk b
  else if c=='/' then nd "Lean.Parser.Term.syntheticHole" [.atom .none "?",n]
  else fr w
 let s:=if z then p.1.tail else p.1
 ((x::s.headD [])::s.tail,if c=='/' then nd "Lean.Parser.Tactic.case" [.atom .none "case",nd "null" [nd "Lean.Parser.Tactic.caseArg" [nd "Lean.binderIdent" [n],nd "null" []]],.atom .none "=>",nd "Lean.Parser.Tactic.tacticSeq" [nd "Lean.Parser.Tactic.tacticSeq1Indented" [nd "null" [wlk b]]]]::p.2 else p.2)
def rows(fr:String->Sx)(r:String):Lean.TSyntax `tactic:=
 let t:=fld (λ s x=>let p:=x.splitOn "=";(p.getD 1 "").intercalate (s.splitOn (p.headD ""))) ("( 'first ( ( '| ( "++r++" )null )group )null )t:first") ("; = )null )group ( '| ( \n _= ( '? '_ )T:syntheticHole\n ~= ( '_ )T:hole\n#=( 'fail_if_success ( 'fail_if_success ( 'with_reducible\n@=)t:withReducible )t:failIfSuccess )t:failIfSuccess\n`=( 'with_reducible ( 'exact\n!=)t:exact )t:withReducible\n<=( 'with_reducible ( 'refine ( \n%= )$ )t:refine )t:withReducible .\n^=( 'with_reducible ( 'refine' ( \n&= )$ )t:refine' )t:withReducible .\nt:=Lean.Parser.Tactic.\nT:=Lean.Parser.Term.".splitOn "\n")
 ⟨((fld (word fr) ([],[]) (t.splitOn " ")).1.headD []).headD .missing⟩
def nam(w:String):Sx:=Lean.mkIdent w.toName
def goAt(tab:String)(w:Lean.TSyntax `str):Lean.MacroM (Lean.TSyntax `tactic):=λ c s=>
 let r:=(tab.splitOn ("\n"++w.getString++"\t")).getD 1 ""
 if r=="" then .error .unsupportedSyntax s else
 .ok (rows (λ n=>if n.front=='_' then Lean.mkIdent (Lean.addMacroScope c.quotContext n.toName c.currMacroScope)else nam n) ((r.splitOn "\n").headD "")) s
def obTac(ps:Array Sx)(e:Sx):Lean.MacroM (Lean.TSyntax `tactic):=λ _ s=>
 let u:=(fld (λ t x=>t++x.reprint.getD "(") "" ps.toList).splitOn ","
 let p:=fld (λ(p:String×String) x=>
  let x:=x.trimAscii.toString
  let h:=" hr"++toString p.2.length
  if x=="rfl" then(p.1++h,p.2++" ( 'subst ("++h++" )null )t:subst")else(p.1++" "++(if x=="_" then "~" else x),p.2)) ("","") u
 let n:=u.length
 if n<2||n>8||fld (λ b x=>b||((toString (Lean.Syntax.node .none `null ps)).splitOn x).length != 1) false ("tuple \"|\" paren clear explicit \":\" _hyg".splitOn " ")then .error .unsupportedSyntax s else
 let i:=(if e.isIdent then " ( 'first ( ( '| ( 'clear ( E )null )t:clear )group ( '| ( )null )group )null )t:first" else "")++" ( 'intro ("++p.1++" )null )t:intro"++p.2
 .ok (rows (λ w=>if w=="E" then e else nam w) ("; ".intercalate (fld (λ l k=>if k<n then("( 'refine ( Mine.ob"++toString k++toString (n-k)++" E _ )$ )t:refine"++i)::l else l) [] [5,4,3,0,2,1]))) s
def tab0:String:="\nub0\t<Mine.ub_n%; ^Mine.ub_l /asm&; ^Mine.ub_e /asm&; ^Mine.ub_t /asm&; <Mine.ub_nil%; <Mine.ub_mt%; ^A7 /ub0 /ub0&; ^Mine.ub_app /ub0 /ub0&; ^Mine.ub_lapp /ub0 /ub0&; ^Mine.ub_cons /ub0&; ^Mine.ub_map /ub0&; ^Mine.ub_mul /ub0&; ^Mine.ub_sub /ub0&; ^Mine.ub_min /ub0&; ^Mine.ub_div /ub0&; ( 'with_reducible ( 'assumption )t:assumption )t:withReducible\nub1\t<Mine.ub_n%; ^Mine.ub_l /asm&; ^Mine.ub_e /asm&; ^Mine.ub_t /asm&; <Mine.ub_nil%; <Mine.ub_mt%; ^A7 /ub1 /ub1&; ^Mine.ub_app /ub1 /ub1&; ^Mine.ub_lapp /ub1 /ub1&; ^Mine.ub_cons /ub1&; ^Mine.ub_map /ub1&; ^Mine.ub_mul /ub1&; ^Mine.ub_sub /ub1&; ^Mine.ub_min /ub1&; ^Mine.ub_div /ub1&; ^An /asm /ub0&; ^Mine.ub_eq /asm /ub0&; ^Mine.ub_ltc /asm /ub0&\nub2\t<Mine.ub_n%; ^Mine.ub_l /asm&; ^Mine.ub_e /asm&; ^Mine.ub_t /asm&; <Mine.ub_nil%; <Mine.ub_mt%; ^A7 /ub2 /ub2&; ^Mine.ub_app /ub2 /ub2&; ^Mine.ub_lapp /ub2 /ub2&; ^Mine.ub_cons /ub2&; ^Mine.ub_map /ub2&; ^Mine.ub_mul /ub2&; ^Mine.ub_sub /ub2&; ^Mine.ub_min /ub2&; ^Mine.ub_div /ub2&; ^An /asm /ub1&; ^Mine.ub_eq /asm /ub1&; ^Mine.ub_ltc /asm /ub1&\nub3\t<Mine.ub_n%; ^Mine.ub_l /asm&; ^Mine.ub_e /asm&; ^Mine.ub_t /asm&; <Mine.ub_nil%; <Mine.ub_mt%; ^A7 /ub3 /ub3&; ^Mine.ub_app /ub3 /ub3&; ^Mine.ub_lapp /ub3 /ub3&; ^Mine.ub_cons /ub3&; ^Mine.ub_map /ub3&; ^Mine.ub_mul /ub3&; ^Mine.ub_sub /ub3&; ^Mine.ub_min /ub3&; ^Mine.ub_div /ub3&; ^An /asm /ub2&; ^Mine.ub_eq /asm /ub2&; ^Mine.ub_ltc /asm /ub2&\nar\t^Mine.ar_a /asm&; ^Mine.ar_b /asm&; ^Mine.ar_c /asm&; ^Mine.ar_d /asm /asm&; ^Mine.ar_e /asm /asm&; ^Mine.ar_f /asm&; ^Mine.ar_g /asm&; ^Mine.ar_h /asm&; ^Mine.ar_i /asm /asm&; ^Mine.ar_j /asm /asm&; ^Mine.ar_k /asm&; ^Mine.ar_k1 /asm&; ^Mine.ar_k2 /asm&; ^Mine.ar_l /asm&; <Mine.ar_q%; ^Mine.ar_r /asm&; ^Mine.ar_u /asm&; ^Mine.ar_u2 /asm&; <Mine.ar_v%; ^Mine.ar_w' /asm /tt&; ^Mine.ar_s /asm ~&; ^Mine.ar_t /asm&; <Mine.ar_x%; ^Mine.ar_m1 /asm&; ^Mine.ar_2 /asm&; ^Mine.ar_3 /asm&; ^Mine.ar_4 /asm /asm&; ^Mine.ar_5 /asm /asm&; ^Mine.ar_7 /asm /asm&; ^Mine.ar_8 /asm /asm&; ^Mine.ar_9 /asm&; ^Mine.ar_y /asm&; ^Mine.as_sub /asm /asm&; <Mine.as_min%; ^Mine.as_at /asm /asm /asm /asm&; ^Mine.as_5 /asm /asm&; <Mine.as_i0%; ^Mine.as_i1 /asm&; ^Mine.as_rep /asm /asm&; ^Mine.as_d2 /asm&; ^Mine.as_d4 /asm&; <Mine.as_d3%; ^Mine.as_d5 /asm /asm&; ^Mine.as_b1 /asm /asm&; ^Mine.as_b2 /asm&; ^Mine.as_ser /asm /asm /asm&; ^Mine.as_e1 /asm /asm /tt&; ^Mine.as_e2 /asm /asm /tt&; ^Mine.as_u1 /asm /tt&; ^Mine.as_u2 /asm /tt&; ^Mine.as_u3 /asm /tt&; ^Mine.as_u4 /asm&; ^Mine.as_st /asm /asm /asm /asm /asm&; ^Mine.as_n1 /asm /asm&; ^Mine.as_s /asm&; ^Mine.as_s' /asm&; ^Mine.as_fl /asm /asm&; ^Mine.as_l1 /asm&; ^Mine.as_l2 /asm&; ^Mine.as_l3 /asm&; ^Mine.as_l4 /asm&; ^Mine.as_l6 /asm&; ^Mine.as_c1 /asm /asm /tt&; ^Mine.as_w /asm /tt&; ^Mine.as_w1 /asm /tt&; ^Mine.as_w2 /asm /asm /tt&; ^Mine.as_w3 /asm /tt&; ^Mine.as_in /asm /asm /asm /asm&; ^Mine.as_p1 /asm /asm&; ^Mine.as_p2 /asm /asm&; ^Mine.as_p3 /asm&; ^Mine.as_p4 /asm&; ^Mine.as_p5 /asm /asm&; ^Mine.as_p6 /asm&; ^Mine.as_p7 /asm&; ^Mine.as_p8 /asm&; ^Mine.as_p9 /asm&; ^Mine.as_pa /asm /asm&; ^Mine.as_pb /asm&; ^Mine.as_cl /asm /asm /asm /asm /asm&; ^Mine.as_x1 /asm /asm&; ^Mine.as_x2 /asm /asm /asm&; ^Mine.as_x3 /asm /asm /asm&; ^Mine.as_k1 /asm&; ^Mine.as_k2 /asm /asm /tt&; ^Mine.as_k3 /asm /asm&; ^Mine.as_k4 /asm /asm&; ^Mine.as_k5 /asm&; ^Mine.as_k6 /asm /asm&; ^Mine.as_k7 /asm /asm&; ^Mine.as_k8 /asm /asm /asm&; ^Mine.as_q1 /asm /asm&; ^Mine.as_r1 /asm /asm /asm /asm&; ^Mine.as_r2 /asm&; ^Mine.as_r3 /asm&; ^Mine.as_g1 /asm&; ^Mine.as_g2 /asm&; ^Mine.as_g3 /asm&; ^Mine.as_g4 /asm&; ^Mine.as_g5 /asm&; ^Mine.as_g6 /asm&; ^Mine.as_g7 /asm&; ^Mine.as_g8 /asm&; ^Mine.as_g9 /asm&; ^Mine.as_gb /asm&; <Mine.as_gc%; <Mine.as_gd%; ^Mine.as_h1 /asm /asm /asm /tt&; ^Mine.as_h2 /asm /asm /tt&; ^Mine.as_j1 /asm /asm&; ^Mine.as_j2 /asm /asm&; ^Mine.as_j3 /asm /asm&; ^Mine.as_j4 /asm /asm&; ^Mine.as_j5 /asm /asm&; ^Mine.as_o1 /asm /asm /asm&; ^Mine.as_o2 /asm /asm&; ^Mine.as_sc /asm /asm&; ^Mine.as_ni /asm /asm /asm&; ^Mine.as_lw /asm&; ^Mine.as_lx /asm&; ^Mine.as_t1 /asm /asm /tt&; ^Mine.as_t2 /asm /asm /asm /tt&; ^Mine.as_t4 /asm /asm /asm&; ^Mine.as_t5 /asm /asm&; ^Mine.as_t6 /asm&; ^Mine.as_t7 /asm /asm /asm /tt&; ^Mine.as_t8 /asm /asm /tt&; ^Mine.as_y3 /asm /asm&; ^Mine.as_y5 /asm /asm&; ^Mine.as_y6 /asm /asm /asm&; ^Mine.as_y7 /asm /asm&; ^Mine.as_y8 /asm /asm&; ^Mine.as_y9 /asm /asm&; ^Mine.as_z2 /asm /asm&; ^Mine.as_z3 /asm /tt&; ^Mine.as_z5 /asm&; ^Mine.as_z6 /asm /tt&; ^Mine.as_z7 /asm&; ^Mine.as_z8 /asm /tt&; ^Mine.as_z9 /asm /tt&; ^Mine.as_a1 /asm /asm&; ^Mine.as_a2 /asm /asm&; ^Mine.as_a3 /asm /asm&; ^Mine.as_a4 /asm&; ^Mine.as_a5 /asm&; <Mine.as_a7%; ^Mine.as_a8 /asm /asm&; ^Mine.as_a9 /asm /asm&; ^Mine.as_aa /asm /asm&; ^Mine.as_ac /asm&; ^Mine.as_ad /asm /asm&; ^Mine.as_ae /asm /asm&; ^Mine.as_af /asm&; ^Mine.as_ag /asm /asm /asm&; ^Mine.as_ah /asm&; ^Mine.as_ai /asm /asm&; ^Mine.as_aj /asm&; ^Mine.as_ak /asm /asm&; ^Mine.as_al /asm&; ^Mine.as_am /asm&; ^Mine.as_an /asm&; ^A7 /asm /asm&; ^An /asm /asm&; ^Nat.pos_of_ne_zero /asm&; ^Nat.lt_trans /asm /asm&; ^Mine.ar_p /asm /asm /asm&\nom\t^Mine.le_c /ub3 /tt&; ^Mine.lt_c /ub3 /tt&\no\t( 'first ( ( '| =ar )group ( '| =om )group ( '| ( 'lia ( ( )null )t:optConfig )t:lia )group ( '| ( 'omega ( ( ( ( '( splitDisjunctions ':= true ') )t:valConfigItem )t:configItem )null )t:optConfig )t:omega )group )null )t:first\nosz\t( 'first ( ( '| =om )group ( '| ( ( 'rw ( ( )null )t:optConfig ( '[ ( ( ( )null Av )t:rwRule )null '] )t:rwRuleSeq ( )null )t:rwSeq ( 'first ( ( '| ( 'lia ( ( )null )t:optConfig )t:lia )group ( '| ( 'omega ( ( ( ( '( splitDisjunctions ':= true ') )t:valConfigItem )t:configItem )null )t:optConfig )t:omega )group )null )t:first )null )group ( '| ( ( 'rw ( ( )null )t:optConfig ( '[ ( ( ( )null Al )t:rwRule ', ( ( )null Av )t:rwRule )null '] )t:rwRuleSeq ( )null )t:rwSeq ( 'first ( ( '| ( 'lia ( ( )null )t:optConfig )t:lia )group ( '| ( 'omega ( ( ( ( '( splitDisjunctions ':= true ') )t:valConfigItem )t:configItem )null )t:optConfig )t:omega )group )null )t:first )null )group )null )t:first\nasm\t( 'with_reducible ( 'assumption )t:assumption )t:withReducible\ntt\t( 'exact ( Eq.refl true )$ )t:exact\n"
def tab10:String:="\nkr\t( 'kernel_rfl )tacticKernel_rfl\nrfl\t( 'rfl )t:tacticRfl\nff\t( 'exact ( Eq.refl false )$ )t:exact\nsimp\t( 'simp ( ( )null )t:optConfig ( )null ( )null ( )null ( )null )t:simp\ndeck\t( 'decide ( ( ( ( '+ kernel )t:posConfigItem )t:configItem )null )t:optConfig )t:decide\ndec\t( 'decide ( ( )null )t:optConfig )t:decide\nle\t( 'exact ( AE rfl )$ )t:exact\nik\t( ( 'rw ( ( )null )t:optConfig ( '[ ( ( ( )null I.k )t:rwRule )null '] )t:rwRuleSeq ( )null )t:rwSeq ( 'kernel_rfl )tacticKernel_rfl )null\nml\t( ( 'rw ( ( )null )t:optConfig ( '[ ( ( ( )null map_len )t:rwRule ', ( ( )null Av )t:rwRule )null '] )t:rwRuleSeq ( )null )t:rwSeq ( 'decide ( ( )null )t:optConfig )t:decide )null\nia\t( ( 'clear ( S' )null )t:clear ( 'intro ( a' as' s' hl' S' )null )t:intro )null\nhnd\t( 'first ( ( '| ( 'exact hA'.handled )t:exact )group ( '| ( 'exact hA.handled )t:exact )group )null )t:first\nperm0\t( 'classical ( ( ( ( 'refine ( List.perm_iff_count.mpr ( 'λ ( ( xx )null ( )null '=> _ )T:basicFun )T:fun )$ )t:refine ', ( 'simp ( ( )null )t:optConfig ( )null ( 'only )null ( '[ ( ( ( )null ( )null List.count_append )t:simpLemma ', ( ( )null ( )null List.count_cons )t:simpLemma ', ( ( )null ( )null List.count_nil )t:simpLemma ', ( ( )null ( )null Nat.add_zero )t:simpLemma ', ( ( )null ( )null BA )t:simpLemma ', ( ( )null ( )null Ar )t:simpLemma ', ( ( )null ( )null Ax )t:simpLemma ', ( ( )null ( )null Ai )t:simpLemma ', ( ( )null ( )null Aj )t:simpLemma )null '] )null ( )null )t:simp ', ( 'first ( ( '| ( 'done )t:done )group ( '| =o )group ( '| ( 'ac_rfl )t:acRfl )group )null )t:first )null )t:tacticSeq1Indented )t:tacticSeq )t:classical\nperm\t( ( 'first ( ( '| ( 'dsimp ( ( ( ( '( config ':= ( '{ ( )null ( ( ( ( zetaDelta ( )null )T:structInstLVal ( ( )null ( )null ( ':= ( )null true )T:structInstFieldDef )null )T:structInstField )null )T:structInstFields ( ( )null )T:optEllipsis ( )null '} )T:structInst ') )t:valConfigItem )t:configItem )null )t:optConfig ( )null ( 'only )null ( '[ ( )null '] )null ( )null )t:dsimp )group ( '| ( )null )group )null )t:first ( 'first ( ( '| =pm )group ( '| =pmD )group ( '| =perm0 )group )null )t:first )null\nmem\t( 'first ( ( '| =mem0 )group ( '| ( ( 'with_reducible ( 'refine ( BK ~ _ )$ )t:refine )t:withReducible =mem )null )group ( '| ( ( 'fail_if_success ( 'with_reducible ( 'refine ( BK ~ _ )$ )t:refine )t:withReducible )t:failIfSuccess ( 'with_reducible ( 'assumption )t:assumption )t:withReducible )null )group )null )t:first\nlen\t( 'first ( ( '| ( 'with_reducible ( 'assumption )t:assumption )t:withReducible )group ( '| =om )group ( '| ( ( 'simp ( ( )null )t:optConfig ( )null ( 'only )null ( '[ ( ( ( )null ( )null Str.length_append )t:simpLemma ', ( ( )null ( )null yS )t:simpLemma ', ( ( )null ( )null Av )t:simpLemma )null '] )null ( )null )t:simp =o )null )group )null )t:first\nsz\t( 'first ( ( '| ( 'with_reducible ( 'assumption )t:assumption )t:withReducible )group ( '| ( 'exact ( AE rfl )$ )t:exact )group ( '| =om )group ( '| ( 'decide ( ( )null )t:optConfig )t:decide )group ( '| ( ( 'simp ( ( )null )t:optConfig ( )null ( )null ( '[ ( ( ( )null ( )null Av )t:simpLemma )null '] )null ( )null )t:simp ( 'done )t:done )null )group )null )t:first\nns\t( ( 'clear ( S' )null )t:clear ( 'intro ( s' S' )null )t:intro )null\nnt\t( ( 'clear ( S' )null )t:clear ( 'intro ( t' s' S' )null )t:intro )null\nna\t( ( 'clear ( S' )null )t:clear ( 'intro ( a' s' S' )null )t:intro )null\nkn\t( 'repeat ( ( ( ( 'first ( ( '| ( ( 'with_reducible ( 'refine ( hKn ~ _ )$ )t:refine )t:withReducible ( 'clear ( hKn hKr Kq )null )t:clear )null )group ( '| ( 'with_reducible ( 'refine ( AI _ )$ )t:refine )t:withReducible )group )null )t:first )null )t:tacticSeq1Indented )t:tacticSeq )t:tacticRepeat_\nst\t( 'repeat ( ( ( ( 'fail_if_success ( 'with_reducible ( 'show ( Ad ~ ~ ( execs ( BI ~ ~ )$ ~ )$ ~ ~ ~ )$ )t:show )t:withReducible )t:failIfSuccess ', =cw )null )t:tacticSeq1Indented )t:tacticSeq )t:tacticRepeat_\nkv\t( 'repeat ( ( ( ( 'with_reducible ( 'refine ( hKr ~ ~ _ )$ )t:refine )t:withReducible ', ( 'clear ( hKn hKr Kq )null )t:clear )null )t:tacticSeq1Indented )t:tacticSeq )t:tacticRepeat_\nke\t( 'repeat ( ( ( ( 'first ( ( '| ( ( 'with_reducible ( 'refine ( hKn ~ _ )$ )t:refine )t:withReducible ( 'clear ( hKn hKr Kq )null )t:clear )null )group ( '| ( ( 'with_reducible ( 'refine ( hKr ~ ~ _ )$ )t:refine )t:withReducible ( 'clear ( hKn hKr Kq )null )t:clear )null )group ( '| ( 'with_reducible ( 'refine ( AI _ )$ )t:refine )t:withReducible )group )null )t:first )null )t:tacticSeq1Indented )t:tacticSeq )t:tacticRepeat_\nzd\t( 'first ( ( '| ( 'dsimp ( ( ( ( '( config ':= ( '{ ( )null ( ( ( ( zetaDelta ( )null )T:structInstLVal ( ( )null ( )null ( ':= ( )null true )T:structInstFieldDef )null )T:structInstField )null )T:structInstFields ( ( )null )T:optEllipsis ( )null '} )T:structInst ') )t:valConfigItem )t:configItem )null )t:optConfig ( )null ( 'only )null ( '[ ( )null '] )null ( ( 'at ( ( S' )null )t:locationHyp )t:location )null )t:dsimp )group ( '| ( )null )group )null )t:first\nzg\t( 'first ( ( '| ( 'dsimp ( ( ( ( '( config ':= ( '{ ( )null ( ( ( ( zetaDelta ( )null )T:structInstLVal ( ( )null ( )null ( ':= ( )null true )T:structInstFieldDef )null )T:structInstField )null )T:structInstFields ( ( )null )T:optEllipsis ( )null '} )T:structInst ') )t:valConfigItem )t:configItem )null )t:optConfig ( )null ( 'only )null ( '[ ( )null '] )null ( )null )t:dsimp )group ( '| ( )null )group )null )t:first\niK\t( ( 'intro ( Kq hKn hKr )null )t:intro ( 'refine ( cE S' _ )$ )t:refine ( 'clear ( S' )null )t:clear ( 'intro ( lq Mq S' )null )t:intro )null\ncK\t( 'clear ( hKn hKr Kq )null )t:clear\npl\t<nH%; ( ( 'with_reducible ( 'apply aDr )t:apply )t:withReducible =pl )null; <pl1%; <pl2%; <pl3%; <pl4%; <pl5%; <pl6%; <pl7%; ( =plR =pl )null\nplR\t( 'with_reducible ( 'apply plS )t:apply )t:withReducible; ( 'with_reducible ( 'apply pl_c )t:apply )t:withReducible; ( 'with_reducible ( 'apply pl_n )t:apply )t:withReducible; ( 'with_reducible ( 'apply pl_s )t:apply )t:withReducible; ( 'with_reducible ( 'apply cL )t:apply )t:withReducible; ( 'with_reducible ( 'apply aAh )t:apply )t:withReducible\nps\t<aDo%; <ps_e%; ( ( 'with_reducible ( 'apply ps_w )t:apply )t:withReducible =ps )null; ( =psR =ps )null\npsR\t( 'with_reducible ( 'apply ps_c )t:apply )t:withReducible; ( 'with_reducible ( 'apply ps_n )t:apply )t:withReducible; ( 'with_reducible ( 'apply ps_s )t:apply )t:withReducible; ( 'with_reducible ( 'apply qX )t:apply )t:withReducible; ( 'with_reducible ( 'apply aBw )t:apply )t:withReducible\npmX\t^pm_x /pl _&; ^pm_xs /ps _&\npm\t<List.Perm.refl ~%; ( ( 'with_reducible ( 'apply pm_w )t:apply )t:withReducible =pm )null; ( =pmX =pm )null; ( =pmR =pm )null\npmR\t<aCB _%; <aCx _%; <aCv _%; <aCz _%; <aCC _%; <aCy _%; <aCw _%; <aCA _%; <pE _%; <aAg _%; ^aDq /pl _&; ^aDp /ps _&\nplD\t<nH%; ( 'exact nH )t:exact; ( =plDR =plD )null\nplDR\t( 'with_reducible ( 'apply plS )t:apply )t:withReducible; ( 'with_reducible ( 'apply pl_c )t:apply )t:withReducible; ( 'with_reducible ( 'apply pl_n )t:apply )t:withReducible; ( 'with_reducible ( 'apply pl_s )t:apply )t:withReducible; ( 'with_reducible ( 'apply cL )t:apply )t:withReducible; ( 'with_reducible ( 'apply aAh )t:apply )t:withReducible\npsD\t<aDo%; <ps_e%; ( 'exact aDo )t:exact; ( =psDR =psD )null\npsDR\t( 'with_reducible ( 'apply ps_c )t:apply )t:withReducible; ( 'with_reducible ( 'apply ps_n )t:apply )t:withReducible; ( 'with_reducible ( 'apply ps_s )t:apply )t:withReducible; ( 'with_reducible ( 'apply qX )t:apply )t:withReducible; ( 'with_reducible ( 'apply aBw )t:apply )t:withReducible\npmD\t<List.Perm.refl ~%; ( =pmDR =pmD )null\npmDR\t<aCB _%; <aCx _%; <aCv _%; <aCz _%; <aCC _%; <aCy _%; <aCw _%; <aCA _%; <pE _%; <aAg _%; ^aDq /pl _&; ^aDp /ps _&; ( 'refine ( pE _ )$ )t:refine; ( 'refine ( aAg _ )$ )t:refine; ^aDq /plD _&; ^aDp /psD _&\nput\t<Put.head%; <put1%; <put2%; <put3%; <put4%; <put5%; <put6%; <put7%; ( =putR =put )null\nputR\t( 'with_reducible ( 'apply putS )t:apply )t:withReducible; ( 'with_reducible ( 'apply Put.tail )t:apply )t:withReducible\nupd\t<Upd.head%; <upd1%; <upd2%; <upd3%; <upd4%; <upd5%; <upd6%; <upd7%; ( =updR =upd )null\nupdR\t( 'with_reducible ( 'apply updS )t:apply )t:withReducible; ( 'with_reducible ( 'apply Upd.tail )t:apply )t:withReducible\npull\t<Pull.head%; <pull1%; <pull2%; <pull3%; <pull4%; <pull5%; <pull6%; <pull7%; ( =pullR =pull )null\npullR\t( 'with_reducible ( 'apply pullS )t:apply )t:withReducible; ( 'with_reducible ( 'apply Pull.tail )t:apply )t:withReducible\nmid\t<Mid.head%; ( =midR =mid )null\nmidR\t( 'with_reducible ( 'apply midS )t:apply )t:withReducible; ( 'with_reducible ( 'apply Mid.tail )t:apply )t:withReducible; ( 'with_reducible ( 'apply Mid.app )t:apply )t:withReducible\nmem0\t( # ( 'exact List.mem_cons_self )t:exact @ ( 'exact ( Ap ( '( i ':= ( '0 )num ') )T:namedArgument rfl )$ )t:exact )null; ( # ( 'exact mem1 )t:exact @ ( 'exact ( Ap ( '( i ':= ( '1 )num ') )T:namedArgument rfl )$ )t:exact )null; ( # ( 'exact mem2 )t:exact @ ( 'exact ( Ap ( '( i ':= ( '2 )num ') )T:namedArgument rfl )$ )t:exact )null; ( # ( 'exact mem3 )t:exact @ ( 'exact ( Ap ( '( i ':= ( '3 )num ') )T:namedArgument rfl )$ )t:exact )null; ( # ( 'exact mem4 )t:exact @ ( 'exact ( Ap ( '( i ':= ( '4 )num ') )T:namedArgument rfl )$ )t:exact )null; ( # ( 'exact mem5 )t:exact @ ( 'exact ( Ap ( '( i ':= ( '5 )num ') )T:namedArgument rfl )$ )t:exact )null; ( # ( 'exact mem6 )t:exact @ ( 'exact ( Ap ( '( i ':= ( '6 )num ') )T:namedArgument rfl )$ )t:exact )null; ( # ( 'exact mem7 )t:exact @ ( 'exact ( Ap ( '( i ':= ( '7 )num ') )T:namedArgument rfl )$ )t:exact )null; ( # ( 'exact mem8 )t:exact @ ( 'exact ( Ap ( '( i ':= ( '8 )num ') )T:namedArgument rfl )$ )t:exact )null; ( # ( 'exact mem9 )t:exact @ ( 'exact ( Ap ( '( i ':= ( '9 )num ') )T:namedArgument rfl )$ )t:exact )null; ( # ( 'exact mem10 )t:exact @ ( 'exact ( Ap ( '( i ':= ( '10 )num ') )T:namedArgument rfl )$ )t:exact )null; ( # ( 'exact mem11 )t:exact @ ( 'exact ( Ap ( '( i ':= ( '11 )num ') )T:namedArgument rfl )$ )t:exact )null; ( # ( 'exact mem12 )t:exact @ ( 'exact ( Ap ( '( i ':= ( '12 )num ') )T:namedArgument rfl )$ )t:exact )null; ( # ( 'exact mem13 )t:exact @ ( 'exact ( Ap ( '( i ':= ( '13 )num ') )T:namedArgument rfl )$ )t:exact )null; ( # ( 'exact mem14 )t:exact @ ( 'exact ( Ap ( '( i ':= ( '14 )num ') )T:namedArgument rfl )$ )t:exact )null; ( # ( 'exact mem15 )t:exact @ ( 'exact ( Ap ( '( i ':= ( '15 )num ') )T:namedArgument rfl )$ )t:exact )null; ( # ( 'exact mem16 )t:exact @ ( 'exact ( Ap ( '( i ':= ( '16 )num ') )T:namedArgument rfl )$ )t:exact )null; ( # ( 'exact mem17 )t:exact @ ( 'exact ( Ap ( '( i ':= ( '17 )num ') )T:namedArgument rfl )$ )t:exact )null; ( # ( 'exact mem18 )t:exact @ ( 'exact ( Ap ( '( i ':= ( '18 )num ') )T:namedArgument rfl )$ )t:exact )null\nfld\t` aBI !; ` aDG !; ` lY !; ` rF !; ` mB !; ` nL !; ` iT !; ` iU !; ` fJ !; ` iF !; ` vK !; ` rG !; ` kN !; ` lZ !; ` tC !; ` tD !; ` mA !\npfld\t` aBA !; ` aDv !; ` lU !; ` qZ !; ` lX !; ` nJ !; ` iR !; ` iS !; ` fH !; ` iE !; ` vD !; ` rA !; ` kM !; ` lV !; ` sU !; ` sV !; ` lW !\ncw\t( # ( 'show ( Ad ~ ~ ( PySem.eval ~ ~ )$ ~ ~ ~ )$ )t:show @ =weval )null; ( # ( 'show ( Ad ~ ~ ( PySem.exec ~ ~ )$ ~ ~ ~ )$ )t:show @ =wexec )null; ( # ( 'show ( Ad ~ ~ ( PySem.execs ~ ~ )$ ~ ~ ~ )$ )t:show @ =wexecs )null; ( # ( 'show ( Ad ~ ~ ( PySem.spliced ~ )$ ~ ~ ~ )$ )t:show @ =wspliced )null; ( # ( 'show ( Ad ~ ~ ( PySem.call ~ ~ )$ ~ ~ ~ )$ )t:show @ =wcall )null; ( # ( 'show ( Ad ~ ~ ( PySem.callWith ~ ~ ~ ~ ~ )$ ~ ~ ~ )$ )t:show @ =wcallWith )null; ( # ( 'show ( Ad ~ ~ ( PySem.isTrue ~ ~ ~ )$ ~ ~ ~ )$ )t:show @ =wisTrue )null; ( # ( 'show ( Ad ~ ~ ( PySem.truthy ~ )$ ~ ~ ~ )$ )t:show @ =wtruthy )null; ( # ( 'show ( Ad ~ ~ ( PySem.compareOp ~ ~ ~ )$ ~ ~ ~ )$ )t:show @ =wcompareOp )null; ( # ( 'show ( Ad ~ ~ ( PySem.binaryOp ~ ~ ~ )$ ~ ~ ~ )$ )t:show @ =wbinaryOp )null; ^Sta.store S' /put _& =ns; ^Sta.newList S' /sz _& =na; ^Sta.newTuple S' /sz _& =na; ( # ( 'show ( Mine.GetM ~ ~ ~ ~ ~ ~ ~ )$ )t:show @ =wGetM )null; <hKn ~ _% =cK; <hKr ~ ~ _% =cK; <eZ _%; <aDO _%; <aDN _%; <dG _%; <evalPart_some_step _%; <evalPart_none_step _%; <joinP _%; <Sta.iadd S' _% =nt; <Sta.isub S' _% =nt; <Sta.neg S' _% =nt; ^Sta.local' S' /mem _&; ^JP.mk /len _&; ^Sta.joinEnd S' /len _& =nt; ^Sta.fmtS S' /len _& =nt; ^Sta.getF S' /asm /mem /mem VV.keys /fld /rfl _& =ns; ^Sta.setattr S' /asm /mem /upd VV.keys /pfld /dec _& =ns\nweval\t<wpAny_Constant_none _%; <wpAny_Constant_bool _%; <IfExp_ _%; ^aDk S' /mem _&; <wpAny_BinOp _%; <List_ _%; <Tuple_ _%; <aDM _%; <FormattedValue_plain _%; <UnaryOp_ _%; ^yK S' /mem _ /tt&; ^nF _ /tt /tt&; ^jD _ /kr /kr /kr&; ^aDj S' /mem _ /ff&; ^wpAny_Compare1 _ /ff&; ^kL S' /mem _&; ^aDl S' /asm /mem _&; ^aAd _ /tt&; ^oX _ /kr&; ^Call_ _ /kr&; <Sta.int_ S' _% =nt; <Sta.str_ S' _% =nt; ^Sta.local_ S' /mem _&; ^Sta.cell S' /asm /mem _&; <Sta.dict0 S' _% =na\nwexec\t<wpAny_Return_some _%; <wpAny_Return_none _%; <wpAny_If _%; <wpAny_AugAssign_AttributeAny _%; <wpAny_AugAssign_Name _%; ^pC _ /tt&; ^aAc _ /kr /tt&; ^sR _ /tt&\nwexecs\t<AI _%; <tR _% =iK; ^yY /rfl _& =iK; ^fS /le _&\nwspliced\t<args_nil _%; ^aBv S' /mem _&; ^vB _ /tt&\nwcall\t<Sta.newSet S' _% =na; ^Sta.append S' /upd /sz _& =ns; ^Sta.appendT S' /upd /sz _& =ns; ^Sta.setAdd S' /upd /sz _& =ns\nwcallWith\t<kF _%; <callWith_type0 _%; ^q_bi _ /tt&; ^q_ty _ /tt&; ^q_m1 _ /tt&; ^q_K1 ( '( K ':= K ') )T:namedArgument _ /tt&; ^q_Kn ( '( K ':= K ') )T:namedArgument _ /tt&\nwisTrue\t<isTrue_not _%; <isTrue_and _%; <isTrue_and_nil _%; <isTrue_or _%; <isTrue_or_nil _%; ^qW S' /mem _ /ff&; ^wpAny_isTrue_Compare1 _ /ff&; ^yJ S' /mem _&; ^eT _ /tt&\nwtruthy\t<wpAny_truthy_bool _%; <truthy_none _%; <PyProof.Rows.truthy_int _%; ^Sta.truthyD S' /mem /sz _& =ns; ^Sta.truthyL S' /mem /sz _& =ns; ^Sta.truthyT S' /mem /sz _& =ns\nwcompareOp\t<PyProof.Rows.eq_int _%; <PyProof.Rows.gt_int _%; <PyProof.Rows.lt_int _%; <aAB _%; <aAA _%; <aAz _%; <is_nn _%; <is_sn _%; ^Sta.notInSet S' /mem /sz _& =ns\nwbinaryOp\t<Sta.add S' _% =nt; <Sta.sub_ S' _% =nt; ^Sta.addS S' /len _& =nt\nwGetM\t^Sta.getM_list S' /mem F.slot_list_append F.type_list_append _&; ^Sta.getM_list S' /mem F.slot_list_pop F.type_list_pop _&; ^Sta.getM_list S' /mem F.slot_list_insert F.type_list_insert _&; ^Sta.getM_txts S' /mem F.slot_list_append F.type_list_append _&; ^Sta.getM_add S' /mem /sz _&; ^Sta.getM_val S' /asm /mem /mem VV.keys /fld /rfl _& =ns\nev\t=cw\nc\t( 'repeat ( ( ( =cw )null )t:tacticSeq1Indented )t:tacticSeq )t:tacticRepeat_\n"
def tabD:String:="\nnd\t( ( 'clear ( S' )null )t:clear ( 'intro ( d' s' S' )null )t:intro )null\ncw\t( # ( 'show ( Ad ~ ~ ( PySem.eval ~ ~ )$ ~ ~ ~ )$ )t:show @ =deval )null; ^q_Wm /ik _ /tt&; ( # ( 'show ( Ad ~ ~ ( PySem.binaryOp ~ ~ ~ )$ ~ ~ ~ )$ )t:show @ =dbinaryOp )null; ( # ( 'show ( Mine.GetM ~ ~ ~ ~ ~ ~ ~ )$ )t:show @ =dGetM )null; ( 'with_reducible ( 'refine ( And.intro ( Sta.kin S' )$ _ )$ )t:refine )t:withReducible; <vC _%; <yM _%\ndeval\t<Sta.dictD0 S' _% =na; ^Sta.dictLit /rfl /rfl /simp /le S' _& =nd\ndbinaryOp\t^Sta.mod S' /dec _& =nt; ^Sta.fdiv S' /dec /dec _& =nt\ndGetM\t^Sta.getM_inst ( '( name ':= ( '\"end\" )str ') )T:namedArgument ( '( f ':= ( '133 )num ') )T:namedArgument S' /asm /mem /mem VV.keys /deck /ik /ik _&; ^Sta.getM_inst ( '( name ':= ( '\"pi\" )str ') )T:namedArgument ( '( f ':= ( '147 )num ') )T:namedArgument S' /asm /mem /mem VV.keys /deck /ik /ik _&; ^Sta.getM_inst ( '( name ':= ( '\"comment\" )str ') )T:namedArgument ( '( f ':= ( '140 )num ') )T:namedArgument S' /asm /mem /mem VV.keys /deck /ik /ik _&; ^Sta.getM_inst ( '( name ':= ( '\"data\" )str ') )T:namedArgument ( '( f ':= ( '97 )num ') )T:namedArgument S' /asm /mem /mem VV.keys /deck /ik /ik _&; ^Sta.getM_inst ( '( name ':= ( '\"start\" )str ') )T:namedArgument ( '( f ':= ( '120 )num ') )T:namedArgument S' /asm /mem /mem VV.keys /deck /ik /ik _&\n"
def tabF:String:="\ncw\t<assignInOrder_cons _%; <assignInOrder_nil _%; ( ( 'with_reducible ( 'show ( Ad ~ ~ ( assign ~ ~ ~ )$ ~ ~ ~ )$ )t:show )t:withReducible ( 'with_reducible ( 'refine ( assign_Name _ )$ )t:refine )t:withReducible )null; ^q_W1 /ik _ /tt&; ^Assign_Tuple _ /kr /kr&; ^Sta.getM_txts S' /mem F.slot_list_pop F.type_list_pop _&; ^Sta.unpackT S' /hnd /mem /kr /kr _& =ns; ( ( 'fail_if_success ( 'with_reducible ( 'show ( Ad ~ ~ ( eval ( PySem.Expr.Subscript ~ ( PySem.Expr.Slice ~ ~ ~ ~ )$ ~ )$ ~ )$ ~ ~ ~ )$ )t:show )t:withReducible )t:failIfSuccess ( 'with_reducible ( 'refine' ( aO _ ( '? ht )T:syntheticHole )$ )t:refine' )t:withReducible ( 'case ( ( ( ht )Lean.binderIdent ( )null )t:caseArg )null '=> ( ( ( ( 'intro ( ~ ~ )null )t:intro ', ( 'kernel_rfl )tacticKernel_rfl )null )t:tacticSeq1Indented )t:tacticSeq )t:case )null\n"
def tabG:String:="\ncw\t^Sta.txtList S' /rfl /sz _& =na; ^Sta.txtTup S' /rfl /sz _& =na\n"
end Mine
end
set_option maxHeartbeats 8000000
local macro_rules | `(tactic| walk_at $s:str) => Mine.goAt Mine.tab0 s
local macro_rules | `(tactic| obtain ⟨$ps,*⟩ := $e:term) => Mine.obTac ps.elemsAndSeps e
namespace Mine
noncomputable abbrev Cell:=Obj->Prop
noncomputable abbrev Lg:=List (Addr×Cell)
noncomputable abbrev Loc:=List (Str×Option Value)
structure Led (B:Heap) (nw:Lg) (h:Heap):Prop where
 keep:∀ b o,B.get? b=some o->h.get? b=some o
 own:∀ p∈nw,B.get? p.1=none/\∃ o,h.get? p.1=some o/\p.2 o
 nodup:(nw.map Prod.fst).Nodup
noncomputable def lk(loc:Loc)(x:Str):Option Value:=(loc.lookup x).join
noncomputable def aI(loc:Loc):Cell:=λ o=>(loc.map Prod.fst).Nodup/\∃ es ep,o.data=.dict es ep/\StrKeys es/\∀ name,nsFind es name=lk loc name
noncomputable def aA(xs:List Value):Cell:=λ o=>∃ n,o={ cls:=.type "list",data:=.seq xs.toArray n }
noncomputable def aJ(xs:List Value):Cell:=λ o=>∃ n,o={ cls:=.type "tuple",data:=.seq xs.toArray n }
noncomputable def bZ(o₀:Obj):Cell:=λ o=>o=o₀
inductive Upd (a:Addr) (c c':Cell):Lg->Lg->Prop
 | head {r}:Upd a c c' ((a,c)::r) ((a,c')::r)
 | tail {p r r'}:Upd a c c' r r'->Upd a c c' (p::r) (p::r')
inductive Put (x:Str) (v:Option Value):Loc->Loc->Prop
 | head {u r}:Put x v ((x,u)::r) ((x,v)::r)
 | tail {p r r'}:Put x v r r'->Put x v (p::r) (p::r')
theorem Upd.keys{a c c' l l'}(h:Upd a c c' l l'):l'.map Prod.fst=l.map Prod.fst:=by
 induction h with
 | head=>rfl
 | tail h ih=>rw [Ak,Ak,ih]
theorem Upd.mem{a c c' l l'}(h:Upd a c c' l l'):(a,c)∈l:=by
 induction h with
 | head=>exact .head _
 | tail h ih=>exact .tail _ ih
theorem Upd.from{a c c' l l'}(h:Upd a c c' l l'):(l.map Prod.fst).Nodup->∀ p∈l',p=(a,c')\/(p∈l/\p.1≠a):=by
 induction h with
 | head=>
  intro nd p hp;rw[Ak,AH]at nd;rcases At.mp hp with rfl | hp
  ·exact .inl rfl
  ·exact .inr ⟨.tail _ hp,λ e=>nd.1 (Ah.mpr ⟨p,hp,e⟩)⟩
 | tail h ih=>
  intro nd p hp;rw[Ak,AH]at nd;rcases At.mp hp with rfl | hp
  ·exact .inr ⟨.head _,λ e=>nd.1 (by rw[e];exact List.mem_map_of_mem h.mem)⟩
  ·rcases ih nd.2 p hp with e | ⟨m,n⟩
   ·exact .inl e
   ·exact .inr ⟨.tail _ m,n⟩
namespace Led
variable {B h h':Heap}{nw nw':Lg}{a:Addr}{c c':Cell}
theorem get(D:Led B nw h)(m:(a,c)∈nw):∃ o,h.get? a=some o/\c o:=(D.own _ m).2
theorem size_ne(D:Led B nw h):h.objs.size∉nw.map Prod.fst:=λ m=>by
 obtain⟨p,hp,e⟩:=Ah.mp m;obtain⟨o,ho,_⟩:=(D.own p hp).2;exact absurd (Heap.lt_size ho) (by rw[e];exact BE _)
theorem size_new(D:Led B nw h):B.get? h.objs.size=none:=by
 cases q:B.get? h.objs.size with
 | none=>rfl
 | some o=>exact absurd (Heap.lt_size (D.keep _ _ q)) (BE _)
theorem grow(D:Led B nw h)(k:∀ b o,h.get? b=some o->h'.get? b=some o):Led B nw h':=
 ⟨λ b o e=>k _ _ (D.keep b o e),λ p hp=>let⟨x,o,ho,hc⟩:=D.own p hp;⟨x,o,k _ _ ho,hc⟩,D.nodup⟩
theorem sub(D:Led B nw h)(s:List.Sublist nw' nw):Led B nw' h:=
 ⟨D.keep,λ p hp=>D.own p (s.subset hp),D.nodup.sublist (s.map _)⟩
theorem perm(D:Led B nw h)(s:List.Perm nw nw'):Led B nw' h:=
 ⟨D.keep,λ p hp=>D.own p (s.mem_iff.mpr hp),(s.map Prod.fst).nodup_iff.mp D.nodup⟩
theorem tail{p:Addr×Cell}(D:Led B (p::nw) h):Led B nw h:=D.sub (AQ _ _)
theorem cons_new(D:Led B nw h){o:Obj}(k:∀ b o',h.get? b=some o'->h'.get? b=some o')(hs:a∉nw.map Prod.fst)(hB:B.get? a=none)(ho:h'.get? a=some o)(hc:c o):Led B ((a,c)::nw) h':=by
 have G:=D.grow k;refine⟨G.keep,λ p hp=>?_,?_⟩
 ·rcases At.mp hp with rfl | hp
  ·exact⟨hB,o,ho,hc⟩
  ·exact G.own p hp
 ·rw[Ak,AH];exact⟨hs,D.nodup⟩
theorem new(D:Led B nw h){o:Obj}(hf:o.isFreed=false)(hc:c o):Led B ((h.objs.size,c)::nw) (h.push o):=
 D.cons_new (λ _ _ e=>Heap.get?_push_of_some _ e) D.size_ne D.size_new (Heap.get?_push_size _ hf) hc
theorem set(D:Led B nw h)(U:Upd a c c' nw nw')(hs:∀ b o,b≠a->h.get? b=some o->h'.get? b=some o){o:Obj}(ho:h'.get? a=some o)(hc:c' o):Led B nw' h':=by
 have hB:=(D.own _ U.mem).1;refine⟨λ b o' e=>hs b o' (λ q=>by rw[q,hB]at e;cases e) (D.keep b o' e),λ p hp=>?_,by rw[U.keys];exact D.nodup⟩;rcases U.from D.nodup p hp with rfl | ⟨m,n⟩
 ·exact⟨hB,o,ho,hc⟩
 ·obtain⟨x,q0⟩:=D.own p m;obtain⟨o',ho',hc'⟩:=q0;exact⟨x,o',hs _ _ n ho',hc'⟩
theorem ne{b:Addr}{o:Obj}(D:Led B nw h)(m:(a,c)∈nw)(e:B.get? b=some o):a≠b:=λ q=>by
 have:=(D.own _ m).1;rw[q,e]at this;cases this
end Led
theorem Put.keys{x:Str}{v:Option Value}{l l':Loc}(h:Put x v l l'):l'.map Prod.fst=l.map Prod.fst:=by
 induction h with
 | head=>rfl
 | tail h ih=>rw [Ak,Ak,ih]
theorem Put.mem{x:Str}{v:Option Value}{l l':Loc}(h:Put x v l l'):x∈l.map Prod.fst:=by
 induction h with
 | head=>exact .head _
 | tail h ih=>exact .tail _ ih
theorem Put.look{x:Str}{v:Option Value}{l l':Loc}(h:Put x v l l'):(l.map Prod.fst).Nodup->∀ y,lk l' y=if y=x then v else lk l y:=by
 induction h with
 | head=>
  intro _ y;unfold lk;rw[Bc,Bc]
  by_cases h:y=x
  ·subst h;simp
  ·rw[beq_eq_false_iff_ne.mpr h,if_neg h]
 | @tail p r r' h ih=>
  intro nd y;rw[Ak,AH]at nd;have ih:=ih nd.2 y;unfold lk at ih ⊢;rw[Bc,Bc]
  by_cases q:y=p.1
  ·have hx:¬y=x:=λ e=>nd.1 (by rw[←q,e];exact h.mem);rw[if_neg hx,beq_iff_eq.mpr q]
  ·rw[beq_eq_false_iff_ne.mpr q];exact ih
theorem iB{x:Str}{v:Option Value}:∀{l:Loc},(l.map Prod.fst).Nodup->(x,v)∈l->lk l x=v
 | p::l,nd,m=>by
  rw[Ak,AH]at nd;unfold lk;rw[Bc];rcases At.mp m with rfl | m
  ·simp
  ·have:x≠p.1:=λ e=>nd.1 (by rw[←e];exact Ah.mpr ⟨_,m,rfl⟩);rw[beq_eq_false_iff_ne.mpr this];exact iB nd.2 m
structure Wd where
 prog:Program
 w:World
 K:Frag
 B:Heap
 os:OsState
noncomputable abbrev Wd.M(W:Wd):=model W.prog W.w
structure Wd.Ok (W:Wd):Prop where
 kin:W.K.In W.B
 top:∃ loose mean mg mb,Top topProg loose mean mg mb W.B
theorem Wd.Ok.g{W:Wd}(O:W.Ok):∃ mg,W.B.Ns AL mg:=let⟨_,_,_,_,T⟩:=O.top;⟨_,T.g⟩
theorem Wd.Ok.b{W:Wd}(O:W.Ok):∃ mb,W.B.Ns builtinsNs mb/\∀ x:Str,x≠"__name__"->mb x=bootBuiltins x:=let⟨_,_,_,_,T⟩:=O.top;⟨_,T.b,T.builtins⟩
theorem Wd.Ok.nolimit{W:Wd}(O:W.Ok):W.B.NoLimit:=let⟨_,_,_,_,T⟩:=O.top;T.nolimit
theorem Wd.Ok.bm{W:Wd}(O:W.Ok):∃ mg bm ob,W.B.Ns AL mg/\mg "__builtins__"=some (.ref bm)/\bm≠builtinsNs/\bm≠AL/\W.B.get? bm=some ob/\ob.cls=.type "module"/\ob.dict=some builtinsNs/\ob.data=.plain:=by
 obtain⟨_,_,mg,_,T⟩:=O.top;obtain⟨bm,ob,h1,h2,h3,h4,h5,h6⟩:=T.bmain;refine⟨mg,bm,ob,T.g,h1,h2,λ q=>?_,h3,h4,h5,h6⟩;obtain⟨o,es,ep,e,hd,_⟩:=T.g;rw[q,e]at h3;cases h3;rw[hd]at h6;cases h6
structure EvO (env:Env) (ks:List Str):Prop where
 fn:env.scope.kind=.function
 glob:env.globals=AL
 bi:env.builtins=builtinsNs
 kinds:∀ x∈ks,env.kindOf x=some .local
 nodebug:∀ x∈ks,(x==("__debug__":Str))=false
 nodup:ks.Nodup
noncomputable abbrev Gens:=List (Nat×GenState)
structure Sta (W:Wd) (G:Gens) (env:Env) (loc:Loc) (nw:Lg) (s:Ac):Prop where
 ok:W.Ok
 eok:EvO env (loc.map Prod.fst)
 led:Led W.B ((env.locals,aI loc)::nw) s.heap
 bare:AllBare s.gens
 os:s.os=W.os
 gens:∀ p∈G,s.gens[p.1]?=some p.2
 gnd:(G.map Prod.fst).Nodup
namespace Sta
variable {W:Wd}{G:Gens}{env:Env}{loc loc':Loc}{nw nw':Lg}{s:Ac}{A:AJ}{E:Value->Ac->Prop}
theorem kin(S:Sta W G env loc nw s):W.K.In s.heap:=S.ok.kin.keeps S.led.keep
theorem nolimit(S:Sta W G env loc nw s):s.heap.NoLimit:=S.ok.nolimit.keeps S.led.keep
theorem toks(S:Sta W G env loc nw s)(t:Nat):Sta W G env loc nw { s with toks:=t }:=⟨S.ok,S.eok,S.led,S.bare,S.os,S.gens,S.gnd⟩
theorem ns(S:Sta W G env loc nw s):s.heap.Ns env.locals (lk loc):=by
 obtain⟨o,ho,_,q0⟩:=S.led.get (.head _);obtain⟨es,ep,hd,hk,hf⟩:=q0;exact⟨o,es,ep,ho,hd,hk,hf⟩
theorem get{a:Addr}{c:Cell}(S:Sta W G env loc nw s)(m:(a,c)∈nw):∃ o,s.heap.get? a=some o/\c o:=S.led.get (.tail _ m)
theorem grow(S:Sta W G env loc nw s){h':Heap}(k:∀ b o,s.heap.get? b=some o->h'.get? b=some o)(t:Nat):Sta W G env loc nw { s with heap:=h',toks:=t }:=
 ⟨S.ok,S.eok,S.led.grow k,S.bare,S.os,S.gens,S.gnd⟩
theorem new(S:Sta W G env loc nw s){o:Obj}{c:Cell}(hf:o.isFreed=false)(hc:c o)(t:Nat):Sta W G env loc ((s.heap.objs.size,c)::nw) { s with heap:=s.heap.push o,toks:=t }:=
 ⟨S.ok,S.eok,(S.led.new hf hc).perm (List.Perm.swap ..),S.bare,S.os,S.gens,S.gnd⟩
theorem set(S:Sta W G env loc nw s){a:Addr}{c c':Cell}{o:Obj}{h':Heap}(U:Upd a c c' nw nw')(hs:∀ b o,b≠a->s.heap.get? b=some o->h'.get? b=some o)(ho:h'.get? a=some o)(hc:c' o)(t:Nat):Sta W G env loc nw' { s with heap:=h',toks:=t }:=
 ⟨S.ok,S.eok,S.led.set (.tail U) hs ho hc,S.bare,S.os,S.gens,S.gnd⟩
theorem sub(S:Sta W G env loc nw s)(h:List.Sublist nw' nw):Sta W G env loc nw' s:=⟨S.ok,S.eok,S.led.sub (h.cons_cons _),S.bare,S.os,S.gens,S.gnd⟩
theorem perm(S:Sta W G env loc nw s)(h:List.Perm nw nw'):Sta W G env loc nw' s:=⟨S.ok,S.eok,S.led.perm (h.cons _),S.bare,S.os,S.gens,S.gnd⟩
theorem put(S:Sta W G env loc nw s){x:Str}{v:Option Value}{h':Heap}(P:Put x v loc loc')(hn:h'.Ns env.locals (λ y=>if y=x then v else lk loc y))(hs:Heap.SameBut env.locals s.heap h')(t:Nat):Sta W G env loc' nw { s with heap:=h',toks:=t }:=by
 obtain⟨o,es,ep,ho,hd,hk,hf⟩:=hn;have nd:(loc.map Prod.fst).Nodup:=S.eok.nodup;refine⟨S.ok,by rw[P.keys];exact S.eok,S.led.set (.head) (λ b o hb e=>(hs.2 b hb).trans e) ho ⟨by rw[P.keys];exact nd,es,ep,hd,hk,λ y=>?_⟩,S.bare,S.os,S.gens,S.gnd⟩;rw[hf y,P.look nd]
theorem local_{x:Str}{pos:Pos}{v:Value}{Q:Value->Ac->Prop}{M:Model}(S:Sta W G env loc nw s)(hv:(x,some v)∈loc)(h:Q v s):Ad M A (eval (.Name x pos) env) Q E s:=
 have hx:x∈loc.map Prod.fst:=Ah.mpr ⟨_,hv,rfl⟩
 wpAny_Name (wpAny_loadName_local S.eok.fn (S.eok.kinds _ hx) S.ns (iB S.eok.nodup hv) h) (S.eok.nodebug _ hx)
theorem local'{x:Str}{v:Value}{Q:Value->Ac->Prop}{M:Model}(S:Sta W G env loc nw s)(hv:(x,some v)∈loc)(h:Q v s):Ad M A (loadName env x) Q E s:=
 have hx:x∈loc.map Prod.fst:=Ah.mpr ⟨_,hv,rfl⟩
 wpAny_loadName_local S.eok.fn (S.eok.kinds _ hx) S.ns (iB S.eok.nodup hv) h
theorem store{x:Str}{v:Value}{Q:Unit->Ac->Prop}{M:Model}(S:Sta W G env loc nw s)(hp:Put x (some v) loc loc')(h:∀ s',Sta W G env loc' nw s'->Q () s'):Ad M A (storeName env x v) Q E s:=by
 refine wpAny_storeName_local (S.eok.kinds _ hp.mem) S.ns (λ h' hn hs=>h _ (S.put hp hn hs _)) ?_;rw[S.eok.fn];rfl
theorem global{x:Str}{pos:Pos}{v:Value}{Q:Value->Ac->Prop}{M:Model}(S:Sta W G env loc nw s)(e:nsIn W.K AL x=some (some v))(hx:env.kindOf x=some .globalImplicit)(h:Q v s)(hd:(x==("__debug__":Str))=false:=by decide +kernel):Ad M A (eval (.Name x pos) env) Q E s:=by
 obtain⟨mg,hg⟩:=S.ok.g;exact Calls.Name_function_global S.eok.fn hx (Calls.loadGlobal_global (by rw[S.eok.glob];exact hg.keeps S.led.keep) (mg_of S.ok.kin hg e) h) hd
theorem builtin{x:Str}{pos:Pos}{v:Value}{Q:Value->Ac->Prop}{M:Model}(S:Sta W G env loc nw s)(e:nsIn W.K AL x=some none)(hv:bootBuiltins x=some v)(hx:env.kindOf x=some .globalImplicit)(h:Q v s)(hn:x≠"__name__":=by decide +kernel)(hd:(x==("__debug__":Str))=false:=by decide +kernel):Ad M A (eval (.Name x pos) env) Q E s:=by
 obtain⟨mg,hg⟩:=S.ok.g;obtain⟨mb,hb,hbb⟩:=S.ok.b;exact Calls.Name_function_global S.eok.fn hx (Calls.loadGlobal_builtin (by rw[S.eok.glob];exact hg.keeps S.led.keep) (mg_none_of S.ok.kin hg e) (by rw[S.eok.bi];exact hb.keeps S.led.keep) ((hbb x hn).trans hv) h) hd
end Sta
end Mine
section
variable {W:Mine.Wd}{G:Mine.Gens}{env:Env}{loc loc':Mine.Loc}{nw nw':Mine.Lg}{s:Ac}{A:AJ}{E:Value->Ac->Prop}
namespace Mine
theorem nB(xs:List Value)(a:Nat):(slicePick xs.toArray (some (a:Int)) none none).toList=xs.drop a:=by
 rw[slicePick_from']
theorem uQ(xs:List Value)(b:Nat):(slicePick xs.toArray none (some (b:Int)) none).toList=xs.take b:=by
 rw[slicePick_upto']
theorem yF(xs:List Value)(a b:Nat)(hb:b<=xs.length)(hab:a<=b):(slicePick xs.toArray (some (a:Int)) (some (b:Int)) none).toList=(xs.take b).drop a:=by
 rw[slicePick_run _ _ _ (by simpa using hb) hab];simp only[List.drop_take]
theorem Sta.isList{a:Addr}{xs:List Value}(S:Sta W G env loc nw s)(m:(a,aA xs)∈nw):s.heap.IsList a xs.toArray:=by
 obtain⟨o,q0⟩:=S.get m;obtain⟨ho,n,rfl⟩:=q0;exact⟨_,ho,rfl,n,rfl⟩
theorem Sta.isL{a:Addr}{xs:List Value}(S:Sta W G env loc nw s)(m:(a,aA xs)∈nw):∃ n,IsL s.heap a xs.toArray n:=by
 obtain⟨o,q0⟩:=S.get m;obtain⟨ho,n,rfl⟩:=q0;exact⟨n,ho⟩
theorem Sta.int_{i:Int}{k:Nat}{pos:Pos}{Q:Value->Ac->Prop}{M:Model}(S:Sta W G env loc nw s)(h:∀ t s',Sta W G env loc nw s'->Q (.int i t) s'):Ad M A (eval (.Constant (.int i) k pos) env) Q E s:=
 wpAny_Constant_int (h _ _ (S.toks _))
theorem Sta.str_{x:Str}{k:Nat}{pos:Pos}{Q:Value->Ac->Prop}{M:Model}(S:Sta W G env loc nw s)(h:∀ t s',Sta W G env loc nw s'->Q (.str x t) s'):Ad M A (eval (.Constant (.str x) k pos) env) Q E s:=
 wpAny_Constant_str (h _ _ (S.toks _))
theorem Sta.add{a b:Int}{t u:Tok}{Q:Value->Ac->Prop}(S:Sta W G env loc nw s)(h:∀ t s',Sta W G env loc nw s'->Q (.int (a+b) t) s'):Ad W.M A (binaryOp .Add (.int a t) (.int b u)) Q E s:=
 PyProof.Rows.add_int (h _ _ (S.toks _))
theorem Sta.sub_{a b:Int}{t u:Tok}{Q:Value->Ac->Prop}(S:Sta W G env loc nw s)(h:∀ t s',Sta W G env loc nw s'->Q (.int (a-b) t) s'):Ad W.M A (binaryOp .Sub (.int a t) (.int b u)) Q E s:=
 PyProof.Rows.sub_int (h _ _ (S.toks _))
theorem Sta.mod{a b:Int}{t u:Tok}{Q:Value->Ac->Prop}(S:Sta W G env loc nw s)(hb:b≠0)(h:∀ t s',Sta W G env loc nw s'->Q (.int (a.fmod b) t) s'):Ad W.M A (binaryOp .Mod (.int a t) (.int b u)) Q E s:=
 PyProof.Rows.mod_int hb (h _ _ (S.toks _))
noncomputable def wK(W:Wd)(env:Env)(Q:Value->Ac->Prop)(o vl vu:Value)(s:Ac):Prop:=
 ∃ G loc nw l xs lo hi,Sta W G env loc nw s/\o=.ref l/\(l,aA xs)∈nw/\xs.length<=Au/\IsPart vl lo/\IsPart vu hi∧
  ∀ a s',Sta W G env loc ((a,aA (slicePick xs.toArray lo hi none).toList)::nw) s'->Q (.ref a) s'
theorem Sta.sum{a:Addr}{xs:List Value}{ns:List Int}{Q:Value->Ac->Prop}(S:Sta W G env loc nw s)(hh:A.handled=none)(m:(a,aA xs)∈nw)(hi:IntsAre xs ns)(h:∀ t s',Sta W G env loc nw s'->Q (.int ns.sum t) s'):Ad W.M A (call (.builtin "sum") [.ref a]) Q E s:=by
 obtain⟨xs',e⟩:=hi.allInts.items;have hl:=S.isList m;rw[e]at hl;refine sum_intListG hh hl λ h' tk t' hk=>?_;have q:=h t' _ (S.grow hk tk);rw[preSum_eq,BH (by simp)];have e2:(xs'.toList.map (·.1))=ns:=by
  have:=hi.numsOf;rw[show xs=xs.toArray.toList from rfl,e,nums_intItems]at this;simpa using this
 first | (rw[e2];exact q) | (simpa[e2]using q)
noncomputable def cU(p:Program)(i:Nat):Stmt:=p.main.body.getD i (.Pass default)
noncomputable def dM(st:Stmt)(j:Nat):Stmt:=match st with
 | .ClassDef _ _ _ body _ _ _ _ _ _ _=>body.getD j (.Pass default)
 | st=>st
noncomputable def dP:Stmt->Arguments
 | .FunctionDef _ a _ _ _ _ _ _ _ _=>a
 | _=>default
noncomputable def qO:Stmt->List Stmt×List Stmt×Expr
 | .FunctionDef _ _ b _ _ _ _ _ _ _=>(b,[],.Name "" default)
 | .For t _ b _ _=>(b,[],t)
 | .If t b o _=>(b,o,t)
 | .While t b _ _=>(b,[],t)
 | .Expr e _=>([],[],e)
 | _=>([],[],.Name "" default)
noncomputable def aH(st:Stmt):List Stmt:=(qO st).1
noncomputable def aAG(st:Stmt):List Stmt:=(qO st).2.1
noncomputable def stE(st:Stmt):Expr:=(qO st).2.2
noncomputable def aD:Stmt->Scope
 | .FunctionDef _ _ _ _ _ _ sc _ _ _=>sc
 | _=>default
noncomputable def aT(binds:List (Str×Value))(rest:List Str):Loc:=binds.map (λ p=>(p.1,some p.2))++rest.map (λ k=>(k,none))
theorem jR:∀(rest:List Str) (x:Str),lk (rest.map λ k=>(k,none)) x=none:=by
 intro l0
 induction l0 with
 | nil=>
  intro _;exact rfl
 | cons k r ih=>
  intro x;unfold lk;rw[Ak,Bc];cases x==k with
  | true=>rfl
  | false=>exact ih x
theorem eV:∀(binds:List (Str×Value)) (rest:List Str),(binds.map Prod.fst).Nodup->∀ x,lk (aT binds rest) x=binds.reverse.lookup x:=by
 intro l0
 induction l0 with
 | nil=>
  intro rest _ x;exact jR rest x
 | cons p0 r ih=>
  obtain⟨k,v⟩:=p0;intro rest nd x;rw[Ak,AH]at nd;have ih:=ih rest nd.2 x;have key:(r.reverse++[(k,v)]).lookup x=(r.reverse.lookup x).or (if x==k then some v else none):=by
   rw[List.lookup_append]
   congr 1
   rw[Bc];cases x==k<;>rfl
  rw[List.reverse_cons,key];unfold lk aT at ih ⊢;rw[Ak,Ar,Bc]
  by_cases h:x=k
  ·subst h;have:r.reverse.lookup x=none:=by
    rw[Bl];intro p hp;rw[bne_iff_ne];exact λ e=>nd.1 (Ah.mpr ⟨p,List.mem_reverse.mp hp,e.symm⟩)
   rw[this];simp
  ·rw[beq_eq_false_iff_ne.mpr h];rw[if_neg Bool.false_ne_true,Option.or_none];exact ih
noncomputable def dL(sc:Scope)(ks:List Str):Bool:=sc.kind==.function&&!sc.isCoroutine&&!sc.isGenerator&&(sc.names.all λ x=>x.2 != .cell)&&(ks.all λ x=>sc.names.lookup x==some .local&&!(x==("__debug__":Str)))&&decide ks.Nodup
theorem eY{sc:Scope}{ks:List Str}(hk:dL sc ks=true){P:Prop}(k:sc.kind=.function->sc.isCoroutine=false->sc.isGenerator=false->(∀ x∈sc.names,x.2≠.cell)->(∀ x∈ks,sc.names.lookup x=some .local/\(x==("__debug__":Str))=false)->ks.Nodup->P):P:=by
 simp only[dL,AK,beq_iff_eq,Bw,Bv,bne_iff_ne,decide_eq_true_eq]at hk;exact k hk.1.1.1.1.1 hk.1.1.1.1.2 hk.1.1.1.2 hk.1.1.2 hk.1.2 hk.2
theorem Sta.code_def{R:Result->Ac->Prop}{f:Addr}{name qual:Str}{st:Stmt}{dV kV doc pm cdv ct oc:Value}{an od:Option Addr}{osl:Array (Option Value)}{args:Args}{binds:List (Str×Value)}(rest:List Str)(S:Sta W G env loc nw s)(hroom:A.depth<Be)(ho:W.K.lookup f=some ⟨oc,od,.func (fnOf name qual (dP st) (aH st) (aD st) dV kV doc pm an cdv ct),osl⟩)(hcd:codeIn W.K cdv qual=true)(hbind:BindsTo s (fnOf name qual (dP st) (aH st) (aD st) dV kV doc pm an cdv ct) args binds)(hk:dL (aD st) (binds.map Prod.fst++rest)=true)(h:∀ L s',Sta W G (envOf qual (aD st) L f cdv) (aT binds rest) ((env.locals,aI loc)::nw) s'->
   Ad W.M (A.deeper (envOf qual (aD st) L f cdv)) (execs (aH st) (envOf qual (aD st) L f cdv)) (λ fl s''=>R (.ok (.ret (match fl with | .ret v=>v | _=>.none))) s'') (λ _ _=>False) s'):codeAny W.M A (.call (.ref f) args) R s:=by
 refine eY hk ?_;clear hk;intro hkind hco hgen hcell hks hnd;have hks2:((aT binds rest).map Prod.fst)=binds.map Prod.fst++rest:=by
  simp[aT,AZ,Function.comp_def]
 refine(codeAny_call_def (fd:=fnOf name qual (dP st) (aH st) (aD st) dV kV doc pm an cdv ct) (body:=aH st) (binds:=binds) hroom (S.kin _ _ ho) rfl S.nolimit (codeRec_of S.kin hcd) rfl hbind hcell
  (λ x hx=>(hks x.1 (Am _ (Ah.mpr ⟨x,hx,rfl⟩))).1) (λ h₁ hns hkp=>?_) hco hgen hkind)
 have D:Led W.B ((s.heap.objs.size,aI (aT binds rest))::(env.locals,aI loc)::nw) h₁:=by
  obtain⟨o,es,ep,ho',hd,hsk,hf⟩:=hns;refine S.led.cons_new hkp S.led.size_ne S.led.size_new ho' ⟨by rw[hks2];exact hnd,es,ep,hd,hsk,λ x=>?_⟩;rw[hf x,eV _ _ (hnd.sublist (AO _ _))]
 have S':Sta W G (envOf qual (aD st) s.heap.objs.size f cdv) (aT binds rest) ((env.locals,aI loc)::nw) { s with heap:=h₁,toks:=s.toks+binds.length }:=
  ⟨S.ok,by rw[hks2];exact⟨hkind,rfl,rfl,λ x hx=>(hks x hx).1,λ x hx=>(hks x hx).2,hnd⟩,D,S.bare,S.os,S.gens,S.gnd⟩
 exact As (h _ _ S') (λ fl s'' q=>q) (λ _ _ q=>q.elim)
theorem Sta.call_def{Q:Value->Ac->Prop}{f:Addr}{name qual:Str}{st:Stmt}{dV kV doc pm cdv ct oc:Value}{an od:Option Addr}{osl:Array (Option Value)}{args:Args}{binds:List (Str×Value)}(rest:List Str)(S:Sta W G env loc nw s)(hroom:A.depth<Be)(ho:W.K.lookup f=some ⟨oc,od,.func (fnOf name qual (dP st) (aH st) (aD st) dV kV doc pm an cdv ct),osl⟩)(hcd:codeIn W.K cdv qual=true)(hbind:BindsTo s (fnOf name qual (dP st) (aH st) (aD st) dV kV doc pm an cdv ct) args binds)(hk:dL (aD st) (binds.map Prod.fst++rest)=true)(h:∀ L s',Sta W G (envOf qual (aD st) L f cdv) (aT binds rest) ((env.locals,aI loc)::nw) s'->
   Ad W.M (A.deeper (envOf qual (aD st) L f cdv)) (execs (aH st) (envOf qual (aD st) L f cdv)) (λ fl s''=>Q (match fl with | .ret v=>v | _=>.none) s'') (λ _ _=>False) s'):Ad W.M A (call (.ref f) args.pos args.kw) Q E s:=wpAny_call (S.code_def rest hroom ho hcd hbind hk h)
theorem Sta.back{env':Env}(S:Sta W G env' loc' ((env.locals,aI loc)::nw) s)(S₀:EvO env (loc.map Prod.fst)):Sta W G env loc nw s:=
 ⟨S.ok,S₀,S.led.tail,S.bare,S.os,S.gens,S.gnd⟩
noncomputable def GetM(M:Model)(A:AJ)(E:Value->Ac->Prop)(name:Str)(ov:Value)(Q:Value×List Value->Ac->Prop)(s:Ac):Prop:=∀ pl,Ad M A (getMethod ov name pl) Q E s
section
variable {M:Model}{env:Env}{s:Ac}{A:AJ}{E:Value->Ac->Prop}
theorem jD{o:Expr}{name:Str}{apos pos:Pos}{args:List Expr}{kws:List Keyword}{Q:Value->Ac->Prop}(h:Ad M A (eval o env) (λ ov s₁=>GetM M A E name ov (λ p s₂=>Ad M A (callWith pos p.1 p.2 (backTo pos (Aw args env)) (backToKw pos (keywordEach kws env))) Q E s₂) s₁) E s)(hbase:attributeBase o name env (eval o env)=eval o env)(hform:methodCallForm (args.length+kws.length) (backTo pos (Aw args env)) (backToKw pos (keywordEach kws env))=true)(hline:(apos.endLine==pos.line)=true):Ad M A (eval (.Call (.Attribute o name apos) args kws pos) env) Q E s:=by
 rw[arm_eval_Call,hbase];refine Aa (As h (λ ov s₁ h₁=>Aa (AP ?_)) λ _ _ e=>e);have hpos:methodCallPos true o env apos pos=pure pos:=by unfold methodCallPos;simp[hline]
 unfold methodCall;rw[hform];exact Aa (AC (As (h₁ _) (λ p s₂ h₂=>Aa (Bi hpos h₂)) λ _ _ e=>e))
theorem dO{name:Str}{ov:Value}{Q:Value×List Value->Ac->Prop}{T id:String}(pa:PlainAttrs T)(slot:Slot T name id)(hty:typeOf (.builtin id)=pure (.type "method_descriptor"))(hT:s.TypeIs ov T)(hd:∀ a,ov=.ref a->∃ o,s.heap.get? a=some o/\o.dict=none)(h:Q (.builtin id,[ov]) s):GetM M A E name ov Q s:=λ _=>getMethod_builtin hT pa slot hty hd h
theorem jW{name:Str}{x:Str}{t:Tok}{Q:Value×List Value->Ac->Prop}{id:String}(slot:Slot "str" name id)(hty:typeOf (.builtin id)=pure (.type "method_descriptor"))(h:Q (.builtin id,[.str x t]) s):GetM M A E name (.str x t) Q s:=
 dO F.plainAttrs_str slot hty (typeIs_str _ _ _) (λ _ e=>nomatch e) h
theorem kF{pos:Pos}{id:String}{first:List Value}{Q:Value->Ac->Prop}(h:Ad M A (call (.builtin id) first) Q E s):Ad M A (callWith pos (.builtin id) first (backTo pos (Aw [] env)) (backToKw pos (keywordEach [] env))) Q E s:=
 Calls.callWith_builtin rfl (PySem.evalArgs_none (by rw[Aj];exact h))
theorem tY{pos:Pos}{id:String}{first:List Value}{e:Expr}{rest:List Expr}{Q:Value->Ac->Prop}(h:Ad M A (spliced (backTo pos (Aw (e::rest) env))) (λ vs s₁=>Ad M A (call (.builtin id) (first++vs)) Q E s₁) E s)(he:Aw (e::rest) env=(false,eval e env)::Aw rest env)(hplain:(backTo pos (Aw rest env)).any (·.1)=false):Ad M A (callWith pos (.builtin id) first (backTo pos (Aw (e::rest) env)) (backToKw pos (keywordEach [] env))) Q E s:=by
 rw[he]at h ⊢;exact Calls.callWith_builtin (by show(false||(backTo pos (Aw rest env)).any (·.1))=false;rw[hplain];rfl) (Calls.evalArgs_plain h)
end
theorem Sta.getM_list{name:Str}{a:Addr}{xs:List Value}{Q:Value×List Value->Ac->Prop}{id:String}(S:Sta W G env loc nw s)(m:(a,aA xs)∈nw)(slot:Slot "list" name id)(hty:typeOf (.builtin id)=pure (.type "method_descriptor"))(h:Q (.builtin id,[.ref a]) s):GetM W.M A E name (.ref a) Q s:=by
 obtain⟨n,hl⟩:=S.isL m;exact dO F.plainAttrs_list slot hty ⟨_,hl,rfl⟩ (λ b e=>by cases e;exact⟨_,hl,rfl⟩) h
theorem xS{h:Heap}{a:Addr}{xs ys:List Value}{n:Nat}(hl:IsL h a xs.toArray n)(f:Array Value->Array Value)(e:f xs.toArray=ys.toArray):∃ o,(h.update a (Obj.mapSeq f)).get? a=some o/\aA ys o:=by
 refine⟨_,IsL.update hl f,?_⟩;rw[e];exact⟨_,rfl⟩
theorem Sta.setL{a:Addr}{xs ys:List Value}{n:Nat}(S:Sta W G env loc nw s)(hl:IsL s.heap a xs.toArray n)(f:Array Value->Array Value)(e:f xs.toArray=ys.toArray)(U:Upd a (aA xs) (aA ys) nw nw')(t:Nat):Sta W G env loc nw' { s with heap:=s.heap.update a (Obj.mapSeq f),toks:=t }:=by
 obtain⟨o,ho,hc⟩:=xS hl f e;exact S.set U (λ b o hb e=>((Heap.SameBut.update s.heap a _).2 b hb).trans e) ho hc t
theorem Sta.append{a:Addr}{xs:List Value}{v:Value}{Q:Value->Ac->Prop}(S:Sta W G env loc nw s)(U:Upd a (aA xs) (aA (xs++[v])) nw nw')(hz:xs.length<=Au)(h:∀ s',Sta W G env loc nw' s'->Q .none s'):Ad W.M A (call (.builtin "list.append") [.ref a,v]) Q E s:=by
 obtain⟨n,hl⟩:=S.isL U.mem;exact call_meets F.slot_list_append ⟨_,hl,rfl⟩ F.entry_list_append (F.args_list_append_2 _ _) (list_append a xs.toArray n v (by simpa using hz)) ⟨hl,h _ (S.setL hl _ (by simp) U _)⟩
theorem Sta.pop{a:Addr}{xs:List Value}{v:Value}{Q:Value->Ac->Prop}(S:Sta W G env loc nw s)(U:Upd a (aA (xs++[v])) (aA xs) nw nw')(hz:xs.length<Au)(h:∀ s',Sta W G env loc nw' s'->Q v s'):Ad W.M A (call (.builtin "list.pop") [.ref a]) Q E s:=by
 obtain⟨n,hl⟩:=S.isL U.mem;refine call_meets F.slot_list_pop ⟨_,hl,rfl⟩ F.entry_list_pop (F.args_list_pop_1 _) (MeetsSeq.list_pop_last a (xs++[v]).toArray n v (by simp) (by simp;walk_at "o")) ⟨hl,h _ (S.setL hl _ ?_ U _)⟩;simp[Array.eraseIdxIfInBounds,List.eraseIdx_append_of_length_le]
theorem Sta.len{a:Addr}{xs:List Value}{Q:Value->Ac->Prop}(S:Sta W G env loc nw s)(m:(a,aA xs)∈nw)(hz:xs.length<=Au)(h:∀ t s',Sta W G env loc nw s'->Q (.int xs.length t) s'):Ad W.M A (call (.builtin "len") [.ref a]) Q E s:=by
 have q:=h (s.toks+1) _ (S.toks (s.toks+1+1));refine len_list (S.isList m) ?_ ?_
 ·rw[Av]at hz;simp;walk_at "o"
 ·simpa using q
theorem Sta.newList{vs:List Value}{Q:Value->Ac->Prop}{M:Model}(S:Sta W G env loc nw s)(hz:vs.length<=Au)(h:∀ a s',Sta W G env loc ((a,aA vs)::nw) s'->Q (.ref a) s'):Ad M A (newList vs) Q E s:=
 wpAny_newObj_type (h _ _ (S.new (c:=aA vs) rfl ⟨0,rfl⟩ s.toks)) (by show vs.toArray.size<=Au;rw[AN];exact hz)
theorem Sta.newTuple{vs:List Value}{Q:Value->Ac->Prop}{M:Model}(S:Sta W G env loc nw s)(hz:vs.length<=Au)(h:∀ a s',Sta W G env loc ((a,aJ vs)::nw) s'->Q (.ref a) s'):Ad M A (newTuple vs) Q E s:=
 wpAny_newObj_type (h _ _ (S.new (c:=aJ vs) rfl ⟨0,rfl⟩ s.toks)) (by show vs.toArray.size<=Au;rw[AN];exact hz)
noncomputable def cnt(vals:Loc):Nat:=(vals.filter λ p=>p.2.isSome).length
noncomputable def aS(vals:Loc):Cell:=λ o=>(vals.map Prod.fst).Nodup/\o.cls=.type "dict"/\∃ es ep,o.data=.dict es ep/\StrKeys es/\(∀ name,nsFind es name=lk vals name)/\es.size=cnt vals
noncomputable def bG(C d:Addr):Cell:=λ o=>o=instObj C d
theorem kO{name:Str}{o:Obj}{es ep}{r:Option Value}(hd:o.data=.dict es ep)(hk:StrKeys es)(hf:nsFind es name=r):lookIn name o=some r:=by
 unfold lookIn;rw[hd];dsimp only
 unfold nsFind findBy at hf;rw[←Array.find?_toList]at hf;cases q:es.toList.find? (λ e=>e.key.isStr name)with
 | some e=>rw [q]at hf;rw[←hf];rfl
 | none=>
  rw[q]at hf;rw[←hf];have:es.toList.any (·.refKey)=false:=by
   rw[List.any_eq_false];intro e he;obtain⟨n,t,h⟩:=hk e (Array.mem_toList_iff.mp he);simp[DictEntry.refKey,h]
  simp[this]
structure Cl (K:Frag) (C:Addr) (names:List Str):Prop where
 ga:findIn K (.ref C) "__getattribute__"=some (some (.builtin "object.__getattribute__"))
 gh:findIn K (.ref C) "__getattr__"=some none
 sa:findIn K (.ref C) "__setattr__"=some (some (.builtin "object.__setattr__"))
 plain:plainOver K C=true
 dict:hasDictIn K C=true
 own:∀ n∈names,findIn K (.ref C) n=some none
section
variable {C x d:Addr}{names:List Str}{vals vals':Loc}
theorem Sta.inst(S:Sta W G env loc nw s)(mx:(x,bG C d)∈nw)(md:(d,aS vals)∈nw):∃ od,InstAt s.heap x (instObj C d) C (some od)/\aS vals od:=by
 obtain⟨o,ho,rfl⟩:=S.get mx;obtain⟨od,hod,hc⟩:=S.get md;exact⟨od,⟨ho,rfl,rfl,hod⟩,hc⟩
theorem Sta.getattr{name:Str}{v:Value}{expr:Bool}{Q:Value->Ac->Prop}(S:Sta W G env loc nw s)(c:Cl W.K C names)(mx:(x,bG C d)∈nw)(md:(d,aS vals)∈nw)(hk:vals.map Prod.fst=names)(hv:(name,some v)∈vals)(hh:handedIn v=true)(h:∀ s',Sta W G env loc nw s'->Q v s'):Ad W.M A (getAttr (.ref x) name expr) Q E s:=by
 obtain⟨od,I,nd,_,q⟩:=S.inst mx md;obtain⟨es,ep,hd,hsk,hf,_⟩:=q;exact get_value S.kin I c.ga (findObj_own c.dict (c.own _ (by rw[←hk];exact Ah.mpr ⟨_,hv,rfl⟩)) rfl (kO hd hsk ((hf name).trans (iB nd hv)))) hh (h _ (S.toks _))
theorem Sta.getM_inst{name:Str}{f:Addr}{Q:Value×List Value->Ac->Prop}(S:Sta W G env loc nw s)(c:Cl W.K C names)(mx:(x,bG C d)∈nw)(md:(d,aS vals)∈nw)(hk:vals.map Prod.fst=names)(hn:name∉names)(hf:findIn W.K (.ref C) name=some (some (.ref f)))(ht:typeIn W.K (.ref f)=some (.type "function"))(h:Q (.ref f,[.ref x]) s):GetM W.M A E name (.ref x) Q s:=λ pl=>by
 obtain⟨od,I,nd,_,q⟩:=S.inst mx md;obtain⟨es,ep,hd,hsk,hl,_⟩:=q;have hno:lk vals name=none:=by
  unfold lk;rw[Bl.mpr]
  ·rfl
  ·intro p hp;rw[bne_iff_ne];exact λ e=>hn (by rw[←hk,e];exact Ah.mpr ⟨p,hp,rfl⟩)
 exact method_fn S.kin I c.ga c.gh hf ht (by show(lookIn name od).map _=_;rw[kO hd hsk ((hl name).trans hno)];rfl) h
theorem Put.cnt{y:Str}{v:Value}{l l':Loc}(h:Put y (some v) l l'):(l.map Prod.fst).Nodup->cnt l'=if(lk l y).isSome then cnt l else cnt l+1:=by
 induction h with
 | @head u r=>
  intro _
  delta Mine.cnt lk
  cases u<;>simp
 | @tail p r r' h ih=>
  intro nd;rw[Ak,AH]at nd;have ih:=ih nd.2;have hne:y≠p.1:=λ e=>nd.1 (e▸h.mem);have e1:lk (p::r) y=lk r y:=by unfold lk;rw[Bc,beq_eq_false_iff_ne.mpr hne]
  rw[e1];unfold Mine.cnt at ih ⊢;cases q:p.2.isSome<;>simp only[List.filter_cons,q,if_true,Bool.false_eq_true,if_false,A9]<;>rw[ih]<;>split<;>rfl
theorem pD{name:Str}{hsh:Int}{t:Tok}{v:Value}{o:Obj}(h:aS vals o)(P:Put name (some v) vals vals'):aS vals' (Obj.putName name hsh (.str name t) v o)/\(Obj.putName name hsh (.str name t) v o).isFreed=false/\∃ es ep,(Obj.putName name hsh (.str name t) v o).data=.dict es ep/\es.size<=vals.length:=by
 obtain⟨nd,hcl,q0⟩:=h;obtain⟨es,ep,hd,hk,hf,hz⟩:=q0;obtain⟨c,di,dt,sl⟩:=o;dsimp only at hd hcl;subst hd hcl;have cz:cnt vals'<=vals.length:=by
  have:vals'.length=vals.length:=by have:=congrArg AV P.keys;simpa using this
  exact(this)▸(List.length_filter_le _ _)
 have hc:=P.cnt nd;rw[Obj.putName_eq];unfold Obj.putNameByArray;dsimp only
 cases hi:es.findIdx? (·.key.isStr name)with
 | some i=>
  have hs:(lk vals name).isSome=true:=by
   rw[←hf];unfold nsFind;rw[findBy_of_findIdx?,hi];have:=Array.findIdx?_eq_some_iff_getElem.mp hi;obtain⟨hlt,_⟩:=this;simp[hlt]
  rw[if_pos hs]at hc;refine⟨⟨by rw[P.keys];exact nd,rfl,_,_,rfl,hk.modify _ _,λ y=>?_,by simp[hz,hc]⟩,rfl,_,_,rfl,by simp[hz,←hc];exact cz⟩;rw[P.look nd,←hf];exact findBy_modify (λ n v=>v.isStr n) Value.isStr_inj es name y v i hi
 | none=>
  have hs:(lk vals name).isSome=false:=by
   rw[←hf];unfold nsFind;rw[findBy_of_findIdx?,hi];rfl
  rw[if_neg (by rw[hs];decide)]at hc;refine⟨⟨by rw[P.keys];exact nd,rfl,_,_,rfl,hk.push _ _ _ _,λ y=>?_,by simp[hz,hc]⟩,rfl,_,_,rfl,by simp[hz,←hc];exact cz⟩;rw[P.look nd,←hf];exact findBy_push (λ n v=>v.isStr n) es name y _ _ v (λ y=>by
   show(name==y)=decide (y=name)
   by_cases h:y=name
   ·subst h;simp
   ·have:¬name=y:=λ e=>h e.symm;simp[h,this]) hi
theorem Sta.setattr{name:Str}{v:Value}{Q:Unit->Ac->Prop}(S:Sta W G env loc nw s)(c:Cl W.K C names)(mx:(x,bG C d)∈nw)(U:Upd d (aS vals) (aS vals') nw nw')(hk:vals.map Prod.fst=names)(P:Put name (some v) vals vals')(hz:names.length<=1000)(h:∀ s',Sta W G env loc nw' s'->Q () s'):Ad W.M A (setAttr (.ref x) name v) Q E s:=by
 obtain⟨od,I,ha⟩:=S.inst mx U.mem;have hn:findIn W.K (.ref C) name=some none:=c.own _ ((hk)▸(P.mem));have ht:takerIn W.K C name=some none:=by unfold takerIn;rw[hn];rfl
 refine set_plain S.kin I c.sa ?_;refine osa_open (s:={ s with toks:=s.toks+1 }) (S.toks (s.toks+1)).kin I c.plain ht λ b=>?_;obtain⟨cd,hc,hd'⟩:=any_some c.dict;obtain⟨hx,-,-,hdx⟩:=I;have hdx':s.heap.get? d=some od:=hdx;obtain⟨A1,A2,q0⟩:=pD (hsh:=PyData.keyHash W.w.params name) (t:=s.toks+1) ha P;obtain⟨es',ep',A3,A4⟩:=q0;obtain⟨nd,hcl,q0⟩:=ha;obtain⟨es,ep,hd,hsk,hf,hsz⟩:=q0;refine Aa (Af (Aa (Aa (wpAny_loadPart hx (Aa ((looks_clsIn (S.toks (s.toks+1)).kin hc).here ?_))))));rw[hd'];refine Af (a:=some d) (Aa (Af (Aa ?_)));refine Aa (Aa (wpAny_askSetting (Af (Aa (wpAny_mkText (Aa (wpAny_loadPart hdx' ?_)))))));rw[hd];dsimp only
 have hany:es.any (·.refKey)=false:=by
  rw[Array.any_eq_false'];intro e he;obtain⟨n,t,h⟩:=hsk e he;simp[DictEntry.refKey,h]
 rw[aRefKeyMayBeTheName_at,hany,Bool.and_false];refine wpAny_updatePart hdx' ?_;have D':=Heap.get?_update_self (Obj.putName name (PyData.keyHash W.w.params name) (.str name (s.toks+1)) v) hdx' A2;refine Aa (wpAny_lookBehind D' (by rw[A3];exact pastItsLine_dict (by rw[Av];have:vals.length=names.length:=(by rw[←hk];simp);walk_at "o")) ?_);exact Af (h _ (S.set U (λ b o hb e=>((Heap.SameBut.update s.heap d _).2 b hb).trans e) D' A1 _))
end
section
variable {prog:Program}{w:World}{A:AJ}{c:Code}{fs:List Frame}{P:End->Ac->Prop}{s:Ac}
theorem aBh{α:Type}{m:Sem α}{K:α->Sem Fin}{H:Value->Sem Fin}{gd lv}(h:Ad (model prog w) (A.over c fs) m (λ a s'=>SegX (model prog w) A c (K a) fs s' P) (λ x s'=>SegX (model prog w) A c (H x) fs s' P) s):SegX (model prog w) A c (m.wrap K H gd lv) fs s P:=by
 rintro Γ p rfl hΓ
 obtain⟨e,s',hr,hq⟩:=runs_wrap_of_wp (Φ:=λ e s'=>e.quiet=true/\P e s') K H gd lv m (h (Γ.over fs) p (hΓ.over fs)) (λ a p' s' h'=>h' Γ p' rfl hΓ) (λ x p' s' h'=>h' Γ p' rfl hΓ);exact⟨e,s',hr,hq⟩
theorem xV{α β:Type}(m:Sem α)(f:α->Sem β){K:β->Sem Fin}{H:Value->Sem Fin}{gd lv}:(m >>= f).wrap K H gd lv=m.wrap (λ a=>(f a).wrap K H gd lv) H gd lv:=by
 rw[Sem.bind_eq_wrap',Sem.wrap_wrap];rfl
theorem qH{α:Type}(m:Sem α)(h:Value->Sem Unit){K:α->Sem Fin}{H:Value->Sem Fin}{gd lv}:(m.onRaise h).wrap K H gd lv=m.wrap K (λ e=>((h e).bind λ _=>(.raise e:Sem α)).wrap K H gd lv) gd lv:=by
 rw[Sem.onRaise_eq_wrap,Sem.wrap_wrap];rfl
theorem fY{α β:Type}{m:Sem α}{f:α->Sem β}{K:β->Sem Fin}{H:Value->Sem Fin}{gd lv}(h:SegX (model prog w) A c (m.wrap (λ a=>(f a).wrap K H gd lv) H gd lv) fs s P):SegX (model prog w) A c ((m >>= f).wrap K H gd lv) fs s P:=by
 rw[xV];exact h
theorem bB{α β:Type}{m:Sem α}{f:α->Sem β}{K:β->Sem Fin}{H:Value->Sem Fin}{gd lv}(h:Ad (model prog w) (A.over c fs) m (λ a s'=>SegX (model prog w) A c ((f a).wrap K H gd lv) fs s' P) (λ x s'=>SegX (model prog w) A c (H x) fs s' P) s):SegX (model prog w) A c ((m >>= f).wrap K H gd lv) fs s P:=
 fY (aBh h)
theorem uK{α:Type}{m:Sem α}{h:Value->Sem Unit}{K:α->Sem Fin}{H:Value->Sem Fin}{gd lv}(x:SegX (model prog w) A c (m.wrap K (λ e=>((h e).bind λ _=>(.raise e:Sem α)).wrap K H gd lv) gd lv) fs s P):SegX (model prog w) A c ((m.onRaise h).wrap K H gd lv) fs s P:=by
 rw[qH];exact x
theorem uJ{t:Sem Fin}(h:SegX (model prog w) A c (t.wrap .pure .raise id id) fs s P):SegX (model prog w) A c t fs s P:=by
 have:∀ t:Sem Fin,t.wrap .pure .raise id id=t:=λ t=>by induction t<;>simp only[Sem.wrap,id, *]
 rw[this]at h;exact h
theorem sD{t:Sem Fin}{h:Value->Sem Unit}(x:SegX (model prog w) A c (t.wrap .pure (λ e=>(h e).bind λ _=>.raise e) id id) fs s P):SegX (model prog w) A c (t.onRaise h) fs s P:=by
 rw[Sem.onRaise_eq_wrap];exact x
theorem lP{id:String}{args:Args}{b:Builtin}(h:entryFor table id=some b):denote table (.builtin id args)=b args:=by
 show(match entryFor table id with | some b=>b args | none=>_)=_;rw[h]
end
theorem tS:entryFor table "proto.yield_from"=some Builtin.«proto.yield_from»:=entryFor_of_tree (by kernel_rfl)
theorem tH:typeLookup (.type "list_iterator") "close"=pure none:=by rw[typeLookup_type,AF];kernel_rfl
noncomputable abbrev cY(it:Addr):Code:=.builtin "proto.yield_from" ⟨[.ref it,.bool false,.none],[]⟩
section
variable {prog:Program}{w:World}{A:AJ}{fs:List Frame}{P:End->Ac->Prop}{s:Ac}
theorem aBa{it l:Addr}{i:Nat}{xs:Array Value}{v:Value}(hit:s.heap.IsListIter it l i)(hl:s.heap.IsList l xs)(hx:xs[i]?=some v)(hfs:splitAtGen fs=none)(hfg:fs.any Frame.guarded=false)(h:∀ k lv p h',h'.IsListIter it l (i+1)->Heap.SameBut it s.heap h'-> (∀ A' fs' s' P',s'.TypeIs (.ref it) "list_iterator"->SegX (model prog w) A' (cY it) (denote table (cY it)) fs' s' P'->SegX (model prog w) A' (cY it) (k (.send .none)) fs' s' P')-> P (.susp v false lv k (cY it) p fs) { s with heap:=h' }):SegX (model prog w) A (cY it) (denote table (cY it)) fs s P:=by
 rw[lP tS];refine uJ ?_;refine bB (Af ?_);obtain⟨o,ho,hc,hd⟩:=id hit;obtain⟨ol,hol,_,q0⟩:=hl;obtain⟨nl,hdl⟩:=q0;refine bB (Bz (AC ?_));refine Aa (wpAny_rule (Aa (wpAny_callSpecial?_slot (name:=Str.ofString "__next__") hit.typeIs slot_listiter_next
  (wpAny_call_entry slot_listiter_next hit.typeIs entry_listiter_next ?_ (args_listiter_next _)))))
 show Ad _ _ (field (.ref it) 0 >>= _) _ _ s;refine Aa (wpAny_field ho hd (x:=.ref l) rfl ?_);refine Aa (wpAny_field ho hd (x:=.int i 0) rfl ?_);refine Aa (wpAny_seqItems hol hdl ?_);simp only[BD,hx]
 refine Aa (wpAny_setField ho hd (AG _) (Af ⟨v,rfl,Af ?_⟩));have hs':=Heap.SameBut.update s.heap it (Obj.mapFields λ vs=>vs.setIfInBounds 1 (rawInt ((i:Int)+1)));have hit':(s.heap.update it (Obj.mapFields λ vs=>vs.setIfInBounds 1 (rawInt ((i:Int)+1)))).IsListIter it l (i+1):=
  ⟨_,Heap.get?_update_self _ ho (Obj.isFreed_of_fields (Obj.data_mapFields hd _)),(Obj.cls_mapFields ..).trans hc,by rw[Obj.data_mapFields hd];simp[rawInt]⟩
 generalize (s.heap.update it (Obj.mapFields λ vs=>vs.setIfInBounds 1 (rawInt ((i:Int)+1))))=h' at hs' hit' ⊢;have hT':({ s with heap:=h' }:Ac).TypeIs (.ref it) "list_iterator":=hit'.typeIs (s:={ s with heap:=h' });obtain⟨o',ho',hc',hd'⟩:=id hit';refine bB (wpAny_typeOf hT' ?_);refine bB (Bi tH ?_);refine bB (Af ?_);have slept:∀ b (s':Ac),s'.TypeIs (.ref it) "list_iterator"->∀(A':AJ) (Q:Unit->Ac->Prop) (E:Value->Ac->Prop),Q () s'->Ad (model prog w) A' (Builtin.Generator.sleptOver (.ref it) b) Q E s':=λ b s' hT A' Q E hq=>by
  obtain⟨o₁,ho₁,hc₁⟩:=hT;refine Aa (wpAny_load ho₁ ?_);exact(hc₁)▸(Af hq)
 refine bB (slept _ _ hT' _ _ _ ?_);refine s_yield _ _ _ _ _ _ _ _ _ _ hfs hfg λ p=>?_;refine h _ _ p h' hit' hs' λ A' fs' s' P' hT hseg=>?_;refine bB (Af ?_);refine bB (slept _ _ hT _ _ _ ?_);refine bB (Bi (a:=Value.none) rfl ?_);exact s_again _ _ _ _ _ _ _ _ (Code.quiet_builtin _ (by decide +kernel)) hseg
theorem aCP{it l:Addr}{i:Nat}{xs:Array Value}(hA:(A.over (cY it) fs).handled=none)(hit:s.heap.IsListIter it l i)(hl:s.heap.IsList l xs)(hx:xs[i]?=none)(h:∀ h',Heap.ExtBut it s.heap h'->SegX (model prog w) A (cY it) (leafOf (.ok (.ret .none))) fs { s with heap:=h' } P):SegX (model prog w) A (cY it) (denote table (cY it)) fs s P:=by
 rw[lP tS];refine uJ ?_;refine bB (Af ?_);obtain⟨o,ho,hc,hd⟩:=id hit;obtain⟨ol,q0⟩:=hl;obtain⟨hol,q0⟩:=q0;obtain⟨_,nl,hdl⟩:=q0;refine bB (Bz (AC ?_));refine Aa (wpAny_rule (Aa (wpAny_callSpecial?_slot (name:=Str.ofString "__next__") hit.typeIs slot_listiter_next
  (wpAny_call_entry slot_listiter_next hit.typeIs entry_listiter_next ?_ (args_listiter_next _)))))
 show Ad _ _ (field (.ref it) 0 >>= _) _ _ s;refine Aa (wpAny_field ho hd (x:=.ref l) rfl ?_);refine Aa (wpAny_field ho hd (x:=.int i 0) rfl ?_);refine Aa (wpAny_seqItems hol hdl ?_);simp only[BD,hx]
 refine Aa (wpAny_rule (Aa (wpAny_setField ho hd (by simp) ?_)));refine Aa ?_;refine Aa (wpAny_newObj_type ?_ (by size_fits));refine Aa (m:=firstArgMember _ _) (Bi (a:=Value.none) (by first | rfl | (simp only[firstArgMember];rfl)) ?_);refine wpAny_newObj_type ?_ (by size_fits);refine wpAny_raiseNew_none (A:=(A.over (cY it) fs).in1) hA ?_;have hs':=(((Heap.SameBut.update s.heap it (Obj.mapFields λ vs=>vs.setIfInBounds 0 Value.none)).extBut.push { cls:=.type "tuple",data:=.seq #[] }).push
  { cls:=.type "StopIteration",data:=.fields (#[.ref (s.heap.update it (Obj.mapFields λ vs=>vs.setIfInBounds 0 Value.none)).objs.size,.none,.none,.none,.bool false,.none]++ownMembersOf (.type "StopIteration") []) })
 have he:=Heap.get?_push_size ((s.heap.update it (Obj.mapFields λ vs=>vs.setIfInBounds 0 Value.none)).push { cls:=.type "tuple",data:=.seq #[] })
  (o:={ cls:=.type "StopIteration",data:=.fields (#[.ref (s.heap.update it (Obj.mapFields λ vs=>vs.setIfInBounds 0 Value.none)).objs.size,.none,.none,.none,.bool false,.none]++ownMembersOf (.type "StopIteration") []) }) rfl
 generalize (((s.heap.update it (Obj.mapFields λ vs=>vs.setIfInBounds 0 Value.none)).push { cls:=.type "tuple",data:=.seq #[] }).push
  { cls:=.type "StopIteration",data:=.fields (#[.ref (s.heap.update it (Obj.mapFields λ vs=>vs.setIfInBounds 0 Value.none)).objs.size,.none,.none,.none,.bool false,.none]++ownMembersOf (.type "StopIteration") []) })=h' at hs' he ⊢
 generalize ((s.heap.update it (Obj.mapFields λ vs=>vs.setIfInBounds 0 Value.none)).push { cls:=.type "tuple",data:=.seq #[] }).objs.size=e at he ⊢;have hT:({ s with heap:=h' }:Ac).TypeIs (.ref e) "StopIteration":=⟨_,he,rfl⟩
 refine bB ?_;refine Aa (Aa (wpAny_typeOf hT (Aa (Bi isSubtype_stop (Aa (Bi (a:=.type "type") (by kernel_rfl) (Af (Af ?_))))))));refine bB (wpAny_rule (bB (wpAny_field he rfl (x:=.none) (by kernel_rfl) ?_)));exact h _ hs'
end
structure Aok (k:Nat) (A:AJ):Prop where
 handled:A.handled=none
 depth:A.depth+k<Be
 units:A.units+8*k<cLine
theorem Aok.le{k j:Nat}{A:AJ}(h:Aok k A)(e:j<=k):Aok j A:=⟨h.handled,by have:=h.depth;walk_at "o",by have:=h.units;walk_at "o"⟩
theorem Aok.in1{k:Nat}{A:AJ}(h:Aok (k+1) A):Aok k A.in1:=⟨h.handled,by have:=h.depth;show A.depth+k<_;walk_at "o",by have:=h.units;show A.units+1+8*k<_;walk_at "o"⟩
theorem Aok.deeper{k:Nat}{A:AJ}{env:Env}(h:Aok (k+1) A):Aok k (A.deeper env):=⟨h.handled,by have:=h.depth;show A.depth+1+k<_;walk_at "o",by have:=h.units;show A.units+3+8*k<_;walk_at "o"⟩
theorem Aok.room{k:Nat}{A:AJ}(h:Aok k A):A.depth<Be:=by have:=h.depth;walk_at "o"
structure St0 (W:Wd) (G:Gens) (nw:Lg) (s:Ac):Prop where
 ok:W.Ok
 led:Led W.B nw s.heap
 bare:AllBare s.gens
 os:s.os=W.os
 gens:∀ p∈G,s.gens[p.1]?=some p.2
 gnd:(G.map Prod.fst).Nodup
noncomputable def Wake(W:Wd)(A:AJ)(gs:GenState)(s:Ac)(P:End->Ac->Prop):Prop:=match gs with
 | .fresh c=>SegX W.M A c (denote table c) [] s P
 | .suspended k _ c _ fs _=>SegX W.M A c (k (.send .none)) fs s P
 | _=>False
noncomputable def iD(W:Wd)(sh:Lg):List Value->GenState->Lg->Prop
 | [],gs,own=>∀ A R GR s,Aok 6 A->St0 W GR (R++(sh++own)) s->Wake W A gs s (λ e s'=>e=.ret (.ok (.ret .none))/\St0 W GR (R++sh) s')
 | v::vs,gs,own=>∀ A R GR s,Aok 6 A->St0 W GR (R++(sh++own)) s->Wake W A gs s (λ e s'=>∃ own',e.result=.yielded v/\St0 W GR (R++(sh++own')) s'/\iD W sh vs e.genState own')
noncomputable def cP(o:Obj):Bool:=match o.cls with
 | .type n=>!(["enumerate","zip","dict_itemiterator","dict_reverseitemiterator","odict_iterator","itertools.zip_longest","itertools.pairwise"].contains n)
 | _=>true
noncomputable def Typ(sh:Lg)(it:Addr)(own:Lg):Prop:=∃ c,(it,c)∈sh++own/\∀ o,c o->cP o=true
noncomputable def cN(W:Wd)(sh:Lg)(it:Addr):List Value->Lg->Gens->Prop
 | [],own,og=>Typ sh it own/\(∀ A R GR s (Q:Option Value->Ac->Prop) E,Aok 7 A->St0 W (GR++og) (R++(sh++own)) s->(∀ s',St0 W GR (R++sh) s'->Q none s')->Ad W.M A (pyNext (.ref it)) Q E s)
 | v::vs,own,og=>Typ sh it own/\(∀ A R GR s (Q:Option Value->Ac->Prop) E,Aok 7 A->St0 W (GR++og) (R++(sh++own)) s->(∀ own' og' s',St0 W (GR++og') (R++(sh++own')) s'->cN W sh it vs own' og'->Q (some v) s')->
   Ad W.M A (pyNext (.ref it)) Q E s)
noncomputable def cO(g:Nat):Cell:=λ o=>∃ nm qn,o={ cls:=.type "generator",data:=.fields #[.int g 0,nm,qn] }
noncomputable def bM(l:Addr)(i:Nat):Cell:=λ o=>o.cls=.type "list_iterator"/\o.data=.fields #[.ref l,.int i 0]
noncomputable def lA(l:Addr)(i:Int):Cell:=λ o=>o.cls=.type "list_reverseiterator"/\o.data=.fields #[.ref l,rawInt i]
theorem SegX.withQuiet{M:Model}{A:AJ}{c:Code}{t:Sem Fin}{fs:List Frame}{s:Ac}{P:End->Ac->Prop}(x:SegX M A c t fs s P):SegX M A c t fs s (λ e s'=>e.quiet=true/\P e s'):=λ Γ p hc hΓ=>by
 obtain⟨e,s',hr,hq,hp⟩:=x Γ p hc hΓ;exact⟨e,s',hr,hq,hq,hp⟩
theorem Wake.mono{W:Wd}{A:AJ}{gs:GenState}{s:Ac}{P P':End->Ac->Prop}(x:Wake W A gs s P)(h:∀ e s',e.quiet=true->P e s'->P' e s'):Wake W A gs s P':=by
 cases gs with
 | fresh c=>exact SegX.mono (SegX.withQuiet x) λ e s' q=>h e s' q.1 q.2
 | suspended k l c p fs cl=>exact SegX.mono (SegX.withQuiet x) λ e s' q=>h e s' q.1 q.2
 | running=>exact x.elim
 | finished=>exact x.elim
section
variable {W:Wd}{A:AJ}{E:Value->Ac->Prop}{s:Ac}
theorem sA{g:Nat}{gs:GenState}{l:List Value}{α:Type}{k:GenResult->Sem α}{Q:α->Ac->Prop}(hg:s.gens[g]?=some gs)(x:Wake W A gs (s.setGen g .running) (λ e s₁=>Ad W.M A (k e.result) Q E (s₁.setGen g e.genState))):Ad W.M A (.resume g (.send .none) l k) Q E s:=by
 intro Γ p hΓ;cases gs with
 | fresh c=>exact wake_any α W.prog W.w hg (.inl ⟨rfl,rfl,rfl,rfl⟩) (λ Γ=>Γ.In A) (λ _ h=>h) (SegX.mono x λ e s₁ h Γ p hC=>h Γ p hC) Γ p hΓ
 | suspended k₀ l₀ c₀ p₀ fs₀ cl=>exact wake_any α W.prog W.w hg (.inr ⟨k₀,l₀,p₀,cl,rfl,rfl⟩) (λ Γ=>Γ.In A) (λ _ h=>h) (SegX.mono x λ e s₁ h Γ p hC=>h Γ p hC) Γ p hΓ
 | running=>exact x.elim
 | finished=>exact x.elim
theorem sY{a:Addr}{g:Nat}{gs:GenState}{Q:Option Value->Ac->Prop}(hA:Aok 7 A)(hl:s.heap.NoLimit)(hg:s.heap.IsGen a g)(hgs:s.gens[g]?=some gs)(x:Wake W A.in1 gs (s.setGen g .running) (λ e s₁=>(e=.ret (.ok (.ret .none))/\∀ h',(∀ b o,s₁.heap.get? b=some o->h'.get? b=some o)->Q none { s₁.setGen g .finished with heap:=h' })\/(∃ v,e.result=.yielded v/\Q (some v) (s₁.setGen g e.genState)))):Ad W.M A (pyNext (.ref a)) Q E s:=by
 unfold pyNext;refine Aa (Bz (wpAny_callSpecial?_slot (name:=Str.ofString "__next__") hg.typeIs slot_gen_next
  (wpAny_call_entry slot_gen_next hg.typeIs entry_gen_next ?_ (args_gen_next _))))
 show Ad _ _ (Builtin.Generator.genWake (.ref a) (.send .none)) _ _ s;refine Aa (AC (wpAny_genNumber hg (Aa (wpAny_genState hgs ?_))));have hd:A.in1.depth<Be:=by have:=hA.depth;show A.depth<Be;walk_at "o"
 cases gs with
 | running=>exact x.elim
 | finished=>exact x.elim
 | _=>
  refine Aa (wpAny_roomToWake hl hd ?_);refine sA (W:=W) hgs (Wake.mono x λ e s₁ hq he=>?_);rcases he with⟨rfl,hQ⟩ | ⟨v,hv,hQ⟩
  ·show Ad _ _ (newExc (.type "StopIteration") [] >>= _) _ _ _;refine Aa ?_;refine Aa (wpAny_newObj_type ?_ (by size_fits));refine Aa (m:=firstArgMember _ _) (Bi (a:=Value.none) (by first | rfl | (simp only[firstArgMember];rfl)) ?_);refine wpAny_newObj_type ?_ (by size_fits);refine Aa (Aa (wpAny_handled ?_));rw[show A.in1.handled=none from hA.handled];refine wpAny_throw ?_;refine Aa (wpAny_isInstance (T:="StopIteration") (b:=true) ⟨_,Heap.get?_push_size _ rfl,rfl⟩ isSubtype_stop ?_);exact Af (hQ _ λ b o hb=>Heap.get?_push_of_some _ (Heap.get?_push_of_some _ hb))
  ·exact(hv)▸(Af ⟨v,rfl,Af hQ⟩)
theorem sL(s:Ac)(g:Nat)(x:GenState):(s.setGen g x).gens=s.gens.setIfInBounds g x:=rfl
theorem uB{gens:Array GenState}{g:Nat}{x:GenState}(h:AllBare gens)(hx:x.bare=true):AllBare (gens.setIfInBounds g x):=λ y hy=>by
 rcases Array.mem_or_eq_of_mem_setIfInBounds hy with h1 | h1
 ·exact h y h1
 ·rw[h1];exact hx
theorem pO{GR:Gens}{nw nw':Lg}{g:Nat}{gs:GenState}(S:St0 W (GR++[(g,gs)]) nw s)(D:Led W.B nw' s.heap):St0 W (GR++[(g,.running)]) nw' (s.setGen g .running):=by
 refine⟨S.ok,D,uB S.bare rfl,S.os,λ p hp=>?_,by have:=S.gnd;rw[Ao]at this ⊢;exact this⟩;rw[sL];rcases AW.mp hp with hp | hp
 ·have hne:p.1≠g:=λ e=>by
   have nd:=S.gnd;rw[Ao,Bq]at nd;exact nd.2.2 p.1 (List.mem_map_of_mem hp) g (by simp) e
  rw[Array.getElem?_setIfInBounds_ne (Ne.symm hne)];exact S.gens p (by simp[hp])
 ·have:p=(g,.running):=by simpa using hp
  subst this;have hlt:g<s.gens.size:=(Array.getElem?_eq_some_iff.mp (S.gens (g,gs) (by simp))).1;simp[hlt]
theorem pQ{GR:Gens}{nw nw':Lg}{g:Nat}{gs gs':GenState}{h':Heap}(S:St0 W (GR++[(g,gs)]) nw s)(D:Led W.B nw' h')(hb:gs'.bare=true):St0 W (GR++[(g,gs')]) nw' { s.setGen g gs' with heap:=h' }:=by
 have hgs:s.gens[g]?=some gs:=S.gens (g,gs) (by simp);refine⟨S.ok,D,uB S.bare hb,S.os,λ p hp=>?_,by have:=S.gnd;rw[Ao]at this ⊢;exact this⟩;show(s.gens.setIfInBounds g gs')[p.1]?=_;rcases AW.mp hp with hp | hp
 ·have hne:p.1≠g:=λ e=>by
   have nd:=S.gnd;rw[Ao,Bq]at nd;exact nd.2.2 p.1 (List.mem_map_of_mem hp) g (by simp) e
  rw[Array.getElem?_setIfInBounds_ne (Ne.symm hne)];exact S.gens p (by simp[hp])
 ·have:p=(g,gs'):=by simpa using hp
  subst this;have hlt:g<s.gens.size:=(Array.getElem?_eq_some_iff.mp hgs).1;simp[hlt]
theorem St0.fewer{G G':Gens}{nw:Lg}(S:St0 W (G++G') nw s):St0 W G nw s:=
 ⟨S.ok,S.led,S.bare,S.os,λ p hp=>S.gens p (by simp[hp]),by have:=S.gnd;rw[Ao]at this;exact(Bq.mp this).1⟩
theorem mO{sh:Lg}{a:Addr}{g:Nat}:∀{vs:List Value} {gs:GenState} {own:Lg},iD W sh vs gs own->cN W sh a vs (own++[(a,cO g)]) [(g,gs)]
 | [],gs,own,H=>⟨⟨cO g,by simp,λ o ⟨_,_,e⟩=>by subst e;unfold cP;show(!(["enumerate","zip","dict_itemiterator","dict_reverseitemiterator","odict_iterator","itertools.zip_longest","itertools.pairwise"].contains "generator"))=true;decide⟩,λ A R GR s Q E hA S hQ=>by
  have D:=S.led;obtain⟨o,ho,q0⟩:=D.get (a:=a) (c:=cO g) (by simp);obtain⟨nm,qn,rfl⟩:=q0;have hgs:s.gens[g]?=some gs:=S.gens (g,gs) (by simp);have D':Led W.B ((R++[(a,cO g)])++(sh++own)) s.heap:=D.perm (by
   rw[Ai];refine List.Perm.append_left _ ?_;rw[←Ai];exact AU)
  refine sY (W:=W) hA (S.ok.nolimit.keeps D.keep) ⟨_,nm,qn,ho,rfl,rfl,rfl⟩ hgs (Wake.mono (H A.in1 (R++[(a,cO g)]) _ (s.setGen g .running) hA.in1 (pO S D')) λ e s₁ hq he=>?_);obtain⟨he,S1⟩:=he;refine .inl ⟨he,λ h' hk=>hQ _ ?_⟩;exact(pQ S1 ((S1.led.grow hk).sub (List.Sublist.append (AO _ _) (List.Sublist.refl _))) rfl).fewer⟩
 | v::vs,gs,own,H=>⟨⟨cO g,by simp,λ o ⟨_,_,e⟩=>by subst e;unfold cP;show(!(["enumerate","zip","dict_itemiterator","dict_reverseitemiterator","odict_iterator","itertools.zip_longest","itertools.pairwise"].contains "generator"))=true;decide⟩,λ A R GR s Q E hA S hQ=>by
  have D:=S.led;obtain⟨o,ho,q0⟩:=D.get (a:=a) (c:=cO g) (by simp);obtain⟨nm,qn,rfl⟩:=q0;have hgs:s.gens[g]?=some gs:=S.gens (g,gs) (by simp);have D':Led W.B ((R++[(a,cO g)])++(sh++own)) s.heap:=D.perm (by
   rw[Ai];refine List.Perm.append_left _ ?_;rw[←Ai];exact AU)
  refine sY (W:=W) hA (S.ok.nolimit.keeps D.keep) ⟨_,nm,qn,ho,rfl,rfl,rfl⟩ hgs (Wake.mono (H A.in1 (R++[(a,cO g)]) _ (s.setGen g .running) hA.in1 (pO S D')) λ e s₁ hq he=>?_);obtain⟨own',he,S1,H'⟩:=he;have D2:Led W.B (R++(sh++(own'++[(a,cO g)]))) s₁.heap:=S1.led.perm (by
   rw[Ai];refine List.Perm.append_left _ ?_;rw[←Ai sh];exact AU)
  exact .inr ⟨v,he,hQ (own'++[(a,cO g)]) [(g,e.genState)] _ (pQ S1 D2 (End.bare_of_quiet hq)) (mO H')⟩⟩
end
noncomputable def LY(W:Wd)(sh:Lg)(it:Addr):List Value->Lg->Prop
 | [],own=>Typ sh it own/\∀ A R s (Q:Option Value->Ac->Prop) E,A.handled=none->Led W.B (R++(sh++own)) s.heap->(∀ h',Led W.B (R++sh) h'->Q none { s with heap:=h' })->Ad W.M A (pyNext (.ref it)) Q E s
 | v::vs,own=>Typ sh it own/\∀ A R s (Q:Option Value->Ac->Prop) E,A.handled=none->Led W.B (R++(sh++own)) s.heap->(∀ own' h',Led W.B (R++(sh++own')) h'->LY W sh it vs own'->Q (some v) { s with heap:=h' })->Ad W.M A (pyNext (.ref it)) Q E s
theorem LY.yields{W:Wd}{sh:Lg}{it:Addr}:∀{vs:List Value} {own:Lg},LY W sh it vs own->cN W sh it vs own []
 | [],own,H=>⟨H.1,λ A R GR s Q E hA S hQ=>H.2 A R s Q E hA.handled S.led λ h' D=>hQ _ ⟨S.ok,D,S.bare,S.os,λ p hp=>S.gens p (by simpa using hp),by have:=S.gnd;simpa using this⟩⟩
 | v::vs,own,H=>⟨H.1,λ A R GR s Q E hA S hQ=>H.2 A R s Q E hA.handled S.led λ own' h' D H'=>hQ own' [] _ ⟨S.ok,D,S.bare,S.os,S.gens,S.gnd⟩ H'.yields⟩
noncomputable def YdR(W:Wd)(sh:Lg)(it:Addr){α:Type}(P:α->Value->Prop):List α->Lg->Gens->Prop
 | [],own,og=>Typ sh it own/\(∀ A R GR s (Q:Option Value->Ac->Prop) E,Aok 7 A->St0 W (GR++og) (R++(sh++own)) s->(∀ s',St0 W GR (R++sh) s'->Q none s')->Ad W.M A (pyNext (.ref it)) Q E s)
 | x::xs,own,og=>Typ sh it own/\(∀ A R GR s (Q:Option Value->Ac->Prop) E,Aok 7 A->St0 W (GR++og) (R++(sh++own)) s->(∀ v own' og' s',P x v->St0 W (GR++og') (R++(sh++own')) s'->YdR W sh it P xs own' og'->Q (some v) s')->
   Ad W.M A (pyNext (.ref it)) Q E s)
theorem YdR.map{W:Wd}{sh:Lg}{it:Addr}{α β:Type}{P:α->Value->Prop}{P':β->Value->Prop}(f:α->β)(h:∀ x v,P x v->P' (f x) v):∀{xs:List α} {own:Lg} {og:Gens},YdR W sh it P xs own og->YdR W sh it P' (xs.map f) own og
 | [],_,_,H=>H
 | _::_,_,_,H=>⟨H.1,λ A R GR s Q E hA S hQ=>H.2 A R GR s Q E hA S λ v own' og' s' p S' H'=>hQ v own' og' s' (h _ _ p) S' (YdR.map f h H')⟩
theorem Led.isLst{B h:Heap}{nw:Lg}{a:Addr}{xs:List Value}(D:Led B nw h)(m:(a,aA xs)∈nw):h.IsList a xs.toArray:=by
 obtain⟨o,ho,q0⟩:=D.get m;obtain⟨n,rfl⟩:=q0;exact⟨_,ho,rfl,n,rfl⟩
theorem Led.back{B h h':Heap}{nw:Lg}{a:Addr}{c c':Cell}{post:Lg}(D:Led B (nw++((a,c)::post)) h)(hs:∀ b o,b≠a->h.get? b=some o->h'.get? b=some o){o:Obj}(ho:h'.get? a=some o)(hc:c' o):Led B (nw++((a,c')::post)) h':=by
 have D1:Led B ((a,c)::(nw++post)) h:=D.perm AM;exact(D1.set .head hs ho hc).perm AM.symm
theorem Led.dropBack{B h h':Heap}{nw:Lg}{a:Addr}{c:Cell}{post:Lg}(D:Led B (nw++((a,c)::post)) h)(hs:∀ b o,b≠a->h.get? b=some o->h'.get? b=some o):Led B (nw++post) h':=by
 have D1:Led B ((a,c)::(nw++post)) h:=D.perm AM;have hB:=(D1.own _ (.head _)).1;have nd:=D1.nodup;rw[Ak,AH]at nd;refine⟨λ b o e=>hs b o (λ q=>by rw[q]at e;rw[hB]at e;cases e) (D1.keep b o e),λ p hp=>?_,nd.2⟩;obtain⟨x,q0⟩:=D1.own p (.tail _ hp);obtain⟨o,ho,hc⟩:=q0;exact⟨x,o,hs _ _ (λ q=>nd.1 (Ah.mpr ⟨p,hp,q⟩)) ho,hc⟩
theorem dJ{W:Wd}{sh:Lg}{it l:Addr}{xs:List Value}{own₀:Lg}(m:(l,aA xs)∈sh++own₀):∀(vs:List Value) (i:Nat),xs.drop i=vs->LY W sh it vs ((it,bM l i)::own₀):=by
 intro l0
 induction l0 with
 | nil=>
  intro i e;exact⟨⟨bM l i,by simp,λ o h=>by unfold cP;rw[h.1];decide⟩,λ A R s Q E hA D hQ=>by
  have D0:Led W.B ((R++sh)++((it,bM l i)::own₀)) s.heap:=by rw[Ai];exact D
  obtain⟨o,ho,hcl,hda⟩:=D0.get (a:=it) (c:=bM l i) (by simp);have hl:=D0.isLst (a:=l) (xs:=xs) (by
   rcases AW.mp m with m | m
   ·simp[m]
   ·simp[m])
  refine wpAny_pyNext_list_end hA ⟨_,ho,hcl,hda⟩ hl (by simpa[List.drop_eq_nil_iff]using e) λ h' hx=>hQ h' ?_;exact(D0.dropBack λ b o hb e=>hx b o hb e).sub (AO _ _)⟩
 | cons v vs ih=>
  intro i e;exact⟨⟨bM l i,by simp,λ o h=>by unfold cP;rw[h.1];decide⟩,λ A R s Q E hA D hQ=>by
  have D0:Led W.B ((R++sh)++((it,bM l i)::own₀)) s.heap:=by rw[Ai];exact D
  obtain⟨o,ho,hcl,hda⟩:=D0.get (a:=it) (c:=bM l i) (by simp);have hl:=D0.isLst (a:=l) (xs:=xs) (by
   rcases AW.mp m with m | m
   ·simp[m]
   ·simp[m])
  have hx:xs[i]?=some v:=by
   have:=congrArg List.head? e;simpa[List.head?_drop]using this
  have e':xs.drop (i+1)=vs:=by
   have:=congrArg List.tail e;simpa[List.tail_drop]using this
  refine wpAny_pyNext_list_item ⟨_,ho,hcl,hda⟩ hl (by simpa using hx) λ h' hit hs=>?_;obtain⟨o',ho',hc',hd'⟩:=hit;have D1:=D0.back (c':=bM l (i+1)) (λ b o hb e=>(hs.2 b hb).trans e) ho' ⟨hc',hd'⟩;exact hQ ((it,bM l (i+1))::own₀) h' (by rw[←Ai];exact D1) (ih (i+1) e')⟩
theorem aAs{W:Wd}{sh:Lg}{it l:Addr}{xs:List Value}(m:(l,aA xs)∈sh):∀(n:Nat),n<=xs.length->LY W sh it (xs.take n).reverse [(it,lA l ((n:Int)-1))]
 | 0,_=>⟨⟨lA l (((0:Nat):Int)-1),Ag _ (.head _),λ o h=>by unfold cP;rw[h.1];decide⟩,λ A R s Q E hA D hQ=>by
  have D0:Led W.B ((R++sh)++[(it,lA l ((0:Nat)-1))]) s.heap:=by rw[Ai];exact D
  obtain⟨o,ho,hcl,hda⟩:=D0.get (a:=it) (c:=lA l ((0:Nat)-1)) (by simp);refine wpAny_pyNext_rev_end hA ⟨o,ho,hcl,hda⟩ λ h' hx=>hQ h' ?_;have:=D0.dropBack (h':=h') λ b o hb e=>hx b o hb e;simpa using this⟩
 | n+1,hn=>by
  have hlt:n<xs.length:=by walk_at "o"
  have e:(xs.take (n+1)).reverse=xs[n]::(xs.take n).reverse:=by
   rw[List.take_succ,List.getElem?_eq_getElem hlt];simp
  rw[e];refine⟨⟨lA l (((n+1:Nat):Int)-1),Ag _ (.head _),λ o h=>by unfold cP;rw[h.1];decide⟩,?_⟩;intro A R s Q E hA D hQ;have D0:Led W.B ((R++sh)++[(it,lA l ((n+1:Nat)-1))]) s.heap:=by rw[Ai];exact D
  obtain⟨o,ho,hcl,hda⟩:=D0.get (a:=it) (c:=lA l ((n+1:Nat)-1)) (by simp);have hl:=D0.isLst (a:=l) (xs:=xs) (by simp[m]);have e1:((n+1:Nat):Int)-1=(n:Int):=by walk_at "o"
  rw[e1]at hda;refine wpAny_pyNext_rev_item ⟨o,ho,hcl,hda⟩ hl (x:=xs[n]) (by simp[hlt]) λ h' hit hs=>?_;obtain⟨o',ho',hc',hd'⟩:=hit;have D1:=D0.back (c':=lA l ((n:Int)-1)) (λ b o hb e=>(hs.2 b hb).trans e) ho' ⟨hc',hd'⟩;exact hQ [(it,lA l ((n:Int)-1))] h' (by rw[←Ai];exact D1) (aAs m n (by walk_at "o"))
noncomputable def oW(W:Wd)(sh R:Lg)(GR:Gens)(vs:List Value)(e:End)(s':Ac):Prop:=match vs with
 | []=>e=.ret (.ok (.ret .none))/\St0 W GR (R++sh) s'
 | v::vs=>∃ own',e.result=.yielded v/\St0 W GR (R++(sh++own')) s'/\iD W sh vs e.genState own'
theorem goodGen_iff{W:Wd}{sh:Lg}{vs:List Value}{gs:GenState}{own:Lg}:iD W sh vs gs own↔∀ A R GR s,Aok 6 A->St0 W GR (R++(sh++own)) s->Wake W A gs s (oW W sh R GR vs):=by
 cases vs<;>exact Iff.rfl
structure FrOk (W:Wd) (fr:Frame):Prop where
 split:splitAtGen [fr]=none
 guarded:fr.guarded=false
 marks:∀ x,fr.marks x=x
 weight:fr.where_.1.weight<=1
 units:fr.where_.1.cUnits<=3
 back:∀ A c s P,P (.ret (.ok (.ret .none))) s->SegX W.M A c (leafOf (.ok .next)) [fr] s P
theorem Sta.st0{W:Wd}{G:Gens}{nw pre post:Lg}{s:Ac}{env:Env}{loc:Loc}(S:Sta W G env loc (pre++post) s)(e:nw=pre++((env.locals,aI loc)::post)):St0 W G nw s:=by
 subst e;exact⟨S.ok,S.led.perm AM.symm,S.bare,S.os,S.gens,S.gnd⟩
section
variable {W:Wd}{sh:Lg}{env:Env}{nm:Str}{p1 p5 p6 p7 p8 p9:Pos}{rit:Addr}{ks:List Str}
noncomputable abbrev aAx(nm:Str)(p5 p6 p7 p8 p9:Pos):List Stmt:=[.If (.Name nm p5) [.Expr (.YieldFrom (.Name nm p6) p7) p8] [] p9]
noncomputable abbrev iY(env:Env)(nm:Str)(p1 p5 p6 p7 p8 p9:Pos)(rit:Addr):Code:=.forLoop (.Name nm p1) (.ref rit) (aAx nm p5 p6 p7 p8 p9) [] env
theorem aCD{k:Nat}{A:AJ}{c':Code}{fr:Frame}(hA:Aok (k+2) A)(hf:FrOk W fr)(hw:c'.weight=0)(hu:c'.cUnits<=1):Aok k (A.over c' [fr]):=by
 refine⟨?_,?_,?_⟩
 ·show(marksOver [fr] (A.handled,A.handled)).1=none;simp only[marksOver,List.foldr,hf.marks];exact hA.handled
 ·have:=hA.depth;have:=hf.weight;show A.depth+frameCount ([fr].map Frame.where_)+c'.weight+k<Be;simp only[Ak,AD,frameCount,List.sum_cons,List.sum_nil,hw];walk_at "o"
 ·have:=hA.units;have:=hf.units;show A.units+unitsOf ([fr].map Frame.where_)+c'.cUnits+8*k<cLine;simp only[Ak,AD,unitsOf,List.sum_cons,List.sum_nil];walk_at "o"
theorem nY{l it:Addr}{xs:List Value}{fr fr2:Frame}(hf:FrOk W fr)(h2:splitAtGen [fr2,fr]=none)(g2:[fr2,fr].any Frame.guarded=false)(hov:∀ A,Aok 6 A->(A.over (cY it) [fr2,fr]).handled=none)(m:(l,aA xs)∈sh)(own₀:Lg)(ws:List Value)(rest:∀ A R GR s,Aok 6 A->St0 W GR (R++(sh++own₀)) s->SegX W.M A (cY it) (leafOf (.ok (.ret .none))) [fr2,fr] s (oW W sh R GR ws)):∀(vs:List Value) (i:Nat),xs.drop i=vs->∀ A R GR s,Aok 6 A->St0 W GR (R++(sh++((it,bM l i)::own₀))) s->
   SegX W.M A (cY it) (denote table (cY it)) [fr2,fr] s (oW W sh R GR (vs++ws))
 | [],i,e=>λ A R GR s hA S=>by
  have D0:Led W.B ((R++sh)++((it,bM l i)::own₀)) s.heap:=by rw[Ai];exact S.led
  obtain⟨o,ho,hcl,hda⟩:=D0.get (a:=it) (c:=bM l i) (by simp);have hl:=D0.isLst (a:=l) (xs:=xs) (by simp[m]);refine aCP (hov A hA) ⟨o,ho,hcl,hda⟩ hl (by simpa[List.drop_eq_nil_iff]using e) λ h' hx=>?_;have D1:=D0.dropBack (h':=h') λ b o hb e=>hx b o hb e;exact rest A R GR { s with heap:=h' } hA ⟨S.ok,by rw[←Ai];exact D1,S.bare,S.os,S.gens,S.gnd⟩
 | v::vs,i,e=>λ A R GR s hA S=>by
  have D0:Led W.B ((R++sh)++((it,bM l i)::own₀)) s.heap:=by rw[Ai];exact S.led
  obtain⟨o,ho,hcl,hda⟩:=D0.get (a:=it) (c:=bM l i) (by simp);have hl:=D0.isLst (a:=l) (xs:=xs) (by simp[m]);have hx:xs[i]?=some v:=by
   have:=congrArg List.head? e;simpa[List.head?_drop]using this
  have e':xs.drop (i+1)=vs:=by
   have:=congrArg List.tail e;simpa[List.tail_drop]using this
  refine aBa ⟨o,ho,hcl,hda⟩ hl (by simpa using hx) h2 g2 λ k lv p h' hit hs hk=>?_;obtain⟨o',ho',hc',hd'⟩:=hit;have D1:=D0.back (c':=bM l (i+1)) (λ b o hb e=>(hs.2 b hb).trans e) ho' ⟨hc',hd'⟩;refine⟨(it,bM l (i+1))::own₀,rfl,⟨S.ok,by rw[←Ai];exact D1,S.bare,S.os,S.gens,S.gnd⟩,goodGen_iff.mpr λ A' R' GR' s' hA' S'=>?_⟩;have D2:Led W.B ((R'++sh)++((it,bM l (i+1))::own₀)) s'.heap:=by rw[Ai];exact S'.led
  obtain⟨o2,ho2,hcl2,hda2⟩:=D2.get (a:=it) (c:=bM l (i+1)) (by simp);exact hk A' _ s' _ ⟨o2,ho2,hcl2⟩ (nY hf h2 g2 hov m own₀ ws rest vs (i+1) e' A' R' GR' s' hA' S')
theorem nG{x:Str}{v:Option Value}:∀{l:Loc},x∈l.map Prod.fst->∃ l',Put x v l l'
 | p::l,h=>by
  rcases At.mp h with e | h
  ·obtain⟨k,u⟩:=p;dsimp only at e;subst e;exact⟨_,.head⟩
  ·obtain⟨l',h'⟩:=nG (v:=v) h;exact⟨_,.tail h'⟩
theorem Put.mem'{x:Str}{v:Option Value}{l l':Loc}(h:Put x v l l'):(x,v)∈l':=by
 induction h with
 | head=>exact .head _
 | tail h ih=>exact .tail _ ih
theorem Sta.truthyL{G:Gens}{loc:Loc}{nw:Lg}{s:Ac}{A:AJ}{E:Value->Ac->Prop}{a:Addr}{xs:List Value}{Q:Bool->Ac->Prop}(S:Sta W G env loc nw s)(m:(a,aA xs)∈nw)(hz:xs.length<=Au)(h:∀ s',Sta W G env loc nw s'->Q (!xs.isEmpty) s'):Ad W.M A (truthy (.ref a)) Q E s:=by
 refine wpAny_truthy_list (S.isList m) ?_ ?_
 ·rw[Av]at hz;simp;walk_at "o"
 ·have:=h _ (S.toks (s.toks+1+1));simpa using this
theorem Sta.iterL{G:Gens}{loc:Loc}{nw:Lg}{s:Ac}{A:AJ}{E:Value->Ac->Prop}{a:Addr}{xs:List Value}{Q:Value->Ac->Prop}(S:Sta W G env loc nw s)(m:(a,aA xs)∈nw)(h:∀ it s',Sta W G env loc ((it,bM a 0)::nw) s'->Q (.ref it) s'):Ad W.M A (pyIter (.ref a)) Q E s:=
 wpAny_pyIter_list (S.isList m) (h _ _ (S.new (c:=bM a 0) rfl ⟨rfl,rfl⟩ s.toks))
theorem vS{fr:Frame}(hf:FrOk W fr)(hi:interactive env=false)(hnm:nm∈ks):∀(ls:List (Addr×List Value)),(∀ p∈ls,(p.1,aA p.2)∈sh/\p.2.length<=Au)->∀(ownO:Lg) (loc:Loc) A R GR s,Aok 6 A->loc.map Prod.fst=ks->EvO env ks->
   St0 W GR (R++(sh++((env.locals,aI loc)::ownO))) s->LY W sh rit (ls.map λ p=>.ref p.1) ownO->
   SegX W.M A (iY env nm p1 p5 p6 p7 p8 p9 rit) (denote table (iY env nm p1 p5 p6 p7 p8 p9 rit)) [fr] s (oW W sh R GR (ls.flatMap (·.2))):=by
 intro l0
 induction l0 with
 | nil=>
  intro _ ownO loc A R GR s hA hk he S hy;refine sD ?_;refine bB (AP ?_);have hA':Aok 4 (A.over (iY env nm p1 p5 p6 p7 p8 p9 rit) [fr]):=aCD hA hf rfl (AB _);have D:Led W.B ((R++[(env.locals,aI loc)])++(sh++ownO)) s.heap:=S.led.perm (by
   rw[Ai];refine List.Perm.append_left _ ?_;exact AM)
  refine bB (wpAny_onRaise (hy.2 _ _ s _ _ hA'.handled D λ h' D'=>?_));refine s_again _ _ _ _ _ _ _ _ rfl ?_;refine hf.back _ _ _ _ ⟨rfl,S.ok,?_,S.bare,S.os,S.gens,S.gnd⟩;exact D'.sub (List.Sublist.append (AO _ _) (List.Sublist.refl _))
 | cons p0 ls ih=>
  obtain⟨l,xs⟩:=p0;intro hls ownO loc A R GR s hA hk he S hy;have hm:(l,aA xs)∈sh:=(hls (l,xs) (.head _)).1;have hz:xs.length<=Au:=(hls (l,xs) (.head _)).2;have hls':∀ p∈ls,(p.1,aA p.2)∈sh/\p.2.length<=Au:=λ p hp=>hls p (.tail _ hp);refine sD ?_;refine bB (AP ?_);have hA':Aok 4 (A.over (iY env nm p1 p5 p6 p7 p8 p9 rit) [fr]):=aCD hA hf rfl (AB _);have D:Led W.B ((R++[(env.locals,aI loc)])++(sh++ownO)) s.heap:=S.led.perm (by
   rw[Ai];refine List.Perm.append_left _ ?_;exact AM)
  refine bB (wpAny_onRaise (hy.2 _ _ s _ _ hA'.handled D λ ownO' h' D' hy'=>?_));refine bB (Bi (a:=()) rfl ?_);have S1:Sta W GR env loc (R++(sh++ownO')) { s with heap:=h' }:=by
   refine⟨S.ok,by rw[hk];exact he,D'.perm ?_,S.bare,S.os,S.gens,S.gnd⟩;rw[Ai];exact AM
  obtain⟨loc',hput⟩:=nG (v:=some (.ref l)) (l:=loc) (x:=nm) (by rw[hk];exact hnm);have hk':loc'.map Prod.fst=ks:=by rw[hput.keys];exact hk
  refine bB (wpAny_assign_Name (S1.store hput λ s2 S2=>?_));rw[execs_cons];refine fY (fY ?_);refine bB (AP ?_);refine bB (wpAny_isTrue_value (S2.local_ hput.mem' (S2.truthyL (by simp[hm]) hz λ s3 S3=>?_)));have back:∀ A R GR s,Aok 6 A->St0 W GR (R++(sh++((env.locals,aI loc')::ownO'))) s->
    SegX W.M A (iY env nm p1 p5 p6 p7 p8 p9 rit) (.pure (.again (iY env nm p1 p5 p6 p7 p8 p9 rit))) [fr] s (oW W sh R GR (ls.flatMap (·.2))):=λ A R GR s hA S=>
   s_again _ _ _ _ _ _ _ _ rfl (ih hls' ownO' loc' A R GR s hA hk' he S hy')
  cases xs with
  | nil=>
   refine back A R GR s3 hA (Sta.st0 (pre:=R++sh) (post:=ownO') (loc:=loc') (env:=env) ?_ (by simp));rw[Ai];exact S3
  | cons v vs=>
   rw[if_pos (show(!(v::vs).isEmpty)=true from rfl),execs_cons];refine fY ?_;rw[exec_Expr env _ _ hi rfl];refine bB (AP (fY ?_));refine bB (S3.local_ hput.mem' (bB (AP ?_)));have hT:s3.TypeIs (.ref l) "list":=(S3.isList (a:=l) (xs:=v::vs) (by simp[hm])).typeIs;refine bB (wpAny_typeOf hT ?_);refine bB (AC (S3.iterL (xs:=v::vs) (by simp[hm]) λ it s4 S4=>?_));refine s_call W.prog W.w A _ [fr] _ s4 (cY it) none false [] _ λ p=>?_;refine nY (xs:=v::vs) (l:=l) hf ?kk2 ?kg2 ?khov hm ((env.locals,aI loc')::ownO') (ls.flatMap (·.2)) ?krest (v::vs) 0 rfl A R GR s4 hA ?kst
   ·simp only[splitAtGen,hf.split,Option.map_none]
   ·show(false||(fr.guarded||false))=false;rw[hf.guarded];rfl
   ·intro A hA;show(marksOver _ (A.handled,A.handled)).1=none;simp only[marksOver,List.foldr_cons,List.foldr_nil]
    rw[hf.marks];exact hA.handled
   ·intro A R GR s hA S;exact s_pop _ _ _ _ _ _ _ _ _ rfl _ _ _ _ _ _ _ (back A R GR s hA S)
   ·refine⟨S4.ok,S4.led.perm ?_,S4.bare,S4.os,S4.gens,S.gnd⟩;refine(List.Perm.swap _ _ _).trans ?_;rw[←Ai R sh,←Ai R sh];exact List.Perm.trans (List.Perm.cons _ AM.symm) AM.symm
end
section
variable {W:Wd}{sh:Lg}{env:Env}{nm rv sk:Str}{p1 p2 p3 p4 p5 p6 p7 p8 p9 p10:Pos}{ks:List Str}
noncomputable abbrev rN(nm rv sk:Str)(p1 p2 p3 p4 p5 p6 p7 p8 p9 p10:Pos):List Stmt:=[.For (.Name nm p1) (.Call (.Name rv p2) [.Name sk p3] [] p4) (aAx nm p5 p6 p7 p8 p9) [] p10]
theorem yU(hi:interactive env=false)(hnm:nm∈ks)(loc:Loc)(hk:loc.map Prod.fst=ks)(he:EvO env ks)(ls:List (Addr×List Value))(hls:∀ p∈ls,(p.1,aA p.2)∈sh/\p.2.length<=Au)(hrev:∀ A R GR s,Aok 4 A->Sta W GR env loc (R++sh) s->∀ Q E,(∀ rit own s',Sta W GR env loc (R++(sh++own)) s'->LY W sh rit (ls.map λ p=>.ref p.1) own->Q (.ref rit) s')->Ad W.M A (eval (.Call (.Name rv p2) [.Name sk p3] [] p4) env) (λ x s₁=>Ad W.M A (pyIter x) Q E s₁) E s):iD W sh (ls.flatMap (·.2)) (.fresh (.func (rN nm rv sk p1 p2 p3 p4 p5 p6 p7 p8 p9 p10) env)) [(env.locals,aI loc)]:=by
 refine goodGen_iff.mpr λ A R GR s hA S=>?_;show SegX _ A _ (denote table (.func (rN nm rv sk p1 p2 p3 p4 p5 p6 p7 p8 p9 p10) env)) [] s _;refine uJ ?_;refine bB (wpAny_point ?_);refine fY (uK ?_);refine fY ?_;have hA':Aok 4 (A.over (.func (rN nm rv sk p1 p2 p3 p4 p5 p6 p7 p8 p9 p10) env) []):=⟨hA.handled,by
   have:=hA.depth;show A.depth+0+1+4<_;walk_at "o",by
   have:=hA.units;show A.units+0+3+8*4<_;walk_at "o"⟩
 have S1:Sta W GR env loc (R++sh) s:=⟨S.ok,by rw[hk];exact he,S.led.perm (by rw[←Ai];exact AU),S.bare,S.os,S.gens,S.gnd⟩
 refine bB (AP ?_);have main:=hrev _ R GR s hA' S1;refine bB (As (main (λ x s₁=>∃ rit own,x=.ref rit/\Sta W GR env loc (R++(sh++own)) s₁/\LY W sh rit (ls.map λ p=>.ref p.1) own) (λ _ _=>False) λ rit own s' S' hy=>⟨rit,own,rfl,S',hy⟩) (λ x s₁ h₁=>?_) λ _ _ h=>h.elim);refine bB (Bi (a:=x) rfl ?_);refine bB (AP ?_);refine bB (AC (As h₁ (λ y s₂ h₂=>?_) λ _ _ h=>h.elim));obtain⟨rit,own,rfl,S2,hy⟩:=h₂;refine s_call W.prog W.w A _ [] _ s₂ (iY env nm p1 p5 p6 p7 p8 p9 rit) none false [] _ λ p=>?_;refine vS ?hf hi hnm ls hls own loc A R GR s₂ hA hk he ⟨S2.ok,S2.led.perm ?_,S2.bare,S2.os,S2.gens,S.gnd⟩ hy
 ·refine⟨rfl,rfl,λ x=>rfl,AG _,AG _,λ A c s P hP=>?_⟩;refine s_pop _ _ _ _ _ _ _ _ _ rfl _ _ _ _ _ _ _ ?_;exact s_end _ _ _ _ _ _ _ _ rfl hP
 ·rw[←Ai R sh,←Ai R sh];exact AM.symm
end
structure Fn (K:Frag) (f:Addr) (st:Stmt) (qual:Str) (dV kV cdv:Value):Prop where
 at_:∃ name doc pm ct oc an od osl,K.lookup f=some ⟨oc,od,.func (fnOf name qual (dP st) (aH st) (aD st) dV kV doc pm an cdv ct),osl⟩
 code:codeIn K cdv qual=true
noncomputable def lS(s:Ac)(st:Stmt)(qual:Str)(dV kV cdv:Value)(args:Args)(binds:List (Str×Value)):Prop:=
 ∀ name doc pm ct an,BindsTo s (fnOf name qual (dP st) (aH st) (aD st) dV kV doc pm an cdv ct) args binds
noncomputable def nR(sc:Scope)(ks:List Str):Bool:=sc.kind==.function&&!sc.isCoroutine&&sc.isGenerator&&(sc.names.all λ x=>x.2 != .cell)&&(ks.all λ x=>sc.names.lookup x==some .local&&!(x==("__debug__":Str)))&&decide ks.Nodup
theorem rL{sc:Scope}{ks:List Str}(hk:nR sc ks=true){P:Prop}(k:sc.kind=.function->sc.isCoroutine=false->sc.isGenerator=true->(∀ x∈sc.names,x.2≠.cell)->(∀ x∈ks,sc.names.lookup x=some .local/\(x==("__debug__":Str))=false)->ks.Nodup->P):P:=by
 simp only[nR,AK,beq_iff_eq,Bw,Bv,bne_iff_ne,decide_eq_true_eq]at hk;exact k hk.1.1.1.1.1 hk.1.1.1.1.2 hk.1.1.1.2 hk.1.1.2 hk.1.2 hk.2
theorem vF{A B C D F G H I:Type}{X:A->B->C->D->F->G->H->I->Prop}{P:Prop}(h:∃ a b c d f g e i,X a b c d f g e i)(k:∀ a b c d f g e i,X a b c d f g e i->P):P:=by
 obtain⟨a,b,c,d,f,g,e,i,h⟩:=h;exact k _ _ _ _ _ _ _ _ h
theorem Sta.call_fn{Q:Value->Ac->Prop}{f:Addr}{qual:Str}{st:Stmt}{dV kV cdv:Value}{pos:List Value}{kw:List (Str×Value)}{binds:List (Str×Value)}(rest:List Str)(S:Sta W G env loc nw s)(hf:Fn W.K f st qual dV kV cdv)(hroom:A.depth<Be)(hbind:lS s st qual dV kV cdv ⟨pos,kw⟩ binds)(hk:dL (aD st) (binds.map Prod.fst++rest)=true)(h:∀ L s',Sta W G (envOf qual (aD st) L f cdv) (aT binds rest) ((env.locals,aI loc)::nw) s'->
   Ad W.M (A.deeper (envOf qual (aD st) L f cdv)) (execs (aH st) (envOf qual (aD st) L f cdv)) (λ fl s''=>Q (match fl with | .ret v=>v | _=>.none) s'') (λ _ _=>False) s'):Ad W.M A (call (.ref f) pos kw) Q E s:=by
 refine vF hf.at_ ?_;intro name doc pm ct oc an od osl ho;exact S.call_def (args:=⟨pos,kw⟩) rest hroom ho hf.code (hbind _ _ _ _ _) hk h
theorem Sta.code_fn{R:Result->Ac->Prop}{f:Addr}{qual:Str}{st:Stmt}{dV kV cdv:Value}{pos:List Value}{kw:List (Str×Value)}{binds:List (Str×Value)}(rest:List Str)(S:Sta W G env loc nw s)(hf:Fn W.K f st qual dV kV cdv)(hroom:A.depth<Be)(hbind:lS s st qual dV kV cdv ⟨pos,kw⟩ binds)(hk:dL (aD st) (binds.map Prod.fst++rest)=true)(h:∀ L s',Sta W G (envOf qual (aD st) L f cdv) (aT binds rest) ((env.locals,aI loc)::nw) s'->
   Ad W.M (A.deeper (envOf qual (aD st) L f cdv)) (execs (aH st) (envOf qual (aD st) L f cdv)) (λ fl s''=>R (.ok (.ret (match fl with | .ret v=>v | _=>.none))) s'') (λ _ _=>False) s'):codeAny W.M A (.call (.ref f) ⟨pos,kw⟩) R s:=by
 refine vF hf.at_ ?_;intro name doc pm ct oc an od osl ho;exact S.code_def (args:=⟨pos,kw⟩) rest hroom ho hf.code (hbind _ _ _ _ _) hk h
theorem Sta.call_gen{Q:Value->Ac->Prop}{f:Addr}{qual:Str}{st:Stmt}{dV kV cdv:Value}{pos:List Value}{kw:List (Str×Value)}{binds:List (Str×Value)}(rest:List Str)(S:Sta W G env loc nw s)(hf:Fn W.K f st qual dV kV cdv)(hroom:A.depth<Be)(hbind:lS s st qual dV kV cdv ⟨pos,kw⟩ binds)(hk:nR (aD st) (binds.map Prod.fst++rest)=true)(h:∀ a g L s',EvO (envOf qual (aD st) L f cdv) (binds.map Prod.fst++rest)-> Sta W (G++[(g,.fresh (.func (aH st) (envOf qual (aD st) L f cdv)))]) env loc ((a,cO g)::(L,aI (aT binds rest))::nw) s'->Q (.ref a) s'):Ad W.M A (call (.ref f) pos kw) Q E s:=by
 refine vF hf.at_ ?_;intro name doc pm ct oc an od osl ho;refine rL hk ?_;clear hk;intro hkind hco hgen hcell hks hnd;have hks2:((aT binds rest).map Prod.fst)=binds.map Prod.fst++rest:=by
  simp[aT,AZ,Function.comp_def]
 refine wpAny_call (codeAny_call_generator (fd:=fnOf name qual (dP st) (aH st) (aD st) dV kV doc pm an cdv ct) (body:=aH st) hroom (S.kin _ _ ho) rfl hco hgen rfl (codeRec_of S.kin hf.code) (hbind _ _ _ _ _ _ _ _ _ ?_));refine wpAny_newFunctionEnv hcell (λ x hx=>(hks x.1 (Am _ (Ah.mpr ⟨x,hx,rfl⟩))).1) (λ h₁ hns hsb=>?_) hkind;have hkp:∀ b o,s.heap.get? b=some o->h₁.get? b=some o:=λ b o e=>hsb.extBut b o (Bx (Heap.lt_size e)) (Heap.get?_push_of_some _ e);refine⟨S.nolimit.keeps hkp,?_⟩;have D:Led W.B ((s.heap.objs.size,aI (aT binds rest))::(env.locals,aI loc)::nw) h₁:=by
  obtain⟨o,es,ep,ho',hd,hsk,hf⟩:=hns;refine S.led.cons_new hkp S.led.size_ne S.led.size_new ho' ⟨by rw[hks2];exact hnd,es,ep,hd,hsk,λ x=>?_⟩;rw[hf x,eV _ _ (hnd.sublist (AO _ _))]
 refine h h₁.objs.size s.gens.size s.heap.objs.size _ ⟨hkind,rfl,rfl,λ x hx=>(hks x hx).1,λ x hx=>(hks x hx).2,hnd⟩ ⟨S.ok,S.eok,?_,?_,S.os,?_,?_⟩
 case refine_4=>
  rw[Ao,Bq];refine⟨S.gnd,by simp,λ a ha b hb e=>?_⟩;have:b=s.gens.size:=by simpa using hb
  subst this;obtain⟨p,hp,q⟩:=Ah.mp ha;have:=(Array.getElem?_eq_some_iff.mp (S.gens p hp)).1;rw[q,e]at this;exact BE _ this
 ·refine((D.new (c:=cO s.gens.size) (o:={ cls:=.type "generator",data:=.fields #[.int s.gens.size 0,.str name (s.toks+binds.length),.str qual (s.toks+binds.length+1)] }) rfl ⟨_,_,rfl⟩).perm ?_);exact(List.Perm.cons _ (List.Perm.swap ..)).trans (List.Perm.swap ..)
 ·exact S.bare.push rfl
 ·intro p hp;show(s.gens.push _)[p.1]?=_;rcases AW.mp hp with hp | hp
  ·have hlt:=(Array.getElem?_eq_some_iff.mp (S.gens p hp)).1;rw[Array.getElem?_push_lt hlt];have:=S.gens p hp;rw[Array.getElem?_eq_getElem hlt]at this;exact this
  ·have:p=(s.gens.size,.fresh (.func (aH st) (envOf qual (aD st) s.heap.objs.size f cdv))):=by simpa using hp
   subst this;simp;rfl
theorem St0.setL{W:Wd}{G:Gens}{R:Lg}{s:Ac}{a:Addr}{xs ys:List Value}{n:Nat}(S:St0 W G ((a,aA xs)::R) s)(hl:IsL s.heap a xs.toArray n)(f:Array Value->Array Value)(e:f xs.toArray=ys.toArray):St0 W G ((a,aA ys)::R) { s with heap:=s.heap.update a (Obj.mapSeq f) }:=by
 obtain⟨o,ho,hc⟩:=xS hl f e;exact⟨S.ok,S.led.set .head (λ b o hb e=>((Heap.SameBut.update s.heap a _).2 b hb).trans e) ho hc,S.bare,S.os,S.gens,S.gnd⟩
theorem St0.isL{W:Wd}{G:Gens}{R:Lg}{s:Ac}{a:Addr}{xs:List Value}(S:St0 W G R s)(m:(a,aA xs)∈R):∃ n,IsL s.heap a xs.toArray n:=by
 obtain⟨o,ho,q0⟩:=S.led.get m;obtain⟨n,rfl⟩:=q0;exact⟨n,ho⟩
section
variable {W:Wd}{sh:Lg}{I:Addr}{E:Value->Ac->Prop}
theorem pI{T:Addr}{res:Value}{Rr:Result->Ac->Prop}{R:Lg}{GR:Gens}:∀(vs:List Value) (own:Lg) (og:Gens) (acc:List Value) (A:AJ) (s:Ac),Aok 8 A->cN W sh I vs own og->acc.length+vs.length<=Au->
  St0 W (GR++og) (((T,aA acc)::R)++(sh++own)) s->(∀ s',St0 W GR (((T,aA (acc++vs))::R)++sh) s'->Rr (.ok (.ret res)) s')->codeAny W.M A (.builtin "list.extend.loop" ⟨[.ref T,.ref I,res],[]⟩) Rr s:=by
 intro l0
 induction l0 with
 | nil=>
  intro own og acc A s hA hy hz S hR;refine codeAny_builtin F.entry_extend_loop ?_;refine Aa (hy.2 A.in1 _ GR s _ _ (Aok.in1 hA) S λ s' S'=>Af (hR s' ?_));rw[Aj];exact S'
 | cons v vs ih=>
  intro own og acc A s hA hy hz S hR;refine codeAny_builtin F.entry_extend_loop ?_;show Ad _ A.in1 (pyNext (.ref I) >>= _) _ _ s;refine Aa (hy.2 A.in1 _ GR s _ _ (Aok.in1 hA) S λ own' og' s' S' hy'=>?_);have S'':St0 W (GR++og') ((T,aA acc)::(R++(sh++own'))) s':=S';obtain⟨n,hl⟩:=S''.isL (.head _);rw[A9]at hz;refine Aa ?_;refine wpAny_updateSeq hl rfl (Af ⟨plainId_quiet F.plain_extend_loop _,ih own' og' (acc++[v]) A _ hA hy' (by simp;walk_at "o") (S''.setL hl _ (by simp)) λ s'' S3=>hR s'' ?_⟩)
   (by simp;walk_at "o") (by show(acc.toArray.push v).size<=Au+1;simp;walk_at "o")
  rw[Ai]at S3;exact S3
end
theorem Sta.to0{W:Wd}{G:Gens}{env:Env}{loc:Loc}{nw:Lg}{s:Ac}(S:Sta W G env loc nw s):St0 W G ((env.locals,aI loc)::nw) s:=⟨S.ok,S.led,S.bare,S.os,S.gens,S.gnd⟩
theorem St0.toSta{W:Wd}{G:Gens}{env:Env}{loc:Loc}{nw:Lg}{s:Ac}(S:St0 W G ((env.locals,aI loc)::nw) s)(e:EvO env (loc.map Prod.fst)):Sta W G env loc nw s:=⟨S.ok,e,S.led,S.bare,S.os,S.gens,S.gnd⟩
theorem Sta.fewer{W:Wd}{G G':Gens}{env:Env}{loc:Loc}{nw:Lg}{s:Ac}(S:Sta W (G++G') env loc nw s):Sta W G env loc nw s:=(S.to0.fewer).toSta S.eok
theorem tW{prog:Program}{w:World}{A:AJ}{s:Ac}{R:Result->Ac->Prop}{target:Expr}{it:Value}{body orelse:List Stmt}{env:Env}(I:Nat->Ac->Prop)(turn:∀ n s,I n s->Ad (model prog w) A (pyNext it) (λ r s₁=>match r with
   | none=>Ad (model prog w) A (execs orelse env) (λ f s₃=>R (.ok f) s₃) (λ _ _=>False) s₁
   | some v=>Ad (model prog w) A (letOwnedTupleGo target it v) (λ _ s₁=>Ad (model prog w) A (assign target env v) (λ _ s₂=>Ad (model prog w) A (execs body env) (λ f s₃=>match f with
     | .next | .cont=>∃ m,m<n/\I m s₃
     | .brk=>R (.ok .next) s₃
     | .ret v=>R (.ok (.ret v)) s₃) (λ _ _=>False) s₂) (λ _ _=>False) s₁) (λ _ _=>False) s₁) (λ _ _=>False) s)(n:Nat)(h:I n s):codeAny (model prog w) A (.forLoop target it body orelse env) R s:=by
 refine codeAny_loop' rfl I (λ n s hI=>?_) n h;refine wpAny_noted ?_;refine Aa (AP (Aa (wpAny_onRaise (As (turn n s hI) (λ r s₁ h₁=>?_) λ _ _ h'=>h'.elim))));cases r with
 | none=>exact Af (.inr ⟨rfl,codeAny_block (As h₁ (λ _ _ h=>h) λ _ _ h=>h.elim)⟩)
 | some v=>
  refine Aa (As h₁ (λ _ s₁' h₁'=>?_) λ _ _ h'=>h'.elim);refine Aa (As h₁' (λ _ s₂ h₂=>Aa (As h₂ (λ f s₃ h₃=>?_) λ _ _ h'=>h'.elim)) λ _ _ h'=>h'.elim);cases f with
  | next=>exact Af (.inl ⟨rfl,h₃⟩)
  | cont=>exact Af (.inl ⟨rfl,h₃⟩)
  | brk=>exact Af h₃
  | ret v=>exact Af h₃
theorem zI{prog:Program}{w:World}{A:AJ}{E:Value->Ac->Prop}{s:Ac}{target:Expr}{it:Addr}{v:Value}{o:Obj}{Q:Unit->Ac->Prop}(ho:s.heap.get? it=some o)(hp:cP o=true)(h:Q () s):Ad (model prog w) A (letOwnedTupleGo target (.ref it) v) Q E s:=by
 have key:Ad (model prog w) A (letOwnedTupleGo (.Tuple [] 0 default) (.ref it) v) Q E s:=by
  cases v with
  | ref a=>
   refine Aa (m:=load it) (wpAny_load ho ?_);obtain⟨cls,dict,data,slots⟩:=o;cases cls with
   | type n=>
    have hq:=(Bw _).mp hp;cases data with
    | fields vs=>
     show Ad _ _ (ite _ _ _) _ _ _;rw[hq];exact Af h
    | _=>exact Af h
   | _=>exact Af h
  | _=>exact Af h
 cases target with
 | Tuple=>exact key
 | List=>exact key
 | _=>exact Af h
section
variable {W:Wd}{sh:Lg}{env:Env}{A:AJ}{R:Result->Ac->Prop}{it:Addr}{target:Expr}{body:List Stmt}
theorem for_y{α:Type}{P:α->Value->Prop}(hA:Aok 7 A)(J:List α->Loc->Lg->Gens->Prop)(turn:∀ x v rest tl tg loc nw G s,P x v->Sta W (G++tg) env loc (nw++(sh++tl)) s->J (x::rest) loc nw G->
   Ad W.M A (assign target env v) (λ _ s₂=>Ad W.M A (execs body env) (λ f s₃=>match f with
     | .next | .cont=>∃ loc' nw' G',Sta W (G'++tg) env loc' (nw'++(sh++tl)) s₃/\J rest loc' nw' G'
     | .brk=>R (.ok .next) s₃
     | .ret v=>R (.ok (.ret v)) s₃) (λ _ _=>False) s₂) (λ _ _=>False) s)(fin:∀ loc nw G s,Sta W G env loc (nw++sh) s->J [] loc nw G->R (.ok .next) s){xs:List α}{own:Lg}{og G:Gens}{loc:Loc}{nw:Lg}{s:Ac}(S:Sta W (G++og) env loc (nw++(sh++own)) s)(hy:YdR W sh it P xs own og)(hJ:J xs loc nw G):codeAny W.M A (.forLoop target (.ref it) body [] env) R s:=by
 refine tW (λ n s=>∃ xs own og G loc nw,xs.length=n/\Sta W (G++og) env loc (nw++(sh++own)) s/\YdR W sh it P xs own og/\J xs loc nw G) (λ n s hI=>?_) xs.length ⟨xs,own,og,G,loc,nw,rfl,S,hy,hJ⟩;obtain⟨vs,own,og,G,loc,hI⟩:=hI;obtain⟨nw,hn,S,hy,hJ⟩:=hI;cases vs with
 | nil=>
  refine hy.2 A ((env.locals,aI loc)::nw) G s _ _ hA S.to0 λ s' S'=>?_;exact AI (fin loc nw G s' (St0.toSta S' S.eok) hJ)
 | cons x rest=>
  refine hy.2 A ((env.locals,aI loc)::nw) G s _ _ hA S.to0 λ v own' og' s' hp S' hy'=>?_;have S1:Sta W (G++og') env loc (nw++(sh++own')) s':=St0.toSta S' S.eok;have ht:Typ sh it own':=by cases rest<;>exact hy'.1
  obtain⟨c,hc,hpl⟩:=ht;obtain⟨o,ho,hco⟩:=S1.get (a:=it) (c:=c) (Ag _ hc);refine zI ho (hpl o hco) ?_;refine As (turn x v rest own' og' loc nw G s' hp S1 hJ) (λ _ s₂ h₂=>As h₂ (λ f s₃ h₃=>?_) λ _ _ h=>h) λ _ _ h=>h;cases f with
  | next=>obtain⟨loc',nw',G',S3,hJ'⟩:=h₃;exact⟨rest.length,by rw[←hn];simp,rest,own',og',G',loc',nw',rfl,S3,hy',hJ'⟩
  | cont=>obtain⟨loc',nw',G',S3,hJ'⟩:=h₃;exact⟨rest.length,by rw[←hn];simp,rest,own',og',G',loc',nw',rfl,S3,hy',hJ'⟩
  | brk=>exact h₃
  | ret v=>exact h₃
end
noncomputable def aE(v:Option Value):Cell:=λ o=>o.data=.cell v
structure ClO (env:Env) (k:NameKind) (x:Str) (c:Addr):Prop where
 kind:env.kindOf x=some k
 at_:env.cells.lookup x=some c
 nodebug:(x==("__debug__":Str))=false
 noclass:(x==("__classdict__":Str))=false
theorem Sta.isCell{c:Addr}{v:Option Value}(S:Sta W G env loc nw s)(m:(c,aE v)∈nw):s.heap.IsCell c v:=S.get m
theorem Sta.cell{x:Str}{pos:Pos}{c:Addr}{v:Value}{Q:Value->Ac->Prop}{M:Model}(S:Sta W G env loc nw s)(hc:ClO env .cell x c)(m:(c,aE (some v))∈nw)(h:Q v s):Ad M A (eval (.Name x pos) env) Q E s:=
 wpAny_Name (wpAny_loadName_cell S.eok.fn hc.kind hc.at_ (S.isCell m) h) hc.nodebug
theorem Sta.free{x:Str}{pos:Pos}{c:Addr}{v:Value}{Q:Value->Ac->Prop}{M:Model}(S:Sta W G env loc nw s)(hc:ClO env .free x c)(m:(c,aE (some v))∈nw)(h:Q v s):Ad M A (eval (.Name x pos) env) Q E s:=
 wpAny_Name (wpAny_loadName_free S.eok.fn hc.kind hc.at_ (S.isCell m) h hc.noclass) hc.nodebug
theorem Sta.storeC{x:Str}{c:Addr}{v:Value}{v₀:Option Value}{Q:Unit->Ac->Prop}{M:Model}(S:Sta W G env loc nw s)(hc:ClO env .cell x c)(U:Upd c (aE v₀) (aE (some v)) nw nw')(h:∀ s',Sta W G env loc nw' s'->Q () s'):Ad M A (storeName env x v) Q E s:=by
 refine wpAny_storeName_cell S.eok.fn hc.kind hc.at_ (S.isCell U.mem) λ h' hc' hs=>?_;obtain⟨o,ho,hd⟩:=hc';exact h _ (S.set U (λ b o hb e=>(hs.2 b hb).trans e) ho hd s.toks)
noncomputable def aU(names:List (Str×NameKind)):List Str:=(names.filter λ p=>p.2==.cell).map Prod.fst
theorem kC:∀(names:List (Str×NameKind)) (n:Nat) (acc:List (Str×Addr)),cellsFrom n names acc=((aU names).zip (Bg n (aU names).length)).reverse++acc:=by
 intro l0
 induction l0 with
 | nil=>
  intro n acc;exact rfl
 | cons p0 r ih=>
  obtain⟨x,k⟩:=p0;intro n acc;unfold cellsFrom;cases hk:k==.cell with
  | true=>
   rw[if_pos rfl,ih (n+1) ((x,n)::acc)];simp[aU,hk,List.range'_succ]
  | false=>
   rw[ih n acc];simp[aU,hk]
theorem gO:∀(ks:List Str) (n:Nat),ks.Nodup->∀ i (h:i<ks.length),((ks.zip (Bg n ks.length)).reverse++[]).lookup ks[i]=some (n+i):=by
 intro l0
 induction l0 with
 | nil=>
  intro _ _ i h;simp at h
 | cons k r ih=>
  intro n nd i h;rw[AH]at nd;rw[Aj];simp only[A9,List.range'_succ,List.zip_cons_cons,List.reverse_cons,List.lookup_append]
  cases i with
  | zero=>
   have:((r.zip (Bg (n+1) r.length)).reverse).lookup k=none:=by
    rw[Bl];intro p hp;rw[bne_iff_ne];intro e;exact nd.1 (by rw[e];exact(List.of_mem_zip (List.mem_reverse.mp hp)).1)
   simp[this]
  | succ j=>
   have hj:j<r.length:=by simpa using h
   have:=ih (n+1) nd.2 j hj;rw[Aj]at this;simp only[List.getElem_cons_succ,this]
   simp;walk_at "o"
noncomputable def aBH(sc:Scope)(binds:List (Str×Value)):List (Str×Value):=binds.filter λ p=>sc.names.lookup p.1==some .local
theorem tZ(k:Str->Option NameKind):∀(binds:List (Str×Value)) (m:Str->Option Value) (x:Str),(binds.map Prod.fst).Nodup->bindL k binds m x=((binds.filter λ p=>k p.1==some .local).lookup x).or (m x):=by
 intro l0
 induction l0 with
 | nil=>
  intro m x _
  rfl
 | cons p0 r ih=>
  obtain⟨n,v⟩:=p0;intro m x nd;rw[Ak,AH]at nd;unfold bindL;rw[ih _ x nd.2]
  by_cases hk:k n=some .local
  ·rw[if_pos hk];rw[List.filter_cons_of_pos (by simp[hk]),Bc]
   by_cases hx:x=n
   ·subst hx;have:(r.filter λ p=>k p.1==some .local).lookup x=none:=by
     rw[Bl];intro p hp;rw[bne_iff_ne];exact λ e=>nd.1 (Ah.mpr ⟨p,(List.mem_filter.mp hp).1,e.symm⟩)
    simp[this]
   ·simp[beq_eq_false_iff_ne.mpr hx,hx]
  ·rw[if_neg hk,List.filter_cons_of_neg (by simp[hk])]
theorem uA(k:Str->Option NameKind):∀(binds:List (Str×Value)) (m:Str->Option Value) (x:Str),(binds.map Prod.fst).Nodup->k x≠some .local->bindC k binds m x=(binds.lookup x).or (m x):=by
 intro l0
 induction l0 with
 | nil=>
  intro m x _ _
  rfl
 | cons p0 r ih=>
  obtain⟨n,v⟩:=p0;intro m x nd hx;rw[Ak,AH]at nd;unfold bindC;rw[ih _ x nd.2 hx,Bc]
  by_cases e:x=n
  ·subst e;rw[if_neg hx];have:r.lookup x=none:=by
    rw[Bl];intro p hp;rw[bne_iff_ne];exact λ e=>nd.1 (Ah.mpr ⟨p,hp,e.symm⟩)
   simp[this]
  ·rw[beq_eq_false_iff_ne.mpr e]
   by_cases hk:k n=some .local
   ·rw[if_pos hk]
   ·rw[if_neg hk];simp[e]
noncomputable def rM(sc:Scope)(binds:List (Str×Value))(ks:List Str):Bool:=sc.kind==.function&&!sc.isCoroutine&&!sc.isGenerator&&(binds.all λ x=>sc.names.lookup x.1==some .local||sc.names.lookup x.1==some .cell)&&
 (ks.all λ x=>sc.names.lookup x==some .local&&!(x==("__debug__":Str)))&&decide ks.Nodup&&decide (binds.map Prod.fst).Nodup&&decide (aU sc.names).Nodup&&
 ((aU sc.names).all λ x=>sc.names.lookup x==some .cell&&!(x==("__debug__":Str))&&!(x==("__classdict__":Str)))
theorem nS{sc:Scope}{binds:List (Str×Value)}{ks:List Str}(hk:rM sc binds ks=true){P:Prop}(k:sc.kind=.function->sc.isCoroutine=false->sc.isGenerator=false->(∀ x∈binds,sc.names.lookup x.1=some .local\/sc.names.lookup x.1=some .cell)-> (∀ x∈ks,sc.names.lookup x=some .local/\(x==("__debug__":Str))=false)->ks.Nodup->(binds.map Prod.fst).Nodup->(aU sc.names).Nodup->(∀ x∈aU sc.names,(sc.names.lookup x=some .cell/\(x==("__debug__":Str))=false)/\(x==("__classdict__":Str))=false)->P):P:=by
 simp only[rM,AK,beq_iff_eq,Bw,Bv,bne_iff_ne,decide_eq_true_eq,Bool.or_eq_true]at hk;exact k hk.1.1.1.1.1.1.1.1 hk.1.1.1.1.1.1.1.2 hk.1.1.1.1.1.1.2 hk.1.1.1.1.1.2 hk.1.1.1.1.2 hk.1.1.1.2 hk.1.1.2 hk.1.2 hk.2
noncomputable def ClA(env:Env):List Str->List Addr->Prop
 | x::xs,c::cs=>ClO env .cell x c/\ClA env xs cs
 | [],[]=>True
 | _,_=>False
noncomputable def dB:List (Option Value)->List Addr->Lg
 | v::vs,c::cs=>(c,aE v)::dB vs cs
 | _,_=>[]
theorem gF{v:Option Value}{vs:List (Option Value)}{c:Addr}{cs:List Addr}:dB (v::vs) (c::cs)=(c,aE v)::dB vs cs:=rfl
theorem gU{cs:List Addr}:dB [] cs=[]:=rfl
theorem oJ{env:Env}:∀(ks:List Str) (n:Nat),(∀ i (h:i<ks.length),ClO env .cell ks[i] (n+i))->ClA env ks (Bg n ks.length):=by
 intro l0
 induction l0 with
 | nil=>
  intro _ _;exact trivial
 | cons k r ih=>
  intro n h;exact⟨h 0 (by simp),ih (n+1) λ i hi=>by have:=h (i+1) (by simpa using hi);simp only[List.getElem_cons_succ]at this;rwa[show n+1+i=n+(i+1)by walk_at "o"]⟩
theorem lR:∀(vs:List (Option Value)) (n:Nat) (p:Addr×Cell),p∈dB vs (Bg n vs.length)->∃ i,∃ h:i<vs.length,p=(n+i,aE vs[i]):=by
 intro l0
 induction l0 with
 | nil=>
  intro _ _ h;cases h
 | cons v vs ih=>
  intro n p h;rcases At.mp h with rfl | h
  ·exact⟨0,by simp,rfl⟩
  ·obtain⟨i,q0⟩:=ih (n+1) p h;obtain⟨hi,e⟩:=q0;exact⟨i+1,by simpa using hi,by rw[e];simp;walk_at "o"⟩
theorem kD:∀(vs:List (Option Value)) (n:Nat),(dB vs (Bg n vs.length)).map Prod.fst=Bg n vs.length:=by
 intro l0
 induction l0 with
 | nil=>
  intro _;exact rfl
 | cons v vs ih=>
  intro n;exact congrArg (n::·) (ih (n+1))
theorem Sta.call_fnC{Q:Value->Ac->Prop}{f:Addr}{qual:Str}{st:Stmt}{dV kV cdv:Value}{pos:List Value}{kw:List (Str×Value)}{binds:List (Str×Value)}(bl:List (Str×Value))(rest:List Str)(cv:List (Option Value))(S:Sta W G env loc nw s)(hf:Fn W.K f st qual dV kV cdv)(hroom:A.depth<Be)(hbind:lS s st qual dV kV cdv ⟨pos,kw⟩ binds)(hbl:aBH (aD st) binds=bl)(hcv:(aU (aD st).names).map (λ n=>binds.lookup n)=cv)(hk:rM (aD st) binds (bl.map Prod.fst++rest)=true)(h:∀ L cs s',ClA (envOfC qual (aD st) L f cdv) (aU (aD st).names) cs->Sta W G (envOfC qual (aD st) L f cdv) (aT bl rest) (dB cv cs++((env.locals,aI loc)::nw)) s'->
   Ad W.M (A.deeper (envOfC qual (aD st) L f cdv)) (execs (aH st) (envOfC qual (aD st) L f cdv)) (λ fl s''=>Q (match fl with | .ret v=>v | _=>.none) s'') (λ _ _=>False) s'):Ad W.M A (call (.ref f) pos kw) Q E s:=by
 refine vF hf.at_ ?_;intro name doc pm ct oc an od osl ho;refine nS hk ?_;clear hk;intro hkind hco hgen hbk hks hnd hbnd hcnd hcs;have hks2:((aT bl rest).map Prod.fst)=bl.map Prod.fst++rest:=by
  simp[aT,AZ,Function.comp_def]
 have hcf:cellsFrom (s.heap.objs.size+1) (aD st).names []=((aU (aD st).names).zip (Bg (s.heap.objs.size+1) (aU (aD st).names).length)).reverse++[]:=kC _ _ _;have hlk:∀ i (hi:i<(aU (aD st).names).length),(cellsFrom (s.heap.objs.size+1) (aD st).names []).lookup (aU (aD st).names)[i]=some (s.heap.objs.size+1+i):=λ i hi=>by
  rw[hcf];exact gO _ _ hcnd i hi
 refine wpAny_call (codeAny_call_function (fd:=fnOf name qual (dP st) (aH st) (aD st) dV kV doc pm an cdv ct) hroom (S.kin _ _ ho) rfl hco hgen rfl (codeRec_of S.kin hf.code) (hbind _ _ _ _ _ _ _ _ _ ?_));refine wpAny_newFunctionEnv_cells hkind (λ x hx=>?_) λ env' he s' X=>?_
 ·rcases hbk x hx with q | q
  ·exact .inl q
  ·refine .inr ⟨q,?_⟩;have:x.1∈aU (aD st).names:=by
    refine Ah.mpr ⟨(x.1,.cell),List.mem_filter.mpr ⟨mem_of_lookup q,rfl⟩,rfl⟩
   obtain⟨i,q0⟩:=BN this;obtain⟨hi,e⟩:=q0;rw[←e,hlk i hi];rfl
 ·subst he;have hkp:=X.toInCall.keep;obtain⟨h₁,tk,e⟩:=X.toInCall.same;refine⟨S.nolimit.keeps hkp,codeAny_func ?_⟩;have hlen:cv.length=(aU (aD st).names).length:=by rw[←hcv];simp
  have D:Led W.B (dB cv (Bg (s.heap.objs.size+1) cv.length)++((s.heap.objs.size,aI (aT bl rest))::(env.locals,aI loc)::nw)) s'.heap:=by
   have D0:Led W.B ((s.heap.objs.size,aI (aT bl rest))::(env.locals,aI loc)::nw) s'.heap:=by
    obtain⟨o,es,ep,ho',hd,hsk,hf⟩:=X.toInCall.ns;refine S.led.cons_new hkp S.led.size_ne S.led.size_new ho' ⟨by rw[hks2];exact hnd,es,ep,hd,hsk,λ x=>?_⟩;have hnd2:(bl.map Prod.fst).Nodup:=hnd.sublist (AO _ _);rw[hf x,tZ _ _ _ _ hbnd,Option.or_none,eV _ _ hnd2];show(aBH (aD st) binds).lookup x=_;rw[hbl];have hrev:∀(l:List (Str×Value)),(l.map Prod.fst).Nodup->l.lookup x=l.reverse.lookup x:=by
     intro l hl
     induction l with
     | nil=>rfl
     | cons p r ih=>
      rw[Ak,AH]at hl;rw[List.reverse_cons,List.lookup_append,←ih hl.2,Bc,Bc]
      by_cases q:x=p.1
      ·subst q;have:r.lookup p.1=none:=by
        rw[Bl];intro z hz;rw[bne_iff_ne];exact λ e=>hl.1 (Ah.mpr ⟨z,hz,e.symm⟩)
       simp[this]
      ·rw[beq_eq_false_iff_ne.mpr q];simp
    exact hrev bl hnd2
   have hcell:∀ i (hi:i<cv.length),s'.heap.IsCell (s.heap.objs.size+1+i) cv[i]:=λ i hi=>by
    have hi':i<(aU (aD st).names).length:=by rw[←hlen];exact hi
    have:=X.cell _ _ (hlk i hi');have hkc:(aD st).names.lookup (aU (aD st).names)[i]=some .cell:=(hcs _ (Bb hi')).1.1;have e2:bindC (newEnv (aD st) s.heap.objs.size AL (cellsFrom (s.heap.objs.size+1) (aD st).names []) (qual++".<locals>.") (some f) cdv none builtinsNs).kindOf binds (λ _=>none) (aU (aD st).names)[i]=cv[i]:=by
     rw[uA _ _ _ _ hbnd (by show(aD st).names.lookup _≠_;rw[hkc];decide),Option.or_none];simp only[←hcv,List.getElem_map]
    rw[←e2];exact this
   refine⟨D0.keep,λ p hp=>?_,?_⟩
   ·rcases AW.mp hp with hp | hp
    ·obtain⟨i,q0⟩:=lR _ _ _ hp;obtain⟨hi,rfl⟩:=q0;obtain⟨o,ho2,hd2⟩:=hcell i hi;refine⟨?_,o,ho2,hd2⟩;cases q:W.B.get? (s.heap.objs.size+1+i)with
     | none=>rfl
     | some o2=>exact absurd (Heap.lt_size (S.led.keep _ _ q)) (λ hh=>by
       walk_at "o")
    ·exact D0.own p hp
   ·rw[Ao,Bq,kD];refine⟨List.nodup_range',D0.nodup,λ a ha b hb e=>?_⟩;subst e;have hge:s.heap.objs.size+1<=a:=by
     have:=List.mem_range'_1.mp ha;exact this.1
    rcases At.mp hb with q | hb
    ·exact absurd q (Nat.ne_of_gt hge)
    ·obtain⟨p,hp,q⟩:=Ah.mp hb;obtain⟨o,ho2,_⟩:=(S.led.own p hp).2;have hl:p.1<s.heap.objs.size:=Heap.lt_size ho2;exact absurd q (Bx (Nat.lt_trans hl hge))
  have S':Sta W G (envOfC qual (aD st) s.heap.objs.size f cdv) (aT bl rest) (dB cv (Bg (s.heap.objs.size+1) cv.length)++((env.locals,aI loc)::nw)) s':=by
   subst e;refine⟨S.ok,by rw[hks2];exact⟨hkind,rfl,rfl,λ x hx=>(hks x hx).1,λ x hx=>(hks x hx).2,hnd⟩,D.perm AM,S.bare,S.os,S.gens,S.gnd⟩
  refine As (h _ _ _ ?_ S') (λ fl s'' q=>q) (λ _ _ q=>q.elim);rw[hlen];refine oJ _ _ λ i hi=>⟨(hcs _ (Bb hi)).1.1,hlk i hi,(hcs _ (Bb hi)).1.2,(hcs _ (Bb hi)).2⟩
noncomputable def oR(W:Wd)(it:Addr)(c:Cell):Prop:=∀ A s (Q:Value->Ac->Prop) E o,s.heap.get? it=some o->c o->Q (.ref it) s->Ad W.M A (pyIter (.ref it)) Q E s
theorem kX{prog:Program}{w:World}{A:AJ}{s:Ac}{R:Result->Ac->Prop}{elt:Expr}{gens:List Comprehension}{scope:Scope}{pos p:Pos}{d:Nat}{target:Expr}{it acc:Value}{env:Env}{body:Sem Unit}(hT:compTurn (.ListComp elt gens scope pos) d it acc env=(standAt p >>= λ _=>pyNext it >>= λ r=>match r with
   | none=>pure (.done .next)
   | some v=>letOwnedTupleGo target it v >>= λ _=>assign target env v >>= λ _=>body >>= λ _=>again (.compLoop (.ListComp elt gens scope pos) d it acc env)))(I:Nat->Ac->Prop)(turn:∀ n s,I n s->Ad (model prog w) A (pyNext it) (λ r s₁=>match r with
   | none=>R (.ok .next) s₁
   | some v=>Ad (model prog w) A (letOwnedTupleGo target it v) (λ _ s₁=>Ad (model prog w) A (assign target env v) (λ _ s₂=>Ad (model prog w) A body (λ _ s₃=>∃ m,m<n/\I m s₃)
     (λ _ _=>False) s₂) (λ _ _=>False) s₁) (λ _ _=>False) s₁) (λ _ _=>False) s)(n:Nat)(h:I n s):codeAny (model prog w) A (.compLoop (.ListComp elt gens scope pos) d it acc env) R s:=by
 refine codeAny_loop rfl I (λ n s hI=>?_) n h;refine wpAny_noted ?_;rw[hT];refine Aa (AP (Aa (As (turn n s hI) (λ r s₁ h₁=>?_) λ _ _ h'=>h'.elim)));cases r with
 | none=>exact Af h₁
 | some v=>
  refine Aa (As h₁ (λ _ s₁' h₁'=>?_) λ _ _ h'=>h'.elim);refine Aa (As h₁' (λ _ s₂ h₂=>Aa (As h₂ (λ _ s₃ h₃=>?_) λ _ _ h'=>h'.elim)) λ _ _ h'=>h'.elim);exact Af ⟨rfl,h₃⟩
section
variable {W:Wd}{sh:Lg}{env:Env}{A:AJ}{R:Result->Ac->Prop}{it:Addr}{target:Expr}{elt:Expr}{gens:List Comprehension}{scope:Scope}{pos p:Pos}{d:Nat}{acc:Value}{body:Sem Unit}
theorem aD8{α:Type}{P:α->Value->Prop}(hA:Aok 7 A)(hT:compTurn (.ListComp elt gens scope pos) d (.ref it) acc env=(standAt p >>= λ _=>pyNext (.ref it) >>= λ r=>match r with
   | none=>pure (.done .next)
   | some v=>letOwnedTupleGo target (.ref it) v >>= λ _=>assign target env v >>= λ _=>body >>= λ _=>again (.compLoop (.ListComp elt gens scope pos) d (.ref it) acc env)))(J:List α->Loc->Lg->Gens->Prop)(turn:∀ x v rest tl tg loc nw G s,P x v->Sta W (G++tg) env loc (nw++(sh++tl)) s->J (x::rest) loc nw G-> Ad W.M A (assign target env v) (λ _ s₂=>Ad W.M A body (λ _ s₃=>∃ loc' nw' G',Sta W (G'++tg) env loc' (nw'++(sh++tl)) s₃/\J rest loc' nw' G') (λ _ _=>False) s₂) (λ _ _=>False) s)(fin:∀ loc nw G s,Sta W G env loc (nw++sh) s->J [] loc nw G->R (.ok .next) s){vs:List α}{own:Lg}{og G:Gens}{loc:Loc}{nw:Lg}{s:Ac}(S:Sta W (G++og) env loc (nw++(sh++own)) s)(hy:YdR W sh it P vs own og)(hJ:J vs loc nw G):codeAny W.M A (.compLoop (.ListComp elt gens scope pos) d (.ref it) acc env) R s:=by
 refine kX hT (λ n s=>∃ vs own og G loc nw,vs.length=n/\Sta W (G++og) env loc (nw++(sh++own)) s/\YdR W sh it P vs own og/\J vs loc nw G) (λ n s hI=>?_) vs.length ⟨vs,own,og,G,loc,nw,rfl,S,hy,hJ⟩;obtain⟨vs,own,og,G,loc,hI⟩:=hI;obtain⟨nw,hn,S,hy,hJ⟩:=hI;cases vs with
 | nil=>exact hy.2 A ((env.locals,aI loc)::nw) G s _ _ hA S.to0 λ s' S'=>fin loc nw G s' (St0.toSta S' S.eok) hJ
 | cons x rest=>
  refine hy.2 A ((env.locals,aI loc)::nw) G s _ _ hA S.to0 λ v own' og' s' hpv S' hy'=>?_;have S1:Sta W (G++og') env loc (nw++(sh++own')) s':=St0.toSta S' S.eok;have ht:Typ sh it own':=by cases rest<;>exact hy'.1
  obtain⟨c,hc,hp⟩:=ht;obtain⟨o,ho,hco⟩:=S1.get (a:=it) (c:=c) (Ag _ hc);refine zI ho (hp o hco) ?_;refine As (turn x v rest own' og' loc nw G s' hpv S1 hJ) (λ _ s₂ h₂=>As h₂ (λ f s₃ h₃=>?_) λ _ _ h=>h) λ _ _ h=>h;obtain⟨loc',nw',G',S3,hJ'⟩:=h₃;exact⟨rest.length,by rw[←hn];simp,rest,own',og',G',loc',nw',rfl,S3,hy',hJ'⟩
theorem dX{c:Cell}{s:Ac}{g:Comprehension}(hg:gens[d]?=some g)(ha:g.is_async=0)(hs:oR W it c)(m:∃ o,s.heap.get? it=some o/\c o)(h:codeAny W.M A (.compLoop (.ListComp elt gens scope pos) d (.ref it) acc env) R s):codeAny W.M A (.compStart (.ListComp elt gens scope pos) d (.ref it) acc env) R s:=by
 obtain⟨o,ho,hc⟩:=m;refine codeAny_of_tree ?_;refine wpAny_notedAt ?_;have e:(clausesOf (.ListComp elt gens scope pos))[d]?=some g:=hg;unfold compStart;rw[e];rw[Option.elim_some,ha];show Ad _ _ (ask >>= _) _ _ s;refine Aa (wpAny_askSetting (wpAny_ite ?_))
 split
 ·exact Af (And.intro rfl h)
 ·exact Aa (wpAny_rule (Aa (AP (Aa (hs A _ _ _ o ho hc (Af (And.intro rfl h)))))))
end
noncomputable def eQ(sc:Scope)(ks:List Str):Bool:=sc.kind==.function&&(sc.names.all λ x=>x.2 != .cell)&&(sc.names.all λ x=>x.2 != .local||sc.names.lookup x.1==some .local)&&(ks.all λ x=>sc.names.lookup x==some .local&&!(x==("__debug__":Str)))&&decide ks.Nodup
theorem fK{sc:Scope}{ks:List Str}(hk:eQ sc ks=true){P:Prop}(k:sc.kind=.function->(∀ x∈sc.names,x.2≠.cell)->(∀ x∈sc.names,x.2≠.local\/sc.names.lookup x.1=some .local)->(∀ x∈ks,sc.names.lookup x=some .local/\(x==("__debug__":Str))=false)->ks.Nodup->P):P:=by
 simp only[eQ,AK,beq_iff_eq,Bw,Bv,bne_iff_ne,decide_eq_true_eq,Bool.or_eq_true]at hk;exact k hk.1.1.1.1 hk.1.1.1.2 hk.1.1.2 hk.1.2 hk.2
noncomputable def CompEnd(W:Wd)(env e2:Env)(loc:Loc)(P:Ac->Prop)(r:Result)(s:Ac):Prop:=
 ∃ f loc' nw' G',r=.ok f/\Sta W G' e2 loc' ((env.locals,aI loc)::nw') s/\∀ s₃,Sta W G' env loc nw' s₃->P s₃
theorem CompEnd.mk{W:Wd}{env e2:Env}{loc loc':Loc}{P:Ac->Prop}{s:Ac}{G':Gens}{nw':Lg}(S:Sta W G' e2 loc' ((env.locals,aI loc)::nw') s)(k:∀ s₃,Sta W G' env loc nw' s₃->P s₃):CompEnd W env e2 loc P (.ok .next) s:=⟨.next,loc',nw',G',rfl,S,k⟩
noncomputable def CompK(W:Wd)(A:AJ)(env:Env)(e:Expr)(scope:Scope)(cl:List (Str×Addr))(ks:List Str)(Q:Value->Ac->Prop)(it:Value)(s:Ac):Prop:=
 ∃ G loc nw,Sta W G env loc nw s/\∀ acc C s',EvO (compEnvC scope cl C env) ks->Sta W G (compEnvC scope cl C env) (ks.map λ k=>(k,none)) ((acc,aA [])::(env.locals,aI loc)::nw) s'->
  codeAny W.M A (.compStart e 0 it (.ref acc) (compEnvC scope cl C env)) (CompEnd W env (compEnvC scope cl C env) loc (Q (.ref acc))) s'
theorem CompK.mk{e:Expr}{scope:Scope}{cl:List (Str×Addr)}{ks:List Str}{Q:Value->Ac->Prop}{it:Value}(S:Sta W G env loc nw s)(k:∀ acc C s',EvO (compEnvC scope cl C env) ks->Sta W G (compEnvC scope cl C env) (ks.map λ k=>(k,none)) ((acc,aA [])::(env.locals,aI loc)::nw) s'-> codeAny W.M A (.compStart e 0 it (.ref acc) (compEnvC scope cl C env)) (CompEnd W env (compEnvC scope cl C env) loc (Q (.ref acc))) s'):CompK W A env e scope cl ks Q it s:=⟨G,loc,nw,S,k⟩
theorem gP{elt target iter:Expr}{gens:List Comprehension}{scope:Scope}{pos:Pos}{cl:List (Str×Addr)}{Q:Value->Ac->Prop}(ks:List Str)(hclos:closureFor scope env=pure cl)(hk:eQ scope ks=true)(he:env.globals=AL)(hb:env.builtins=builtinsNs)(h:Ad W.M A (eval iter env) (λ x s₁=>Ad W.M A (pyIter x) (λ it s₂=>CompK W A env (.ListComp elt (⟨target,iter,[],0⟩::gens) scope pos) scope cl ks Q it s₂) E s₁) E s)(hs:∀ x,foldedSetIterable iter env x=pure x:=by intro _;rfl):Ad W.M A (eval (.ListComp elt (⟨target,iter,[],0⟩::gens) scope pos) env) Q E s:=by
 refine fK hk ?_;clear hk;intro hkind hcell hnames hks hnd;refine wpAny_comprehension_free (use:=none) (cl:=cl) rfl hs hclos hkind (λ x hx hl=>(hnames x hx).resolve_left λ q=>q hl) (As h (λ xv s₁ h₁=>As h₁ (λ it s₂ h₂=>?_) λ _ _ e=>e) λ _ _ e=>e);obtain⟨G,loc,nw,S,kk⟩:=h₂;refine S.newList (by simp) λ acc s₃ S₃=>?_;refine wpAny_newFunctionEnv hcell (by intro y hy;simp at hy) (λ h₁ hns hsb=>?_) hkind;have hkp:∀ b o,s₃.heap.get? b=some o->h₁.get? b=some o:=λ b o e=>hsb.extBut b o (Bx (Heap.lt_size e)) (Heap.get?_push_of_some _ e);have D:Led W.B ((s₃.heap.objs.size,aI (ks.map λ k=>(k,none)))::(env.locals,aI loc)::(acc,aA [])::nw) h₁:=by
  obtain⟨o,es,ep,ho',hd,hsk,hf⟩:=hns;refine S₃.led.cons_new hkp S₃.led.size_ne S₃.led.size_new ho' ⟨by rw[AZ];simpa[Function.comp_def]using hnd,es,ep,hd,hsk,λ x=>?_⟩;rw[hf x,jR];rfl
 have ek:(ks.map λ k=>((k,none):Str×Option Value)).map Prod.fst=ks:=by rw[AZ];simp[Function.comp_def]
 have eok:EvO (compEnvC scope cl s₃.heap.objs.size env) ks:=⟨hkind,he,hb,λ x hx=>lookup_relabel_local (hks x hx).1,λ x hx=>(hks x hx).2,hnd⟩
 refine codeAny_mono (kk acc s₃.heap.objs.size { s₃ with heap:=h₁,toks:=s₃.toks+0 } eok ⟨S₃.ok,by rw[ek];exact eok,D.perm (List.Perm.cons _ (List.Perm.swap ..)),S₃.bare,S₃.os,S₃.gens,S₃.gnd⟩) λ r s'' h''=>?_;obtain⟨f,loc',nw',G',rfl,S',hQ⟩:=h'';refine⟨_,S'.ns,λ h' hs'=>hQ _ ⟨S'.ok,S.eok,?_,S'.bare,S'.os,S'.gens,S'.gnd⟩⟩;have:=Led.dropBack (nw:=[]) (h':=h') S'.led λ b o hb e=>(hs'.2 b hb).trans e;exact this
noncomputable def mM(qual:Str):Cell:=λ o=>∃ vs t,o.data=.fields vs/\vs[1]?=some (.str qual t)
noncomputable def kH(ps:List Value):Cell:=λ o=>o=tabObj ps.toArray
noncomputable def oV(qual:Str)(params:Arguments)(body:Expr)(scope:Scope)(clos:List (Str×Addr))(c':Addr):Cell:=λ o=>∃ pm ctv,o=kla_obj "<lambda>" qual params body scope clos pm c' ctv
noncomputable def bA(P:Addr)(pos:Pos)(qual:Str)(c?:Option Addr):Lg:=match c? with
 | none=>[(P,kH [])]
 | some c'=>[(P,kH [rawInt pos.line,rawInt pos.col,.ref c']),(c',mM qual)]
noncomputable def gH(names:List (Str×NameKind)):List Str:=(names.filter λ p=>p.2==.free).map Prod.fst
theorem wF{env:Env}(ca:Str->Addr)(f:Str×NameKind->List (Str×Addr)->Sem (ForInStep (List (Str×Addr))))(hf:∀ x cs,f x cs=if x.2==.free then(cellOf env x.1 >>= λ c=>pure (.yield ((x.1,c)::cs)))else pure (.yield cs)):∀(names:List (Str×NameKind)) (acc:List (Str×Addr)),(∀ x∈gH names,env.cells.lookup x=some (ca x))->
  forIn names acc f=(pure (((gH names).map λ x=>(x,ca x)).reverse++acc):Sem _):=by
 intro l0
 induction l0 with
 | nil=>
  intro acc _;exact rfl
 | cons p0 r ih=>
  obtain⟨n,k⟩:=p0;intro acc h;rw[List.forIn_cons,hf];cases hk:k==.free with
  | true=>
   have e:gH ((n,k)::r)=n::gH r:=by simp[gH,hk]
   have hc:cellOf env n=pure (ca n):=by unfold cellOf;rw[h n (by rw[e];exact .head _)]
   simp only[if_true,hc,pure_bind]
   rw[ih _ λ x hx=>h x (by rw[e];exact .tail _ hx),e];simp
  | false=>
   have e:gH ((n,k)::r)=gH r:=by simp[gH,hk]
   simp only[Bool.false_eq_true,if_false,pure_bind]
   rw[ih _ λ x hx=>h x (by rw[e];exact hx),e]
theorem oI{scope:Scope}{env:Env}(ca:Str->Addr)(h:∀ x∈gH scope.names,env.cells.lookup x=some (ca x)):closureFor scope env=pure (((gH scope.names).map λ x=>(x,ca x)).reverse):=by
 dsimp only[closureFor]
 rw[wF ca _ (λ x cs=>by obtain⟨n,k⟩:=x;cases hk:k==NameKind.free<;>simp) _ _ h];simp
theorem lQ{scope:Scope}{env:Env}{x:Str}{c:Addr}(h:gH scope.names=[x])(hc:ClO env .cell x c):closureFor scope env=pure [(x,c)]:=by
 rw[oI (λ _=>c) (by rw[h];intro y hy;rw[AR.mp hy];exact hc.at_),h];rfl
theorem tX{scope:Scope}{env:Env}{x y:Str}{c d:Addr}(h:gH scope.names=[x,y])(hn:(y==x)=false)(hc:ClO env .cell x c)(hd:ClO env .cell y d):closureFor scope env=pure [(y,d),(x,c)]:=by
 rw[oI (λ z=>if z==x then c else d) (by
  rw[h];intro z hz;rcases At.mp hz with rfl | hz
  ·simp[hc.at_]
  ·rw[AR.mp hz,hn];exact hd.at_),h]
 simp[beq_eq_false_iff_ne.mp hn]
theorem Sta.bmAt(S:Sta W G env loc nw s){P:Addr}{c:Cell}(m:(P,c)∈nw):∃ mg,s.heap.Ns AL mg/\AL≠P/\s.heap.BuiltinsAt mg P:=by
 obtain⟨mg,bm,ob,hg,h1,h2,q⟩:=S.ok.bm;obtain⟨h3,h4,h5,h6,h7⟩:=q;have hB:=(S.led.own _ (.tail _ m)).1;refine⟨mg,hg.keeps S.led.keep,λ q=>?_,bm,ob,h1,h2,h3,λ q=>?_,S.led.keep _ _ h4,h5,h6,h7⟩
 ·obtain⟨o,es,ep,e,_⟩:=hg;rw[q]at e;rw[hB]at e;cases e
 ·rw[q]at h4;rw[hB]at h4;cases h4
theorem Sta.lambda{params:Arguments}{body:Expr}{scope:Scope}{pos:Pos}{clos:List (Str×Addr)}{P c:Addr}{c?:Option Addr}{Q:Value->Ac->Prop}(S:Sta W G env loc (bA P pos (env.qual++"<lambda>") c?++nw) s)(hdef:defaultsOf params env=([],[]))(hcl:closureFor scope env=pure clos)(hcode:env.code=.ref c)(C:CodeHd W.B c P)(h:∀ f c' s',Sta W G env loc ((f,oV (env.qual++"<lambda>") params body scope clos c')::(bA P pos (env.qual++"<lambda>") (some c')++nw)) s'->Q (.ref f) s'):Ad W.M A (eval (.Lambda params body scope pos) env) Q E s:=by
 refine kla_eval hdef ?_;cases c? with
 | none=>
  have m:(P,kH [])∈bA P pos (env.qual++"<lambda>") none++nw:=.head _;obtain⟨mg,hg,hgP,hb⟩:=S.bmAt m;obtain⟨o,hP,rfl⟩:=S.get m;refine kla_makeFunction hcl S.eok.glob hg hcode (C.keeps S.led.keep) hP trivial rfl hgP hb λ c' ctv h' tk hx hge hlt hrec hP'=>?_;obtain⟨c2,oc,vs,t,e,hc,hd,hv⟩:=hrec;cases e;refine h _ c' _ ?_;have D:=S.led;have hne:∀ p∈((env.locals,aI loc)::(bA P pos (env.qual++"<lambda>") none++nw)),p.1≠c':=λ p hp q=>by
   obtain⟨o2,ho2,_⟩:=(D.own p hp).2;have:=Heap.lt_size ho2;rw[q]at this;exact absurd hge (Nat.not_le.mpr this)
  have D1:Led W.B ((env.locals,aI loc)::(P,kH [rawInt pos.line,rawInt pos.col,.ref c'])::nw) h':=by
   refine D.set (a:=P) (c:=kH []) (.tail .head) (λ b o hb e=>hx b o hb e) hP' ?_;show tabObj _=tabObj _
   rfl
  have D2:Led W.B ((c',mM (env.qual++"<lambda>"))::(env.locals,aI loc)::(P,kH [rawInt pos.line,rawInt pos.col,.ref c'])::nw) h':=by
   refine D1.cons_new (λ _ _ e=>e) (λ q=>?_) ?_ hc ⟨vs,t,hd,hv⟩
   ·obtain⟨p,hp,e⟩:=Ah.mp q;rcases At.mp hp with rfl | hp
    ·exact hne _ (.head _) e
    rcases At.mp hp with rfl | hp
    ·exact hne (P,kH []) (.tail _ (.head _)) e
    ·exact hne p (.tail _ (.tail _ hp)) e
   ·cases q:W.B.get? c' with
    | none=>rfl
    | some o2=>exact absurd (Heap.lt_size (D.keep _ _ q)) (Nat.not_lt.mpr hge)
  refine⟨S.ok,S.eok,(D2.new (c:=oV (env.qual++"<lambda>") params body scope clos c') (o:=kla_obj "<lambda>" (env.qual++"<lambda>") params body scope clos ((mg "__name__").getD .none) c' ctv) rfl ⟨_,_,rfl⟩).perm ?_,S.bare,S.os,S.gens,S.gnd⟩;refine(List.Perm.cons _ (List.Perm.swap ..)).trans ((List.Perm.swap ..).trans (List.Perm.cons _ (List.Perm.cons _ (List.Perm.swap ..))))
 | some c'=>
  obtain⟨mg,hg,hgP,hb⟩:=S.bmAt (.head _);obtain⟨o,hP,rfl⟩:=S.get (.head _);refine kla_makeFunctionHit (cv:=.ref c') hcl S.eok.glob hg hcode (C.keeps S.led.keep) hP ⟨⟩ (by simp[codeAmong,rawInt]) hb λ ctv h' tk hk _=>?_;refine h _ c' _ ?_;exact(S.grow hk tk).new (c:=oV (env.qual++"<lambda>") params body scope clos c') rfl ⟨_,_,rfl⟩ tk
theorem Sta.call_lam{qual:Str}{params:Arguments}{body:Expr}{scope:Scope}{clos:List (Str×Addr)}{f c':Addr}{Q:Value->Ac->Prop}{pos:List Value}{binds:List (Str×Value)}(S:Sta W G env loc nw s)(m:(f,oV qual params body scope clos c')∈nw)(mc:(c',mM qual)∈nw)(hroom:A.depth<Be)(hbind:∀ pm ctv,bindArgs (kla_fn "<lambda>" qual params body scope clos pm (.ref c') ctv) ⟨pos,[]⟩=pure binds)(hk:dL scope (binds.map Prod.fst)=true)(h:∀ L s',Sta W G (envX qual scope L f (.ref c') clos) (aT binds []) ((env.locals,aI loc)::nw) s'-> Ad W.M (A.deeper (envX qual scope L f (.ref c') clos)) (eval body (envX qual scope L f (.ref c') clos)) Q (λ _ _=>False) s'):Ad W.M A (call (.ref f) pos) Q E s:=by
 refine eY hk ?_;clear hk;intro hkind hco hgen hcell hks hnd;have hks2:((aT binds []).map Prod.fst)=binds.map Prod.fst:=by
  simp[aT,AZ,Function.comp_def]
 obtain⟨o,ho,q0⟩:=S.get m;obtain⟨pm,ctv,rfl⟩:=q0;obtain⟨oc,hoc,q0⟩:=S.get mc;obtain⟨vs,t,hd,hv⟩:=q0;refine wpAny_call (kla_callFunE hroom ho rfl hco hgen rfl ⟨c',oc,vs,t,rfl,hoc,hd,hv⟩ ?_);rw[hbind];refine Af (wpAny_newFunctionEnv hcell (λ x hx=>(hks x.1 (Ah.mpr ⟨x,hx,rfl⟩)).1) (λ h₁ hns hsb=>?_) hkind);have hkp:∀ b o,s.heap.get? b=some o->h₁.get? b=some o:=λ b o e=>hsb.extBut b o (Bx (Heap.lt_size e)) (Heap.get?_push_of_some _ e);refine⟨S.nolimit.keeps hkp,kla_codeExpr ?_⟩;have D:Led W.B ((s.heap.objs.size,aI (aT binds []))::(env.locals,aI loc)::nw) h₁:=by
  obtain⟨o,es,ep,ho',hd,hsk,hf⟩:=hns;refine S.led.cons_new hkp S.led.size_ne S.led.size_new ho' ⟨by rw[hks2];exact hnd,es,ep,hd,hsk,λ x=>?_⟩;rw[hf x,eV _ _ hnd]
 have S':Sta W G (envX qual scope s.heap.objs.size f (.ref c') clos) (aT binds []) ((env.locals,aI loc)::nw) { s with heap:=h₁,toks:=s.toks+binds.length }:=
  ⟨S.ok,by rw[hks2];exact⟨hkind,rfl,rfl,λ x hx=>(hks x hx).1,λ x hx=>(hks x hx).2,hnd⟩,D,S.bare,S.os,S.gens,S.gnd⟩
 exact As (h _ _ S') (λ fl s'' q=>q) (λ _ _ q=>q.elim)
noncomputable def qG(a b:Int):Cell:=λ o=>∃ t u v,o={ cls:=.type "range",dict:=none,data:=.fields #[.int a t,.int b u,.int 1 v],slots:=#[] }
noncomputable def bU(x left:Int):Cell:=λ o=>o={ cls:=.type "range_iterator",dict:=none,data:=.fields #[rawInt x,rawInt left,rawInt 1],slots:=#[] }
theorem pS{d:Option Addr}{dt:Data}{sl:Array (Option Value)}:cP { cls:=.type "range_iterator",dict:=d,data:=dt,slots:=sl }=true:=by unfold cP;dsimp only;decide
theorem eL{W:Wd}{sh:Lg}{it:Addr}:∀(n a:Nat),YdR W sh it (λ(k:Nat) v=>∃ t,v=.int (k:Int) t) (Bg a n) [(it,bU (a:Int) (n:Int))] []
 | 0,a=>⟨⟨bU (a:Int) ((0:Nat):Int),by simp,λ o h=>by rw[h];exact pS⟩,λ A R GR s Q E hA S hQ=>by
  have D0:Led W.B ((R++sh)++((it,bU (a:Int) ((0:Nat):Int))::[])) s.heap:=by rw[Ai];exact S.led
  obtain⟨o,ho,rfl⟩:=D0.get (a:=it) (c:=bU (a:Int) ((0:Nat):Int)) (by simp);refine wpAny_pyNext_range_end hA.handled ho (by simp) λ h' hx=>hQ _ ?_;refine⟨S.ok,?_,S.bare,S.os,λ p hp=>S.gens p (by simpa using hp),by simpa using S.gnd⟩;exact(D0.dropBack λ b o hb e=>hx b o hb e).sub (AO _ _)⟩
 | n+1,a=>by
  refine⟨⟨bU (a:Int) ((n+1:Nat):Int),by simp,λ o h=>by rw[h];exact pS⟩,?_⟩;intro A R GR s Q E hA S hQ;have D0:Led W.B ((R++sh)++((it,bU (a:Int) ((n+1:Nat):Int))::[])) s.heap:=by rw[Ai];exact S.led
  obtain⟨o,ho,rfl⟩:=D0.get (a:=it) (c:=bU (a:Int) ((n+1:Nat):Int)) (by simp);refine wpAny_pyNext_range_item ho (by walk_at "o") λ h' hit hs=>?_;have D1:=D0.back (c':=bU ((a+1:Nat):Int) (n:Int)) (h':=h') (λ b o hb e=>(hs.2 b hb).trans e) hit (by
   have e1:((a:Int)+1)=((a+1:Nat):Int):=by walk_at "o"
   have e2:(((n+1:Nat):Int)-1)=(n:Int):=by walk_at "o"
   rw[e1,e2];rfl)
  rw[Ai]at D1;exact hQ _ _ [] _ ⟨_,rfl⟩ ⟨S.ok,D1,S.bare,S.os,S.gens,S.gnd⟩ (eL n (a+1))
theorem zX{W:Wd}{it:Addr}{x left:Int}:oR W it (bU x left):=λ A s Q E o ho hc h=>by
 subst hc;have hT:s.TypeIs (.ref it) "range_iterator":=⟨_,ho,rfl⟩
 refine wpAny_pyIter_slot hT F.slot_range_iterator_iter (wpAny_call_entry F.slot_range_iterator_iter hT F.entry_range_iterator_iter ?_ (F.args_range_iterator_iter_1 _));exact Af ⟨_,rfl,"range_iterator",_,hT,F.slot_range_iterator_next.lookup,h⟩
theorem jH{W:Wd}{it l:Addr}{i:Nat}:oR W it (bM l i):=λ A s Q E o ho hc h=>wpAny_pyIter_listiter ⟨o,ho,hc.1,hc.2⟩ h
theorem Sta.range1{n:Int}{t:Tok}{Q:Value->Ac->Prop}(S:Sta W G env loc nw s)(h:∀ r s',Sta W G env loc ((r,qG 0 n)::nw) s'->Q (.ref r) s'):Ad W.M A (call (.type "range") [.int n t]) Q E s:=
 call_range_1 (h _ _ (S.new (c:=qG 0 n) rfl ⟨_,_,_,rfl⟩ _))
theorem Sta.iterRange{r:Addr}{a b:Nat}{Q:Value->Ac->Prop}(S:Sta W G env loc nw s)(m:(r,qG (a:Int) (b:Int))∈nw)(ha:a<=1000000)(hb:b<=1000000)(h:∀ it s',Sta W G env loc ((it,bU (a:Int) ((b-a:Nat):Int))::nw) s'->Q (.ref it) s'):Ad W.M A (pyIter (.ref r)) Q E s:=by
 obtain⟨o,ho,q0⟩:=S.get m;obtain⟨t,u,v,rfl⟩:=q0;refine wpAny_pyIter_range ho (small_one (by walk_at "o") (by walk_at "o") (by walk_at "o") (by walk_at "o")) (h _ _ (S.new (c:=bU (a:Int) ((b-a:Nat):Int)) rfl ?_ s.toks));rw[rangeSize_one];have:(if(a:Int)<(b:Int)then(b:Int)-(a:Int)else 0)=((b-a:Nat):Int):=by
  by_cases h:(a:Int)<(b:Int)
  ·rw[if_pos h];exact ar_r (Nat.le_of_lt (By.mp h))
  ·rw[if_neg h,Nat.sub_eq_zero_of_le (Int.ofNat_le.mp (Int.not_lt.mp h))];rfl
 rw[this];rfl
theorem Sta.iterList{l:Addr}{xs:List Value}{Q:Value->Ac->Prop}(S:Sta W G env loc nw s)(m:(l,aA xs)∈nw)(h:∀ it s',Sta W G env loc ((it,bM l 0)::nw) s'->Q (.ref it) s'):Ad W.M A (pyIter (.ref l)) Q E s:=
 wpAny_pyIter_list (S.isList m) (h _ _ (S.new (c:=bM l 0) rfl ⟨rfl,rfl⟩ s.toks))
theorem Sta.reversed{l:Addr}{xs:List Value}{Q:Value->Ac->Prop}(S:Sta W G env loc nw s)(m:(l,aA xs)∈nw)(h:∀ it s',Sta W G env loc ((it,lA l ((xs.length:Int)-1))::nw) s'->Q (.ref it) s'):Ad W.M A (call (.type "reversed") [.ref l]) Q E s:=
 call_reversed_list (S.isList m) (h _ _ (S.new (c:=lA l ((xs.length:Int)-1)) rfl ⟨rfl,by simp[revObj]⟩ s.toks))
theorem Sta.iterRev{it l:Addr}{i:Int}{Q:Value->Ac->Prop}(S:Sta W G env loc nw s)(m:(it,lA l i)∈nw)(h:Q (.ref it) s):Ad W.M A (pyIter (.ref it)) Q E s:=by
 obtain⟨o,ho,hc,hd⟩:=S.get m;exact wpAny_pyIter_revIter ⟨o,ho,hc,hd⟩ h
theorem Sta.item{l:Addr}{xs:List Value}{k:Int}{t:Tok}{v:Value}{Q:Value->Ac->Prop}(S:Sta W G env loc nw s)(m:(l,aA xs)∈nw)(h0:0<=k)(h1:k<1000000)(hx:xs[k.toNat]?=some v)(h:Q v s):Ad W.M A (getItem (.ref l) (.int k t)) Q E s:=wpAny_getItem_list (S.isList m) h0 (by walk_at "o") (by simpa using hx) h
theorem Sta.setItem{l:Addr}{xs:List Value}{k:Int}{t:Tok}{v:Value}{Q:Unit->Ac->Prop}(S:Sta W G env loc nw s)(U:Upd l (aA xs) (aA (xs.set k.toNat v)) nw nw')(h0:0<=k)(h1:k<1000000)(hx:k.toNat<xs.length)(h:∀ s',Sta W G env loc nw' s'->Q () s'):Ad W.M A (PySem.setItem (.ref l) (.int k t) v) Q E s:=by
 obtain⟨n,hl⟩:=S.isL U.mem;have hT:s.TypeIs (.ref l) "list":=⟨_,hl,rfl⟩
 have hj:k.toNat<xs.toArray.size:=by simpa using hx
 have hS:=h _ (S.setL hl (·.setIfInBounds k.toNat v) (by simp) U s.toks);have hfit:=fitsIndex_of h0 (by walk_at "o");clear h1 h hx;refine AC (Aa (wpAny_sequenceKey hT (by decide) ?_));refine Aa (wpAny_callSpecial?_slot (name:=Str.ofString "__setitem__") hT F.slot_list_setitem (wpAny_call_entry F.slot_list_setitem hT F.entry_list_setitem ?_ (F.args_list_setitem_3 _ _ _)));show Ad _ _ (Builtin.List.listSubscript? (.int k t) >>= _) _ _ s;refine Aa (wpAny_listSubscript_int hfit ?_);clear hfit;obtain⟨j,rfl⟩:=Int.eq_ofNat_of_zero_le h0;have hj:j<xs.toArray.size:=hj;refine Aa (Aa (wpAny_seqItemAt hl rfl (Af ?_)));rw[Array.getElem?_eq_getElem hj];show Ad _ _ (setSeqItemAt l j v >>= _) _ _ s;refine Aa (wpAny_setSeqItemAt hl rfl ?_);exact Af ⟨.none,rfl,Af hS⟩
theorem Sta.sub_list{l:Addr}{xs:List Value}{k:Int}{t:Tok}{v:Value}{Q:Value->Ac->Prop}(S:Sta W G env loc nw s)(m:(l,aA xs)∈nw)(h0:0<=k)(h1:k<1000000)(hx:xs[k.toNat]?=some v)(h:Q v s):SubscriptOn W.M A (.ref l) (.int k t) Q E s:=⟨"list",_,F.slot_list_getitem.lookup,(S.isList m).typeIs,S.item m h0 h1 hx h⟩
theorem aO{value slice:Expr}{pos:Pos}{Q:Value->Ac->Prop}(h:Ad W.M A (eval value env) (λ o s₁=>Ad W.M A (eval slice env) (λ i s₂=>SubscriptOn W.M A o i Q E s₂) E s₁) E s)(he:∀ o i,subscripted slice false o i=operate [o,i] (getItem o i)):Ad W.M A (eval (.Subscript value slice pos) env) Q E s:=by
 refine Aa (As h (λ o s₁ h₁=>Aa (AC (As h₁ (λ i s₂ h₂=>Aa (AP ?_)) λ _ _ x=>x))) λ _ _ x=>x);obtain⟨T,id,hl,hT,hg⟩:=h₂;refine Aa ?_;refine Aa (wpAny_specialOf hT hl ?_);have fin:Ad W.M A (subscripted slice false o i) (λ r s₃=>Ad W.M A (letTemporaryGo value o r >>= λ _=>pure r) Q E s₃) E s₂:=by
  rw[he];exact wpAny_operating (As hg (λ r s₃ h₃=>Aa (wpAny_letTemporaryGo (Af h₃))) λ _ _ x=>x)
 first
  | exact Af (Aa fin)
  | exact Aa (Af (Aa fin))
  | exact Aa fin
theorem Sta.fdiv{a b:Int}{t u:Tok}{Q:Value->Ac->Prop}(S:Sta W G env loc nw s)(hb:b≠0)(hp:b.natAbs<1073741824)(h:∀ t s',Sta W G env loc nw s'->Q (.int (a.fdiv b) t) s'):Ad W.M A (binaryOp .FloorDiv (.int a t) (.int b u)) Q E s:=
 floordiv_int hb (h _ _ (S.toks _)) (.inl (PyProof.noPylong_small hp))
theorem Sta.iadd{a b:Int}{t u:Tok}{Q:Value->Ac->Prop}(S:Sta W G env loc nw s)(h:∀ t s',Sta W G env loc nw s'->Q (.int (a+b) t) s'):Ad W.M A (inplaceOp .Add (.int a t) (.int b u)) Q E s:=
 PyProof.Rows.iadd_int (h _ _ (S.toks _))
theorem Sta.isTup{a:Addr}{xs:List Value}(S:Sta W G env loc nw s)(m:(a,aJ xs)∈nw):IsTup s.heap a xs.toArray:=by
 obtain⟨o,ho,q0⟩:=S.get m;obtain⟨n,rfl⟩:=q0;exact⟨_,ho,rfl,n,rfl⟩
theorem Sta.unpackI{a:Addr}{xs:List Value}{n:Nat}{Q:List Value->Ac->Prop}(S:Sta W G env loc nw s)(hh:A.handled=none)(m:(a,aJ xs)∈nw)(hn:n=xs.length)(h:∀ s',Sta W G env loc nw s'->Q xs s'):Ad W.M A (unpackItems (.ref a) n none) Q E s:=by
 subst hn;have e:xs.length=xs.toArray.size:=rfl;exact unpackItems_tuple hh (S.isTup m) λ h' he=>h _ (S.grow (λ b o e=>he b o (Bx (Heap.lt_size e)) e) s.toks)
theorem Sta.unpackT{elts:List Expr}{x1}{pos:Pos}{a:Addr}{xs:List Value}{Q:Unit->Ac->Prop}(S:Sta W G env loc nw s)(hh:A.handled=none)(m:(a,aJ xs)∈nw)(hn:(assignEach elts env).length=xs.length)(hstar:(assignEach elts env).findIdx? (·.1)=none)(h:∀ s',Sta W G env loc nw s'->Ad W.M A (assignInOrder ((assignEach elts env).map (·.2)) xs) Q E s'):Ad W.M A (assign (.Tuple elts x1 pos) env (.ref a)) Q E s:=
 assign_Tuple_tuple hh (S.isTup m) (by simpa using hn) hstar λ h' he=>h _ (S.grow (λ b o e=>he b o (Bx (Heap.lt_size e)) e) s.toks)
theorem aCN{pos:Pos}{f:Addr}{first:List Value}{e:Expr}{rest:List Expr}{Q:Value->Ac->Prop}(hk:keepIn W.K (.ref f)=true)(h:Ad W.M A (spliced (backTo pos (Aw (e::rest) env))) (λ vs s₁=>W.K.In s₁.heap/\Ad W.M A (call (.ref f) (first++vs)) Q E s₁) E s)(he:Aw (e::rest) env=(false,eval e env)::Aw rest env)(hplain:(backTo pos (Aw rest env)).any (·.1)=false):Ad W.M A (callWith pos (.ref f) first (backTo pos (Aw (e::rest) env)) []) Q E s:=by
 rw[he]at h ⊢;refine callWith_of (P:=λ h=>W.K.In h) (by show(false||(backTo pos (Aw rest env)).any (·.1)||false)=false;rw[hplain];rfl) (λ h X=>keeps_K hk h X) (Calls.evalArgs_plain h)
theorem aEc{pos:Pos}{f:Addr}{first:List Value}{Q:Value->Ac->Prop}(hk:keepIn W.K (.ref f)=true)(X:W.K.In s.heap)(h:Ad W.M A (call (.ref f) first) Q E s):Ad W.M A (callWith pos (.ref f) first (backTo pos (Aw [] env)) []) Q E s:=
 callWith_of (P:=λ h=>W.K.In h) rfl (λ h X=>keeps_K hk h X) (PySem.evalArgs_none ⟨X,by rw[Aj];exact h⟩)
theorem nO:typeLookup (.type "list") "append"=pure (some (.builtin "list.append")):=by rw[typeLookup_type,AF];kernel_rfl
theorem pY:typeLookup (.type "method_descriptor") "__get__"=pure (some (.builtin "method_descriptor.__get__")):=by rw[typeLookup_type,AF];kernel_rfl
theorem yQ:typeLookup (.type "method_descriptor") "__set__"=pure none:=by rw[typeLookup_type,AF];kernel_rfl
theorem yR:typeLookup (.type "method_descriptor") "__delete__"=pure none:=by rw[typeLookup_type,AF];kernel_rfl
theorem hE:typeOf (.builtin "list.append")=pure (.type "method_descriptor"):=by show builtinType _=_;rw[builtinType_eq_fast];kernel_rfl
theorem sI:Slot "method_descriptor" "__get__" "method_descriptor.__get__":=
 Slot.of pY (owner:="method_descriptor") (n:="__get__") (by decide +kernel) (by decide +kernel) (by decide +kernel) (.inl (by decide +kernel)) (by rw[isSubtype_type];kernel_rfl)
theorem rT:entryFor table "method_descriptor.__get__"=some Builtin.«method_descriptor.__get__»:=entryFor_of_tree (by kernel_rfl)
theorem uE(a b c:Value):argsOk "method_descriptor.__get__" ⟨[a,b,c],[]⟩:=by unfold argsOk;kernel_rfl
theorem ty_ga:typeOf (.builtin "list.__getattribute__")=pure (.type "wrapper_descriptor"):=by show builtinType _=_;rw[builtinType_eq_fast];kernel_rfl
noncomputable def eE(id:String)(self:Value):Cell:=λ o=>o={ cls:=.type "builtin_function_or_method",data:=.fields #[.builtin id,self] }
theorem nZ{prog:Program}{w:World}{A:AJ}{E:Value->Ac->Prop}{h:Heap}{g:Array GenState}{d:Drawn}{t:Nat}{os:OsState}{a:Addr}{xs:List Value}{n:Nat}{Q:Value->Ac->Prop}(hx:h.get? a=some { cls:=.type "list",data:=.seq xs.toArray n })(hq:∀ t,Q (.ref h.objs.size) ⟨h.push { cls:=.type "builtin_function_or_method",data:=.fields #[.builtin "list.append",.ref a] },g,d,t,os⟩):Ad (model prog w) A (getAttr (.ref a) "append" true) Q E ⟨h,g,d,t,os⟩:=by
 have hT:∀ t,(⟨h,g,d,t,os⟩:Ac).TypeIs (.ref a) "list":=λ _=>⟨_,hx,rfl⟩
 refine Aa (wpAny_mkText ?_);refine AC (Aa (wpAny_typeOf (hT _) ?_));refine Aa (Bi F.slot_list_getattribute.lookup ?_);refine Aa (Bi (a:=none) rfl ?_);refine Aa (Bz (AC ?_));show Ad _ _ (boundAndCalled _ _ _) _ _ _;refine Aa (Bi (a:=(.builtin "list.__getattribute__",[.ref a])) (by unfold bindSpecial;rw[ty_ga];rfl) ?_);refine wpAny_call_entry F.slot_list_getattribute (hT _) F.entry_list_ga ?_ (F.args_list_getattribute_2 _ _);have L1:Looks (model prog w) h (typeOf (.ref a)) (.type "list"):=(Looks.ld hx).andThen .now;have L2:Looks (model prog w) h (typeLookup (.type "list") "append") (some (.builtin "list.append")):=Looks.of_pure nO;have L3:Looks (model prog w) h (specialOf (.builtin "list.append") "__get__") (some (.builtin "method_descriptor.__get__")):=(Looks.of_pure hE).andThen (Looks.of_pure pY);have L4:Looks (model prog w) h (specialOf (.builtin "list.append") "__set__") none:=(Looks.of_pure hE).andThen (Looks.of_pure yQ);have L5:Looks (model prog w) h (specialOf (.builtin "list.append") "__delete__") none:=(Looks.of_pure hE).andThen (Looks.of_pure yR);dsimp only
 have hB:∀ t,(⟨h,g,d,t,os⟩:Ac).TypeIs (.builtin "list.append") "method_descriptor":=λ _=>hE
 repeat (first | (with_reducible refine wpAny_call_entry sI (hB _) rT ?_ (uE _ _ _)) | lk)
 refine⟨_,rfl,Af ⟨_,rfl,?_⟩⟩;rw[handedOut_of rfl];exact Af (hq _)
theorem Sta.getAppend{a:Addr}{xs:List Value}{Q:Value->Ac->Prop}(S:Sta W G env loc nw s)(m:(a,aA xs)∈nw)(h:∀ q s',Sta W G env loc ((q,eE "list.append" (.ref a))::nw) s'->Q (.ref q) s'):Ad W.M A (getAttr (.ref a) "append" true) Q E s:=by
 obtain⟨n,hl⟩:=S.isL m;exact nZ hl λ t=>h _ _ (S.new (c:=eE "list.append" (.ref a)) rfl rfl t)
theorem oX{value:Expr}{attr:Str}{pos:Pos}{Q:Value->Ac->Prop}(h:Ad W.M A (eval value env) (λ o s₁=>Ad W.M A (getAttr o attr true) Q E s₁) E s)(hb:attributeBase value attr env (eval value env)=eval value env):Ad W.M A (eval (.Attribute value attr pos) env) Q E s:=by
 rw[arm_eval_Attribute,hb];exact Aa (As h (λ o s₁ h₁=>Aa (AP (Aa (AC (As h₁ (λ r s₂ h₂=>Aa (wpAny_letTemporaryGo (Af h₂))) λ _ _ x=>x))))) λ _ _ x=>x)
theorem uC(names:List Str)(hn:names.Nodup):aS (names.map λ k=>(k,none)) emptyDict:=by
 refine⟨by rw[AZ];simpa[Function.comp_def]using hn,rfl,#[],0,rfl,λ e he=>by simp at he,λ x=>by rw[jR];rfl,?_⟩;unfold cnt
 induction names with
 | nil=>rfl
 | cons k r ih=>simpa using ih (by simp at hn;exact hn.2)
theorem Sta.make{C fI:Addr}(names:List Str){rest:List Value}{kw:List (Str×Value)}{Q:Value->Ac->Prop}(S:Sta W G env loc nw s)(hn:names.Nodup)(hm:makesIn W.K C=true)(hi:findIn W.K (.ref C) "__init__"=some (some (.ref fI)))(hf:typeIn W.K (.ref fI)=some (.type "function"))(h:∀ x dx s',Sta W G env loc ((x,bG C dx)::(dx,aS (names.map λ k=>(k,none)))::nw) s'-> codeAny W.M (A.under (.builtin "type.__call__" ⟨.ref C::rest,kw⟩)) (.call (.ref fI) ⟨.ref x::rest,kw⟩) (λ r s''=>r=.ok (.ret .none)/\Q (.ref x) s'') s'):Ad W.M A (call (.ref C) rest kw) Q E s:=by
 have K0:=S.kin;have S1:=S.new (c:=aS (names.map λ k=>(k,none))) (o:=emptyDict) rfl (uC names hn) s.toks;have S2:=S1.new (c:=bG C s.heap.objs.size) (o:=instObj C s.heap.objs.size) rfl rfl s.toks;refine wpAny_call ?_;obtain⟨hh,g,d,t,os⟩:=s;refine make_core (makes_of K0 hm) (looks_findIn K0 hi) (λ self=>bind_fn K0 self hf) (.inl rfl) ?_;have e:(hh.push emptyDict).objs.size=hh.objs.size+1:=Heap.size_push ..;have:=h _ _ _ S2;dsimp only at this;rw[e]at this;refine codeAny_mono this λ r s'' q=>?_;obtain⟨rfl,q⟩:=q;exact⟨rfl,q⟩
theorem aA6{k:Nat}{C:Addr}{rest:List Value}{kw:List (Str×Value)}(hA:Aok (k+1) A):Aok k (A.under (.builtin "type.__call__" ⟨.ref C::rest,kw⟩)):=by
 have hw:(Code.builtin "type.__call__" ⟨.ref C::rest,kw⟩).weight=1:=by rfl
 have hu:(Code.builtin "type.__call__" ⟨.ref C::rest,kw⟩).cUnits=1:=by rfl
 refine⟨hA.handled,?_,?_⟩
 ·have:=hA.depth;unfold Around.under;show A.depth+1+k<_;walk_at "o"
 ·have:=hA.units;unfold Around.under;show A.units+1+8*k<_;walk_at "o"
theorem xK{A:AJ}{s:Ac}{l b:Addr}{xs ys:List Value}(hl:s.heap.IsList l xs.toArray)(hb:s.heap.IsList b ys.toArray)(hz:xs.length=ys.length)(hu:A.units<cLine)(he:∀ j (h1:j<xs.length) (h2:j<ys.length),EqAt A.in1 s xs[j] ys[j] true):RcAt A s (.ref l) (.ref b) true:=by
 have:=RcAt.lists (e:=λ _=>true) hl hb (by simpa using hz) hu (λ j h1 h2=>by simpa using he j (by simpa using h1) (by simpa using h2));have e:(AY xs.toArray.size).all (λ _=>true)=true:=by simp
 rwa[e]at this
theorem aD1{A:AJ}{s:Ac}{l b:Addr}(h:RcAt A s (.ref l) (.ref b) true):EqAt A s (.ref l) (.ref b) true:=by
 by_cases e:l=b
 ·subst e;exact EqAt.same _
 ·exact EqAt.of_refs e h
noncomputable def jB(d:Addr):Cell:=λ o=>o={ cls:=.type "dict_items",data:=.fields #[.ref d] }
theorem Sta.eqOp{l b:Addr}{Q:Value->Ac->Prop}(_S:Sta W G env loc nw s)(h:RcAt A s (.ref l) (.ref b) true)(hq:Q (.bool true) s):Ad W.M A (compareOp .Eq (.ref l) (.ref b)) Q E s:=h _ _ _ _ hq
theorem gE{P:Program}{w:World}{h h':Heap}{d:Addr}{kvs:List (Str×Value)}{ep:Nat}(x:h.DictAt (PySem.strKind P w) d kvs ep)(k:∀ b o,h.get? b=some o->h'.get? b=some o):h'.DictAt (PySem.strKind P w) d kvs ep:=
 let⟨o,es,e,r⟩:=x;⟨o,es,k _ _ e,r⟩
theorem Sta.items{d:Addr}{kvs:List (Str×Value)}{ep:Nat}{Q:Value->Ac->Prop}(S:Sta W G env loc nw s)(hm:W.B.DictAt (PySem.strKind W.prog W.w) d kvs ep)(hd:(d==sysModules)=false)(h:∀ r s',Sta W G env loc ((r,jB d)::nw) s'->Q (.ref r) s'):Ad W.M A (call (.builtin "dict.items") [.ref d]) Q E s:=by
 have hD:=gE hm S.led.keep;have hO:s.heap.DictOf (PySem.strKind W.prog W.w) d kvs:=by
  obtain⟨o,es,e,a,b,c⟩:=hD;exact⟨o,es,ep,e,a,b,c⟩
 exact call_meetsIn PySem.F.slot_dict_items hO.typeIs PySem.F.entry_dict_items (PySem.F.args_dict_items_1 _) (meets_dict_items (PySem.strKind W.prog W.w) d hd) ⟨⟨kvs,hO⟩,h _ _ (S.new (c:=jB d) rfl rfl s.toks)⟩
theorem Sta.getM_dict{name:Str}{d:Addr}{kvs:List (Str×Value)}{ep:Nat}{Q:Value×List Value->Ac->Prop}{id:String}(S:Sta W G env loc nw s)(hm:W.B.DictAt (PySem.strKind W.prog W.w) d kvs ep)(slot:Slot "dict" name id)(hty:typeOf (.builtin id)=pure (.type "method_descriptor"))(h:Q (.builtin id,[.ref d]) s):GetM W.M A E name (.ref d) Q s:=by
 obtain⟨o,es,e,a,b,c⟩:=gE hm S.led.keep;exact dO F.plainAttrs_dict slot hty ⟨_,e,a.1⟩ (λ b e'=>by cases e';exact⟨_,e,a.2.1⟩) h
theorem fF{o:Expr}{attr:Str}{pos':Pos}{value:Expr}{pos:Pos}{Q:Flow->Ac->Prop}(h:Ad W.M A (eval value env) (λ v s₁=>Ad W.M A (eval o env) (λ ov s₂=>Ad W.M A (setAttr ov attr v) (λ _=>Q .next) E s₂) E s₁) E s)(hs:swapsWith value (some (.Attribute o attr pos')) pos.line env=pure false):Ad W.M A (exec (.Assign [.Attribute o attr pos'] value pos) env) Q E s:=plainObj_wpAny_Assign_Attribute h hs
theorem eZ{P R:Prop}(h:P):(if true=true then P else R):=by rw[if_pos rfl];exact h
theorem dG{P R:Prop}(h:R):(if false=true then P else R):=by rw[if_neg (by decide)];exact h
theorem aDO{P R:Prop}(h:P):(if(!false)=true then P else R):=by rw[if_pos (by decide)];exact h
theorem aDN{P R:Prop}(h:R):(if(!true)=true then P else R):=by rw[if_neg (by decide)];exact h
theorem Sta.dict0{pos:Pos}{Q:Value->Ac->Prop}{M:Model}(S:Sta W G env loc nw s)(h:∀ a s',Sta W G env loc ((a,bZ { cls:=.type "dict",data:=.dict #[] })::nw) s'->Q (.ref a) s'):Ad M A (eval (.Dict [] [] pos) env) Q E s:=
 wpAny_Dict_empty (h _ _ (S.new (c:=bZ { cls:=.type "dict",data:=.dict #[] }) rfl rfl s.toks))
theorem cT{M:Model}{pos:Pos}{id:String}{self:Value}{e:Expr}{rest:List Expr}{Q:Value->Ac->Prop}(h:Ad M A (spliced (backTo pos (Aw (e::rest) env))) (λ vs s₁=>Ad M A (call (.builtin id) (self::vs)) Q E s₁) E s)(he:Aw (e::rest) env=(false,eval e env)::Aw rest env)(hplain:(backTo pos (Aw rest env)).any (·.1)=false):Ad M A (callWith pos (.builtin id) [self] (backTo pos (Aw (e::rest) env)) (backToKw pos (keywordEach [] env))) Q E s:=tY h he hplain
theorem bR{pos:Pos}{f:Addr}{e:Expr}{rest:List Expr}{Q:Value->Ac->Prop}(hk:keepIn W.K (.ref f)=true)(h:Ad W.M A (spliced (backTo pos (Aw (e::rest) env))) (λ vs s₁=>W.K.In s₁.heap/\Ad W.M A (call (.ref f) vs) Q E s₁) E s)(he:Aw (e::rest) env=(false,eval e env)::Aw rest env)(hplain:(backTo pos (Aw rest env)).any (·.1)=false):Ad W.M A (callWith pos (.ref f) [] (backTo pos (Aw (e::rest) env)) []) Q E s:=aCN (first:=[]) hk h he hplain
theorem eB{pos:Pos}{f:Addr}{self:Value}{e:Expr}{rest:List Expr}{Q:Value->Ac->Prop}(hk:keepIn W.K (.ref f)=true)(h:Ad W.M A (spliced (backTo pos (Aw (e::rest) env))) (λ vs s₁=>W.K.In s₁.heap/\Ad W.M A (call (.ref f) (self::vs)) Q E s₁) E s)(he:Aw (e::rest) env=(false,eval e env)::Aw rest env)(hplain:(backTo pos (Aw rest env)).any (·.1)=false):Ad W.M A (callWith pos (.ref f) [self] (backTo pos (Aw (e::rest) env)) (backToKw pos (keywordEach [] env))) Q E s:=aCN (first:=[self]) hk h he hplain
inductive Pull {α:Type} (p:α):List α->List α->Prop
 | head {r}:Pull p (p::r) r
 | tail {q r r'}:Pull p r r'->Pull p (q::r) (q::r')
theorem Pull.perm{α:Type}{p:α}{l l':List α}(h:Pull p l l'):l.Perm (p::l'):=by
 induction h with
 | head=>exact List.Perm.refl _
 | tail h ih=>exact(List.Perm.cons _ ih).trans (List.Perm.swap ..)
noncomputable def Sel(L L2:Lg):Prop:=∃ rest,L.Perm (L2++rest)
theorem Sel.refl(L:Lg):Sel L L:=⟨[],by rw[Aj]⟩
theorem Sel.drop{q:Addr×Cell}{L L2:Lg}(h:Sel L L2):Sel (q::L) L2:=by
 obtain⟨r,h⟩:=h;exact⟨q::r,(List.Perm.cons _ h).trans AM.symm⟩
theorem Sel.cons{p:Addr×Cell}{L L' L2:Lg}(hp:Pull p L L')(h:Sel L' L2):Sel L (p::L2):=by
 obtain⟨r,h⟩:=h;exact⟨r,hp.perm.trans (List.Perm.cons _ h)⟩
theorem Sel.of_perm{L L2:Lg}(h:L.Perm L2):Sel L L2:=⟨[],by rw[Aj];exact h⟩
theorem Sel.trans{L L2 L3:Lg}(h:Sel L L2)(k:Sel L2 L3):Sel L L3:=by
 obtain⟨r,h⟩:=h;obtain⟨r',k⟩:=k;exact⟨r'++r,h.trans ((List.Perm.append_right r k).trans (by rw[Ai]))⟩
theorem Sta.sel{W:Wd}{G:Gens}{env:Env}{loc:Loc}{nw nw':Lg}{s:Ac}(S:Sta W G env loc nw s)(h:Sel nw nw'):Sta W G env loc nw' s:=by
 obtain⟨r,h⟩:=h;exact(S.perm h).sub (AO _ _)
theorem cR{b:Bool}{P R:Prop}(h1:b=true->P)(h2:b=false->R):(if b=true then P else R):=by
 cases b with
 | true=>exact h1 rfl
 | false=>exact h2 rfl
theorem IntsAre.snoc{vs:List Value}{ns:List Int}(h:IntsAre vs ns)(n:Int)(t:Tok):IntsAre (vs++[.int n t]) (ns++[n]):=by
 induction h with
 | nil=>exact .cons n t .nil
 | cons m u h ih=>exact .cons m u ih
theorem IntsAre.unsnoc{vs:List Value}{ns:List Int}{n:Int}(h:IntsAre vs (ns++[n])):∃ vs' t,vs=vs'++[.int n t]/\IntsAre vs' ns:=by
 induction ns generalizing vs with
 | nil=>cases h with | cons n t h=>cases h;exact⟨[],t,rfl,.nil⟩
 | cons m r ih=>
  cases h with
  | cons m u h=>
   obtain⟨vs',t,e,k⟩:=ih h;exact⟨.int m u::vs',t,by rw[e];rfl,.cons m u k⟩
theorem IntsAre.length'{vs:List Value}{ns:List Int}(h:IntsAre vs ns):vs.length=ns.length:=by
 induction h with
 | nil=>rfl
 | cons m u h ih=>rw [A9,A9,ih]
theorem IntsAre.getAt{vs:List Value}{ns:List Int}(h:IntsAre vs ns):∀(k:Nat) (h:k<ns.length),∃ t,vs[k]?=some (.int ns[k] t):=by
 induction h with
 | nil=>intro k h;cases h
 | cons n t h ih=>
  intro k hk;cases k with
  | zero=>exact⟨t,rfl⟩
  | succ k=>
   obtain⟨u,e⟩:=ih k (by simpa using hk);exact⟨u,by simpa using e⟩
theorem IntsAre.setAt{vs:List Value}{ns:List Int}(h:IntsAre vs ns):∀(k:Nat) (n:Int) (t:Tok),IntsAre (vs.set k (.int n t)) (ns.set k n):=by
 induction h with
 | nil=>intro k n t;exact .nil
 | cons m u h ih=>
  intro k n t;cases k with
  | zero=>exact .cons n t h
  | succ k=>exact .cons m u (ih k n t)
theorem St0.kin(S:St0 W G nw s):W.K.In s.heap:=S.ok.kin.keeps S.led.keep
theorem St0.nolimit(S:St0 W G nw s):s.heap.NoLimit:=S.ok.nolimit.keeps S.led.keep
theorem St0.code_def{R:Result->Ac->Prop}{f:Addr}{name qual:Str}{st:Stmt}{dV kV doc pm cdv ct oc:Value}{an od:Option Addr}{osl:Array (Option Value)}{args:Args}{binds:List (Str×Value)}(rest:List Str)(S:St0 W G nw s)(hroom:A.depth<Be)(ho:W.K.lookup f=some ⟨oc,od,.func (fnOf name qual (dP st) (aH st) (aD st) dV kV doc pm an cdv ct),osl⟩)(hcd:codeIn W.K cdv qual=true)(hbind:BindsTo s (fnOf name qual (dP st) (aH st) (aD st) dV kV doc pm an cdv ct) args binds)(hk:dL (aD st) (binds.map Prod.fst++rest)=true)(h:∀ L s',Sta W G (envOf qual (aD st) L f cdv) (aT binds rest) nw s'->
   Ad W.M (A.deeper (envOf qual (aD st) L f cdv)) (execs (aH st) (envOf qual (aD st) L f cdv)) (λ fl s''=>R (.ok (.ret (match fl with | .ret v=>v | _=>.none))) s'') (λ _ _=>False) s'):codeAny W.M A (.call (.ref f) args) R s:=by
 refine eY hk ?_;clear hk;intro hkind hco hgen hcell hks hnd;have hks2:((aT binds rest).map Prod.fst)=binds.map Prod.fst++rest:=by
  simp[aT,AZ,Function.comp_def]
 refine(codeAny_call_def (fd:=fnOf name qual (dP st) (aH st) (aD st) dV kV doc pm an cdv ct) (body:=aH st) (binds:=binds) hroom (S.kin _ _ ho) rfl S.nolimit (codeRec_of S.kin hcd) rfl hbind hcell
  (λ x hx=>(hks x.1 (Am _ (Ah.mpr ⟨x,hx,rfl⟩))).1) (λ h₁ hns hkp=>?_) hco hgen hkind)
 have D:Led W.B ((s.heap.objs.size,aI (aT binds rest))::nw) h₁:=by
  obtain⟨o,es,ep,ho',hd,hsk,hf⟩:=hns;refine S.led.cons_new hkp S.led.size_ne S.led.size_new ho' ⟨by rw[hks2];exact hnd,es,ep,hd,hsk,λ x=>?_⟩;rw[hf x,eV _ _ (hnd.sublist (AO _ _))]
 have S':Sta W G (envOf qual (aD st) s.heap.objs.size f cdv) (aT binds rest) nw { s with heap:=h₁,toks:=s.toks+binds.length }:=
  ⟨S.ok,by rw[hks2];exact⟨hkind,rfl,rfl,λ x hx=>(hks x hx).1,λ x hx=>(hks x hx).2,hnd⟩,D,S.bare,S.os,S.gens,S.gnd⟩
 exact As (h _ _ S') (λ fl s'' q=>q) (λ _ _ q=>q.elim)
theorem St0.code{R:Result->Ac->Prop}{f:Addr}{qual:Str}{st:Stmt}{dV kV cdv:Value}{pos:List Value}{kw:List (Str×Value)}{binds:List (Str×Value)}(rest:List Str)(S:St0 W G nw s)(hf:Fn W.K f st qual dV kV cdv)(hroom:A.depth<Be)(hbind:lS s st qual dV kV cdv ⟨pos,kw⟩ binds)(hk:dL (aD st) (binds.map Prod.fst++rest)=true)(h:∀ L s',Sta W G (envOf qual (aD st) L f cdv) (aT binds rest) nw s'->
   Ad W.M (A.deeper (envOf qual (aD st) L f cdv)) (execs (aH st) (envOf qual (aD st) L f cdv)) (λ fl s''=>R (.ok (.ret (match fl with | .ret v=>v | _=>.none))) s'') (λ _ _=>False) s'):codeAny W.M A (.call (.ref f) ⟨pos,kw⟩) R s:=by
 refine vF hf.at_ ?_;intro name doc pm ct oc an od osl ho;exact S.code_def (args:=⟨pos,kw⟩) rest hroom ho hf.code (hbind _ _ _ _ _) hk h
theorem St0.codeC{R:Result->Ac->Prop}{f:Addr}{qual:Str}{st:Stmt}{dV kV cdv:Value}{pos:List Value}{kw:List (Str×Value)}{binds:List (Str×Value)}(bl:List (Str×Value))(rest:List Str)(cv:List (Option Value))(S:St0 W G nw s)(hf:Fn W.K f st qual dV kV cdv)(hroom:A.depth<Be)(hbind:lS s st qual dV kV cdv ⟨pos,kw⟩ binds)(hbl:aBH (aD st) binds=bl)(hcv:(aU (aD st).names).map (λ n=>binds.lookup n)=cv)(hk:rM (aD st) binds (bl.map Prod.fst++rest)=true)(h:∀ L cs s',ClA (envOfC qual (aD st) L f cdv) (aU (aD st).names) cs->Sta W G (envOfC qual (aD st) L f cdv) (aT bl rest) (dB cv cs++nw) s'->
   Ad W.M (A.deeper (envOfC qual (aD st) L f cdv)) (execs (aH st) (envOfC qual (aD st) L f cdv)) (λ fl s''=>R (.ok (.ret (match fl with | .ret v=>v | _=>.none))) s'') (λ _ _=>False) s'):codeAny W.M A (.call (.ref f) ⟨pos,kw⟩) R s:=by
 refine vF hf.at_ ?_;intro name doc pm ct oc an od osl ho;refine nS hk ?_;clear hk;intro hkind hco hgen hbk hks hnd hbnd hcnd hcs;have hks2:((aT bl rest).map Prod.fst)=bl.map Prod.fst++rest:=by
  simp[aT,AZ,Function.comp_def]
 have hlk:∀ i (hi:i<(aU (aD st).names).length),(cellsFrom (s.heap.objs.size+1) (aD st).names []).lookup (aU (aD st).names)[i]=some (s.heap.objs.size+1+i):=λ i hi=>by
  rw[(kC _ _ _)];exact gO _ _ hcnd i hi
 refine(codeAny_call_function (fd:=fnOf name qual (dP st) (aH st) (aD st) dV kV doc pm an cdv ct) hroom (S.kin _ _ ho) rfl hco hgen rfl (codeRec_of S.kin hf.code) (hbind _ _ _ _ _ _ _ _ _ ?_));refine wpAny_newFunctionEnv_cells hkind (λ x hx=>?_) λ env' he s' X=>?_
 ·rcases hbk x hx with q | q
  ·exact .inl q
  ·refine .inr ⟨q,?_⟩;have:x.1∈aU (aD st).names:=by
    refine Ah.mpr ⟨(x.1,.cell),List.mem_filter.mpr ⟨mem_of_lookup q,rfl⟩,rfl⟩
   obtain⟨i,hi,e⟩:=BN this;rw[←e,hlk i hi];rfl
 ·subst he;obtain⟨h₁,tk,e⟩:=X.toInCall.same;refine⟨S.nolimit.keeps (X.toInCall.keep),codeAny_func ?_⟩;have hlen:cv.length=(aU (aD st).names).length:=by rw[←hcv];simp
  have D:Led W.B (dB cv (Bg (s.heap.objs.size+1) cv.length)++((s.heap.objs.size,aI (aT bl rest))::nw)) s'.heap:=by
   have D0:Led W.B ((s.heap.objs.size,aI (aT bl rest))::nw) s'.heap:=by
    obtain⟨o,es,ep,ho',hd,hsk,hf⟩:=X.toInCall.ns;refine S.led.cons_new (X.toInCall.keep) S.led.size_ne S.led.size_new ho' ⟨by rw[hks2];exact hnd,es,ep,hd,hsk,λ x=>?_⟩;rw[hf x,tZ _ _ _ _ hbnd,Option.or_none,eV _ _ (hnd.sublist (AO _ _))];show(aBH (aD st) binds).lookup x=_;rw[hbl];have hrev:∀(l:List (Str×Value)),(l.map Prod.fst).Nodup->l.lookup x=l.reverse.lookup x:=by
     intro l hl
     induction l with
     | nil=>rfl
     | cons p r ih=>
      rw[Ak,AH]at hl;rw[List.reverse_cons,List.lookup_append,←ih hl.2,Bc,Bc]
      by_cases q:x=p.1
      ·subst q;have:r.lookup p.1=none:=by
        rw[Bl];intro z hz;rw[bne_iff_ne];exact λ e=>hl.1 (Ah.mpr ⟨z,hz,e.symm⟩)
       simp[this]
      ·rw[beq_eq_false_iff_ne.mpr q];simp
    exact hrev bl (hnd.sublist (AO _ _))
   have hcell:∀ i (hi:i<cv.length),s'.heap.IsCell (s.heap.objs.size+1+i) cv[i]:=λ i hi=>by
    have hi':i<(aU (aD st).names).length:=by rw[←hlen];exact hi
    have:=X.cell _ _ (hlk i hi');have e2:bindC (newEnv (aD st) s.heap.objs.size AL (cellsFrom (s.heap.objs.size+1) (aD st).names []) (qual++".<locals>.") (some f) cdv none builtinsNs).kindOf binds (λ _=>none) (aU (aD st).names)[i]=cv[i]:=by
     rw[uA _ _ _ _ hbnd (by show(aD st).names.lookup _≠_;rw[((hcs _ (Bb hi')).1.1)];decide),Option.or_none];simp only[←hcv,List.getElem_map]
    rw[←e2];exact this
   refine⟨D0.keep,λ p hp=>?_,?_⟩
   ·rcases AW.mp hp with hp | hp
    ·obtain⟨i,q0⟩:=lR _ _ _ hp;obtain⟨hi,rfl⟩:=q0;obtain⟨o,ho2,hd2⟩:=hcell i hi;refine⟨?_,o,ho2,hd2⟩;cases q:W.B.get? (s.heap.objs.size+1+i)with
     | none=>rfl
     | some o2=>exact absurd (Heap.lt_size (S.led.keep _ _ q)) (λ hh=>by
       walk_at "o")
    ·exact D0.own p hp
   ·rw[Ao,Bq,kD];refine⟨List.nodup_range',D0.nodup,λ a ha b hb e=>?_⟩;subst e;have hge:s.heap.objs.size+1<=a:=by
     have:=List.mem_range'_1.mp ha;exact this.1
    rcases At.mp hb with q | hb
    ·exact absurd q (Nat.ne_of_gt hge)
    ·obtain⟨p,hp,q⟩:=Ah.mp hb;obtain⟨o,ho2,_⟩:=(S.led.own p hp).2;have hl:p.1<s.heap.objs.size:=Heap.lt_size ho2;exact absurd q (Bx (Nat.lt_trans hl hge))
  have S':Sta W G (envOfC qual (aD st) s.heap.objs.size f cdv) (aT bl rest) (dB cv (Bg (s.heap.objs.size+1) cv.length)++nw) s':=by
   subst e;refine⟨S.ok,by rw[hks2];exact⟨hkind,rfl,rfl,λ x hx=>(hks x hx).1,λ x hx=>(hks x hx).2,hnd⟩,D.perm AM,S.bare,S.os,S.gens,S.gnd⟩
  refine As (h _ _ _ ?_ S') (λ fl s'' q=>q) (λ _ _ q=>q.elim);rw[hlen];refine oJ _ _ λ i hi=>⟨(hcs _ (Bb hi)).1.1,hlk i hi,(hcs _ (Bb hi)).1.2,(hcs _ (Bb hi)).2⟩
theorem kn_postG{M:Model}{A:AJ}{cd:Code}{s s₁:Ac}{cw:ClaimW}{cl:Str->Option Addr}{mean:ExcName->Option Value}{args:List WData}{tabs:List (Addr×Addr)}(hT:TabsAt tabs s₁.heap)(hr:∀ x,cw.raises args x=false)(hp:cw.post args (.bool true) args=true)(h:codeAny M A cd (λ r s'=>r=.ok (.ret (.bool true))/\(∀ b o,(ghostOf s₁.heap tabs).get? b=some o->s'.heap.get? b=some o)/\s'.os=s₁.os/\AllBare s'.gens/\GrownAll tabs s'.heap) s):codeAny M A cd (GoodWG cw cl mean args s₁) s:=
 codeAny_mono h λ r s' ⟨hr1,hk,hos,hg,hgr⟩=>by
  have grown:∀ b o,b∈tabs.map (·.2)->s₁.heap.get? b=some o->isCodeTable s₁.heap b/\o=tabObj #[]/\∃ ps,s'.heap.get? b=some (tabObj ps):=λ b o hb e=>by
   obtain⟨q,hq,rfl⟩:=Ah.mp hb;have e2:=(hT q hq).2;rw[e]at e2;exact⟨((hT q hq).1.tab (hT q hq).2).isCodeTable,Option.some.inj e2,hgr.get q hq⟩
  refine⟨.inl ⟨_,_,[],hr1,hr,ReadsW.bool true,hp,λ _=>⟨List.nodup_nil,λ _ hm=>(nomatch hm)⟩⟩,⟨λ b o e=>?_,λ b o e=>?_⟩,hos,hg⟩
  ·by_cases hb:b∈tabs.map (·.2)
   ·obtain⟨ht,rfl,q0⟩:=grown b o hb e;obtain⟨ps,hP⟩:=q0;exact .inr (.inl ⟨ht,rfl,#[],ps,rfl,by rw[Array.empty_append];exact hP⟩)
   ·exact .inl ((λ b o hb e=>hk b o (ghost_ne e hb)) b o hb e)
  ·by_cases hb:b∈tabs.map (·.2)
   ·obtain⟨_,_,q0⟩:=grown b o hb e;obtain⟨ps,hP⟩:=q0;exact⟨_,hP⟩
   ·exact⟨o,(λ b o hb e=>hk b o (ghost_ne e hb)) b o hb e⟩
noncomputable def tabLed(tabs:List (Addr×Addr)):Lg:=tabs.map λ q=>(q.2,kH [])
theorem sta0_of{W:Wd}{p:Program}{loose:List Str}{mean:ExcName->Option Value}{mg mb:Str->Option Value}{s₁:Ac}{tabs:List (Addr×Addr)}(hT:TabsAt tabs s₁.heap)(hn:(tabs.map (·.2)).Nodup)(X:W.K.In s₁.heap)(hK:noTabs W.K=true)(T:Top p loose mean mg mb s₁.heap)(hg:s₁.gens=#[])(hB:W.B=ghostOf s₁.heap tabs)(ho:W.os=s₁.os):St0 W [] (tabLed tabs) s₁:=by
 refine⟨⟨?_,?_⟩,⟨?_,?_,?_⟩,.of_eq hg,ho.symm,λ _ h=>by simp at h,List.nodup_nil⟩
 ·rw[hB];exact ghost_K hT X hK
 ·rw[hB];exact⟨_,_,_,_,ghost_top hT T⟩
 ·intro b o e;rw[hB]at e;exact of_hideAll _ e
 ·intro q hq;obtain⟨r,hr,rfl⟩:=Ah.mp hq;exact⟨by rw[hB];exact hideAll_none _ (List.mem_map_of_mem hr),_,(hT r hr).2,rfl⟩
 ·simpa[tabLed,AZ,Function.comp_def]using hn
noncomputable def aQ(K:Frag)(f:Addr):FuncData:=match K.lookup f with
 | some ⟨_,_,.func fd,_⟩=>fd
 | _=>default
noncomputable def bD(K:Frag)(f:Addr):Obj:=(K.lookup f).getD default
noncomputable def sfN:List Str:=["_write","_data","_with_comments","_strip_text","_exclude_attrs","_exclude_tags","_rewrite_prefixes","_qname_aware_tags","_find_qname_aware_attrs","_declared_ns_stack","_ns_stack","_prefix_map","_preserve_space","_pending_start","_root_seen","_root_done","_ignored_depth"]
theorem aCi:bootBuiltins "list"=some (.type "list"):=by kernel_rfl
theorem kY:bootBuiltins "len"=some (.builtin "len"):=by kernel_rfl
theorem aEd:bootBuiltins "sum"=some (.builtin "sum"):=by kernel_rfl
theorem aA3:bootBuiltins "str"=some (.type "str"):=by kernel_rfl
theorem oM:bootBuiltins "range"=some (.type "range"):=by kernel_rfl
theorem wJ:bootBuiltins "set"=some (.type "set"):=by kernel_rfl
theorem qF:bootBuiltins "sorted"=some (.builtin "sorted"):=by kernel_rfl
noncomputable abbrev pp:Program:=PySem.Challenge.pw_dn0284_04
noncomputable abbrev KK(P:Params):Frag:=hd.heap_1 P
structure IsC (W:Wd):Prop where
 k:W.K=KK W.w.params
noncomputable def stC:Stmt:=cU pp 6
noncomputable def mW:Stmt:=cU pp 4
theorem aAK(P:Params):Fn (KK P) 44 mW "_raise_serialization_error" .none .none (.ref 43):=
 ⟨⟨(aQ (KK P) 44).name,(aQ (KK P) 44).doc,(aQ (KK P) 44).pyModule,(aQ (KK P) 44).closureTuple,(bD (KK P) 44).cls,(aQ (KK P) 44).annotations,(bD (KK P) 44).dict,(bD (KK P) 44).slots,by kernel_rfl⟩,by kernel_rfl⟩
theorem IsC.f_raise{W:Wd}(I:IsC W):Fn W.K 44 mW "_raise_serialization_error" .none .none (.ref 43):=by rw[I.k];exact aAK _
theorem IsC.g_raise{W:Wd}(I:IsC W):nsIn W.K AL "_raise_serialization_error"=some (some (.ref 44)):=by rw[I.k];kernel_rfl
noncomputable def qM:Stmt:=cU pp 7
theorem aBS(P:Params):Fn (KK P) 154 qM "_escape_cdata_c14n" .none .none (.ref 153):=
 ⟨⟨(aQ (KK P) 154).name,(aQ (KK P) 154).doc,(aQ (KK P) 154).pyModule,(aQ (KK P) 154).closureTuple,(bD (KK P) 154).cls,(aQ (KK P) 154).annotations,(bD (KK P) 154).dict,(bD (KK P) 154).slots,by kernel_rfl⟩,by kernel_rfl⟩
theorem IsC.f_escC{W:Wd}(I:IsC W):Fn W.K 154 qM "_escape_cdata_c14n" .none .none (.ref 153):=by rw[I.k];exact aBS _
theorem IsC.g_escC{W:Wd}(I:IsC W):nsIn W.K AL "_escape_cdata_c14n"=some (some (.ref 154)):=by rw[I.k];kernel_rfl
noncomputable def wQ:Stmt:=cU pp 8
theorem aBT(P:Params):Fn (KK P) 161 wQ "_escape_attrib_c14n" .none .none (.ref 160):=
 ⟨⟨(aQ (KK P) 161).name,(aQ (KK P) 161).doc,(aQ (KK P) 161).pyModule,(aQ (KK P) 161).closureTuple,(bD (KK P) 161).cls,(aQ (KK P) 161).annotations,(bD (KK P) 161).dict,(bD (KK P) 161).slots,by kernel_rfl⟩,by kernel_rfl⟩
theorem IsC.f_escA{W:Wd}(I:IsC W):Fn W.K 161 wQ "_escape_attrib_c14n" .none .none (.ref 160):=by rw[I.k];exact aBT _
theorem IsC.g_escA{W:Wd}(I:IsC W):nsIn W.K AL "_escape_attrib_c14n"=some (some (.ref 161)):=by rw[I.k];kernel_rfl
noncomputable def cJ:Stmt:=cU pp 18
theorem aDU(P:Params):Fn (KK P) 218 cJ "law" .none .none (.ref 217):=
 ⟨⟨(aQ (KK P) 218).name,(aQ (KK P) 218).doc,(aQ (KK P) 218).pyModule,(aQ (KK P) 218).closureTuple,(bD (KK P) 218).cls,(aQ (KK P) 218).annotations,(bD (KK P) 218).dict,(bD (KK P) 218).slots,by kernel_rfl⟩,by kernel_rfl⟩
theorem IsC.f_law{W:Wd}(I:IsC W):Fn W.K 218 cJ "law" .none .none (.ref 217):=by rw[I.k];exact aDU _
noncomputable def cV:Stmt:=cU pp 10
theorem rP(P:Params):Fn (KK P) 166 cV "_law_spelled" .none .none (.ref 165):=
 ⟨⟨(aQ (KK P) 166).name,(aQ (KK P) 166).doc,(aQ (KK P) 166).pyModule,(aQ (KK P) 166).closureTuple,(bD (KK P) 166).cls,(aQ (KK P) 166).annotations,(bD (KK P) 166).dict,(bD (KK P) 166).slots,by kernel_rfl⟩,by kernel_rfl⟩
theorem IsC.f_l_spelled{W:Wd}(I:IsC W):Fn W.K 166 cV "_law_spelled" .none .none (.ref 165):=by rw[I.k];exact rP _
theorem IsC.g_l_spelled{W:Wd}(I:IsC W):nsIn W.K AL "_law_spelled"=some (some (.ref 166)):=by rw[I.k];kernel_rfl
noncomputable def bY:Stmt:=cU pp 14
theorem vY(P:Params):Fn (KK P) 192 bY "_law_calls" .none .none (.ref 191):=
 ⟨⟨(aQ (KK P) 192).name,(aQ (KK P) 192).doc,(aQ (KK P) 192).pyModule,(aQ (KK P) 192).closureTuple,(bD (KK P) 192).cls,(aQ (KK P) 192).annotations,(bD (KK P) 192).dict,(bD (KK P) 192).slots,by kernel_rfl⟩,by kernel_rfl⟩
theorem IsC.f_l_calls{W:Wd}(I:IsC W):Fn W.K 192 bY "_law_calls" .none .none (.ref 191):=by rw[I.k];exact vY _
theorem IsC.g_l_calls{W:Wd}(I:IsC W):nsIn W.K AL "_law_calls"=some (some (.ref 192)):=by rw[I.k];kernel_rfl
noncomputable def kK:Stmt:=cU pp 15
theorem yX(P:Params):Fn (KK P) 199 kK "_law_tell" .none .none (.ref 198):=
 ⟨⟨(aQ (KK P) 199).name,(aQ (KK P) 199).doc,(aQ (KK P) 199).pyModule,(aQ (KK P) 199).closureTuple,(bD (KK P) 199).cls,(aQ (KK P) 199).annotations,(bD (KK P) 199).dict,(bD (KK P) 199).slots,by kernel_rfl⟩,by kernel_rfl⟩
theorem IsC.f_l_tell{W:Wd}(I:IsC W):Fn W.K 199 kK "_law_tell" .none .none (.ref 198):=by rw[I.k];exact yX _
theorem IsC.g_l_tell{W:Wd}(I:IsC W):nsIn W.K AL "_law_tell"=some (some (.ref 199)):=by rw[I.k];kernel_rfl
noncomputable def fP:Stmt:=cU pp 11
theorem yW(P:Params):Fn (KK P) 173 fP "_law_text" .none .none (.ref 172):=
 ⟨⟨(aQ (KK P) 173).name,(aQ (KK P) 173).doc,(aQ (KK P) 173).pyModule,(aQ (KK P) 173).closureTuple,(bD (KK P) 173).cls,(aQ (KK P) 173).annotations,(bD (KK P) 173).dict,(bD (KK P) 173).slots,by kernel_rfl⟩,by kernel_rfl⟩
theorem IsC.f_l_text{W:Wd}(I:IsC W):Fn W.K 173 fP "_law_text" .none .none (.ref 172):=by rw[I.k];exact yW _
theorem IsC.g_l_text{W:Wd}(I:IsC W):nsIn W.K AL "_law_text"=some (some (.ref 173)):=by rw[I.k];kernel_rfl
noncomputable def gB:Stmt:=cU pp 13
theorem rQ(P:Params):Fn (KK P) 187 gB "_law_outside" .none .none (.ref 186):=
 ⟨⟨(aQ (KK P) 187).name,(aQ (KK P) 187).doc,(aQ (KK P) 187).pyModule,(aQ (KK P) 187).closureTuple,(bD (KK P) 187).cls,(aQ (KK P) 187).annotations,(bD (KK P) 187).dict,(bD (KK P) 187).slots,by kernel_rfl⟩,by kernel_rfl⟩
theorem IsC.f_l_outside{W:Wd}(I:IsC W):Fn W.K 187 gB "_law_outside" .none .none (.ref 186):=by rw[I.k];exact rQ _
theorem IsC.g_l_outside{W:Wd}(I:IsC W):nsIn W.K AL "_law_outside"=some (some (.ref 187)):=by rw[I.k];kernel_rfl
noncomputable def iO:Stmt:=cU pp 12
theorem vX(P:Params):Fn (KK P) 180 iO "_law_thing" .none .none (.ref 179):=
 ⟨⟨(aQ (KK P) 180).name,(aQ (KK P) 180).doc,(aQ (KK P) 180).pyModule,(aQ (KK P) 180).closureTuple,(bD (KK P) 180).cls,(aQ (KK P) 180).annotations,(bD (KK P) 180).dict,(bD (KK P) 180).slots,by kernel_rfl⟩,by kernel_rfl⟩
theorem IsC.f_l_thing{W:Wd}(I:IsC W):Fn W.K 180 iO "_law_thing" .none .none (.ref 179):=by rw[I.k];exact vX _
theorem IsC.g_l_thing{W:Wd}(I:IsC W):nsIn W.K AL "_law_thing"=some (some (.ref 180)):=by rw[I.k];kernel_rfl
noncomputable def qL:Stmt:=cU pp 16
theorem aBP(P:Params):Fn (KK P) 206 qL "_law_pi" .none .none (.ref 205):=
 ⟨⟨(aQ (KK P) 206).name,(aQ (KK P) 206).doc,(aQ (KK P) 206).pyModule,(aQ (KK P) 206).closureTuple,(bD (KK P) 206).cls,(aQ (KK P) 206).annotations,(bD (KK P) 206).dict,(bD (KK P) 206).slots,by kernel_rfl⟩,by kernel_rfl⟩
theorem IsC.f_l_pi{W:Wd}(I:IsC W):Fn W.K 206 qL "_law_pi" .none .none (.ref 205):=by rw[I.k];exact aBP _
theorem IsC.g_l_pi{W:Wd}(I:IsC W):nsIn W.K AL "_law_pi"=some (some (.ref 206)):=by rw[I.k];kernel_rfl
noncomputable def gC:Stmt:=cU pp 17
theorem rR(P:Params):Fn (KK P) 213 gC "_law_comment" .none .none (.ref 212):=
 ⟨⟨(aQ (KK P) 213).name,(aQ (KK P) 213).doc,(aQ (KK P) 213).pyModule,(aQ (KK P) 213).closureTuple,(bD (KK P) 213).cls,(aQ (KK P) 213).annotations,(bD (KK P) 213).dict,(bD (KK P) 213).slots,by kernel_rfl⟩,by kernel_rfl⟩
theorem IsC.f_l_comment{W:Wd}(I:IsC W):Fn W.K 213 gC "_law_comment" .none .none (.ref 212):=by rw[I.k];exact rR _
theorem IsC.g_l_comment{W:Wd}(I:IsC W):nsIn W.K AL "_law_comment"=some (some (.ref 213)):=by rw[I.k];kernel_rfl
noncomputable def mG:Stmt:=dM stC 0
theorem aBR(P:Params):Fn (KK P) 60 mG "C14NWriterTarget.__init__" .none (.ref 53) (.ref 59):=
 ⟨⟨(aQ (KK P) 60).name,(aQ (KK P) 60).doc,(aQ (KK P) 60).pyModule,(aQ (KK P) 60).closureTuple,(bD (KK P) 60).cls,(aQ (KK P) 60).annotations,(bD (KK P) 60).dict,(bD (KK P) 60).slots,by kernel_rfl⟩,by kernel_rfl⟩
theorem IsC.f_init{W:Wd}(I:IsC W):Fn W.K 60 mG "C14NWriterTarget.__init__" .none (.ref 53) (.ref 59):=by rw[I.k];exact aBR _
noncomputable def mF:Stmt:=dM stC 1
theorem aBQ(P:Params):Fn (KK P) 68 mF "C14NWriterTarget._iter_namespaces" (.ref 61) .none (.ref 67):=
 ⟨⟨(aQ (KK P) 68).name,(aQ (KK P) 68).doc,(aQ (KK P) 68).pyModule,(aQ (KK P) 68).closureTuple,(bD (KK P) 68).cls,(aQ (KK P) 68).annotations,(bD (KK P) 68).dict,(bD (KK P) 68).slots,by kernel_rfl⟩,by kernel_rfl⟩
theorem IsC.f_iter{W:Wd}(I:IsC W):Fn W.K 68 mF "C14NWriterTarget._iter_namespaces" (.ref 61) .none (.ref 67):=by rw[I.k];exact aBQ _
noncomputable def cI:Stmt:=dM stC 3
theorem aAL(P:Params):Fn (KK P) 83 cI "C14NWriterTarget._qname" (.ref 76) .none (.ref 82):=
 ⟨⟨(aQ (KK P) 83).name,(aQ (KK P) 83).doc,(aQ (KK P) 83).pyModule,(aQ (KK P) 83).closureTuple,(bD (KK P) 83).cls,(aQ (KK P) 83).annotations,(bD (KK P) 83).dict,(bD (KK P) 83).slots,by kernel_rfl⟩,by kernel_rfl⟩
theorem IsC.f_qname{W:Wd}(I:IsC W):Fn W.K 83 cI "C14NWriterTarget._qname" (.ref 76) .none (.ref 82):=by rw[I.k];exact aAL _
noncomputable def wR:Stmt:=dM stC 4
theorem aBU(P:Params):Fn (KK P) 90 wR "C14NWriterTarget.data" .none .none (.ref 89):=
 ⟨⟨(aQ (KK P) 90).name,(aQ (KK P) 90).doc,(aQ (KK P) 90).pyModule,(aQ (KK P) 90).closureTuple,(bD (KK P) 90).cls,(aQ (KK P) 90).annotations,(bD (KK P) 90).dict,(bD (KK P) 90).slots,by kernel_rfl⟩,by kernel_rfl⟩
theorem IsC.f_data{W:Wd}(I:IsC W):Fn W.K 90 wR "C14NWriterTarget.data" .none .none (.ref 89):=by rw[I.k];exact aBU _
noncomputable def mX:Stmt:=dM stC 5
theorem aAM(P:Params):Fn (KK P) 99 mX "C14NWriterTarget._flush" (.ref 92) .none (.ref 98):=
 ⟨⟨(aQ (KK P) 99).name,(aQ (KK P) 99).doc,(aQ (KK P) 99).pyModule,(aQ (KK P) 99).closureTuple,(bD (KK P) 99).cls,(aQ (KK P) 99).annotations,(bD (KK P) 99).dict,(bD (KK P) 99).slots,by kernel_rfl⟩,by kernel_rfl⟩
theorem IsC.f_flush{W:Wd}(I:IsC W):Fn W.K 99 mX "C14NWriterTarget._flush" (.ref 92) .none (.ref 98):=by rw[I.k];exact aAM _
noncomputable def gA:Stmt:=dM stC 6
theorem vW(P:Params):Fn (KK P) 106 gA "C14NWriterTarget.start_ns" .none .none (.ref 105):=
 ⟨⟨(aQ (KK P) 106).name,(aQ (KK P) 106).doc,(aQ (KK P) 106).pyModule,(aQ (KK P) 106).closureTuple,(bD (KK P) 106).cls,(aQ (KK P) 106).annotations,(bD (KK P) 106).dict,(bD (KK P) 106).slots,by kernel_rfl⟩,by kernel_rfl⟩
theorem IsC.f_startNs{W:Wd}(I:IsC W):Fn W.K 106 gA "C14NWriterTarget.start_ns" .none .none (.ref 105):=by rw[I.k];exact vW _
noncomputable def gL:Stmt:=dM stC 7
theorem aAJ(P:Params):Fn (KK P) 113 gL "C14NWriterTarget.start" .none .none (.ref 112):=
 ⟨⟨(aQ (KK P) 113).name,(aQ (KK P) 113).doc,(aQ (KK P) 113).pyModule,(aQ (KK P) 113).closureTuple,(bD (KK P) 113).cls,(aQ (KK P) 113).annotations,(bD (KK P) 113).dict,(bD (KK P) 113).slots,by kernel_rfl⟩,by kernel_rfl⟩
theorem IsC.f_start{W:Wd}(I:IsC W):Fn W.K 113 gL "C14NWriterTarget.start" .none .none (.ref 112):=by rw[I.k];exact aAJ _
noncomputable def bQ:Stmt:=dM stC 8
theorem yV(P:Params):Fn (KK P) 119 bQ "C14NWriterTarget._start" (.ref 114) .none (.ref 118):=
 ⟨⟨(aQ (KK P) 119).name,(aQ (KK P) 119).doc,(aQ (KK P) 119).pyModule,(aQ (KK P) 119).closureTuple,(bD (KK P) 119).cls,(aQ (KK P) 119).annotations,(bD (KK P) 119).dict,(bD (KK P) 119).slots,by kernel_rfl⟩,by kernel_rfl⟩
theorem IsC.f_start1{W:Wd}(I:IsC W):Fn W.K 119 bQ "C14NWriterTarget._start" (.ref 114) .none (.ref 118):=by rw[I.k];exact yV _
noncomputable def qN:Stmt:=dM stC 9
theorem aDV(P:Params):Fn (KK P) 126 qN "C14NWriterTarget.end" .none .none (.ref 125):=
 ⟨⟨(aQ (KK P) 126).name,(aQ (KK P) 126).doc,(aQ (KK P) 126).pyModule,(aQ (KK P) 126).closureTuple,(bD (KK P) 126).cls,(aQ (KK P) 126).annotations,(bD (KK P) 126).dict,(bD (KK P) 126).slots,by kernel_rfl⟩,by kernel_rfl⟩
theorem IsC.f_end{W:Wd}(I:IsC W):Fn W.K 126 qN "C14NWriterTarget.end" .none .none (.ref 125):=by rw[I.k];exact aDV _
noncomputable def eS:Stmt:=dM stC 10
theorem vZ(P:Params):Fn (KK P) 133 eS "C14NWriterTarget.comment" .none .none (.ref 132):=
 ⟨⟨(aQ (KK P) 133).name,(aQ (KK P) 133).doc,(aQ (KK P) 133).pyModule,(aQ (KK P) 133).closureTuple,(bD (KK P) 133).cls,(aQ (KK P) 133).annotations,(bD (KK P) 133).dict,(bD (KK P) 133).slots,by kernel_rfl⟩,by kernel_rfl⟩
theorem IsC.f_comment{W:Wd}(I:IsC W):Fn W.K 133 eS "C14NWriterTarget.comment" .none .none (.ref 132):=by rw[I.k];exact vZ _
noncomputable def sF:Stmt:=dM stC 11
theorem fn_pi(P:Params):Fn (KK P) 140 sF "C14NWriterTarget.pi" .none .none (.ref 139):=
 ⟨⟨(aQ (KK P) 140).name,(aQ (KK P) 140).doc,(aQ (KK P) 140).pyModule,(aQ (KK P) 140).closureTuple,(bD (KK P) 140).cls,(aQ (KK P) 140).annotations,(bD (KK P) 140).dict,(bD (KK P) 140).slots,by kernel_rfl⟩,by kernel_rfl⟩
theorem IsC.f_pi{W:Wd}(I:IsC W):Fn W.K 140 sF "C14NWriterTarget.pi" .none .none (.ref 139):=by rw[I.k];exact fn_pi _
theorem IsC.g_cls{W:Wd}(I:IsC W):nsIn W.K AL "C14NWriterTarget"=some (some (.ref 143)):=by rw[I.k];kernel_rfl
theorem IsC.g_map{W:Wd}(I:IsC W):nsIn W.K AL "_namespace_map"=some (some (.ref 37)):=by rw[I.k];kernel_rfl
theorem IsC.b_list{W:Wd}(I:IsC W):nsIn W.K AL "list"=some none:=by rw[I.k];kernel_rfl
theorem IsC.b_len{W:Wd}(I:IsC W):nsIn W.K AL "len"=some none:=by rw[I.k];kernel_rfl
theorem IsC.b_sum{W:Wd}(I:IsC W):nsIn W.K AL "sum"=some none:=by rw[I.k];kernel_rfl
theorem IsC.b_str{W:Wd}(I:IsC W):nsIn W.K AL "str"=some none:=by rw[I.k];kernel_rfl
theorem IsC.b_range{W:Wd}(I:IsC W):nsIn W.K AL "range"=some none:=by rw[I.k];kernel_rfl
theorem IsC.b_set{W:Wd}(I:IsC W):nsIn W.K AL "set"=some none:=by rw[I.k];kernel_rfl
theorem IsC.b_sorted{W:Wd}(I:IsC W):nsIn W.K AL "sorted"=some none:=by rw[I.k];kernel_rfl
theorem IsC.b_TypeError{W:Wd}(I:IsC W):nsIn W.K AL "TypeError"=some none:=by rw[I.k];kernel_rfl
theorem IsC.b_AttributeError{W:Wd}(I:IsC W):nsIn W.K AL "AttributeError"=some none:=by rw[I.k];kernel_rfl
theorem cl_C(P:Params):Cl (KK P) 143 sfN where
 ga:=by kernel_rfl
 gh:=by kernel_rfl
 sa:=by kernel_rfl
 plain:=by kernel_rfl
 dict:=by kernel_rfl
 own:=by
  intro n hn;simp only[sfN,At,BG,or_false]at hn;rcases hn with rfl | rfl | rfl | rfl | rfl | rfl | rfl | rfl | rfl | rfl | rfl | rfl | rfl | rfl | rfl | rfl | rfl<;>kernel_rfl
theorem IsC.cl{W:Wd}(I:IsC W):Cl W.K 143 sfN:=by rw[I.k];exact cl_C _
noncomputable def dS(f:Nat->List Nat)(x:Str):Str:=⟨(x.cps.toList.flatMap f).toArray⟩
theorem Str.ext'{a b:Str}(h:a.cps.toList=b.cps.toList):a=b:=by
 obtain⟨⟨a⟩⟩:=a;obtain⟨⟨b⟩⟩:=b;cases h;rfl
theorem yO(f:Nat->List Nat)(x:Str):(dS f x).cps.toList=x.cps.toList.flatMap f:=rfl
theorem tB(f:Nat->List Nat)(a b:Str):dS f (a++b)=dS f a++dS f b:=by
 apply Str.ext';simp[dS,Str.cps_append]
theorem pV(f g:Nat->List Nat)(x:Str):dS f (dS g x)=dS (λ c=>(g c).flatMap f) x:=by
 apply Str.ext';simp[dS,List.flatMap_assoc]
theorem rE(x:Str):dS (λ c=>[c]) x=x:=by
 apply Str.ext';simp[dS]
theorem oC{α β:Type}(f:α->List β)(k:Nat)(h:∀ c,(f c).length<=k):∀ l:List α,(l.flatMap f).length<=k*l.length
 | []=>by simp
 | c::r=>by
  have h1:=oC f k h r;have h2:=h c;rw[List.flatMap_cons,Ae,A9];walk_at "o"
theorem Str.len_list(x:Str):x.length=x.cps.toList.length:=by simp[Str.length]
theorem nK(f:Nat->List Nat)(k:Nat)(h:∀ c,(f c).length<=k)(x:Str):(dS f x).length<=k*x.length:=by
 rw[Str.len_list,Str.len_list,yO];exact oC f k h _
noncomputable def r1(c:Nat)(z:List Nat)(k:Nat):List Nat:=if k=c then z else[k]
theorem jL(c:Nat)(z:List Nat):∀ l:List Nat,c∉l->l.flatMap (r1 c z)=l
 | [],_=>rfl
 | k::r,h=>by
  have h1:¬k=c:=λ e=>h (e▸List.mem_cons_self ..);have h2:c∉r:=λ m=>h (BK _ m);rw[List.flatMap_cons,jL c z r h2];simp[r1,h1]
theorem wW(c:Nat)(z:Str):∀ parts:List Str,(∀ p∈parts,c∉p.cps.toList)->(Str.join ⟨#[c]⟩ parts).cps.toList.flatMap (r1 c z.cps.toList)=(Str.join z parts).cps.toList
 | [],_=>rfl
 | [p],h=>jL c _ _ (h p (AR.mpr rfl))
 | p::q::r,h=>by
  have ih:=wW c z (q::r) λ a ha=>h a (BK _ ha);show(p++⟨#[c]⟩++Str.join ⟨#[c]⟩ (q::r)).cps.toList.flatMap _=(p++z++Str.join z (q::r)).cps.toList;simp only[Str.cps_append,Array.toList_append,List.flatMap_append]
  rw[ih,jL c _ _ (h p (List.mem_cons_self ..))];simp[r1]
theorem uV(x z:Str)(c:Nat):Txt.replace x ⟨#[c]⟩ z=dS (r1 c z.cps.toList) x:=by
 apply Str.ext';rw[StrLaws.replace_one,←wW c z _ (StrLaws.split_free x c),StrLaws.join_split]
 rfl
theorem yP{x:Str}{c:Nat}{z:List Nat}(h:c∉x.cps.toList):dS (r1 c z) x=x:=Str.ext' (jL c z _ h)
noncomputable def fC(c:Nat):List Nat:=if c=38 then[38,97,109,112,59]else if c=60 then[38,108,116,59]else if c=62 then[38,103,116,59]else if c=13 then[38,35,120,68,59]else[c]
noncomputable def fA(c:Nat):List Nat:=if c=38 then[38,97,109,112,59]else if c=60 then[38,108,116,59]else if c=34 then[38,113,117,111,116,59]else if c=9 then[38,35,120,57,59]else if c=10 then[38,35,120,65,59]else if c=13 then[38,35,120,68,59]else[c]
noncomputable def dC(x:Str):Str:=dS fC x
noncomputable def aBX(x:Str):Str:=dS fA x
noncomputable def ch:List (Nat×List Nat)->Nat->List Nat
 | [],c=>[c]
 | p::rs,c=>if c=p.1 then p.2 else ch rs c
theorem wH(c:Nat):∀ rs:List (Nat×List Nat),rs.all (λ p=>Bm p.2.length 6)=true->(ch rs c).length<=6:=by
 intro rs
 induction rs with
 | nil=>intro _;exact AE rfl
 | cons p rs ih=>
  intro h;have h:=Bool.and_eq_true_iff.mp h
  by_cases e:c=p.1
  ·exact An (Bp (congrArg AV (if_pos e))) (AE h.1)
  ·exact An (Bp (congrArg AV (if_neg e))) (ih h.2)
theorem aB3(k:Nat)(z:List Nat)(c:Nat):∀ rs:List (Nat×List Nat),rs.all (λ p=>!p.2.contains k)=true->(ch rs c).flatMap (r1 k z)=ch (rs++[(k,z)]) c:=by
 intro rs
 induction rs with
 | nil=>intro _;exact Aj _
 | cons p rs ih=>
  intro h;have h:=Bool.and_eq_true_iff.mp h
  by_cases e:c=p.1
  ·refine(congrArg (List.flatMap (r1 k z)) (if_pos e:ch (p::rs) c=p.2)).trans (Eq.trans (jL k z _ λ m=>?_) (if_pos e).symm);exact Bool.noConfusion (((congrArg not (List.contains_iff_mem.mpr m)).symm.trans h.1))
  ·exact(congrArg (List.flatMap (r1 k z)) (if_neg e:ch (p::rs) c=ch rs c)).trans ((ih h.2).trans (if_neg e).symm)
theorem aBG{rs:List (Nat×List Nat)}{k:Nat}{z:List Nat}(h:rs.all (λ p=>!p.2.contains k)=true)(x:Str):dS (r1 k z) (dS (ch rs) x)=dS (ch (rs++[(k,z)])) x:=
 (pV _ _ x).trans (congrArg (dS · x) (funext λ c=>aB3 k z c rs h))
theorem aDX(c:Nat):(fC c).length<=6:=wH c [(38,[38,97,109,112,59]),(60,[38,108,116,59]),(62,[38,103,116,59]),(13,[38,35,120,68,59])] rfl
theorem aDY(c:Nat):(fA c).length<=6:=wH c [(38,[38,97,109,112,59]),(60,[38,108,116,59]),(34,[38,113,117,111,116,59]),(9,[38,35,120,57,59]),(10,[38,35,120,65,59]),(13,[38,35,120,68,59])] rfl
noncomputable def txL:Nat:=300000
theorem Sta.strT{x:Str}{k:Nat}{pos:Pos}{Q:Value->Ac->Prop}{M:Model}(S:Sta W G env loc nw s)(h:∀ s',Sta W G env loc nw s'->s'.toks=s.toks+1->Q (.str x s.toks) s'):Ad M A (eval (.Constant (.str x) k pos) env) Q E s:=
 wpAny_Constant_str (h _ (S.toks _) rfl)
theorem Sta.replace_{x z:Str}{c:Nat}{y:Str}{t u v:Tok}{Q:Value->Ac->Prop}(S:Sta W G env loc nw s)(hy:y=⟨#[c]⟩)(hu:u≠0)(hv:v≠0)(huv:u≠v)(hyz:(y==z)=false)(hx:x.length<=6*txL)(hz:z.length<=6)(h:∀ t' s',Sta W G env loc nw s'->Q (.str (dS (r1 c z.cps.toList) x) t') s'):Ad W.M A (call (.builtin "str.replace") [.str x t,.str y u,.str z v]) Q E s:=by
 subst hy;refine SC.replace hu hv huv hyz ?_ λ t' k=>?_
 ·have h1:(x.length+1)*z.length<=(x.length+1)*6:=Bt _ hz;unfold txL at hx;walk_at "o"
 ·rw[uV];exact h _ _ (S.toks k)
theorem Sta.inStr{x y:Str}{c:Nat}{t u:Tok}{Q:Value->Ac->Prop}(hy:y=⟨#[c]⟩)(h1:c∈x.cps.toList->Q (.bool true) s)(h2:c∉x.cps.toList->Q (.bool false) s):Ad W.M A (compareOp .In (.str y u) (.str x t)) Q E s:=by
 subst hy;refine PyProof.Rows.in_str ?_;rw[StrLaws.found_one]
 by_cases h:c∈x.cps.toList
 ·rw[decide_eq_true h];exact h1 h
 ·rw[decide_eq_false h];exact h2 h
inductive TxA:List Value->List Str->Prop
 | nil:TxA [] []
 | cons {vs ss} (x:Str) (t:Tok):TxA vs ss->TxA (.str x t::vs) (x::ss)
theorem TxA.snoc{vs:List Value}{ss:List Str}(h:TxA vs ss)(x:Str)(t:Tok):TxA (vs++[.str x t]) (ss++[x]):=by
 induction h with
 | nil=>exact .cons x t .nil
 | cons y u h ih=>exact .cons y u ih
theorem TxA.length{vs:List Value}{ss:List Str}(h:TxA vs ss):vs.length=ss.length:=by
 induction h with
 | nil=>rfl
 | cons y u h ih=>rw [A9,A9,ih]
theorem TxA.values{vs:List Value}{ss:List Str}(h:TxA vs ss):∃ l:List (Str×Tok),vs=strValues l/\l.map (·.1)=ss:=by
 induction h with
 | nil=>exact⟨[],rfl,rfl⟩
 | cons x t h ih=>
  obtain⟨l,e1,e2⟩:=ih;exact⟨(x,t)::l,by rw[e1];rfl,by rw[←e2];rfl⟩
theorem TxA.drop{vs:List Value}{ss:List Str}(h:TxA vs ss):∀ k,TxA (vs.drop k) (ss.drop k):=by
 induction h with
 | nil=>intro k;rw[List.drop_nil,List.drop_nil];exact .nil
 | cons y u h ih=>
  intro k;cases k with
  | zero=>exact .cons y u h
  | succ k=>exact ih k
noncomputable def aB(ss:List Str):Cell:=λ o=>∃ vs,TxA vs ss/\aA vs o
noncomputable def cat:List Str->Str
 | []=>Str.empty
 | x::r=>x++cat r
theorem bP:∀ a b:List Str,cat (a++b)=cat a++cat b:=by
 intro l0
 induction l0 with
 | nil=>
  intro b;exact(Str.empty_append _).symm
 | cons x r ih=>
  intro b;show x++cat (r++b)=x++cat r++cat b;rw[ih b,Str.append_assoc]
theorem oK:∀ l:List Str,Txt.join Str.empty l=cat l
 | []=>rfl
 | [x]=>by
  show x=x++Str.empty;rw[Str.append_empty]
 | x::y::r=>by
  have ih:=oK (y::r);unfold Txt.join at ih ⊢;rw[StrLaws.glued_eq_join]at ih ⊢;show x++Str.empty++Str.join Str.empty (y::r)=x++cat (y::r);rw[ih,Str.append_empty]
theorem rX:∀ l:List Str,(cat l).length=(l.map (·.length)).sum:=by
 intro l0
 induction l0 with
 | nil=>
  exact rfl
 | cons x r ih=>
  show(x++cat r).length=_;rw[Str.length_append,ih];simp
theorem nX{l:List Str}(h:(cat l).length<=16777216):JoinOk Str.empty l=true:=by
 unfold JoinOk;rw[StrLaws.joinTotal,←rX];have e:Str.empty.length=0:=rfl;rw[e,Nat.mul_zero,Nat.add_zero];have hh:Builtin.Str.tooLong (cat l).length=false:=by
  unfold Builtin.Str.tooLong Au;exact decide_eq_false (by walk_at "o")
 rw[hh];rfl
theorem Upd.via2{a:Addr}{c c':Cell}{l l':Lg}(h:Upd a c c' l l'):∀ c1,∃ l1,Upd a c c1 l l1/\Upd a c1 c' l1 l':=by
 induction h with
 | head=>exact λ c1=>⟨_,.head,.head⟩
 | tail h ih=>
  intro c1;obtain⟨l1,h1,h2⟩:=ih c1;exact⟨_,.tail h1,.tail h2⟩
theorem Sta.tell{a:Addr}{c c':Cell}(S:Sta W G env loc nw s)(U:Upd a c c' nw nw')(h:∀ o,s.heap.get? a=some o->c o->c' o):Sta W G env loc nw' s:=by
 obtain⟨o,ho,hc⟩:=S.get U.mem;exact S.set U (λ b o _ e=>e) ho (h o ho hc) s.toks
theorem Sta.openT{a:Addr}{ss:List Str}{c':Cell}(S:Sta W G env loc nw s)(U:Upd a (aB ss) c' nw nw'):∃ vs nw1,TxA vs ss/\Upd a (aB ss) (aA vs) nw nw1/\Upd a (aA vs) c' nw1 nw'/\Sta W G env loc nw1 s:=by
 obtain⟨o,ho,q0⟩:=S.get U.mem;obtain⟨vs,ht,hl⟩:=q0;obtain⟨nw1,U1,U2⟩:=U.via2 (aA vs);exact⟨vs,nw1,ht,U1,U2,S.tell U1 λ o' ho' _=>by rw[ho]at ho';cases ho';exact hl⟩
theorem Sta.txts{a:Addr}{ss:List Str}(S:Sta W G env loc nw s)(m:(a,aB ss)∈nw):∃ vs,TxA vs ss/\s.heap.IsList a vs.toArray:=by
 obtain⟨o,ho,q0⟩:=S.get m;obtain⟨vs,ht,q0⟩:=q0;obtain⟨n,rfl⟩:=q0;exact⟨vs,ht,_,ho,rfl,n,rfl⟩
theorem Sta.appendT{a:Addr}{ss:List Str}{x:Str}{t:Tok}{Q:Value->Ac->Prop}(S:Sta W G env loc nw s)(U:Upd a (aB ss) (aB (ss++[x])) nw nw')(hz:ss.length<=Au)(h:∀ s',Sta W G env loc nw' s'->Q .none s'):Ad W.M A (call (.builtin "list.append") [.ref a,.str x t]) Q E s:=by
 obtain⟨vs,nw1,ht,U1,U2,S1⟩:=S.openT U;obtain⟨nw2,U3,U4⟩:=U2.via2 (aA (vs++[.str x t]));exact S1.append U3 (by rw[ht.length];exact hz) λ s' S2=>h _ (S2.tell U4 λ o _ ho=>⟨_,ht.snoc x t,ho⟩)
theorem Sta.joinT{a:Addr}{ss:List Str}{x:Str}{t:Tok}{Q:Value->Ac->Prop}(S:Sta W G env loc nw s)(m:(a,aB ss)∈nw)(hx:x=Str.empty)(hz:(cat ss).length<=16777216)(h:∀ t' s',Sta W G env loc nw s'->Q (.str (cat ss) t') s'):Ad W.M A (call (.builtin "str.join") [.str x t,.ref a]) Q E s:=by
 subst hx;obtain⟨vs,ht,hl⟩:=S.txts m;obtain⟨l,e1,e2⟩:=ht.values;rw[e1]at hl;refine SC.join hl e2 (nX hz) λ t' k=>?_;rw[oK];exact h _ _ (S.toks k)
theorem oL{p:Addr}{id:String}{self:Value}{pos:List Value}{R:Result->Ac->Prop}{b:Builtin}(hq:plainId id=true)(hb:entryFor table id=some b)(ho:s.heap.get? p=some { cls:=.type "builtin_function_or_method",data:=.fields #[.builtin id,self] })(hc:∀(A':AJ) (Q':Unit->Ac->Prop) (E':Value->Ac->Prop),Q' () s->Ad W.M A' (checkBoundCall id ⟨self::pos,[]⟩) Q' E' s)(h:Ad W.M A.in1 (b ⟨self::pos,[]⟩)
   (λ fin s'=>match fin with | .done f=>R (.ok f) s' | .again c'=>c'.quiet=true/\codeAny W.M A c' R s') (λ e s'=>R (.error e) s') s):codeAny W.M A (.call (.ref p) ⟨pos,[]⟩) R s:=by
 obtain⟨hh,g,dr,t,os⟩:=s;refine codeAny_of_tree ?_;dsimp only at ho;refine nd_load ho ?_;show Ad _ _ (checkBoundCall id ⟨self::pos,[]⟩ >>= λ _=>again (Code.builtin id ⟨self::pos,[]⟩)) _ _ _;refine Aa (hc _ _ _ ?_);refine Af ⟨plainId_quiet hq _,codeAny_builtin hb ?_⟩;rw[Around.under_plainId hq];exact h
theorem rW{a:Addr}{v:Value}{h:Heap}{g:Array GenState}{d:Drawn}{t:Nat}{os:OsState}{xs:List Value}{n:Nat}(hx:h.get? a=some { cls:=.type "list",data:=.seq xs.toArray n })(A':AJ)(Q':Unit->Ac->Prop)(E':Value->Ac->Prop)(hq:Q' () ⟨h,g,d,t,os⟩):Ad W.M A' (checkBoundCall "list.append" ⟨[.ref a,v],[]⟩) Q' E' ⟨h,g,d,t,os⟩:=by
 have hT:(⟨h,g,d,t,os⟩:Ac).TypeIs (.ref a) "list":=⟨_,hx,rfl⟩
 have f1:Manifest.signature? "list.append"=some ⟨.oneArg,"list.append","append",.self,[⟨"object",.posOnly,true⟩]⟩:=by kernel_rfl
 have f2:builtinKind "list.append"=some .method:=by kernel_rfl
 have f3:isSubtype (.type "list") (.type "module")=pure false:=by rw[isSubtype_type];kernel_rfl
 have f4:Manifest.varargsMethods.contains "list.append"=false:=by decide +kernel
 unfold checkBoundCall;refine Aa (wpAny_isInstance hT f3 ?_);refine Aa ?_;unfold isType
 repeat lk
 exact hq
noncomputable def VV(a1 a2 a3 a4 a5 a6 a7 a8 a9 a10 a11 a12 a13 a14 a15 a16 a17:Value):Loc:=[("_write",some a1),("_data",some a2),("_with_comments",some a3),("_strip_text",some a4),("_exclude_attrs",some a5),("_exclude_tags",some a6),("_rewrite_prefixes",some a7),("_qname_aware_tags",some a8),("_find_qname_aware_attrs",some a9),("_declared_ns_stack",some a10),("_ns_stack",some a11),("_prefix_map",some a12),("_preserve_space",some a13),("_pending_start",some a14),("_root_seen",some a15),("_root_done",some a16),("_ignored_depth",some a17)]
theorem VV.keys{a1 a2 a3 a4 a5 a6 a7 a8 a9 a10 a11 a12 a13 a14 a15 a16 a17:Value}:(VV a1 a2 a3 a4 a5 a6 a7 a8 a9 a10 a11 a12 a13 a14 a15 a16 a17).map Prod.fst=sfN:=rfl
theorem aBI{a1 a2 a3 a4 a5 a6 a7 a8 a9 a10 a11 a12 a13 a14 a15 a16 a17:Value}:(("_write":Str),some a1)∈VV a1 a2 a3 a4 a5 a6 a7 a8 a9 a10 a11 a12 a13 a14 a15 a16 a17:=(.head _)
theorem aDG{a1 a2 a3 a4 a5 a6 a7 a8 a9 a10 a11 a12 a13 a14 a15 a16 a17:Value}:(("_data":Str),some a2)∈VV a1 a2 a3 a4 a5 a6 a7 a8 a9 a10 a11 a12 a13 a14 a15 a16 a17:=(.tail _ (.head _))
theorem lY{a1 a2 a3 a4 a5 a6 a7 a8 a9 a10 a11 a12 a13 a14 a15 a16 a17:Value}:(("_with_comments":Str),some a3)∈VV a1 a2 a3 a4 a5 a6 a7 a8 a9 a10 a11 a12 a13 a14 a15 a16 a17:=(.tail _ (.tail _ (.head _)))
theorem rF{a1 a2 a3 a4 a5 a6 a7 a8 a9 a10 a11 a12 a13 a14 a15 a16 a17:Value}:(("_strip_text":Str),some a4)∈VV a1 a2 a3 a4 a5 a6 a7 a8 a9 a10 a11 a12 a13 a14 a15 a16 a17:=(.tail _ (.tail _ (.tail _ (.head _))))
theorem mB{a1 a2 a3 a4 a5 a6 a7 a8 a9 a10 a11 a12 a13 a14 a15 a16 a17:Value}:(("_exclude_attrs":Str),some a5)∈VV a1 a2 a3 a4 a5 a6 a7 a8 a9 a10 a11 a12 a13 a14 a15 a16 a17:=(.tail _ (.tail _ (.tail _ (.tail _ (.head _)))))
theorem nL{a1 a2 a3 a4 a5 a6 a7 a8 a9 a10 a11 a12 a13 a14 a15 a16 a17:Value}:(("_exclude_tags":Str),some a6)∈VV a1 a2 a3 a4 a5 a6 a7 a8 a9 a10 a11 a12 a13 a14 a15 a16 a17:=(.tail _ (.tail _ (.tail _ (.tail _ (.tail _ (.head _))))))
theorem iT{a1 a2 a3 a4 a5 a6 a7 a8 a9 a10 a11 a12 a13 a14 a15 a16 a17:Value}:(("_rewrite_prefixes":Str),some a7)∈VV a1 a2 a3 a4 a5 a6 a7 a8 a9 a10 a11 a12 a13 a14 a15 a16 a17:=(.tail _ (.tail _ (.tail _ (.tail _ (.tail _ (.tail _ (.head _)))))))
theorem iU{a1 a2 a3 a4 a5 a6 a7 a8 a9 a10 a11 a12 a13 a14 a15 a16 a17:Value}:(("_qname_aware_tags":Str),some a8)∈VV a1 a2 a3 a4 a5 a6 a7 a8 a9 a10 a11 a12 a13 a14 a15 a16 a17:=(.tail _ (.tail _ (.tail _ (.tail _ (.tail _ (.tail _ (.tail _ (.head _))))))))
theorem fJ{a1 a2 a3 a4 a5 a6 a7 a8 a9 a10 a11 a12 a13 a14 a15 a16 a17:Value}:(("_find_qname_aware_attrs":Str),some a9)∈VV a1 a2 a3 a4 a5 a6 a7 a8 a9 a10 a11 a12 a13 a14 a15 a16 a17:=(.tail _ (.tail _ (.tail _ (.tail _ (.tail _ (.tail _ (.tail _ (.tail _ (.head _)))))))))
theorem iF{a1 a2 a3 a4 a5 a6 a7 a8 a9 a10 a11 a12 a13 a14 a15 a16 a17:Value}:(("_declared_ns_stack":Str),some a10)∈VV a1 a2 a3 a4 a5 a6 a7 a8 a9 a10 a11 a12 a13 a14 a15 a16 a17:=(.tail _ (.tail _ (.tail _ (.tail _ (.tail _ (.tail _ (.tail _ (.tail _ (.tail _ (.head _))))))))))
theorem vK{a1 a2 a3 a4 a5 a6 a7 a8 a9 a10 a11 a12 a13 a14 a15 a16 a17:Value}:(("_ns_stack":Str),some a11)∈VV a1 a2 a3 a4 a5 a6 a7 a8 a9 a10 a11 a12 a13 a14 a15 a16 a17:=(.tail _ (.tail _ (.tail _ (.tail _ (.tail _ (.tail _ (.tail _ (.tail _ (.tail _ (.tail _ (.head _)))))))))))
theorem rG{a1 a2 a3 a4 a5 a6 a7 a8 a9 a10 a11 a12 a13 a14 a15 a16 a17:Value}:(("_prefix_map":Str),some a12)∈VV a1 a2 a3 a4 a5 a6 a7 a8 a9 a10 a11 a12 a13 a14 a15 a16 a17:=(.tail _ (.tail _ (.tail _ (.tail _ (.tail _ (.tail _ (.tail _ (.tail _ (.tail _ (.tail _ (.tail _ (.head _))))))))))))
theorem kN{a1 a2 a3 a4 a5 a6 a7 a8 a9 a10 a11 a12 a13 a14 a15 a16 a17:Value}:(("_preserve_space":Str),some a13)∈VV a1 a2 a3 a4 a5 a6 a7 a8 a9 a10 a11 a12 a13 a14 a15 a16 a17:=(.tail _ (.tail _ (.tail _ (.tail _ (.tail _ (.tail _ (.tail _ (.tail _ (.tail _ (.tail _ (.tail _ (.tail _ (.head _)))))))))))))
theorem lZ{a1 a2 a3 a4 a5 a6 a7 a8 a9 a10 a11 a12 a13 a14 a15 a16 a17:Value}:(("_pending_start":Str),some a14)∈VV a1 a2 a3 a4 a5 a6 a7 a8 a9 a10 a11 a12 a13 a14 a15 a16 a17:=(.tail _ (.tail _ (.tail _ (.tail _ (.tail _ (.tail _ (.tail _ (.tail _ (.tail _ (.tail _ (.tail _ (.tail _ (.tail _ (.head _))))))))))))))
theorem tC{a1 a2 a3 a4 a5 a6 a7 a8 a9 a10 a11 a12 a13 a14 a15 a16 a17:Value}:(("_root_seen":Str),some a15)∈VV a1 a2 a3 a4 a5 a6 a7 a8 a9 a10 a11 a12 a13 a14 a15 a16 a17:=(.tail _ (.tail _ (.tail _ (.tail _ (.tail _ (.tail _ (.tail _ (.tail _ (.tail _ (.tail _ (.tail _ (.tail _ (.tail _ (.tail _ (.head _)))))))))))))))
theorem tD{a1 a2 a3 a4 a5 a6 a7 a8 a9 a10 a11 a12 a13 a14 a15 a16 a17:Value}:(("_root_done":Str),some a16)∈VV a1 a2 a3 a4 a5 a6 a7 a8 a9 a10 a11 a12 a13 a14 a15 a16 a17:=(.tail _ (.tail _ (.tail _ (.tail _ (.tail _ (.tail _ (.tail _ (.tail _ (.tail _ (.tail _ (.tail _ (.tail _ (.tail _ (.tail _ (.tail _ (.head _))))))))))))))))
theorem mA{a1 a2 a3 a4 a5 a6 a7 a8 a9 a10 a11 a12 a13 a14 a15 a16 a17:Value}:(("_ignored_depth":Str),some a17)∈VV a1 a2 a3 a4 a5 a6 a7 a8 a9 a10 a11 a12 a13 a14 a15 a16 a17:=(.tail _ (.tail _ (.tail _ (.tail _ (.tail _ (.tail _ (.tail _ (.tail _ (.tail _ (.tail _ (.tail _ (.tail _ (.tail _ (.tail _ (.tail _ (.tail _ (.head _)))))))))))))))))
theorem aBA{a1 a2 a3 a4 a5 a6 a7 a8 a9 a10 a11 a12 a13 a14 a15 a16 a17 v:Value}:Put "_write" (some v) (VV a1 a2 a3 a4 a5 a6 a7 a8 a9 a10 a11 a12 a13 a14 a15 a16 a17) (VV v a2 a3 a4 a5 a6 a7 a8 a9 a10 a11 a12 a13 a14 a15 a16 a17):=.head
theorem aDv{a1 a2 a3 a4 a5 a6 a7 a8 a9 a10 a11 a12 a13 a14 a15 a16 a17 v:Value}:Put "_data" (some v) (VV a1 a2 a3 a4 a5 a6 a7 a8 a9 a10 a11 a12 a13 a14 a15 a16 a17) (VV a1 v a3 a4 a5 a6 a7 a8 a9 a10 a11 a12 a13 a14 a15 a16 a17):=(.tail .head)
theorem lU{a1 a2 a3 a4 a5 a6 a7 a8 a9 a10 a11 a12 a13 a14 a15 a16 a17 v:Value}:Put "_with_comments" (some v) (VV a1 a2 a3 a4 a5 a6 a7 a8 a9 a10 a11 a12 a13 a14 a15 a16 a17) (VV a1 a2 v a4 a5 a6 a7 a8 a9 a10 a11 a12 a13 a14 a15 a16 a17):=(.tail (.tail .head))
theorem qZ{a1 a2 a3 a4 a5 a6 a7 a8 a9 a10 a11 a12 a13 a14 a15 a16 a17 v:Value}:Put "_strip_text" (some v) (VV a1 a2 a3 a4 a5 a6 a7 a8 a9 a10 a11 a12 a13 a14 a15 a16 a17) (VV a1 a2 a3 v a5 a6 a7 a8 a9 a10 a11 a12 a13 a14 a15 a16 a17):=(.tail (.tail (.tail .head)))
theorem lX{a1 a2 a3 a4 a5 a6 a7 a8 a9 a10 a11 a12 a13 a14 a15 a16 a17 v:Value}:Put "_exclude_attrs" (some v) (VV a1 a2 a3 a4 a5 a6 a7 a8 a9 a10 a11 a12 a13 a14 a15 a16 a17) (VV a1 a2 a3 a4 v a6 a7 a8 a9 a10 a11 a12 a13 a14 a15 a16 a17):=(.tail (.tail (.tail (.tail .head))))
theorem nJ{a1 a2 a3 a4 a5 a6 a7 a8 a9 a10 a11 a12 a13 a14 a15 a16 a17 v:Value}:Put "_exclude_tags" (some v) (VV a1 a2 a3 a4 a5 a6 a7 a8 a9 a10 a11 a12 a13 a14 a15 a16 a17) (VV a1 a2 a3 a4 a5 v a7 a8 a9 a10 a11 a12 a13 a14 a15 a16 a17):=(.tail (.tail (.tail (.tail (.tail .head)))))
theorem iR{a1 a2 a3 a4 a5 a6 a7 a8 a9 a10 a11 a12 a13 a14 a15 a16 a17 v:Value}:Put "_rewrite_prefixes" (some v) (VV a1 a2 a3 a4 a5 a6 a7 a8 a9 a10 a11 a12 a13 a14 a15 a16 a17) (VV a1 a2 a3 a4 a5 a6 v a8 a9 a10 a11 a12 a13 a14 a15 a16 a17):=(.tail (.tail (.tail (.tail (.tail (.tail .head))))))
theorem iS{a1 a2 a3 a4 a5 a6 a7 a8 a9 a10 a11 a12 a13 a14 a15 a16 a17 v:Value}:Put "_qname_aware_tags" (some v) (VV a1 a2 a3 a4 a5 a6 a7 a8 a9 a10 a11 a12 a13 a14 a15 a16 a17) (VV a1 a2 a3 a4 a5 a6 a7 v a9 a10 a11 a12 a13 a14 a15 a16 a17):=(.tail (.tail (.tail (.tail (.tail (.tail (.tail .head)))))))
theorem fH{a1 a2 a3 a4 a5 a6 a7 a8 a9 a10 a11 a12 a13 a14 a15 a16 a17 v:Value}:Put "_find_qname_aware_attrs" (some v) (VV a1 a2 a3 a4 a5 a6 a7 a8 a9 a10 a11 a12 a13 a14 a15 a16 a17) (VV a1 a2 a3 a4 a5 a6 a7 a8 v a10 a11 a12 a13 a14 a15 a16 a17):=(.tail (.tail (.tail (.tail (.tail (.tail (.tail (.tail .head))))))))
theorem iE{a1 a2 a3 a4 a5 a6 a7 a8 a9 a10 a11 a12 a13 a14 a15 a16 a17 v:Value}:Put "_declared_ns_stack" (some v) (VV a1 a2 a3 a4 a5 a6 a7 a8 a9 a10 a11 a12 a13 a14 a15 a16 a17) (VV a1 a2 a3 a4 a5 a6 a7 a8 a9 v a11 a12 a13 a14 a15 a16 a17):=(.tail (.tail (.tail (.tail (.tail (.tail (.tail (.tail (.tail .head)))))))))
theorem vD{a1 a2 a3 a4 a5 a6 a7 a8 a9 a10 a11 a12 a13 a14 a15 a16 a17 v:Value}:Put "_ns_stack" (some v) (VV a1 a2 a3 a4 a5 a6 a7 a8 a9 a10 a11 a12 a13 a14 a15 a16 a17) (VV a1 a2 a3 a4 a5 a6 a7 a8 a9 a10 v a12 a13 a14 a15 a16 a17):=(.tail (.tail (.tail (.tail (.tail (.tail (.tail (.tail (.tail (.tail .head))))))))))
theorem rA{a1 a2 a3 a4 a5 a6 a7 a8 a9 a10 a11 a12 a13 a14 a15 a16 a17 v:Value}:Put "_prefix_map" (some v) (VV a1 a2 a3 a4 a5 a6 a7 a8 a9 a10 a11 a12 a13 a14 a15 a16 a17) (VV a1 a2 a3 a4 a5 a6 a7 a8 a9 a10 a11 v a13 a14 a15 a16 a17):=(.tail (.tail (.tail (.tail (.tail (.tail (.tail (.tail (.tail (.tail (.tail .head)))))))))))
theorem kM{a1 a2 a3 a4 a5 a6 a7 a8 a9 a10 a11 a12 a13 a14 a15 a16 a17 v:Value}:Put "_preserve_space" (some v) (VV a1 a2 a3 a4 a5 a6 a7 a8 a9 a10 a11 a12 a13 a14 a15 a16 a17) (VV a1 a2 a3 a4 a5 a6 a7 a8 a9 a10 a11 a12 v a14 a15 a16 a17):=(.tail (.tail (.tail (.tail (.tail (.tail (.tail (.tail (.tail (.tail (.tail (.tail .head))))))))))))
theorem lV{a1 a2 a3 a4 a5 a6 a7 a8 a9 a10 a11 a12 a13 a14 a15 a16 a17 v:Value}:Put "_pending_start" (some v) (VV a1 a2 a3 a4 a5 a6 a7 a8 a9 a10 a11 a12 a13 a14 a15 a16 a17) (VV a1 a2 a3 a4 a5 a6 a7 a8 a9 a10 a11 a12 a13 v a15 a16 a17):=(.tail (.tail (.tail (.tail (.tail (.tail (.tail (.tail (.tail (.tail (.tail (.tail (.tail .head)))))))))))))
theorem sU{a1 a2 a3 a4 a5 a6 a7 a8 a9 a10 a11 a12 a13 a14 a15 a16 a17 v:Value}:Put "_root_seen" (some v) (VV a1 a2 a3 a4 a5 a6 a7 a8 a9 a10 a11 a12 a13 a14 a15 a16 a17) (VV a1 a2 a3 a4 a5 a6 a7 a8 a9 a10 a11 a12 a13 a14 v a16 a17):=(.tail (.tail (.tail (.tail (.tail (.tail (.tail (.tail (.tail (.tail (.tail (.tail (.tail (.tail .head))))))))))))))
theorem sV{a1 a2 a3 a4 a5 a6 a7 a8 a9 a10 a11 a12 a13 a14 a15 a16 a17 v:Value}:Put "_root_done" (some v) (VV a1 a2 a3 a4 a5 a6 a7 a8 a9 a10 a11 a12 a13 a14 a15 a16 a17) (VV a1 a2 a3 a4 a5 a6 a7 a8 a9 a10 a11 a12 a13 a14 a15 v a17):=(.tail (.tail (.tail (.tail (.tail (.tail (.tail (.tail (.tail (.tail (.tail (.tail (.tail (.tail (.tail .head)))))))))))))))
theorem lW{a1 a2 a3 a4 a5 a6 a7 a8 a9 a10 a11 a12 a13 a14 a15 a16 a17 v:Value}:Put "_ignored_depth" (some v) (VV a1 a2 a3 a4 a5 a6 a7 a8 a9 a10 a11 a12 a13 a14 a15 a16 a17) (VV a1 a2 a3 a4 a5 a6 a7 a8 a9 a10 a11 a12 a13 a14 a15 a16 v):=(.tail (.tail (.tail (.tail (.tail (.tail (.tail (.tail (.tail (.tail (.tail (.tail (.tail (.tail (.tail (.tail .head))))))))))))))))
inductive Mid (L L':Lg):Lg->Lg->Prop
 | head {N}:Mid L L' (L++N) (L'++N)
 | tail {p r r'}:Mid L L' r r'->Mid L L' (p::r) (p::r')
 | app {P r r'}:Mid L L' r r'->Mid L L' (P++r) (P++r')
theorem Mid.perm{L L' nw nw':Lg}(h:Mid L L' nw nw'):∃ N,nw.Perm (L++N)/\nw'.Perm (L'++N):=by
 induction h with
 | @head N=>exact⟨N,.refl _,.refl _⟩
 | @tail p r r' h ih=>
  obtain⟨N,h1,h2⟩:=ih;exact⟨p::N,(List.Perm.cons _ h1).trans AM.symm,(List.Perm.cons _ h2).trans AM.symm⟩
 | @app P r r' h ih=>
  obtain⟨N,h1,h2⟩:=ih;have e:∀ L:Lg,List.Perm (P++(L++N)) (L++(P++N)):=λ L=>by
   rw[←Ai,←Ai];exact List.Perm.append_right _ AU
  exact⟨P++N,(List.Perm.append_left P h1).trans (e _),(List.Perm.append_left P h2).trans (e _)⟩
structure Sink (W:Wd) where
 σ:Type
 q:Addr
 L:σ->Lg
 push:σ->Str->σ
 room:σ->Nat->Prop
 less:∀{st:σ} {n:Nat},room st (n+1)->room st n
 step:∀{st:σ} {n:Nat} (x:Str),room st (n+1)->room (push st x) n
 call:∀{G:Gens} {env:Env} {loc:Loc} {N:Lg} {s:Ac} {A:AJ} {E:Value->Ac->Prop} {x:Str} {t:Tok} {st:σ} {Q:Value->Ac->Prop},Aok 3 A->room st 1->Sta W G env loc (L st++N) s->
  (∀ s',Sta W G env loc (L (push st x)++N) s'->Q .none s')->Ad W.M A (PySem.call (.ref q) [.str x t]) Q E s
 keep:∀{N:Lg} {h:Heap} {st:σ},W.K.In h->Led W.B (L st++N) h->∃ k,(k=Keeper.frame\/k=Keeper.machine\/k=Keeper.boundFrame)/\Looks W.M h (keeperOf (.ref q)) k
noncomputable def Sink.pushes{W:Wd}(K:Sink W)(st:K.σ)(xs:List Str):K.σ:=xs.foldl K.push st
theorem Sink.pushes_append{W:Wd}(K:Sink W)(st:K.σ)(a b:List Str):K.pushes st (a++b)=K.pushes (K.pushes st a) b:=List.foldl_append
section
variable {C x dx:Addr}{vals vals':Loc}
theorem Sta.getF{name:Str}{v:Value}{expr:Bool}{Q:Value->Ac->Prop}(S:Sta W G env loc nw s)(c:Cl W.K C sfN)(mx:(x,bG C dx)∈nw)(md:(dx,aS vals)∈nw)(hk:vals.map Prod.fst=sfN)(hv:(name,some v)∈vals)(hh:handedIn v=true)(h:∀ s',Sta W G env loc nw s'->Q v s'):Ad W.M A (getAttr (.ref x) name expr) Q E s:=S.getattr c mx md hk hv hh h
theorem Sta.getM_val{name:Str}{v:Value}{Q:Value×List Value->Ac->Prop}(S:Sta W G env loc nw s)(c:Cl W.K C sfN)(mx:(x,bG C dx)∈nw)(md:(dx,aS vals)∈nw)(hk:vals.map Prod.fst=sfN)(hv:(name,some v)∈vals)(hh:handedIn v=true)(h:∀ s',Sta W G env loc nw s'->Q (v,[]) s'):GetM W.M A E name (.ref x) Q s:=λ pl=>by
 obtain⟨od,I,nd,_,q⟩:=S.inst mx md;obtain⟨es,ep,hd,hsk,hl,_⟩:=q;have hn:findIn W.K (.ref C) name=some none:=c.own _ (by rw[←hk];exact Ah.mpr ⟨_,hv,rfl⟩);exact method_usual S.kin I c.ga c.gh hn rfl (S.getattr c mx md hk hv hh h)
theorem Sta.sink{K:Sink W}{st:K.σ}{y:Str}{t:Tok}{Q:Value->Ac->Prop}(S:Sta W G env loc nw s)(hA:Aok 3 A)(hr:K.room st 1)(M:Mid (K.L st) (K.L (K.push st y)) nw nw')(h:∀ s',Sta W G env loc nw' s'->Q .none s'):Ad W.M A (call (.ref K.q) [.str y t]) Q E s:=by
 obtain⟨N,h1,h2⟩:=M.perm;exact K.call hA hr (S.perm h1) λ s' S'=>h _ (S'.perm h2.symm)
theorem aCe{K:Sink W}{pos:Pos}{e:Expr}{rest:List Expr}{Q:Value->Ac->Prop}(h:Ad W.M A (spliced (backTo pos (Aw (e::rest) env))) (λ vs s₁=>(∃ N st,W.K.In s₁.heap/\Led W.B (K.L st++N) s₁.heap)/\Ad W.M A (call (.ref K.q) vs) Q E s₁) E s)(he:Aw (e::rest) env=(false,eval e env)::Aw rest env)(hplain:(backTo pos (Aw rest env)).any (·.1)=false):Ad W.M A (callWith pos (.ref K.q) [] (backTo pos (Aw (e::rest) env)) (backToKw pos (keywordEach [] env))) Q E s:=by
 rw[he]at h ⊢;refine callWith_of (P:=λ h=>∃ N st,W.K.In h/\Led W.B (K.L st++N) h) (first:=[]) (by show(false||(backTo pos (Aw rest env)).any (·.1)||false)=false;rw[hplain];rfl) (λ h X=>?_) (Calls.evalArgs_plain h);obtain⟨N,st,X,D⟩:=X;exact K.keep X D
theorem Sta.sinkLed{K:Sink W}{st:K.σ}{L':Lg}(S:Sta W G env loc nw s)(M:Mid (K.L st) L' nw nw'):∃ N st,W.K.In s.heap/\Led W.B (K.L st++N) s.heap:=by
 obtain⟨N,h1,_⟩:=M.perm;exact⟨N,st,S.kin,(S.perm h1).led.tail⟩
theorem lM{M:Model}{h:Heap}{q:Addr}{id:String}{self:Value}(ho:h.get? q=some { cls:=.type "builtin_function_or_method",data:=.fields #[.builtin id,self] }):Looks M h (keeperOf (.ref q)) .machine:=
 (Looks.ld (part:=none) ho).andThen .now
end
noncomputable def bJ(W:Wd)(q out:Addr):Sink W where
 σ:=List Str
 q:=q
 L:=λ ss=>[(q,eE "list.append" (.ref out)),(out,aB ss)]
 push:=λ ss x=>ss++[x]
 room:=λ ss n=>ss.length+n<=16000000
 less:=λ h=>by walk_at "o"
 step:=λ x h=>by rw[Ae,Az];walk_at "o"
 call:=by
  intro G env loc N s A E x t st Q hA hr S h;obtain⟨o,ho,rfl⟩:=S.get (.head _);have U:Upd out (aB st) (aB (st++[x])) ([(q,eE "list.append" (.ref out)),(out,aB st)]++N) ([(q,eE "list.append" (.ref out)),(out,aB (st++[x]))]++N):=.tail .head;obtain⟨vs,nw1,ht,U1,U2,S1⟩:=S.openT U;obtain⟨nw2,U3,U4⟩:=U2.via2 (aA (vs++[.str x t]));obtain⟨n,hl⟩:=S1.isL U3.mem;have hz:vs.length<=Au:=by rw[ht.length,Av];exact An (AX _ 1) (An hr (by decide))
  refine wpAny_call (oL (W:=W) F.slot_list_append.plain F.entry_list_append ho (λ A' Q' E' hq=>rW hl A' Q' E' hq) ?_);refine list_append out vs.toArray n (.str x t) (by simpa using hz) W.prog W.w A (wants Q E) s ⟨hl,?_⟩;exact h _ ((S1.setL hl _ (by simp) U3 _).tell U4 λ o _ ho=>⟨_,ht.snoc x t,ho⟩)
 keep:=by
  intro N h st X D;obtain⟨o,ho,rfl⟩:=D.get (.head _);exact⟨.machine,.inr (.inl rfl),lM ho⟩
end Mine
variable {N:Mine.Lg}
namespace Mine
theorem wE{prog:Program}{w:World}{A:AJ}{E:Value->Ac->Prop}{h:Heap}{g:Array GenState}{d:Drawn}{t:Nat}{os:OsState}{a sl:Addr}{xs:List Value}{n:Nat}{Q:Fin->Ac->Prop}(hx:h.get? a=some { cls:=.type "list",data:=.seq xs.toArray n })(hs:h.get? sl=some { cls:=.type "slice",data:=.fields #[.none,.none,.none] })(hz:xs.length<=Au)(hq:∀ f:Array Value->Array Value,f xs.toArray=#[]->Q (.done (.ret .none)) ⟨h.update a (Obj.mapSeq f),g,d,t,os⟩):Ad (model prog w) A (Builtin.«list.__delitem__» ⟨[.ref a,.ref sl],[]⟩) Q E ⟨h,g,d,t,os⟩:=by
 unfold Builtin.«list.__delitem__»
 repeat lk
 refine wpAny_update hx ?_;have hf:∀(sel:Nat->Bool),(∀ k,k<xs.length->sel k=true)->(λ ys:Array Value=>(ys.toList.zipIdx.filterMap λ x=>if sel x.2=true then none else some x.1).toArray) xs.toArray=#[]:=by
  intro sel h;show(xs.zipIdx.filterMap λ x=>if sel x.2=true then none else some x.1).toArray=#[];rw[List.filterMap_eq_nil_iff.mpr];intro x hx;have:=(List.mem_zipIdx hx).2.1;rw[if_pos (h _ (by walk_at "o"))]
 have hs1:∀ k,k<xs.length->(if(1:Int)>0 then decide ((if(1:Int)>0 then 0 else(xs.toArray.size:Int)-1)<=(k:Int))&&decide ((k:Int)<(if(1:Int)>0 then(xs.toArray.size:Int)else -1))&&(((k:Int)-(if(1:Int)>0 then 0 else(xs.toArray.size:Int)-1))%1==0)
   else false)=true:=by
  intro k hk;simp;walk_at "o"
 have e:=hf _ hs1;refine wpAny_lookBehind (IsL.update hx _) ?_ ?_
 ·refine pastItsLine_seq ?_;refine An (List.length_filterMap_le _ _) ?_;rw[List.length_zipIdx];show xs.length<=Au+1;walk_at "o"
 refine Aa (wpAny_letGo ?_);refine Af ?_;exact hq _ e
noncomputable def DelK(W:Wd)(env:Env)(Q:Unit->Ac->Prop)(o:Value)(s:Ac):Prop:=
 ∃ G loc nw nw' l ss,Sta W G env loc nw s/\o=.ref l/\Upd l (aB ss) (aB []) nw nw'/\ss.length<=Au/\∀ s',Sta W G env loc nw' s'->Q () s'
theorem wD{value:Expr}{p pos:Pos}{Q:Unit->Ac->Prop}(h:Ad W.M A (eval value env) (λ o s₁=>DelK W env Q o s₁) E s):Ad W.M A (delete (.Subscript value (.Slice none none none p) pos) env) Q E s:=by
 show Ad _ _ (do
  let ov ← eval value env
  let iv ← holding [ov] (eval (.Slice none none none p) env)
  standAt pos
  holding [ov,iv] (delItem ov iv)
  release [ov,iv] []) _ _ _
 refine Aa (As h (λ o s₁ h₁=>?_) λ _ _ e=>e);obtain⟨G,loc,nw,nw',l,h₁⟩:=h₁;obtain⟨ss,S,rfl,U,hz,q⟩:=h₁;refine Aa (AC ?_);refine wpAny_Slice ?_;refine Af (Af (Af ?_));have S1:=S.new (c:=bZ { cls:=.type "slice",data:=.fields #[.none,.none,.none] }) rfl rfl s₁.toks;refine Aa (AP (Aa (AC ?_)));obtain⟨vs,nw1,ht,U1,U2,S2⟩:=S1.openT (.tail U);obtain⟨nw2,U3,U4⟩:=U2.via2 (aA []);obtain⟨n,hl⟩:=S2.isL U3.mem;obtain⟨o,ho,rfl⟩:=S1.get (.head _);refine wpAny_delItem_slot ⟨_,hl,rfl⟩ (by decide) F.slot_list_delitem ?_;refine wpAny_call (codeAny_call_builtin F.slot_list_delitem.plain F.entry_list_delitem (F.slot_list_delitem.check _ _ _ _ _ _ _ _ ⟨_,hl,rfl⟩ (F.args_list_delitem_2 _ _) ?_));refine wE hl ho (by rw[ht.length];exact hz) λ f hf=>?_;refine wpAny_release (q _ ?_);exact((S2.setL hl f hf U3 _).tell U4 λ o _ ho=>⟨_,.nil,ho⟩).sub (AQ _ _)
theorem wG{x:Str}{t0:Tok}{v:Value}(A':AJ)(Q':Unit->Ac->Prop)(E':Value->Ac->Prop)(hq:Q' () s):Ad W.M A' (checkBoundCall "str.join" ⟨[.str x t0,v],[]⟩) Q' E' s:=by
 obtain⟨h,g,d,t,os⟩:=s;have hT:(⟨h,g,d,t,os⟩:Ac).TypeIs (.str x t0) "str":=typeIs_str _ _ _;have f1:Manifest.signature? "str.join"=some ⟨.oneArg,"str.join","join",.self,[⟨"iterable",.posOnly,true⟩]⟩:=by kernel_rfl
 have f2:builtinKind "str.join"=some .method:=by kernel_rfl
 have f3:isSubtype (.type "str") (.type "module")=pure false:=by rw[isSubtype_type];kernel_rfl
 have f4:Manifest.varargsMethods.contains "str.join"=false:=by decide +kernel
 unfold checkBoundCall;refine Aa (wpAny_isInstance hT f3 ?_);refine Aa ?_;unfold isType
 repeat lk
 first | exact hq | exact Bi (f5 _ rfl) hq
theorem Sta.joinB{p a:Addr}{ss:List Str}{x:Str}{t0:Tok}{Q:Value->Ac->Prop}(S:Sta W G env loc nw s)(ho:W.K.lookup p=some { cls:=.type "builtin_function_or_method",data:=.fields #[.builtin "str.join",.str x t0] })(m:(a,aB ss)∈nw)(hx:x=Str.empty)(hz:(cat ss).length<=16777216)(h:∀ t' s',Sta W G env loc nw s'->Q (.str (cat ss) t') s'):Ad W.M A (call (.ref p) [.ref a]) Q E s:=by
 subst hx;obtain⟨vs,ht,hl⟩:=S.txts m;obtain⟨l,e1,e2⟩:=ht.values;rw[e1]at hl;have hok:=nX hz;rw[←e2]at hok;unfold JoinOk at hok;rw[Bw]at hok;refine wpAny_call (oL (W:=W) F.slot_str_join.plain F.entry_str_join (S.kin _ _ ho) (λ A' Q' E' hq=>wG A' Q' E' hq) ?_);refine meets_str_join_list Str.empty t0 a l hok W.prog W.w A (wants Q E) s ⟨hl,post_join l ⟨joinFit_length hok,λ t' k=>?_⟩⟩;rw[e2,oK];exact h _ _ (S.toks k)
theorem aCf{pos:Pos}{p:Addr}{id:String}{self:Value}{e:Expr}{rest:List Expr}{Q:Value->Ac->Prop}(ho:W.K.lookup p=some { cls:=.type "builtin_function_or_method",data:=.fields #[.builtin id,self] })(h:Ad W.M A (spliced (backTo pos (Aw (e::rest) env))) (λ vs s₁=>W.K.In s₁.heap/\Ad W.M A (call (.ref p) vs) Q E s₁) E s)(he:Aw (e::rest) env=(false,eval e env)::Aw rest env)(hplain:(backTo pos (Aw rest env)).any (·.1)=false):Ad W.M A (callWith pos (.ref p) [] (backTo pos (Aw (e::rest) env)) []) Q E s:=by
 rw[he]at h ⊢;exact callWith_of (P:=λ h=>W.K.In h) (first:=[]) (by show(false||(backTo pos (Aw rest env)).any (·.1)||false)=false;rw[hplain];rfl) (λ h X=>⟨.machine,.inr (.inl rfl),lM (X _ _ ho)⟩) (Calls.evalArgs_plain h)
theorem aAB{M:Model}{Q:Value->Ac->Prop}(h:Q (.bool false) s):Ad M A (compareOp .IsNot .none .none) Q E s:=wpAny_isNot_plain rfl h
theorem aAA{M:Model}{a:Addr}{Q:Value->Ac->Prop}(h:Q (.bool true) s):Ad M A (compareOp .IsNot (.ref a) .none) Q E s:=wpAny_isNot_plain rfl h
theorem aAz{M:Model}{x:Str}{t:Tok}{Q:Value->Ac->Prop}(h:Q (.bool true) s):Ad M A (compareOp .IsNot (.str x t) .none) Q E s:=wpAny_isNot_plain rfl h
theorem is_nn{M:Model}{Q:Value->Ac->Prop}(h:Q (.bool true) s):Ad M A (compareOp .Is .none .none) Q E s:=wpAny_is_plain rfl h
theorem is_sn{M:Model}{x:Str}{t:Tok}{Q:Value->Ac->Prop}(h:Q (.bool false) s):Ad M A (compareOp .Is (.str x t) .none) Q E s:=wpAny_is_plain rfl h
theorem dH{x:Str}{t:Tok}{Q:Bool->Ac->Prop}(S:Sta W G env loc nw s)(hz:x.length<=16777216)(h1:x.length=0->∀ s',Sta W G env loc nw s'->Q false s')(h2:x.length≠0->∀ s',Sta W G env loc nw s'->Q true s'):Ad W.M A (truthy (.str x t)) Q E s:=by
 refine SBL.truthy (by walk_at "o") ?_
 by_cases e:x.length=0
 ·have e2:((x.length:Int) != 0)=false:=by rw[e];rfl
  rw[e2];exact h1 e _ (S.toks _)
 ·have e2:((x.length:Int) != 0)=true:=bne_iff_ne.mpr (by walk_at "o");rw[e2];exact h2 e _ (S.toks _)
theorem Sta.getM_txts{name:Str}{a:Addr}{ss:List Str}{Q:Value×List Value->Ac->Prop}{id:String}(S:Sta W G env loc nw s)(m:(a,aB ss)∈nw)(slot:Slot "list" name id)(hty:typeOf (.builtin id)=pure (.type "method_descriptor"))(h:Q (.builtin id,[.ref a]) s):GetM W.M A E name (.ref a) Q s:=by
 obtain⟨o,ho,q0⟩:=S.get m;obtain⟨vs,ht,q0⟩:=q0;obtain⟨n,rfl⟩:=q0;exact dO F.plainAttrs_list slot hty ⟨_,ho,rfl⟩ (λ b e=>by cases e;exact⟨_,ho,rfl⟩) h
theorem Sta.truthyT{a:Addr}{ss:List Str}{Q:Bool->Ac->Prop}(S:Sta W G env loc nw s)(m:(a,aB ss)∈nw)(hz:ss.length<=Au)(h:∀ s',Sta W G env loc nw s'->Q (!ss.isEmpty) s'):Ad W.M A (truthy (.ref a)) Q E s:=by
 obtain⟨vs,ht,hl⟩:=S.txts m;have e:vs.isEmpty=ss.isEmpty:=by cases ht<;>rfl
 refine wpAny_truthy_list hl ?_ ?_
 ·rw[Av]at hz;rw[AN,ht.length];walk_at "o"
 ·have:=h _ (S.toks (s.toks+1+1));rw[←e]at this;simpa using this
theorem aF{M:Model}{A:AJ}{E:Value->Ac->Prop}{s:Ac}{env:Env}{l:List Stmt}{n:Nat}{st:Stmt}{Q:Flow->Ac->Prop}(h:l[n]?=some st)(k:Ad M A (exec st env) (λ f s₁=>match f with | .next=>Ad M A (execs (l.drop (n+1)) env) Q E s₁ | f=>Q f s₁) E s):Ad M A (execs (l.drop n) env) Q E s:=by
 obtain⟨hn,e⟩:=List.getElem?_eq_some_iff.mp h;rw[Ba hn,e];exact Ay k
theorem yY{M:Model}{A:AJ}{E:Value->Ac->Prop}{s:Ac}{env:Env}{l:List Stmt}{n:Nat}{st:Stmt}{Q:Flow->Ac->Prop}(h:l[n]?=some st)(k:∀ K:Flow->Ac->Prop,(∀ s',Ad M A (execs (l.drop (n+1)) env) Q E s'->K .next s')->(∀ v s',Q (.ret v) s'->K (.ret v) s')->Ad M A (exec st env) K E s):Ad M A (execs (l.drop n) env) Q E s:=
 aF h (k _ (λ _ h=>h) λ _ _ h=>h)
theorem tR{M:Model}{A:AJ}{E:Value->Ac->Prop}{s:Ac}{env:Env}{l:List Stmt}{st:Stmt}{Q:Flow->Ac->Prop}(k:∀ K:Flow->Ac->Prop,(∀ s',Ad M A (execs l env) Q E s'->K .next s')->(∀ v s',Q (.ret v) s'->K (.ret v) s')->Ad M A (exec st env) K E s):Ad M A (execs (st::l) env) Q E s:=
 Ay (k _ (λ _ h=>h) λ _ _ h=>h)
theorem fS{M:Model}{A:AJ}{E:Value->Ac->Prop}{s:Ac}{env:Env}{l:List Stmt}{n:Nat}{Q:Flow->Ac->Prop}(h:l.length<=n)(k:Q .next s):Ad M A (execs (l.drop n) env) Q E s:=by
 rw[Bo h];exact AI k
theorem aR{M:Model}{A:AJ}{E:Value->Ac->Prop}{s:Ac}{env:Env}{l:List Stmt}{Q:Flow->Ac->Prop}(k:Ad M A (execs (l.drop 0) env) Q E s):Ad M A (execs l env) Q E s:=k
noncomputable def SliceSK(W:Wd)(env:Env)(Q:Value->Ac->Prop)(o vl vu:Value)(s:Ac):Prop:=
 ∃ G loc nw x t lo hi,Sta W G env loc nw s/\o=.str x t/\x.length<=Au/\IsPart vl lo/\IsPart vu hi/\∀ t' s',Sta W G env loc nw s'->Q (.str (Txt.slice x lo hi) t') s'
noncomputable def bI(W:Wd)(S:Str->Bool)(n:Nat):Cell:=λ o=>o.SetObjOf (PySem.strKind W.prog W.w) S n
theorem nI{v:Value}{o:Option Int}(h:IsPart v o):∃ l:Option (Int×Tok),v=partValue l/\l.map (·.1)=o:=by
 cases h with
 | none=>exact⟨none,rfl,rfl⟩
 | int i t=>exact⟨some (i,t),rfl,rfl⟩
theorem wS{value:Expr}{lower upper:Option Expr}{p pos:Pos}{Q:Value->Ac->Prop}(h:Ad W.M A (eval value env) (λ o s₁=>Ad W.M A (evalPart lower env) (λ vl s₂=>Ad W.M A (evalPart upper env) (λ vu s₃=>SliceSK W env Q o vl vu s₃) E s₂) E s₁) E s)(ht:∀ o r,letTemporaryGo value o r=pure ():=by intro _ _;rfl):Ad W.M A (eval (.Subscript value (.Slice lower upper none p) pos) env) Q E s:=by
 refine wpAny_Subscript_str_slice (As h (λ o s₁ h₁=>As h₁ (λ vl s₂ h₂=>As h₂ (λ vu s₃ h₃=>?_) λ _ _ e=>e) λ _ _ e=>e) λ _ _ e=>e) ht;obtain⟨G,loc,nw,x,t,h₃⟩:=h₃;obtain⟨lo,hi,S,rfl,hz,h₃⟩:=h₃;obtain⟨pl,pu,q⟩:=h₃;obtain⟨l,e1,e2⟩:=nI pl;obtain⟨u,e3,e4⟩:=nI pu;refine⟨x,t,l,u,rfl,e1,e3,?_⟩;have k:∀ t' k,Q (.str (Txt.slice x (l.map (·.1)) (u.map (·.1))) t') { s₃ with heap:=s₃.heap.push { cls:=.type "slice",data:=.fields #[vl,vu,.none] },toks:=k }:=λ t' k=>by
  rw[e2,e4];exact q _ _ (S.grow (λ _ _ e=>Heap.get?_push_of_some _ e) k)
 exact post_val_or_str ⟨An (Txt.slice_le x _ _) hz,λ t' j=>k t' j⟩
theorem wB{x y:Str}{t u:Tok}{Q:Value->Ac->Prop}(h1:x=y->Q (.bool true) s)(h2:x≠y->Q (.bool false) s):Ad W.M A (compareOp .Eq (.str x t) (.str y u)) Q E s:=by
 refine PyProof.Rows.eq_str ?_
 by_cases e:x=y
 ·have:(x.cps.toList==y.cps.toList)=true:=by rw[e];simp
  first | (rw[this];exact h1 e) | (have e2:(x==y)=true:=(by rw[e];simp);rw[e2];exact h1 e)
 ·have:(x.cps.toList==y.cps.toList)=false:=by
   rw[beq_eq_false_iff_ne];exact λ q=>e (Str.ext' q)
  first | (rw[this];exact h2 e) | (have e2:(x==y)=false:=(by rw[beq_eq_false_iff_ne];exact e);rw[e2];exact h2 e)
theorem Sta.newSet{Q:Value->Ac->Prop}(S:Sta W G env loc nw s)(h:∀ a s',Sta W G env loc ((a,bI W (λ _=>false) 0)::nw) s'->Q (.ref a) s'):Ad W.M A (call (.type "set") []) Q E s:=
 call_set_0 λ led=>h _ _ (S.new (c:=bI W (λ _=>false) 0) rfl (setObjOf_fresh led) s.toks)
theorem Sta.setAt{a:Addr}{T:Str->Bool}{n:Nat}(S:Sta W G env loc nw s)(m:(a,bI W T n)∈nw)(hn:n<Bu):s.heap.SetOf (PySem.strKind W.prog W.w) a T n:=by
 obtain⟨o,ho,hc⟩:=S.get m;exact hc.setOf ho hn
theorem Sta.getM_add{a:Addr}{T:Str->Bool}{n:Nat}{Q:Value×List Value->Ac->Prop}(S:Sta W G env loc nw s)(m:(a,bI W T n)∈nw)(hn:n<Bu)(h:Q (.builtin "set.add",[.ref a]) s):GetM W.M A E "add" (.ref a) Q s:=λ _=>
 getMethod_set_add (S.setAt m hn) h
theorem Sta.setAdd{a:Addr}{T:Str->Bool}{n:Nat}{x:Str}{t:Tok}{Q:Value->Ac->Prop}(S:Sta W G env loc nw s)(U:Upd a (bI W T n) (bI W (λ k=>T k||decide (k=x)) (if T x then n else n+1)) nw nw')(hn:n+1<Bu)(h:∀ s',Sta W G env loc nw' s'->Q .none s'):Ad W.M A (call (.builtin "set.add") [.ref a,.str x t]) Q E s:=by
 refine call_set_add (k:=x) (by simp[PySem.strKind,Value.isStrOf]) rfl (S.setAt U.mem (by walk_at "o")) hn λ h' hsb hS=>?_;obtain⟨o,ho,hc⟩:=hS.objOf;exact h _ (S.set U (λ b o hb e=>(hsb.2 b hb).trans e) ho hc _)
theorem Sta.notInSet{a:Addr}{T:Str->Bool}{n:Nat}{x:Str}{t:Tok}{Q:Value->Ac->Prop}(S:Sta W G env loc nw s)(m:(a,bI W T n)∈nw)(hn:n<Bu)(h:∀ s',Sta W G env loc nw s'->Q (.bool (!T x)) s'):Ad W.M A (compareOp .NotIn (.str x t) (.ref a)) Q E s:=
 wpAny_notInSet_of (k:=x) (by simp[PySem.strKind,Value.isStrOf]) rfl (S.setAt m hn) (h _ (S.toks _))
theorem Sta.inSet{a:Addr}{T:Str->Bool}{n:Nat}{x:Str}{t:Tok}{Q:Value->Ac->Prop}(S:Sta W G env loc nw s)(m:(a,bI W T n)∈nw)(hn:n<Bu)(h:∀ s',Sta W G env loc nw s'->Q (.bool (T x)) s'):Ad W.M A (compareOp .In (.str x t) (.ref a)) Q E s:=
 wpAny_inSet_of (k:=x) (by simp[PySem.strKind,Value.isStrOf]) rfl (S.setAt m hn) (h _ (S.toks _))
noncomputable def IsD(W:Wd)(d:Addr)(kvs:List (Str×Value)):Cell:=λ o=>d≠sysModules/\o.IsDictOf (PySem.strKind W.prog W.w) kvs
theorem Sta.size_mods(S:Sta W G env loc nw s):s.heap.objs.size≠sysModules:=by
 obtain⟨mg,o,es,ep,hg,_⟩:=S.ok.g;have h1:=Heap.lt_size (S.led.keep _ _ hg);have h2:sysModules<AL:=by decide
 exact λ e=>by
  have:AL<sysModules:=e▸h1;exact absurd (Nat.lt_trans h2 this) (BE _)
theorem kQ{d:Addr}(h:d≠sysModules):IsD W d [] { cls:=.type "dict",data:=.dict #[] }:=by
 exact⟨h,#[],0,⟨rfl,rfl,rfl⟩,rfl,λ e he=>by simp at he,.nil,List.nodup_nil⟩
theorem Sta.newDict{Q:Value->Ac->Prop}{M:Model}(S:Sta W G env loc nw s)(h:∀ a s',Sta W G env loc ((a,IsD W a [])::nw) s'->Q (.ref a) s'):Ad M A newDict Q E s:=
 wpAny_newObj_type (h _ _ (S.new (c:=IsD W s.heap.objs.size []) rfl (kQ S.size_mods) s.toks))
theorem Sta.dictD0{pos:Pos}{Q:Value->Ac->Prop}{M:Model}(S:Sta W G env loc nw s)(h:∀ a s',Sta W G env loc ((a,IsD W a [])::nw) s'->Q (.ref a) s'):Ad M A (eval (.Dict [] [] pos) env) Q E s:=
 wpAny_Dict_empty (h _ _ (S.new (c:=IsD W s.heap.objs.size []) rfl (kQ S.size_mods) s.toks))
theorem Sta.dictAt{d:Addr}{kvs:List (Str×Value)}(S:Sta W G env loc nw s)(m:(d,IsD W d kvs)∈nw):s.heap.DictOf (PySem.strKind W.prog W.w) d kvs/\(d==sysModules)=false:=by
 obtain⟨o,ho,hne,hd⟩:=S.get m;exact⟨Heap.dictOf_iff.mpr ⟨o,ho,hd⟩,by rw[beq_eq_false_iff_ne];exact hne⟩
theorem Sta.dictSet{d:Addr}{kvs:List (Str×Value)}{x:Str}{t:Tok}{v:Value}{Q:Unit->Ac->Prop}(S:Sta W G env loc nw s)(U:Upd d (IsD W d kvs) (IsD W d (stored kvs x v)) nw nw')(hz:kvs.length+1<=Au)(h:∀ s',Sta W G env loc nw' s'->Q () s'):Ad W.M A (dictSet d (.str x t) v) Q E s:=by
 obtain⟨hd,hn⟩:=S.dictAt U.mem;refine wpAny_dictSet_pairs (strKind_is _ _ x t) hd (λ h' hm hs=>?_) ?_
 ·obtain⟨o,ho,hdo⟩:=Heap.dictOf_iff.mp hm;exact h _ (S.set U (λ b o hb e=>(hs.2 b hb).trans e) ho ⟨by simpa using hn,hdo⟩ _)
 ·walk_at "o"
theorem kB{prog:Program}{w:World}{A:AJ}{s:Ac}{R:Result->Ac->Prop}{kx vx:Expr}{gens:List Comprehension}{scope:Scope}{pos p:Pos}{d:Nat}{target:Expr}{it acc:Value}{env:Env}{body:Sem Unit}(hT:compTurn (.DictComp kx vx gens scope pos) d it acc env=(standAt p >>= λ _=>pyNext it >>= λ r=>match r with
   | none=>pure (.done .next)
   | some v=>letOwnedTupleGo target it v >>= λ _=>assign target env v >>= λ _=>body >>= λ _=>again (.compLoop (.DictComp kx vx gens scope pos) d it acc env)))(I:Nat->Ac->Prop)(turn:∀ n s,I n s->Ad (model prog w) A (pyNext it) (λ r s₁=>match r with
   | none=>R (.ok .next) s₁
   | some v=>Ad (model prog w) A (letOwnedTupleGo target it v) (λ _ s₁=>Ad (model prog w) A (assign target env v) (λ _ s₂=>Ad (model prog w) A body (λ _ s₃=>∃ m,m<n/\I m s₃)
     (λ _ _=>False) s₂) (λ _ _=>False) s₁) (λ _ _=>False) s₁) (λ _ _=>False) s)(n:Nat)(h:I n s):codeAny (model prog w) A (.compLoop (.DictComp kx vx gens scope pos) d it acc env) R s:=by
 refine codeAny_loop rfl I (λ n s hI=>?_) n h;refine wpAny_noted ?_;rw[hT];refine Aa (AP (Aa (As (turn n s hI) (λ r s₁ h₁=>?_) λ _ _ h'=>h'.elim)));cases r with
 | none=>exact Af h₁
 | some v=>
  refine Aa (As h₁ (λ _ s₁' h₁'=>?_) λ _ _ h'=>h'.elim);refine Aa (As h₁' (λ _ s₂ h₂=>Aa (As h₂ (λ _ s₃ h₃=>?_) λ _ _ h'=>h'.elim)) λ _ _ h'=>h'.elim);exact Af ⟨rfl,h₃⟩
section
variable {W:Wd}{sh:Lg}{env:Env}{A:AJ}{R:Result->Ac->Prop}{it:Addr}{target:Expr}{kx vx:Expr}{gens:List Comprehension}{scope:Scope}{pos p:Pos}{d:Nat}{acc:Value}{body:Sem Unit}
theorem aB1{α:Type}{P:α->Value->Prop}(hA:Aok 7 A)(hT:compTurn (.DictComp kx vx gens scope pos) d (.ref it) acc env=(standAt p >>= λ _=>pyNext (.ref it) >>= λ r=>match r with
   | none=>pure (.done .next)
   | some v=>letOwnedTupleGo target (.ref it) v >>= λ _=>assign target env v >>= λ _=>body >>= λ _=>again (.compLoop (.DictComp kx vx gens scope pos) d (.ref it) acc env)))(J:List α->Loc->Lg->Gens->Prop)(turn:∀ x v rest tl tg loc nw G s,P x v->Sta W (G++tg) env loc (nw++(sh++tl)) s->J (x::rest) loc nw G-> Ad W.M A (assign target env v) (λ _ s₂=>Ad W.M A body (λ _ s₃=>∃ loc' nw' G',Sta W (G'++tg) env loc' (nw'++(sh++tl)) s₃/\J rest loc' nw' G') (λ _ _=>False) s₂) (λ _ _=>False) s)(fin:∀ loc nw G s,Sta W G env loc (nw++sh) s->J [] loc nw G->R (.ok .next) s){vs:List α}{own:Lg}{og G:Gens}{loc:Loc}{nw:Lg}{s:Ac}(S:Sta W (G++og) env loc (nw++(sh++own)) s)(hy:YdR W sh it P vs own og)(hJ:J vs loc nw G):codeAny W.M A (.compLoop (.DictComp kx vx gens scope pos) d (.ref it) acc env) R s:=by
 refine kB hT (λ n s=>∃ vs own og G loc nw,vs.length=n/\Sta W (G++og) env loc (nw++(sh++own)) s/\YdR W sh it P vs own og/\J vs loc nw G) (λ n s hI=>?_) vs.length ⟨vs,own,og,G,loc,nw,rfl,S,hy,hJ⟩;obtain⟨vs,own,og,G,loc,hI⟩:=hI;obtain⟨nw,hn,S,hy,hJ⟩:=hI;cases vs with
 | nil=>exact hy.2 A ((env.locals,aI loc)::nw) G s _ _ hA S.to0 λ s' S'=>fin loc nw G s' (St0.toSta S' S.eok) hJ
 | cons x rest=>
  refine hy.2 A ((env.locals,aI loc)::nw) G s _ _ hA S.to0 λ v own' og' s' hpv S' hy'=>?_;have S1:Sta W (G++og') env loc (nw++(sh++own')) s':=St0.toSta S' S.eok;have ht:Typ sh it own':=by cases rest<;>exact hy'.1
  obtain⟨c,hc,hp⟩:=ht;obtain⟨o,ho,hco⟩:=S1.get (a:=it) (c:=c) (Ag _ hc);refine zI ho (hp o hco) ?_;refine As (turn x v rest own' og' loc nw G s' hpv S1 hJ) (λ _ s₂ h₂=>As h₂ (λ f s₃ h₃=>?_) λ _ _ h=>h) λ _ _ h=>h;obtain⟨loc',nw',G',S3,hJ'⟩:=h₃;exact⟨rest.length,by rw[←hn];simp,rest,own',og',G',loc',nw',rfl,S3,hy',hJ'⟩
theorem tV{c:Cell}{s:Ac}{g:Comprehension}(hg:gens[d]?=some g)(ha:g.is_async=0)(hs:oR W it c)(m:∃ o,s.heap.get? it=some o/\c o)(h:codeAny W.M A (.compLoop (.DictComp kx vx gens scope pos) d (.ref it) acc env) R s):codeAny W.M A (.compStart (.DictComp kx vx gens scope pos) d (.ref it) acc env) R s:=by
 obtain⟨o,ho,hc⟩:=m;refine codeAny_of_tree ?_;refine wpAny_notedAt ?_;have e:(clausesOf (.DictComp kx vx gens scope pos))[d]?=some g:=hg;unfold compStart;rw[e];rw[Option.elim_some,ha];show Ad _ _ (ask >>= _) _ _ s;refine Aa (wpAny_askSetting (wpAny_ite ?_))
 split
 ·exact Af (And.intro rfl h)
 ·exact Aa (wpAny_rule (Aa (AP (Aa (hs A _ _ _ o ho hc (Af (And.intro rfl h)))))))
end
noncomputable def SetL(W:Wd)(o:Obj)(ss:List Str):Prop:=
 o.ExactSet/\∃ es ep t,o.data=.set es ep t/\ElemsOf (PySem.strKind W.prog W.w) es.toList/\(∃ ss',TxA (es.toList.map (·.2)) ss'/\ss'.Perm ss)/\t.fits es.size=true∧
  (t.led=true\/W.w.params.followText "set-order"=true)/\(es.size≠0->t.plain=false)/\(es.size<=1->t.mask=7/\t.dummies=#[])
noncomputable def cZ(W:Wd)(ss:List Str):Cell:=λ o=>SetL W o ss
theorem TxA.perm{vs vs':List Value}(p:vs'.Perm vs):∀{ss:List Str},TxA vs ss->∃ ss',TxA vs' ss'/\ss'.Perm ss:=by
 induction p with
 | nil=>intro ss h;exact⟨ss,h,.refl _⟩
 | cons x p ih=>
  intro ss h;cases h with
  | cons y t h=>
   obtain⟨ss',h1,h2⟩:=ih h;exact⟨y::ss',.cons y t h1,h2.cons _⟩
 | swap x y l=>
  intro ss h;cases h with
  | cons a t h=>cases h with
   | cons b u h=>exact⟨_,.cons _ _ (.cons _ _ h),.swap ..⟩
 | trans p q ih1 ih2=>
  intro ss h;obtain⟨s1,a1,b1⟩:=ih2 h;obtain⟨s2,a2,b2⟩:=ih1 a1;exact⟨s2,a2,b2.trans b1⟩
theorem pF(t:SetTable)(n:Nat):(t.orStandIn n).led=t.led:=by unfold SetTable.orStandIn;split<;>rfl
theorem vQ(t:SetTable)(es:Array (Int×Value))(h:Int)(x:Value):(layNew t es h x).2.1.led=t.led:=by
 unfold layNew
 split
 ·exact pF _ _
 ·rfl
theorem qU(t:SetTable)(es:Array (Int×Value))(w:Nat):(relayAll t es w).2.1.led=t.led:=by
 unfold relayAll
 split
 ·rename_i t' order e;dsimp only
  split
  ·unfold SetTable.relaid SetTable.laid at e;simp only[bind,Option.bind]at e
   split at e
   ·injection e
   ·injection e with e;injection e with e1 e2;rw[←e1]
  ·rfl
 ·rfl
theorem nD(t:SetTable)(es:Array (Int×Value))(w:Nat)(hp:t.plain=false):(relayAll t es w).2.1.plain=false:=by
 unfold relayAll
 split
 ·rename_i t' order e;dsimp only
  split
  ·unfold SetTable.relaid SetTable.laid at e;simp only[bind,Option.bind]at e
   split at e
   ·injection e
   ·injection e with e;injection e with e1 e2;rw[←e1];exact hp
  ·rfl
 ·rfl
theorem rK{t:SetTable}(hm:t.mask=7)(hp:t.place.size=0)(hd:t.dummies=#[])(es:Array (Int×Value))(he:es.size=0)(h:Int)(x:Value):(layNew t es h x).2.1.mask=7/\(layNew t es h x).2.1.dummies=#[]/\(layNew t es h x).2.1.place.size=1/\(layNew t es h x).1.size=1:=by
 have hp0:t.place=#[]:=Array.size_eq_zero_iff.mp hp;have he0:es=#[]:=Array.size_eq_zero_iff.mp he;subst he0;obtain⟨mask,place,dummies,finger,led,moves,plain⟩:=t;dsimp only at hm hp0 hd;subst hm hp0 hd;have hs:∀ j,SetTable.slot ⟨7,#[],#[],finger,led,moves,plain⟩ j=.empty:=by
  exact λ j=>rfl
 have hf:SetTable.freeSlot ⟨7,#[],#[],finger,led,moves,plain⟩ h=some ((SetTable.probeStart ⟨7,#[],#[],finger,led,moves,plain⟩ h).j,false):=by
  have key:∀(f:Nat->Int) (p:SetTable.Probe),SetTable.probe.go ⟨7,#[],#[],finger,led,moves,plain⟩ f h (219+1) p=some (.empty p.j p.dummy):=by
   exact λ f p=>rfl
  rfl
 unfold layNew;rw[hf];dsimp only
 have hq:(SetTable.put ⟨7,#[],#[],finger,led,moves,plain⟩ (SetTable.probeStart ⟨7,#[],#[],finger,led,moves,plain⟩ h).j)=(⟨7,#[(SetTable.probeStart ⟨7,#[],#[],finger,led,moves,plain⟩ h).j],#[],finger,led,moves,plain⟩,0):=by
  rfl
 rw[hq];dsimp only
 have hi:(SetTable.insertAt (#[]:Array (Int×Value)) 0 (h,x)).size=1:=rfl;have ho:SetTable.orStandIn ⟨7,#[(SetTable.probeStart ⟨7,#[],#[],finger,led,moves,plain⟩ h).j],#[],finger,led,moves,plain⟩ 1=⟨7,#[(SetTable.probeStart ⟨7,#[],#[],finger,led,moves,plain⟩ h).j],#[],finger,led,moves,plain⟩:=by
  unfold SetTable.orStandIn
  rfl
 exact⟨rfl,rfl,rfl,rfl⟩
theorem aAC{x y:Str}{t:Tok}(h:(PySem.strKind W.prog W.w).is x (.str y t)=true):x=y:=by
 have:Value.isStrOf x (.str y t)=true:=h;simp[Value.isStrOf]at this
 first | exact this | exact this.symm
theorem TxA.mem{vs:List Value}{ss:List Str}(h:TxA vs ss){v:Value}(hv:v∈vs):∃ x t,v=.str x t/\x∈ss:=by
 induction h with
 | nil=>cases hv
 | cons x t h ih=>
  rcases At.mp hv with rfl | hv
  ·exact⟨x,t,rfl,.head _⟩
  ·obtain⟨y,u,e,m⟩:=ih hv;exact⟨y,u,e,.tail _ m⟩
theorem nC{a:Addr}{o:Obj}{es:Array (Int×Value)}{ep:Nat}{t:SetTable}{h:Heap}(ho:h.get? a=some o)(hex:o.ExactSet)(hd:o.data=.set es ep t)(es':Array (Int×Value))(t':SetTable):∃ o',(h.update a (Obj.putSet es' t')).get? a=some o'/\o'.ExactSet/\o'.data=.set es' (ep+1) t':=by
 obtain⟨c,di,dt,sl⟩:=o;dsimp only at hd;subst hd;exact⟨_,Heap.get?_update_self _ ho rfl,hex,rfl⟩
theorem aCq{g:Bool->Sem Unit}(hg:∀(b:Bool) (s₁:Ac) (Q':Unit->Ac->Prop),Q' () s₁->Ad W.M A (g b) Q' E s₁){a:Addr}{o:Obj}{es:Array (Int×Value)}{ep:Nat}{t:SetTable}(ho:s.heap.get? a=some o)(hex:o.ExactSet)(hd:o.data=.set es ep t){es1:Array (Int×Value)}{t2:SetTable}(hb1:es1.size<Bu)(hf2:t2.fits es1.size=true)(hp2:t2.plain=false){wasDummy:Bool}{R:Option Bool->Ac->Prop}(h:∀ h' o' es2 ep2 t3,Heap.SameBut a s.heap h'->h'.get? a=some o'->o'.ExactSet->o'.data=.set es2 ep2 t3->es2.toList.Perm es1.toList->t3.fits es2.size=true->t3.led=t2.led->t3.plain=false->(t2.tooFull=false->t3=t2)->R (some true) { s with heap:=h' }):Ad W.M A (do
    storeSet a es1 t2
    if(!wasDummy&&t2.tooFull)=true then do
      g (relayAll t2 es1 (SetTable.grown es1.size)).2.2
      storeSet a (relayAll t2 es1 (SetTable.grown es1.size)).1 (relayAll t2 es1 (SetTable.grown es1.size)).2.1
      pure (some true)
     else pure (some true)) R E s:=by
 refine Aa (wpAny_storeSet_of ho hd ?_ (fits_of_scanBound hb1));obtain⟨o1,ho1,hex1,hd1⟩:=nC ho hex hd es1 t2
 split
 ·rename_i hfull;have hp:=relayAll_perm t2 es1 (SetTable.grown es1.size);have hfr:=relayAll_fits t2 es1 (SetTable.grown es1.size);have hlr:=qU t2 es1 (SetTable.grown es1.size);have hpr:=nD t2 es1 (SetTable.grown es1.size) hp2;generalize hRl:relayAll t2 es1 (SetTable.grown es1.size)=Rl at hp hfr hlr hpr ⊢;obtain⟨es2,t3,gave2⟩:=Rl;have hsz:es2.size=es1.size:=by rw[←A8,hp.length_eq,A8]
  refine Aa (hg _ _ _ ?_);refine Aa (wpAny_storeSet_of ho1 hd1 ?_ (fits_of_scanBound (by rw[hsz];exact hb1)));obtain⟨o2,ho2,hex2,hd2⟩:=nC ho1 hex1 hd1 es2 t3;exact Af (h _ o2 es2 _ t3 ((Heap.SameBut.update s.heap a (Obj.putSet es1 t2)).trans (Heap.SameBut.update _ a _)) ho2 hex2 hd2 hp hfr hlr hpr λ q=>by rw[q]at hfull;simp at hfull)
 ·exact Af (h _ o1 es1 _ t2 (Heap.SameBut.update s.heap a (Obj.putSet es1 t2)) ho1 hex1 hd1 (.refl _) hf2 rfl hp2 λ _=>rfl)
theorem Sta.addL{a:Addr}{ss:List Str}{x:Str}{t:Tok}{Q:Bool->Ac->Prop}(S:Sta W G env loc nw s)(U:Upd a (cZ W ss) (cZ W (ss++[x])) nw nw')(hx:x∉ss)(hn:ss.length+1<Bu)(h:∀ s',Sta W G env loc nw' s'->Q true s'):Ad W.M A (setAddHashed a (.str x t) ((PySem.strKind W.prog W.w).hash x)) Q E s:=by
 obtain⟨o,ho,q⟩:=S.get U.mem;obtain⟨hex,q⟩:=q;obtain⟨es,ep,tb,hd,hel,q⟩:=q;obtain⟨hss,hf,hled,hpl,hsm⟩:=q;obtain⟨ss',htx,hpm⟩:=hss;have hlen:es.size=ss.length:=by
  have:=htx.length;rw[Al,A8]at this;rw[this,hpm.length_eq]
 refine AC (Aa (wpAny_setState_of ho hd hf ?_));dsimp only
 rw[byScan_of (knd:=PySem.strKind W.prog W.w) rfl (by walk_at "o") hel];refine Aa ?_;refine Aa (wpAny_rule ?_);refine Aa (wpAny_setScan_of (strKind_is W.prog W.w x t) ho hd hf hel ?_);have hr:List.findIdx? (λ e=>(PySem.strKind W.prog W.w).is x e.2) es.toList=none:=by
  rw[List.findIdx?_eq_none_iff];intro e he;cases q:(PySem.strKind W.prog W.w).is x e.2 with
  | false=>rfl
  | true=>
   obtain⟨y,u,e1,m⟩:=htx.mem (Ah.mpr ⟨e,he,rfl⟩);rw[e1]at q;exact absurd (hpm.mem_iff.mp (aAC q▸m)) hx
 rw[hr];have hgw:∀(b:Bool) {s₁:Ac} {Q':Unit->Ac->Prop},Q' () s₁->Ad W.M A (match b with | true=>rule "set.scan.the-table-gave-way" | false=>pure ()) Q' E s₁:=
  λ b s₁ Q' hq=>by cases b<;>first | exact Af hq | exact wpAny_rule hq
 have hperm:=layNew_perm tb es ((PySem.strKind W.prog W.w).hash x) (.str x t);have hfits:=layNew_fits tb es ((PySem.strKind W.prog W.w).hash x) (.str x t);have hleds:=vQ tb es ((PySem.strKind W.prog W.w).hash x) (.str x t);have hfirst:es.size=0->_:=λ q=>rK (hsm (by walk_at "o")).1 (by have:=hf;simp only[SetTable.fits,AK,beq_iff_eq]at this;walk_at "o") (hsm (by walk_at "o")).2 es q ((PySem.strKind W.prog W.w).hash x) (.str x t);generalize hL:layNew tb es ((PySem.strKind W.prog W.w).hash x) (.str x t)=L at hperm hfits hleds hfirst ⊢;obtain⟨es1,t1,wasDummy,gave⟩:=L;dsimp only at hperm hfits hleds hfirst ⊢;rw[Array.toList_push]at hperm;have hel1:ElemsOf (PySem.strKind W.prog W.w) es1.toList:=(hel.push (strKind_is W.prog W.w x t) rfl).perm hperm;have hb1':es1.size<Bu:=by rw[←A8,hperm.length_eq,Ae,A8];simpa[hlen]using hn
 refine Aa (hgw _ ?_);have fin:∀ h' o' es2 ep2 t3,Heap.SameBut a s.heap h'->h'.get? a=some o'->o'.ExactSet->o'.data=.set es2 ep2 t3->es2.toList.Perm es1.toList->t3.fits es2.size=true->t3.led=t1.led->t3.plain=false->(t1.tooFull=false->t3.mask=t1.mask/\t3.dummies=t1.dummies)->Q true { s with heap:=h' }:=by
  intro h' o' es2 ep2 t3 hsb ho' hex' hd' hp hf' hl' hpl' hsame;refine h _ (S.set U (λ b o hb e=>(hsb.2 b hb).trans e) ho' ⟨hex',es2,ep2,t3,hd',hel1.perm hp,?_,hf',?_,λ _=>hpl',λ q=>?_⟩ s.toks)
  ·have h1:TxA ((es.toList++[((PySem.strKind W.prog W.w).hash x,Value.str x t)]).map (·.2)) (ss'++[x]):=by
    rw[Ao];exact htx.snoc x t
   obtain⟨s2,a2,b2⟩:=TxA.perm ((hp.trans hperm).map (·.2)) h1;exact⟨s2,a2,b2.trans (hpm.append_right _)⟩
  ·rw[hl',hleds];exact hled
  ·have e1:es2.size=es.size+1:=by rw[←A8,hp.length_eq,hperm.length_eq,Ae,A8];rfl
   obtain⟨m1,d1,p1,z1⟩:=hfirst (by walk_at "o");have hfull:t1.tooFull=false:=by
    unfold SetTable.tooFull SetTable.fill;rw[p1,d1,m1];rfl
   obtain⟨q1,q2⟩:=hsame hfull;exact⟨q1.trans m1,q2.trans d1⟩
 split
 ·refine Aa ?_;refine Af ?_;refine aCq ?_ ho hex hd hb1' ?_ ?_ ?_
  ·intro b s₁ Q' hq;cases b<;>first | exact Af hq | exact wpAny_rule hq
  ·split
   ·exact hfits
   ·exact SetTable.fits_plain_off hfits
  ·rfl
  ·intro h' o' es2 ep2 t3 hsb ho' hex' hd' hp hf' hl' hpl' hsame;exact Af (fin h' o' es2 ep2 t3 hsb ho' hex' hd' hp hf' hl' hpl' λ q=>by rw[hsame q];exact⟨rfl,rfl⟩)
 ·rename_i hpf;refine Aa (Af ?_);refine aCq ?_ ho hex hd hb1' hfits (by simpa using hpf) ?_
  ·intro b s₁ Q' hq;cases b<;>first | exact Af hq | exact wpAny_rule hq
  ·intro h' o' es2 ep2 t3 hsb ho' hex' hd' hp hf' hl' hpl' hsame;exact Af (fin h' o' es2 ep2 t3 hsb ho' hex' hd' hp hf' hl' hpl' λ q=>by rw[hsame q];exact⟨rfl,rfl⟩)
noncomputable def rY(W:Wd)(d:Addr)(kvs:List (Str×Value))(ep:Nat):Cell:=λ o=>d≠sysModules/\∃ es,o.ExactDict/\o.data=.dict es ep/\KeysOf (PySem.strKind W.prog W.w) es/\Pairs (PySem.strKind W.prog W.w) es.toList kvs/\(kvs.map (·.1)).Nodup
theorem iM:isSubtype (.type "dict") (.type "frozenset")=pure false:=by rw[isSubtype_type];kernel_rfl
theorem Sta.dictE{d:Addr}{kvs:List (Str×Value)}{ep:Nat}(S:Sta W G env loc nw s)(m:(d,rY W d kvs ep)∈nw):s.heap.DictAt (PySem.strKind W.prog W.w) d kvs ep/\(d==sysModules)=false:=by
 obtain⟨o,ho,hne,q0⟩:=S.get m;obtain⟨es,r⟩:=q0;exact⟨⟨o,es,ho,r⟩,by rw[beq_eq_false_iff_ne];exact hne⟩
theorem aAD{d:Addr}{kvs:List (Str×Value)}{ep:Nat}{o:Obj}(h:rY W d kvs ep o):IsD W d kvs o:=by
 obtain⟨hne,q0⟩:=h;obtain⟨es,r⟩:=q0;exact⟨hne,es,ep,r⟩
theorem Sta.addT{a:Addr}{ss:List Str}{x:Str}{t:Tok}{Q:Bool->Ac->Prop}(S:Sta W G env loc nw s)(U:Upd a (cZ W ss) (cZ W (ss++[x])) nw nw')(hx:x∉ss)(hn:ss.length+1<Bu)(h:∀ s',Sta W G env loc nw' s'->Q true s'):Ad W.M A (PySem.setAdd a (.str x t)) Q E s:=by
 unfold PySem.setAdd;refine AC (Aa ((PySem.strKind W.prog W.w).pyHash (strKind_is _ _ x t) ?_));exact(S.toks _).addL U hx hn h
theorem Pull.mem'{α:Type}{p:α}{l l':List α}(h:Pull p l l'):p∈l:=by
 induction h with
 | head=>exact .head _
 | tail h ih=>exact .tail _ ih
theorem Sta.lost{it:Addr}{c:Cell}{N:Lg}{h':Heap}(S:Sta W G env loc nw s)(p:Pull (it,c) nw N)(hx:Heap.ExtBut it s.heap h'):Sta W G env loc N { s with heap:=h' }:=by
 have hB:=(S.led.own _ (.tail _ p.mem')).1;have D:=S.led.perm ((p.perm.cons _).trans (List.Perm.swap ..));have nd:=D.nodup;rw[Ak,AH]at nd;refine⟨S.ok,S.eok,⟨λ b o e=>hx b o (λ q=>by rw[q,hB]at e;cases e) (S.led.keep b o e),λ q hq=>?_,nd.2⟩,S.bare,S.os,S.gens,S.gnd⟩;obtain⟨h1,q0⟩:=D.own q (.tail _ hq);obtain⟨o,ho,hc⟩:=q0;exact⟨h1,o,hx _ _ (λ e=>nd.1 (Ah.mpr ⟨q,hq,e⟩)) ho,hc⟩
noncomputable def aEf(d:Addr)(i n ep:Nat):Cell:=λ o=>o.cls=.type "dict_keyiterator"/\o.data=.fields #[.ref d,.int i 0,.int n 0,.int ep 0]
theorem Sta.keysLoop{a d it:Addr}{kvs:List (Str×Value)}{ep:Nat}{R:Result->Ac->Prop}(hA:Aok 2 A):∀(m i:Nat),kvs.length-i=m->i<=kvs.length->∀{ss:List Str} {N:Lg} {s:Ac},
  Sta W G env loc ((a,cZ W ss)::(it,aEf d i kvs.length ep)::(d,rY W d kvs ep)::N) s->(∀ x∈(kvs.drop i).map (·.1),x∉ss)->(kvs.map (·.1)).Nodup->ss.length+(kvs.length-i)+1<Bu->
  (∀ s',Sta W G env loc ((a,cZ W (ss++(kvs.drop i).map (·.1)))::(d,rY W d kvs ep)::N) s'->R (.ok (.ret .none)) s')->
  codeAny W.M A (.builtin "set.update.loop" ⟨[.ref a,.ref it],[]⟩) R s
 | 0,i,hm,hi,ss,N,s,S,hx,hnd,hb,k=>by
  obtain⟨o,ho,hc⟩:=S.get (.tail _ (.head _));have hD:=(S.dictE (.tail _ (.tail _ (.head _)))).1;have e0:kvs.drop i=[]:=Bo (by walk_at "o");refine codeAny_builtin F.entry_set_update_loop ?_;refine Aa (wpAny_pyNext_dict_end hA.handled ⟨o,ho,hc.1,hc.2⟩ hD (List.getElem?_eq_none (by walk_at "o")) λ h' hx'=>?_);rw[e0]at k;simp only[AD,Aj]at k;exact Af (k _ (S.lost (.tail .head) hx'))
 | m+1,i,hm,hi,ss,N,s,S,hx,hnd,hb,k=>by
  obtain⟨o,ho,hc⟩:=S.get (.tail _ (.head _));have hlt:i<kvs.length:=by walk_at "o"
  refine codeAny_builtin F.entry_set_update_loop ?_;show Ad _ A.in1 (pyNext (.ref it) >>= _) _ _ s;refine Aa (wpAny_pyNext_dict_item (k:=kvs[i].1) (v:=kvs[i].2) ⟨o,ho,hc.1,hc.2⟩ ((S.dictE (.tail _ (.tail _ (.head _)))).1) (List.getElem?_eq_getElem hlt) λ key h' hkey hit hsb=>?_);obtain⟨tk,rfl⟩:=Value.isStrOf_shape hkey;obtain⟨o',ho',hc1,hc2⟩:=hit;have S1:Sta W G env loc ((a,cZ W ss)::(it,aEf d (i+1) kvs.length ep)::(d,rY W d kvs ep)::N) { s with heap:=h' }:=S.set (.tail .head) (λ b o hb e=>(hsb.2 b hb).trans e) ho' ⟨hc1,hc2⟩ s.toks;rw[(Ba hlt),Ak]at hx k;refine Aa (AC (S1.addT .head (hx _ (.head _)) (by walk_at "o") λ s2 S2=>?_));refine Af ⟨plainId_quiet F.plain_set_update_loop _,?_⟩;refine Sta.keysLoop hA m (i+1) (by walk_at "o") hlt S2 (λ x hx' hm'=>?_) hnd (by rw[Ae,Az];walk_at "o") λ s3 S3=>?_
  ·rcases AW.mp hm' with q | q
   ·exact hx x (.tail _ hx') q
   ·rw[AR]at q;subst q;have nd2:((kvs.drop i).map (·.1)).Nodup:=hnd.sublist ((List.drop_sublist i kvs).map _);rw[(Ba hlt),Ak,AH]at nd2;exact nd2.1 hx'
  ·refine k _ ?_;simpa using S3
theorem Pairs.at'{es:List DictEntry}{kvs:List (Str×Value)}(h:Pairs (PySem.strKind W.prog W.w) es kvs):∀(i:Nat) (hi:i<kvs.length),∃ e,es[i]?=some e/\(PySem.strKind W.prog W.w).is kvs[i].1 e.key=true/\e.val=kvs[i].2:=by
 induction h with
 | nil=>intro i hi;simp at hi
 | @cons e kv es kvs h1 h2 h3 ih=>
  intro i hi;cases i with
  | zero=>exact⟨e,rfl,h1,h2⟩
  | succ i=>simpa using ih i (by simpa using hi)
theorem pA{t:SetTable}{n:Nat}(hm:t.mask=7)(hd:t.dummies=#[])(hp:t.place.size+n<=4):t.roomFor n=none:=by
 unfold SetTable.roomFor SetTable.fill;rw[hd,if_neg];simp;walk_at "o"
theorem kT{n:Nat}{β:Type}(b:β)(f:Nat->β->Sem (ForInStep β)):(forIn [0:n] b f:Sem β)=forIn (Bg 0 n) b f:=by
 simp
theorem Sta.starGo{a d:Addr}{kvs:List (Str×Value)}{ep:Nat}{Q:Unit->Ac->Prop}(f:Nat->Unit->Sem (ForInStep Unit))(hf:∀ i u,f i u=(do
   let some e:=(← dictEntries d)[i]? | unsupported "dict.changed-during-merge"
   holding [e.key] (do let _ ← setAddHashed a e.key e.hash)
   if(← dictEpoch d) != ep then unsupported "dict.changed-during-merge"
   pure (.yield ()))):∀(m i:Nat),kvs.length-i=m->i<=kvs.length->∀{ss:List Str} {N:Lg} {s:Ac},
  Sta W G env loc ((a,cZ W ss)::(d,rY W d kvs ep)::N) s->(∀ x∈(kvs.drop i).map (·.1),x∉ss)->(kvs.map (·.1)).Nodup->ss.length+(kvs.length-i)+1<Bu->
  (∀ s',Sta W G env loc ((a,cZ W (ss++(kvs.drop i).map (·.1)))::(d,rY W d kvs ep)::N) s'->Q () s')->
  Ad W.M A (forIn (Bg i m) () f) Q E s
 | 0,i,hm,hi,ss,N,s,S,hx,hnd,hb,k=>by
  have e0:kvs.drop i=[]:=Bo (by walk_at "o");rw[e0]at k;simp only[AD,Aj]at k;exact Af (k _ S)
 | m+1,i,hm,hi,ss,N,s,S,hx,hnd,hb,k=>by
  obtain⟨o,ho,q⟩:=S.get (.tail _ (.head _));obtain⟨hne,q⟩:=q;obtain⟨es,hex,hd,hk,hp,hn⟩:=q;have hlt:i<kvs.length:=by walk_at "o"
  have hle:=hp.length;rw[A8]at hle;have e0:kvs.drop i=kvs[i]::kvs.drop (i+1):=Ba hlt;rw[List.range'_succ,List.forIn_cons,hf];obtain⟨e,he,hkey,hval⟩:=Pairs.at' hp i hlt;have he2:es[i]?=some e:=by rw[←Array.getElem?_toList];exact he
  obtain⟨k0,hk0,hh0⟩:=hk e (Array.mem_toList_iff.mp (Ap he));obtain⟨tk,hkk⟩:=Value.isStrOf_shape hkey;have hke:k0=kvs[i].1:=(PySem.strKind W.prog W.w).inj _ _ _ hk0 hkey;subst hke;refine Aa (Aa (wpAny_dictEntries ho hd ?_));rw[he2];rw[e0,Ak]at hx k;refine Aa (AC ?_);rw[hkk,hh0];refine Aa (S.addL .head (hx _ (.head _)) (by walk_at "o") λ s2 S2=>Af ?_);obtain⟨o2,q0⟩:=S2.get (.tail _ (.head _));obtain⟨ho2,_,es2,hex2,hd2,_⟩:=q0;refine Aa (wpAny_dictEpoch ho2 hd2 ?_);have ee:(ep != ep)=false:=by simp
  rw[ee];refine Af ?_;refine Sta.starGo f hf m (i+1) (by walk_at "o") hlt S2 (λ x hx' hm'=>?_) hnd (by rw[Ae,Az];walk_at "o") λ s3 S3=>?_
  ·rcases AW.mp hm' with q | q
   ·exact hx x (.tail _ hx') q
   ·rw[AR]at q;subst q;have nd2:((kvs.drop i).map (·.1)).Nodup:=hnd.sublist ((List.drop_sublist i kvs).map _);rw[e0,Ak,AH]at nd2;exact nd2.1 hx'
  ·refine k _ ?_;simpa using S3
theorem Sta.star{a d:Addr}{kvs:List (Str×Value)}{x:Str}{N:Lg}{Q:Unit->Ac->Prop}(S:Sta W G env loc ((a,cZ W [x])::(d,IsD W d kvs)::N) s)(hA:Aok 3 A)(hx:x∉kvs.map (·.1))(hz:kvs.length<=3)(k:∀ s',Sta W G env loc ((a,cZ W (x::kvs.map (·.1)))::(d,IsD W d kvs)::N) s'->Q () s'):Ad W.M A (setDisplayStar a (.ref d)) Q E s:=by
 obtain⟨o,ho,q⟩:=S.get (.tail _ (.head _));obtain⟨hne,q⟩:=q;obtain⟨es0,ep0,hex0,hd0,hk0,hp0,hnd⟩:=q;have hT:s.TypeIs (.ref d) "dict":=⟨o,ho,hex0.1⟩
 have S1:Sta W G env loc ((a,cZ W [x])::(d,rY W d kvs ep0)::N) s:=S.tell (.tail .head) λ o' ho' _=>by rw[ho]at ho';cases ho';exact⟨hne,es0,hex0,hd0,hk0,hp0,hnd⟩
 have back:∀ s',Sta W G env loc ((a,cZ W (x::kvs.map (·.1)))::(d,rY W d kvs ep0)::N) s'->Q () s':=λ s' S'=>k _ (S'.tell (.tail .head) λ o _ h=>aAD h);have hxs:∀ y∈(kvs.drop 0).map (·.1),y∉[x]:=λ y hy q=>by
  rw[AR]at q;subst q;exact hx (by simpa using hy)
 have hb:[x].length+(kvs.length-0)+1<Bu:=by
  simp;walk_at "o"
 refine Aa (wpAny_isInstance hT F.sub_dict_set ?_);refine Aa (wpAny_isInstance hT iM ?_);refine Aa (wpAny_askSetting ?_);have hmods:(d==sysModules)=false:=by rw[beq_eq_false_iff_ne];exact hne
 have byIter:Ad W.M A (do
   let it ← pyIter (.ref d)
   let _ ← runValue (Code.builtin "set.update.loop" ⟨[.ref a,it],[]⟩)
   pure ()) Q E s:=by
  have hD:=(S1.dictE (.tail _ (.head _))).1;refine Aa (wpAny_pyIter_dict hmods hD ?_);have S2:=S1.new (c:=aEf d 0 kvs.length ep0) (o:={ cls:=.type "dict_keyiterator",data:=.fields #[.ref d,.int 0 0,.int kvs.length 0,.int ep0 0] }) rfl ⟨rfl,rfl⟩ s.toks;refine Aa (wpAny_runValue ?_);refine Sta.keysLoop (a:=a) (d:=d) (it:=s.heap.objs.size) (kvs:=kvs) (ep:=ep0) (hA.le (by first | decide | walk_at "o")) kvs.length 0 (by walk_at "o") (by walk_at "o") (S2.perm (List.Perm.swap ..)) hxs hnd hb λ s' S'=>?_;exact Af (back _ (by simpa using S'))
 cases hby:(Setting.mk W.M.prog W.M.w.params).params.followText "set-display-star-reads-storage" with
 | true=>
  exact byIter
 | false=>
  refine Aa (wpAny_typeOf hT ?_);have e1:(Value.type "dict"==Value.type "dict")=true:=by decide
  refine Aa (wpAny_rule ?_);rw[hmods];refine Aa (wpAny_dictEpoch ho hd0 ?_);refine Aa (wpAny_dictEntries ho hd0 ?_);have hle:=hp0.length;rw[A8]at hle;obtain⟨oa,hoa,q⟩:=S1.get (.head _);obtain⟨hexa,q⟩:=q;obtain⟨esa,epa,ta,hda,hela,q⟩:=q;obtain⟨hss,hfa,_,_,hsma⟩:=q;obtain⟨ssa,htxa,hpma⟩:=hss;have hsz:esa.size=1:=by
   have:=htxa.length;rw[Al,A8]at this;rw[this,hpma.length_eq];rfl
  have hroom:Ad W.M A (setRoomFor a es0.size) (λ _ s'=>s'=s) E s:=by
   unfold setRoomFor;refine Aa (wpAny_setState_of hoa hda hfa ?_);have hpl:ta.place.size=1:=by
    have:=hfa;simp only[SetTable.fits,AK,beq_iff_eq]at this;walk_at "o"
   rw[pA (hsma (by walk_at "o")).1 (hsma (by walk_at "o")).2 (by walk_at "o")];exact Af rfl
  refine Aa (As hroom (λ _ s' e=>?_) λ _ _ e=>e);subst e;refine Aa ?_;rw[hle];rw[kT];refine Sta.starGo (ep:=ep0) _ (λ i u=>?_) kvs.length 0 (by walk_at "o") (by walk_at "o") S1 hxs hnd hb λ s' S'=>Af (back _ (by simpa using S'))
  rfl
theorem vT(led:Bool)(hl:led=true\/W.w.params.followText "set-order"=true):cZ W [] { cls:=.type "set",dict:=none,data:=.set #[] 0 (.fresh 0 0 led) }:=
 ⟨⟨rfl,rfl,rfl⟩,#[],0,_,rfl,λ e he=>by simp at he,⟨[],.nil,.refl _⟩,by rfl,hl,λ h=>absurd rfl h,λ _=>⟨rfl,rfl⟩⟩
theorem Sta.newSL{Q:Value->Ac->Prop}(S:Sta W G env loc nw s)(h:∀ a s',Sta W G env loc ((a,cZ W [])::nw) s'->Q (.ref a) s'):Ad W.M A (PySem.newSet (.type "set")) Q E s:=by
 refine Aa (Aa (wpAny_askSetting (Af ?_)));dsimp only
 refine Aa (wpAny_alloc (Af (h _ _ (S.new (c:=cZ W []) rfl (vT _ ?_) s.toks))));cases q:W.w.params.followText "set-order" with
 | true=>exact .inr rfl
 | false=>exact .inl (by show(!W.w.params.followText "set-order")=true;rw[q];rfl)
theorem Sta.setDisp{n1 n2:Str}{p1 p2 p3 pos:Pos}{x:Str}{t:Tok}{d c:Addr}{oc:Obj}{vs:Array Value}{kvs:List (Str×Value)}{Q:Value->Ac->Prop}(S:Sta W G env loc nw s)(hA:Aok 3 A)(h1:(n1,some (.str x t))∈loc)(h2:(n2,some (.ref d))∈loc)(hc:env.code=.ref c)(hoc:W.K.lookup c=some oc)(hdc:oc.data=.fields vs)(hfl:∃ f tf,vs.getD 18 .none=.str f tf){N:Lg}(hd:Pull (d,IsD W d kvs) nw N)(hx:x∉kvs.map (·.1))(hz:kvs.length<=3)(h:∀ a s',Sta W G env loc ((a,cZ W (x::kvs.map (·.1)))::(d,IsD W d kvs)::N) s'->Q (.ref a) s'):Ad W.M A (eval (.Set [.Name n1 p1,.Starred (.Name n2 p2) p3] 0 pos) env) Q E s:=by
 refine Aa (AP ?_);obtain⟨f,tf,hf⟩:=hfl;have hcode:(env.code==.none)=false:=by rw[hc];rfl
 unfold inMainModule;rw[hc];refine Aa (Aa (wpAny_fieldsOf (S.kin _ _ hoc) hdc ?_));rw[hf];refine Aa (wpAny_askSetting (Af ?_));have e1:displayRoad 0 [.Name n1 p1,.Starred (.Name n2 p2) p3]=.oneByOne:=rfl;have e2:Aw [.Name n1 p1,.Starred (.Name n2 p2) p3] env=[(false,eval (.Name n1 p1) env),(true,eval (.Name n2 p2) env)]:=rfl;rw[e1,e2];unfold setDisplay;have e3:(DisplayRoad.oneByOne==DisplayRoad.constants)=false:=rfl;have e4:(DisplayRoad.oneByOne==DisplayRoad.unsure)=false:=rfl;refine Aa (S.newSL λ a s1 S1=>?_);have e5:(if(List.map (λ x:Bool×Sem Value=>(x.1,do let v ← x.2;standAt pos;pure v)) [(false,eval (.Name n1 p1) env),(true,eval (.Name n2 p2) env)]).length>30 then 0 else
   (List.findIdx? (λ x=>x.1) (List.map (λ x:Bool×Sem Value=>(x.1,do let v ← x.2;standAt pos;pure v)) [(false,eval (.Name n1 p1) env),(true,eval (.Name n2 p2) env)])).getD
    (List.map (λ x:Bool×Sem Value=>(x.1,do let v ← x.2;standAt pos;pure v)) [(false,eval (.Name n1 p1) env),(true,eval (.Name n2 p2) env)]).length)=1:=rfl
 rw[e5];simp only[Ak,AD,List.take_succ_cons,List.take_zero,List.drop_succ_cons,List.drop_zero]
 refine Aa (AC ?_);refine Aa (wpAny_evalAll_cons ?_);refine Aa (S1.local_ h1 (Aa (AP (Af ?_))));refine wpAny_evalAll_nil ?_;refine Aa (AC ?_);rw[List.forIn_cons];refine Aa (Aa (Aa (S1.addT (ss:=[]) .head (by simp) (by decide) λ s2 S2=>Af ?_)));dsimp only
 refine Af ?_;refine Af ?_;rw[List.forIn_cons];refine Aa (Aa (Aa (Aa (S2.local_ h2 (Aa (AP (Af ?_)))))));refine Aa (AC ?_);refine Sta.star (a:=a) (kvs:=kvs) (x:=x) (N:=N) (S2.perm (hd.perm.cons _)) hA hx hz λ s3 S3=>?_;refine Af ?_;dsimp only
 refine Af (Af (Af (h _ _ S3)))
theorem iZ{α:Type}:∀{l:List α} {i:Nat} (h:i<l.length),(l[i]::l.eraseIdx i).Perm l
 | x::l,0,_=>by simp
 | x::l,i+1,h=>by
  have:=iZ (l:=l) (i:=i) (by simpa using h);exact(List.Perm.swap ..).trans (this.cons _)
theorem qI{M:Model}{src:Source}{n:Nat}{Q:Nat->Ac->Prop}(hn:n≠0)(h:∀ i d,i<n->Q i { s with drawn:=d }):Ad M A (choose src n) Q E s:=
 λ _ _ _=>⟨hn,h _ _ (Nat.mod_lt _ (by walk_at "o"))⟩
theorem Sta.drawn(S:Sta W G env loc nw s)(d:Drawn):Sta W G env loc nw { s with drawn:=d }:=⟨S.ok,S.eok,S.led,S.bare,S.os,S.gens,S.gnd⟩
theorem Sta.drawOrder{α:Type}{M:Model}(n:Nat):∀(xs:List α) {Q:List α->Ac->Prop} {s:Ac},xs.length=n->Sta W G env loc nw s->(∀ ys s',ys.Perm xs->Sta W G env loc nw s'->Q ys s')->Ad M A (PySem.drawOrder n xs) Q E s:=by
 induction n with
 | zero=>
  intro xs Q s hn S h;have:xs=[]:=Bs.mp hn;subst this;exact Af (h [] _ (.refl _) S)
 | succ n ih=>
  intro xs Q s hn S h;cases xs with
  | nil=>exact absurd hn (by simp)
  | cons x xs=>
   refine Aa (qI (by simp) λ i d hi=>?_);rw[List.getElem?_eq_getElem hi];dsimp only
   refine Aa (ih ((x::xs).eraseIdx i) (by rw[List.length_eraseIdx_of_lt hi,hn];rfl) (S.drawn d) λ ys s' hp S'=>?_);refine Af (h _ _ ?_ S');exact(hp.cons _).trans (iZ hi)
theorem wY{α:Type}(next:Nat->Nat):∀(fuel k:Nat) (left:List α) (out:Array α),left.length=fuel->(pickOrder.go next fuel k left out).toList.Perm (out.toList++left)
 | 0,k,left,out,h=>by
  have:left=[]:=Bs.mp h;subst this;show out.toList.Perm (out.toList++[]);rw[Aj]
 | fuel+1,k,left,out,h=>by
  have hlt:next k%left.length<left.length:=Nat.mod_lt _ (by walk_at "o");have e:pickOrder.go next (fuel+1) k left out=pickOrder.go next fuel (k+1) (left.eraseIdx (next k%left.length)) (out.push left[next k%left.length]):=by
   show(match left[next k%left.length]? with | some x=>pickOrder.go next fuel (k+1) (left.eraseIdx (next k%left.length)) (out.push x) | none=>out)=_;rw[List.getElem?_eq_getElem hlt]
  rw[e];refine(wY next fuel (k+1) _ _ (by rw[List.length_eraseIdx_of_lt hlt,h];rfl)).trans ?_;rw[Array.toList_push,Ai];exact List.Perm.append_left _ (iZ hlt)
theorem yL{α:Type}(next:Nat->Nat)(xs:Array α):(pickOrder next xs).toList.Perm xs.toList:=by
 unfold pickOrder;simpa using wY next xs.size 0 xs.toList #[] rfl
theorem tG:typeLookup (.type "set") "__iter__"=pure (some (.builtin "set.__iter__")):=by rw[typeLookup_type,AF];kernel_rfl
theorem iW:typeLookup (.type "set_iterator") "__next__"=pure (some (.builtin "set_iterator.__next__")):=by rw[typeLookup_type,AF];kernel_rfl
theorem iH:Slot "set" "__iter__" "set.__iter__":=
 Slot.of tG (owner:="set") (n:="__iter__") (by decide +kernel) (by decide +kernel) (by decide +kernel) (.inl (by decide +kernel)) (by rw[isSubtype_type];kernel_rfl)
theorem cC:Slot "set_iterator" "__next__" "set_iterator.__next__":=
 Slot.of iW (owner:="set_iterator") (n:="__next__") (by decide +kernel) (by decide +kernel) (by decide +kernel) (.inl (by decide +kernel)) (by rw[isSubtype_type];kernel_rfl)
theorem oF:entryFor table "set.__iter__"=some Builtin.«frozenset.__iter__»:=entryFor_alias (id':="frozenset.__iter__") (by kernel_rfl) rfl (by decide +kernel) (by kernel_rfl)
theorem eA:entryFor table "set_iterator.__next__"=some Builtin.«set_iterator.__next__»:=entryFor_of_tree (by kernel_rfl)
theorem pJ(a:Value):argsOk "set.__iter__" ⟨[a],[]⟩:=by unfold argsOk;kernel_rfl
theorem eO(a:Value):argsOk "set_iterator.__next__" ⟨[a],[]⟩:=by unfold argsOk;kernel_rfl
noncomputable def fV(first:Value)(i:Nat)(a:Addr)(n ep:Nat):Cell:=λ o=>o.cls=.type "set_iterator"/\o.data=.fields #[first,.int i 0,.ref a,.int n 0,.int ep 0]
theorem tJ{a:Addr}{o:Obj}{es:Array (Int×Value)}{ep:Nat}{tb:SetTable}{Q:PySem.Fin->Ac->Prop}(S:Sta W G env loc nw s)(ma:(a,bZ o)∈nw)(hex:o.ExactSet)(hd:o.data=.set es ep tb)(hf:tb.fits es.size=true)(hz:es.size<=4000)(h1:W.w.params.followText "set-order"=true\/tb.plain=true\/es.size<=1->∀ it s',Sta W G env loc ((it,fV (rawInt 0) 0 a es.size ep)::nw) s'->Q (.done (.ret (.ref it))) s')(h2:W.w.params.followText "set-order"=false->tb.plain=false->1<es.size->∀(ps:List Nat) it tp s',ps.Perm (AY es.size)->Sta W G env loc ((it,fV (.ref tp) 0 a es.size ep)::(tp,aJ (ps.map λ(i:Nat)=>rawInt i))::nw) s'->Q (.done (.ret (.ref it))) s'):Ad W.M A (Builtin.«frozenset.__iter__» ⟨[.ref a],[]⟩) Q E s:=by
 unfold Builtin.«frozenset.__iter__»;have ho:s.heap.get? a=some o:=by
  obtain⟨o',ho',rfl⟩:=S.get ma;exact ho'
 obtain⟨h,g,d,t,os⟩:=s
 repeat lk
 rw[hd];dsimp only
 have hcond:(tb.place.size != es.size||decide (tb.fill>tb.mask))=false:=by
  have:=hf;rw[SetTable.fits,AK,beq_iff_eq,decide_eq_true_eq]at this;rw[this.1];rw[bne_self_eq_false];exact decide_eq_false (by walk_at "o")
 rw[hcond];refine Af (Af (Af ?_));dsimp only
 have hdr:Ad W.M A (setDrawn a) (λ b s'=>s'=⟨h,g,d,t,os⟩/\b=(!W.w.params.followText "set-order"&&(!tb.plain&&decide (es.size>1)))) E ⟨h,g,d,t,os⟩:=by
  refine Aa (wpAny_setState_of ho hd hf ?_);exact Aa (Aa (wpAny_askSetting (Af (Af ⟨rfl,rfl⟩))))
 refine Aa (As hdr (λ b s' q=>?_) λ _ _ e=>e);obtain⟨rfl,hb⟩:=q;cases b with
 | true=>
  have hb':=hb.symm;simp only[AK,Bw,decide_eq_true_eq]at hb';refine Aa ((S).drawOrder es.size (AY es.size) (by simp) λ ps s1 hp S1=>?_);refine Aa (S1.newTuple (by rw[Al,hp.length_eq,List.length_range,Av];walk_at "o") λ tp s2 S2=>?_);obtain⟨o2,ho2,rfl⟩:=S2.get (.tail _ ma);refine Aa (wpAny_setEpoch_of ho2 hd hf ?_);refine Aa (wpAny_newObj_type ?_);exact Af (h2 hb'.1 hb'.2.1 hb'.2.2 ps _ tp _ hp (S2.new (c:=fV (.ref tp) 0 a es.size ep) rfl ⟨rfl,rfl⟩ s2.toks))
 | false=>
  refine Aa (Af ?_);refine Aa (wpAny_setEpoch_of ho hd hf ?_);refine Aa (wpAny_newObj_type ?_);refine Af (h1 ?_ _ _ ((S).new (c:=fV (rawInt 0) 0 a es.size ep) rfl ⟨rfl,rfl⟩ t));have hb':=hb.symm;rcases q1:W.w.params.followText "set-order" with _ | _
  ·rw[q1]at hb';rcases q2:tb.plain with _ | _
   ·rw[q2]at hb';simp at hb';exact .inr (.inr (by walk_at "o"))
   ·exact .inr (.inl rfl)
  ·exact .inl rfl
theorem St0.get{a:Addr}{c:Cell}(S:St0 W G nw s)(m:(a,c)∈nw):∃ o,s.heap.get? a=some o/\c o:=S.led.get m
theorem St0.set{a:Addr}{c c':Cell}{o:Obj}{h':Heap}(S:St0 W G nw s)(U:Upd a c c' nw nw')(hs:∀ b o,b≠a->s.heap.get? b=some o->h'.get? b=some o)(ho:h'.get? a=some o)(hc:c' o)(t:Nat):St0 W G nw' { s with heap:=h',toks:=t }:=
 ⟨S.ok,S.led.set U hs ho hc,S.bare,S.os,S.gens,S.gnd⟩
theorem St0.lost{it:Addr}{c:Cell}{N:Lg}{h':Heap}(S:St0 W G nw s)(p:Pull (it,c) nw N)(hx:Heap.ExtBut it s.heap h'):St0 W G N { s with heap:=h' }:=by
 have D:=S.led.perm p.perm;have hB:=(D.own _ (.head _)).1;have nd:=D.nodup;rw[Ak,AH]at nd;refine⟨S.ok,⟨λ b o e=>hx b o (λ q=>by rw[q,hB]at e;cases e) (S.led.keep b o e),λ q hq=>?_,nd.2⟩,S.bare,S.os,S.gens,S.gnd⟩;obtain⟨h1,q0⟩:=D.own q (.tail _ hq);obtain⟨o,ho,hc⟩:=q0;exact⟨h1,o,hx _ _ (λ e=>nd.1 (Ah.mpr ⟨q,hq,e⟩)) ho,hc⟩
theorem pN{Q:Option Value->Ac->Prop}{h':Heap}{g:Array GenState}{d:Drawn}{tk:Nat}{os:OsState}(hh:A.handled=none)(hQ:∀ h2,(∀ b o,h'.get? b=some o->h2.get? b=some o)->Q none ⟨h2,g,d,tk,os⟩){R:PySem.Fin->Ac->Prop}:Ad W.M A.in1 (newExc (.type "StopIteration") [] >>= λ e=>(raiseNew e:Sem PySem.Fin)) R
   (λ e s'=>Ad W.M A (do if ← isInstance e (.type "StopIteration")then pure none else throw e) Q E s') ⟨h',g,d,tk,os⟩:=by
 refine Aa ?_;refine Aa (wpAny_newObj_type ?_ (by size_fits));refine Aa (m:=firstArgMember _ _) (Bi (a:=Value.none) (by first | rfl | (simp only[firstArgMember];rfl)) ?_);refine wpAny_newObj_type ?_ (by size_fits);refine Aa (wpAny_handled ?_);rw[show A.in1.handled=none from hh];refine Aa (Af (wpAny_throw ?_));refine Aa (wpAny_isInstance (T:="StopIteration") (b:=true) ⟨_,Heap.get?_push_size _ rfl,rfl⟩ isSubtype_stop ?_);exact Af (hQ _ λ b o e=>Heap.get?_push_of_some _ (Heap.get?_push_of_some _ e))
theorem St0.field{it a:Addr}{first first':Value}{i i' n ep:Nat}{oi:Obj}(S:St0 W G nw s)(U:Upd it (fV first i a n ep) (fV first' i' a n ep) nw nw')(hoi:s.heap.get? it=some oi)(hc:oi.cls=.type "set_iterator")(hdi:oi.data=.fields #[first,.int i 0,.ref a,.int n 0,.int ep 0])(f:Array Value->Array Value)(hf:f #[first,.int i 0,.ref a,.int n 0,.int ep 0]=#[first',.int i' 0,.ref a,.int n 0,.int ep 0]):St0 W G nw' { s with heap:=s.heap.update it (Obj.mapFields f) }:=
 S.set U (λ b o hb e=>((Heap.SameBut.update s.heap it _).2 b hb).trans e) (Heap.get?_update_self _ hoi (Obj.isFreed_of_fields (Obj.data_mapFields hdi _))) ⟨(Obj.cls_mapFields ..).trans hc,by rw[Obj.data_mapFields hdi,hf]⟩ s.toks
theorem vH{it a tp:Addr}{i:Nat}{ps:List Nat}{o:Obj}{es:Array (Int×Value)}{ep:Nat}{tb:SetTable}{Q:Option Value->Ac->Prop}(S:St0 W G nw s)(U:Upd it (fV (.ref tp) i a es.size ep) (fV (.ref tp) (i+1) a es.size ep) nw nw')(mt:(tp,aJ (ps.map λ(i:Nat)=>rawInt i))∈nw)(ma:(a,bZ o)∈nw)(hd:o.data=.set es ep tb)(hf:tb.fits es.size=true)(hi:i<ps.length)(hp:ps[i]<es.size)(h:∀ s',St0 W G nw' s'->Q (some es[ps[i]].2) s'):Ad W.M A (pyNext (.ref it)) Q E s:=by
 obtain⟨oi,hoi,hc,hdi⟩:=S.get U.mem;obtain⟨o',ho',rfl⟩:=S.get ma;obtain⟨ot,hot,q0⟩:=S.get mt;obtain⟨nt,rfl⟩:=q0;have hT:s.TypeIs (.ref it) "set_iterator":=⟨oi,hoi,hc⟩
 unfold pyNext;refine Aa (Bz (wpAny_callSpecial?_slot (name:=Str.ofString "__next__") hT cC (wpAny_call_entry cC hT eA ?_ (eO _))));refine Aa (Af ?_);refine Aa (wpAny_fieldsOf hoi hdi ?_);dsimp only
 refine Aa (wpAny_setEntries_of ho' hd hf ?_);have e1:((es.size:Int) != (es.size:Int))=false:=by simp
 rw[e1];refine Aa (wpAny_seqItems hot rfl ?_);dsimp only
 have e2:((ps.map λ(i:Nat)=>rawInt i).toArray)[(i:Int).toNat]?=some (.int ps[i] 0):=by
  simp[hi,rawInt]
 rw[e2];unfold setNextDrawn;refine Aa (Aa (wpAny_setState_of ho' hd hf ?_));have e3:(ep != (ep:Int).toNat)=false:=by simp
 dsimp only
 rw[e3];have e4:es[(ps[i]:Int).toNat]?=some es[ps[i]]:=by
  rw[BD];exact Array.getElem?_eq_getElem hp
 rw[e4];refine Af ?_;refine Aa (wpAny_setField hoi hdi (by simp) ?_);refine Af ⟨_,rfl,Af (h _ ?_)⟩;refine S.field U hoi hc hdi _ ?_
 rfl
theorem yZ{it a tp:Addr}{i:Nat}{ps:List Nat}{o:Obj}{es:Array (Int×Value)}{ep:Nat}{tb:SetTable}{N:Lg}{Q:Option Value->Ac->Prop}(S:St0 W G nw s)(hh:A.handled=none)(P:Pull (it,fV (.ref tp) i a es.size ep) nw N)(mt:(tp,aJ (ps.map λ(i:Nat)=>rawInt i))∈nw)(ma:(a,bZ o)∈nw)(hd:o.data=.set es ep tb)(hf:tb.fits es.size=true)(hi:ps.length<=i)(h:∀ s',St0 W G N s'->Q none s'):Ad W.M A (pyNext (.ref it)) Q E s:=by
 obtain⟨oi,hoi,hc,hdi⟩:=S.get P.mem';obtain⟨o',ho',rfl⟩:=S.get ma;have hT:s.TypeIs (.ref it) "set_iterator":=⟨oi,hoi,hc⟩
 unfold pyNext;refine Aa (Bz (wpAny_callSpecial?_slot (name:=Str.ofString "__next__") hT cC (wpAny_call_entry cC hT eA ?_ (eO _))));refine Aa (Af ?_);dsimp only
 refine Aa (wpAny_fieldsOf hoi hdi ?_);dsimp only
 refine Aa (wpAny_setEntries_of ho' hd hf ?_);have e1:((es.size:Int) != (es.size:Int))=false:=by simp
 rw[e1];obtain⟨ot,hot,q0⟩:=S.get mt;obtain⟨nt,rfl⟩:=q0;refine Aa (wpAny_seqItems hot rfl ?_);dsimp only
 have e2:((ps.map λ(i:Nat)=>rawInt i).toArray)[(i:Int).toNat]?=none:=by
  simp[hi]
 rw[e2];dsimp only
 refine Aa (wpAny_setField hoi hdi (by simp) ?_);have h2:=Heap.get?_update_self (Obj.mapFields (·.setIfInBounds 0 (rawInt 0))) hoi (Obj.isFreed_of_fields (Obj.data_mapFields hdi _));refine Aa (wpAny_setField h2 (Obj.data_mapFields hdi _) (by simp) ?_);refine pN hh λ h3 hk=>h _ (S.lost P λ b o hb e=>hk b o ?_);exact((Heap.SameBut.update _ it _).2 b hb).trans (((Heap.SameBut.update s.heap it _).2 b hb).trans e)
noncomputable def kZ(W:Wd)(a:Addr)(es:Array (Int×Value))(ep:Nat)(tb:SetTable)(slot given:Nat)(r:Option (Value×Nat)):Prop:=∀ A (s:Ac) o,s.heap.get? a=some o->o.data=.set es ep tb->tb.fits es.size=true->∀(E:Value->Ac->Prop),
 Ad W.M A (setNext a slot given ep) (λ q s'=>s'=s/\q=r) E s
theorem aBD{it a:Addr}{o:Obj}{es:Array (Int×Value)}{ep:Nat}{tb:SetTable}{Q:Option Value->Ac->Prop}{slot slot' i:Nat}{v:Value}(S:St0 W G nw s)(hn:kZ W a es ep tb slot i (some (v,slot')))(U:Upd it (fV (rawInt slot) i a es.size ep) (fV (rawInt slot') (i+1) a es.size ep) nw nw')(ma:(a,bZ o)∈nw)(hd:o.data=.set es ep tb)(hf:tb.fits es.size=true)(h:∀ s',St0 W G nw' s'->Q (some v) s'):Ad W.M A (pyNext (.ref it)) Q E s:=by
 obtain⟨oi,hoi,hc,hdi⟩:=S.get U.mem;obtain⟨o',ho',rfl⟩:=S.get ma;have hT:s.TypeIs (.ref it) "set_iterator":=⟨oi,hoi,hc⟩
 unfold pyNext;refine Aa (Bz (wpAny_callSpecial?_slot (name:=Str.ofString "__next__") hT cC (wpAny_call_entry cC hT eA ?_ (eO _))));refine Aa (Af ?_);dsimp only
 refine Aa (wpAny_fieldsOf hoi hdi ?_);refine Aa (wpAny_setEntries_of ho' hd hf ?_);have e1:((es.size:Int) != (es.size:Int))=false:=by simp
 rw[e1];refine Aa (As (hn _ s _ ho' hd hf _) (λ q s' e=>?_) λ _ _ e=>e);obtain⟨rfl,rfl⟩:=e;refine Aa (wpAny_setField hoi hdi (by simp) ?_);have h2:=Heap.get?_update_self (Obj.mapFields (·.setIfInBounds 0 (rawInt slot'))) hoi (Obj.isFreed_of_fields (Obj.data_mapFields hdi _));refine Aa (wpAny_setField h2 (Obj.data_mapFields hdi _) (by simp) ?_);refine Af ⟨_,rfl,Af (h _ ?_)⟩;obtain⟨nw1,U1,U2⟩:=U.via2 (fV (rawInt slot') i a es.size ep);have S1:=S.field U1 hoi hc hdi (·.setIfInBounds 0 (rawInt slot')) rfl;have S2:=S1.field U2 h2 ((Obj.cls_mapFields ..).trans hc) (by rw[Obj.data_mapFields hdi];simp) (·.setIfInBounds 1 (rawInt ((i:Int)+1))) rfl;exact S2
theorem aD5{it a:Addr}{o:Obj}{es:Array (Int×Value)}{ep:Nat}{tb:SetTable}{Q:Option Value->Ac->Prop}{slot i:Nat}{N:Lg}(S:St0 W G nw s)(hh:A.handled=none)(hn:kZ W a es ep tb slot i none)(P:Pull (it,fV (rawInt slot) i a es.size ep) nw N)(ma:(a,bZ o)∈nw)(hd:o.data=.set es ep tb)(hf:tb.fits es.size=true)(h:∀ s',St0 W G N s'->Q none s'):Ad W.M A (pyNext (.ref it)) Q E s:=by
 obtain⟨oi,hoi,hc,hdi⟩:=S.get P.mem';obtain⟨o',ho',rfl⟩:=S.get ma;have hT:s.TypeIs (.ref it) "set_iterator":=⟨oi,hoi,hc⟩
 unfold pyNext;refine Aa (Bz (wpAny_callSpecial?_slot (name:=Str.ofString "__next__") hT cC (wpAny_call_entry cC hT eA ?_ (eO _))));unfold Builtin.«set_iterator.__next__»;refine Aa (Af ?_);dsimp only
 refine Aa (wpAny_fieldsOf hoi hdi ?_);dsimp only
 refine Aa (wpAny_setEntries_of ho' hd hf ?_);have e1:((es.size:Int) != (es.size:Int))=false:=by simp
 rw[e1];refine Aa (As (hn _ s _ ho' hd hf _) (λ q s' e=>?_) λ _ _ e=>e);obtain⟨rfl,rfl⟩:=e;dsimp only
 refine Aa (wpAny_setField hoi hdi (by simp) ?_);refine pN hh λ h3 hk=>h _ (S.lost P λ b o hb e=>hk b o ?_);exact((Heap.SameBut.update _ it _).2 b hb).trans e
theorem gN{a:Addr}{es:Array (Int×Value)}{ep:Nat}{tb:SetTable}{slot given:Nat}(hby:W.w.params.followText "set-order"=false)(hled:tb.led=true)(h1:es.size<=1):kZ W a es ep tb slot given (match es[SetTable.below tb.place slot]?,tb.place[SetTable.below tb.place slot]? with | some (_,x),some j=>some (x,j+1) | _,_=>none):=by
 intro A s o ho hd hf E;unfold setNext setsByText;refine Aa (wpAny_setState_of ho hd hf ?_);refine Aa (Aa (wpAny_askSetting (Af ?_)));have q:((Setting.mk W.M.prog W.M.w.params).params.followText "set-order")=false:=hby;rw[q];dsimp only
 rw[if_neg Bool.false_ne_true];rw[if_neg]
 rotate_left
 ·show ¬((!tb.plain&&decide (es.size>1))=true);rw[decide_eq_false (by walk_at "o")];simp
 show Ad _ _ ((if(!tb.led&&!es.isEmpty)=true then(unsupported "set:maker-not-led":Sem Unit)else pure ()) >>= _) _ _ _;rw[if_neg (by rw[hled];simp)];exact Aa (Af (Af ⟨rfl,rfl⟩))
theorem lK{a:Addr}{es:Array (Int×Value)}{ep:Nat}{tb:SetTable}{slot given:Nat}(hby:W.w.params.followText "set-order"=true):kZ W a es ep tb slot given (((pickOrder (W.w.params.setOrder a ep) es)[given]?).map λ e=>(e.2,slot)):=by
 intro A s o ho hd hf E;unfold setNext setsByText;refine Aa (wpAny_setState_of ho hd hf ?_);refine Aa (Aa (wpAny_askSetting (Af ?_)));have q:((Setting.mk W.M.prog W.M.w.params).params.followText "set-order")=true:=hby;rw[q];dsimp only
 have e1:(ep != ep)=false:=by simp
 rw[e1];unfold setWalk setsByText;refine Aa (Aa (wpAny_setState_of ho hd hf ?_));refine Aa (Aa (wpAny_askSetting (Af ?_)));rw[q];exact Aa (wpAny_askSetting (Af (Af ⟨rfl,rfl⟩)))
theorem bel1{j k:Nat}:SetTable.below #[j] k=if j<k then 1 else 0:=by kernel_rfl
theorem sS{α:Type}(p:α):∀(L R:List α),Pull p (L++p::R) (L++R):=by
 intro l0
 induction l0 with
 | nil=>
  intro _;exact .head
 | cons _ L ih=>
  intro R;exact .tail (ih R)
theorem wL{a:Addr}{c c':Cell}:∀(L R:Lg),Upd a c c' (L++(a,c)::R) (L++(a,c')::R):=by
 intro l0
 induction l0 with
 | nil=>
  intro _;exact .head
 | cons _ L ih=>
  intro R;exact .tail (ih R)
theorem St0.sub{W:Wd}{G:Gens}{nw nw':Lg}{s:Ac}(S:St0 W G nw s)(h:List.Sublist nw' nw):St0 W G nw' s:=⟨S.ok,S.led.sub h,S.bare,S.os,S.gens,S.gnd⟩
theorem jO{first:Value}{i:Nat}{a:Addr}{n ep:Nat}:∀ o,fV first i a n ep o->cP o=true:=λ o h=>by unfold cP;rw[h.1];decide
section
variable {W:Wd}{sh:Lg}{it a tp:Addr}{o:Obj}{es:Array (Int×Value)}{ep:Nat}{tb:SetTable}
theorem jE{ps:List Nat}(ma:(a,bZ o)∈sh)(hd:o.data=.set es ep tb)(hf:tb.fits es.size=true)(hps:∀ j∈ps,j<es.size):∀(m i:Nat),ps.length-i=m->i<=ps.length->
  cN W sh it ((ps.drop i).map λ j=>(es.getD j (0,.none)).2) [(it,fV (.ref tp) i a es.size ep),(tp,aJ (ps.map λ(i:Nat)=>rawInt i))] []
 | 0,i,hm,hi=>by
  have e0:ps.drop i=[]:=Bo (by walk_at "o");rw[e0];refine⟨⟨_,Ag _ (.head _),jO⟩,λ A R GR s Q E hA S hQ=>?_⟩;rw[Aj]at S;rw[←Ai]at S;refine yZ S hA.handled (sS _ (R++sh) _) (ps:=ps) (by simp) (by simp[ma]) hd hf (by walk_at "o") λ s' S'=>hQ _ ?_;exact S'.sub (AO _ _)
 | m+1,i,hm,hi=>by
  have hlt:i<ps.length:=by walk_at "o"
  have hj:=hps _ (Bb hlt);rw[(Ba hlt)];refine⟨⟨_,Ag _ (.head _),jO⟩,λ A R GR s Q E hA S hQ=>?_⟩;rw[Aj]at S;rw[←Ai]at S;refine vH S (wL (R++sh) _) (ps:=ps) (by simp) (by simp[ma]) hd hf hlt hj λ s' S'=>?_;have e1:es[ps[i]].2=(es.getD ps[i] (0,.none)).2:=by simp[Array.getD,hj]
  rw[e1];refine hQ [(it,fV (.ref tp) (i+1) a es.size ep),(tp,aJ (ps.map λ(i:Nat)=>rawInt i))] [] _ ?_ (jE ma hd hf hps m (i+1) (by walk_at "o") hlt);rw[Aj,←Ai];exact S'
theorem gZ{slots:List Nat}{vs:List Value}(ma:(a,bZ o)∈sh)(hd:o.data=.set es ep tb)(hf:tb.fits es.size=true)(hl:slots.length=vs.length+1)(hn:∀ i (h:i<vs.length),kZ W a es ep tb (slots[i]'(by walk_at "o")) i (some (vs[i],slots[i+1]'(by walk_at "o"))))(he:kZ W a es ep tb (slots[vs.length]'(by walk_at "o")) vs.length none):∀(m i:Nat) (hm:vs.length-i=m) (hi:i<=vs.length),
  cN W sh it (vs.drop i) [(it,fV (rawInt (slots[i]'(by walk_at "o"):Nat)) i a es.size ep)] []
 | 0,i,hm,hi=>by
  have hi2:i=vs.length:=by walk_at "o"
  subst hi2;rw[List.drop_length];refine⟨⟨_,Ag _ (.head _),jO⟩,λ A R GR s Q E hA S hQ=>?_⟩;rw[←Ai]at S;refine aD5 S hA.handled he (sS _ (R++sh) _) (by simp[ma]) hd hf λ s' S'=>hQ _ ?_;simpa using S'
 | m+1,i,hm,hi=>by
  have hlt:i<vs.length:=by walk_at "o"
  have e0:vs.drop i=vs[i]::vs.drop (i+1):=Ba hlt;rw[e0];refine⟨⟨_,Ag _ (.head _),jO⟩,λ A R GR s Q E hA S hQ=>?_⟩;rw[Aj]at S;rw[←Ai]at S;refine aBD S (hn i hlt) (wL (R++sh) _) (by simp[ma]) hd hf λ s' S'=>?_;refine hQ [(it,fV (rawInt (slots[i+1]'(by walk_at "o"):Nat)) (i+1) a es.size ep)] [] _ ?_ (gZ ma hd hf hl hn he m (i+1) (by walk_at "o") hlt);rw[Aj,←Ai];exact S'
theorem TxA.get{vs:List Value}{ss:List Str}(h:TxA vs ss):∀(ps:List Nat),(∀ j∈ps,j<vs.length)->TxA (ps.map λ j=>vs.getD j .none) (ps.map λ j=>ss.getD j Str.empty):=by
 intro l0
 induction l0 with
 | nil=>
  intro _;exact .nil
 | cons j ps ih=>
  intro hp;have ih:=ih λ k hk=>hp k (.tail _ hk);have hj:=hp j (.head _);have key:∀{vs:List Value} {ss:List Str},TxA vs ss->∀ j,j<vs.length->∃ t,vs.getD j .none=.str (ss.getD j Str.empty) t:=by
   intro vs ss h
   induction h with
   | nil=>intro j hj;simp at hj
   | cons x t h ih=>
    intro j hj;cases j with
    | zero=>exact⟨t,rfl⟩
    | succ j=>simpa using ih j (by simpa using hj)
  obtain⟨t,e⟩:=key h j hj;rw[Ak,e];exact .cons _ t ih
theorem mC{α:Type}(d:α)(l:List α):((AY l.length).map λ j=>l.getD j d)=l:=by
 apply List.ext_getElem
 ·simp
 ·intro i h1 h2;simp at h1;simp[h1]
end
theorem Sta.iterSet{a:Addr}{ss:List Str}{Q:Value->Ac->Prop}(S:Sta W G env loc ((a,cZ W ss)::N) s)(hz:ss.length<=4000)(h:∀ it vs ss' own o s',TxA vs ss'->ss'.Perm ss->cZ W ss o->Sta W G env loc (own++((a,bZ o)::N)) s'->cN W [(a,bZ o)] it vs own []->Q (.ref it) s'):Ad W.M A (pyIter (.ref a)) Q E s:=by
 obtain⟨o,ho,hsl⟩:=S.get (.head _);have S1:Sta W G env loc ((a,bZ o)::N) s:=S.tell .head λ o' ho' _=>by rw[ho]at ho';cases ho';rfl
 have hsl0:cZ W ss o:=hsl;obtain⟨hex,q⟩:=hsl;obtain⟨es,ep,tb,hd,hel,q⟩:=q;obtain⟨hss,hf,hled,hpl,hsm⟩:=q;obtain⟨ss',htx,hpm⟩:=hss;have hT:s.TypeIs (.ref a) "set":=⟨o,ho,hex.1⟩
 have hlen:es.size=ss.length:=by
  have:=htx.length;rw[Al,A8]at this;rw[this,hpm.length_eq]
 have hpsz:tb.place.size=es.size:=by
  have:=hf;simp only[SetTable.fits,AK,beq_iff_eq]at this;exact this.1
 refine wpAny_pyIter_slot hT iH (wpAny_call_entry iH hT oF ?_ (pJ _));refine tJ S1 (.head _) hex hd hf (by walk_at "o") (λ hc it s' S'=>?_) (λ hby hp hgt ps it tp s' hperm S'=>?_)
 ·obtain⟨oi,hoi,hci,_⟩:=S'.get (.head _);refine⟨_,rfl,"set_iterator",_,⟨oi,hoi,hci⟩,iW,?_⟩;cases hby:W.w.params.followText "set-order" with
  | true=>
   have hpp:=yL (W.w.params.setOrder a ep) es;obtain⟨s2,a2,b2⟩:=TxA.perm (hpp.map (·.2)) htx;refine h it _ s2 [(it,fV (rawInt 0) 0 a es.size ep)] o s' a2 (b2.trans hpm) hsl0 S' ?_;have hpz:(pickOrder (W.w.params.setOrder a ep) es).size=es.size:=by rw[←A8,hpp.length_eq,A8]
   have Y:=gZ (W:=W) (sh:=[(a,bZ o)]) (it:=it) (a:=a) (o:=o) (es:=es) (ep:=ep) (tb:=tb) (slots:=List.replicate (es.size+1) 0) (vs:=(pickOrder (W.w.params.setOrder a ep) es).toList.map (·.2)) (.head _) hd hf (by simp[hpz]) ?_ ?_ _ 0 rfl (by walk_at "o")
   ·simpa using Y
   ·intro i hi;simp only[Al,A8]at hi;have:=lK (W:=W) (a:=a) (es:=es) (ep:=ep) (tb:=tb) (slot:=0) (given:=i) hby;rw[Array.getElem?_eq_getElem hi]at this;simpa using this
   ·have:=lK (W:=W) (a:=a) (es:=es) (ep:=ep) (tb:=tb) (slot:=0) (given:=(pickOrder (W.w.params.setOrder a ep) es).size) hby;rw[Array.getElem?_eq_none (AG _)]at this;simpa using this
  | false=>
   have hl2:tb.led=true:=hled.resolve_right (by rw[hby];decide);have hle:es.size<=1:=by
    rcases hc with q | q | q
    ·rw[hby]at q;cases q
    ·by_cases z:es.size=0
     ·walk_at "o"
     ·rw[hpl z]at q;cases q
    ·exact q
   refine h it _ ss' [(it,fV (rawInt 0) 0 a es.size ep)] o s' htx hpm hsl0 S' ?_
   by_cases z:es.size=0
   ·have e1:es=#[]:=Array.size_eq_zero_iff.mp z;have Y:=gZ (W:=W) (sh:=[(a,bZ o)]) (it:=it) (a:=a) (o:=o) (es:=es) (ep:=ep) (tb:=tb) (slots:=[0]) (vs:=[]) (.head _) hd hf rfl (λ i hi=>by simp at hi) ?_ _ 0 rfl (by walk_at "o")
    ·subst e1;simpa using Y
    ·have:=gN (W:=W) (a:=a) (es:=es) (ep:=ep) (tb:=tb) (slot:=0) (given:=0) hby hl2 hle;have e2:es[SetTable.below tb.place 0]?=none:=Array.getElem?_eq_none (by walk_at "o");rw[e2]at this;exact this
   ·have hz1:es.size=1:=by walk_at "o"
    obtain⟨j,hj⟩:∃ j,tb.place=#[j]:=Array.size_eq_one_iff.mp (by walk_at "o");obtain⟨e,he⟩:∃ e,es=#[e]:=Array.size_eq_one_iff.mp hz1;have b0:SetTable.below tb.place 0=0:=hj▸bel1.trans (if_neg (Nat.not_lt_zero j));have b1:SetTable.below tb.place (j+1)=1:=hj▸bel1.trans (if_pos (Nat.lt_succ_self j));have Y:=gZ (W:=W) (sh:=[(a,bZ o)]) (it:=it) (a:=a) (o:=o) (es:=es) (ep:=ep) (tb:=tb) (slots:=[0,j+1]) (vs:=[e.2]) (.head _) hd hf rfl (λ i hi=>?_) ?_ _ 0 rfl (by walk_at "o")
    ·subst he;exact Y
    ·have hi0:i=0:=by simpa using hi
     subst hi0;have:=gN (W:=W) (a:=a) (es:=es) (ep:=ep) (tb:=tb) (slot:=0) (given:=0) hby hl2 hle;rw[b0,hj,he]at this;rw[he];exact this
    ·have:=gN (W:=W) (a:=a) (es:=es) (ep:=ep) (tb:=tb) (slot:=j+1) (given:=1) hby hl2 hle;rw[b1]at this;have e2:es[1]?=none:=Array.getElem?_eq_none (by walk_at "o");rw[e2]at this;exact this
 ·obtain⟨oi,hoi,hci,_⟩:=S'.get (.head _);refine⟨_,rfl,"set_iterator",_,⟨oi,hoi,hci⟩,iW,?_⟩;have hps:∀ j∈ps,j<es.size:=λ j hj=>by simpa using hperm.mem_iff.mp hj
  have Y:=jE (W:=W) (sh:=[(a,bZ o)]) (it:=it) (a:=a) (tp:=tp) (o:=o) (es:=es) (ep:=ep) (tb:=tb) (ps:=ps) (.head _) hd hf hps ps.length 0 (by walk_at "o") (by walk_at "o");have hpl2:∀ j∈ps,j<(es.toList.map (·.2)).length:=λ j hj=>by simpa using hps j hj
  have ht:=TxA.get htx ps hpl2;have e1:(ps.map λ j=>(es.toList.map (·.2)).getD j .none)=ps.map λ j=>(es.getD j (0,.none)).2:=by
   apply List.map_congr_left;intro j hj;have:=hps j hj;simp[Array.getD,this,List.getD]
  rw[e1]at ht;refine h it _ _ _ o s' ht ?_ hsl0 S' Y;have hl':ss'.length=es.size:=by
   have:=htx.length;rw[Al,A8]at this;exact this.symm
  have p1:=hperm.map λ j=>ss'.getD j Str.empty;rw[←hl',mC]at p1;exact p1.trans hpm
theorem vM:typeLookup (.type "set") "__len__"=pure (some (.builtin "set.__len__")):=by rw[typeLookup_type,AF];kernel_rfl
theorem St0.perm{W:Wd}{G:Gens}{nw nw':Lg}{s:Ac}(S:St0 W G nw s)(h:List.Perm nw nw'):St0 W G nw' s:=⟨S.ok,S.led.perm h,S.bare,S.os,S.gens,S.gnd⟩
theorem aDs{α:Type}(e a t:α)(own N:List α):List.Perm (e::(own++(a::t::N))) (t::((e::N)++([a]++own))):=by
 have h1:List.Perm (e::(own++(a::t::N))) (e::((a::t::N)++own)):=AU.cons _;have h2:List.Perm (e::((a::t::N)++own)) (t::e::a::(N++own)):=((List.Perm.swap ..).cons _).trans (List.Perm.swap ..);exact h1.trans (h2.trans ((AM.symm.cons _).cons _))
theorem aAH{a:Addr}{Q:Bool->Ac->Prop}(hT:s.TypeIs (.ref a) "set")(h:Q false s):Ad W.M A (Builtin.List.listLengthHint (.ref a)) Q E s:=by
 obtain⟨o,ho,hc⟩:=hT;obtain⟨hp,g,d,t,os⟩:=s;have hT:(⟨hp,g,d,t,os⟩:Ac).TypeIs (.ref a) "set":=⟨o,ho,hc⟩
 refine Aa (wpAny_specialOf hT vM ?_);dsimp only
 rw[show splitId "set.__len__"=some ("set","__len__")from by decide +kernel];dsimp only
 refine Aa (wpAny_isInstance (b:=true) hT (by rw[isSubtype_type];kernel_rfl) ?_);rw[if_neg (by decide)];rw[if_pos]
 rotate_left
 ·decide +kernel
 exact Aa (wpAny_typeOf hT (Af h))
theorem Sta.collectSet{a:Addr}{ss:List Str}{Q:List Value->Ac->Prop}(S:Sta W G env loc ((a,cZ W ss)::N) s)(hA:Aok 9 A)(hz:ss.length<=4000)(h:∀ vs ss' s',TxA vs ss'->ss'.Perm ss->Sta W G env loc ((a,cZ W ss)::N) s'->Q vs s'):Ad W.M A (collect (.ref a)) Q E s:=by
 unfold collect;refine Aa (wpAny_runValue (codeAny_builtin F.entry_proto_collect ?_));show Ad _ A.in1 (PySem.newList [] >>= λ l=>again (.builtin "list.__iadd__" ⟨[l,.ref a],[]⟩)) _ _ s;refine Aa (S.newList (by simp) λ T s1 S1=>?_);refine Af ⟨plainId_quiet F.plain_list_iadd _,codeAny_builtin F.entry_list_iadd ?_⟩;show Ad _ A.in1 (Builtin.List.listExtendWith (.ref T) (.ref a) (.ref T)) _ _ _;obtain⟨oa,hoa,hsl⟩:=S1.get (.tail _ (.head _));have hT1:s1.TypeIs (.ref a) "set":=⟨oa,hoa,hsl.1.1⟩
 have hne:T≠a:=λ e=>by
  have nd:=S1.led.nodup;simp only[Ak,AH,At]at nd;exact nd.2.1 (.inl e)
 refine Aa (wpAny_typeOf hT1 ?_);have h1:Builtin.List.listSameRef (.ref T) (.ref a)=false:=by simp[Builtin.List.listSameRef,hne]
 have h2:(Value.type "set"==Value.type "list")=false:=by decide
 have h3:(Value.type "set"==Value.type "tuple")=false:=by decide
 rw[h1,h2,h3];rw[if_neg (by decide)];refine Aa ((S1.perm (List.Perm.swap ..)).iterSet hz λ it vs ss' own o s2 ht hpm hslo S2 hy=>?_);obtain⟨o2,ho2,e2⟩:=S2.get (Ag _ (.head _));rw[e2]at ho2;refine Aa (AC (aAH ⟨_,ho2,hslo.1.1⟩ ?_));have hres:((false||(["set","frozenset","dict","dict_keys","dict_values","dict_items"]:List String).any (Value.type "set"==.type ·))=true):=by decide
 show Ad _ A.in1 ((if(false||(["set","frozenset","dict","dict_keys","dict_values","dict_items"]:List String).any (Value.type "set"==.type ·))=true then(rule "list.extend.makes-room" >>= λ _=>Builtin.List.listTouch (.ref T) >>= λ _=>again (.builtin "list.extend.loop" ⟨[.ref T,.ref it,.ref T],[]⟩))else again (.builtin "list.extend.loop" ⟨[.ref T,.ref it,.ref T],[]⟩))) _ _ _;refine Aa (wpAny_rule ?_);refine Aa ?_;have S0:St0 W (G++[]) ((T,aA [])::(((env.locals,aI loc)::N)++([(a,bZ o)]++own))) s2:=by
  rw[Aj];exact S2.to0.perm (aDs _ _ _ _ _)
 obtain⟨n,hl⟩:=S0.isL (.head _);refine Aa (wpAny_updateSeq hl rfl ?_ (by simp) (by simp));have S3:=S0.setL (ys:=[.none]) hl (·.push Value.none) rfl;obtain⟨n1,hl1⟩:=S3.isL (.head _);refine wpAny_updateSeq hl1 rfl ?_ (by simp[Av]) (by simp);have S4:=S3.setL (ys:=[]) hl1 (·.pop) rfl;have hvz:vs.length<=Au:=by rw[ht.length,hpm.length_eq,Av];walk_at "o"
 refine Af ⟨plainId_quiet F.plain_extend_loop _,pI vs own [] [] A _ (hA.le (by first | decide | walk_at "o")) hy (by simpa using hvz) S4 λ s5 S5=>?_⟩;obtain⟨n5,hl5⟩:=S5.isL (.head _);refine Aa (wpAny_load hl5 ?_);refine Af (h vs ss' s5 ht hpm ?_);have S6:St0 W G ((env.locals,aI loc)::(a,bZ o)::N) s5:=(S5.sub (AQ _ _)).perm (by
  exact(AU (l₁:=N) (l₂:=[_])).cons _)
 exact(St0.toSta S6 S.eok).tell .head λ o _ e=>by rw[e];exact hslo
noncomputable def nN:List Str->List Str->Bool
 | [],[]=>false
 | [],_::_=>true
 | _::_,[]=>false
 | x::xs,y::ys=>if x=y then nN xs ys else decide (x.cps.toList<y.cps.toList)
theorem iA{x y:Str}{xs ys:List Str}:nN (x::xs) (y::ys)=if x=y then nN xs ys else decide (x.cps.toList<y.cps.toList):=rfl
theorem TxA.at'{vs:List Value}{ss:List Str}(h:TxA vs ss):∀(i:Nat) (h:i<ss.length),∃ t,vs[i]?=some (.str ss[i] t):=by
 induction h with
 | nil=>intro k h;cases h
 | cons n t h ih=>
  intro k hk;cases k with
  | zero=>exact⟨t,rfl⟩
  | succ k=>
   obtain⟨u,e⟩:=ih k (by simpa using hk);exact⟨u,by simpa using e⟩
theorem gT{A:AJ}{s:Ac}{x y:Str}{t u:Tok}:EqAt A s (.str x t) (.str y u) (decide (x=y)):=by
 have h:EqAt A s (.str x t) (.str y u) _:=EqAt.str_str x t y u;have e:(x==y)=decide (x=y):=by
  by_cases q:x=y
  ·subst q;simp
  ·rw[decide_eq_false q];exact beq_eq_false_iff_ne.mpr q
 first | exact e▸h | (rw[←e];exact h) | simpa using h
open PySem.AutoSeq1 (wpAny_loadPart')
open PySem.MeetsSeq PySem.MeetsSeq2 PySem.MeetsSeq3 PySem.SeqRoads2
theorem yI{prog:Program}{w:World}{A:AJ}{E:Value->Ac->Prop}{s:Ac}{x y:Str}{t u:Tok}{Q:Value->Ac->Prop}(h:Q (.bool (decide (x.cps.toList<y.cps.toList))) s):Ad (model prog w) A (richCompare .Lt (.str x t) (.str y u)) Q E s:=
 PyProof.Rows.lt_str h
theorem aBK(l b:Addr)(vs vs2:List Value)(n n2:Nat)(ss ss2:List Str)(h1:TxA vs ss)(h2:TxA vs2 ss2)(k:Nat):∀ i:Nat,ss.length-i=k->i<=ss.length->i<=ss2.length->Meets (Builtin.«list.__eq__.loop» ⟨[.ref l,.ref b,rawInt i,rawInt 0],[]⟩)
   (λ _ R s=>s.heap.get? l=some { cls:=.type "list",data:=.seq vs.toArray n }/\s.heap.get? b=some { cls:=.type "list",data:=.seq vs2.toArray n2 }∧
    R (.ok (.ret (.bool (nN (ss.drop i) (ss2.drop i))))) s):=by
 induction k with
 | zero=>
  intro i hk hi hi2 prog w A R s h;obtain⟨hp,g,d,tk,os⟩:=s;obtain⟨hl,hb,h⟩:=h
  wp_walk using wpAny_loadPart' hl,wpAny_loadPart' hb
  have e1:vs.toArray[((i:Nat):Int).toNat]?=none:=by
   simp[h1.length];walk_at "o"
  rw[e1]
  wp_walk using wpAny_loadPart' hl,wpAny_loadPart' hb
  show R (.ok (.ret (.bool (decide (vs.toArray.size<vs2.toArray.size))))) _;rw[AN,AN,h1.length,h2.length];have e2:ss.drop i=[]:=Bo (by walk_at "o");rw[e2]at h;have e3:nN [] (ss2.drop i)=decide (ss.length<ss2.length):=by
   by_cases q:i<ss2.length
   ·rw[Ba q];have:ss.length<ss2.length:=by walk_at "o"
    exact(decide_eq_true this).symm
   ·rw[Bo (by walk_at "o")];have:¬ss.length<ss2.length:=by walk_at "o"
    exact(decide_eq_false this).symm
  rw[←e3];exact h
 | succ k ih=>
  intro i hk hi hi2 prog w A R s h;obtain⟨hp,g,d,tk,os⟩:=s;obtain⟨hl,hb,h⟩:=h;have hlt:i<ss.length:=by walk_at "o"
  obtain⟨t,et⟩:=h1.at' i hlt;have e1:vs.toArray[((i:Nat):Int).toNat]?=some (.str ss[i] t):=by simpa using et
  by_cases hlt2:i<ss2.length
  ·obtain⟨u,eu⟩:=h2.at' i hlt2;have e2:vs2.toArray[((i:Nat):Int).toNat]?=some (.str ss2[i] u):=by simpa using eu
   wp_walk using wpAny_loadPart' hl,wpAny_loadPart' hb
   rw[e1,e2];refine Aa (gT prog w _ _ ?_);rw[Ba hlt,Ba hlt2]at h;have hc:((i:Int)+1)=((i+1:Nat):Int):=by push_cast;rfl
   by_cases q:ss[i]=ss2[i]
   ·rw[decide_eq_true q]
    wp_walk
    rw[hc];refine⟨plainId_quiet plain_eq_loop _,codeAny_builtin entry_eq_loop ?_⟩;rw[Around.under_plainId plain_eq_loop _];refine ih (i+1) (by walk_at "o") (by walk_at "o") (by walk_at "o") prog w A R _ ⟨hl,hb,?_⟩;rw[iA,if_pos q]at h;exact h
   ·rw[decide_eq_false q]
    wp_walk using wpAny_loadPart' hl,wpAny_loadPart' hb
    rw[e1,e2];rw[iA,if_neg q]at h;refine Aa (yI ?_);exact Af h
  ·have e2:vs2.toArray[((i:Nat):Int).toNat]?=none:=by simp[h2.length];walk_at "o"
   wp_walk using wpAny_loadPart' hl,wpAny_loadPart' hb
   rw[e1,e2]
   wp_walk using wpAny_loadPart' hl,wpAny_loadPart' hb
   show R (.ok (.ret (.bool (decide (vs.toArray.size<vs2.toArray.size))))) _;rw[AN,AN,h1.length,h2.length];rw[Ba hlt,Bo (BM hlt2)]at h;have:¬ss.length<ss2.length:=by walk_at "o"
   rw[decide_eq_false this];exact h
theorem aBL(l b:Addr)(vs vs2:List Value)(n n2:Nat)(ss ss2:List Str)(h1:TxA vs ss)(h2:TxA vs2 ss2):Meets (Builtin.«list.__lt__» ⟨[.ref l,.ref b],[]⟩)
   (λ _ R s=>s.heap.get? l=some { cls:=.type "list",data:=.seq vs.toArray n }/\s.heap.get? b=some { cls:=.type "list",data:=.seq vs2.toArray n2 }∧
    R (.ok (.ret (.bool (nN ss ss2)))) s):=by
 intro prog w A R s h;obtain⟨hp,g,d,tk,os⟩:=s;obtain⟨hl,hb,h⟩:=h;have f3:=AutoSeq1.sub_list_list
 wp_walk using wpAny_loadPart' hl,wpAny_loadPart' hb
 refine⟨plainId_quiet plain_eq_loop _,codeAny_builtin entry_eq_loop ?_⟩;rw[Around.under_plainId plain_eq_loop _];exact aBK l b vs vs2 n n2 ss ss2 h1 h2 _ 0 rfl (AB _) (AB _) prog w A R _ ⟨hl,hb,by simpa using h⟩
theorem sJ:Slot "list" "__lt__" "list.__lt__":=F.slot_list_lt
theorem aDL{prog:Program}{w:World}{A:AJ}{E:Value->Ac->Prop}{s:Ac}{l b:Addr}{vs vs2:List Value}{n n2:Nat}{ss ss2:List Str}{Q:Bool->Ac->Prop}(hu:A.units<cLine)(h1:TxA vs ss)(h2:TxA vs2 ss2)(hl:s.heap.get? l=some { cls:=.type "list",data:=.seq vs.toArray n })(hb:s.heap.get? b=some { cls:=.type "list",data:=.seq vs2.toArray n2 })(h:Q (nN ss ss2) s):Ad (model prog w) A (keyLt' oneType' (.ref l) (.ref b)) Q E s:=by
 rw[keyLt'_oneType,oneLt'_eq];rw[if_pos rfl];refine Aa (wpAny_cRoomFor hu ?_);refine Aa (wpAny_callSpecialIfBound?_slot ⟨_,hl,rfl⟩ sJ (call_meets sJ ⟨_,hl,rfl⟩ F.entry_list_lt (F.args_list_lt_2 _ _) (aBL l b vs vs2 n n2 ss ss2 h1 h2) ⟨hl,hb,?_⟩));exact wpAny_truthy_bool h
noncomputable def KAll(n:Nat){α:Type}(P:α->Prop):KasT α->Prop
 | .ret a=>P a
 | .ask i j k=>i<n/\j<n/\∀ b,KAll n P (k b)
theorem KAll.mono{n:Nat}{α:Type}{P P':α->Prop}(h:∀ a,P a->P' a):∀{t:KasT α},KAll n P t->KAll n P' t
 | .ret a,x=>h a x
 | .ask _ _ _,x=>⟨x.1,x.2.1,λ b=>KAll.mono h (x.2.2 b)⟩
theorem KAll.bind{n:Nat}{α β:Type}{P:α->Prop}{P':β->Prop}{f:α->KasT β}(h:∀ a,P a->KAll n P' (f a)):∀{t:KasT α},KAll n P t->KAll n P' (t.bind f)
 | .ret a,x=>h a x
 | .ask _ _ _,x=>⟨x.1,x.2.1,λ b=>KAll.bind h (x.2.2 b)⟩
theorem KAll.wp{n:Nat}{α:Type}{P:α->Prop}{cmp:Nat->Nat->(Bool->Ac->Prop)->Ac->Prop}{s:Ac}(hc:∀ i j,i<n->j<n->∃ b,∀ C:Bool->Ac->Prop,C b s->cmp i j C s){Q:α->Ac->Prop}(hQ:∀ a,P a->Q a s):∀{t:KasT α},KAll n P t->t.kasWp cmp Q s
 | .ret a,x=>hQ a x
 | .ask i j k,x=>by
  obtain⟨b,hb⟩:=hc i j x.1 x.2.1;exact hb _ (KAll.wp hc hQ (x.2.2 b))
noncomputable def Ok(n:Nat)(p:Array Nat):Prop:=p.toList.Perm (AY n)
theorem Ok.lt{n:Nat}{p:Array Nat}(h:Ok n p)(hn:0<n)(i:Nat):p.getD i 0<n:=by
 by_cases q:i<p.size
 ·have e:p.getD i 0=p[i]:=by simp[Array.getD,q]
  have:p[i]∈p.toList:=Array.mem_toList_iff.mpr (Array.getElem_mem q);have:=h.mem_iff.mp this;rw[e];simpa using this
 ·have e:p.getD i 0=0:=by simp[Array.getD,q]
  walk_at "o"
section
variable {n:Nat}{p:Array Nat}
end
noncomputable def jV(kp:Str->List Str):List Addr->List Str->Lg
 | k::ks,x::xs=>(k,aB (kp x))::jV kp ks xs
 | _,_=>[]
theorem qA(kp:Str->List Str)(k:Addr)(x:Str):∀(ks:List Addr) (xs:List Str),ks.length=xs.length->jV kp (ks++[k]) (xs++[x])=jV kp ks xs++[(k,aB (kp x))]
 | [],[],_=>rfl
 | [],_::_,h=>by simp at h
 | _::_,[],h=>by simp at h
 | _::ks,_::xs,h=>by
  show _::jV kp (ks++[k]) (xs++[x])=_;rw[qA kp k x ks xs (by simpa using h)];rfl
theorem nW(kp:Str->List Str):∀(ks:List Addr) (xs:List Str) (i:Nat) (h1:i<ks.length) (h2:i<xs.length),(ks[i],aB (kp xs[i]))∈jV kp ks xs
 | k::ks,x::xs,0,_,_=>.head _
 | k::ks,x::xs,i+1,h1,h2=>.tail _ (nW kp ks xs i (by simpa using h1) (by simpa using h2))
theorem TxA.pick{vs:List Value}{ss:List Str}(h:TxA vs ss)(p:List Nat)(hp:∀ i∈p,i<ss.length):TxA (p.map λ i=>vs.getD i .none) (p.map λ i=>ss.getD i Str.empty):=
 TxA.get h p λ j hj=>by rw[h.length];exact hp j hj
noncomputable def eH(f:Addr)(self:Value):Cell:=λ o=>o=methodObj (.ref f) self
theorem eR:∀ l:List (Str×Tok),TxA (strValues l) (l.map (·.1))
 | []=>.nil
 | (x,t)::r=>.cons x t (eR r)
open PySem.Builtin.Str in
theorem Sta.splitMax{x y:Str}{k:Int}{t u v:Tok}{Q:Value->Ac->Prop}(S:Sta W G env loc nw s)(hy:(y.length==0)=false)(hk:(decide (k < -(2 ^ 63:Int))||decide (k≥2 ^ 63))=false)(hsz:x.length<=1000000)(h:∀ a s',Sta W G env loc ((a,aB (Txt.splitMax x y k))::nw) s'->Q (.ref a) s'):Ad W.M A (call (.builtin "str.split") [.str x t,.str y u,.int k v]) Q E s:=by
 have hn:(partsBetween x (occurrences x y 0 x.length (limitOf x k)) y.length).length<=Au:=by
  have e1:=StrLaws.occ_length_le_len x y 0 x.length (limitOf x k);rw[length_partsBetween,Av];walk_at "o"
 have h':∀(l:List (Str×Tok)) tk,l.map (·.1)=Txt.splitMax x y k->Q (.ref s.heap.objs.size) { s with heap:=s.heap.push { cls:=.type "list",data:=.seq (strValues l).toArray },toks:=tk }:=λ l tk e=>
  h _ _ (S.new (c:=aB (Txt.splitMax x y k)) rfl ⟨strValues l,by rw[←e];exact eR l,0,rfl⟩ tk)
 cases h1:(decide (x.length<y.length)||decide (strKind x<strKind y))
 ·cases hf:(occurrences x y 0 x.length (limitOf x k)).isEmpty
  ·refine call_meets F.slot_str_split (typeIs_str _ _ _) F.entry_str_split (F.args_str_split_3 _ _ _) (meets_str_split_sep_max x y k t u v hk h1 hy hf (by walk_at "osz") hn) ?_;show wants Q E _ { s with toks:=_,heap:=s.heap.push { cls:=.type "list",data:=.seq (strsFrom s.toks (partsBetween x (occurrences x y 0 x.length (limitOf x k)) y.length)).toArray } };rw[strsFrom_eq];exact h' (numbered s.toks _) _ ((numbered_texts _ _).trans ((if_neg (ne_true_of_eq_false h1)).trans (if_neg (ne_true_of_eq_false hf))).symm)
  ·exact call_meets F.slot_str_split (typeIs_str _ _ _) F.entry_str_split (F.args_str_split_3 _ _ _) (meets_str_split_max_not_found x y k t u v hk h1 hy hf) (h' [(x,t)] s.toks ((if_neg (ne_true_of_eq_false h1)).trans (if_pos hf)).symm)
 ·exact call_meets F.slot_str_split (typeIs_str _ _ _) F.entry_str_split (F.args_str_split_3 _ _ _) (meets_str_split_max_cannot_occur x y k t u v hk h1) (h' [(x,t)] s.toks (if_pos h1).symm)
theorem Sta.getBound{name:Str}{C x d f:Addr}{names:List Str}{vals:Loc}{expr:Bool}{Q:Value->Ac->Prop}(S:Sta W G env loc nw s)(c:Cl W.K C names)(mx:(x,bG C d)∈nw)(md:(d,aS vals)∈nw)(hk:vals.map Prod.fst=names)(hn:name∉names)(hf:findIn W.K (.ref C) name=some (some (.ref f)))(ht:typeIn W.K (.ref f)=some (.type "function"))(hg:specialIn W.K (.ref f) "__get__"=some (some (.builtin "function.__get__")))(htk:takesIn W.K (.ref f)=some false)(hcp:copiedNames.contains name=false)(h:∀ q s',Sta W G env loc ((q,eH f (.ref x))::nw) s'->Q (.ref q) s'):Ad W.M A (getAttr (.ref x) name expr) Q E s:=by
 obtain⟨od,I,nd,_,q⟩:=S.inst mx md;obtain⟨es,ep,hd,hsk,hl,_⟩:=q;have hno:lk vals name=none:=by
  unfold lk;rw[Bl.mpr]
  ·rfl
  ·intro p hp;rw[bne_iff_ne];exact λ e=>hn (by rw[←hk,e];exact Ah.mpr ⟨p,hp,rfl⟩)
 refine get_bind S.kin I c.ga (findObj_fn c.dict hf hg htk hcp (by rw[kO hd hsk ((hl name).trans hno)])) c.gh ?_;refine wpAny_call (fn_get (s:={ s with toks:=s.toks+1 }) S.kin ht (handed_on rfl ?_));exact h _ _ (S.new (c:=eH f (.ref x)) rfl rfl _)
theorem Sta.callMeth{q f:Addr}{self:Value}{pos:List Value}{kw:List (Str×Value)}{Q:Value->Ac->Prop}(S:Sta W G env loc nw s)(m:(q,eH f self)∈nw)(h:codeAny W.M A (.call (.ref f) ⟨self::pos,kw⟩) (λ r s'=>match r with | .ok (.ret v)=>Q v s' | .ok _=>False | .error e=>E e s') s):Ad W.M A (call (.ref q) pos kw) Q E s:=by
 obtain⟨o,ho,rfl⟩:=S.get m;exact wpAny_call (method_call ho h)
theorem aCd{pos:Pos}{q f:Addr}{self:Value}{e:Expr}{rest:List Expr}{Q:Value->Ac->Prop}(hf:fnIn W.K f=true)(h:Ad W.M A (spliced (backTo pos (Aw (e::rest) env))) (λ vs s₁=>MethP W.K q f self s₁.heap/\Ad W.M A (call (.ref q) vs) Q E s₁) E s)(he:Aw (e::rest) env=(false,eval e env)::Aw rest env)(hplain:(backTo pos (Aw rest env)).any (·.1)=false):Ad W.M A (callWith pos (.ref q) [] (backTo pos (Aw (e::rest) env)) []) Q E s:=by
 rw[he]at h ⊢;exact callWith_of (P:=λ h=>MethP W.K q f self h) (first:=[]) (by show(false||(backTo pos (Aw rest env)).any (·.1)||false)=false;rw[hplain];rfl) (keeps_M hf) (Calls.evalArgs_plain h)
theorem Sta.methP{q f:Addr}{self:Value}(S:Sta W G env loc nw s)(m:(q,eH f self)∈nw):MethP W.K q f self s.heap:=by
 obtain⟨o,ho,rfl⟩:=S.get m;exact⟨ho,S.kin⟩
noncomputable def JP(M:Model)(A:AJ)(E:Value->Ac->Prop)(out:Str)(rest:List (Sem Value))(Q:Value->Ac->Prop):Value->Ac->Prop:=λ v s=>∃ y t,v=.str y t/\(out++y).length<=Au/\Ad M A (joinParts (out++y) rest) Q E s
section
variable {M:Model}{A:AJ}{E:Value->Ac->Prop}{s:Ac}{env:Env}
theorem JP.mk{out y:Str}{t:Tok}{rest:List (Sem Value)}{Q:Value->Ac->Prop}(hz:(out++y).length<=Au)(h:Ad M A (joinParts (out++y) rest) Q E s):JP M A E out rest Q (.str y t) s:=⟨y,t,rfl,hz,h⟩
theorem joinP{out:Str}{v:Expr}{rest:List Expr}{Q:Value->Ac->Prop}(h:Ad M A (eval v env) (JP M A E out (evalEach rest env) Q) E s):Ad M A (joinParts out (evalEach (v::rest) env)) Q E s:=by
 refine joinParts_cons (x:=eval v env) (rest:=evalEach rest env) (As h (λ v s₁ h₁=>?_) λ _ _ e=>e);obtain⟨y,t,rfl,hz,h₁⟩:=h₁;exact⟨hz,h₁⟩
theorem aDM{v₁ v₂:Expr}{rest:List Expr}{pos:Pos}{Q:Value->Ac->Prop}(h:Ad M A (joinParts Str.empty (evalEach (v₁::v₂::rest) env)) Q E s):Ad M A (eval (.JoinedStr (v₁::v₂::rest) pos) env) Q E s:=h
end
theorem Sta.joinEnd{M:Model}{out:Str}{Q:Value->Ac->Prop}(S:Sta W G env loc nw s)(hz:out.length<=Au)(h:∀ t s',Sta W G env loc nw s'->Q (.str out t) s'):Ad M A (joinParts out (evalEach [] env)) Q E s:=
 joinParts_nil (h _ _ (S.toks _)) hz
theorem Sta.fmtS{M:Model}{x:Str}{t:Tok}{Q:Value->Ac->Prop}(S:Sta W G env loc nw s)(hz:x.length<=Au)(h:∀ t' s',Sta W G env loc nw s'->Q (.str x t') s'):Ad M A (formatField (.str x t) Str.empty) Q E s:=
 formatField_str (λ t' tk=>h t' _ (S.toks tk)) hz
theorem Sta.truthyD{d:Addr}{kvs:List (Str×Value)}{Q:Bool->Ac->Prop}(S:Sta W G env loc nw s)(m:(d,IsD W d kvs)∈nw)(hz:kvs.length<=1000000)(h:∀ s',Sta W G env loc nw s'->Q (!kvs.isEmpty) s'):Ad W.M A (truthy (.ref d)) Q E s:=by
 obtain⟨hd,hn⟩:=S.dictAt m;exact wpAny_truthy_dict hn hd (by walk_at "o") (h _ (S.toks _))
theorem Sta.getM_D{name:Str}{d:Addr}{kvs:List (Str×Value)}{Q:Value×List Value->Ac->Prop}{id:String}(S:Sta W G env loc nw s)(m:(d,IsD W d kvs)∈nw)(slot:Slot "dict" name id)(hty:typeOf (.builtin id)=pure (.type "method_descriptor"))(h:Q (.builtin id,[.ref d]) s):GetM W.M A E name (.ref d) Q s:=by
 obtain⟨hd,hn⟩:=S.dictAt m;exact dO F.plainAttrs_dict slot hty hd.typeIs hd.mapOf.noDict h
theorem Sta.dictGet{d:Addr}{kvs:List (Str×Value)}{x:Str}{t:Tok}{Q:Value->Ac->Prop}(S:Sta W G env loc nw s)(m:(d,IsD W d kvs)∈nw)(h:∀ s',Sta W G env loc nw s'->Q ((valueAt kvs x).getD .none) s'):Ad W.M A (call (.builtin "dict.get") [.ref d,.str x t]) Q E s:=by
 obtain⟨hd,hn⟩:=S.dictAt m;exact call_meetsIn F.slot_dict_get hd.typeIs F.entry_dict_get (F.args_dict_get_2 _ _) (meets_dict_get (PySem.strKind W.prog W.w) d (strKind_is _ _ x t) hn) ⟨_,hd.mapOf,h _ (S.toks _)⟩
theorem Sta.subD{d:Addr}{kvs:List (Str×Value)}{x:Str}{t:Tok}{v:Value}{Q:Value->Ac->Prop}(S:Sta W G env loc nw s)(m:(d,IsD W d kvs)∈nw)(hv:valueAt kvs x=some v)(h:∀ s',Sta W G env loc nw s'->Q v s'):SubscriptOn W.M A (.ref d) (.str x t) Q E s:=by
 obtain⟨hd,hn⟩:=S.dictAt m;exact⟨"dict",_,slot_dict_getitem.lookup,hd.typeIs,wpAny_getItem_of (strKind_is _ _ x t) hd.mapOf hv (h _ (S.toks _))⟩
theorem Sta.inD{d:Addr}{kvs:List (Str×Value)}{x:Str}{t:Tok}{Q:Value->Ac->Prop}(S:Sta W G env loc nw s)(m:(d,IsD W d kvs)∈nw)(h:∀ s',Sta W G env loc nw s'->Q (.bool (valueAt kvs x).isSome) s'):Ad W.M A (compareOp .In (.str x t) (.ref d)) Q E s:=by
 obtain⟨hd,hn⟩:=S.dictAt m;exact wpAny_in_of (strKind_is _ _ x t) hn hd.mapOf (h _ (S.toks _))
theorem Sta.itemsD{d:Addr}{kvs:List (Str×Value)}{Q:Value->Ac->Prop}(S:Sta W G env loc nw s)(m:(d,IsD W d kvs)∈nw)(h:∀ r s',Sta W G env loc ((r,jB d)::nw) s'->Q (.ref r) s'):Ad W.M A (call (.builtin "dict.items") [.ref d]) Q E s:=by
 obtain⟨hd,hn⟩:=S.dictAt m;exact call_meetsIn PySem.F.slot_dict_items hd.typeIs PySem.F.entry_dict_items (PySem.F.args_dict_items_1 _) (meets_dict_items (PySem.strKind W.prog W.w) d hn) ⟨⟨kvs,hd⟩,h _ _ (S.new (c:=jB d) rfl rfl s.toks)⟩
theorem oH(kx vx target iter:Expr)(scope:Scope)(pos:Pos)(it:Value)(D:Addr)(env:Env):compTurn (.DictComp kx vx [⟨target,iter,[],0⟩] scope pos) 0 it (.ref D) env=(standAt iter.pos >>= λ _=>pyNext it >>= λ r=>match r with
   | none=>pure (.done .next)
   | some v=>letOwnedTupleGo target it v >>= λ _=>assign target env v >>= λ _=>
    (eval kx env >>= λ kv=>holding [kv] (eval vx env) >>= λ vv=>standAt { kx.pos with endLine:=vx.pos.endLine,endCol:=vx.pos.endCol } >>= λ _=>holding [kv,vv] (dictSet D kv vv)) >>= λ _=>
     again (.compLoop (.DictComp kx vx [⟨target,iter,[],0⟩] scope pos) 0 it (.ref D) env)):=by rfl
theorem xT{M:Model}{A:AJ}{E:Value->Ac->Prop}{s:Ac}{env:Env}{func:Expr}{args:List Expr}{kws:List Keyword}{pos:Pos}{Q:Value->Ac->Prop}(h:Ad M A (eval func env) (λ f s₁=>Ad M A (callWith pos f [] (backTo pos (Aw args env)) (backToKw pos (keywordEach kws env))) Q E s₁) E s)(he:eval (.Call func args kws pos) env=(do callWith pos (← eval func env) [] (backTo pos (Aw args env)) (backToKw pos (keywordEach kws env)))):Ad M A (eval (.Call func args kws pos) env) Q E s:=by
 rw[he];exact Aa h
theorem Sta.neg{a:Int}{t:Tok}{Q:Value->Ac->Prop}(S:Sta W G env loc nw s)(h:∀ t s',Sta W G env loc nw s'->Q (.int (-a) t) s'):Ad W.M A (unaryOp .USub (.int a t)) Q E s:=
 PyProof.Rows.neg_int (h _ _ (S.toks _))
theorem Sta.addS{x y:Str}{t u:Tok}{Q:Value->Ac->Prop}(S:Sta W G env loc nw s)(hz:x.length+y.length<=Au)(h:∀ t s',Sta W G env loc nw s'->Q (.str (x++y) t) s'):Ad W.M A (binaryOp .Add (.str x t) (.str y u)) Q E s:=
 PyProof.Rows.add_str (λ t' tk=>h t' _ (S.toks tk)) hz
theorem Sta.sub_last{l:Addr}{xs:List Value}{t:Tok}{v:Value}{Q:Value->Ac->Prop}(S:Sta W G env loc nw s)(m:(l,aA xs)∈nw)(hx:xs.getLast?=some v)(h:Q v s):SubscriptOn W.M A (.ref l) (.int (-1) t) Q E s:=by
 have hne:xs≠[]:=λ e=>by subst e;simp at hx
 have hlen:0<xs.length:=BF.mpr hne;refine⟨"list",_,F.slot_list_getitem.lookup,(S.isList m).typeIs,wpAny_getItem_list_neg (S.isList m) (by walk_at "o") (by simp;walk_at "o") (by walk_at "o") ?_ h⟩;rw[AN];have e:((-1:Int)+(xs.length:Int)).toNat=xs.length-1:=by walk_at "o"
 rw[e,List.getElem?_toArray,←List.getLast?_eq_getElem?];exact hx
theorem Sta.sub_tuple{l:Addr}{xs:List Value}{k:Int}{t:Tok}{j:Nat}{v:Value}{Q:Value->Ac->Prop}(S:Sta W G env loc nw s)(m:(l,aJ xs)∈nw)(hk:k=(j:Int))(hj:j<1000000)(hx:xs[j]?=some v)(h:Q v s):SubscriptOn W.M A (.ref l) (.int k t) Q E s:=by
 subst hk;have hlt:j<xs.length:=(List.getElem?_eq_some_iff.mp hx).1;refine⟨"tuple",_,F.slot_tuple_getitem.lookup,(S.isTup m).typeIs,PyProof.Rows.getItem_tuple (j:=j) (S.isTup m) (by walk_at "o") (by walk_at "o") ?_ (by simpa using hx) h⟩;rw[AN];exact aDb hlt
theorem Sta.iterT{l:Addr}{ss:List Str}{Q:Value->Ac->Prop}(S:Sta W G env loc nw s){N:Lg}(P:Pull (l,aB ss) nw N)(h:∀ it vs s',TxA vs ss->Sta W G env loc ((it,bM l 0)::(l,aA vs)::N) s'->Q (.ref it) s'):Ad W.M A (pyIter (.ref l)) Q E s:=by
 have S1:=S.perm P.perm;obtain⟨vs,nw1,ht,U1,U2,S2⟩:=S1.openT (c':=aB ss) .head;cases U1 with
 | head=>exact S2.iterL (.head _) λ it s' S'=>h it vs s' ht S'
 | tail U=>exact absurd S1.led.nodup (by
   have m:=U.mem;simp only[Ak,AH]
   exact λ q=>q.2.1 (Ah.mpr ⟨_,m,rfl⟩))
theorem iN{kvs:List (Str×Value)}{x:Str}{v:Value}(h:x∉kvs.map (·.1)):stored kvs x v=kvs++[(x,v)]:=by
 unfold stored;rw[if_neg];intro q;obtain⟨p,hp,e⟩:=List.any_eq_true.mp q;exact h (Ah.mpr ⟨p,hp,of_decide_eq_true e⟩)
theorem jF{kvs:List (Str×Value)}{x:Str}(h:x∉kvs.map (·.1)):valueAt kvs x=none:=by
 unfold valueAt;rw[List.find?_eq_none.mpr]
 ·rfl
 ·intro p hp q;exact h (Ah.mpr ⟨p,hp,of_decide_eq_true q⟩)
theorem tU{G':Gens}{cenv:Env}{loc2 locC:Loc}{nw':Lg}{s'':Ac}{y:Str}{py:Pos}{acc:Addr}{Q:Flow->Ac->Prop}(he:EvO env (loc.map Prod.fst))(S':Sta W G' cenv locC ((env.locals,aI loc)::nw') s'')(hp:Put y (some (.ref acc)) loc loc2)(hQ:∀ s₃,Sta W G' env loc2 nw' s₃->Q .next s₃):Ad W.M A (assign (.Name y py) env (.ref acc)) (λ _ s''=>∃ m,s''.heap.Ns cenv.locals m/\∀ h',Heap.SameBut cenv.locals s''.heap h'->Q .next { s'' with heap:=h' }) E s'':=by
 have S1:Sta W G' env loc ((cenv.locals,aI locC)::nw') s'':=⟨S'.ok,he,S'.led.perm (List.Perm.swap ..),S'.bare,S'.os,S'.gens,S'.gnd⟩
 refine wpAny_assign_Name (S1.store hp λ s3 S3=>?_);obtain⟨o,ho,_,q0⟩:=S3.get (.head _);obtain⟨es,ep,hd,hk,hf⟩:=q0;refine⟨_,⟨o,es,ep,ho,hd,hk,hf⟩,λ h' hs'=>hQ _ ⟨S3.ok,S3.eok,?_,S3.bare,S3.os,S3.gens,S3.gnd⟩⟩;have:=Led.dropBack (nw:=[(env.locals,aI loc2)]) (a:=cenv.locals) (post:=nw') (h':=h') S3.led λ b o hb e=>(hs'.2 b hb).trans e;exact this
noncomputable def CompEndA(W:Wd)(env e2:Env)(loc:Loc)(y:Str)(v:Value)(P:Ac->Prop)(r:Result)(s:Ac):Prop:=
 ∃ f loc' loc2 nw' G',r=.ok f/\Sta W G' e2 loc' ((env.locals,aI loc)::nw') s/\Put y (some v) loc loc2/\∀ s₃,Sta W G' env loc2 nw' s₃->P s₃
theorem CompEndA.mk{W:Wd}{env e2:Env}{loc loc' loc2:Loc}{y:Str}{v:Value}{P:Ac->Prop}{s:Ac}{G':Gens}{nw':Lg}(S:Sta W G' e2 loc' ((env.locals,aI loc)::nw') s)(hp:Put y (some v) loc loc2)(k:∀ s₃,Sta W G' env loc2 nw' s₃->P s₃):CompEndA W env e2 loc y v P (.ok .next) s:=⟨.next,loc',loc2,nw',G',rfl,S,hp,k⟩
noncomputable def aCo(W:Wd)(A:AJ)(env:Env)(e:Expr)(scope:Scope)(cl:List (Str×Addr))(ks:List Str)(y:Str)(Q:Flow->Ac->Prop)(it:Value)(s:Ac):Prop:=
 ∃ G loc nw,Sta W G env loc nw s/\∀ acc C s',EvO (compEnvC scope cl C env) ks->Sta W G (compEnvC scope cl C env) (ks.map λ k=>(k,none)) ((acc,IsD W acc [])::(env.locals,aI loc)::nw) s'->
  codeAny W.M A (.compStart e 0 it (.ref acc) (compEnvC scope cl C env)) (CompEndA W env (compEnvC scope cl C env) loc y (.ref acc) (Q .next)) s'
theorem oO{kx vx target iter:Expr}{gens:List Comprehension}{scope:Scope}{pos py spos:Pos}{y:Str}{cl:List (Str×Addr)}{Q:Flow->Ac->Prop}(ks:List Str)(hsw:swapsWith (.DictComp kx vx (⟨target,iter,[],0⟩::gens) scope pos) (some (.Name y py)) spos.line env=pure true)(hclos:closureFor scope env=pure cl)(hk:eQ scope ks=true)(he:env.globals=AL)(hb:env.builtins=builtinsNs)(h:Ad W.M A (eval iter env) (λ x s₁=>Ad W.M A (pyIter x) (λ it s₂=>aCo W A env (.DictComp kx vx (⟨target,iter,[],0⟩::gens) scope pos) scope cl ks y Q it s₂) E s₁) E s)(hs:∀ x,foldedSetIterable iter env x=pure x:=by intro _;rfl):Ad W.M A (exec (.Assign [.Name y py] (.DictComp kx vx (⟨target,iter,[],0⟩::gens) scope pos) spos) env) Q E s:=by
 refine fK hk ?_;clear hk;intro hkind hcell hnames hks hnd;rw[exec_Assign_Name_used _ _ _ _ hsw];refine Aa (AP (Aa ?_));show Ad _ A (do let _ ← comprehension (.DictComp kx vx (⟨target,iter,[],0⟩::gens) scope pos) scope env _ newDict false (eval iter env) (some (assign (.Name y py) env))) _ _ s;refine Aa (As (wpAny_comprehension_free (use:=some (assign (.Name y py) env)) (Q:=λ _ s'=>Q .next s') (cl:=cl) rfl hs hclos hkind (λ x hx hl=>(hnames x hx).resolve_left λ q=>q hl) (As h (λ xv s₁ h₁=>As h₁ (λ it s₂ h₂=>?_) λ _ _ e=>e) λ _ _ e=>e)) (λ _ s' hq=>Af (Af hq)) λ _ _ e=>e);obtain⟨G,loc,nw,S,kk⟩:=h₂;refine S.newDict λ acc s₃ S₃=>?_;refine wpAny_newFunctionEnv hcell (by intro y hy;simp at hy) (λ h₁ hns hsb=>?_) hkind;have hkp:∀ b o,s₃.heap.get? b=some o->h₁.get? b=some o:=λ b o e=>hsb.extBut b o (Bx (Heap.lt_size e)) (Heap.get?_push_of_some _ e);have D:Led W.B ((s₃.heap.objs.size,aI (ks.map λ k=>(k,none)))::(env.locals,aI loc)::(acc,IsD W acc [])::nw) h₁:=by
  obtain⟨o,es,ep,ho',hd,hsk,hf⟩:=hns;refine S₃.led.cons_new hkp S₃.led.size_ne S₃.led.size_new ho' ⟨by rw[AZ];simpa[Function.comp_def]using hnd,es,ep,hd,hsk,λ x=>?_⟩;rw[hf x,jR];rfl
 have ek:(ks.map λ k=>((k,none):Str×Option Value)).map Prod.fst=ks:=by rw[AZ];simp[Function.comp_def]
 have eok:EvO (compEnvC scope cl s₃.heap.objs.size env) ks:=⟨hkind,he,hb,λ x hx=>lookup_relabel_local (hks x hx).1,λ x hx=>(hks x hx).2,hnd⟩
 refine codeAny_mono (kk acc s₃.heap.objs.size { s₃ with heap:=h₁,toks:=s₃.toks+0 } eok ⟨S₃.ok,by rw[ek];exact eok,D.perm (List.Perm.cons _ (List.Perm.swap ..)),S₃.bare,S₃.os,S₃.gens,S₃.gnd⟩) λ r s'' h''=>?_;obtain⟨f,loc',loc2,nw',G',h''⟩:=h'';obtain⟨rfl,S',hp,hQ⟩:=h'';exact tU (cenv:=compEnvC scope cl s₃.heap.objs.size env) S.eok S' hp hQ
noncomputable def aEg(W:Wd)(A:AJ)(env:Env)(e:Expr)(scope:Scope)(cl:List (Str×Addr))(ks:List Str)(y:Str)(Q:Flow->Ac->Prop)(it:Value)(s:Ac):Prop:=
 ∃ G loc nw,Sta W G env loc nw s/\∀ acc C s',EvO (compEnvC scope cl C env) ks->Sta W G (compEnvC scope cl C env) (ks.map λ k=>(k,none)) ((acc,aA [])::(env.locals,aI loc)::nw) s'->
  codeAny W.M A (.compStart e 0 it (.ref acc) (compEnvC scope cl C env)) (CompEndA W env (compEnvC scope cl C env) loc y (.ref acc) (Q .next)) s'
theorem oN{elt target iter:Expr}{gens:List Comprehension}{scope:Scope}{pos py spos:Pos}{y:Str}{cl:List (Str×Addr)}{ifs:List Expr}{Q:Flow->Ac->Prop}(ks:List Str)(hsw:swapsWith (.ListComp elt (⟨target,iter,ifs,0⟩::gens) scope pos) (some (.Name y py)) spos.line env=pure true)(hclos:closureFor scope env=pure cl)(hk:eQ scope ks=true)(he:env.globals=AL)(hb:env.builtins=builtinsNs)(h:Ad W.M A (eval iter env) (λ x s₁=>Ad W.M A (pyIter x) (λ it s₂=>aEg W A env (.ListComp elt (⟨target,iter,ifs,0⟩::gens) scope pos) scope cl ks y Q it s₂) E s₁) E s)(hs:∀ x,foldedSetIterable iter env x=pure x:=by intro _;rfl):Ad W.M A (exec (.Assign [.Name y py] (.ListComp elt (⟨target,iter,ifs,0⟩::gens) scope pos) spos) env) Q E s:=by
 refine fK hk ?_;clear hk;intro hkind hcell hnames hks hnd;rw[exec_Assign_Name_used _ _ _ _ hsw];refine Aa (AP (Aa ?_));show Ad _ A (do let _ ← comprehension (.ListComp elt (⟨target,iter,ifs,0⟩::gens) scope pos) scope env _ (newList []) false (eval iter env) (some (assign (.Name y py) env))) _ _ s;refine Aa (As (wpAny_comprehension_free (use:=some (assign (.Name y py) env)) (Q:=λ _ s'=>Q .next s') (cl:=cl) rfl hs hclos hkind (λ x hx hl=>(hnames x hx).resolve_left λ q=>q hl) (As h (λ xv s₁ h₁=>As h₁ (λ it s₂ h₂=>?_) λ _ _ e=>e) λ _ _ e=>e)) (λ _ s' hq=>Af (Af hq)) λ _ _ e=>e);obtain⟨G,loc,nw,S,kk⟩:=h₂;refine S.newList (by simp) λ acc s₃ S₃=>?_;refine wpAny_newFunctionEnv hcell (by intro y hy;simp at hy) (λ h₁ hns hsb=>?_) hkind;have hkp:∀ b o,s₃.heap.get? b=some o->h₁.get? b=some o:=λ b o e=>hsb.extBut b o (Bx (Heap.lt_size e)) (Heap.get?_push_of_some _ e);have D:Led W.B ((s₃.heap.objs.size,aI (ks.map λ k=>(k,none)))::(env.locals,aI loc)::(acc,aA [])::nw) h₁:=by
  obtain⟨o,es,ep,ho',hd,hsk,hf⟩:=hns;refine S₃.led.cons_new hkp S₃.led.size_ne S₃.led.size_new ho' ⟨by rw[AZ];simpa[Function.comp_def]using hnd,es,ep,hd,hsk,λ x=>?_⟩;rw[hf x,jR];rfl
 have ek:(ks.map λ k=>((k,none):Str×Option Value)).map Prod.fst=ks:=by rw[AZ];simp[Function.comp_def]
 have eok:EvO (compEnvC scope cl s₃.heap.objs.size env) ks:=⟨hkind,he,hb,λ x hx=>lookup_relabel_local (hks x hx).1,λ x hx=>(hks x hx).2,hnd⟩
 refine codeAny_mono (kk acc s₃.heap.objs.size { s₃ with heap:=h₁,toks:=s₃.toks+0 } eok ⟨S₃.ok,by rw[ek];exact eok,D.perm (List.Perm.cons _ (List.Perm.swap ..)),S₃.bare,S₃.os,S₃.gens,S₃.gnd⟩) λ r s'' h''=>?_;obtain⟨f,loc',loc2,nw',G',h''⟩:=h'';obtain⟨rfl,S',hp,hQ⟩:=h'';exact tU (cenv:=compEnvC scope cl s₃.heap.objs.size env) S.eok S' hp hQ
theorem Sta.isub{a b:Int}{t u:Tok}{Q:Value->Ac->Prop}(S:Sta W G env loc nw s)(h:∀ t s',Sta W G env loc nw s'->Q (.int (a-b) t) s'):Ad W.M A (inplaceOp .Sub (.int a t) (.int b u)) Q E s:=
 PyProof.Rows.isub_int (h _ _ (S.toks _))
noncomputable def yH(T:Str->Bool):List Str->(Str->Bool)
 | []=>T
 | x::r=>yH (λ k=>T k||decide (k=x)) r
noncomputable def zU(T:Str->Bool)(n:Nat):List Str->Nat
 | []=>n
 | x::r=>zU (λ k=>T k||decide (k=x)) (if T x then n else n+1) r
section
variable {W:Wd}{sh:Lg}{I:Addr}{E:Value->Ac->Prop}
theorem uT{S:Addr}{Rr:Result->Ac->Prop}{R:Lg}{GR:Gens}:∀(vs:List Value) (ss:List Str) (T:Str->Bool) (n:Nat) (own:Lg) (og:Gens) (A:AJ) (s:Ac),TxA vs ss->Aok 8 A->cN W sh I vs own og->n+ss.length+1<Bu->
  St0 W (GR++og) (((S,bI W T n)::R)++(sh++own)) s->(∀ s',St0 W GR (((S,bI W (yH T ss) (zU T n ss))::R)++sh) s'->Rr (.ok (.ret .none)) s')->codeAny W.M A (.builtin "set.update.loop" ⟨[.ref S,.ref I],[]⟩) Rr s:=by
 intro vs ss T n own og A s ht
 induction ht generalizing T n own og s with
 | nil=>
  intro hA hy hz St hR;refine codeAny_builtin PyProof.Rows.F.entry_set_update_loop ?_;rw[Around.under_plainId PyProof.Rows.F.plain_set_update_loop _];show Ad _ A.in1 (pyNext (.ref I) >>= _) _ _ s;exact Aa (hy.2 A.in1 _ GR s _ _ (Aok.in1 hA) St λ s' S'=>Af (hR s' S'))
 | cons x t ht ih=>
  intro hA hy hz St hR;refine codeAny_builtin PyProof.Rows.F.entry_set_update_loop ?_;rw[Around.under_plainId PyProof.Rows.F.plain_set_update_loop _];show Ad _ A.in1 (pyNext (.ref I) >>= _) _ _ s;refine Aa (hy.2 A.in1 _ GR s _ _ (Aok.in1 hA) St λ own' og' s' S' hy'=>?_);show Ad _ A.in1 (holding [Value.str x t] (setAdd S (.str x t)) >>= _) _ _ s';refine Aa (AC ?_);unfold setAdd;refine AC ?_;refine Aa ((PySem.strKind W.prog W.w).pyHash (k:=x) (strKind_is _ _ _ _) ?_);rw[A9]at hz;have S'':St0 W (GR++og') ((S,bI W T n)::(R++(sh++own'))) s':=S';obtain⟨o,ho,hc⟩:=S''.get (.head _);refine wpAny_setAddHashed_of (knd:=PySem.strKind W.prog W.w) (s:={ s' with toks:=s'.toks+1 }) (k:=x) (by simp[PySem.strKind,Value.isStrOf]) rfl (hc.setOf ho (by walk_at "o")) (by walk_at "o") λ h' hsb hS2=>?_;obtain⟨o2,ho2,hc2⟩:=hS2.objOf;have S3:=S''.set (nw':=(S,bI W (λ k=>T k||decide (k=x)) (if T x then n else n+1))::(R++(sh++own'))) .head (λ b o hb e=>(hsb.2 b hb).trans e) ho2 hc2 (s'.toks+1);refine Af ⟨plainId_quiet PyProof.Rows.F.plain_set_update_loop _,ih _ _ own' og' _ hA hy' (by split<;>walk_at "o") S3 hR⟩
end
theorem Sta.setOfList{l:Addr}{vs:List Value}{ss:List Str}{Q:Value->Ac->Prop}(S:Sta W G env loc ((l,aA vs)::N) s)(hA:Aok 14 A)(ht:TxA vs ss)(hb:ss.length+1<Bu)(h:∀ a s',Sta W G env loc ((a,bI W (yH (λ _=>false) ss) (zU (λ _=>false) 0 ss))::(l,aA vs)::N) s'->Q (.ref a) s'):Ad W.M A (call (.type "set") [.ref l]) Q E s:=by
 obtain⟨c,tl,hmro⟩:=F.called_set.mro;have hmade:=F.called_set.made;have hsub:=F.called_set.sub;refine wpAny_call (codeAny_of_tree ?_);show Ad _ _ (callAny (.type "set") _) _ _ _;refine Af ⟨Code.quiet_builtin _ (by decide +kernel),codeAny_builtin F.entry_type_call ?_⟩;rw[Around.under_plain (weight_type_call_type "set" [.ref l] []) rfl];have h1:=F.called_set.notType;have h2:=F.called_set.canCreate;have hct:=PySem.F.typeCall_set_1 (.ref l)
 repeat (any_goals (first | assumption | wp_step))
 refine codeAny_mono (code_set_new_1 (.ref l) (E:=E) (Q₁:=λ obj s₁=>∃ led:Bool,obj=.ref s.heap.objs.size/\s₁={ s with heap:=s.heap.push { cls:=.type "set",dict:=none,data:=.set #[] 0 (.fresh 0 0 led) } }) λ led=>⟨led,rfl,rfl⟩) λ r s₁ hr=>?_;cases r with
 | error e=>exact hr
 | ok fl=>
  cases fl with
  | ret obj=>
   obtain⟨led,rfl,rfl⟩:=hr;have S1:=S.new (c:=bI W (λ _=>false) 0) (o:={ cls:=.type "set",dict:=none,data:=.set #[] 0 (.fresh 0 0 led) }) rfl (setObjOf_fresh led) s.toks;have hS:(s.heap.push { cls:=.type "set",dict:=none,data:=.set #[] 0 (.fresh 0 0 led) }).get? s.heap.objs.size=some { cls:=.type "set",dict:=none,data:=.set #[] 0 (.fresh 0 0 led) }:=Heap.get?_push_size _ rfl;have hT:Shared.TypeIs { s with heap:=s.heap.push { cls:=.type "set",dict:=none,data:=.set #[] 0 (.fresh 0 0 led) } } (.ref s.heap.objs.size) "set":=⟨_,hS,rfl⟩
   have hli:=F.called_set.init.lookup;have hbi:=F.called_set.init.bind (.ref s.heap.objs.size)
   repeat (any_goals (first | assumption | wp_step))
   refine codeAny_mono (codeAny_call_builtin (R:=wants (λ r s₂=>r=.none/\Sta W G env loc ((s.heap.objs.size,bI W (yH (λ _=>false) ss) (zU (λ _=>false) 0 ss))::(l,aA vs)::N) s₂) E) F.called_set.init.plain F.entry_set_init (check_set_init_1 hT ?_)) λ r₂ s₂ hr₂=>?_
   ·obtain⟨nl,hol'⟩:=S1.isL (a:=l) (.tail _ (.head _));have hol':(s.heap.push { cls:=.type "set",dict:=none,data:=.set #[] 0 (.fresh 0 0 led) }).get? l=some { cls:=.type "list",dict:=none,data:=.seq vs.toArray nl,slots:=#[] }:=hol';have hsls:=F.sub_list_set;have hslf:=F.sub_list_frozenset;have hne:(Value.type "list"==Value.type "dict")=false:=by decide
    unfold Builtin.«set.__init__» noKeywords Builtin.Frozenset.updateFrom;generalize hPI:pyIter=PI
    wp_walk
    subst hPI;refine S1.iterL (.tail _ (.head _)) λ it s3 S3=>?_;refine Aa (wpAny_runValue ?_);have Y:LY W [(l,aA vs)] it vs [(it,bM l 0)]:=dJ (own₀:=[]) (by simp) _ 0 rfl;have S4:St0 W (G++[]) (((s.heap.objs.size,bI W (λ _=>false) 0)::((env.locals,aI loc)::N))++([(l,aA vs)]++[(it,bM l 0)])) s3:=by
     rw[Aj];refine S3.to0.perm ?_;show List.Perm ((env.locals,aI loc)::(it,bM l 0)::(s.heap.objs.size,bI W (λ _=>false) 0)::(l,aA vs)::N) ((s.heap.objs.size,bI W (λ _=>false) 0)::(env.locals,aI loc)::(N++[(l,aA vs),(it,bM l 0)]));exact(AM (l₁:=[_,_])).trans ((((List.Perm.swap _ _ _).trans (AU (l₁:=[_,_]) (l₂:=N))).cons _).cons _)
    refine uT (sh:=[(l,aA vs)]) (I:=it) vs ss _ _ [(it,bM l 0)] [] _ s3 ht ?hAA Y.yields (by walk_at "o") S4 λ s5 S5=>?_
    case hAA=>exact((hA.le (j:=10) (by walk_at "o")).in1:Aok 9 _).in1
    refine Af ?_;show Ad _ _ (ret Value.none) _ _ _;refine Af ⟨rfl,?_⟩;refine St0.toSta (S5.perm ?_) S.eok;show List.Perm ((s.heap.objs.size,_)::(env.locals,aI loc)::(N++[(l,aA vs)])) ((env.locals,aI loc)::(s.heap.objs.size,_)::(l,aA vs)::N);exact(List.Perm.swap ..).trans ((AU (l₁:=N) (l₂:=[(l,aA vs)])).cons _ |>.cons _)
   ·cases r₂ with
    | error e=>exact hr₂
    | ok fl₂=>
     cases fl₂ with
     | ret r=>
      obtain⟨rfl,S5⟩:=hr₂
      repeat (any_goals (first | assumption | wp_step))
      exact h _ _ S5
     | _=>exact hr₂.elim
  | _=>exact hr.elim
noncomputable def dD(ty:String)(x:Str)(t:Tok)(i:Nat):Cell:=λ o=>o.cls=.type ty/\o.data=.fields #[.str x t,.int i 0]
noncomputable def xO(ty:String):Prop:=ty="str_ascii_iterator"\/ty="str_iterator"
theorem pR{ty:String}(h:xO ty){x:Str}{t:Tok}{i:Nat}:∀ o,dD ty x t i o->cP o=true:=λ o ho=>by
 unfold cP;rw[ho.1];rcases h with rfl | rfl<;>decide
theorem uG{W:Wd}{sh:Lg}{it:Addr}{ty:String}(hty:xO ty){x:Str}{t:Tok}:∀(cs:List Nat) (i:Nat),x.cps.toList.drop i=cs->YdR W sh it (λ(c:Nat) v=>∃ u,v=.str ⟨#[c]⟩ u) cs [(it,dD ty x t i)] []:=by
 intro l0
 induction l0 with
 | nil=>
  intro i e;exact⟨⟨dD ty x t i,by simp,pR hty⟩,λ A R GR s Q E hA S hQ=>by
  have D0:Led W.B ((R++sh)++((it,dD ty x t i)::[])) s.heap:=by rw[Ai];exact S.led
  obtain⟨o,ho,hc,hd⟩:=D0.get (a:=it) (c:=dD ty x t i) (by simp);have hx:x.cps[i]?=none:=by
   rw[←Array.getElem?_toList,List.getElem?_eq_none_iff];exact List.drop_eq_nil_iff.mp e
  have fin:∀ h',Heap.ExtBut it s.heap h'->Q none { s with heap:=h' }:=λ h' hx=>hQ _ ⟨S.ok,(D0.dropBack λ b o hb e=>hx b o hb e).sub (AO _ _),S.bare,S.os,λ p hp=>S.gens p (by simpa using hp),by simpa using S.gnd⟩;rcases hty with rfl | rfl
  ·exact wpAny_pyNext_ascii_end hA.handled ⟨o,ho,hc,hd⟩ hx fin
  ·exact wpAny_pyNext_wide_end hA.handled ⟨o,ho,hc,hd⟩ hx fin⟩
 | cons c cs ih=>
  intro i e;refine⟨⟨dD ty x t i,by simp,pR hty⟩,?_⟩;intro A R GR s Q E hA S hQ;have D0:Led W.B ((R++sh)++((it,dD ty x t i)::[])) s.heap:=by rw[Ai];exact S.led
  obtain⟨o,ho,hc,hd⟩:=D0.get (a:=it) (c:=dD ty x t i) (by simp);have hx:x.cps[i]?=some c:=by
   have:=congrArg List.head? e;simpa[List.head?_drop]using this
  have e':x.cps.toList.drop (i+1)=cs:=by
   have:=congrArg List.tail e;simpa[List.tail_drop]using this
  have go:∀ h',h'.IsStrIter it ty x t (i+1)->Heap.SameBut it s.heap h'->Q (some (.str ⟨#[c]⟩ s.toks)) { s with heap:=h',toks:=s.toks+1 }:=λ h' hit hs=>by
   obtain⟨o',ho',hc',hd'⟩:=hit;have D1:=D0.back (c':=dD ty x t (i+1)) (λ b o hb e=>(hs.2 b hb).trans e) ho' ⟨hc',hd'⟩;rw[Ai]at D1;exact hQ _ _ [] _ ⟨_,rfl⟩ ⟨S.ok,D1,S.bare,S.os,S.gens,S.gnd⟩ (ih (i+1) e')
  rcases hty with rfl | rfl
  ·exact wpAny_pyNext_ascii_item ⟨o,ho,hc,hd⟩ hx go
  ·exact wpAny_pyNext_wide_item ⟨o,ho,hc,hd⟩ hx go
theorem zW{W:Wd}{it:Addr}{ty:String}(hty:xO ty){x:Str}{t:Tok}{i:Nat}:oR W it (dD ty x t i):=λ A s Q E o ho hc h=>by
 rcases hty with rfl | rfl
 ·exact wpAny_pyIter_striter_ascii ⟨o,ho,hc.1,hc.2⟩ h
 ·exact wpAny_pyIter_striter_wide ⟨o,ho,hc.1,hc.2⟩ h
section
variable {W:Wd}{sh:Lg}{env:Env}{A:AJ}{R:Result->Ac->Prop}{it:Addr}{elt target iter c:Expr}{scope:Scope}{pos:Pos}{acc:Value}
end
theorem Sta.iterStr{x:Str}{t:Tok}{Q:Value->Ac->Prop}(S:Sta W G env loc nw s)(h:∀ it ty s',xO ty->Sta W G env loc ((it,dD ty x t 0)::nw) s'->Q (.ref it) s'):Ad W.M A (pyIter (.str x t)) Q E s:=by
 cases ha:x.cps.all (·<128)
 ·exact wpAny_pyIter_wide ha (h _ _ _ (.inr rfl) (S.new (c:=dD "str_iterator" x t 0) rfl ⟨rfl,rfl⟩ s.toks))
 ·exact wpAny_pyIter_ascii ha (h _ _ _ (.inl rfl) (S.new (c:=dD "str_ascii_iterator" x t 0) rfl ⟨rfl,rfl⟩ s.toks))
theorem Sta.addLL{l b:Addr}{xs ys:List Value}{Q:Value->Ac->Prop}(S:Sta W G env loc nw s)(m1:(l,aA xs)∈nw)(m2:(b,aA ys)∈nw)(hz:xs.length+ys.length<=Au)(h:∀ a s',Sta W G env loc ((a,aA (xs++ys))::nw) s'->Q (.ref a) s'):Ad W.M A (binaryOp .Add (.ref l) (.ref b)) Q E s:=by
 obtain⟨n1,h1⟩:=S.isL m1;obtain⟨n2,h2⟩:=S.isL m2;have e:xs.toArray++ys.toArray=(xs++ys).toArray:=by simp
 refine concat_meets ⟨_,h1,rfl⟩ ⟨_,h2,rfl⟩ noFill_list_add seq_list_add PySem.F.slot_list_add PySem.F.entry_list_add (PySem.F.args_list_add_2 _ _) (list_addW l b xs.toArray ys.toArray n1 n2 none none #[] #[] (by simpa using hz)) ⟨h1,h2,?_⟩;rw[e];exact h _ _ (S.new (c:=aA (xs++ys)) rfl ⟨0,rfl⟩ s.toks)
theorem Sta.extendL{l b:Addr}{xs ys:List Value}{Q:Value->Ac->Prop}(S:Sta W G env loc nw s)(U:Upd l (aA xs) (aA (xs++ys)) nw nw')(m2:(b,aA ys)∈nw)(hz:xs.length+ys.length<=Au)(h:∀ s',Sta W G env loc nw' s'->Q .none s'):Ad W.M A (call (.builtin "list.extend") [.ref l,.ref b]) Q E s:=by
 obtain⟨n1,h1⟩:=S.isL U.mem;obtain⟨n2,h2⟩:=S.isL m2;refine call_meets F.slot_list_extend ⟨_,h1,rfl⟩ F.entry_list_extend (F.args_list_extend_2 _ _) (AutoSeq1.list_extend_list_list_0 l xs.toArray n1 b ys.toArray n2 ?_ (by simp;walk_at "o") (by simp;walk_at "o")) ⟨h1,h2,h _ (S.setL h1 _ (by simp) U _)⟩;simp[Builtin.List.listTooLong];intro _;exact hz
theorem vI:∀(kvs acc:List (Str×Value)),((acc++kvs).map (·.1)).Nodup->merged acc kvs=acc++kvs:=by
 intro l0
 induction l0 with
 | nil=>
  intro acc _;simp[merged]
 | cons p0 r ih=>
  obtain⟨x,v⟩:=p0;intro acc h;have hx:x∉acc.map (·.1):=by
   rw[Ao,Bq]at h;intro m;exact h.2.2 x m x (by simp) rfl
  have e:merged acc ((x,v)::r)=merged (stored acc x v) r:=by simp[merged]
  rw[e,iN hx,ih (acc++[(x,v)]) (by simpa using h)];simp
section
variable {M:Model}{A:AJ}{E:Value->Ac->Prop}{s:Ac}{env:Env}{prog:Program}{w:World}
theorem yM{pos:Pos}{Q:List (Value×Value)->Ac->Prop}(h:Q [] s):Ad (model prog w) A (evalPairs (pairTrees [] [] env pos)) Q E s:=evalPairs_nil h
theorem vC{k v:Expr}{ks:List (Option Expr)}{vs:List Expr}{pos:Pos}{Q:List (Value×Value)->Ac->Prop}(h:Ad (model prog w) A (eval k env) (λ kv s₁=>Ad (model prog w) A (eval v env) (λ vv s₂=>Ad (model prog w) A (evalPairs (pairTrees ks vs env pos)) (λ r s₃=>Q ((kv,vv)::r) s₃) E s₂) E s₁) E s):Ad (model prog w) A (evalPairs (pairTrees (some k::ks) (v::vs) env pos)) Q E s:=by
 show Ad _ _ (evalPairs ((eval k env,do let x ← eval v env;standAt pos;pure x)::pairTrees ks vs env pos)) _ _ _;refine evalPairs_cons (As h (λ kv s₁ h₁=>?_) λ _ _ e=>e);exact Aa (As h₁ (λ vv s₂ h₂=>Aa (AP (Af h₂))) λ _ _ e=>e)
end
noncomputable def DLit(W:Wd)(env:Env)(Q:Value->Ac->Prop)(d:Addr)(vs:List (Value×Value))(s:Ac):Prop:=
 ∃ G loc nw nw' kvs,Sta W G env loc nw s/\Carries (PySem.strKind W.prog W.w) vs kvs/\(kvs.map (·.1)).Nodup/\kvs.length<=100/\Upd d (IsD W d []) (IsD W d kvs) nw nw'/\∀ s',Sta W G env loc nw' s'->Q (.ref d) s'
theorem Sta.dictLit{keys:List (Option Expr)}{values:List Expr}{pos:Pos}{Q:Value->Ac->Prop}(hall:keys.all (·.isSome)=true)(hl:keys.length=values.length)(h0:keys≠[])(hlen:keys.length<=15)(S:Sta W G env loc nw s)(h:∀ d s',Sta W G env loc ((d,IsD W d [])::nw) s'->Ad W.M A (evalPairs (pairTrees keys values env pos)) (λ vs s₁=>DLit W env Q d vs s₁) E s'):Ad W.M A (eval (.Dict keys values pos) env) Q E s:=by
 refine wpAny_Dict_any hall hl h0 hlen ?_;refine As (h _ _ (S.new (c:=IsD W s.heap.objs.size []) rfl (kQ S.size_mods) s.toks)) (λ vs s₁ h₁=>?_) λ _ _ e=>e;obtain⟨G',loc',nw1,nw2,kvs,h₁⟩:=h₁;obtain⟨S1,hc,hnd,hk,U,k⟩:=h₁;obtain⟨hd,hn⟩:=S1.dictAt U.mem;refine wpAny_storeAll vs kvs [] s₁ _ hc hd (by rw[Av];simp;walk_at "o") λ h' hm hs=>?_;rw[vI kvs [] (by simpa using hnd)]at hm;obtain⟨o,ho,hdo⟩:=Heap.dictOf_iff.mp hm;exact k _ (S1.set U (λ b o hb e=>(hs.2 b hb).trans e) ho ⟨by simpa using hn,by simpa using hdo⟩ _)
theorem DLit.mk{d:Addr}{vs:List (Value×Value)}{Q:Value->Ac->Prop}(kvs:List (Str×Value))(S:Sta W G env loc nw s)(hc:Carries (PySem.strKind W.prog W.w) vs kvs)(hnd:(kvs.map (·.1)).Nodup)(hk:kvs.length<=100)(U:Upd d (IsD W d []) (IsD W d kvs) nw nw')(h:∀ s',Sta W G env loc nw' s'->Q (.ref d) s'):DLit W env Q d vs s:=⟨_,_,_,_,kvs,S,hc,hnd,hk,U,h⟩
theorem yS:Str.empty.length=0:=rfl
section
variable {M:Model}{s:Ac}{A:AJ}{E:Value->Ac->Prop}{x:Str}{t:Tok}{Q:Value×List Value->Ac->Prop}
theorem dW(h:Q (.builtin "str.join",[.str x t]) s):GetM M A E "join" (.str x t) Q s:=jW (name:="join") (id:="str.join") F.slot_str_join F.type_str_join h
theorem tO(h:Q (.builtin "str.split",[.str x t]) s):GetM M A E "split" (.str x t) Q s:=jW (name:="split") (id:="str.split") F.slot_str_split F.type_str_split h
theorem pH(h:Q (.builtin "str.replace",[.str x t]) s):GetM M A E "replace" (.str x t) Q s:=jW (name:="replace") (id:="str.replace") F.slot_str_replace F.type_str_replace h
end
theorem eF{a:Addr}{c:Cell}:∀{l:Lg},(a,c)∈l->Upd a c c l l
 | p::l,h=>by
  by_cases e:p=(a,c)
  ·subst e;exact .head
  ·rcases At.mp h with h | h
   ·exact absurd h.symm e
   ·exact .tail (eF h)
theorem Upd.app{a:Addr}{c c':Cell}{l l':Lg}(h:Upd a c c' l l')(R:Lg):Upd a c c' (l++R) (l'++R):=by
 induction h with
 | head=>exact .head
 | tail h ih=>exact .tail ih
theorem TxA.unsnoc{vs:List Value}{ss:List Str}{x:Str}(h:TxA vs (ss++[x])):∃ vs' t,vs=vs'++[.str x t]/\TxA vs' ss:=by
 induction ss generalizing vs with
 | nil=>cases h with | cons n t h=>cases h;exact⟨[],t,rfl,.nil⟩
 | cons m r ih=>
  cases h with
  | cons m u h=>
   obtain⟨vs',t,e,k⟩:=ih h;exact⟨.str m u::vs',t,by rw[e];rfl,.cons m u k⟩
theorem TxA.at?{vs:List Value}{ss:List Str}(h:TxA vs ss){j:Nat}{x:Str}(hx:ss[j]?=some x):∃ t,vs[j]?=some (.str x t):=by
 obtain⟨hj,rfl⟩:=List.getElem?_eq_some_iff.mp hx;exact h.at' j hj
theorem TxA.set{vs:List Value}{ss:List Str}(h:TxA vs ss):∀(j:Nat) (x:Str) (t:Tok),TxA (vs.set j (.str x t)) (ss.set j x):=by
 induction h with
 | nil=>intro k n t;exact .nil
 | cons m u h ih=>
  intro k n t;cases k with
  | zero=>exact .cons n t h
  | succ k=>exact .cons m u (ih k n t)
theorem Sta.lenT{a:Addr}{ss:List Str}{Q:Value->Ac->Prop}(S:Sta W G env loc nw s)(m:(a,aB ss)∈nw)(hz:ss.length<=Au)(h:∀ t s',Sta W G env loc nw s'->Q (.int ss.length t) s'):Ad W.M A (call (.builtin "len") [.ref a]) Q E s:=by
 obtain⟨vs,ht,hl⟩:=S.txts m;have hlen:=ht.length;have q:=h (s.toks+1) _ (S.toks (s.toks+1+1));refine len_list hl ?_ ?_
 ·rw[Av]at hz;simp[hlen];walk_at "o"
 ·simpa[hlen]using q
theorem Sta.popT{a:Addr}{ss:List Str}{x:Str}{Q:Value->Ac->Prop}(S:Sta W G env loc nw s)(U:Upd a (aB (ss++[x])) (aB ss) nw nw')(hz:ss.length<Au)(h:∀ t s',Sta W G env loc nw' s'->Q (.str x t) s'):Ad W.M A (call (.builtin "list.pop") [.ref a]) Q E s:=by
 obtain⟨vs,nw1,ht,U1,U2,S1⟩:=S.openT U;obtain⟨vs',t,rfl,ht'⟩:=ht.unsnoc;obtain⟨nw2,U3,U4⟩:=U2.via2 (aA vs');exact S1.pop U3 (by rw[ht'.length];exact hz) λ s' S2=>h t _ (S2.tell U4 λ o _ ho=>⟨_,ht',ho⟩)
theorem Sta.subT{a:Addr}{ss:List Str}{k:Int}{j:Nat}{t:Tok}{x:Str}{Q:Value->Ac->Prop}(S:Sta W G env loc nw s)(m:(a,aB ss)∈nw)(hk:k=(j:Int))(hj:j<1000000)(hx:ss[j]?=some x)(h:∀ t,Q (.str x t) s):SubscriptOn W.M A (.ref a) (.int k t) Q E s:=by
 obtain⟨vs,nw1,ht,U1,U2,S1⟩:=S.openT (eF m);obtain⟨u,hu⟩:=ht.at? hx;exact S1.sub_list U2.mem (by walk_at "o") (by walk_at "o") (by rw[hk];simpa using hu) (h u)
theorem Sta.subT_last{a:Addr}{ss:List Str}{t:Tok}{x:Str}{Q:Value->Ac->Prop}(S:Sta W G env loc nw s)(m:(a,aB (ss++[x]))∈nw)(h:∀ t,Q (.str x t) s):SubscriptOn W.M A (.ref a) (.int (-1) t) Q E s:=by
 obtain⟨vs,nw1,ht,U1,U2,S1⟩:=S.openT (eF m);obtain⟨vs',u,rfl,ht'⟩:=ht.unsnoc;exact S1.sub_last U2.mem (by simp) (h u)
theorem Sta.setItemT{a:Addr}{ss:List Str}{k:Int}{j:Nat}{t u:Tok}{x:Str}{Q:Unit->Ac->Prop}(S:Sta W G env loc nw s)(U:Upd a (aB ss) (aB (ss.set j x)) nw nw')(hk:k=(j:Int))(hj:j<1000000)(hl:j<ss.length)(h:∀ s',Sta W G env loc nw' s'->Q () s'):Ad W.M A (PySem.setItem (.ref a) (.int k t) (.str x u)) Q E s:=by
 obtain⟨vs,nw1,ht,U1,U2,S1⟩:=S.openT U;have e:k.toNat=j:=by walk_at "o"
 obtain⟨nw2,U3,U4⟩:=U2.via2 (aA (vs.set k.toNat (.str x u)));exact S1.setItem U3 (by walk_at "o") (by walk_at "o") (by rw[e,ht.length];exact hl) λ s' S2=>h _ (S2.tell U4 λ o _ ho=>⟨_,by rw[e];exact ht.set j x u,ho⟩)
theorem lG{l:Addr}{ss:List Str}{k:Int}{j:Nat}{t:Tok}{Q:Value->Ac->Prop}(S:Sta W G env loc nw s)(m:(l,aB ss)∈nw)(hz:ss.length<=Au)(hk:k=(j:Int))(h:∀ a s',Sta W G env loc ((a,aB (ss.drop j))::nw) s'->Q (.ref a) s'):wK W env Q (.ref l) (.int k t) .none s:=by
 obtain⟨vs,nw1,ht,U1,U2,S1⟩:=S.openT (eF m);refine⟨G,loc,nw1,l,vs,some k,none,S1,rfl,U2.mem,by rw[ht.length];exact hz,.int _ _,.none,λ a s' S2=>?_⟩;rw[hk,nB]at S2;have S3:=S2.tell (.tail U2) λ o _ ho=>⟨_,ht,ho⟩
 exact h a s' (S3.tell .head λ o _ ho=>⟨_,ht.drop j,ho⟩)
noncomputable def Pl{α:Type}(p:α)(L L':List α):Prop:=L.Perm (p::L')
noncomputable def Ps{α:Type}(A L L':List α):Prop:=L.Perm (A++L')
section
variable {α:Type}{p q x:α}{A B C L L' L2 R r r':List α}
theorem nH:Pl p (p::r) r:=List.Perm.refl _
theorem cL(h:Pl p r r'):Pl p (q::r) (q::r'):=(List.Perm.cons q h).trans (List.Perm.swap ..)
theorem aAh(h:Pl p r r'):Pl p (A++r) (A++r'):=(List.Perm.append_left A h).trans AM
theorem pl_c(h:Pl p (x::(A++B)) L'):Pl p ((x::A)++B) L':=h
theorem pl_n(h:Pl p B L'):Pl p ([]++B) L':=h
theorem pl_s(h:Pl p (A++(B++C)) L'):Pl p ((A++B)++C) L':=by unfold Pl at h ⊢;rw[Ai];exact h
theorem aDo:Ps A (A++r) r:=List.Perm.refl _
theorem ps_e:Ps A A []:=by unfold Ps;rw[Aj]
theorem qX(h:Ps A r r'):Ps A (q::r) (q::r'):=(List.Perm.cons q h).trans AM.symm
theorem aBw(h:Ps A r r'):Ps A (B++r) (B++r'):=by
 unfold Ps at h ⊢;refine(List.Perm.append_left B h).trans ?_;rw[←Ai,←Ai];exact List.Perm.append_right r' AU
theorem ps_c(h:Ps A (x::(C++B)) L'):Ps A ((x::C)++B) L':=h
theorem ps_n(h:Ps A B L'):Ps A ([]++B) L':=h
theorem ps_s(h:Ps L (A++(B++C)) L'):Ps L ((A++B)++C) L':=by unfold Ps at h ⊢;rw[Ai];exact h
theorem aDq(h:Pl p L L')(k:L'.Perm R):L.Perm (p::R):=h.trans (List.Perm.cons p k)
theorem aDp(h:Ps A L L')(k:L'.Perm R):L.Perm (A++R):=h.trans (List.Perm.append_left A k)
theorem pE(k:L.Perm R):(p::L).Perm (p::R):=List.Perm.cons p k
theorem aAg(k:L.Perm R):(A++L).Perm (A++R):=List.Perm.append_left A k
theorem aCC(k:(x::(A++B)).Perm R):((x::A)++B).Perm R:=k
theorem aCB(k:L.Perm (x::(A++B))):L.Perm ((x::A)++B):=k
theorem aCy(k:B.Perm R):([]++B).Perm R:=k
theorem aCx(k:L.Perm B):L.Perm ([]++B):=k
theorem aCw(k:(A++(B++C)).Perm R):((A++B)++C).Perm R:=by rw[Ai];exact k
theorem aCv(k:L.Perm (A++(B++C))):L.Perm ((A++B)++C):=by rw[Ai];exact k
theorem aCA(k:A.Perm R):(A++[]).Perm R:=by rw[Aj];exact k
theorem aCz(k:L.Perm A):L.Perm (A++[]):=by rw[Aj];exact k
end
noncomputable def aZ(ns:List Int):Cell:=λ o=>∃ vs,IntsAre vs ns/\aA vs o
theorem Sta.openI{a:Addr}{ns:List Int}{c':Cell}(S:Sta W G env loc nw s)(U:Upd a (aZ ns) c' nw nw'):∃ vs nw1,IntsAre vs ns/\Upd a (aZ ns) (aA vs) nw nw1/\Upd a (aA vs) c' nw1 nw'/\Sta W G env loc nw1 s:=by
 obtain⟨o,ho,q0⟩:=S.get U.mem;obtain⟨vs,ht,hc⟩:=q0;obtain⟨nw1,U1,U2⟩:=U.via2 (aA vs);exact⟨vs,nw1,ht,U1,U2,S.tell U1 λ o' ho' _=>by rw[ho]at ho';cases ho';exact hc⟩
theorem IntsAre.at?{vs:List Value}{ns:List Int}(h:IntsAre vs ns){j:Nat}{x:Int}(hx:ns[j]?=some x):∃ t,vs[j]?=some (.int x t):=by
 obtain⟨hj,rfl⟩:=List.getElem?_eq_some_iff.mp hx;exact Mine.IntsAre.getAt h j hj
theorem Sta.subI{a:Addr}{ns:List Int}{k:Int}{j:Nat}{t:Tok}{x:Int}{Q:Value->Ac->Prop}(S:Sta W G env loc nw s)(m:(a,aZ ns)∈nw)(hk:k=(j:Int))(hj:j<1000000)(hx:ns[j]?=some x)(h:∀ t,Q (.int x t) s):SubscriptOn W.M A (.ref a) (.int k t) Q E s:=by
 obtain⟨vs,nw1,ht,U1,U2,S1⟩:=S.openI (eF m);obtain⟨u,hu⟩:=Mine.IntsAre.at? ht hx;exact S1.sub_list U2.mem (by walk_at "o") (by walk_at "o") (by rw[hk];simpa using hu) (h u)
end Mine
section
namespace Mine
theorem Sta.pl{W:Wd}{G:Gens}{env:Env}{loc:Loc}{nw nw':Lg}{s:Ac}{p:Addr×Cell}(S:Sta W G env loc nw s)(h:Pl p nw nw'):Sta W G env loc (p::nw') s:=S.perm h
theorem ClA.cons'{env:Env}{x:Str}{xs:List Str}:∀{cs:List Addr},ClA env (x::xs) cs->∃ c r,cs=c::r/\ClO env .cell x c/\ClA env xs r:=by
 intro cs h;cases cs with
 | nil=>exact h.elim
 | cons c r=>exact⟨c,r,rfl,h.1,h.2⟩
theorem ClA.nil'{env:Env}{cs:List Addr}(h:ClA env [] cs):cs=[]:=by
 cases cs with
 | nil=>rfl
 | cons c r=>exact h.elim
theorem ClA.one{env:Env}{x:Str}{cs:List Addr}(h:ClA env [x] cs):∃ c,cs=[c]/\ClO env .cell x c:=by
 obtain⟨c,r,rfl,h1,h2⟩:=h.cons';rw[h2.nil'];exact⟨c,rfl,h1⟩
theorem ClA.two{env:Env}{x y:Str}{cs:List Addr}(h:ClA env [x,y] cs):∃ c d,cs=[c,d]/\ClO env .cell x c/\ClO env .cell y d:=by
 obtain⟨c,r,rfl,h1,h2⟩:=h.cons';obtain⟨d,rfl,h3⟩:=h2.one;exact⟨c,d,rfl,h1,h3⟩
theorem ClA.three{env:Env}{x y z:Str}{cs:List Addr}(h:ClA env [x,y,z] cs):∃ c d e,cs=[c,d,e]/\ClO env .cell x c/\ClO env .cell y d/\ClO env .cell z e:=by
 obtain⟨c,r,rfl,h1,h2⟩:=h.cons';obtain⟨d,e,rfl,h3,h4⟩:=h2.two;exact⟨c,d,e,rfl,h1,h3,h4⟩
section
variable {α:Type}
theorem mem1{a x0:α}{l:List α}:a∈x0::a::l:=(.tail _ (.head _))
theorem mem2{a x0 x1:α}{l:List α}:a∈x0::x1::a::l:=(.tail _ (.tail _ (.head _)))
theorem mem3{a x0 x1 x2:α}{l:List α}:a∈x0::x1::x2::a::l:=(.tail _ (.tail _ (.tail _ (.head _))))
theorem mem4{a x0 x1 x2 x3:α}{l:List α}:a∈x0::x1::x2::x3::a::l:=(.tail _ (.tail _ (.tail _ (.tail _ (.head _)))))
theorem mem5{a x0 x1 x2 x3 x4:α}{l:List α}:a∈x0::x1::x2::x3::x4::a::l:=(.tail _ (.tail _ (.tail _ (.tail _ (.tail _ (.head _))))))
theorem mem6{a x0 x1 x2 x3 x4 x5:α}{l:List α}:a∈x0::x1::x2::x3::x4::x5::a::l:=(.tail _ (.tail _ (.tail _ (.tail _ (.tail _ (.tail _ (.head _)))))))
theorem mem7{a x0 x1 x2 x3 x4 x5 x6:α}{l:List α}:a∈x0::x1::x2::x3::x4::x5::x6::a::l:=(.tail _ (.tail _ (.tail _ (.tail _ (.tail _ (.tail _ (.tail _ (.head _))))))))
theorem memS{a x0 x1 x2 x3 x4 x5 x6 x7:α}{l:List α}(h:a∈l):a∈x0::x1::x2::x3::x4::x5::x6::x7::l:=(.tail _ (.tail _ (.tail _ (.tail _ (.tail _ (.tail _ (.tail _ (.tail _ h))))))))
theorem pull1{p x0:α}{r:List α}:Pull p (x0::p::r) (x0::r):=(.tail .head)
theorem pull2{p x0 x1:α}{r:List α}:Pull p (x0::x1::p::r) (x0::x1::r):=(.tail (.tail .head))
theorem pull3{p x0 x1 x2:α}{r:List α}:Pull p (x0::x1::x2::p::r) (x0::x1::x2::r):=(.tail (.tail (.tail .head)))
theorem pull4{p x0 x1 x2 x3:α}{r:List α}:Pull p (x0::x1::x2::x3::p::r) (x0::x1::x2::x3::r):=(.tail (.tail (.tail (.tail .head))))
theorem pull5{p x0 x1 x2 x3 x4:α}{r:List α}:Pull p (x0::x1::x2::x3::x4::p::r) (x0::x1::x2::x3::x4::r):=(.tail (.tail (.tail (.tail (.tail .head)))))
theorem pull6{p x0 x1 x2 x3 x4 x5:α}{r:List α}:Pull p (x0::x1::x2::x3::x4::x5::p::r) (x0::x1::x2::x3::x4::x5::r):=(.tail (.tail (.tail (.tail (.tail (.tail .head))))))
theorem pull7{p x0 x1 x2 x3 x4 x5 x6:α}{r:List α}:Pull p (x0::x1::x2::x3::x4::x5::x6::p::r) (x0::x1::x2::x3::x4::x5::x6::r):=(.tail (.tail (.tail (.tail (.tail (.tail (.tail .head)))))))
theorem pullS{p x0 x1 x2 x3 x4 x5 x6 x7:α}{r r':List α}(h:Pull p r r'):Pull p (x0::x1::x2::x3::x4::x5::x6::x7::r) (x0::x1::x2::x3::x4::x5::x6::x7::r'):=(.tail (.tail (.tail (.tail (.tail (.tail (.tail (.tail h))))))))
theorem pl1{p x0:α}{r:List α}:Pl p (x0::p::r) (x0::r):=(cL nH)
theorem pl2{p x0 x1:α}{r:List α}:Pl p (x0::x1::p::r) (x0::x1::r):=(cL (cL nH))
theorem pl3{p x0 x1 x2:α}{r:List α}:Pl p (x0::x1::x2::p::r) (x0::x1::x2::r):=(cL (cL (cL nH)))
theorem pl4{p x0 x1 x2 x3:α}{r:List α}:Pl p (x0::x1::x2::x3::p::r) (x0::x1::x2::x3::r):=(cL (cL (cL (cL nH))))
theorem pl5{p x0 x1 x2 x3 x4:α}{r:List α}:Pl p (x0::x1::x2::x3::x4::p::r) (x0::x1::x2::x3::x4::r):=(cL (cL (cL (cL (cL nH)))))
theorem pl6{p x0 x1 x2 x3 x4 x5:α}{r:List α}:Pl p (x0::x1::x2::x3::x4::x5::p::r) (x0::x1::x2::x3::x4::x5::r):=(cL (cL (cL (cL (cL (cL nH))))))
theorem pl7{p x0 x1 x2 x3 x4 x5 x6:α}{r:List α}:Pl p (x0::x1::x2::x3::x4::x5::x6::p::r) (x0::x1::x2::x3::x4::x5::x6::r):=(cL (cL (cL (cL (cL (cL (cL nH)))))))
theorem plS{p x0 x1 x2 x3:α}{r r':List α}(h:Pl p r r'):Pl p (x0::x1::x2::x3::r) (x0::x1::x2::x3::r'):=(cL (cL (cL (cL h))))
end
theorem put1{x:Str}{u v:Option Value}{x0:Str×Option Value}{r:Loc}:Put x v (x0::(x,u)::r) (x0::(x,v)::r):=(.tail .head)
theorem put2{x:Str}{u v:Option Value}{x0 x1:Str×Option Value}{r:Loc}:Put x v (x0::x1::(x,u)::r) (x0::x1::(x,v)::r):=(.tail (.tail .head))
theorem put3{x:Str}{u v:Option Value}{x0 x1 x2:Str×Option Value}{r:Loc}:Put x v (x0::x1::x2::(x,u)::r) (x0::x1::x2::(x,v)::r):=(.tail (.tail (.tail .head)))
theorem put4{x:Str}{u v:Option Value}{x0 x1 x2 x3:Str×Option Value}{r:Loc}:Put x v (x0::x1::x2::x3::(x,u)::r) (x0::x1::x2::x3::(x,v)::r):=(.tail (.tail (.tail (.tail .head))))
theorem put5{x:Str}{u v:Option Value}{x0 x1 x2 x3 x4:Str×Option Value}{r:Loc}:Put x v (x0::x1::x2::x3::x4::(x,u)::r) (x0::x1::x2::x3::x4::(x,v)::r):=(.tail (.tail (.tail (.tail (.tail .head)))))
theorem put6{x:Str}{u v:Option Value}{x0 x1 x2 x3 x4 x5:Str×Option Value}{r:Loc}:Put x v (x0::x1::x2::x3::x4::x5::(x,u)::r) (x0::x1::x2::x3::x4::x5::(x,v)::r):=(.tail (.tail (.tail (.tail (.tail (.tail .head))))))
theorem put7{x:Str}{u v:Option Value}{x0 x1 x2 x3 x4 x5 x6:Str×Option Value}{r:Loc}:Put x v (x0::x1::x2::x3::x4::x5::x6::(x,u)::r) (x0::x1::x2::x3::x4::x5::x6::(x,v)::r):=(.tail (.tail (.tail (.tail (.tail (.tail (.tail .head)))))))
theorem putS{x:Str}{v:Option Value}{x0 x1 x2 x3 x4 x5 x6 x7:Str×Option Value}{r r':Loc}(h:Put x v r r'):Put x v (x0::x1::x2::x3::x4::x5::x6::x7::r) (x0::x1::x2::x3::x4::x5::x6::x7::r'):=(.tail (.tail (.tail (.tail (.tail (.tail (.tail (.tail h))))))))
theorem upd1{a:Addr}{c c':Cell}{x0:Addr×Cell}{r:Lg}:Upd a c c' (x0::(a,c)::r) (x0::(a,c')::r):=(.tail .head)
theorem upd2{a:Addr}{c c':Cell}{x0 x1:Addr×Cell}{r:Lg}:Upd a c c' (x0::x1::(a,c)::r) (x0::x1::(a,c')::r):=(.tail (.tail .head))
theorem upd3{a:Addr}{c c':Cell}{x0 x1 x2:Addr×Cell}{r:Lg}:Upd a c c' (x0::x1::x2::(a,c)::r) (x0::x1::x2::(a,c')::r):=(.tail (.tail (.tail .head)))
theorem upd4{a:Addr}{c c':Cell}{x0 x1 x2 x3:Addr×Cell}{r:Lg}:Upd a c c' (x0::x1::x2::x3::(a,c)::r) (x0::x1::x2::x3::(a,c')::r):=(.tail (.tail (.tail (.tail .head))))
theorem upd5{a:Addr}{c c':Cell}{x0 x1 x2 x3 x4:Addr×Cell}{r:Lg}:Upd a c c' (x0::x1::x2::x3::x4::(a,c)::r) (x0::x1::x2::x3::x4::(a,c')::r):=(.tail (.tail (.tail (.tail (.tail .head)))))
theorem upd6{a:Addr}{c c':Cell}{x0 x1 x2 x3 x4 x5:Addr×Cell}{r:Lg}:Upd a c c' (x0::x1::x2::x3::x4::x5::(a,c)::r) (x0::x1::x2::x3::x4::x5::(a,c')::r):=(.tail (.tail (.tail (.tail (.tail (.tail .head))))))
theorem upd7{a:Addr}{c c':Cell}{x0 x1 x2 x3 x4 x5 x6:Addr×Cell}{r:Lg}:Upd a c c' (x0::x1::x2::x3::x4::x5::x6::(a,c)::r) (x0::x1::x2::x3::x4::x5::x6::(a,c')::r):=(.tail (.tail (.tail (.tail (.tail (.tail (.tail .head)))))))
theorem updS{a:Addr}{c c':Cell}{x0 x1 x2 x3 x4 x5 x6 x7:Addr×Cell}{r r':Lg}(h:Upd a c c' r r'):Upd a c c' (x0::x1::x2::x3::x4::x5::x6::x7::r) (x0::x1::x2::x3::x4::x5::x6::x7::r'):=(.tail (.tail (.tail (.tail (.tail (.tail (.tail (.tail h))))))))
theorem midS{L L':Lg}{x0 x1 x2 x3:Addr×Cell}{r r':Lg}(h:Mid L L' r r'):Mid L L' (x0::x1::x2::x3::r) (x0::x1::x2::x3::r'):=(.tail (.tail (.tail (.tail h))))
theorem mem8{α:Type}{a x0 x1 x2 x3 x4 x5 x6 x7:α}{l:List α}:a∈x0::x1::x2::x3::x4::x5::x6::x7::a::l:=(.tail _ (.tail _ (.tail _ (.tail _ (.tail _ (.tail _ (.tail _ (.tail _ (.head _)))))))))
theorem mem9{α:Type}{a x0 x1 x2 x3 x4 x5 x6 x7 x8:α}{l:List α}:a∈x0::x1::x2::x3::x4::x5::x6::x7::x8::a::l:=(.tail _ (.tail _ (.tail _ (.tail _ (.tail _ (.tail _ (.tail _ (.tail _ (.tail _ (.head _))))))))))
theorem mem10{α:Type}{a x0 x1 x2 x3 x4 x5 x6 x7 x8 x9:α}{l:List α}:a∈x0::x1::x2::x3::x4::x5::x6::x7::x8::x9::a::l:=(.tail _ (.tail _ (.tail _ (.tail _ (.tail _ (.tail _ (.tail _ (.tail _ (.tail _ (.tail _ (.head _)))))))))))
theorem mem11{α:Type}{a x0 x1 x2 x3 x4 x5 x6 x7 x8 x9 x10:α}{l:List α}:a∈x0::x1::x2::x3::x4::x5::x6::x7::x8::x9::x10::a::l:=(.tail _ (.tail _ (.tail _ (.tail _ (.tail _ (.tail _ (.tail _ (.tail _ (.tail _ (.tail _ (.tail _ (.head _))))))))))))
theorem mem12{α:Type}{a x0 x1 x2 x3 x4 x5 x6 x7 x8 x9 x10 x11:α}{l:List α}:a∈x0::x1::x2::x3::x4::x5::x6::x7::x8::x9::x10::x11::a::l:=(.tail _ (.tail _ (.tail _ (.tail _ (.tail _ (.tail _ (.tail _ (.tail _ (.tail _ (.tail _ (.tail _ (.tail _ (.head _)))))))))))))
theorem mem13{α:Type}{a x0 x1 x2 x3 x4 x5 x6 x7 x8 x9 x10 x11 x12:α}{l:List α}:a∈x0::x1::x2::x3::x4::x5::x6::x7::x8::x9::x10::x11::x12::a::l:=(.tail _ (.tail _ (.tail _ (.tail _ (.tail _ (.tail _ (.tail _ (.tail _ (.tail _ (.tail _ (.tail _ (.tail _ (.tail _ (.head _))))))))))))))
theorem mem14{α:Type}{a x0 x1 x2 x3 x4 x5 x6 x7 x8 x9 x10 x11 x12 x13:α}{l:List α}:a∈x0::x1::x2::x3::x4::x5::x6::x7::x8::x9::x10::x11::x12::x13::a::l:=(.tail _ (.tail _ (.tail _ (.tail _ (.tail _ (.tail _ (.tail _ (.tail _ (.tail _ (.tail _ (.tail _ (.tail _ (.tail _ (.tail _ (.head _)))))))))))))))
theorem mem15{α:Type}{a x0 x1 x2 x3 x4 x5 x6 x7 x8 x9 x10 x11 x12 x13 x14:α}{l:List α}:a∈x0::x1::x2::x3::x4::x5::x6::x7::x8::x9::x10::x11::x12::x13::x14::a::l:=(.tail _ (.tail _ (.tail _ (.tail _ (.tail _ (.tail _ (.tail _ (.tail _ (.tail _ (.tail _ (.tail _ (.tail _ (.tail _ (.tail _ (.tail _ (.head _))))))))))))))))
theorem mem16{α:Type}{a x0 x1 x2 x3 x4 x5 x6 x7 x8 x9 x10 x11 x12 x13 x14 x15:α}{l:List α}:a∈x0::x1::x2::x3::x4::x5::x6::x7::x8::x9::x10::x11::x12::x13::x14::x15::a::l:=(.tail _ (.tail _ (.tail _ (.tail _ (.tail _ (.tail _ (.tail _ (.tail _ (.tail _ (.tail _ (.tail _ (.tail _ (.tail _ (.tail _ (.tail _ (.tail _ (.head _)))))))))))))))))
theorem mem17{α:Type}{a x0 x1 x2 x3 x4 x5 x6 x7 x8 x9 x10 x11 x12 x13 x14 x15 x16:α}{l:List α}:a∈x0::x1::x2::x3::x4::x5::x6::x7::x8::x9::x10::x11::x12::x13::x14::x15::x16::a::l:=(.tail _ (.tail _ (.tail _ (.tail _ (.tail _ (.tail _ (.tail _ (.tail _ (.tail _ (.tail _ (.tail _ (.tail _ (.tail _ (.tail _ (.tail _ (.tail _ (.tail _ (.head _))))))))))))))))))
theorem mem18{α:Type}{a x0 x1 x2 x3 x4 x5 x6 x7 x8 x9 x10 x11 x12 x13 x14 x15 x16 x17:α}{l:List α}:a∈x0::x1::x2::x3::x4::x5::x6::x7::x8::x9::x10::x11::x12::x13::x14::x15::x16::x17::a::l:=(.tail _ (.tail _ (.tail _ (.tail _ (.tail _ (.tail _ (.tail _ (.tail _ (.tail _ (.tail _ (.tail _ (.tail _ (.tail _ (.tail _ (.tail _ (.tail _ (.tail _ (.tail _ (.head _)))))))))))))))))))
theorem cE{W:Wd}{G:Gens}{env:Env}{loc:Loc}{nw:Lg}{s:Ac}{P:Prop}(S:Sta W G env loc nw s)(k:let ℓ:=loc;let M:=nw;Sta W G env ℓ M s->P):P:=k S
end Mine
end
namespace Mine
theorem Sel.rest{L L2:Lg}(J:Lg)(h:L.Perm (L2++J)):Sel L L2:=⟨J,h⟩
theorem aDP{c:Bool}{P Q:Prop}(e:c=false)(h:Q):if c=true then P else Q:=by rw[if_neg (by rw[e];decide)];exact h
theorem Sta.iaddS{x y:Str}{t u:Tok}{Q:Value->Ac->Prop}(S:Sta W G env loc nw s)(hz:x.length+y.length<=Au)(h:∀ t s',Sta W G env loc nw s'->Q (.str (x++y) t) s'):Ad W.M A (inplaceOp .Add (.str x t) (.str y u)) Q E s:=
 PyProof.Rows.iadd_str (λ t' tk=>h t' _ (S.toks tk)) hz
theorem rZ{sh:Lg}{it:Addr}{vs:List Value}{ss:List Str}{own:Lg}{og:Gens}(h:TxA vs ss):cN W sh it vs own og->YdR W sh it (λ(x:Str) v=>∃ t,v=.str x t) ss own og:=by
 induction h generalizing own og with
 | nil=>exact λ H=>H
 | cons n t h ih=>exact λ H=>⟨H.1,λ A R GR s Q E hA S hQ=>H.2 A R GR s Q E hA S λ own' og' s' S' H'=>hQ _ own' og' s' ⟨t,rfl⟩ S' (ih H')⟩
noncomputable def KRun(n:Nat)(lt:Nat->Nat->Bool){α:Type}(P:α->Prop):KasT α->Prop
 | .ret a=>P a
 | .ask i j k=>i<n/\j<n/\KRun n lt P (k (lt i j))
theorem KRun.wp{n:Nat}{lt:Nat->Nat->Bool}{α:Type}{P:α->Prop}{cmp:Nat->Nat->(Bool->Ac->Prop)->Ac->Prop}{s:Ac}(hc:∀ i j,i<n->j<n->∀ C:Bool->Ac->Prop,C (lt i j) s->cmp i j C s){Q:α->Ac->Prop}(hQ:∀ a,P a->Q a s):∀{t:KasT α},KRun n lt P t->t.kasWp cmp Q s
 | .ret a,x=>hQ a x
 | .ask i j k,x=>hc i j x.1 x.2.1 _ (KRun.wp hc hQ x.2.2)
noncomputable def KRunB(n:Nat)(lt:Nat->Nat->Bool){α:Type}(P:α->Bool):KasT α->Bool
 | .ret a=>P a
 | .ask i j k=>decide (i<n)&&decide (j<n)&&KRunB n lt P (k (lt i j))
theorem KRunB.run{n:Nat}{lt lt':Nat->Nat->Bool}(hl:∀ i j,i<n->j<n->lt' i j=lt i j){α:Type}{P:α->Bool}:∀{t:KasT α},KRunB n lt P t=true->KRun n lt' (λ a=>P a=true) t
 | .ret a,x=>x
 | .ask i j k,x=>by
  have x:(decide (i<n)&&decide (j<n)&&KRunB n lt P (k (lt i j)))=true:=x;rw[AK,AK,decide_eq_true_eq,decide_eq_true_eq]at x;refine⟨x.1.1,x.1.2,?_⟩;rw[hl i j x.1.1 x.1.2];exact KRunB.run hl x.2
noncomputable def tabs(k:Nat):Nat->List (List Nat)
 | 0=>[[]]
 | n+1=>(tabs k n).flatMap λ l=>(AY k).map λ x=>x::l
theorem zP(k:Nat):∀ l:List Nat,(∀ x∈l,x<k)->l∈tabs k l.length:=by
 intro l0
 induction l0 with
 | nil=>
  intro _;exact .head _
 | cons x l ih=>
  intro h;exact List.mem_flatMap.mpr ⟨l,ih λ y hy=>h y (.tail _ hy),Ah.mpr ⟨x,Br.mpr (h x (.head _)),rfl⟩⟩
noncomputable def okB(n:Nat)(lt:Nat->Nat->Bool)(p:Array Nat):Bool:=p.toList.isPerm (AY n)&&(AY n).all λ i=>(AY n).all λ j=>!(decide (i<j)&&lt (p.getD j 0) (p.getD i 0))
noncomputable def mV(t:List Nat)(i j:Nat):Bool:=decide (t.getD i 0<t.getD j 0)
theorem zT:([2,3,4].all λ n=>(tabs n n).all λ t=>KRunB n (mV t) (okB n (mV t)) (kas_sort n))=true:=by decide +kernel
theorem fN{p q:Nat->Bool}(h:∀ k,p k=true->q k=true){x:Nat}(hq:q x=true)(hp:p x=false):∀{l:List Nat},x∈l->l.countP p<l.countP q
 | y::l,m=>by
  have hle:l.countP p<=l.countP q:=List.countP_mono_left λ k _=>h k;rw[List.countP_cons,List.countP_cons];rcases At.mp m with rfl | m
  ·rw[hq,hp];simp;walk_at "o"
  ·have:=fN h hq hp m;have hy:(if p y=true then 1 else 0)<=(if q y=true then 1 else 0):=by
    by_cases e:p y=true
    ·rw[if_pos e,if_pos (h y e)];exact AG _
    ·rw[if_neg e];exact AB _
   walk_at "o"
structure Tot {β:Type} (lt:β->β->Bool):Prop where
 irr:∀ a,lt a a=false
 tr:∀ a b c,lt a b=true->lt b c=true->lt a c=true
 tot:∀ a b,lt a b=false->lt b a=false->a=b
theorem nA{β:Type}{lt:β->β->Bool}(T:Tot lt)(f:Nat->β){n:Nat}(h2:2<=n)(h4:n<=4):KRun n (λ i j=>lt (f i) (f j)) (λ p=>Ok n p/\∀ i j,i<j->j<n->lt (f (p.getD j 0)) (f (p.getD i 0))=false) (kas_sort n):=by
 let rk:Nat->Nat:=λ i=>(AY n).countP λ k=>lt (f k) (f i)
 have hrk:∀ i j,i<n->j<n->lt (f i) (f j)=decide (rk i<rk j):=by
  intro i j hi hj;cases h:lt (f i) (f j)with
  | true=>
   refine(decide_eq_true ?_).symm;exact fN (p:=λ k=>lt (f k) (f i)) (q:=λ k=>lt (f k) (f j)) (λ k hk=>T.tr _ _ _ hk h) (x:=i) h (T.irr _) (Br.mpr hi)
  | false=>
   refine(decide_eq_false ?_).symm;have:rk j<=rk i:=List.countP_mono_left λ k _ hk=>by
    cases h':lt (f j) (f i)with
    | true=>exact T.tr _ _ _ hk h'
    | false=>rw [T.tot _ _ h h'];exact hk
   walk_at "o"
 have hlt:∀ i,i<n->rk i<n:=by
  intro i hi;have h1:rk i<(AY n).countP λ _=>true:=fN (λ _ _=>rfl) (x:=i) rfl (T.irr _) (Br.mpr hi);simpa using h1
 let t:List Nat:=(AY n).map rk
 have htl:t.length=n:=by simp[t]
 have hg:∀ i,i<n->t.getD i 0=rk i:=by
  intro i hi;simp[t,List.getD,hi]
 have hm:t∈tabs n n:=by
  have:=zP n t (λ x hx=>by
   obtain⟨i,hi,rfl⟩:=Ah.mp hx;exact hlt i (Br.mp hi))
  rwa[htl]at this
 have hr:KRunB n (mV t) (okB n (mV t)) (kas_sort n)=true:=by
  have h:=zT;rw[Bv]at h;have hn:n∈[2,3,4]:=by
   simp only[At,BG,or_false];walk_at "o"
  have h:=h n hn;rw[Bv]at h;exact h t hm
 have hl:∀ i j,i<n->j<n->lt (f i) (f j)=mV t i j:=by
  intro i j hi hj;unfold mV;rw[hg i hi,hg j hj];exact hrk i j hi hj
 have R:=KRunB.run hl hr;have key:∀ p:Array Nat,okB n (mV t) p=true->Ok n p/\∀ i j,i<j->j<n->lt (f (p.getD j 0)) (f (p.getD i 0))=false:=by
  intro p hp;unfold okB at hp;rw[AK]at hp;have hok:Ok n p:=List.isPerm_iff.mp hp.1;refine⟨hok,λ i j hij hj=>?_⟩;have h:=hp.2;rw[Bv]at h;have h:=h i (Br.mpr (by walk_at "o"));rw[Bv]at h;have h:=h j (Br.mpr hj);rw[decide_eq_true hij,Bool.true_and,Bw]at h;rw[hl _ _ (hok.lt (by walk_at "o") j) (hok.lt (by walk_at "o") i)];exact h
 have mono:∀{α:Type} {P P':α->Prop} (h:∀ a,P a->P' a) {t:KasT α},KRun n (λ i j=>lt (f i) (f j)) P t->KRun n (λ i j=>lt (f i) (f j)) P' t:=by
  intro α P P' h t
  induction t with
  | ret a=>exact h a
  | ask i j k ih=>exact λ x=>⟨x.1,x.2.1,ih _ x.2.2⟩
 exact mono key R
noncomputable def srt{β:Type}(lt:β->β->Bool):List β->List β
 | []=>[]
 | x::r=>ins lt x (srt lt r)
where
 ins (lt:β->β->Bool) (x:β):List β->List β
  | []=>[x]
  | y::r=>if lt y x=true then y::ins lt x r else x::y::r
theorem tL{β:Type}{lt:β->β->Bool}{x y:β}{r:List β}:srt.ins lt x (y::r)=if lt y x=true then y::srt.ins lt x r else x::y::r:=rfl
theorem tK{β:Type}{lt:β->β->Bool}(x:β):∀ l:List β,(srt.ins lt x l).Perm (x::l):=by
 intro l0
 induction l0 with
 | nil=>
  exact .refl _
 | cons y r ih=>
  rw[tL]
  split
  ·exact((ih).cons y).trans (.swap ..)
  ·exact .refl _
theorem cB{β:Type}{lt:β->β->Bool}:∀ l:List β,(srt lt l).Perm l:=by
 intro l0
 induction l0 with
 | nil=>
  exact .refl _
 | cons x r ih=>
  exact(tK x _).trans ((ih).cons x)
theorem aBM{β:Type}{lt:β->β->Bool}(T:Tot lt)(x:β):∀ l:List β,l.Pairwise (λ a b=>lt b a=false)->(srt.ins lt x l).Pairwise (λ a b=>lt b a=false):=by
 intro l0
 induction l0 with
 | nil=>
  intro _;exact List.pairwise_singleton _ _
 | cons y r ih=>
  intro h;rw[BP]at h;rw[tL]
  split
  ·rename_i hyx;rw[BP];refine⟨λ b hb=>?_,ih h.2⟩;rcases At.mp ((tK x r).mem_iff.mp hb)with rfl | hb
   ·cases e:lt b y with
    | false=>rfl
    | true=>have:=T.tr _ _ _ hyx e;rw[T.irr]at this;cases this
   ·exact h.1 b hb
  ·rename_i hyx;have hyx:lt y x=false:=by simpa using hyx
   rw[BP];refine⟨λ b hb=>?_,BP.mpr h⟩;rcases At.mp hb with rfl | hb
   ·exact hyx
   ·cases e:lt b x with
    | false=>rfl
    | true=>
     have h1:=h.1 b hb;cases e2:lt x y with
     | true=>have:=T.tr _ _ _ e e2;rw[this]at h1;cases h1
     | false=>rw [T.tot _ _ hyx e2]at h1;rw[h1]at e;cases e
theorem qP{β:Type}{lt:β->β->Bool}(T:Tot lt):∀ l:List β,(srt lt l).Pairwise (λ a b=>lt b a=false):=by
 intro l0
 induction l0 with
 | nil=>
  exact .nil
 | cons x r ih=>
  exact aBM T x _ (ih)
theorem vE{β:Type}{lt:β->β->Bool}(T:Tot lt):∀{a b:List β},a.Perm b->a.Pairwise (λ x y=>lt y x=false)->b.Pairwise (λ x y=>lt y x=false)->a=b
 | [],b,h,_,_=>by rw[List.nil_perm.mp h]
 | x::a,[],h,_,_=>by have:=h.length_eq;simp at this
 | x::a,y::b,h,ha,hb=>by
  rw[BP]at ha hb;have e:x=y:=by
   have m1:x∈y::b:=h.mem_iff.mp (.head _);have m2:y∈x::a:=h.mem_iff.mpr (.head _);rcases At.mp m1 with e | m1
   ·exact e
   ·rcases At.mp m2 with e | m2
    ·exact e.symm
    ·exact T.tot _ _ (hb.1 x m1) (ha.1 y m2)
  subst e;rw[vE T ((List.perm_cons x).mp h) ha.2 hb.2]
theorem aC7{β:Type}{lt:β->β->Bool}(T:Tot lt){a b:List β}(h:a.Perm b)(ha:a.Pairwise (λ x y=>lt y x=false)):a=srt lt b:=
 vE T (h.trans (cB b).symm) ha (qP T b)
theorem yA{β:Type}{lt:β->β->Bool}(T:Tot lt){a b:List β}(h:a.Perm b):srt lt a=srt lt b:=vE T (((cB a).trans h).trans (cB b).symm) (qP T a) (qP T b)
theorem sH{β:Type}{lt:β->β->Bool}(T:Tot lt){l:List β}{d:β}{p:Array Nat}(hok:Ok l.length p)(ho:∀ i j,i<j->j<l.length->lt (l.getD (p.getD j 0) d) (l.getD (p.getD i 0) d)=false):(p.toList.map λ i=>l.getD i d)=srt lt l:=by
 refine aC7 T ?_ ?_
 ·have q:List.Perm (p.toList.map λ i=>l.getD i d) ((AY l.length).map λ i=>l.getD i d):=hok.map _;have e:(AY l.length).map (λ i=>l.getD i d)=l:=by
   apply List.ext_getElem
   ·simp
   ·intro i h1 h2;simp at h1 ⊢;simp[h2]
  rwa[e]at q
 ·rw[List.pairwise_iff_getElem];intro i j hi hj hij;have hpl:p.toList.length=l.length:=by rw[hok.length_eq];simp
  rw[Al]at hi hj;rw[List.getElem_map,List.getElem_map];have:=ho i j hij (by walk_at "o");have e1:p.getD j 0=p.toList[j]:=by
   have:j<p.size:=by simpa using hj
   simp[Array.getD,this]
  have e2:p.getD i 0=p.toList[i]:=by
   have:i<p.size:=by simpa using hi
   simp[Array.getD,this]
  rwa[e1,e2]at this
noncomputable def ltS(x y:Str):Bool:=decide (x.cps.toList<y.cps.toList)
theorem tot_str:Tot ltS where
 irr a:=decide_eq_false (List.lt_irrefl _)
 tr a b c h1 h2:=decide_eq_true (List.lt_trans (of_decide_eq_true h1) (of_decide_eq_true h2))
 tot a b h1 h2:=by
  have h1:=of_decide_eq_false h1;have h2:=of_decide_eq_false h2;exact Str.ext' (List.le_antisymm (List.not_lt.mp h2) (List.not_lt.mp h1))
theorem tot_ls:Tot nN where
 irr a:=by
  induction a with
  | nil=>rfl
  | cons x r ih=>exact(if_pos rfl).trans ih
 tr a:=by
  induction a with
  | nil=>
   intro b c h1 h2;cases b with
   | nil=>exact h2
   | cons y r=>cases c with
    | nil=>cases h2
    | cons z r=>rfl
  | cons x a ih=>
   intro b c h1 h2;cases b with
   | nil=>cases h1
   | cons y b=>
    cases c with
    | nil=>cases h2
    | cons z c=>
     rw[iA]at h1 h2 ⊢
     by_cases e1:x=y
     ·subst e1;rw[if_pos rfl]at h1
      by_cases e2:x=z
      ·subst e2;rw[if_pos rfl]at h2 ⊢;exact ih b c h1 h2
      ·rw[if_neg e2]at h2 ⊢;exact h2
     ·rw[if_neg e1]at h1
      by_cases e2:y=z
      ·subst e2;rw[if_neg e1];exact h1
      ·rw[if_neg e2]at h2;have h3:=tot_str.tr _ _ _ h1 h2;have e3:x≠z:=λ e=>by subst e;rw[tot_str.irr]at h3;cases h3
       rw[if_neg e3];exact h3
 tot a:=by
  induction a with
  | nil=>intro b h1 h2;cases b with
   | nil=>rfl
   | cons y b=>cases h1
  | cons x a ih=>
   intro b h1 h2;cases b with
   | nil=>cases h2
   | cons y b=>
    rw[iA]at h1 h2
    by_cases e:x=y
    ·subst e;rw[if_pos rfl]at h1 h2;rw[ih b h1 h2]
    ·rw[if_neg e]at h1;rw[if_neg (λ q=>e q.symm)]at h2;exact absurd (tot_str.tot _ _ h1 h2) e
theorem aCY{α γ:Type}[DecidableEq γ]{kp:α->γ}{l1:γ->γ->Bool}{l2:α->α->Bool}(T1:Tot l1)(T2:Tot l2):Tot (λ x y=>if kp x=kp y then l2 x y else l1 (kp x) (kp y)) where
 irr a:=by rw[if_pos rfl];exact T2.irr a
 tr a b c h1 h2:=by
  by_cases e1:kp a=kp b
  ·rw[if_pos e1]at h1
   by_cases e2:kp b=kp c
   ·rw[if_pos e2]at h2;rw[if_pos (e1.trans e2)];exact T2.tr _ _ _ h1 h2
   ·rw[if_neg e2]at h2;rw[e1,if_neg e2];exact h2
  ·rw[if_neg e1]at h1
   by_cases e2:kp b=kp c
   ·rw[←e2,if_neg e1];exact h1
   ·rw[if_neg e2]at h2;have h3:=T1.tr _ _ _ h1 h2;have e3:kp a≠kp c:=λ e=>by rw[e,T1.irr]at h3;cases h3
    rw[if_neg e3];exact h3
 tot a b h1 h2:=by
  by_cases e:kp a=kp b
  ·rw[if_pos e]at h1;rw[if_pos e.symm]at h2;exact T2.tot _ _ h1 h2
  ·rw[if_neg e]at h1;rw[if_neg (λ q=>e q.symm)]at h2;exact absurd (T1.tot _ _ h1 h2) e
noncomputable def lt2(x y:Str×Str):Bool:=if x.1=y.1 then ltS x.2 y.2 else ltS x.1 y.1
theorem tot_2:Tot lt2 where
 irr a:=by unfold lt2;rw[if_pos rfl];exact tot_str.irr _
 tr a b c h1 h2:=by
  unfold lt2 at h1 h2 ⊢
  by_cases e1:a.1=b.1
  ·rw[if_pos e1]at h1
   by_cases e2:b.1=c.1
   ·rw[if_pos e2]at h2;rw[if_pos (e1.trans e2)];exact tot_str.tr _ _ _ h1 h2
   ·rw[if_neg e2]at h2;rw[e1,if_neg e2];exact h2
  ·rw[if_neg e1]at h1
   by_cases e2:b.1=c.1
   ·rw[←e2,if_neg e1];exact h1
   ·rw[if_neg e2]at h2;have h3:=tot_str.tr _ _ _ h1 h2;have e3:a.1≠c.1:=λ e=>by rw[e,tot_str.irr]at h3;cases h3
    rw[if_neg e3];exact h3
 tot a b h1 h2:=by
  unfold lt2 at h1 h2
  by_cases e:a.1=b.1
  ·rw[if_pos e]at h1;rw[if_pos e.symm]at h2;exact Prod.ext e (tot_str.tot _ _ h1 h2)
  ·rw[if_neg e]at h1;rw[if_neg (λ q=>e q.symm)]at h2;exact absurd (tot_str.tot _ _ h1 h2) e
theorem KRun.congr{n:Nat}{lt lt':Nat->Nat->Bool}(hl:∀ i j,i<n->j<n->lt' i j=lt i j){α:Type}{P:α->Prop}:∀{t:KasT α},KRun n lt P t->KRun n lt' P t
 | .ret _,x=>x
 | .ask i j _,x=>⟨x.1,x.2.1,by rw[hl i j x.1 x.2.1];exact KRun.congr hl x.2.2⟩
noncomputable def ltK(kp:Str->List Str)(x y:Str):Bool:=if kp x=kp y then ltS x y else nN (kp x) (kp y)
theorem aCp(kp:Str->List Str):Tot (ltK kp):=aCY tot_ls tot_str
theorem Sta.sortKeyG{l f:Addr}{vs:List Value}{ss:List Str}{kp:Str->List Str}{Rp:Array Nat->Prop}{Q:Value->Ac->Prop}(hok:∀ p,Rp p->Ok ss.length p)(hR:2<=ss.length->KRun ss.length (λ i j=>nN (kp (ss.getD i Str.empty)) (kp (ss.getD j Str.empty))) Rp (kas_sort ss.length))(hR1:ss.length<2->Rp (AY ss.length).toArray)(S:Sta W G env loc ((l,aA vs)::N) s)(ht:TxA vs ss)(hu:A.units+1<cLine)(h64:ss.length<64)(hkey:∀ x t L0 s (Q':Value->Ac->Prop),x∈ss->Sta W G env loc (L0++N) s->(∀ k s',Sta W G env loc ((k,aB (kp x))::(L0++N)) s'->Q' (.ref k) s')->Ad W.M A.in1 (call (.ref f) [.str x t]) Q' (λ _ _=>False) s)(h:∀ p s',Rp p->Sta W G env loc ((l,aB (p.toList.map λ i=>ss.getD i Str.empty))::N) s'->Q .none s'):Ad W.M A (call (.builtin "list.sort") [.ref l] [(Str.ofString "key",.ref f)]) Q E s:=by
 obtain⟨n,hl⟩:=S.isL (.head _);have hlen:=ht.length;refine wpAny_call_entry_kw PyProof.Rows.slot_list_sort ⟨_,hl,rfl⟩ PyProof.Rows.entry_list_sort ?_ (ksk_l1 _ _);rw[ksk_t1];unfold ksk_tree;refine Aa (listItems_at hl rfl ?_);refine Aa (listUpdate_at hl rfl ?_ (by rw[AN,Av];walk_at "o") (AB _));have S1:=S.setL (ys:=[]) hl (λ _=>#[]) rfl .head s.toks;obtain⟨e1,hl1⟩:=S1.isL (.head _);replace S1:=S1.tell (nw':=(l,bZ (seqObj "list" #[] e1))::N) .head λ o ho _=>by rw[hl1]at ho;cases ho;rfl
 refine Aa (seqEpoch_at hl1 rfl ?_);refine Aa (S1.newTuple (by rw[Av];show vs.length<=_;walk_at "o") λ tp s2 S2=>?_);refine Aa (S2.newList (by simp) λ kS s3 S3=>?_);replace S3:=S3.sub (nw':=(kS,aA [])::(l,bZ (seqObj "list" #[] e1))::N) ((AQ _ _).cons_cons _);refine AC ?_;refine Aa (wpAny_rule ?_);rw[←Array.forIn_toList];refine Aa (ksk_fold (I:=λ i s'=>∃ ks:List Addr,ks.length=i/\Sta W G env loc ((kS,aA (ks.map .ref))::(l,bZ (seqObj "list" #[] e1))::(jV kp ks (ss.take i)++N)) s') vs 0 s3 ⟨[],rfl,S3⟩ (λ j x s' hx hI=>?_) (λ s' hI=>?_))
 ·obtain⟨ks,hks,S4⟩:=hI;rw[BA]at hks S4;have hj:j<ss.length:=by
   rw[←hlen];exact(List.getElem?_eq_some_iff.mp hx).1
  obtain⟨t,ex⟩:=ht.at' j hj;replace ex:=(hx)▸ex;cases ex;refine Aa (Bz (As (hkey ss[j] t ((kS,aA (ks.map .ref))::(l,bZ (seqObj "list" #[] e1))::jV kp ks (ss.take j)) s' (λ v s''=>∃ k,v=.ref k/\Sta W G env loc ((k,aB (kp ss[j]))::((kS,aA (ks.map .ref))::(l,bZ (seqObj "list" #[] e1))::(jV kp ks (ss.take j)++N))) s'') (Bb hj) S4 λ k s'' S5=>⟨k,rfl,S5⟩) (λ v s'' hv=>?_) λ _ _ hF=>hF.elim));obtain⟨k,rfl,S5⟩:=hv;obtain⟨n5,hl5⟩:=S5.isL (a:=kS) (.tail _ (.head _));refine Aa (listUpdate_at hl5 rfl ?_ (by rw[AN,Al,Av];walk_at "o") (by show((ks.map Value.ref).toArray.push _).size<=_;simp[Av];walk_at "o"));have S6:=S5.setL (ys:=(ks++[k]).map Value.ref) hl5 (·.push (.ref k)) (by simp) (.tail .head) s''.toks;refine Af ⟨rfl,ks++[k],by simp[hks],S6.perm ?_⟩;rw[BA,List.take_add_one,List.getElem?_eq_getElem hj];show List.Perm ((k,aB (kp ss[j]))::(kS,_)::(l,_)::(jV kp ks (ss.take j)++N)) ((kS,_)::(l,_)::(jV kp (ks++[k]) (ss.take j++[ss[j]])++N));rw[qA kp k _ ks (ss.take j) (by rw[hks,List.length_take];walk_at "o"),Ai];exact(List.Perm.swap ..).trans (((List.Perm.swap ..).trans (AM.symm.cons _)).cons _)
 ·obtain⟨ks,hks,S4⟩:=hI;have etk:ss.take (0+vs.length)=ss:=BH (by walk_at "o");rw[etk]at S4;obtain⟨n4,hl4⟩:=S4.isL (.head _);refine Aa (listItems_at hl4 rfl ?_);unfold ksk_end;simp only[Bool.false_eq_true,if_false]
  have hz:((ks.map Value.ref).toArray.zip vs.toArray).size=vs.length:=by simp[hks]
  -- what is behind the runs
  have hend:∀(st:SortSt) (p:List Nat) (s':Ac),Rp p.toArray->arrOf st=(p.map (kas_item ((ks.map Value.ref).toArray.zip vs.toArray))).toArray->failedOf st=none->
    Sta W G env loc ((kS,aA (ks.map .ref))::(l,bZ (seqObj "list" #[] e1))::(jV kp ks ss++N)) s'->
    Ad W.M A.in1 (ksk_tail l false e1 (.ref kS) st) (λ fin s''=>∃ v,fin=.done (.ret v)/\Q v s'') E s':=by
   intro st p s' hRp harr hf S5;have hp:p.Perm (AY vs.length):=by have:=hok _ hRp;unfold Ok at this;rw[hlen];simpa using this
   unfold ksk_tail;obtain⟨n5,hl5⟩:=S5.isL (.head _);refine Aa (listUpdate_at hl5 rfl ?_ (by rw[AN,Al,Av];walk_at "o") (AB _));have S6:=S5.setL (ys:=[]) hl5 (λ _=>#[]) rfl .head s'.toks;refine Aa (wpAny_letGo ?_);obtain⟨o6,ho6,e6⟩:=S6.get (a:=l) (.tail _ (.head _));subst e6;refine Aa (seqEpoch_at ho6 rfl ?_);have hsz:(arrOf st).size=vs.length:=by rw[harr];simp[hp.length_eq]
   refine Aa (listUpdate_at ho6 rfl ?_ (AB _) (by show((arrOf st).map _).size<=_;rw[Array.size_map,hsz,Av];walk_at "o"));have hvs:(arrOf st).map (·.2)=(p.map λ i=>vs.getD i .none).toArray:=by
    rw[harr];simp only[List.map_toArray,AZ]
    congr 1
    refine List.map_congr_left λ i hi=>?_;have hi2:i<vs.length:=by have:=hp.mem_iff.mp hi;simpa using this
    show(kas_item _ i).2=_;unfold kas_item;have h1:i<((ks.map Value.ref).toArray.zip vs.toArray).size:=by rw[hz];exact hi2
    simp[Array.getD,h1,hi2,hks]
   have S7:Sta W G env loc ((l,aA (p.map λ i=>vs.getD i .none))::N) { s' with heap:=(s'.heap.update kS (Obj.mapSeq λ _=>#[])).update l (Obj.mapSeq λ _=>(arrOf st).map (·.2)) }:=by
    have S6':=S6.tell (nw':=(kS,aA [])::(l,aA [])::(jV kp ks ss++N)) (.tail .head) λ o ho e=>⟨e1,e⟩
    obtain⟨n6,hl6⟩:=S6'.isL (a:=l) (.tail _ (.head _));have S7:=S6'.setL (ys:=p.map λ i=>vs.getD i .none) hl6 (λ _=>(arrOf st).map (·.2)) hvs (.tail .head) s'.toks;exact S7.sub (List.Sublist.cons _ ((List.sublist_append_right _ _).cons_cons _))
   rw[hf];rw[bne_self_eq_false,if_neg Bool.false_ne_true];have hpl:∀ i∈p,i<ss.length:=λ i hi=>by have:=hp.mem_iff.mp hi;rw[←hlen];simpa using this
   exact Af ⟨_,rfl,h p.toArray _ hRp (S7.tell .head λ o ho e=>⟨_,by rw[List.toList_toArray];exact ht.pick p hpl,e⟩)⟩
  by_cases h2:vs.toArray.size<2
  ·rw[if_pos h2,if_pos h2];refine Aa (Af ?_);refine Aa (Af ?_);refine hend _ (AY vs.length) s' (by rw[hlen];exact hR1 (by rw[AN]at h2;walk_at "o")) ?_ rfl S4;have e:=kas_range ((ks.map Value.ref).toArray.zip vs.toArray);rw[hz,List.map_toArray]at e;exact e.symm
  ·rw[if_neg h2,if_neg h2];rw[AN]at h2;refine Aa (kas_kind (T:=.type "list") (by rw[Al];walk_at "o") (λ v hv=>?_) (by decide) (by decide) ?_)
   ·obtain⟨k,hk,rfl⟩:=Ah.mp hv;obtain⟨i,q0⟩:=BN hk;obtain⟨hi,rfl⟩:=q0;have hm:(ks[i],aB (kp (ss[i]'(by walk_at "o"))))∈(kS,aA (ks.map .ref))::(l,bZ (seqObj "list" #[] e1))::(jV kp ks ss++N):=.tail _ (.tail _ (Am _ (nW kp ks ss i hi (by walk_at "o"))));obtain⟨o,ho,q0⟩:=S4.get hm;obtain⟨vk,htk,q0⟩:=q0;obtain⟨nk,rfl⟩:=q0;exact(Looks.ld ho).andThen .now
   have est:SortSt.mk' oneType' ((ks.map Value.ref).toArray.zip vs.toArray) #[] 7 none=kas_st oneType' ((ks.map Value.ref).toArray.zip vs.toArray) (List.toArray (AY vs.length)):=by
    have e:=kas_range ((ks.map Value.ref).toArray.zip vs.toArray);rw[hz]at e;show _=SortSt.mk' oneType' ((List.toArray (AY vs.length)).map (kas_item ((ks.map Value.ref).toArray.zip vs.toArray))) #[] 7 none;rw[e]
   rw[est];have ask:(kas_sort vs.length).kasWp (kas_cmp W.prog W.w A.in1 oneType' ((ks.map Value.ref).toArray.zip vs.toArray)) (λ p s''=>Rp p/\s''=s') s':=by
    have hR':=hR (by walk_at "o");rw[←hlen]at hR';refine KRun.wp (n:=vs.length) (λ i j hi hj=>?_) (λ p hp=>⟨hp,rfl⟩) hR';have mem:∀ i,i<vs.length->∃ k vk nk,kas_item ((ks.map Value.ref).toArray.zip vs.toArray) i=(.ref k,vs.getD i .none)/\TxA vk (kp (ss.getD i Str.empty))/\s'.heap.get? k=some { cls:=.type "list",data:=.seq vk.toArray nk }:=by
     intro i hi;have hm:(ks[i],aB (kp (ss[i]'(by walk_at "o"))))∈(kS,aA (ks.map .ref))::(l,bZ (seqObj "list" #[] e1))::(jV kp ks ss++N):=.tail _ (.tail _ (Am _ (nW kp ks ss i (by walk_at "o") (by walk_at "o"))));obtain⟨o,ho,q0⟩:=S4.get hm;obtain⟨vk,htk,q0⟩:=q0;obtain⟨nk,rfl⟩:=q0;have es:ss.getD i Str.empty=ss[i]'(by walk_at "o"):=by
      have:i<ss.length:=by walk_at "o"
      simp[this]
     rw[es];refine⟨ks[i],vk,nk,?_,htk,ho⟩;unfold kas_item;have h1:i<((ks.map Value.ref).toArray.zip vs.toArray).size:=by rw[hz];exact hi
     simp[Array.getD,h1,hi,hks]
    obtain⟨k1,v1,n1,q1,t1,o1⟩:=mem i hi;obtain⟨k2,v2,n2,q2,t2,o2⟩:=mem j hj;intro C hC;unfold kas_cmp;rw[q1,q2];exact aDL (by show A.units+1<cLine;exact hu) t1 t2 o1 o2 hC
   have run:=kas_runs (E:=E) (Q:=λ _ st' s''=>∃ p:Array Nat,Rp p/\arrOf st'=p.map (kas_item ((ks.map Value.ref).toArray.zip vs.toArray))/\failedOf st'=none/\s''=s') (by walk_at "o") (by walk_at "o") (λ p' st' s'' a1 a2 a3 a4=>⟨p',a4.1,a2,a3,a4.2⟩) ask;refine Aa (As run ?_ λ _ _ e=>e);intro x s'' hx;obtain⟨⟨⟩,st'⟩:=x;obtain⟨p,hp,har,hf,rfl⟩:=hx;refine hend st' p.toList s'' (by rw[Array.toArray_toList];exact hp) ?_ hf S4;rw[har];apply Array.ext';simp
theorem Sta.sortKeyS{l f:Addr}{vs:List Value}{ss:List Str}{kp:Str->List Str}{Q:Value->Ac->Prop}(S:Sta W G env loc ((l,aA vs)::N) s)(ht:TxA vs ss)(hu:A.units+1<cLine)(h4:ss.length<=4)(hinj:∀ x∈ss,∀ y∈ss,kp x=kp y->x=y)(hkey:∀ x t L0 s (Q':Value->Ac->Prop),x∈ss->Sta W G env loc (L0++N) s->(∀ k s',Sta W G env loc ((k,aB (kp x))::(L0++N)) s'->Q' (.ref k) s')->Ad W.M A.in1 (call (.ref f) [.str x t]) Q' (λ _ _=>False) s)(h:∀ s',Sta W G env loc ((l,aB (srt (ltK kp) ss))::N) s'->Q .none s'):Ad W.M A (call (.builtin "list.sort") [.ref l] [(Str.ofString "key",.ref f)]) Q E s:=by
 have T:=aCp kp;have hcon:∀ i j,i<ss.length->j<ss.length->nN (kp (ss.getD i Str.empty)) (kp (ss.getD j Str.empty))=ltK kp (ss.getD i Str.empty) (ss.getD j Str.empty):=by
  intro i j hi hj;unfold ltK
  split
  ·rename_i e;have e2:ss.getD i Str.empty=ss.getD j Str.empty:=hinj _ (by simp[hi]) _ (by simp[hj]) e;rw[e2,tot_str.irr];exact tot_ls.irr _
  ·rfl
 refine Sta.sortKeyG (Rp:=λ p=>Ok ss.length p/\∀ i j,i<j->j<ss.length->ltK kp (ss.getD (p.getD j 0) Str.empty) (ss.getD (p.getD i 0) Str.empty)=false) (λ p hp=>hp.1) (λ h2=>?_) (λ h1=>⟨.refl _,λ i j hij hj=>by walk_at "o"⟩) S ht hu (by walk_at "o") hkey λ p s' hp S'=>?_
 ·exact KRun.congr hcon (nA T (λ i=>ss.getD i Str.empty) h2 h4)
 ·rw[sH T hp.1 hp.2]at S';exact h s' S'
theorem Sta.sortedSetS{a f:Addr}{ss:List Str}{kp:Str->List Str}{Q:Value->Ac->Prop}(S:Sta W G env loc ((a,cZ W ss)::N) s)(hA:Aok 12 A)(h4:ss.length<=4)(hinj:∀ x∈ss,∀ y∈ss,kp x=kp y->x=y)(hkey:∀ x t L0 s (Q':Value->Ac->Prop),x∈ss->Sta W G env loc (L0++((a,cZ W ss)::N)) s->(∀ k s',Sta W G env loc ((k,aB (kp x))::(L0++((a,cZ W ss)::N))) s'->Q' (.ref k) s')->Ad W.M A.in1.in1 (call (.ref f) [.str x t]) Q' (λ _ _=>False) s)(h:∀ l s',Sta W G env loc ((l,aB (srt (ltK kp) ss))::(a,cZ W ss)::N) s'->Q (.ref l) s'):Ad W.M A (call (.builtin "sorted") [.ref a] [(Str.ofString "key",.ref f)]) Q E s:=by
 refine call_function_entry_kw kind_sorted plain_sorted entry_sorted (ksk_s1 _ _) ?_;refine Aa (m:=checkCount "sorted" 1 1 _) (Af ?_);have hA1:Aok 11 A.in1:=hA.in1;refine Aa (S.collectSet (hA1.le (by walk_at "o")) (by walk_at "o") λ vs ss' s1 ht hp S1=>?_);refine Aa (S1.newList (by rw[ht.length,hp.length_eq,Av];walk_at "o") λ l s2 S2=>?_);refine Aa (AC ?_);refine S2.sortKeyS (kp:=kp) ht (by have:=hA1.units;walk_at "o") (by rw[hp.length_eq];exact h4) (λ x hx y hy=>hinj x (hp.mem_iff.mp hx) y (hp.mem_iff.mp hy)) (λ x t L0 s3 Q' hx S3 k=>hkey x t L0 s3 Q' (hp.mem_iff.mp hx) S3 k) λ s3 S3=>?_;rw[yA (aCp kp) hp]at S3;exact Af ⟨_,rfl,h l s3 S3⟩
theorem rO{M:Model}{s:Ac}{A:AJ}{E:Value->Ac->Prop}{x:Str}{t:Tok}{Q:Value×List Value->Ac->Prop}(h:Q (.builtin "str.rsplit",[.str x t]) s):GetM M A E "rsplit" (.str x t) Q s:=jW (name:="rsplit") (id:="str.rsplit") F.slot_str_rsplit F.type_str_rsplit h
open PySem.Builtin.Str in
theorem Sta.rsplitMax{x y:Str}{k:Int}{t u v:Tok}{Q:Value->Ac->Prop}(S:Sta W G env loc nw s)(hy:(y.length==0)=false)(hk:(decide (k < -(2 ^ 63:Int))||decide (k≥2 ^ 63))=false)(hsz:x.length<=1000000)(hn:(partsBetween x (occurrencesFromRight x y (limitOf x k)) y.length).length<=Au)(h:∀ a s',Sta W G env loc ((a,aB (Txt.rsplitMax x y k))::nw) s'->Q (.ref a) s'):Ad W.M A (call (.builtin "str.rsplit") [.str x t,.str y u,.int k v]) Q E s:=by
 have h':∀(l:List (Str×Tok)) tk,l.map (·.1)=Txt.rsplitMax x y k->Q (.ref s.heap.objs.size) { s with heap:=s.heap.push { cls:=.type "list",data:=.seq (strValues l).toArray },toks:=tk }:=λ l tk e=>
  h _ _ (S.new (c:=aB (Txt.rsplitMax x y k)) rfl ⟨strValues l,by rw[←e];exact eR l,0,rfl⟩ tk)
 cases h1:(decide (x.length<y.length)||decide (strKind x<strKind y))
 ·cases hf:(occurrencesFromRight x y (limitOf x k)).isEmpty
  ·refine call_meets F.slot_str_rsplit (typeIs_str _ _ _) F.entry_str_rsplit (F.args_str_rsplit_3 _ _ _) (meets_str_rsplit_sep_max x y k t u v hk h1 hy hf (by walk_at "osz") hn) ?_;show wants Q E _ { s with toks:=_,heap:=s.heap.push { cls:=.type "list",data:=.seq (strsFrom s.toks (partsBetween x (occurrencesFromRight x y (limitOf x k)) y.length)).toArray } };rw[strsFrom_eq];exact h' (numbered s.toks _) _ ((numbered_texts _ _).trans ((if_neg (ne_true_of_eq_false h1)).trans (if_neg (ne_true_of_eq_false hf))).symm)
  ·exact call_meets F.slot_str_rsplit (typeIs_str _ _ _) F.entry_str_rsplit (F.args_str_rsplit_3 _ _ _) (meets_str_rsplit_max_not_found x y k t u v hk h1 hy hf) (h' [(x,t)] s.toks ((if_neg (ne_true_of_eq_false h1)).trans (if_pos hf)).symm)
 ·exact call_meets F.slot_str_rsplit (typeIs_str _ _ _) F.entry_str_rsplit (F.args_str_rsplit_3 _ _ _) (meets_str_rsplit_max_cannot_occur x y k t u v hk h1) (h' [(x,t)] s.toks (if_pos h1).symm)
theorem Sta.fmtI{n:Nat}{t:Tok}{Q:Value->Ac->Prop}(S:Sta W G env loc nw s)(hn:n<=1000000)(h:∀ t' s',Sta W G env loc nw s'->Q (.str (toString (n:Int):String) t') s'):Ad W.M A (formatField (.int (n:Int) t) Str.empty) Q E s:=by
 refine wpAny_formatField_int ?_ (h _ _ (S.toks _));have h2:((n:Int).natAbs).log2<20\/20<=((n:Int).natAbs).log2:=by walk_at "o"
 rcases h2 with h2 | h2
 ·walk_at "o"
 ·rw[Int.natAbs_natCast]at h2 ⊢
  by_cases h0:n=0
  ·subst h0;decide
  ·have:=(Nat.le_log2 h0).mp h2;walk_at "o"
theorem aD6{W:Wd}{sh R:Lg}{it:Addr}{GR:Gens}:∀(vs:List Value) (own:Lg) (og:Gens) (A:AJ) (s:Ac) (Q:List Value->Ac->Prop) (E:Value->Ac->Prop),Aok 7 A->cN W sh it vs own og->St0 W (GR++og) (R++(sh++own)) s->
  (∀ own' og' s',cN W sh it [] own' og'->St0 W (GR++og') (R++(sh++own')) s'->Q vs s')->Ad W.M A (draw (.ref it) vs.length) Q E s:=by
 intro l0
 induction l0 with
 | nil=>
  intro own og A s Q E _ hy S hQ;exact Af (hQ own og s hy S)
 | cons v vs ih=>
  intro own og A s Q E hA hy S hQ;refine Aa (hy.2 A R GR s _ _ hA S λ own' og' s' S' hy'=>?_);exact Aa (AC (ih own' og' A s' _ E hA hy' S' λ own2 og2 s2 hy2 S2=>Af (hQ own2 og2 s2 hy2 S2)))
theorem Sta.unpackLi{a:Addr}{xs:List Value}{n:Nat}{Q:List Value->Ac->Prop}(S:Sta W G env loc ((a,aA xs)::N) s)(hA:Aok 9 A)(hn:n=xs.length)(h:∀ s',Sta W G env loc ((a,aA xs)::N) s'->Q xs s'):Ad W.M A (unpackItems (.ref a) n none) Q E s:=by
 subst hn;refine Aa ?_
 ·unfold notIterableAtAll;refine Aa (wpAny_specialOf (S.isList (.head _)).typeIs F.slot_list_iter.lookup ?_);refine Af ?_;refine Aa (AC (S.iterList (.head _) λ it s' S'=>?_));have hy:cN W [(a,aA xs)] it xs [(it,bM a 0)] []:=LY.yields (dJ (own₀:=[]) (by simp) xs 0 rfl);have S2:St0 W (G++[]) (((env.locals,aI loc)::N)++([(a,aA xs)]++[(it,bM a 0)])) s':=by
   rw[Aj];refine(S'.perm (nw':=N++([(a,aA xs)]++[(it,bM a 0)])) ?_).to0;exact(List.Perm.swap ..).trans (AU (l₁:=[_,_]) (l₂:=N))
  refine Aa (AC (aD6 xs _ [] _ s' _ _ (hA.le (by walk_at "o")) hy S2 λ own2 og2 s2 hy2 S3=>?_));rw[if_neg (BE _)];refine Aa (AC (hy2.2 _ _ _ _ _ _ (hA.le (by walk_at "o")) S3 λ s3 S4=>?_));rw[if_neg (by decide)];refine Af (h s3 ((S4.toSta S.eok).perm ?_));exact AU
theorem Sta.unpackTx{elts:List Expr}{x1}{pos:Pos}{a:Addr}{ss:List Str}{Q:Unit->Ac->Prop}(S:Sta W G env loc nw s)(P:Pull (a,aB ss) nw N)(hA:Aok 9 A)(hn:(assignEach elts env).length=ss.length)(hstar:(assignEach elts env).findIdx? (·.1)=none)(h:∀ vs s',TxA vs ss->Sta W G env loc N s'->Ad W.M A (assignInOrder ((assignEach elts env).map (·.2)) vs) Q E s'):Ad W.M A (assign (.Tuple elts x1 pos) env (.ref a)) Q E s:=by
 have S1:=S.perm P.perm;obtain⟨o,ho,q0⟩:=S1.get (.head _);obtain⟨vs,ht,hl⟩:=q0;have S2:=S1.tell (c':=aA vs) .head λ o' ho' _=>by rw[ho]at ho';cases ho';exact hl
 rw[assign_Tuple];refine Aa (AP ?_);unfold unpack;rw[hstar];refine Aa (AC (S2.unpackLi hA (by rw[hn,ht.length]) λ s' S3=>?_));exact h vs s' ht (S3.sub (AQ _ _))
theorem wT{value:Expr}{lower upper:Option Expr}{p pos:Pos}{Q:Value->Ac->Prop}(h:Ad W.M A (eval value env) (λ o s₁=>Ad W.M A (evalPart lower env) (λ vl s₂=>Ad W.M A (evalPart upper env) (λ vu s₃=>wK W env Q o vl vu s₃) E s₂) E s₁) E s):Ad W.M A (eval (.Subscript value (.Slice lower upper none p) pos) env) Q E s:=by
 have key:∀{o:Value} {s₁:Ac},Ad W.M A (evalPart lower env) (λ vl s₂=>Ad W.M A (evalPart upper env) (λ vu s₃=>wK W env Q o vl vu s₃) E s₂) E s₁->
   Ad W.M A (eval (.Slice lower upper none p) env) (λ i s₂=>s₂.TypeIs o "list"/\Ad W.M A (getItem o i) Q E s₂) E s₁:=by
  intro o s₁ h₁;refine wpAny_Slice (As h₁ (λ vl s₂ h₂=>As h₂ (λ vu s₃ h₃=>?_) λ _ _ x=>x) λ _ _ x=>x);obtain⟨G,loc,nw,l,xs,h₃⟩:=h₃;obtain⟨lo,hi,S,rfl,m,h₃⟩:=h₃;obtain⟨hz,pl,pu,q⟩:=h₃;rw[evalPart_none];have hl:=S.isList m;refine Af ⟨(hl.push _).typeIs,wpAny_getItem_list_slice (hl.push _) (Heap.IsSliceOf.new ..) pl pu .none (by simp) ?_ (by simpa using hz)⟩;have S1:=S.grow (h':=s₃.heap.push { cls:=.type "slice",data:=.fields #[vl,vu,.none] }) (λ _ _ e=>Heap.get?_push_of_some _ e) s₃.toks;exact q _ _ (S1.new (o:={ cls:=.type "list",data:=.seq (slicePick xs.toArray lo hi none) }) (c:=aA (slicePick xs.toArray lo hi none).toList) rfl ⟨0,rfl⟩ s₃.toks)
 rw[eval_Subscript];refine Aa (As h (λ o s₁ h₁=>Aa (AC (As (key h₁) (λ i s₂ h₂=>Aa (AP ?_)) λ _ _ x=>x))) λ _ _ x=>x);refine Aa ?_;rw[getitemInPython_of_ne h₂.1.not_modules];refine Aa (wpAny_specialOf h₂.1 F.slot_list_getitem.lookup ?_);have fin:Ad W.M A (operate [i,o] (getItem o i)) (λ r s₃=>Ad W.M A (letTemporaryGo value o r >>= λ _=>pure r) Q E s₃) E s₂:=
  wpAny_operating (As h₂.2 (λ r s₃ h₃=>Aa (wpAny_letTemporaryGo (Af h₃))) λ _ _ x=>x)
 first
  | exact Af (Aa fin)
  | exact Aa (Af (Aa fin))
  | exact Aa fin
noncomputable def kW:Expr->Nat×List Expr×Option Str
 | .Starred _ _=>(1,[],none)
 | .Call _ l _ _=>(2,l,none)
 | .UnaryOp _ _ _=>(3,[],none)
 | .BoolOp _ _ _=>(4,[],none)
 | .IfExp _ _ _ _=>(5,[],none)
 | .Compare _ _ _ _=>(6,[],none)
 | .ListComp _ _ _ _=>(7,[],none)
 | .SetComp _ _ _ _=>(8,[],none)
 | .DictComp _ _ _ _ _=>(9,[],none)
 | .Tuple l _ _=>(0,l,none)
 | .Constant c _ _=>(0,[],match c with | .str x=>some x | _=>none)
 | _=>(0,[],none)
noncomputable def dU(e:Expr):Bool:=(kW e).1 != 1
noncomputable def vG(e:Expr):Bool:=(kW e).1 != 2
noncomputable def aAn(e:Expr):Bool:=Bm (kW e).1 2||Bm 7 (kW e).1
noncomputable def jP(e:Expr):Bool:=Bm (kW e).1 6
theorem eM{e:Expr}(h:dU e=true)(rest:List Expr)(env:Env):Aw (e::rest) env=(false,eval e env)::Aw rest env:=by
 cases e with
 | Starred _ _=>cases h
 | _=>rfl
theorem xN{o:Expr}(h:vG o=true)(attr:Str)(env:Env)(w:Sem Value):attributeBase o attr env w=w:=by
 cases o with
 | Call _ _ _ _=>cases h
 | _=>rfl
theorem aBe{e:Expr}(h:aAn e=true)(env:Env)(whole:Sem Value):PySem.isTrue e env whole=(do let v ← whole;standAt e.pos;holding [v] (truthy v)):=by
 cases e with
 | UnaryOp _ _ _=>cases h
 | BoolOp _ _ _=>cases h
 | IfExp _ _ _ _=>cases h
 | Compare _ _ _ _=>cases h
 | _=>rfl
theorem qK{e:Expr}(h:jP e=true)(t:Option Expr)(l:Nat)(env:Env):swapsWith e t l env=pure false:=by
 cases e with
 | ListComp _ _ _ _=>cases h
 | SetComp _ _ _ _=>cases h
 | DictComp _ _ _ _ _=>cases h
 | _=>rfl
theorem jA{env:Env}{pos:Pos}:∀{l:List Expr},l.all dU=true->((backTo pos (Aw l env)).any λ x=>x.fst)=false
 | [],_=>rfl
 | e::r,h=>by
  rw[BJ,AK]at h;rw[eM h.1];show(false||(backTo pos (Aw r env)).any λ x=>x.fst)=false;rw[jA h.2]
  rfl
section
variable {W:Wd}{G:Gens}{env ev:Env}{loc loc':Loc}{nw nw':Lg}{s:Ac}{A:AJ}{E:Value->Ac->Prop}{M:Model}
theorem allL{pos:Pos}{env:Env}:∀{l:List Expr},l.all dU=true->(backTo pos (Aw l env)).all (λ x=>!x.1)=true
 | [],_=>rfl
 | e::r,h=>by
  rw[BJ,AK]at h;rw[eM h.1];show(!false&&(backTo pos (Aw r env)).all λ x=>!x.1)=true;rw[allL h.2]
  rfl
theorem aBO{pos:Pos}{env:Env}{args:List Expr}{kws:List Keyword}(h:(args.all dU&&kws.isEmpty&&Bm (args.length+1) 30)=true):methodCallForm (args.length+kws.length) (backTo pos (Aw args env)) (backToKw pos (keywordEach kws env))=true:=by
 rw[AK,AK]at h;obtain⟨h,h3⟩:=h;obtain⟨h1,h2⟩:=h;cases kws with
 | cons k r=>cases h2
 | nil=>
  have h4:=AE h3;unfold methodCallForm;rw[allL h1];show(true&&true&&decide (args.length+0+0<30))=true;rw[decide_eq_true (show args.length+0+0<30 from h4)]
  rfl
noncomputable def aA1(args:List Expr)(kws:List Keyword)(a p:Pos):Bool:=(args.all dU&&kws.isEmpty&&Bm (args.length+1) 30)&&a.endLine==p.line
theorem nF{o:Expr}{name:Str}{apos pos:Pos}{args:List Expr}{kws:List Keyword}{Q:Value->Ac->Prop}(h:Ad M A (eval o env) (λ ov s₁=>GetM M A E name ov (λ p s₂=>Ad M A (callWith pos p.1 p.2 (backTo pos (Aw args env)) (backToKw pos (keywordEach kws env))) Q E s₂) s₁) E s)(hb:vG o=true)(hf:aA1 args kws apos pos=true):Ad M A (eval (.Call (.Attribute o name apos) args kws pos) env) Q E s:=
 jD h (xN hb _ _ _) (aBO ((AK _ _).mp hf).1) ((AK _ _).mp hf).2
theorem yK{x:Str}{xp:Pos}{v:Value}{name:Str}{apos pos:Pos}{args:List Expr}{kws:List Keyword}{Q:Value->Ac->Prop}(S:Sta W G env loc nw s)(hv:(x,some v)∈loc)(h:GetM M A E name v (λ p s₂=>Ad M A (callWith pos p.1 p.2 (backTo pos (Aw args env)) (backToKw pos (keywordEach kws env))) Q E s₂) s)(hf:aA1 args kws apos pos=true):Ad M A (eval (.Call (.Attribute (.Name x xp) name apos) args kws pos) env) Q E s:=
 nF (S.local_ hv h) rfl hf
theorem eT{e:Expr}{whole:Sem Value}{Q:Bool->Ac->Prop}(h:Ad M A whole (λ v s₁=>Ad M A (truthy v) Q E s₁) E s)(he:aAn e=true):Ad M A (PySem.isTrue e env whole) Q E s:=isTrue_plain h (aBe he _ _)
theorem yJ{x:Str}{xp:Pos}{v:Value}{Q:Bool->Ac->Prop}(S:Sta W G env loc nw s)(hv:(x,some v)∈loc)(h:Ad M A (truthy v) Q E s):Ad M A (PySem.isTrue (.Name x xp) env (eval (.Name x xp) env)) Q E s:=eT (S.local_ hv h) rfl
theorem qW{x:Str}{xp:Pos}{v:Value}{op:CmpOp}{r:Expr}{pos:Pos}{whole:Sem Value}{Q:Bool->Ac->Prop}(S:Sta W G env loc nw s)(hv:(x,some v)∈loc)(h:Ad M A (eval r env) (λ b s₂=>Ad M A (compareOp op v b) (λ c s₃=>Ad M A (truthy c) Q E s₃) E s₂) E s)(hb:behindInMarks op r=false):Ad M A (PySem.isTrue (.Compare (.Name x xp) [op] [r] pos) env whole) Q E s:=wpAny_isTrue_Compare1 (S.local_ hv h) hb
theorem aDj{x:Str}{xp:Pos}{v:Value}{op:CmpOp}{r:Expr}{pos:Pos}{Q:Value->Ac->Prop}(S:Sta W G env loc nw s)(hv:(x,some v)∈loc)(h:Ad M A (eval r env) (λ b s₂=>Ad M A (compareOp op v b) Q E s₂) E s)(hb:behindInMarks op r=false):Ad M A (eval (.Compare (.Name x xp) [op] [r] pos) env) Q E s:=wpAny_Compare1 (S.local_ hv h) hb
theorem aDk{x:Str}{xp:Pos}{v:Value}{op:Operator}{r:Expr}{pos:Pos}{Q:Value->Ac->Prop}(S:Sta W G env loc nw s)(hv:(x,some v)∈loc)(h:Ad M A (eval r env) (λ b s₂=>Ad M A (binaryOp op v b) Q E s₂) E s):Ad M A (eval (.BinOp (.Name x xp) op r pos) env) Q E s:=wpAny_BinOp (S.local_ hv h)
theorem aAd{value:Expr}{attr:Str}{pos:Pos}{Q:Value->Ac->Prop}(h:Ad W.M A (eval value env) (λ o s₁=>Ad W.M A (getAttr o attr true) Q E s₁) E s)(hb:vG value=true):Ad W.M A (eval (.Attribute value attr pos) env) Q E s:=oX h (xN hb _ _ _)
theorem kL{x:Str}{xp:Pos}{v:Value}{attr:Str}{pos:Pos}{Q:Value->Ac->Prop}(S:Sta W G env loc nw s)(hv:(x,some v)∈loc)(h:Ad W.M A (getAttr v attr true) Q E s):Ad W.M A (eval (.Attribute (.Name x xp) attr pos) env) Q E s:=aAd (S.local_ hv h) rfl
theorem aDl{x:Str}{xp:Pos}{c:Addr}{v:Value}{attr:Str}{pos:Pos}{Q:Value->Ac->Prop}(S:Sta W G env loc nw s)(hc:ClO env NameKind.cell x c)(hv:(c,aE (some v))∈nw)(h:Ad W.M A (getAttr v attr true) Q E s):Ad W.M A (eval (.Attribute (.Name x xp) attr pos) env) Q E s:=aAd (S.cell hc hv h) rfl
theorem pC{o:Expr}{attr:Str}{pos':Pos}{value:Expr}{pos:Pos}{Q:Flow->Ac->Prop}(h:Ad W.M A (eval value env) (λ v s₁=>Ad W.M A (eval o env) (λ ov s₂=>Ad W.M A (setAttr ov attr v) (λ _=>Q .next) E s₂) E s₁) E s)(hs:jP value=true):Ad W.M A (exec (.Assign [.Attribute o attr pos'] value pos) env) Q E s:=fF h (qK hs _ _ _)
theorem sR{name:Str}{npos:Pos}{value:Expr}{pos:Pos}{Q:Flow->Ac->Prop}(h:Ad M A (eval value env) (λ v s₁=>Ad M A (storeName env name v) (λ _=>Q .next) E s₁) E s)(hs:jP value=true):Ad M A (exec (.Assign [.Name name npos] value pos) env) Q E s:=wpAny_Assign_Name h (qK hs _ _ _)
theorem aAc{prog:Program}{w:World}{e:Expr}{pos:Pos}{Q:Flow->Ac->Prop}(h:Ad (model prog w) A (eval e env) (λ _=>Q .next) E s)(hi:interactive env=false)(hs:jP e=true):Ad (model prog w) A (exec (.Expr e pos) env) Q E s:=wpAny_Expr_any h hi (qK hs _ _ _)
theorem vB{e:Expr}{rest:List Expr}{pos:Pos}{Q:List Value->Ac->Prop}(h:Ad M A (eval e env) (λ v s₁=>Ad M A (spliced (backTo pos (Aw rest env))) (λ vs s₂=>Q (v::vs) s₂) E s₁) E s)(he:dU e=true):Ad M A (spliced (backTo pos (Aw (e::rest) env))) Q E s:=args_cons h (eM he _ _)
theorem aBv{x:Str}{xp:Pos}{v:Value}{rest:List Expr}{pos:Pos}{Q:List Value->Ac->Prop}(S:Sta W G env loc nw s)(hv:(x,some v)∈loc)(h:Ad M A (spliced (backTo pos (Aw rest env))) (λ vs s₂=>Q (v::vs) s₂) E s):Ad M A (spliced (backTo pos (Aw (.Name x xp::rest) env))) Q E s:=vB (S.local_ hv h) rfl
theorem q_bi{pos:Pos}{id:String}{e:Expr}{rest:List Expr}{Q:Value->Ac->Prop}(h:Ad M A (spliced (backTo pos (Aw (e::rest) env))) (λ vs s₁=>Ad M A (call (.builtin id) vs) Q E s₁) E s)(he:(e::rest).all dU=true):Ad M A (callWith pos (.builtin id) [] (backTo pos (Aw (e::rest) env)) []) Q E s:=by
 rw[BJ,AK]at he;exact PyProof.Rows.callWith_builtin1 h (eM he.1 _ _) (jA he.2)
theorem q_ty{pos:Pos}{T:String}{e:Expr}{rest:List Expr}{Q:Value->Ac->Prop}(h:Ad M A (spliced (backTo pos (Aw (e::rest) env))) (λ vs s₁=>Ad M A (call (.type T) vs) Q E s₁) E s)(he:(e::rest).all dU=true):Ad M A (callWith pos (.type T) [] (backTo pos (Aw (e::rest) env)) []) Q E s:=by
 rw[BJ,AK]at he;exact PyProof.Rows.callWith_type1 h (eM he.1 _ _) (jA he.2)
theorem q_m1{pos:Pos}{id:String}{self:Value}{e:Expr}{rest:List Expr}{Q:Value->Ac->Prop}(h:Ad M A (spliced (backTo pos (Aw (e::rest) env))) (λ vs s₁=>Ad M A (call (.builtin id) (self::vs)) Q E s₁) E s)(he:(e::rest).all dU=true):Ad M A (callWith pos (.builtin id) [self] (backTo pos (Aw (e::rest) env)) (backToKw pos (keywordEach [] env))) Q E s:=by
 rw[BJ,AK]at he;exact cT h (eM he.1 _ _) (jA he.2)
theorem q_Wm{pos:Pos}{f:Addr}{self:Value}{e:Expr}{rest:List Expr}{Q:Value->Ac->Prop}(hk:keepIn W.K (.ref f)=true)(h:Ad W.M A (spliced (backTo pos (Aw (e::rest) env))) (λ vs s₁=>W.K.In s₁.heap/\Ad W.M A (call (.ref f) (self::vs)) Q E s₁) E s)(he:(e::rest).all dU=true):Ad W.M A (callWith pos (.ref f) [self] (backTo pos (Aw (e::rest) env)) (backToKw pos (keywordEach [] env))) Q E s:=by
 rw[BJ,AK]at he;exact eB hk h (eM he.1 _ _) (jA he.2)
theorem q_W1{pos:Pos}{f:Addr}{e:Expr}{rest:List Expr}{Q:Value->Ac->Prop}(hk:keepIn W.K (.ref f)=true)(h:Ad W.M A (spliced (backTo pos (Aw (e::rest) env))) (λ vs s₁=>W.K.In s₁.heap/\Ad W.M A (call (.ref f) vs) Q E s₁) E s)(he:(e::rest).all dU=true):Ad W.M A (callWith pos (.ref f) [] (backTo pos (Aw (e::rest) env)) []) Q E s:=by
 rw[BJ,AK]at he;exact bR hk h (eM he.1 _ _) (jA he.2)
theorem q_K1{K:Sink W}{pos:Pos}{e:Expr}{rest:List Expr}{Q:Value->Ac->Prop}(h:Ad W.M A (spliced (backTo pos (Aw (e::rest) env))) (λ vs s₁=>(∃ N st,W.K.In s₁.heap/\Led W.B (K.L st++N) s₁.heap)/\Ad W.M A (call (.ref K.q) vs) Q E s₁) E s)(he:(e::rest).all dU=true):Ad W.M A (callWith pos (.ref K.q) [] (backTo pos (Aw (e::rest) env)) (backToKw pos (keywordEach [] env))) Q E s:=by
 rw[BJ,AK]at he;exact aCe h (eM he.1 _ _) (jA he.2)
theorem q_Kn{K:Sink W}{pos:Pos}{e:Expr}{rest:List Expr}{Q:Value->Ac->Prop}(h:Ad W.M A (spliced (backTo pos (Aw (e::rest) env))) (λ vs s₁=>(∃ N st,W.K.In s₁.heap/\Led W.B (K.L st++N) s₁.heap)/\Ad W.M A (call (.ref K.q) vs) Q E s₁) E s)(he:(e::rest).all dU=true):Ad W.M A (callWith pos (.ref K.q) [] (backTo pos (Aw (e::rest) env)) []) Q E s:=q_K1 h he
end
theorem pr2{α β:Type}{P:α×β->Prop}(h:∀ a b,P (a,b)):∀ r,P r:=λ r=>h r.1 r.2
theorem pr3{α β γ:Type}{P:α×β×γ->Prop}(h:∀ a b c,P (a,b,c)):∀ r,P r:=λ r=>h r.1 r.2.1 r.2.2
section
variable {W:Wd}{G:Gens}{env:Env}{sh:Lg}{A:AJ}{α ρ:Type}{P:α->Value->Prop}{it:Addr}{R:Result->Ac->Prop}{xs:List α}{own:Lg}{og:Gens}{s:Ac}(hA:Aok 7 A)(L:ρ->List α->Loc)(N:ρ->List α->Lg)(H:ρ->List α->Prop)
noncomputable abbrev xR(G:Gens)(xs:List α)(L:ρ->List α->Loc)(N:ρ->List α->Lg)(H:ρ->List α->Prop):List α->Loc->Lg->Gens->Prop:=λ rest loc nw G'=>G'=G/\∃ dn r,xs=dn++rest/\H r dn/\loc=L r dn/\nw=N r dn
include hA in
theorem aAW{elt target:Expr}{gens:List Comprehension}{scope:Scope}{pos p:Pos}{d:Nat}{body:Sem Unit}{acc:Value}(hT:compTurn (.ListComp elt gens scope pos) d (.ref it) acc env=(standAt p >>= λ _=>pyNext (.ref it) >>= λ r=>match r with
   | none=>pure (.done .next)
   | some v=>letOwnedTupleGo target (.ref it) v >>= λ _=>assign target env v >>= λ _=>body >>= λ _=>again (.compLoop (.ListComp elt gens scope pos) d (.ref it) acc env)))(hy:YdR W sh it P xs own og)(r0:ρ)(h0:H r0 [])(S:Sta W (G++og) env (L r0 []) (N r0 []++(sh++own)) s)(fin:∀ r s,H r xs->Sta W G env (L r xs) (N r xs++sh) s->R (.ok .next) s)(turn:∀ x dn rest v tl tg r s (K:Ac->Prop),xs=dn++x::rest->P x v->H r dn->Sta W (G++tg) env (L r dn) (N r dn++(sh++tl)) s->(∀ r' s',H r' (dn++[x])->Sta W (G++tg) env (L r' (dn++[x])) (N r' (dn++[x])++(sh++tl)) s'->K s')->Ad W.M A (assign target env v) (λ _ s₂=>Ad W.M A body (λ _ s₃=>K s₃) (λ _ _=>False) s₂) (λ _ _=>False) s):codeAny W.M A (.compLoop (.ListComp elt gens scope pos) d (.ref it) acc env) R s:=by
 refine aD8 hA hT (xR G xs L N H) ?_ ?_ S hy ⟨rfl,[],r0,rfl,h0,rfl,rfl⟩
 ·intro x v rest tl tg loc nw G' s1 hp S1 hJ;obtain⟨rfl,q0⟩:=hJ;obtain⟨dn,r,hq,hH,rfl,rfl⟩:=q0;exact turn x dn rest v tl tg r s1 _ hq hp hH S1 λ r' s' h' S'=>⟨_,_,_,S',rfl,dn++[x],r',by rw[hq,Ai];rfl,h',rfl,rfl⟩
 ·intro loc nw G' s1 S1 hJ;obtain⟨rfl,q0⟩:=hJ;obtain⟨dn,r,hq,hH,rfl,rfl⟩:=q0;rw[Aj]at hq;subst hq;exact fin r s1 hH S1
include hA in
theorem rV{elt target:Expr}{gens:List Comprehension}{scope:Scope}{pos p:Pos}{d:Nat}{body:Sem Unit}{acc:Value}{f:α->Value}(hT:compTurn (.ListComp elt gens scope pos) d (.ref it) acc env=(standAt p >>= λ _=>pyNext (.ref it) >>= λ r=>match r with
   | none=>pure (.done .next)
   | some v=>letOwnedTupleGo target (.ref it) v >>= λ _=>assign target env v >>= λ _=>body >>= λ _=>again (.compLoop (.ListComp elt gens scope pos) d (.ref it) acc env)))(hy:YdR W sh it (λ x v=>v=f x) xs own og)(r0:ρ)(h0:H r0 [])(S:Sta W (G++og) env (L r0 []) (N r0 []++(sh++own)) s)(fin:∀ r s,H r xs->Sta W G env (L r xs) (N r xs++sh) s->R (.ok .next) s)(turn:∀ x dn rest  tl tg r s (K:Ac->Prop),xs=dn++x::rest->H r dn->Sta W (G++tg) env (L r dn) (N r dn++(sh++tl)) s->(∀ r' s',H r' (dn++[x])->Sta W (G++tg) env (L r' (dn++[x])) (N r' (dn++[x])++(sh++tl)) s'->K s')->Ad W.M A (assign target env (f x)) (λ _ s₂=>Ad W.M A body (λ _ s₃=>K s₃) (λ _ _=>False) s₂) (λ _ _=>False) s):codeAny W.M A (.compLoop (.ListComp elt gens scope pos) d (.ref it) acc env) R s:=aAW hA L N H hT hy r0 h0 S fin λ x dn rest v tl tg r s K hq hv=>by subst hv;exact turn x dn rest tl tg r s K hq
include hA in
theorem rU{elt target:Expr}{gens:List Comprehension}{scope:Scope}{pos p:Pos}{d:Nat}{body:Sem Unit}{acc:Value}{f:α->Tok->Value}(hT:compTurn (.ListComp elt gens scope pos) d (.ref it) acc env=(standAt p >>= λ _=>pyNext (.ref it) >>= λ r=>match r with
   | none=>pure (.done .next)
   | some v=>letOwnedTupleGo target (.ref it) v >>= λ _=>assign target env v >>= λ _=>body >>= λ _=>again (.compLoop (.ListComp elt gens scope pos) d (.ref it) acc env)))(hy:YdR W sh it (λ x v=>∃ t,v=f x t) xs own og)(r0:ρ)(h0:H r0 [])(S:Sta W (G++og) env (L r0 []) (N r0 []++(sh++own)) s)(fin:∀ r s,H r xs->Sta W G env (L r xs) (N r xs++sh) s->R (.ok .next) s)(turn:∀ x dn rest t tl tg r s (K:Ac->Prop),xs=dn++x::rest->H r dn->Sta W (G++tg) env (L r dn) (N r dn++(sh++tl)) s->(∀ r' s',H r' (dn++[x])->Sta W (G++tg) env (L r' (dn++[x])) (N r' (dn++[x])++(sh++tl)) s'->K s')->Ad W.M A (assign target env (f x t)) (λ _ s₂=>Ad W.M A body (λ _ s₃=>K s₃) (λ _ _=>False) s₂) (λ _ _=>False) s):codeAny W.M A (.compLoop (.ListComp elt gens scope pos) d (.ref it) acc env) R s:=aAW hA L N H hT hy r0 h0 S fin λ x dn rest v tl tg r s K hq hv=>by obtain⟨t,rfl⟩:=hv;exact turn x dn rest t tl tg r s K hq
include hA in
include hA in
include hA in
include hA in
theorem aCL{target:Expr}{body:List Stmt}(hy:YdR W sh it P xs own og)(r0:ρ)(h0:H r0 [])(S:Sta W (G++og) env (L r0 []) (N r0 []++(sh++own)) s)(fin:∀ r s,H r xs->Sta W G env (L r xs) (N r xs++sh) s->R (.ok .next) s)(turn:∀ x dn rest v tl tg r s (K:Flow->Ac->Prop),xs=dn++x::rest->P x v->H r dn->Sta W (G++tg) env (L r dn) (N r dn++(sh++tl)) s->(∀ r' s',H r' (dn++[x])->Sta W (G++tg) env (L r' (dn++[x])) (N r' (dn++[x])++(sh++tl)) s'->K .next s'/\K .cont s')->(∀ s',R (.ok .next) s'->K .brk s')->(∀ v s',R (.ok (.ret v)) s'->K (.ret v) s')->Ad W.M A (assign target env v) (λ _ s₂=>Ad W.M A (execs body env) K (λ _ _=>False) s₂) (λ _ _=>False) s):codeAny W.M A (.forLoop target (.ref it) body [] env) R s:=by
 refine for_y hA (xR G xs L N H) ?_ ?_ S hy ⟨rfl,[],r0,rfl,h0,rfl,rfl⟩
 ·intro x v rest tl tg loc nw G' s1 hp S1 hJ;obtain⟨rfl,q0⟩:=hJ;obtain⟨dn,r,hq,hH,rfl,rfl⟩:=q0;refine turn x dn rest v tl tg r s1 _ hq hp hH S1 (λ r' s' h' S'=>?_) (λ _ h=>h) λ _ _ h=>h;have hx:∃ loc' nw' G'',Sta W (G''++tg) env loc' (nw'++(sh++tl)) s'/\xR G' xs L N H rest loc' nw' G'':=⟨_,_,_,S',rfl,dn++[x],r',by rw[hq,Ai];rfl,h',rfl,rfl⟩
  exact⟨hx,hx⟩
 ·intro loc nw G' s1 S1 hJ;obtain⟨rfl,q0⟩:=hJ;obtain⟨dn,r,hq,hH,rfl,rfl⟩:=q0;rw[Aj]at hq;subst hq;exact fin r s1 hH S1
include hA in
theorem oA{target:Expr}{body:List Stmt}{f:α->Value}(hy:YdR W sh it (λ x v=>v=f x) xs own og)(r0:ρ)(h0:H r0 [])(S:Sta W (G++og) env (L r0 []) (N r0 []++(sh++own)) s)(fin:∀ r s,H r xs->Sta W G env (L r xs) (N r xs++sh) s->R (.ok .next) s)(turn:∀ x dn rest  tl tg r s (K:Flow->Ac->Prop),xs=dn++x::rest->H r dn->Sta W (G++tg) env (L r dn) (N r dn++(sh++tl)) s->(∀ r' s',H r' (dn++[x])->Sta W (G++tg) env (L r' (dn++[x])) (N r' (dn++[x])++(sh++tl)) s'->K .next s'/\K .cont s')->(∀ s',R (.ok .next) s'->K .brk s')->(∀ v s',R (.ok (.ret v)) s'->K (.ret v) s')->Ad W.M A (assign target env (f x)) (λ _ s₂=>Ad W.M A (execs body env) K (λ _ _=>False) s₂) (λ _ _=>False) s):codeAny W.M A (.forLoop target (.ref it) body [] env) R s:=aCL hA L N H hy r0 h0 S fin λ x dn rest v tl tg r s K hq hv=>by subst hv;exact turn x dn rest tl tg r s K hq
include hA in
theorem vV{target:Expr}{body:List Stmt}{f:α->Tok->Value}(hy:YdR W sh it (λ x v=>∃ t,v=f x t) xs own og)(r0:ρ)(h0:H r0 [])(S:Sta W (G++og) env (L r0 []) (N r0 []++(sh++own)) s)(fin:∀ r s,H r xs->Sta W G env (L r xs) (N r xs++sh) s->R (.ok .next) s)(turn:∀ x dn rest t tl tg r s (K:Flow->Ac->Prop),xs=dn++x::rest->H r dn->Sta W (G++tg) env (L r dn) (N r dn++(sh++tl)) s->(∀ r' s',H r' (dn++[x])->Sta W (G++tg) env (L r' (dn++[x])) (N r' (dn++[x])++(sh++tl)) s'->K .next s'/\K .cont s')->(∀ s',R (.ok .next) s'->K .brk s')->(∀ v s',R (.ok (.ret v)) s'->K (.ret v) s')->Ad W.M A (assign target env (f x t)) (λ _ s₂=>Ad W.M A (execs body env) K (λ _ _=>False) s₂) (λ _ _=>False) s):codeAny W.M A (.forLoop target (.ref it) body [] env) R s:=aCL hA L N H hy r0 h0 S fin λ x dn rest v tl tg r s K hq hv=>by obtain⟨t,rfl⟩:=hv;exact turn x dn rest t tl tg r s K hq
end
noncomputable def wP(e:Expr):Option Str:=(kW e).2.2
theorem uL{e:Expr}{y:Str}(h:wP e=some y):∃ k p,e=.Constant (.str y) k p:=by
 cases e with
 | Constant c k p=>
  cases c with
  | str x=>injection h with h;subst h;exact⟨k,p,rfl⟩
  | _=>cases h
 | _=>cases h
noncomputable def fZ:List Expr->Option (List Str)
 | []=>some []
 | e::r=>match wP e,fZ r with
  | some x,some l=>some (x::l)
  | _,_=>none
theorem xZ{e:Expr}{r:List Expr}:fZ (e::r)=(match wP e,fZ r with
  | some x,some l=>some (x::l)
  | _,_=>none):=rfl
theorem sE{e:Expr}{r:List Expr}{ss:List Str}(h:fZ (e::r)=some ss):∃ y k p l,e=.Constant (.str y) k p/\fZ r=some l/\ss=y::l:=by
 rw[xZ]at h;cases h1:wP e with
 | none=>rw [h1]at h;cases h
 | some y=>
  cases h2:fZ r with
  | none=>rw [h1,h2]at h;cases h
  | some l=>
   rw[h1,h2]at h;injection h with h
   obtain⟨k,p,hk⟩:=uL h1;exact⟨y,k,p,l,hk,rfl,h.symm⟩
noncomputable def uF(ss:List Str):Cell:=λ o=>∃ vs,TxA vs ss/\aJ vs o
section
variable {W:Wd}{G:Gens}{env:Env}{loc:Loc}{nw:Lg}{s:Ac}{A:AJ}{E:Value->Ac->Prop}{M:Model}
theorem Sta.strArgs{pos:Pos}(es:List Expr):∀{ss:List Str} {s:Ac} {Q:List Value->Ac->Prop},Sta W G env loc nw s->fZ es=some ss->(∀ vs s',TxA vs ss->Sta W G env loc nw s'->Q vs s')->Ad M A (spliced (backTo pos (Aw es env))) Q E s:=by
 induction es with
 | nil=>
  intro ss s Q S e h;injection e with e
  subst e;exact args_nil (h [] s .nil S)
 | cons x r ih=>
  intro ss s Q S e h;obtain⟨y,k,p,l,rfl,er,rfl⟩:=sE e;refine vB ?_ rfl;refine Sta.str_ S λ t s' S'=>?_;exact ih S' er λ vs s2 hv S2=>h _ s2 (.cons _ t hv) S2
theorem Sta.txtList{es:List Expr}{ss:List Str}{pos:Pos}{Q:Value->Ac->Prop}(S:Sta W G env loc nw s)(e:fZ es=some ss)(hz:ss.length<=Au)(h:∀ a s',Sta W G env loc ((a,aB ss)::nw) s'->Q (.ref a) s'):Ad M A (eval (.List es pos) env) Q E s:=by
 refine List_ (S.strArgs es e λ vs s1 hv S1=>?_);refine S1.newList (by rw[hv.length];exact hz) λ a s2 S2=>h a s2 (S2.tell (c':=aB ss) .head λ o _ ho=>⟨vs,hv,ho⟩)
theorem Sta.txtTup{es:List Expr}{ss:List Str}{k:Nat}{pos:Pos}{Q:Value->Ac->Prop}(S:Sta W G env loc nw s)(e:fZ es=some ss)(hz:ss.length<=Au)(h:∀ a s',Sta W G env loc ((a,uF ss)::nw) s'->Q (.ref a) s'):Ad M A (eval (.Tuple es k pos) env) Q E s:=by
 refine Tuple_ (S.strArgs es e λ vs s1 hv S1=>?_);refine S1.newTuple (by rw[hv.length];exact hz) λ a s2 S2=>h a s2 (S2.tell (c':=uF ss) .head λ o _ ho=>⟨vs,hv,ho⟩)
end
section
variable {W:Wd}{G:Gens}{env:Env}{loc:Loc}{nw nw':Lg}{s:Ac}{A:AJ}{E:Value->Ac->Prop}
end
theorem TxA.two{vs:List Value}{x y:Str}(h:TxA vs [x,y]):∃ t u,vs=[.str x t,.str y u]:=by
 cases h with | cons _ t h=>
 cases h with | cons _ u h=>
 cases h;exact⟨t,u,rfl⟩
theorem aCI{x y z:Str}{o:Obj}(h:uF [x,y,z] o):∃ t u v,aJ [.str x t,.str y u,.str z v] o:=by
 obtain⟨vs,hv,ho⟩:=h;cases hv with | cons _ t hv=>
 cases hv with | cons _ u hv=>
 cases hv with | cons _ v hv=>
 cases hv;exact⟨t,u,v,ho⟩
theorem lF{α:Type}{xs dn rest rest':List α}{x:α}(h:xs=dn++x::rest)(e:xs=(dn++[x])++rest'):rest=rest':=by
 rw[h,Ai]at e;exact(List.cons.inj (List.append_cancel_left e)).2
theorem aAV{W:Wd}{G:Gens}{env:Env}{sh:Lg}{A:AJ}{α ρ:Type}{it:Addr}{R:Result->Ac->Prop}{xs:List α}{own:Lg}{og:Gens}{s:Ac}{kx vx target:Expr}{gens:List Comprehension}{scope:Scope}{pos p:Pos}{d:Nat}{body:Sem Unit}{acc:Value}{f:α->Tok->Value}(hA:Aok 7 A)(L:ρ->List α->Loc)(N:ρ->List α->Lg)(H:ρ->List α->Prop)(hT:compTurn (.DictComp kx vx gens scope pos) d (.ref it) acc env=(standAt p >>= λ _=>pyNext (.ref it) >>= λ r=>match r with
   | none=>pure (.done .next)
   | some v=>letOwnedTupleGo target (.ref it) v >>= λ _=>assign target env v >>= λ _=>body >>= λ _=>again (.compLoop (.DictComp kx vx gens scope pos) d (.ref it) acc env)))(hy:YdR W sh it (λ x v=>∃ t,v=f x t) xs own og)(r0:ρ)(h0:H r0 [])(S:Sta W (G++og) env (L r0 []) (N r0 []++(sh++own)) s)(fin:∀ r s,H r xs->Sta W G env (L r xs) (N r xs++sh) s->R (.ok .next) s)(turn:∀ x dn rest t tl tg r s (K:Ac->Prop),xs=dn++x::rest->H r dn->Sta W (G++tg) env (L r dn) (N r dn++(sh++tl)) s->(∀ r' s',H r' (dn++[x])->Sta W (G++tg) env (L r' (dn++[x])) (N r' (dn++[x])++(sh++tl)) s'->K s')->Ad W.M A (assign target env (f x t)) (λ _ s₂=>Ad W.M A body (λ _ s₃=>K s₃) (λ _ _=>False) s₂) (λ _ _=>False) s):codeAny W.M A (.compLoop (.DictComp kx vx gens scope pos) d (.ref it) acc env) R s:=by
 refine aB1 hA hT (xR G xs L N H) ?_ ?_ S hy ⟨rfl,[],r0,rfl,h0,rfl,rfl⟩
 ·intro x v rest tl tg loc nw G' s1 hp S1 hJ;obtain⟨t,rfl⟩:=hp;obtain⟨rfl,q0⟩:=hJ;obtain⟨dn,r,hq,hH,rfl,rfl⟩:=q0;exact turn x dn rest t tl tg r s1 _ hq hH S1 λ r' s' h' S'=>⟨_,_,_,S',rfl,dn++[x],r',by rw[hq,Ai];rfl,h',rfl,rfl⟩
 ·intro loc nw G' s1 S1 hJ;obtain⟨rfl,q0⟩:=hJ;obtain⟨dn,r,hq,hH,rfl,rfl⟩:=q0;rw[Aj]at hq;subst hq;exact fin r s1 hH S1
theorem Sta.call_fnV{k:Nat}{Q:Value->Ac->Prop}{f:Addr}{qual:Str}{st:Stmt}{dV kV cdv:Value}{pos:List Value}{kw:List (Str×Value)}{binds:List (Str×Value)}(ev:Addr->Env)(rest:List Str)(S:Sta W G env loc nw s)(hf:Fn W.K f st qual dV kV cdv)(hA:Aok (k+1) A)(hbind:lS s st qual dV kV cdv ⟨pos,kw⟩ binds)(hk:dL (aD st) (binds.map Prod.fst++rest)=true)(h:∀ L A' s',Aok k A'->Sta W G (ev L) (aT binds rest) ((env.locals,aI loc)::nw) s'->
   Ad W.M A' (execs (aH st) (ev L)) (λ fl s''=>Q (match fl with | .ret v=>v | _=>.none) s'') (λ _ _=>False) s')(he:∀ L,ev L=envOf qual (aD st) L f cdv:=by intro _;rfl):Ad W.M A (call (.ref f) pos kw) Q E s:=by
 obtain rfl:ev=λ L=>envOf qual (aD st) L f cdv:=funext he;exact S.call_fn rest hf hA.room hbind hk λ L s' S'=>h L _ s' hA.deeper S'
noncomputable def fL(b:Bool):Nat->List Nat:=if b then fA else fC
noncomputable def qR(ls:List Bool)(c:Nat):List Nat:=ls.foldl (λ acc b=>acc.flatMap (fL b)) [c]
theorem sG(ls:List Bool)(b:Bool)(c:Nat):qR (ls++[b]) c=(qR ls c).flatMap (fL b):=by simp[qR,List.foldl_append]
noncomputable def mY(ls:List Bool)(x:Str):Str:=dS (qR ls) x
theorem yD(x:Str):mY [] x=x:=rE x
theorem uO(ls:List Bool)(b:Bool)(x:Str):mY (ls++[b]) x=dS (fL b) (mY ls x):=by
 unfold mY;rw[pV]
 congr 1
 funext c
 exact sG ls b c
structure Rc where
 x:Str
 o:List Bool
 n:Nat
noncomputable def aDd(cs:List Bool)(r:Rc):Str:=mY (r.o++cs.drop r.n) r.x
noncomputable def lH(cs:List Bool)(rs:List Rc):Str:=cat (rs.map (aDd cs))
theorem jK(cs:List Bool)(a b:List Rc):lH cs (a++b)=lH cs a++lH cs b:=by simp[lH,bP]
theorem aAb(cs:List Bool)(x:Str)(o:List Bool):aDd cs ⟨x,o,cs.length⟩=mY o x:=by
 unfold aDd;simp
theorem yC(b:Bool)(x:Str):mY [b] x=dS (fL b) x:=by
 have:=uO [] b x;rw[yD]at this;exact this
theorem rc1c(cs:List Bool)(x:Str):lH cs [⟨x,[false],cs.length⟩]=dC x:=by
 unfold lH;simp only[Ak,AD,aAb,yC]
 exact Str.append_empty _
noncomputable def fl0(held:List Str):List Str:=if(cat held).length=0 then[]else[dC (cat held)]
theorem aB5(held:List Str):cat (fl0 held)=dC (cat held):=by
 unfold fl0
 split
 ·rename_i h;have:cat held=Str.empty:=Str.ext' (Bs.mp (by rw[←Str.len_list];exact h));rw[this];rfl
 ·exact Str.append_empty _
theorem gS(a b:Str):dC (a++b)=dC a++dC b:=tB _ _ _
noncomputable def wtx(σ held:List Str):Str:=cat σ++dC (cat held)
theorem zG(σ held ms:List Str):wtx (σ++(fl0 held++ms)) []=wtx σ held++cat ms:=by
 unfold wtx;rw[bP,bP,aB5];show _++dC Str.empty=_;have:dC Str.empty=Str.empty:=rfl;rw[this,Str.append_empty,Str.append_assoc]
theorem zH(σ held:List Str)(x:Str):wtx σ (held++[x])=wtx σ held++dC x:=by
 unfold wtx;rw[bP,gS];have:cat [x]=x:=Str.append_empty _;rw[this,Str.append_assoc]
noncomputable def Inv(cs:List Bool)(σ held:List Str)(rs:List Rc):Prop:=wtx σ held=lH cs rs/\∀ r∈rs,r.n<=cs.length/\r.o.length<=1
theorem Inv.mark{cs:List Bool}{σ held:List Str}{rs:List Rc}(h:Inv cs σ held rs)(ms:List Str)(new:List Rc)(h1:lH cs new=cat ms)(h2:∀ r∈new,r.n<=cs.length/\r.o.length<=1):Inv cs (σ++(fl0 held++ms)) [] (rs++new):=by
 refine⟨?_,λ r hr=>?_⟩
 ·rw[zG,h.1,jK,h1]
 ·rcases AW.mp hr with hr | hr
  ·exact h.2 r hr
  ·exact h2 r hr
theorem Inv.data{cs:List Bool}{σ held:List Str}{rs:List Rc}(h:Inv cs σ held rs)(x:Str):Inv cs σ (held++[x]) (rs++[⟨x,[false],cs.length⟩]):=by
 refine⟨?_,λ r hr=>?_⟩
 ·rw[zH,h.1,jK,rc1c]
 ·rcases AW.mp hr with hr | hr
  ·exact h.2 r hr
  ·rw[AR.mp hr];exact⟨AG _,AG _⟩
inductive Dc
 | nil
 | txt (x:Str) (r:Dc)
 | node (k:Nat) (d r:Dc)
noncomputable def opn:Nat->Str
 | 0=>"<t>"
 | 1=>"<v k=\""
 | 2=>"<!--"
 | _=>"<?p "
noncomputable def begins(l:Str)(k:Nat):Bool:=decide (l.cps.toList.take (opn k).length=(opn k).cps.toList)
end Mine
section
open PySem.Builtin.Str (occurrences)
namespace Mine
theorem gW(a b:Str):(a++b).cps.toList=a.cps.toList++b.cps.toList:=by simp[Str.cps_append]
end Mine
end
namespace Mine
local macro_rules | `(tactic| walk_at $s:str) => Mine.goAt Mine.tab10 s
theorem fM{x y z u:Str}{t:Tok}{c:Nat}{rs:List (Nat×List Nat)}{k1 k2 k3:Nat}{p1 p2 p3 p4 p5 p6 p7 p8 p9 p10 p11:Pos}{Q:Flow->Ac->Prop}(S':Sta W G env [("text",some (.str u t))] nw s)(hu:u=dS (ch rs) x)(hx:x.length<=txL)(hy:y=⟨#[c]⟩)(hyz:(y==z)=false)(h6:rs.all (λ p=>Bm p.2.length 6)=true)(hr:rs.all (λ p=>!p.2.contains c)=true)(hz:Bm z.length 6=true)(hl:(p6.endLine==p9.line)=true)(k:∀ t' s',Sta W G env [("text",some (.str (dS (ch (rs++[(c,z.cps.toList)])) x) t'))] nw s'->Q .next s'):Ad W.M A (exec (.If (.Compare (.Constant (.str y) k1 p1) [.In] [.Name "text" p2] p3) [.Assign [.Name "text" p4] (.Call (.Attribute (.Name "text" p5) "replace" p6) [.Constant (.str y) k2 p7,.Constant (.str z) k3 p8] [] p9) p10] [] p11) env) Q E s:=by
 have e:dS (r1 c z.cps.toList) u=dS (ch (rs++[(c,z.cps.toList)])) x:=hu▸aBG hr x;rw[←e]at k;clear e;refine wpAny_If ?_;refine wpAny_isTrue_Compare1 ?_ rfl;refine S'.strT ?_;clear S';intro s' S' hk;refine Sta.local_ S' (by walk_at "mem") ?_;refine Sta.inStr hy (λ hc=>?_) (λ hc=>?_)
 ·refine wpAny_truthy_bool ?_;refine eZ ?_;refine Ay ?_;refine wpAny_Assign_Name ?_ rfl;refine jD ?_ rfl rfl hl;refine Sta.local_ S' (by walk_at "mem") ?_;refine pH ?_;refine cT ?_ rfl rfl;refine args_cons ?_ rfl;refine S'.strT ?_;clear S';intro s2 S' hk2;refine args_cons ?_ rfl;refine S'.strT ?_;clear S';intro s3 S' hk3;refine args_nil ?_;have n1:s'.toks≠0:=λ e=>Nat.succ_ne_zero _ (hk.symm.trans e);have n2:s2.toks≠0:=λ e=>Nat.succ_ne_zero _ (hk2.symm.trans e);refine S'.replace_ hy n1 n2 (λ e=>Nat.succ_ne_self s'.toks (hk2.symm.trans e.symm)) hyz (hu▸An (nK _ 6 (λ c=>wH c rs h6) x) (Bt 6 hx)) (AE hz) ?_;clear S';intro t' s4 S';refine S'.store .head ?_;intro s5 S5;exact AI (k _ _ S5)
 ·refine wpAny_truthy_bool ?_;refine dG ?_;refine AI (k t _ ?_);rw[yP hc];exact S'
theorem aAQ{x:Str}{t:Tok}{Q:Value->Ac->Prop}(I:IsC W)(S:Sta W G env loc nw s)(hA:Aok 2 A)(hx:x.length<=txL)(k:∀ t' s',Sta W G env loc nw s'->Q (.str (dC x) t') s'):Ad W.M A (call (.ref 154) [.str x t]) Q E s:=by
 refine S.call_fn (binds:=[("text",.str x t)]) [] I.f_escC hA.room (λ _ _ _ _ _=>BindsTo.of_eq (by kernel_rfl)) (by kernel_rfl) ?_;intro L s' S';refine Ay ?_;refine wpAny_Try_except ?_;refine Ay ?_;refine fM (c:=38) (rs:=[]) S' (rE x).symm hx (by kernel_rfl) (by decide +kernel) (by kernel_rfl) (by kernel_rfl) (by kernel_rfl) (by kernel_rfl) ?_;clear S';intro t1 s' S';refine Ay ?_;refine fM (c:=60) S' rfl hx (by kernel_rfl) (by decide +kernel) (by kernel_rfl) (by kernel_rfl) (by kernel_rfl) (by kernel_rfl) ?_;clear S';intro t1 s' S';refine Ay ?_;refine fM (c:=62) S' rfl hx (by kernel_rfl) (by decide +kernel) (by kernel_rfl) (by kernel_rfl) (by kernel_rfl) (by kernel_rfl) ?_;clear S';intro t1 s' S';refine Ay ?_;refine fM (c:=13) S' rfl hx (by kernel_rfl) (by decide +kernel) (by kernel_rfl) (by kernel_rfl) (by kernel_rfl) (by kernel_rfl) ?_;clear S';intro t1 s' S'
 repeat walk_at "ev"
 exact k t1 _ (Sta.back S' S.eok)
theorem escA_{x:Str}{t:Tok}{Q:Value->Ac->Prop}(I:IsC W)(S:Sta W G env loc nw s)(hA:Aok 2 A)(hx:x.length<=txL)(k:∀ t' s',Sta W G env loc nw s'->Q (.str (aBX x) t') s'):Ad W.M A (call (.ref 161) [.str x t]) Q E s:=by
 refine S.call_fn (binds:=[("text",.str x t)]) [] I.f_escA hA.room (λ _ _ _ _ _=>BindsTo.of_eq (by kernel_rfl)) (by kernel_rfl) ?_;intro L s' S';refine Ay ?_;refine wpAny_Try_except ?_;refine Ay ?_;refine fM (c:=38) (rs:=[]) S' (rE x).symm hx (by kernel_rfl) (by decide +kernel) (by kernel_rfl) (by kernel_rfl) (by kernel_rfl) (by kernel_rfl) ?_;clear S';intro t1 s' S';refine Ay ?_;refine fM (c:=60) S' rfl hx (by kernel_rfl) (by decide +kernel) (by kernel_rfl) (by kernel_rfl) (by kernel_rfl) (by kernel_rfl) ?_;clear S';intro t1 s' S';refine Ay ?_;refine fM (c:=34) S' rfl hx (by kernel_rfl) (by decide +kernel) (by kernel_rfl) (by kernel_rfl) (by kernel_rfl) (by kernel_rfl) ?_;clear S';intro t1 s' S';refine Ay ?_;refine fM (c:=9) S' rfl hx (by kernel_rfl) (by decide +kernel) (by kernel_rfl) (by kernel_rfl) (by kernel_rfl) (by kernel_rfl) ?_;clear S';intro t1 s' S';refine Ay ?_;refine fM (c:=10) S' rfl hx (by kernel_rfl) (by decide +kernel) (by kernel_rfl) (by kernel_rfl) (by kernel_rfl) (by kernel_rfl) ?_;clear S';intro t1 s' S';refine Ay ?_;refine fM (c:=13) S' rfl hx (by kernel_rfl) (by decide +kernel) (by kernel_rfl) (by kernel_rfl) (by kernel_rfl) (by kernel_rfl) ?_;clear S';intro t1 s' S'
 repeat walk_at "ev"
 exact k t1 _ (Sta.back S' S.eok)
theorem aAi{α:Type}{R sh:List α}{p:α}:List.Perm (p::(R++sh)) (R++(sh++[p])):=by
 rw[←Ai];exact(AU (l₁:=[p]) (l₂:=R++sh))
theorem vJ(lv:List (Addr×List Value)):(lv.reverse.map λ p=>Value.ref p.1)=((lv.map λ p=>Value.ref p.1).take (lv.map λ p=>Value.ref p.1).length).reverse:=by
 rw[List.take_length,List.map_reverse]
noncomputable abbrev lN(x st:Addr)(rv:Value):Loc:=aT [("self",.ref x),("ns_stack",.ref st),("_reversed",rv)] ["namespaces"]
noncomputable abbrev lO(L:Addr):Env:=envOf "C14NWriterTarget._iter_namespaces" (aD mF) L 68 (.ref 67)
theorem good_{L x st:Addr}{rv:Value}{sh:Lg}(he:EvO (lO L) ["self","ns_stack","_reversed","namespaces"])(ls:List (Addr×List Value))(hls:∀ p∈ls,(p.1,aA p.2)∈sh/\p.2.length<=Au)(hrev:∀ A R GR s,Aok 4 A->Sta W GR (lO L) (lN x st rv) (R++sh) s->∀ Q E,(∀ rit own s',Sta W GR (lO L) (lN x st rv) (R++(sh++own)) s'->LY W sh rit (ls.map λ p=>.ref p.1) own->Q (.ref rit) s')-> ∀ p2 p3 p4,Ad W.M A (eval (.Call (.Name "_reversed" p2) [.Name "ns_stack" p3] [] p4) (lO L)) (λ x s₁=>Ad W.M A (pyIter x) Q E s₁) E s):iD W sh (ls.flatMap (·.2)) (.fresh (.func (aH mF) (lO L))) [(L,aI (lN x st rv))]:=by
 refine yU (nm:="namespaces") (rv:="_reversed") (sk:="ns_stack") (ks:=["self","ns_stack","_reversed","namespaces"]) (by kernel_rfl) (by decide +kernel) (lN x st rv) rfl he ls hls ?_;intro A R GR s hA S Q E h;exact hrev A R GR s hA S Q E h _ _ _
theorem rev_{L x st:Addr}{sh:Lg}{lv:List (Addr×List Value)}(hst:(st,aA (lv.map λ p=>.ref p.1))∈sh):∀ A R GR s,Aok 4 A->Sta W GR (lO L) (lN x st (.type "reversed")) (R++sh) s->∀ Q E,(∀ rit own s',Sta W GR (lO L) (lN x st (.type "reversed")) (R++(sh++own)) s'->LY W sh rit (lv.reverse.map λ p=>.ref p.1) own->Q (.ref rit) s')->
   ∀ p2 p3 p4,Ad W.M A (eval (.Call (.Name "_reversed" p2) [.Name "ns_stack" p3] [] p4) (lO L)) (λ x s₁=>Ad W.M A (pyIter x) Q E s₁) E s:=by
 intro A R GR s hA S' Q E h p2 p3 p4;have hm:(st,aA (lv.map λ p=>.ref p.1))∈R++sh:=Ag _ hst;simp only[lN,aT,Ak,AD,Ar,Ax]at S'
 repeat walk_at "ev"
 refine Sta.reversed S' hm ?_;clear S';intro it s' S';refine Sta.iterRev S' (by walk_at "mem") ?_;refine h it [(it,lA st (((lv.map λ p=>Value.ref p.1).length:Int)-1))] _ (S'.perm aAi) ?_;rw[vJ];exact aAs hst _ (AG _)
theorem aCK{x st:Addr}{lv:List (Addr×List Value)}{N sh:Lg}{Q:Value->Ac->Prop}(I:IsC W)(S:Sta W G env loc (N++sh) s)(hA:Aok 1 A)(hst:(st,aA (lv.map λ p=>.ref p.1))∈sh)(hlv:∀ p∈lv,(p.1,aA p.2)∈sh/\p.2.length<=Au)(h:∀ a g own gs s',Sta W (G++[(g,gs)]) env loc (N++(sh++(own++[(a,cO g)]))) s'->cN W sh a (lv.reverse.flatMap (·.2)) (own++[(a,cO g)]) [(g,gs)]->Q (.ref a) s'):Ad W.M A (call (.ref 68) [.ref x,.ref st]) Q E s:=by
 refine S.call_gen (binds:=[("self",.ref x),("ns_stack",.ref st),("_reversed",.type "reversed")]) ["namespaces"] I.f_iter hA.room ?_ (by kernel_rfl) ?_
 ·intro name doc pm ct an;exact kp_binds S.kin λ S=>by rw[I.k];kernel_rfl
 intro a g L s' he S';have H:=good_ (W:=W) (x:=x) (st:=st) (rv:=.type "reversed") (sh:=sh) he lv.reverse (λ p hp=>hlv p (List.mem_reverse.mp hp)) (rev_ hst);refine h a g [(L,aI (lN x st (.type "reversed")))] _ s' (S'.perm ?_) (mO H);show List.Perm ((a,cO g)::(L,aI _)::(N++sh)) (N++(sh++[(L,aI _),(a,cO g)]));rw[←Ai];exact(List.Perm.swap ..).trans (AU (l₁:=[_,_]) (l₂:=N++sh))
theorem Sta.iterGen{a:Addr}{g:Nat}{Q:Value->Ac->Prop}(S:Sta W G env loc nw s)(m:(a,cO g)∈nw)(h:Q (.ref a) s):Ad W.M A (pyIter (.ref a)) Q E s:=by
 obtain⟨o,ho,q0⟩:=S.get m;obtain⟨nm,qn,rfl⟩:=q0;exact wpAny_pyIter_gen ⟨_,nm,qn,ho,rfl,rfl,rfl⟩ h
noncomputable abbrev NsP:=Str×Str
noncomputable def dZ(q:NsP):Cell:=λ o=>∃ t u,aJ [.str q.1 t,.str q.2 u] o
structure Lv where
 a:Addr
 ps:List (Addr×NsP)
noncomputable def Lv.val(l:Lv):List NsP:=l.ps.map (·.2)
noncomputable def aL(ps:List (Addr×NsP)):Lg:=ps.map λ q=>(q.1,dZ q.2)
noncomputable def aG(ps:List (Addr×NsP)):List Value:=ps.map λ q=>.ref q.1
noncomputable def aW:List Lv->Lg
 | []=>[]
 | l::r=>(l.a,aA (aG l.ps))::(aL l.ps++aW r)
noncomputable def aK(ls:List Lv):List Value:=ls.map λ l=>.ref l.a
noncomputable def pG(ls:List Lv):List (Addr×NsP):=ls.reverse.flatMap (·.ps)
noncomputable def aX(ls:List (List NsP)):List NsP:=ls.reverse.flatten
theorem tE(ls:List Lv):(pG ls).map (·.2)=aX (ls.map Lv.val):=by
 unfold pG aX;rw[List.map_flatMap,←List.map_reverse,List.flatten_eq_flatMap,List.flatMap_map]
 rfl
theorem aCG{l:Lv}{q:Addr×NsP}(hq:q∈l.ps):∀{ls:List Lv},l∈ls->(q.1,dZ q.2)∈aW ls
 | m::r,h=>by
  rcases At.mp h with rfl | h
  ·exact .tail _ (Am _ (Ah.mpr ⟨q,hq,rfl⟩))
  ·exact .tail _ (Ag _ (aCG hq h))
theorem tF{ls:List Lv}{q:Addr×NsP}(h:q∈pG ls):(q.1,dZ q.2)∈aW ls:=by
 obtain⟨l,hl,hq⟩:=List.mem_flatMap.mp h;exact aCG hq (List.mem_reverse.mp hl)
theorem nM{ls:List Lv}{l:Lv}(h:l∈ls):(l.a,aA (aG l.ps))∈aW ls:=by
 induction ls with
 | nil=>cases h
 | cons m r ih=>
  rcases At.mp h with rfl | h
  ·exact .head _
  ·exact .tail _ (Ag _ (ih h))
theorem bW:∀ a b:List Lv,aW (a++b)=aW a++aW b
 | [],_=>rfl
 | l::r,b=>by
  show(l.a,aA (aG l.ps))::(aL l.ps++aW (r++b))=_;rw[bW r b];show _=(l.a,aA (aG l.ps))::((aL l.ps++aW r)++aW b)
  rw[Ai]
noncomputable def cQ(q:Addr×NsP):List Lv->List Lv
 | []=>[]
 | [l]=>[⟨l.a,l.ps++[q]⟩]
 | l::m::r=>l::cQ q (m::r)
noncomputable def cG(q:NsP):List (List NsP)->List (List NsP)
 | []=>[]
 | [l]=>[l++[q]]
 | l::m::r=>l::cG q (m::r)
theorem fR(q:Addr×NsP):∀ ls:List Lv,(cQ q ls).map Lv.val=cG q.2 (ls.map Lv.val)
 | []=>rfl
 | [l]=>by show[(l.ps++[q]).map (·.2)]=[l.ps.map (·.2)++[q.2]];rw[Ao];rfl
 | l::m::r=>by
  show l.val::(cQ q (m::r)).map Lv.val=l.val::cG q.2 ((m::r).map Lv.val);rw[fR q (m::r)]
theorem dF(q:Addr×NsP):∀ ls:List Lv,aK (cQ q ls)=aK ls
 | []=>rfl
 | [l]=>rfl
 | l::m::r=>by
  show Value.ref l.a::aK (cQ q (m::r))=Value.ref l.a::aK (m::r);rw[dF q (m::r)]
theorem vR(q:Addr×NsP)(ls:List Lv)(l:Lv):cQ q (ls++[l])=ls++[⟨l.a,l.ps++[q]⟩]:=by
 induction ls with
 | nil=>rfl
 | cons m r ih=>
  cases r with
  | nil=>rfl
  | cons k r=>show m::cQ q (k::(r++[l]))=_;rw[show k::(r++[l])=(k::r)++[l]from rfl,ih];rfl
theorem iX(q:NsP)(ls:List (List NsP))(l:List NsP):cG q (ls++[l])=ls++[l++[q]]:=by
 induction ls with
 | nil=>rfl
 | cons m r ih=>
  cases r with
  | nil=>rfl
  | cons k r=>show m::cG q (k::(r++[l]))=_;rw[show k::(r++[l])=(k::r)++[l]from rfl,ih];rfl
noncomputable def findN(u:Str):List Str->List NsP->Option Str
 | _,[]=>none
 | seen,(v,p)::r=>if v=u/\p∉seen then some p else findN u (seen++[p]) r
noncomputable def gI(p l:Str):Str:=if p.length=0 then l else p++":"++l
theorem Sta.openPr{p:Addr}{q:NsP}{c':Cell}(S:Sta W G env loc nw s)(U:Upd p (dZ q) c' nw nw'):∃ t u nw1,Upd p (dZ q) (aJ [.str q.1 t,.str q.2 u]) nw nw1/\Upd p (aJ [.str q.1 t,.str q.2 u]) c' nw1 nw'/\Sta W G env loc nw1 s:=by
 obtain⟨o,ho,q0⟩:=S.get U.mem;obtain⟨t,u,hc⟩:=q0;obtain⟨nw1,U1,U2⟩:=U.via2 (aJ [.str q.1 t,.str q.2 u]);exact⟨t,u,nw1,U1,U2,S.tell U1 λ o' ho' _=>by rw[ho]at ho';cases ho';exact hc⟩
theorem Sta.unpackPr{elts:List Expr}{x1}{pos:Pos}{p:Addr}{v r:Str}{Q:Unit->Ac->Prop}(S:Sta W G env loc nw s)(hh:A.handled=none)(m:(p,dZ (v,r))∈nw)(hn:(assignEach elts env).length=2)(hstar:(assignEach elts env).findIdx? (·.1)=none)(h:∀ t u s',Sta W G env loc nw s'->Ad W.M A (assignInOrder ((assignEach elts env).map (·.2)) [.str v t,.str r u]) Q E s'):Ad W.M A (assign (.Tuple elts x1 pos) env (.ref p)) Q E s:=by
 obtain⟨t,u,nw1,U1,U2,S1⟩:=S.openPr (eF m);exact S1.unpackT hh U2.mem hn hstar λ s' S2=>h t u s' (S2.tell U2 λ o _ ho=>⟨t,u,ho⟩)
noncomputable abbrev iL(st:Stmt):List Stmt:=aH st
noncomputable abbrev fTgt(st:Stmt):Expr:=stE st
noncomputable abbrev cS(L:Addr):Env:=envOf "C14NWriterTarget._qname" (aD cI) L 83 (.ref 82)
noncomputable abbrev iV(x:Addr)(qn:Str)(tq:Tok)(u:Str)(tu:Tok)(l:Str)(tl:Tok)(sp:Addr)(vu vp:Option Value):Loc:=[("self",some (.ref x)),("qname",some (.str qn tq)),("uri",some (.str u tu)),("tag",some (.str l tl)),("prefixes_seen",some (.ref sp)),("u",vu),("prefix",vp)]
noncomputable def aCt:Stmt:=(aH cI).getD 2 (.Pass default)
noncomputable def aCs:Stmt:=(aH cI).getD 5 (.Pass default)
noncomputable def gY(q:NsP):Prop:=q.1.length<=1000/\q.2.length<=1000
structure Q1S where
 T:Str->Bool
 n:Nat
 vu:Option Value
 vp:Option Value
theorem aDn{L ga x sp:Addr}{qn u l:Str}{tq tu tl:Tok}{xs:List (Addr×NsP)}{sh own:Lg}{og:Gens}{R:Result->Ac->Prop}(hA:Aok 10 A)(hmem:∀ q∈xs,(q.1,dZ q.2)∈sh)(hlen:xs.length<=100)(hsm:∀ q∈xs,gY q.2)(hl:l.length<=1000)(S:Sta W (G++og) (cS L) (iV x qn tq u tu l tl sp none none) (((sp,bI W (λ _=>false) 0)::N)++(sh++own)) s)(hy:YdR W sh ga (λ(q:Addr×NsP) v=>v=.ref q.1) xs own og)(kf:∀ p a t1 t2 t3 loc' s',findN u [] (xs.map (·.2))=some p->Sta W G (cS L) loc' ((a,aJ [.str (gI p l) t1,.str l t2,.str u t3])::(N++sh)) s'->R (.ok (.ret (.ref a))) s')(kn:∀ vu vp T n s',findN u [] (xs.map (·.2))=none->(∀ k,T k=decide (k∈xs.map (·.2.2)))->n<=xs.length->Sta W G (cS L) (iV x qn tq u tu l tl sp vu vp) ((sp,bI W T n)::(N++sh)) s'->R (.ok .next) s')(tg:Expr)(body:List Stmt)(htg:tg=fTgt aCt)(hbd:body=iL aCt):codeAny W.M A (.forLoop tg (.ref ga) body [] (cS L)) R s:=by
 subst htg hbd;refine oA (sh:=sh) (f:=λ(q:Addr×NsP)=>.ref q.1) (hA.le (by decide)) (λ(v:Q1S) _=>iV x qn tq u tu l tl sp v.vu v.vp) (λ v _=>(sp,bI W v.T v.n)::N) (λ v dn=>(∀ k,v.T k=decide (k∈dn.map (·.2.2)))/\v.n<=dn.length/\∀ rest,xs=dn++rest->findN u (dn.map (·.2.2)) (rest.map (·.2))=findN u [] (xs.map (·.2))) hy ⟨λ _=>false,0,none,none⟩ ⟨λ k=>by simp,AG 0,λ rest e=>by rw[show xs=rest from e];rfl⟩ S ?_ ?_
 rotate_left
 ·refine pr3 ?_;intro qa qv qp dn rest tl' tg vw s1 K hx hH S' kk _ kret;obtain⟨hT,hn,hf⟩:=hH;replace hf:=hf _ hx;clear S;have hqx:(qa,qv,qp)∈xs:=by rw[hx];simp
  have hps:qp.length<=1000:=(hsm _ hqx).2;have hdl:dn.length+rest.length+1=xs.length:=by rw[hx];simp;walk_at "o"
  have hsb:vw.n+1<Bu:=AS (show vw.n+1<=101 by walk_at "o") (by decide);have hsb0:vw.n<Bu:=by walk_at "o"
  have hmq:(qa,dZ (qv,qp))∈N++(sh++tl'):=Ag _ (Am _ (hmem _ hqx));walk_at "zd";simp only[Ar]at S';refine Sta.unpackPr S' hA.handled (by walk_at "mem") (by kernel_rfl) (by kernel_rfl) ?_;clear S';intro t1 t2 s' S';refine assignInOrder_cons ?_;refine assign_Name ?_;walk_at "c";refine assignInOrder_cons ?_;refine assign_Name ?_;walk_at "c";refine assignInOrder_nil ?_;refine aR ?_;walk_at "c";have hadd:(vw.T qp=true\/qv≠u)->findN u ((dn++[(qa,qv,qp)]).map (·.2.2)) (rest.map (·.2))=findN u [] (xs.map (·.2)):=by
   intro hc;rw[←hf,Ak];show _=(if qv=u/\qp∉dn.map (·.2.2)then some qp else findN u (dn.map (·.2.2)++[qp]) (rest.map (·.2)))
   rw[if_neg]
   ·simp
   ·rintro⟨h1,h2⟩
    rcases hc with hc | hc
    ·rw[hT]at hc;exact h2 (of_decide_eq_true hc)
    ·exact hc h1
  have hnext:∀ s2,(vw.T qp=true\/qv≠u)->Sta W (G++tg) (cS L) (iV x qn tq u tu l tl sp (some (.str qv t1)) (some (.str qp t2))) ((sp,bI W (λ k=>vw.T k||decide (k=qp)) (if vw.T qp then vw.n else vw.n+1))::(N++(sh++tl'))) s2->
    K .next s2:=by
   intro s2 hc S2;refine(kk ⟨λ k=>vw.T k||decide (k=qp),_,_,_⟩ s2 ⟨λ k=>?_,?_,λ rest' e=>by rw[←lF hx e];exact hadd hc⟩ S2).1
   ·show(vw.T k||decide (k=qp))=_;rw[hT,Bool.eq_iff_iff];simp only[Bool.or_eq_true,decide_eq_true_eq,Ao,AW,Ak,AD,AR]
   ·show(if vw.T qp then vw.n else vw.n+1)<=_;rw[Ae,Az];split<;>walk_at "o"
  refine wB (λ e=>?_) (λ e=>?_)
  ·subst e;walk_at "c";cases hTp:vw.T qp with
   | true=>
    refine dG ?_;walk_at "c";refine hnext _ (.inl hTp) ?_;rw[hTp]at S' ⊢;exact S'
   | false=>
    have hfd:findN qv [] (xs.map (·.2))=some qp:=by
     rw[←hf,Ak];show(if qv=qv/\qp∉dn.map (·.2.2)then some qp else _)=_;rw[if_pos];refine⟨rfl,λ h=>?_⟩;rw[hT]at hTp;exact absurd h (of_decide_eq_false hTp)
    refine eZ ?_;walk_at "c";have hfin:∀ a t1 t2 t3 loc2 s2,Sta W (G++tg) (cS L) loc2 ((a,aJ [.str (gI qp l) t1,.str l t2,.str qv t3])::(sp,bI W vw.T vw.n)::(N++(sh++tl'))) s2->K (.ret (.ref a)) s2:=by
     intro a t1 t2 t3 loc2 s2 S2;refine kret _ _ ?_;exact kf qp a t1 t2 t3 loc2 s2 hfd (S2.fewer.sel (Sel.rest ((sp,bI W vw.T vw.n)::tl') (by walk_at "perm")))
    refine dH S' (by walk_at "o") (λ h0=>?_) (λ h0=>?_)
    ·clear S';intro s' S';have ht:gI qp l=l:=if_pos h0;rw[ht]at hfin;walk_at "c";exact hfin _ _ _ _ _ _ S'
    ·clear S';intro s' S';have ht:gI qp l=qp++":"++l:=if_neg h0;have h1:(":":Str).length=1:=by decide +kernel
     rw[ht]at hfin;walk_at "c";rw[Str.empty_append]at S';exact hfin _ _ _ _ _ _ S'
  ·walk_at "c";refine hnext _ (.inr e) ?_;exact S'
 ·intro vw s1 hH S1;obtain⟨hT,hn,hf⟩:=hH;exact kn vw.vu vw.vp vw.T vw.n s1 (by rw[←hf [] (Aj _).symm];rfl) hT hn (S1.perm (by walk_at "perm"))
section
local macro_rules | `(tactic| walk_at $s:str) => Mine.goAt Mine.tabD s
section
local macro_rules | `(tactic| walk_at $s:str) => Mine.goAt Mine.tabF s
structure Wn where
 x:Addr
 dx:Addr
 d:Addr
 dns:Addr
 ns:Addr
 pm:Addr
 ps:Addr
structure Wc where
 com:Bool
 rw:Bool
 et:Value
structure Wm where
 held:List Str
 dl:List Lv
 nl:List Lv
 pm:List (Str×Str×Tok)
 ps:List Bool
 rs:Bool
 rd:Bool
 ig:Nat
 ti:Tok
noncomputable def pmV(l:List (Str×Str×Tok)):List (Str×Value):=l.map λ p=>(p.1,.str p.2.1 p.2.2)
noncomputable abbrev fW(w:Wn)(c:Wc)(q:Addr)(m:Wm):Loc:=VV (.ref q) (.ref w.d) (.bool c.com) (.bool false) .none c.et (.bool c.rw) .none .none (.ref w.dns) (.ref w.ns) (.ref w.pm) (.ref w.ps) .none (.bool m.rs) (.bool m.rd) (.int (m.ig:Int) m.ti)
noncomputable abbrev aC(W:Wd)(w:Wn)(c:Wc)(q:Addr)(m:Wm)(N:Lg):Lg:=
 (w.x,bG 143 w.dx)::(w.dx,aS (fW w c q m))::(w.d,aB m.held)::(w.dns,aA (aK m.dl))::(w.ns,aA (aK m.nl))::(w.pm,IsD W w.pm (pmV m.pm))::(w.ps,aA (m.ps.map .bool))::(aW m.dl++(aW m.nl++N))
theorem aDr{W:Wd}{w:Wn}{c:Wc}{q:Addr}{m:Wm}{p:Addr×Cell}{N N':Lg}(h:Pl p N N'):Pl p (aC W w c q m N) (aC W w c q m N'):=plS (cL (cL (cL (aAh (aAh h)))))
theorem ps_w{W:Wd}{w:Wn}{c:Wc}{q:Addr}{m:Wm}{A N N':Lg}(h:Ps A N N'):Ps A (aC W w c q m N) (aC W w c q m N'):=qX (qX (qX (qX (qX (qX (qX (aBw (aBw h))))))))
theorem pm_w{W:Wd}{w:Wn}{c:Wc}{q:Addr}{m:Wm}{N N':Lg}(k:N.Perm N'):(aC W w c q m N).Perm (aC W w c q m N'):=pE (pE (pE (pE (pE (pE (pE (aAg (aAg k))))))))
theorem pm_x{W:Wd}{w:Wn}{c:Wc}{q:Addr}{m:Wm}{p:Addr×Cell}{L N N':Lg}(h:Pl p N N')(k:L.Perm (aC W w c q m N')):(p::L).Perm (aC W w c q m N):=(k.cons p).trans (List.Perm.symm (aDr h))
theorem pm_xs{W:Wd}{w:Wn}{c:Wc}{q:Addr}{m:Wm}{A L N N':Lg}(h:Ps A N N')(k:L.Perm (aC W w c q m N')):(A++L).Perm (aC W w c q m N):=(List.Perm.append_left A k).trans (List.Perm.symm (ps_w h))
theorem jN(a b:List (Addr×NsP)):aL (a++b)=aL a++aL b:=Ao
theorem jM(a b:List (Addr×NsP)):aG (a++b)=aG a++aG b:=Ao
theorem eU(a:List Lv)(l:Lv):(aK (a++[l])).getLast?=some (.ref l.a):=by simp[aK]
theorem Sta.addPr{d0:List Lv}{lv:Lv}{tup:Addr}{u p:Str}{t t':Tok}{Q:Value->Ac->Prop}(hz:lv.ps.length<=1000)(S:Sta W G env loc ((tup,aJ [.str u t,.str p t'])::(aW (d0++[lv])++N)) s)(h:∀ s',Sta W G env loc (aW (cQ (tup,u,p) (d0++[lv]))++N) s'->Q .none s'):Ad W.M A (call (.builtin "list.append") [.ref lv.a,.ref tup]) Q E s:=by
 have S1:=(S.tell (c':=dZ (u,p)) .head λ o _ ho=>⟨_,_,ho⟩).perm (nw':=(lv.a,aA (aG lv.ps))::(aL lv.ps++((tup,dZ (u,p))::(aW d0++N)))) (by
  rw[bW];show List.Perm ((tup,dZ (u,p))::((aW d0++((lv.a,aA (aG lv.ps))::(aL lv.ps++[])))++N)) _;walk_at "perm")
 refine S1.append .head (by rw[Av];simp[aG];walk_at "o") λ s' S2=>h s' (S2.perm ?_);rw[vR,bW];show List.Perm _ ((aW d0++((lv.a,aA (aG (lv.ps++[(tup,u,p)])))::(aL (lv.ps++[(tup,u,p)])++[])))++N);rw[jN,jM];show List.Perm _ ((aW d0++((lv.a,aA (aG lv.ps++[.ref tup]))::((aL lv.ps++[(tup,dZ (u,p))])++[])))++N);walk_at "perm"
theorem mE{K:Sink W}{σ:K.σ}{w:Wn}{c:Wc}{m:Wm}{x:Str}{t:Tok}{Q:Value->Ac->Prop}(S':Sta W G env loc (aC W w c K.q m (K.L σ++N)) s)(hA:Aok 3 A)(hr:K.room σ 1)(k:∀ s',Sta W G env loc (aC W w c K.q m (K.L (K.push σ x)++N)) s'->Q .none s'):(∃ N st,W.K.In s.heap/\Led W.B (K.L st++N) s.heap)/\Ad W.M A (call (.ref K.q) [.str x t]) Q E s:=
 ⟨S'.sinkLed (L':=[]) (by walk_at "mid"),S'.sink hA hr (by walk_at "mid") k⟩
theorem wn_mid{w:Wn}{c:Wc}{q:Addr}{m:Wm}{X:Addr×Cell}{L:Lg}:(aC W w c q m (L++(X::N))).Perm (X::aC W w c q m (L++N)):=aDr (aAh nH)
noncomputable abbrev iJ(W:Wd)(w:Wn)(c:Wc)(q:Addr)(m:Wm)(dl:List Lv)(N:Lg):Lg:=(w.x,bG 143 w.dx)::(w.dx,aS (fW w c q m))::(w.dns,aA (aK dl))::(aW dl++N)
theorem aDm{L ga sp:Addr}{w:Wn}{c:Wc}{q:Addr}{m:Wm}{qn u l:Str}{tq tu tl:Tok}{d0:List Lv}{lv:Lv}{xs:List (Addr×NsP)}{sh own:Lg}{og:Gens}{vu vp:Option Value}{R:Result->Ac->Prop}(I:IsC W)(hA:Aok 10 A)(hmem:∀ q∈xs,(q.1,dZ q.2)∈sh)(hsm:∀ q∈xs,gY q.2)(hl:l.length<=1000)(hz:lv.ps.length<=1000)(S:Sta W (G++og) (cS L) (iV w.x qn tq u tu l tl sp vu vp) (iJ W w c q m (d0++[lv]) N++(sh++own)) s)(hy:YdR W sh ga (λ(q:Addr×NsP) v=>v=.ref q.1) xs own og)(kf:∀ p a tup t1 t2 t3 loc' s',(xs.map (·.2)).find? (λ q=>decide (q.1=u))=some (u,p)->Sta W G (cS L) loc' ((a,aJ [.str (gI p l) t1,.str l t2,.str u t3])::(iJ W w c q m (cQ (tup,u,p) (d0++[lv])) N++sh)) s'->R (.ok (.ret (.ref a))) s')(kn:∀ vu vp s',(xs.map (·.2)).find? (λ q=>decide (q.1=u))=none->Sta W G (cS L) (iV w.x qn tq u tu l tl sp vu vp) (iJ W w c q m (d0++[lv]) N++sh) s'->R (.ok .next) s')(tg:Expr)(body:List Stmt)(htg:tg=fTgt aCs)(hbd:body=iL aCs):codeAny W.M A (.forLoop tg (.ref ga) body [] (cS L)) R s:=by
 subst htg hbd;have hcl:=I.cl;refine oA (sh:=sh) (f:=λ(q:Addr×NsP)=>.ref q.1) (hA.le (by decide)) (λ(v:Option Value×Option Value) _=>iV w.x qn tq u tu l tl sp v.1 v.2) (λ _ _=>iJ W w c q m (d0++[lv]) N) (λ _ dn=>(dn.map (·.2)).find? (λ q=>decide (q.1=u))=none) hy (vu,vp) rfl S ?_ ?_
 rotate_left
 ·refine pr3 ?_;intro qa qv qp dn rest tl' tg vw s1 K hx hf S' kk _ kret;clear S;replace hf:(dn.map (·.2)).find? (λ q=>decide (q.1=u))=none:=hf;have hqx:(qa,qv,qp)∈xs:=by rw[hx];simp
  have hps:qp.length<=1000:=(hsm _ hqx).2;have hmq:(qa,dZ (qv,qp))∈aW (d0++[lv])++N++(sh++tl'):=Ag _ (Am _ (hmem _ hqx));walk_at "zd";simp only[iJ,Ar]at S';refine Sta.unpackPr S' hA.handled (by walk_at "mem") (by kernel_rfl) (by kernel_rfl) ?_;clear S';intro t1 t2 s' S';refine assignInOrder_cons ?_;refine assign_Name ?_;walk_at "c";refine assignInOrder_cons ?_;refine assign_Name ?_;walk_at "c";refine assignInOrder_nil ?_;refine aR ?_;walk_at "c";refine wB (λ e=>?_) (λ e=>?_)
  ·subst e;have hlast:=eU d0 lv;have hfd:(xs.map (·.2)).find? (λ q=>decide (q.1=qv))=some (qv,qp):=by
    rw[hx,Ao,List.find?_append,hf,Ak,List.find?_cons_of_pos (by simp)];rfl
   walk_at "c";refine Sta.sub_last S' (by walk_at "mem") hlast ?_;have hlm:(lv.a,aA (aG lv.ps))∈aW (d0++[lv])++N++(sh++tl'):=Am _ (Am _ (nM (by simp)));walk_at "c";revert a';intro tup S';refine Sta.addPr (d0:=d0) (lv:=lv) (N:=(w.x,bG 143 w.dx)::(w.dx,aS (fW w c q m))::(w.dns,aA (aK (d0++[lv])))::(N++(sh++tl'))) hz (S'.perm (by walk_at "perm")) ?_;clear S';intro s' S';have hfin:∀ a t1 t2 t3 loc2 s2,Sta W (G++tg) (cS L) loc2 ((a,aJ [.str (gI qp l) t1,.str l t2,.str qv t3])::(aW (cQ (tup,qv,qp) (d0++[lv]))++((w.x,bG 143 w.dx)::(w.dx,aS (fW w c q m))::(w.dns,aA (aK (d0++[lv])))::(N++(sh++tl'))))) s2->K (.ret (.ref a)) s2:=by
    intro a t1 t2 t3 loc2 s2 S2;refine kret _ _ ?_;refine kf qp a tup t1 t2 t3 loc2 s2 hfd (S2.fewer.sel (Sel.rest tl' ?_));simp only[iJ,dF]
    walk_at "perm"
   walk_at "c";refine dH S' (by walk_at "o") (λ h0=>?_) (λ h0=>?_)
   ·clear S';intro s' S';have ht:gI qp l=l:=if_pos h0;rw[ht]at hfin;walk_at "c";exact hfin _ _ _ _ _ _ S'
   ·clear S';intro s' S';have ht:gI qp l=qp++":"++l:=if_neg h0;have h1:(":":Str).length=1:=by decide +kernel
    rw[ht]at hfin;walk_at "c";rw[Str.empty_append]at S';exact hfin _ _ _ _ _ _ S'
  ·walk_at "c";refine(kk (_,_) _ ?_ S').1;show((dn++[(qa,qv,qp)]).map (·.2)).find? _=none;rw[Ao,List.find?_append,hf,Ak,List.find?_cons_of_neg (by simpa using e)]
   rfl
 ·intro vw s1 hf S1;exact kn vw.1 vw.2 s1 hf S1
structure NSt where
 decl:List (List NsP)
 nss:List (List NsP)
 pm:List (Str×Str)
noncomputable def bF(m:Wm):NSt:=⟨m.dl.map Lv.val,m.nl.map Lv.val,m.pm.map λ p=>(p.1,p.2.1)⟩
noncomputable def fQ(k:Nat):Str:="n"++(toString (k:Int):String)
noncomputable def qnV(rw:Bool)(s:NSt)(u l:Str):Option (Str×NSt):=
 match findN u [] (aX s.decl)with
 | some p=>some (gI p l,s)
 | none=>
  if rw=true then
   match s.pm.find? (λ q=>decide (q.1=u))with
   | some q=>some ((q.2++":"++l:Str),{ s with decl:=cG (u,q.2) s.decl })
   | none=>some ((fQ s.pm.length++":"++l:Str),{ s with decl:=cG (u,fQ s.pm.length) s.decl,pm:=s.pm++[(u,fQ s.pm.length)] })
  else if u=""/\("":Str)∉(aX s.decl).map (·.2)then some (l,s)
  else match(aX s.nss).find? (λ q=>decide (q.1=u))with
   | some q=>some (gI q.2 l,{ s with decl:=cG (u,q.2) s.decl })
   | none=>if u="" then some (l,s)else none
structure NsOk (s:NSt):Prop where
 d1:∀ q∈aX s.decl,gY q
 d2:(aX s.decl).length<=60
 n1:∀ q∈aX s.nss,gY q
 n2:(aX s.nss).length<=1000
 p1:∀ q∈s.pm,gY q
 p2:s.pm.length<=60
 ne:s.decl≠[]
structure NmOk (x u l:Str):Prop where
 len:x.length<=500
 ul:u.length<=500
 ll:l.length<=500
 br:(Txt.slice x none (some 1)="{"/\Txt.rsplitMax (Txt.slice x (some 1) none) "}" 1=[u,l])\/(Txt.slice x none (some 1)≠"{"/\u=""/\l=x)
theorem SliceSK.mk{W:Wd}{env:Env}{Q:Value->Ac->Prop}{G:Gens}{loc:Loc}{nw:Lg}{s:Ac}{x:Str}{t:Tok}{lo hi:Option Int}{vl vu:Value}(S:Sta W G env loc nw s)(hz:x.length<=Au)(pl:IsPart vl lo)(pu:IsPart vu hi)(k:∀ t' s',Sta W G env loc nw s'->Q (.str (Txt.slice x lo hi) t') s'):SliceSK W env Q (.str x t) vl vu s:=⟨G,loc,nw,x,t,lo,hi,S,rfl,hz,pl,pu,k⟩
theorem eP{W:Wd}{sh:Lg}{it:Addr}:∀{xs:List (Addr×NsP)} {own:Lg} {og:Gens},cN W sh it (aG xs) own og->YdR W sh it (λ(q:Addr×NsP) v=>v=.ref q.1) xs own og
 | [],_,_,H=>H
 | q::r,_,_,H=>⟨H.1,λ A R GR s Q E hA S hQ=>H.2 A R GR s Q E hA S λ own' og' s' S' H'=>hQ _ own' og' s' rfl S' (eP (xs:=r) H')⟩
theorem xG(ls:List Lv):(ls.map λ l=>(l.a,aG l.ps)).reverse.flatMap (·.2)=aG (pG ls):=by
 unfold pG aG;rw[List.map_flatMap,←List.map_reverse,List.flatMap_map]
theorem aBW(u:Str):∀ l:List (Str×Str×Tok),(l.map λ p=>(p.1,p.2.1)).find? (λ q=>decide (q.1=u))=(l.find? λ q=>decide (q.1=u)).map λ p=>(p.1,p.2.1):=by
 intro l0
 induction l0 with
 | nil=>
  exact rfl
 | cons p r ih=>
  rw[Ak,List.find?_cons,List.find?_cons]
  by_cases e:p.1=u
  ·simp[e]
  ·simp only[decide_eq_false e]
   exact ih
theorem uH(u:Str):∀ l:List (Str×Str×Tok),valueAt (pmV l) u=(l.find? λ q=>decide (q.1=u)).map λ p=>.str p.2.1 p.2.2:=by
 intro l;unfold valueAt pmV;rw[List.find?_map,Option.map_map]
 rfl
open PySem.Builtin.Str in
theorem uU{x y u l:Str}{k:Int}(h:Txt.rsplitMax x y k=[u,l]):(partsBetween x (occurrencesFromRight x y (limitOf x k)) y.length).length<=2:=by
 unfold Txt.rsplitMax at h
 split at h
 ·cases h
 ·split at h
  ·cases h
  ·rw[h];exact AG 2
theorem qHead{L:Addr}{w:Wn}{c:Wc}{q:Addr}{m:Wm}{x u l:Str}{t:Tok}{Q:Flow->Ac->Prop}(I:IsC W)(hA:Aok 13 A)(hx:NmOk x u l)(S':Sta W G (cS L) [("self",some (.ref w.x)),("qname",some (.str x t)),("uri",some .none),("tag",none),("prefixes_seen",none),("u",none),("prefix",none)] N s)(k:∀ sp X tu tl s',Sta W G (cS L) (iV w.x x t u tu l tl sp none none) ((sp,bI W (λ _=>false) 0)::(X++N)) s'->Ad W.M A (execs ((aH cI).drop 2) (cS L)) Q E s'):Ad W.M A (execs ((aH cI).drop 0) (cS L)) Q E s:=by
 have hxl:=hx.len;walk_at "c";refine wS ?_ (by intro _ _;kernel_rfl);walk_at "c";refine SliceSK.mk S' (by walk_at "osz") .none (.int _ _) ?_;clear S';intro t1 s' S';walk_at "c";rcases hx.br with⟨h1,h2⟩ | ⟨h1,h2,h3⟩
 ·refine wB (λ _=>?_) (λ e=>absurd h1 e);walk_at "c";refine wS ?_ (by intro _ _;kernel_rfl);walk_at "c";refine SliceSK.mk S' (by walk_at "osz") (.int _ _) .none ?_;clear S';intro t2 s' S';refine rO ?_;walk_at "c";have hsl:(Txt.slice x (some 1) none).length<=500:=An (Txt.slice_le x _ _) hxl;refine Sta.rsplitMax S' (by decide +kernel) (by decide +kernel) (by walk_at "o") (An (uU h2) (by rw[Av];decide)) ?_;clear S';intro a s' S';rw[h2]at S';refine Sta.unpackTx S' .head (hA.le (by decide)) (by kernel_rfl) (by kernel_rfl) ?_;clear S';intro vs s' hv S';obtain⟨t3,t4,rfl⟩:=hv.two;refine assignInOrder_cons ?_;refine assign_Name ?_;walk_at "c";refine assignInOrder_cons ?_;refine assign_Name ?_;walk_at "c";refine assignInOrder_nil ?_;walk_at "kn";refine aF rfl ?_;walk_at "c";refine Sta.builtin S' I.b_set wJ (by kernel_rfl) ?_;walk_at "st";exact k a' [] _ _ _ S'
 ·refine wB (λ e=>absurd e h1) (λ _=>?_);walk_at "c";revert a';intro tpl S';revert t';intro tz S';refine assignInOrder_cons ?_;refine assign_Name ?_;walk_at "c";refine assignInOrder_cons ?_;refine assign_Name ?_;walk_at "c";refine assignInOrder_nil ?_;walk_at "kn";refine aF rfl ?_;walk_at "c";refine Sta.builtin S' I.b_set wJ (by kernel_rfl) ?_;walk_at "st";subst h2 h3;exact k _ [(tpl,aJ [.str "" tz,.str l t])] _ _ _ S'
noncomputable abbrev ifB(st:Stmt):List Stmt:=aH st
theorem zB:∀ n:Fin 61,(Str.ofString (toString (n.val:Int))).length<=2:=by decide +kernel
theorem Sta.setItemD{W:Wd}{G:Gens}{env:Env}{loc:Loc}{nw nw':Lg}{s:Ac}{A:AJ}{E:Value->Ac->Prop}{d:Addr}{kvs:List (Str×Value)}{x:Str}{t:Tok}{v:Value}{Q:Unit->Ac->Prop}(S:Sta W G env loc nw s)(U:Upd d (IsD W d kvs) (IsD W d (stored kvs x v)) nw nw')(hz:kvs.length<=1000000)(h:∀ s',Sta W G env loc nw' s'->Q () s'):Ad W.M A (PySem.setItem (.ref d) (.str x t) v) Q E s:=by
 obtain⟨hd,hn⟩:=S.dictAt U.mem;refine wpAny_setItem_pairs (strKind_is _ _ x t) hd (λ h' hm hs=>?_) (by walk_at "osz");obtain⟨o,ho,hdo⟩:=Heap.dictOf_iff.mp hm;exact h _ (S.set U (λ b o hb e=>(hs.2 b hb).trans e) ho ⟨by simpa using hn,hdo⟩ _)
theorem Sta.lenD{W:Wd}{G:Gens}{env:Env}{loc:Loc}{nw:Lg}{s:Ac}{A:AJ}{E:Value->Ac->Prop}{d:Addr}{kvs:List (Str×Value)}{Q:Value->Ac->Prop}(S:Sta W G env loc nw s)(m:(d,IsD W d kvs)∈nw)(hz:kvs.length<=1000000)(h:∀ t s',Sta W G env loc nw s'->Q (.int (kvs.length:Int) t) s'):Ad W.M A (call (.builtin "len") [.ref d]) Q E s:=by
 obtain⟨hd,hn⟩:=S.dictAt m;exact call_len_dict hn hd (by walk_at "o") (h _ _ (S.toks _))
theorem aAe{L sp:Addr}{w:Wn}{c:Wc}{q:Addr}{m:Wm}{x u l p:Str}{tq tu tl tp:Tok}{T:Str->Bool}{n:Nat}{vu:Option Value}{d0:List Lv}{lv:Lv}{Q:Flow->Ac->Prop}(I:IsC W)(hd:m.dl=d0++[lv])(hlz:lv.ps.length<=1000)(hll:l.length<=500)(hp:p.length<=1000)(S':Sta W G (cS L) (iV w.x x tq u tu l tl sp vu (some (.str p tp))) ((sp,bI W T n)::aC W w c q m N) s)(k:∀ a tup t1 t2 t3 loc' s',Sta W G (cS L) loc' ((a,aJ [.str (p++":"++l) t1,.str l t2,.str u t3])::(sp,bI W T n)::aC W w c q { m with dl:=cQ (tup,u,p) m.dl } N) s'->Q (.ret (.ref a)) s')(body:List Stmt)(hb:body=(ifB ((aH cI).getD 3 (.Pass default))).drop 1):Ad W.M A (execs body (cS L)) Q E s:=by
 subst hb;have hcl:=I.cl;have hlast:(aK m.dl).getLast?=some (.ref lv.a):=by rw[hd];exact eU d0 lv
 have h1:(":":Str).length=1:=by decide +kernel
 have hlm:(lv.a,aA (aG lv.ps))∈aW m.dl++(aW m.nl++N):=Am _ (nM (by rw[hd];simp));walk_at "zd";simp only[iV,aC,fW]at S';refine aR ?_;walk_at "c";refine Sta.sub_last S' (by walk_at "mem") hlast ?_;walk_at "c";revert a';intro tup S';refine Sta.addPr (d0:=d0) (lv:=lv) (N:=(sp,bI W T n)::(w.x,bG 143 w.dx)::(w.dx,aS (fW w c q m))::(w.d,aB m.held)::(w.dns,aA (aK m.dl))::(w.ns,aA (aK m.nl))::(w.pm,IsD W w.pm (pmV m.pm))::(w.ps,aA (m.ps.map .bool))::(aW m.nl++N)) hlz (S'.perm (by walk_at "zg";rw[hd];walk_at "perm")) ?_;clear S';intro s' S';rw[←hd]at S';have hfin:∀ a t1 t2 t3 loc2 s2,Sta W G (cS L) loc2 ((a,aJ [.str (p++":"++l) t1,.str l t2,.str u t3])::(aW (cQ (tup,u,p) m.dl)++((sp,bI W T n)::(w.x,bG 143 w.dx)::(w.dx,aS (fW w c q m))::(w.d,aB m.held)::(w.dns,aA (aK m.dl))::(w.ns,aA (aK m.nl))::(w.pm,IsD W w.pm (pmV m.pm))::(w.ps,aA (m.ps.map .bool))::(aW m.nl++N)))) s2->Q (.ret (.ref a)) s2:=by
  intro a t1 t2 t3 loc2 s2 S2;refine k a tup t1 t2 t3 loc2 s2 (S2.perm ?_);simp only[aC,dF]
  walk_at "perm"
 walk_at "c";rw[Str.empty_append]at S';exact hfin _ _ _ _ _ _ S'
theorem qRw{L sp:Addr}{w:Wn}{c:Wc}{q:Addr}{m:Wm}{x u l:Str}{tq tu tl:Tok}{T:Str->Bool}{n:Nat}{vu vp:Option Value}{d0:List Lv}{lv:Lv}{sv:NSt}{tx:Str}{Q:Flow->Ac->Prop}(I:IsC W)(hA:Aok 13 A)(hrw:c.rw=true)(hd:m.dl=d0++[lv])(hlz:lv.ps.length<=1000)(hok:NsOk (bF m))(hll:l.length<=500)(hul:u.length<=500)(hno:findN u [] (aX (bF m).decl)=none)(hq:qnV c.rw (bF m) u l=some (tx,sv))(S':Sta W G (cS L) (iV w.x x tq u tu l tl sp vu vp) ((sp,bI W T n)::aC W w c q m N) s)(k:∀ a dl pm t1 t2 t3 loc' s',bF { m with dl:=dl,pm:=pm }=sv->aK dl=aK m.dl->Sta W G (cS L) loc' ((a,aJ [.str tx t1,.str l t2,.str u t3])::(sp,bI W T n)::aC W w c q { m with dl:=dl,pm:=pm } N) s'->Q (.ret (.ref a)) s'):Ad W.M A (execs ((aH cI).drop 3) (cS L)) Q E s:=by
 have hcl:=I.cl;have hps:=hok.p1;have hpl:m.pm.length<=60:=by have:=hok.p2;simpa[bF]using this
 have hval:∀ tup p,(cQ (tup,u,p) m.dl).map Lv.val=cG (u,p) (bF m).decl:=λ tup p=>fR _ _;unfold qnV at hq;rw[hno,if_pos hrw]at hq;have hfp:(bF m).pm.find? (λ q=>decide (q.1=u))=(m.pm.find? λ q=>decide (q.1=u)).map λ p=>(p.1,p.2.1):=aBW u m.pm;have hva:=uH u m.pm;rw[hfp]at hq;walk_at "zd";simp only[iV,aC,fW]at S';walk_at "zd";rw[hrw]at S';walk_at "c";refine Sta.inD S' (by walk_at "mem") ?_;clear S';intro s' S';rw[hva];cases hfd:m.pm.find? (λ q=>decide (q.1=u))with
 | some r=>
  rw[hfd]at hq hva;simp only[Option.map_some,Option.some.injEq,Prod.mk.injEq]at hq;obtain⟨rfl,rfl⟩:=hq;have hr:r.2.1.length<=1000:=by
   have:(r.1,r.2.1)∈(bF m).pm:=Ah.mpr ⟨r,List.mem_of_find?_eq_some hfd,rfl⟩;exact(hps _ this).2
  rw[show(Option.map (λ p:Str×Str×Tok=>Value.str p.2.1 p.2.2) (some r)).isSome=true from rfl];walk_at "c";refine Sta.subD S' (by walk_at "mem") hva ?_;clear S';intro s' S';refine Sta.store S' (by walk_at "put") ?_;clear S';intro s' S';walk_at "kn";have hkf:∀ a tup t1 t2 t3 loc' s',Sta W G (cS L) loc' ((a,aJ [.str (r.2.1++":"++l) t1,.str l t2,.str u t3])::(sp,bI W T n)::aC W w c q { m with dl:=cQ (tup,u,r.2.1) m.dl } N) s'->Q (.ret (.ref a)) s':=by
   intro a tup t1 t2 t3 loc' s' S2;refine k a (cQ (tup,u,r.2.1) m.dl) m.pm t1 t2 t3 loc' s' ?_ (dF _ _) S2;show NSt.mk ((cQ (tup,u,r.2.1) m.dl).map Lv.val) _ _=_;rw[hval]
   rfl
  refine aAe I hd hlz hll hr (by walk_at "zd";rw[←hrw]at S';exact S') ?_ _ rfl;intro a tup t1 t2 t3 loc' s' S2;walk_at "kv";exact hkf a tup t1 t2 t3 loc' s' S2
 | none=>
  rw[hfd]at hq hva;simp only[Option.map_none,Option.some.injEq,Prod.mk.injEq]at hq;obtain⟨rfl,rfl⟩:=hq;rw[show(Option.map (λ p:Str×Str×Tok=>Value.str p.2.1 p.2.2) none).isSome=false from rfl];have hnk:u∉(pmV m.pm).map (·.1):=by
   intro hm;obtain⟨a,ha,e⟩:=Ah.mp hm;obtain⟨b,hb,rfl⟩:=Ah.mp ha;have:=List.find?_eq_none.mp hfd b hb;simp at this;exact this e
  have hn1:("n":Str).length=1:=by decide +kernel
  have hpz:(pmV m.pm).length=m.pm.length:=Al ..;walk_at "c";refine wpAny_Assign_two ?_ (by kernel_rfl) (by kernel_rfl);walk_at "c";refine Sta.builtin S' I.b_len kY (by kernel_rfl) ?_;walk_at "c";refine Sta.lenD S' (by walk_at "mem") (by walk_at "o") ?_;clear S';intro tn s' S';rw[hpz];refine Sta.fmtI S' (by walk_at "o") ?_;clear S';intro t3 s' S';have hds:(Str.ofString (toString (m.pm.length:Int))).length<=2:=zB ⟨m.pm.length,by walk_at "o"⟩;generalize hpx:(Str.ofString (toString (m.pm.length:Int)))=dg at S' hds ⊢;walk_at "c";rw[Str.empty_append]at S' ⊢;refine kas_sub ?_;walk_at "c";refine Sta.setItemD S' (by walk_at "upd") (by walk_at "o") ?_;clear S';intro s' S';walk_at "zd";rw[iN hnk]at S';walk_at "kn";have hpn:fQ m.pm.length="n"++dg:=by rw[←hpx];rfl
  have hpl2:("n"++dg:Str).length<=1000:=by rw[Str.length_append];walk_at "o"
  have hnl:(bF m).pm.length=m.pm.length:=Al ..;rw[hnl,hpn]at k;revert t';intro tz S';refine aAe (m:={ m with pm:=m.pm++[(u,"n"++dg,tz)] }) (p:="n"++dg) I hd hlz hll hpl2 (by
   walk_at "zd";rw[←hrw]at S';have e:pmV (m.pm++[(u,"n"++dg,tz)])=pmV m.pm++[(u,.str ("n"++dg) tz)]:=Ao;simp only[aC,fW,e]
   exact S') ?_ _ rfl
  intro a tup t1 t2 t3 loc' s' S2;walk_at "kv";refine k a (cQ (tup,u,"n"++dg) m.dl) (m.pm++[(u,"n"++dg,tz)]) t1 t2 t3 loc' s' ?_ (dF _ _) S2;show NSt.mk ((cQ (tup,u,"n"++dg) m.dl).map Lv.val) _ ((m.pm++[(u,"n"++dg,tz)]).map _)=_;rw[hval,Ao]
  rfl
theorem jY{ls:List (List NsP)}{l:List NsP}(h:l∈ls):l.length<=(aX ls).length:=by
 have hm:l∈ls.reverse:=List.mem_reverse.mpr h;unfold aX;generalize ls.reverse=r at hm
 induction r with
 | nil=>cases hm
 | cons a r ih=>
  rw[List.flatten_cons,Ae];rcases At.mp hm with rfl | hm
  ·walk_at "o"
  ·have:=ih hm;walk_at "o"
theorem zA{u:Str}(h:u.length=0):u="":=Str.ext' (by rw[Str.len_list]at h;rw[Bs.mp h];decide +kernel)
theorem qTold{L sp:Addr}{w:Wn}{c:Wc}{q:Addr}{m:Wm}{x u l:Str}{tq tu tl:Tok}{T:Str->Bool}{n:Nat}{vu vp:Option Value}{d0:List Lv}{lv:Lv}{sv:NSt}{tx:Str}{Q:Flow->Ac->Prop}(I:IsC W)(hA:Aok 13 A)(hd:m.dl=d0++[lv])(hlz:lv.ps.length<=1000)(hok:NsOk (bF m))(hll:l.length<=500)(hul:u.length<=500)(hq:(match(aX (bF m).nss).find? (λ q=>decide (q.1=u))with
   | some q=>some (gI q.2 l,{ bF m with decl:=cG (u,q.2) (bF m).decl })
   | none=>if u="" then some (l,bF m)else none)=some (tx,sv))(S':Sta W G (cS L) (iV w.x x tq u tu l tl sp vu vp) ((sp,bI W T n)::aC W w c q m N) s)(k:∀ a dl pm X t1 t2 t3 loc' s',bF { m with dl:=dl,pm:=pm }=sv->aK dl=aK m.dl->Sta W G (cS L) loc' ((a,aJ [.str tx t1,.str l t2,.str u t3])::(X++aC W w c q { m with dl:=dl,pm:=pm } N)) s'->Q (.ret (.ref a)) s'):Ad W.M A (execs ((aH cI).drop 5) (cS L)) Q E s:=by
 have hcl:=I.cl;have hval:∀ tup p,(cQ (tup,u,p) m.dl).map Lv.val=cG (u,p) (bF m).decl:=λ tup p=>fR _ _;have hxs:(pG m.nl).map (·.2)=aX (bF m).nss:=tE m.nl;have hlv:(m.nl.map λ l=>(l.a,aG l.ps)).map (λ p=>Value.ref p.1)=aK m.nl:=by simp[aK]
 walk_at "zd";refine aF rfl ?_;refine wpAny_For ?_ (by intro _;kernel_rfl);walk_at "c";refine Sta.getM_inst (f:=68) S' hcl (by walk_at "mem") (by walk_at "mem") VV.keys (by decide +kernel) (by rw[I.k];kernel_rfl) (by rw[I.k];kernel_rfl) ?_;walk_at "c";refine aCK (N:=iJ W w c q m m.dl ((sp,bI W T n)::(w.d,aB m.held)::(w.pm,IsD W w.pm (pmV m.pm))::(w.ps,aA (m.ps.map .bool))::N)) (sh:=(w.ns,aA (aK m.nl))::aW m.nl)
  (lv:=m.nl.map λ l=>(l.a,aG l.ps)) I (S'.perm (by walk_at "perm")) (hA.le (by decide)) (by rw[hlv];exact .head _) ?_ ?_
 ·intro p hp;obtain⟨l,hl,rfl⟩:=Ah.mp hp;refine⟨.tail _ (nM hl),?_⟩;have h1:=jY (ls:=(bF m).nss) (Ah.mpr ⟨l,hl,rfl⟩);have h2:=hok.n2;have h3:l.val.length=(aG l.ps).length:=by simp[Lv.val,aG]
  rw[Av];show(aG l.ps).length<=_;walk_at "o"
 clear S';intro ga g own gs s' S' hy;refine S'.iterGen (g:=g) (by simp) ?_;rw[xG]at hy;walk_at "zd";rw[hd]at S';refine aDm (xs:=pG m.nl) (sh:=(w.ns,aA (aK m.nl))::aW m.nl) (d0:=d0) (lv:=lv) I (hA.le (by decide)) (λ r hr=>.tail _ (tF hr)) (λ r hr=>hok.n1 _ (by rw[←hxs];exact Ah.mpr ⟨r,hr,rfl⟩)) (by walk_at "o") hlz S' (eP hy) ?_ ?_ _ _ rfl rfl
 ·clear S';intro p a tup t1 t2 t3 loc' s' hf S';rw[hxs]at hf;rw[hf]at hq;simp only[Option.some.injEq,Prod.mk.injEq]at hq;obtain⟨rfl,rfl⟩:=hq;walk_at "zd";rw[←hd]at S';refine k a (cQ (tup,u,p) m.dl) m.pm [(sp,bI W T n)] t1 t2 t3 loc' s' ?_ (dF _ _) (S'.perm ?_)
  ·show NSt.mk ((cQ (tup,u,p) m.dl).map Lv.val) _ _=_;rw[hval];rfl
  ·dsimp only[aC,iJ,dF]
   walk_at "perm"
 ·clear S';intro vu vp s' hf S';rw[hxs]at hf;rw[hf]at hq;walk_at "zd";rw[←hd]at S'
  by_cases hu:u=""
  ·simp only[if_pos hu,Option.some.injEq,Prod.mk.injEq]at hq;obtain⟨rfl,rfl⟩:=hq;have hul0:u.length=0:=by rw[hu];decide +kernel
   have hfin:∀ a t1 t2 t3 loc2 s2,Sta W G (cS L) loc2 ((a,aJ [.str l t1,.str l t2,.str u t3])::(iJ W w c q m m.dl ((sp,bI W T n)::(w.d,aB m.held)::(w.pm,IsD W w.pm (pmV m.pm))::(w.ps,aA (m.ps.map .bool))::N)++((w.ns,aA (aK m.nl))::aW m.nl))) s2->Q (.ret (.ref a)) s2:=by
    intro a t1 t2 t3 loc2 s2 S2;refine k a m.dl m.pm [(sp,bI W T n)] t1 t2 t3 loc2 s2 rfl rfl (S2.perm ?_);simp only[aC,iJ]
    walk_at "perm"
   walk_at "zd";walk_at "c";refine dH S' (by walk_at "o") (λ _=>?_) (λ h=>absurd hul0 h);clear S';intro s' S';walk_at "c";exact hfin _ _ _ _ _ _ S'
  ·simp only[if_neg hu]at hq;cases hq
theorem qKeep{L sp:Addr}{w:Wn}{c:Wc}{q:Addr}{m:Wm}{x u l:Str}{tq tu tl:Tok}{T:Str->Bool}{n:Nat}{vu vp:Option Value}{d0:List Lv}{lv:Lv}{sv:NSt}{tx:Str}{Q:Flow->Ac->Prop}(I:IsC W)(hA:Aok 13 A)(hrw:c.rw=false)(hd:m.dl=d0++[lv])(hlz:lv.ps.length<=1000)(hok:NsOk (bF m))(hll:l.length<=500)(hul:u.length<=500)(hT:∀ k,T k=decide (k∈(aX (bF m).decl).map (·.2)))(hn:n<=60)(hno:findN u [] (aX (bF m).decl)=none)(hq:qnV c.rw (bF m) u l=some (tx,sv))(S':Sta W G (cS L) (iV w.x x tq u tu l tl sp vu vp) ((sp,bI W T n)::aC W w c q m N) s)(k:∀ a dl pm X t1 t2 t3 loc' s',bF { m with dl:=dl,pm:=pm }=sv->aK dl=aK m.dl->Sta W G (cS L) loc' ((a,aJ [.str tx t1,.str l t2,.str u t3])::(X++aC W w c q { m with dl:=dl,pm:=pm } N)) s'->Q (.ret (.ref a)) s'):Ad W.M A (execs ((aH cI).drop 3) (cS L)) Q E s:=by
 have hcl:=I.cl;have hsb:n<Bu:=AS hn (by decide);have hval:∀ tup p,(cQ (tup,u,p) m.dl).map Lv.val=cG (u,p) (bF m).decl:=λ tup p=>fR _ _;unfold qnV at hq;rw[hno,if_neg (by rw[hrw];decide)]at hq;walk_at "zd";walk_at "c";refine aDP hrw ?_;walk_at "c";have htold:(¬(u=""/\("":Str)∉(aX (bF m).decl).map (·.2)))->∀ s2,Sta W G (cS L) (iV w.x x tq u tu l tl sp vu vp) ((sp,bI W T n)::aC W w c q m N) s2->Ad W.M A (execs ((aH cI).drop 5) (cS L)) Q E s2:=by
  intro hc s2 S2;rw[if_neg hc]at hq;exact qTold I hA hd hlz hok hll hul hq S2 k
 refine dH S' (by walk_at "o") (λ h0=>?_) (λ h0=>?_)
 ·clear S';intro s' S';have hu:=zA h0;walk_at "c";cases hTe:T "" with
  | true=>
   refine dG ?_;walk_at "st";refine htold ?_ _ S'
   rintro⟨_,h⟩
   rw[hT]at hTe;exact h (of_decide_eq_true hTe)
  | false=>
   have hne:("":Str)∉(aX (bF m).decl).map (·.2):=by
    rw[hT]at hTe;exact of_decide_eq_false hTe
   rw[if_pos ⟨hu,hne⟩]at hq;simp only[Option.some.injEq,Prod.mk.injEq]at hq;obtain⟨rfl,rfl⟩:=hq;have hfin:∀ a t1 t2 t3 loc2 s2,Sta W G (cS L) loc2 ((a,aJ [.str l t1,.str l t2,.str u t3])::(sp,bI W T n)::aC W w c q m N) s2->Q (.ret (.ref a)) s2:=λ a t1 t2 t3 loc2 s2 S2=>k a m.dl m.pm [(sp,bI W T n)] t1 t2 t3 loc2 s2 rfl rfl S2;refine eZ ?_;walk_at "c";exact hfin _ _ _ _ _ _ S'
 ·clear S';intro s' S';walk_at "st";refine htold ?_ _ S'
  rintro⟨h,_⟩
  rw[h]at h0;exact h0 (by decide +kernel)
theorem aB0{m:Wm}(h:NsOk (bF m)):∃ d0 lv,m.dl=d0++[lv]/\lv.ps.length<=60:=by
 have hne:m.dl≠[]:=λ e=>h.ne (by show m.dl.map Lv.val=[];rw[e];rfl);refine⟨m.dl.dropLast,m.dl.getLast hne,(AA hne).symm,?_⟩;have h1:=jY (ls:=(bF m).decl) (Ah.mpr ⟨m.dl.getLast hne,List.getLast_mem hne,rfl⟩);have h2:=h.d2;have h3:(m.dl.getLast hne).val.length=(m.dl.getLast hne).ps.length:=Al ..;walk_at "o"
theorem wX{w:Wn}{c:Wc}{q:Addr}{m:Wm}{x u l:Str}{t:Tok}{sv:NSt}{tx:Str}{R:Result->Ac->Prop}(I:IsC W)(S:Sta W G env loc (aC W w c q m N) s)(hA:Aok 14 A)(hx:NmOk x u l)(hok:NsOk (bF m))(hq:qnV c.rw (bF m) u l=some (tx,sv))(k:∀ a dl pm t1 t2 t3 s',bF { m with dl:=dl,pm:=pm }=sv->aK dl=aK m.dl->Sta W G env loc ((a,aJ [.str tx t1,.str l t2,.str u t3])::aC W w c q { m with dl:=dl,pm:=pm } N) s'->R (.ok (.ret (.ref a))) s'):codeAny W.M A (.call (.ref 83) ⟨[.ref w.x,.str x t],[]⟩) R s:=by
 obtain⟨d0,lv,hd,hlz⟩:=aB0 hok;refine S.code_fn (binds:=[("self",.ref w.x),("qname",.str x t),("uri",.none)]) ["tag","prefixes_seen","u","prefix"] I.f_qname hA.room ?_ (by kernel_rfl) ?_
 ·intro name doc pm ct an;exact kp_binds S.kin λ S=>by rw[I.k];kernel_rfl
 intro L s' S';have hA':=hA.deeper (env:=cS L);walk_at "zd";have hcl:=I.cl;have hxs:(pG m.dl).map (·.2)=aX (bF m).decl:=tE m.dl;have hlv:(m.dl.map λ l=>(l.a,aG l.ps)).map (λ p=>Value.ref p.1)=aK m.dl:=by simp[aK]
 have hxl:(pG m.dl).length=(aX (bF m).decl).length:=by rw[←hxs,Al]
 have hd2:=hok.d2;have hll:=hx.ll;have hfin:∀ a dl pm X t1 t2 t3 loc2 s2,bF { m with dl:=dl,pm:=pm }=sv->aK dl=aK m.dl->Sta W G (cS L) loc2 ((a,aJ [.str tx t1,.str l t2,.str u t3])::(X++aC W w c q { m with dl:=dl,pm:=pm } ((env.locals,aI loc)::N))) s2->R (.ok (.ret (.ref a))) s2:=by
  intro a dl pm X t1 t2 t3 loc2 s2 h1 h2 S2;refine k a dl pm t1 t2 t3 s2 h1 h2 (Sta.back (S2.sel (Sel.rest X ?_)) S.eok);simp only[aC]
  walk_at "perm"
 refine aR ?_;refine qHead (w:=w) (c:=c) (q:=q) (m:=m) I hA' hx S' ?_;clear S';intro sp X tu tl s' S';refine aF rfl ?_;refine wpAny_For ?_ (by intro _;kernel_rfl);replace S':=S'.perm (nw':=(sp,bI W (λ _=>false) 0)::aC W w c q m ((env.locals,aI loc)::(X++N))) (by simp only[aC];walk_at "perm");walk_at "zd";walk_at "c";refine Sta.getM_inst (f:=68) S' hcl (by walk_at "mem") (by walk_at "mem") VV.keys (by decide +kernel) (by rw[I.k];kernel_rfl) (by rw[I.k];kernel_rfl) ?_;walk_at "c";refine aCK (N:=(sp,bI W (λ _=>false) 0)::(w.x,bG 143 w.dx)::(w.dx,aS (fW w c q m))::(w.d,aB m.held)::(w.ns,aA (aK m.nl))::(w.pm,IsD W w.pm (pmV m.pm))::(w.ps,aA (m.ps.map .bool))::(aW m.nl++((env.locals,aI loc)::(X++N)))) (sh:=(w.dns,aA (aK m.dl))::aW m.dl)
  (lv:=m.dl.map λ l=>(l.a,aG l.ps)) I (S'.perm (by walk_at "perm")) (hA'.le (by decide)) (by rw[hlv];exact .head _) ?_ ?_
 ·intro p hp;obtain⟨l,hl,rfl⟩:=Ah.mp hp;refine⟨.tail _ (nM hl),?_⟩;have h1:=jY (ls:=(bF m).decl) (Ah.mpr ⟨l,hl,rfl⟩);have h3:l.val.length=(aG l.ps).length:=by simp[Lv.val,aG]
  rw[Av];show(aG l.ps).length<=_;walk_at "o"
 clear S';intro ga g own gs s' S' hy;refine S'.iterGen (g:=g) (by simp) ?_;rw[xG]at hy;have hul:=hx.ul;refine aDn (x:=w.x) (xs:=pG m.dl) (sh:=(w.dns,aA (aK m.dl))::aW m.dl) (hA'.le (by decide)) (λ r hr=>.tail _ (tF hr)) (by walk_at "o") (λ r hr=>hok.d1 _ (by rw[←hxs];exact Ah.mpr ⟨r,hr,rfl⟩)) (by walk_at "o") S' (eP hy) ?_ ?_ _ _ rfl rfl
 ·clear S';intro p a t1 t2 t3 loc' s' hf S';rw[hxs]at hf;unfold qnV at hq;rw[hf]at hq;simp only[Option.some.injEq,Prod.mk.injEq]at hq;obtain⟨rfl,rfl⟩:=hq;refine hfin a m.dl m.pm X t1 t2 t3 loc' s' rfl rfl (S'.perm ?_);simp only[aC]
  walk_at "perm"
 ·clear S';intro vu vp T n s' hno hT hn S';rw[hxs]at hno;have hT2:∀ k,T k=decide (k∈(aX (bF m).decl).map (·.2)):=by
   intro k;rw[hT k,←hxs,AZ]
   rfl
  have S2:=S'.perm (nw':=(sp,bI W T n)::aC W w c q m ((env.locals,aI loc)::(X++N))) (by simp only[aC];walk_at "perm");cases hrw:c.rw with
  | true=>
   refine qRw I hA' hrw hd (by walk_at "o") hok hll hul hno hq S2 ?_;intro a dl pm t1 t2 t3 loc2 s2 h1 h2 S3;refine hfin a dl pm ((sp,bI W T n)::X) t1 t2 t3 loc2 s2 h1 h2 (S3.perm ?_);walk_at "perm"
  | false=>
   refine qKeep I hA' hrw hd (by walk_at "o") hok hll hul hT2 (by walk_at "o") hno hq S2 ?_;intro a dl pm Y t1 t2 t3 loc2 s2 h1 h2 S3;refine hfin a dl pm (Y++X) t1 t2 t3 loc2 s2 h1 h2 (S3.perm ?_);walk_at "perm"
noncomputable def nmU(x:Str):Str:=if Txt.slice x none (some 1)="{" then(Txt.rsplitMax (Txt.slice x (some 1) none) "}" 1).getD 0 "" else ""
noncomputable def nmL(x:Str):Str:=if Txt.slice x none (some 1)="{" then(Txt.rsplitMax (Txt.slice x (some 1) none) "}" 1).getD 1 "" else x
noncomputable def NmG(x:Str):Prop:=NmOk x (nmU x) (nmL x)
noncomputable def oU(x tx:Str):Cell:=λ o=>∃ t1 t2 t3,aJ [.str tx t1,.str (nmL x) t2,.str (nmU x) t3] o
structure Pq where
 x:Str
 a:Addr
 tx:Str
noncomputable def bV(pl:List Pq):Lg:=pl.map λ p=>(p.a,oU p.x p.tx)
noncomputable def pqD(pl:List Pq):List (Str×Value):=pl.map λ p=>(p.x,.ref p.a)
noncomputable def gG(rw:Bool):NSt->List Str->Option (List (Str×Str)×NSt)
 | s,[]=>some ([],s)
 | s,x::r=>(qnV rw s (nmU x) (nmL x)).bind λ p=>(gG rw p.2 r).map λ q=>((x,p.1)::q.1,q.2)
theorem sQ{rw:Bool}{s:NSt}{x:Str}{r:List Str}:gG rw s (x::r)=(qnV rw s (nmU x) (nmL x)).bind λ p=>(gG rw p.2 r).map λ q=>((x,p.1)::q.1,q.2):=rfl
noncomputable def zF(rw:Bool):NSt->List Str->Prop
 | s,[]=>True
 | s,x::r=>NsOk s/\∃ p,qnV rw s (nmU x) (nmL x)=some p/\zF rw p.2 r
noncomputable abbrev mK(p:Pos):Arguments:=⟨[],[⟨"n",none,p⟩],none,[],[],none,[]⟩
noncomputable abbrev mJ(p1 p2 p3 p4 p5:Pos):Expr:=.Call (.Attribute (.Name "n" p1) "split" p2) [.Constant (.str "}") 0 p3,.Constant (.int 1) 0 p4] [] p5
noncomputable abbrev jU:Scope:={ kind:=.function,names:=[(Str.ofString "n",.local)],isGenerator:=false,isCoroutine:=false,more:=[] }
noncomputable abbrev aAX:Scope:={ kind:=.function,names:=[(Str.ofString ".0",.local),(Str.ofString "n",.local),(Str.ofString "parse_qname",.free)],isGenerator:=false,isCoroutine:=false,more:=[] }
noncomputable abbrev aC6:Str:="C14NWriterTarget._start"
noncomputable abbrev aN:Str:="C14NWriterTarget._start.<locals>.<lambda>"
noncomputable abbrev bT(L:Addr):Env:=envOfC aC6 (aD bQ) L 119 (.ref 118)
noncomputable def cA(x:Str):List Str:=Txt.splitMax x "}" 1
section
variable {w:Wn}{c:Wc}{q:Addr}{m:Wm}
theorem lam_{f c':Addr}{clos:List (Str×Addr)}{qual x:Str}{t:Tok}{p0 p1 p2 p3 p4 p5:Pos}{Q:Value->Ac->Prop}(S:Sta W G env loc nw s)(hA:Aok 2 A)(mf:(f,oV qual (mK p0) (mJ p1 p2 p3 p4 p5) jU clos c')∈nw)(mc:(c',mM qual)∈nw)(hx:x.length<=1000)(hl:(p2.endLine==p5.line)=true)(k:∀ a s',Sta W G env loc ((a,aB (cA x))::nw) s'->Q (.ref a) s'):Ad W.M A (call (.ref f) [.str x t]) Q E s:=by
 refine S.call_lam (binds:=[("n",.str x t)]) mf mc hA.room (λ pm ctv=>by kernel_rfl) (by kernel_rfl) ?_;intro L s' S';walk_at "zd";simp only[aT,Ak,AD,Ar,Ax]at S';refine jD ?_ rfl rfl hl;walk_at "c";refine tO ?_;walk_at "c";refine S'.splitMax (by decide +kernel) (by decide +kernel) (by walk_at "o") ?_;clear S';intro a s' S';exact k a s' (Sta.back (S'.perm (List.Perm.swap ..)) S.eok)
theorem aAf(pl:List Pq):(pqD pl).map (·.1)=pl.map (·.x):=by simp[pqD,AZ,Function.comp_def]
theorem aDt{α:Type}(f a:α)(T R:List α):List.Perm (f::(T++a::R)) (a::f::(T++R)):=(AM.cons _).trans (List.Perm.swap ..)
noncomputable abbrev lamX(p0 p1 p2 p3 p4 p5 lp:Pos):Expr:=.Lambda (mK p0) (mJ p1 p2 p3 p4 p5) jU lp
noncomputable abbrev pqX(p0 p1 p2 p3 p4 p5 lp k1 k2 k3 k4 k5 k6 k7 k8 k9 k10:Pos):Expr:=.DictComp (.Name "n" k1) (.Call (.Name "parse_qname" k2) [.Name "n" k3] [] k4) [⟨.Name "n" k5,.Call (.Name "sorted" k6) [.Name "qnames" k7] [⟨some "key",lamX p0 p1 p2 p3 p4 p5 lp,k8⟩] k9,[],0⟩] aAX k10
structure PqS where
 vn:Option Value
 pl:List Pq
 dl:List Lv
 pm:List (Str×Str×Tok)
theorem vA{rw:Bool}{st s1 sv:NSt}{x tx:Str}{r:List Str}{rr:List (Str×Str)}(h:gG rw st (x::r)=some (rr,sv))(e:qnV rw st (nmU x) (nmL x)=some (tx,s1)):∃ rr',gG rw s1 r=some (rr',sv)/\rr=(x,tx)::rr':=by
 rw[sQ,e]at h;simp only[Option.bind_some,Option.map_eq_some_iff,Prod.mk.injEq]at h;obtain⟨⟨rr',sv'⟩,hra,rfl,rfl⟩:=h;exact⟨rr',hra,rfl⟩
theorem pq_{b1 b2:Pos}{loc2:Addr->Loc}{L qs c2 bm:Addr}{c?:Option Addr}{ss:List Str}{res:List (Str×Str)}{sv:NSt}{p0 p1 p2 p3 p4 p5 lp k1 k2 k3 k4 k5 k6 k7 k8 k9 k10:Pos}{Q:Flow->Ac->Prop}(I:IsC W)(C:CodeHd W.B 118 116)(hA:Aok 20 A)(hsw:swapsWith (pqX p0 p1 p2 p3 p4 p5 lp k1 k2 k3 k4 k5 k6 k7 k8 k9 k10) (some (.Name "parsed_qnames" b1)) b2.line (bT L)=pure true)(hput:∀ acc,Put "parsed_qnames" (some (.ref acc)) loc (loc2 acc))(hl:(p2.endLine==p5.line)=true)(hpq:ClO (bT L) .cell "parse_qname" c2)(hq:(("qnames":Str),some (Value.ref qs))∈loc)(hnd:ss.Nodup)(hpl:∀ x∈ss,NmG x)(h4:ss.length<=4)(hinj:∀ x∈ss,∀ y∈ss,cA x=cA y->x=y)(hok:zF c.rw (bF m) (srt (ltK cA) ss))(hres:gG c.rw (bF m) (srt (ltK cA) ss)=some (res,sv))(S':Sta W G (bT L) loc (bA 116 lp aN c?++((qs,cZ W ss)::(c2,aE (some (.ref bm)))::(bm,eH 83 (.ref w.x))::aC W w c q m N)) s)(k:∀ acc pl dl pm c' s',pl.map (λ p=>(p.x,p.tx))=res->bF { m with dl:=dl,pm:=pm }=sv->aK dl=aK m.dl->Sta W G (bT L) (loc2 acc) ((acc,IsD W acc (pqD pl))::(c2,aE (some (.ref bm)))::aC W w c q { m with dl:=dl,pm:=pm } (bV pl++(bA 116 lp aN (some c')++N))) s'->Q .next s'):Ad W.M A (exec (.Assign [.Name "parsed_qnames" b1] (pqX p0 p1 p2 p3 p4 p5 lp k1 k2 k3 k4 k5 k6 k7 k8 k9 k10) b2) (bT L)) Q E s:=by
 refine oO (cl:=[("parse_qname",c2)]) ["n"] hsw (lQ (by kernel_rfl) hpq) (by kernel_rfl) rfl rfl ?_ (by intro _;kernel_rfl);refine xT ?_ (by kernel_rfl);refine Sta.builtin S' I.b_sorted qF (by kernel_rfl) ?_;refine callWith_kw ?_ (by kernel_rfl) (by kernel_rfl) (by kernel_rfl) (by kernel_rfl);refine args_cons ?_ (by kernel_rfl);refine S'.local_ hq ?_;refine args_nil ?_;refine kws_cons ?_;refine Sta.lambda S' (by kernel_rfl) (clos:=[]) (by kernel_rfl) rfl C ?_;clear S';intro f c' s' S';refine kws_nil ?_;have S2:Sta W G (bT L) loc ((qs,cZ W ss)::(f,oV aN (mK p0) (mJ p1 p2 p3 p4 p5) jU [] c')::(bA 116 lp aN (some c')++((c2,aE (some (.ref bm)))::(bm,eH 83 (.ref w.x))::aC W w c q m N))) s':=S'.perm (aDt _ _ _ _);refine S2.sortedSetS (kp:=cA) (hA.le (by walk_at "o")) h4 hinj (λ x t L0 s3 Q' hx S3 kk=>?_) λ l s3 S3=>?_
 ·refine lam_ S3 ((hA.in1.in1).le (by walk_at "o")) (f:=f) (c':=c') (Ag _ (.tail _ (.head _))) (Ag _ (.tail _ (.tail _ (.tail _ (.head _))))) (by have:=(hpl x hx).len;walk_at "o") hl kk
 have hp:(srt (ltK cA) ss).Perm ss:=cB ss;generalize srt (ltK cA) ss=ss' at S3 hp hok hres;refine S3.iterT .head λ it vs s4 ht S4=>?_;refine⟨_,_,_,S4,?_⟩;intro acc Cc s5 eok S5;refine tV rfl rfl jH (S5.get (.tail _ (.tail _ (.head _)))) ?_;have hnd':ss'.Nodup:=hp.nodup_iff.mpr hnd;have Y:LY W [(l,aA vs)] it vs [(it,bM l 0)]:=dJ (own₀:=[]) (by simp) vs 0 rfl;refine aAV (sh:=[(l,aA vs)]) (f:=λ(x:Str) t=>.str x t) (hA.le (by walk_at "o")) (G:=G) (og:=[]) (own:=[(it,bM l 0)]) (λ(v:PqS) _=>[("n",v.vn)]) (λ v _=>(acc,IsD W acc (pqD v.pl))::((bT L).locals,aI loc)::(c2,aE (some (.ref bm)))::(bm,eH 83 (.ref w.x))::aC W w c q { m with dl:=v.dl,pm:=v.pm } (bV v.pl++(bA 116 lp aN (some c')++N)))
  (λ v dn=>v.pl.map (·.x)=dn/\aK v.dl=aK m.dl/\∀ rest,ss'=dn++rest->zF c.rw (bF { m with dl:=v.dl,pm:=v.pm }) rest/\∃ rr,gG c.rw (bF { m with dl:=v.dl,pm:=v.pm }) rest=some (rr,sv)/\v.pl.map (λ p=>(p.x,p.tx))++rr=res)
  (oH ..) (rZ ht Y.yields) ⟨none,[],m.dl,m.pm⟩ ⟨rfl,rfl,λ rest e=>by rw[←show ss'=rest from e];exact⟨hok,res,hres,rfl⟩⟩ ?_ ?_ ?_
 rotate_left 2
 ·intro x dn rest t tl tg v s6 K hss hH S6 kk;obtain⟨hpx,hdl,hR⟩:=hH;obtain⟨hok,q0⟩:=hR _ hss;obtain⟨rr,hres,hpr⟩:=q0;obtain⟨hns,⟨tx,s1⟩,hqv,hok1⟩:=hok;obtain⟨rr',hra,hrr⟩:=vA hres hqv;refine wpAny_assign_Name (S6.store .head λ s' S'=>?_);refine Aa ?_;refine S'.local_ (.head _) ?_;refine Aa (AC ?_);refine Call_ ?_ (by kernel_rfl);refine Sta.cell S' ⟨by kernel_rfl,rfl,by decide +kernel,by decide +kernel⟩ (c:=c2) (.tail _ (.tail _ (.head _))) ?_;refine aCd (f:=83) (self:=.ref w.x) (by rw[I.k];kernel_rfl) ?_ (by kernel_rfl) (by kernel_rfl);refine args_cons ?_ (by kernel_rfl);refine S'.local_ (.head _) ?_;refine args_nil ?_;refine⟨S'.methP (.tail _ (.tail _ (.tail _ (.head _)))),?_⟩;refine S'.callMeth (.tail _ (.tail _ (.tail _ (.head _)))) ?_;have hxs:x∈ss':=by rw[hss];simp
  have S7:=S'.perm (nw':=aC W w c q { m with dl:=v.dl,pm:=v.pm } ((acc,IsD W acc (pqD v.pl))::((bT L).locals,aI loc)::(c2,aE (some (.ref bm)))::(bm,eH 83 (.ref w.x))::((bV v.pl++(bA 116 lp aN (some c')++N))++([(l,aA vs)]++tl)))) (by simp only[aC];walk_at "perm");refine wX I S7 (hA.le (by walk_at "o")) (hpl x (hp.mem_iff.mp hxs)) hns hqv ?_;intro a dl' pm' t1 t2 t3 s7 hs1 hdl' S8;have hs1:bF { m with dl:=dl',pm:=pm' }=s1:=hs1;have hdl2:aK dl'=aK m.dl:=hdl'.trans hdl;have S8:=S8.tell (c':=oU x tx) .head λ o _ ho=>⟨t1,t2,t3,ho⟩
  have S9:=S8.perm (nw':=(acc,IsD W acc (pqD v.pl))::((bT L).locals,aI loc)::(c2,aE (some (.ref bm)))::(bm,eH 83 (.ref w.x))::(aC W w c q { m with dl:=dl',pm:=pm' } (bV (v.pl++[⟨x,a,tx⟩])++(bA 116 lp aN (some c')++N))++([(l,aA vs)]++tl))) (by
   simp only[aC,bV,Ao,Ak,AD];walk_at "perm")
  refine Aa (AP (AC ?_));have hnx:x∉(pqD v.pl).map (·.1):=by
   rw[aAf,hpx];intro m;rw[hss,Bq]at hnd';exact hnd'.2.2 x m x (.head _) rfl
  have hlen:(pqD v.pl).length<=64:=by
   have h1:=congrArg AV hss;have h2:=hp.length_eq;have h3:=congrArg AV hpx;simp only[pqD,Al,Ae]at h1 h3 ⊢;walk_at "o"
  refine S9.dictSet (x:=x) (v:=.ref a) .head (by walk_at "osz") λ s8 S10=>?_;rw[iN hnx]at S10;refine kk ⟨some (.str x t),v.pl++[⟨x,a,tx⟩],dl',pm'⟩ _ ⟨by rw[Ao,hpx];rfl,hdl2,λ rest' e=>?_⟩ ?_
  ·rw[←lF hss e,hs1];exact⟨hok1,rr',hra,by rw[←hpr,hrr,Ao,Ai];rfl⟩
  ·have e:pqD (v.pl++[⟨x,a,tx⟩])=pqD v.pl++[(x,.ref a)]:=by simp[pqD]
   show Sta _ _ _ _ ((acc,IsD W acc (pqD (v.pl++[⟨x,a,tx⟩])))::_) _;rw[e];exact S10
 ·rw[Aj];refine S5.sel (Sel.trans (Sel.of_perm (L2:=(f,oV aN (mK p0) (mJ p1 p2 p3 p4 p5) jU [] c')::(qs,cZ W ss)::((acc,IsD W acc (pqD []))::((bT L).locals,aI loc)::(c2,aE (some (.ref bm)))::(bm,eH 83 (.ref w.x))::aC W w c q m (bV []++(bA 116 lp aN (some c')++N)))++([(l,aA vs)]++[(it,bM l 0)])) ?_) (Sel.drop (Sel.drop (Sel.refl _))));simp only[aC,bV,pqD,AD]
  walk_at "perm"
 ·intro v s6 hH S6;obtain⟨hpx,hdl,hR⟩:=hH;obtain⟨_,q0⟩:=hR [] (Aj _).symm;obtain⟨rr,hres,hpr⟩:=q0;obtain⟨hr0,hsv⟩:=Prod.mk.inj (Option.some.inj hres);rw[←hr0,Aj]at hpr;refine CompEndA.mk (loc':=[("n",v.vn)]) (loc2:=loc2 acc) (G':=G) (nw':=(acc,IsD W acc (pqD v.pl))::(c2,aE (some (.ref bm)))::aC W w c q { m with dl:=v.dl,pm:=v.pm } (bV v.pl++(bA 116 lp aN (some c')++N))) ?_ (hput acc) λ s7 S7=>k acc v.pl v.dl v.pm c' s7 hpr hsv hdl S7;exact S6.sel (Sel.rest [(l,aA vs),(bm,eH 83 (.ref w.x))] (by simp only[aC];walk_at "perm"))
end
noncomputable def d2:NsP:=("","")
theorem oE{prog:Program}{w:World}{A:AJ}{E:Value->Ac->Prop}{s:Ac}{x y:Str}{t u:Tok}{Q:Bool->Ac->Prop}(h:Q (decide (x=y)) s):Ad (model prog w) A (eqBool (.str x t) (.str y u)) Q E s:=gT prog w E Q h
theorem aBC{prog:Program}{w:World}{A:AJ}{E:Value->Ac->Prop}{s:Ac}{x y:Str}{t u:Tok}{Q:Bool->Ac->Prop}(h:Q (ltS x y) s):Ad (model prog w) A (oneLt' false (.str x t) (.str y u)) Q E s:=
 kat_one _ _ (PyProof.Rows.lt_str h)
theorem aBz{prog:Program}{w:World}{A:AJ}{E:Value->Ac->Prop}{s:Ac}{a b:Addr}{p q:NsP}{Q:Bool->Ac->Prop}(ha:∃ o,s.heap.get? a=some o/\dZ p o)(hb:∃ o,s.heap.get? b=some o/\dZ q o)(h:Q (lt2 p q) s):Ad (model prog w) A (keyLt' (tuples' true) (.ref a) (.ref b)) Q E s:=by
 obtain⟨oa,hoa,q0⟩:=ha;obtain⟨t1,t2,n1,rfl⟩:=q0;obtain⟨ob,hob,q0⟩:=hb;obtain⟨u1,u2,n2,rfl⟩:=q0;refine kat_lt (b:=true) hoa rfl hob rfl ?_;unfold lt2 at h;refine kat_cons (oE ?_)
 by_cases e1:p.1=q.1
 ·rw[if_pos e1]at h;rw[decide_eq_true e1];refine kat_yes (kat_cons (oE ?_))
  by_cases e2:p.2=q.2
  ·rw[decide_eq_true e2];refine kat_yes (kat_nil ?_);have:ltS p.2 q.2=false:=by rw[e2];exact tot_str.irr _
   rw[this]at h;exact h
  ·rw[decide_eq_false e2];exact kat_no (aBC h)
 ·rw[if_neg e1]at h;rw[decide_eq_false e1];exact kat_no (oneLt_str h)
theorem nU{h:Heap}:∀{ps:List (Addr×NsP)},(∀ r∈ps,∃ o,h.get? r.1=some o/\dZ r.2 o)->∃ fs,KatTups h (aG ps) fs/\fs.length=ps.length/\∀ v∈fs,∃ x t,v=.str x t
 | [],_=>⟨[],trivial,rfl,λ v hv=>by cases hv⟩
 | r::ps,H=>by
  obtain⟨fs,h1,h2,h3⟩:=nU (ps:=ps) λ q hq=>H q (.tail _ hq);obtain⟨o,ho,q0⟩:=H r (.head _);obtain⟨t,u,n,rfl⟩:=q0;refine⟨.str r.2.1 t::fs,⟨⟨r.1,_,_,_,rfl,ho,rfl,rfl,rfl⟩,h1⟩,by simp[h2],λ v hv=>?_⟩;rcases At.mp hv with rfl | hv
  ·exact⟨_,_,rfl⟩
  ·exact h3 v hv
theorem Sta.sortG{α β:Type}{ref:α->Value}{val:α->β}{lt:β->β->Bool}{κ:SortKind}(T:Tot lt)(d:α){l:Addr}{ps:List α}{Q:Value->Ac->Prop}(h4:ps.length<=4)(S:Sta W G env loc ((l,aA (ps.map ref))::N) s)(hk:∀ c s' (Q':SortKind->Ac->Prop),2<=ps.length->Sta W G env loc ((l,c)::N) s'->Q' κ s'->Ad W.M A.in1 (keyKind' (ps.map ref).toArray) Q' E s')(hc:∀ c s' x y (E':Value->Ac->Prop) (C:Bool->Ac->Prop),x∈ps->y∈ps->Sta W G env loc ((l,c)::N) s'->C (lt (val x) (val y)) s'->Ad W.M A.in1 (keyLt' κ (ref x) (ref y)) C E' s')(h:∀(ps':List α) s',ps'.map val=srt lt (ps.map val)->ps'.Perm ps->Sta W G env loc ((l,aA (ps'.map ref))::N) s'->Q .none s'):Ad W.M A (call (.builtin "list.sort") [.ref l]) Q E s:=by
 obtain⟨n,hl⟩:=S.isL (.head _);have hlen:(ps.map ref).length=ps.length:=Al ..;have hg:∀ i,i<ps.length->(ps.map ref).getD i .none=ref (ps.getD i d):=λ i hi=>by simp[hi]
 have hv:∀ i,i<ps.length->(ps.map val).getD i (val d)=val (ps.getD i d):=λ i hi=>by simp[hi]
 have hm:∀ i,i<ps.length->ps.getD i d∈ps:=λ i hi=>by simp[hi]
 have hz:(List.toArray (ps.map ref)).size<=Au:=by rw[AN,Av];walk_at "o"
 let Rp:Array Nat->Prop:=λ p=>Ok ps.length p/\∀ i j,i<j->j<ps.length->lt (val (ps.getD (p.getD j 0) d)) (val (ps.getD (p.getD i 0) d))=false
 refine wpAny_call_entry PyProof.Rows.slot_list_sort ⟨_,hl,rfl⟩ PyProof.Rows.entry_list_sort ?_ (args_list_sort _);rw[list_sort_plain];refine Aa (listItems_at hl rfl ?_);refine Aa (listUpdate_at hl rfl ?_ hz (AB _));have S1:=S.setL (ys:=[]) hl (λ _=>#[]) rfl .head s.toks;obtain⟨e1,hl1⟩:=S1.isL (.head _);replace S1:=S1.tell (nw':=(l,bZ (seqObj "list" #[] e1))::N) .head λ o ho _=>by rw[hl1]at ho;cases ho;rfl
 refine Aa (seqEpoch_at hl1 rfl ?_);refine Aa (S1.newTuple (by rw[AN]at hz;exact hz) λ tp s2 S2=>?_);refine Aa (S2.newList (AB _) λ kS s3 S3=>?_);replace S3:=S3.sub (nw':=(l,bZ (seqObj "list" #[] e1))::N) ((AQ _ _).trans (AQ _ _));refine AC ?_;have hend:∀(st:SortSt) (p:Array Nat),Rp p->(arrOf st).map (·.2)=List.toArray (p.toList.map λ i=>(ps.map ref).getD i .none)->failedOf st=none->
   Ad W.M A.in1 (do
    let sorted:=(arrOf st).map (·.2)
    let touched:=(← seqEpoch l) != e1
    Builtin.List.listUpdate (.ref l) λ _=>sorted
    if let some e:=failedOf st then rule "list.sort.comparison-raised";throw e
    if touched then rule "list.sort.modified";raiseError "ValueError" "list modified during sort"
    ret .none) (λ fin s''=>∃ v,fin=.done (.ret v)/\Q v s'') E s3:=by
  intro st p hp har hf;have hpl:∀ i∈p.toList,i<ps.length:=λ i hi=>by have:=hp.1.mem_iff.mp hi;simpa using this
  have href:(p.toList.map λ i=>(ps.map ref).getD i .none)=(p.toList.map λ i=>ps.getD i d).map ref:=by
   rw[AZ];exact List.map_congr_left λ i hi=>hg i (hpl i hi)
  have hperm:(p.toList.map λ i=>ps.getD i d).Perm ps:=by
   have q:List.Perm (p.toList.map λ i=>ps.getD i d) ((AY ps.length).map λ i=>ps.getD i d):=hp.1.map _;have e:(AY ps.length).map (λ i=>ps.getD i d)=ps:=by
    apply List.ext_getElem
    ·simp
    ·intro i h1 h2;simp at h1 ⊢;simp[h2]
   rwa[e]at q
  have hval:(p.toList.map λ i=>ps.getD i d).map val=srt lt (ps.map val):=by
   have hr:=sH T (l:=ps.map val) (d:=val d) (p:=p) (by rw[Al];exact hp.1) (λ i j hij hj=>by
    rw[Al]at hj;rw[hv _ (hp.1.lt (by walk_at "o") _),hv _ (hp.1.lt (by walk_at "o") _)];exact hp.2 i j hij hj)
   rw[←hr,AZ];exact List.map_congr_left λ i hi=>(hv i (hpl i hi)).symm
  obtain⟨o6,ho6,e6⟩:=S3.get (a:=l) (.head _);have e6:o6=seqObj "list" #[] e1:=e6;subst e6;refine Aa (seqEpoch_at ho6 rfl ?_);rw[har];refine Aa (listUpdate_at ho6 rfl ?_ (AB _) (by rw[href,AN,Al,hperm.length_eq,Av];walk_at "o"));have S4':=S3.tell (nw':=(l,aA [])::N) .head λ o ho e=>⟨e1,e⟩
  obtain⟨n6,hl6⟩:=S4'.isL (a:=l) (.head _);rw[hf];simp only[bne_self_eq_false,Bool.false_eq_true]
  exact Af ⟨_,rfl,h _ _ hval hperm (S4'.setL (ys:=(p.toList.map λ i=>ps.getD i d).map ref) hl6 (λ _=>List.toArray (p.toList.map λ i=>(ps.map ref).getD i .none)) (href▸rfl) .head s3.toks)⟩
 by_cases h2:(ps.map ref).toArray.size<2
 ·rw[if_pos h2,if_pos h2];refine Aa (Af ?_);dsimp only
  refine Aa (Af ?_);rw[AN,hlen]at h2;refine hend _ (AY ps.length).toArray ⟨.refl _,λ i j hij hj=>by walk_at "o"⟩ ?_ rfl;show((ps.map ref).toArray.zip (ps.map ref).toArray).map (·.2)=_;apply Array.ext';apply List.ext_getElem
  ·simp[hlen]
  ·intro i h1 h3;simp at h1 h3;simp[h1]
 ·rw[if_neg h2,if_neg h2];rw[AN,hlen]at h2;refine Aa (hk _ _ _ (by walk_at "o") S3 ?_);refine Aa ?_;have ask:(kas_sort (ps.map ref).length).kasWp (kas_ask W.prog W.w A.in1 κ (ps.map ref)) (λ p s''=>Rp p/\s''=s3) s3:=by
   rw[hlen];refine KRun.wp (λ i j hi hj C hC=>?_) (λ p hp=>⟨hp,rfl⟩) (nA T (λ i=>val (ps.getD i d)) (n:=ps.length) (by walk_at "o") h4);unfold kas_ask;rw[hg i hi,hg j hj];exact hc _ _ _ _ _ _ (hm i hi) (hm j hj) S3 hC
  refine As (kat_run (Q:=λ st' s''=>∃ p:Array Nat,Rp p/\arrOf st'=p.map (kas_item ((ps.map ref).toArray.zip (ps.map ref).toArray))/\failedOf st'=none/\s''=s3) rfl (by walk_at "o") (by walk_at "o") (λ p' st' s'' a1 a2 a3 a4=>⟨p',a4.1,a2,a3,a4.2⟩) ask) ?_ λ _ _ e=>e;intro x s'' hx;obtain⟨⟨⟩,st'⟩:=x;obtain⟨p,hp,har,hf,rfl⟩:=hx;exact hend st' p hp (kat_snds rfl har) hf
theorem Sta.sortPs{l:Addr}{ps:List (Addr×NsP)}{Q:Value->Ac->Prop}(h4:ps.length<=4)(S:Sta W G env loc ((l,aA (aG ps))::(aL ps++N)) s)(h:∀ ps' s',ps'.map (·.2)=srt lt2 (ps.map (·.2))->ps'.Perm ps->Sta W G env loc ((l,aA (aG ps'))::(aL ps'++N)) s'->Q .none s'):Ad W.M A (call (.builtin "list.sort") [.ref l]) Q E s:=by
 refine Sta.sortG (val:=λ q:Addr×NsP=>q.2) (κ:=tuples' true) tot_2 (0,d2) h4 S (λ c s' Q' h2 S' hQ=>?_) (λ c s' x y E' C hx hy S' hC=>?_) λ(ps':List (Addr×NsP)) s' hv hp S'=>h ps' s' hv hp (S'.perm (.cons _ ((List.Perm.map _ hp.symm).append_right N)))
 ·obtain⟨fs,hk1,hk2,hk3⟩:=nU (h:=s'.heap) (ps:=ps) λ r hr=>S'.get (a:=r.1) (c:=dZ r.2) (.tail _ (Am _ (Ah.mpr ⟨r,hr,rfl⟩)));refine kat_kind (T:=.type "str") hk1 (by walk_at "o") (λ v hv=>?_) (by decide) hQ;obtain⟨x,t,rfl⟩:=hk3 v hv;exact .now
 ·exact aBz (S'.get (a:=x.1) (c:=dZ x.2) (.tail _ (Am _ (Ah.mpr ⟨x,hx,rfl⟩)))) (S'.get (a:=y.1) (c:=dZ y.2) (.tail _ (Am _ (Ah.mpr ⟨y,hy,rfl⟩)))) hC
theorem Sta.many(S:Sta W G env loc nw s){h':Heap}(hk:∀ b o,s.heap.get? b=some o->h'.get? b=some o)(L:Lg)(hnd:(L.map Prod.fst).Nodup)(hnew:∀ p∈L,s.heap.objs.size<=p.1)(hh:∀ p∈L,∃ o,h'.get? p.1=some o/\p.2 o)(tk:Nat):Sta W G env loc (L++nw) { s with heap:=h',toks:=tk }:=by
 refine⟨S.ok,S.eok,?_,S.bare,S.os,S.gens,S.gnd⟩;have D:=S.led.grow hk;have hold:∀ p∈(env.locals,aI loc)::nw,p.1<s.heap.objs.size:=λ p hp=>by
  obtain⟨o2,ho2,_⟩:=(S.led.own p hp).2;exact Heap.lt_size ho2
 have D2:Led W.B (L++((env.locals,aI loc)::nw)) h':=by
  refine⟨D.keep,λ p hp=>?_,?_⟩
  ·rcases AW.mp hp with hp | hp
   ·refine⟨?_,hh p hp⟩;cases q:W.B.get? p.1 with
    | none=>rfl
    | some o2=>exact absurd (hnew p hp) (Nat.not_le.mpr (Heap.lt_size (S.led.keep _ _ q)))
   ·exact D.own p hp
  ·rw[Ao,Bq];refine⟨hnd,D.nodup,λ a ha b hb=>?_⟩;obtain⟨p,hp,rfl⟩:=Ah.mp ha;obtain⟨r,hr,rfl⟩:=Ah.mp hb;have h1:=hnew p hp;have h2:=hold r hr;exact λ e=>absurd h1 (by rw[e];exact Nat.not_le.mpr h2)
 exact D2.perm AM
noncomputable def atV(l:List (Str×Str×Tok)):List (Str×Value):=l.map λ p=>(p.1,.str p.2.1 p.2.2)
theorem Sta.sortedItems{r d:Addr}{l:List (Str×Str×Tok)}{Q:Value->Ac->Prop}(S:Sta W G env loc nw s)(hh:A.handled=none)(mv:(r,jB d)∈nw)(md:(d,IsD W d (atV l))∈nw)(h4:l.length<=4)(h:∀ b ps s',ps.map (·.2)=srt lt2 (l.map λ p=>(p.1,p.2.1))->Sta W G env loc ((b,aA (aG ps))::(aL ps++nw)) s'->Q (.ref b) s'):Ad W.M A (call (.builtin "sorted") [.ref r]) Q E s:=by
 obtain⟨o,ho,rfl⟩:=S.get mv;obtain⟨hd,hn⟩:=S.dictAt md;obtain⟨ep,hat⟩:=hd.dictAt;have hll:(atV l).length=l.length:=Al ..;refine Calls.call_function_entry kind_sorted plain_sorted entry_sorted (args_sorted1 _) ?_;refine Aa (m:=checkCount "sorted" 1 1 _) (Af ?_);refine Aa (kdx_collect (A:=A.in1) (knd:=PySem.strKind W.prog W.w) (kvs:=atV l) (ep:=ep) hh ⟨_,ho,rfl,rfl⟩ hat (by rw[hll,Av];walk_at "o") λ h' tk as hk hl hG=>?_);have hal:as.length=l.length:=hl.trans hll
 let ps:List (Addr×NsP):=as.zip (l.map λ p=>(p.1,p.2.1))
 have hps1:ps.map (·.1)=as:=List.map_fst_zip (by rw[Al];walk_at "o");have hps2:ps.map (·.2)=l.map λ p=>(p.1,p.2.1):=List.map_snd_zip (by rw[Al];walk_at "o");have S1:Sta W G env loc (aL ps++nw) { s with heap:=h',toks:=tk }:=by
  refine S.many hk (aL ps) ?_ ?_ ?_ tk
  ·have e:(aL ps).map Prod.fst=as:=by rw[←hps1];simp[aL]
   rw[e];exact hG.rise.imp λ hlt=>Bx hlt
  ·intro p hp;obtain⟨q,hq,rfl⟩:=Ah.mp hp;have:q.1∈as:=by rw[←hps1];exact Ah.mpr ⟨q,hq,rfl⟩
   exact Nat.le_of_lt (hG.above _ this)
  ·intro p hp;obtain⟨q,hq,rfl⟩:=Ah.mp hp;obtain⟨j,q0⟩:=BN hq;obtain⟨hj,rfl⟩:=q0;have hja:j<as.length:=by have:=congrArg AV hps1;rw[Al]at this;walk_at "o"
   have hjl:j<l.length:=by walk_at "o"
   have ez:ps[j]=(as[j],(l[j].1,l[j].2.1)):=by simp[ps]
   obtain⟨key,k,x',e1,e2,e3⟩:=hG.pairs j as[j] (List.getElem?_eq_getElem hja);have e1':(l[j].1,Value.str l[j].2.1 l[j].2.2)=(k,x'):=by
    have:(atV l)[j]?=some (l[j].1,.str l[j].2.1 l[j].2.2):=by simp[atV,hjl]
    rw[this]at e1;exact Option.some.inj e1
   cases e1';obtain⟨t,rfl⟩:∃ t,key=.str l[j].1 t:=by
    cases key with
    | str y t=>exact⟨t,by rw[aAC e2]⟩
    | _=>first | cases e2 | exact absurd e2 (by simp[PySem.strKind,Value.isStrOf])
   rw[ez];exact⟨_,e3,t,_,0,rfl⟩
 have href:as.map Value.ref=aG ps:=by rw[←hps1];simp[aG]
 rw[href];refine Aa (S1.newList (by have:(aG ps).length=as.length:=(by rw[←href,Al]);rw[this,Av];walk_at "o") λ b s2 S2=>?_);refine Aa (AC (S2.sortPs (by have:ps.length=as.length:=(by rw[←hps1,Al]);walk_at "o") λ ps' s3 hv hp S3=>?_));rw[hps2]at hv;exact Af ⟨_,rfl,h b ps' s3 hv S3⟩
noncomputable abbrev bE:Pos:=⟨136,71,136,96⟩
noncomputable abbrev gJ(tag:Str)(t:Tok)(d nn:Addr)(vqt vk vv vqs vrn vqn vqa van vvl vpq vuri val vaq vsb vwr:Option Value):Loc:=[("tag",some (.str tag t)),("attrs",some (.ref d)),("new_namespaces",some (.ref nn)),("qname_text",vqt),("k",vk),("v",vv),("qnames",vqs),("resolved_names",vrn),("qname",vqn),("qattrs",vqa),("attr_name",van),("value",vvl),("parsed_qnames",vpq),("uri",vuri),("attr_list",val),("attr_qname",vaq),("space_behaviour",vsb),("write",vwr)]
noncomputable def xnT(p:Str):Str:=if p.length=0 then "xmlns" else "xmlns:"++p
noncomputable def xnP(q:NsP):NsP:=(xnT q.2,q.1)
noncomputable def kJ(ls:List (List NsP)):List NsP:=ls.getLastD []
noncomputable abbrev aDT(st:Stmt):List Stmt:=aH st
noncomputable def aCQ:Stmt:=(aDT ((aH bQ).getD 7 (.Pass default))).getD 0 (.Pass default)
theorem aBb(p:Str):(xnT p).length<=p.length+6:=by
 have h1:("xmlns":Str).length=5:=by decide +kernel
 have h2:("xmlns:":Str).length=6:=by decide +kernel
 unfold xnT
 split
 ·walk_at "o"
 ·rw[Str.length_append];walk_at "o"
section
variable {w:Wn}{c:Wc}{q:Addr}{m:Wm}
theorem Sta.pushPr{b tp:Addr}{qs:List (Addr×NsP)}{u p:Str}{t t':Tok}{Q:Value->Ac->Prop}(hz:qs.length<=1000)(S:Sta W G env loc ((tp,aJ [.str u t,.str p t'])::(b,aA (aG qs))::(aL qs++N)) s)(h:∀ s',Sta W G env loc ((b,aA (aG (qs++[(tp,u,p)])))::(aL (qs++[(tp,u,p)])++N)) s'->Q .none s'):Ad W.M A (call (.builtin "list.append") [.ref b,.ref tp]) Q E s:=by
 have S1:=(S.tell (c':=dZ (u,p)) .head λ o _ ho=>⟨_,_,ho⟩).perm (List.Perm.swap ..);refine S1.append .head (by rw[Av];simp[aG];walk_at "o") λ s' S2=>h s' (S2.perm ?_);rw[jM,jN];show List.Perm ((b,aA (aG qs++[.ref tp]))::(tp,dZ (u,p))::(aL qs++N)) ((b,aA (aG qs++[.ref tp]))::((aL qs++[(tp,dZ (u,p))])++N));walk_at "perm"
theorem xn_{L d nn:Addr}{tag:Str}{t:Tok}{ps:List (Addr×NsP)}{vqt vk vv vqs vrn vqn vqa van vvl vpq vuri vaq vsb vwr:Option Value}{Q:Flow->Ac->Prop}(I:IsC W)(hA:Aok 10 A)(h60:ps.length<=60)(hsm:∀ r∈ps,gY r.2)(S':Sta W G (bT L) (gJ tag t d nn vqt vk vv vqs vrn vqn vqa van vvl vpq vuri none vaq vsb vwr) ((nn,aA (aG ps))::(aL ps++N)) s)(k:∀ al qs s',qs.map (·.2)=ps.map (λ r=>xnP r.2)->Sta W G (bT L) (gJ tag t d nn vqt vk vv vqs vrn vqn vqa van vvl vpq vuri (some (.ref al)) vaq vsb vwr) ((al,aA (aG qs))::(aL qs++((nn,aA (aG ps))::(aL ps++N)))) s'->Q .next s')(st:Stmt)(hst:st=aCQ):Ad W.M A (exec st (bT L)) Q E s:=by
 subst hst;refine oN (cl:=[]) ["uri","prefix"] (by kernel_rfl) (by kernel_rfl) (by kernel_rfl) rfl rfl ?_ (by intro _;kernel_rfl);refine S'.local_ (by walk_at "mem") ?_;refine S'.iterL (.head _) ?_;clear S';intro it s' S';refine⟨G,_,_,S',?_⟩;intro b Cc s1 eok S1;refine dX rfl rfl jH (S1.get (.tail _ (.tail _ (.head _)))) ?_;generalize hloc0:gJ tag t d nn vqt vk vv vqs vrn vqn vqa van vvl vpq vuri none vaq vsb vwr=loc0 at S1;have Y:LY W [(nn,aA (aG ps))] it (aG ps) [(it,bM nn 0)]:=dJ (own₀:=[]) (by simp[aG]) (aG ps) 0 rfl;have S2:=S1.perm (nw':=((b,aA (aG []))::(aL []++(((bT L).locals,aI loc0)::(aL ps++N))))++([(nn,aA (aG ps))]++[(it,bM nn 0)])) (by simp only[aG,aL,AD,Ax];walk_at "perm");clear S' S1;refine rV (sh:=[(nn,aA (aG ps))]) (f:=λ(r:Addr×NsP)=>.ref r.1) (hA.le (by first | decide | walk_at "o")) (G:=G) (og:=[]) (own:=[(it,bM nn 0)]) (λ(v:List (Addr×NsP)×Option Value×Option Value) _=>[("uri",v.2.1),("prefix",v.2.2)]) (λ v _=>(b,aA (aG v.1))::(aL v.1++(((bT L).locals,aI loc0)::(aL ps++N)))) (λ v dn=>v.1.map (·.2)=dn.map (λ r=>xnP r.2)) (compTurn_list1 ..) (eP Y.yields) ([],none,none) rfl (by rw[Aj];exact S2) ?_ ?_
 rotate_left
 ·refine pr3 ?_;intro ra ru rp dn rest tl tg vv s1 K hp hq S' kk;clear S2;replace hq:vv.1.map (·.2)=dn.map (λ r=>xnP r.2):=hq;have hrm:(ra,ru,rp)∈ps:=by rw[hp];simp
  have hrl:rp.length<=1000:=(hsm _ hrm).2;have hmq:(ra,dZ (ru,rp))∈(aL vv.1++(((bT L).locals,aI loc0)::(aL ps++N)))++((nn,aA (aG ps))::tl):=Am _ (Ag _ (.tail _ (Am _ (Ah.mpr ⟨_,hrm,rfl⟩))));have hql:vv.1.length<=1000:=by
   have h1:=congrArg AV hq;have h2:=congrArg AV hp;simp only[Al,Ae]at h1 h2;walk_at "o"
  walk_at "zd";simp only[Ar,Ax]at S';refine Sta.unpackPr S' hA.handled (by walk_at "mem") (by kernel_rfl) (by kernel_rfl) ?_;clear S';intro t1 t2 s' S';refine cE S' ?_;clear S';intro lq Mq S';refine assignInOrder_cons ?_;refine assign_Name ?_;walk_at "c";refine assignInOrder_cons ?_;refine assign_Name ?_;walk_at "c";refine assignInOrder_nil ?_;refine Aa ?_;walk_at "c";have e1:∀ a:Addr,(vv.1++[(a,xnT rp,ru)]).map (·.2)=(dn++[(ra,ru,rp)]).map (λ r=>xnP r.2):=λ a=>by rw[Ao,Ao,hq];rfl
  refine dH S' (by walk_at "o") (λ h0=>?_) (λ h0=>?_)
  ·clear S';intro s' S';refine cE S' ?_;clear S';intro lq Mq S';have ht:xnT rp="xmlns":=if_pos h0;rw[ht]at e1;walk_at "c";refine Aa (Sta.pushPr hql (S'.perm (nw':=(a',aJ [.str "xmlns" t',.str ru t1])::(b,aA (aG vv.1))::(aL vv.1++((((bT L).locals,aI loc0)::(aL ps++N))++((nn,aA (aG ps))::tl)))) (by walk_at "perm")) λ s' S'=>Af ?_);exact kk (_,some (.str ru t1),some (.str rp t2)) _ (e1 a') (S'.perm (nw':=((b,aA (aG (vv.1++[(a',("xmlns":Str),ru)])))::(aL (vv.1++[(a',("xmlns":Str),ru)])++(((bT L).locals,aI loc0)::(aL ps++N))))++([(nn,aA (aG ps))]++tl)) (by walk_at "perm"))
  ·clear S';intro s' S';have ht:xnT rp="xmlns:"++rp:=if_neg h0;have h1:("xmlns:":Str).length=6:=by decide +kernel
   rw[ht]at e1;walk_at "c";refine Aa (Sta.pushPr hql (S'.perm (nw':=(a',aJ [.str ("xmlns:"++rp) t',.str ru t1])::(b,aA (aG vv.1))::(aL vv.1++((((bT L).locals,aI loc0)::(aL ps++N))++((nn,aA (aG ps))::tl)))) (by walk_at "perm")) λ s' S'=>Af ?_);exact kk (_,some (.str ru t1),some (.str rp t2)) _ (e1 a') (S'.perm (nw':=((b,aA (aG (vv.1++[(a',"xmlns:"++rp,ru)])))::(aL (vv.1++[(a',"xmlns:"++rp,ru)])++(((bT L).locals,aI loc0)::(aL ps++N))))++([(nn,aA (aG ps))]++tl)) (by walk_at "perm"))
 ·intro vv s1 hq S1;subst hloc0;exact CompEndA.mk (nw':=(b,aA (aG vv.1))::(aL vv.1++((nn,aA (aG ps))::(aL ps++N)))) (S1.perm (by walk_at "perm")) (by simp only[gJ];walk_at "put") λ s3 S3=>k b vv.1 s3 hq S3
end
noncomputable def xnR(ls:List (List NsP)):List NsP:=srt lt2 ((kJ ls).map xnP)
theorem lL{dl:List Lv}{d0:List Lv}{lv:Lv}(h:aK dl=aK (d0++[lv])):∃ d1 lv1,dl=d1++[lv1]/\lv1.a=lv.a:=by
 have hne:dl≠[]:=by
  intro e;subst e;simp[aK]at h
 refine⟨dl.dropLast,dl.getLast hne,(AA hne).symm,?_⟩;have h1:=congrArg List.getLast? h;rw[eU]at h1;rw[←AA hne,eU]at h1;injection h1 with h1
 injection h1
theorem xY{dl:List Lv}{d1:List Lv}{lv:Lv}(h:dl=d1++[lv]):kJ (dl.map Lv.val)=lv.val:=by
 subst h;unfold kJ;rw[Ao];simp[List.getLastD_eq_getLast?]
section
variable {w:Wn}{c:Wc}{q:Addr}{m:Wm}
theorem Sta.truthyR{a:Addr}{ps:List (Addr×NsP)}{Q:Bool->Ac->Prop}(S:Sta W G env loc nw s)(m:(a,aA (aG ps))∈nw)(hz:ps.length<=1000)(h:∀ s',Sta W G env loc nw s'->Q (!ps.isEmpty) s'):Ad W.M A (truthy (.ref a)) Q E s:=by
 have e:(aG ps).isEmpty=ps.isEmpty:=by cases ps<;>rfl
 refine Sta.truthyL S m (by rw[Av];simp[aG];walk_at "o") λ s' S'=>?_;rw[e];exact h s' S'
theorem aBl{L d nn c1 c2 qs:Addr}{tag:Str}{t:Tok}{c?:Option Addr}{ss:List Str}{res:List (Str×Str)}{sv:NSt}{d0:List Lv}{lv:Lv}{vqt vk vv vrn vqn vqa van vvl vuri vaq vsb vwr:Option Value}{Q:Flow->Ac->Prop}(I:IsC W)(C:CodeHd W.B 118 116)(hA:Aok 22 A)(hself:ClO (bT L) .cell "self" c1)(hpq:ClO (bT L) .cell "parse_qname" c2)(hd:m.dl=d0++[lv])(hnn:lv.a=nn)(hnd:ss.Nodup)(hpl:∀ x∈ss,NmG x)(h4:ss.length<=4)(hinj:∀ x∈ss,∀ y∈ss,cA x=cA y->x=y)(hok:zF c.rw (bF m) (srt (ltK cA) ss))(hres:gG c.rw (bF m) (srt (ltK cA) ss)=some (res,sv))(ht4:(kJ sv.decl).length<=4)(hsm:∀ r∈kJ sv.decl,gY r)(S':Sta W G (bT L) (gJ tag t d nn vqt vk vv (some (.ref qs)) vrn vqn vqa van vvl none vuri none vaq vsb vwr) ((c1,aE (some (.ref w.x)))::(c2,aE none)::(qs,cZ W ss)::aC W w c q m (bA 116 bE aN c?++N)) s)(k:∀ acc al pl ps dl pm c' s',pl.map (λ p=>(p.x,p.tx))=res->bF { m with dl:=dl,pm:=pm }=sv->aK dl=aK m.dl->ps.map (·.2)=xnR sv.decl-> Sta W G (bT L) (gJ tag t d nn vqt vk vv (some (.ref qs)) vrn vqn vqa van vvl (some (.ref acc)) vuri (some (.ref al)) vaq vsb vwr) ((al,aA (aG ps))::(aL ps++((acc,IsD W acc (pqD pl))::(c1,aE (some (.ref w.x)))::aC W w c q { m with dl:=dl,pm:=pm } (bV pl++(bA 116 bE aN (some c')++N))))) s'-> Ad W.M A (execs ((aH bQ).drop 8) (bT L)) Q E s'):Ad W.M A (execs ((aH bQ).drop 5) (bT L)) Q E s:=by
 have hcl:=I.cl;walk_at "zd";walk_at "c";refine Sta.getBound (f:=83) S' hcl (by walk_at "mem") (by walk_at "mem") VV.keys (by decide +kernel) (by rw[I.k];kernel_rfl) (by rw[I.k];kernel_rfl) (by rw[I.k];kernel_rfl) (by rw[I.k];kernel_rfl) (by decide +kernel) ?_;clear S';intro bm s' S';refine Sta.storeC S' hpq (by walk_at "upd") ?_;clear S';intro s' S';walk_at "kn";refine aF rfl ?_;have S2:=S'.perm (nw':=bA 116 bE aN c?++((qs,cZ W ss)::(c2,aE (some (.ref bm)))::(bm,eH 83 (.ref w.x))::aC W w c q m ((c1,aE (some (.ref w.x)))::N))) (by simp only[aC];walk_at "perm");clear S';refine pq_ (loc2:=λ acc=>gJ tag t d nn vqt vk vv (some (.ref qs)) vrn vqn vqa van vvl (some (.ref acc)) vuri none vaq vsb vwr) I C (hA.le (by first | decide | walk_at "o")) (by kernel_rfl) (λ acc=>by simp only[gJ];walk_at "put") (by decide) hpq (by walk_at "mem") hnd hpl h4 hinj hok hres S2 ?_;intro acc pl dl pm c' s3 hpr hsv hdl S3;clear S2;obtain⟨d1,lv1,hdl1,hla⟩:=lL (hdl.trans (by rw[hd]));have hla:lv1.a=nn:=hla.trans hnn;subst hdl1;have htop:kJ sv.decl=lv1.val:=by rw[←hsv];exact xY rfl
 rw[htop]at ht4 hsm;have hlz:lv1.ps.length<=4:=by rw[←Al (f:=(·.2)) (as:=lv1.ps)];exact ht4
 have S':=S3.sel (nw':=(nn,aA (aG lv1.ps))::(aL lv1.ps++((acc,IsD W acc (pqD pl))::(c1,aE (some (.ref w.x)))::(w.x,bG 143 w.dx)::(w.dx,aS (fW w c q { m with dl:=d1++[lv1],pm:=pm }))::(w.d,aB m.held)::(w.dns,aA (aK (d1++[lv1])))::(w.ns,aA (aK m.nl))::(w.pm,IsD W w.pm (pmV pm))::(w.ps,aA (m.ps.map .bool))::(aW d1++(aW m.nl++(bV pl++(bA 116 bE aN (some c')++N))))))) (by
  refine Sel.rest [(c2,aE (some (.ref bm)))] ?_;rw[←hla];simp only[aC]
  rw[bW];show List.Perm ((acc,IsD W acc (pqD pl))::(c2,aE (some (.ref bm)))::(w.x,bG 143 w.dx)::(w.dx,aS (fW w c q { m with dl:=d1++[lv1],pm:=pm }))::(w.d,aB m.held)::(w.dns,aA (aK (d1++[lv1])))::(w.ns,aA (aK m.nl))::(w.pm,IsD W w.pm (pmV pm))::(w.ps,aA (m.ps.map .bool))::((aW d1++((lv1.a,aA (aG lv1.ps))::(aL lv1.ps++[])))++(aW m.nl++(bV pl++(bA 116 bE aN (some c')++((c1,aE (some (.ref w.x)))::N)))))) _;walk_at "perm")
 clear S3;have hback:∀ al ps s',ps.map (·.2)=xnR sv.decl->Sta W G (bT L) (gJ tag t d nn vqt vk vv (some (.ref qs)) vrn vqn vqa van vvl (some (.ref acc)) vuri (some (.ref al)) vaq vsb vwr) ((al,aA (aG ps))::(aL ps++((nn,aA (aG lv1.ps))::(aL lv1.ps++((acc,IsD W acc (pqD pl))::(c1,aE (some (.ref w.x)))::(w.x,bG 143 w.dx)::(w.dx,aS (fW w c q { m with dl:=d1++[lv1],pm:=pm }))::(w.d,aB m.held)::(w.dns,aA (aK (d1++[lv1])))::(w.ns,aA (aK m.nl))::(w.pm,IsD W w.pm (pmV pm))::(w.ps,aA (m.ps.map .bool))::(aW d1++(aW m.nl++(bV pl++(bA 116 bE aN (some c')++N)))))))))  s'->
   Ad W.M A (execs ((aH bQ).drop 8) (bT L)) Q E s':=by
  intro al ps s' hps S2;refine k acc al pl ps (d1++[lv1]) pm c' s' hpr hsv hdl hps (S2.perm ?_);rw[←hla];simp only[aC]
  rw[bW];show List.Perm _ ((al,aA (aG ps))::(aL ps++((acc,IsD W acc (pqD pl))::(c1,aE (some (.ref w.x)))::(w.x,bG 143 w.dx)::(w.dx,aS (fW w c q { m with dl:=d1++[lv1],pm:=pm }))::(w.d,aB m.held)::(w.dns,aA (aK (d1++[lv1])))::(w.ns,aA (aK m.nl))::(w.pm,IsD W w.pm (pmV pm))::(w.ps,aA (m.ps.map .bool))::((aW d1++((lv1.a,aA (aG lv1.ps))::(aL lv1.ps++[])))++(aW m.nl++(bV pl++(bA 116 bE aN (some c')++N)))))));walk_at "perm"
 refine aF rfl ?_;refine wpAny_If ?_;refine isTrue_plain ?_ (by kernel_rfl);refine S'.local_ (by walk_at "mem") ?_;refine Sta.truthyR S' (.head _) (by walk_at "o") ?_;clear S';intro s' S';cases hps:lv1.ps with
 | nil=>
  walk_at "zd";rw[hps]at S' hback;refine dG ?_;refine Ay ?_
  iterate 4 walk_at "cw"
  refine S'.store (by simp only[gJ];walk_at "put") λ s' S'=>?_;walk_at "kn";refine hback a' [] s' ?_ S';show[]=xnR sv.decl;unfold xnR;rw[htop];simp only[Lv.val,hps]
  rfl
 | cons r rr=>
  refine eZ ?_;refine Ay ?_;refine xn_ (ps:=lv1.ps) I (hA.le (by decide)) (by walk_at "o") (λ r hr=>hsm _ (Ah.mpr ⟨r,hr,rfl⟩)) S' ?_ _ rfl;clear S';intro al qs' s' hqs S';refine aR ?_;walk_at "zd";walk_at "c";refine Sta.getM_list S' (.head _) PyProof.Rows.slot_list_sort PySem.F.type_list_sort ?_;have hq4:qs'.length<=4:=by
   have:=congrArg AV hqs;simp only[Al]at this;walk_at "o"
  refine kF ?_;refine S'.sortPs hq4 ?_;clear S';intro ps' s' h1 h2 S';walk_at "kn";refine fS (by decide) ?_;refine hback al ps' s' ?_ S';rw[h1,hqs];unfold xnR;rw[htop];simp only[Lv.val,AZ]
  rfl
end
noncomputable def dR(res:List (Str×Str))(k:Str):Str:=((res.find? λ r=>decide (r.1=k)).map (·.2)).getD ""
noncomputable def atP(res:List (Str×Str))(q:NsP):NsP:=(if(nmU q.1).length=0 then nmL q.1 else dR res q.1,q.2)
noncomputable def atR(res:List (Str×Str))(l:List NsP):List NsP:=(srt lt2 l).map (atP res)
noncomputable def atQ(l:List (Str×Str×Tok)):List NsP:=l.map λ p=>(p.1,p.2.1)
theorem aA4(l:List (Str×Str×Tok)):(atV l).map (·.1)=(atQ l).map (·.1):=by simp[atV,atQ,AZ,Function.comp_def]
theorem qY{res:List (Str×Str)}{k:Str}:∀{pl:List Pq},pl.map (λ p=>(p.x,p.tx))=res->k∈res.map (·.1)->∃ p∈pl,p.x=k/\p.tx=dR res k/\valueAt (pqD pl) k=some (.ref p.a)
 | [],h,hk=>by subst h;cases hk
 | p::r,h,hk=>by
  subst h
  by_cases e:p.x=k
  ·refine⟨p,.head _,e,?_,?_⟩
   ·simp[dR,e]
   ·simp[valueAt,pqD,e]
  ·have hk':k∈((r.map λ p=>(p.x,p.tx)).map (·.1)):=by
    rcases At.mp hk with h1 | h1
    ·exact absurd h1.symm e
    ·exact h1
   obtain⟨p',h1,h2,h3,h4⟩:=qY (pl:=r) rfl hk';refine⟨p',.tail _ h1,h2,?_,?_⟩
   ·rw[h3];simp[dR,e]
   ·rw[←h4];simp[valueAt,pqD,e]
section
variable {w:Wn}{c:Wc}{q:Addr}{m:Wm}
theorem aBn{L d nn c1:Addr}{tag:Str}{t:Tok}{kvs:List (Str×Value)}{vk vv van vvl vuri vaq vsb vwr:Option Value}{Q:Flow->Ac->Prop}(I:IsC W)(hA:Aok 22 A)(hself:ClO (bT L) .cell "self" c1)(hx:tag∉kvs.map (·.1))(hz:kvs.length<=3)(S':Sta W G (bT L) (gJ tag t d nn (some .none) vk vv none none none none van vvl none vuri none vaq vsb vwr) ((c1,aE (some (.ref w.x)))::(d,IsD W d kvs)::aC W w c q m N) s)(k:∀ qs vrn s',Sta W G (bT L) (gJ tag t d nn (some .none) vk vv (some (.ref qs)) vrn none (some .none) van vvl none vuri none vaq vsb vwr) ((qs,cZ W (tag::kvs.map (·.1)))::(c1,aE (some (.ref w.x)))::(d,IsD W d kvs)::aC W w c q m N) s'-> Ad W.M A (execs ((aH bQ).drop 5) (bT L)) Q E s'):Ad W.M A (execs ((aH bQ).drop 0) (bT L)) Q E s:=by
 have hcl:=I.cl;obtain⟨oc,vs,hoc,hdc,hfl⟩:∃ oc vs,W.K.lookup 118=some oc/\oc.data=.fields vs/\∃ f tf,vs.getD 18 .none=.str f tf:=by
  rw[I.k];exact⟨(bD (KK W.w.params) 118),(match(bD (KK W.w.params) 118).data with | .fields vs=>vs | _=>#[]),by kernel_rfl,by kernel_rfl,(match(match(bD (KK W.w.params) 118).data with | .fields vs=>vs | _=>#[]).getD 18 .none with | .str f _=>f | _=>Str.empty),(match(match(bD (KK W.w.params) 118).data with | .fields vs=>vs | _=>#[]).getD 18 .none with | .str _ t=>t | _=>0),by kernel_rfl⟩
 walk_at "zd";walk_at "c";refine Sta.setDisp S' (hA.le (by first | decide | walk_at "o")) (x:=tag) (kvs:=kvs) (by walk_at "mem") (by walk_at "mem") rfl hoc hdc hfl (by walk_at "pull") hx hz ?_;clear S';intro qs s' S';refine cE S' ?_;clear S';intro lq Mq S'
 repeat (fail_if_success (with_reducible show Ad W.M A (execs ((aH bQ).drop 5) (bT L)) Q E _));walk_at "cw"
 exact k qs (some (.ref a')) s' (S'.sel (Sel.rest [(a',IsD W a' [])] (by simp only[aC];walk_at "perm")))
theorem Sta.openQn{p:Addr}{x tx:Str}{c':Cell}(S:Sta W G env loc nw s)(U:Upd p (oU x tx) c' nw nw'):∃ t1 t2 t3 nw1,Upd p (oU x tx) (aJ [.str tx t1,.str (nmL x) t2,.str (nmU x) t3]) nw nw1/\Upd p (aJ [.str tx t1,.str (nmL x) t2,.str (nmU x) t3]) c' nw1 nw'/\Sta W G env loc nw1 s:=by
 obtain⟨o,ho,q0⟩:=S.get U.mem;obtain⟨t1,t2,t3,hc⟩:=q0;obtain⟨nw1,U1,U2⟩:=U.via2 (aJ [.str tx t1,.str (nmL x) t2,.str (nmU x) t3]);exact⟨t1,t2,t3,nw1,U1,U2,S.tell U1 λ o' ho' _=>by rw[ho]at ho';cases ho';exact hc⟩
theorem Sta.unpackQn{elts:List Expr}{x1}{pos:Pos}{p:Addr}{x tx:Str}{Q:Unit->Ac->Prop}(S:Sta W G env loc nw s)(hh:A.handled=none)(m:(p,oU x tx)∈nw)(hn:(assignEach elts env).length=3)(hstar:(assignEach elts env).findIdx? (·.1)=none)(h:∀ t1 t2 t3 s',Sta W G env loc nw s'->Ad W.M A (assignInOrder ((assignEach elts env).map (·.2)) [.str tx t1,.str (nmL x) t2,.str (nmU x) t3]) Q E s'):Ad W.M A (assign (.Tuple elts x1 pos) env (.ref p)) Q E s:=by
 obtain⟨t1,t2,t3,nw1,U1,U2,S1⟩:=S.openQn (eF m);exact S1.unpackT hh U2.mem hn hstar λ s' S2=>h t1 t2 t3 s' (S2.tell U2 λ o _ ho=>⟨t1,t2,t3,ho⟩)
theorem Sta.subQn{p:Addr}{x tx:Str}{v:Tok}{Q:Value->Ac->Prop}(S:Sta W G env loc nw s)(m:(p,oU x tx)∈nw)(h:∀ t,Q (.str tx t) s):SubscriptOn W.M A (.ref p) (.int 0 v) Q E s:=by
 obtain⟨t1,t2,t3,nw1,U1,U2,S1⟩:=S.openQn (eF m);exact Sta.sub_tuple S1 U2.mem (j:=0) rfl (by walk_at "o") rfl (h t1)
end
section
variable {w:Wn}{c:Wc}{q:Addr}{m:Wm}
theorem aBq{L d nn acc al:Addr}{tag:Str}{t:Tok}{l:List (Str×Str×Tok)}{res:List (Str×Str)}{pl:List Pq}{ps:List (Addr×NsP)}{vqt vk vv vqs vrn vqn van vvl vuri vaq vsb vwr:Option Value}{Q:Flow->Ac->Prop}(I:IsC W)(hA:Aok 12 A)(hpl:pl.map (λ p=>(p.x,p.tx))=res)(hk:∀ p∈l,p.1∈res.map (·.1))(h4:l.length<=4)(hps:ps.length<=60)(hgd:∀ p∈l,NmG p.1)(S':Sta W G (bT L) (gJ tag t d nn vqt vk vv vqs vrn vqn (some .none) van vvl (some (.ref acc)) vuri (some (.ref al)) vaq vsb vwr) ((al,aA (aG ps))::(aL ps++((acc,IsD W acc (pqD pl))::(d,IsD W d (atV l))::(bV pl++N)))) s)(k:∀ qs vk vv van vuri vaq s',qs.map (·.2)=ps.map (·.2)++atR res (atQ l)->Sta W G (bT L) (gJ tag t d nn vqt vk vv vqs vrn vqn (some .none) van vvl (some (.ref acc)) vuri (some (.ref al)) vaq vsb vwr) ((al,aA (aG qs))::(aL qs++((acc,IsD W acc (pqD pl))::(d,IsD W d (atV l))::(bV pl++N)))) s'-> Ad W.M A (execs ((aH bQ).drop 9) (bT L)) Q E s'):Ad W.M A (execs ((aH bQ).drop 8) (bT L)) Q E s:=by
 walk_at "zd";have hal:(atV l).length=l.length:=Al ..;refine aF rfl ?_;refine wpAny_If ?_;refine isTrue_plain ?_ (by kernel_rfl);walk_at "c";have hmd:(d,IsD W d (atV l))∈(al,aA (aG ps))::(aL ps++((acc,IsD W acc (pqD pl))::(d,IsD W d (atV l))::(bV pl++N))):=.tail _ (Ag _ (.tail _ (.head _)));refine Sta.truthyD S' hmd (by walk_at "o") ?_;clear S';intro s' S';refine cE S' ?_;clear S';intro lq Mq S';have hemp:(atV l).isEmpty=l.isEmpty:=by cases l<;>rfl
 rw[hemp];cases hl:l with
 | nil=>
  show ite (false=true) _ _;refine dG ?_;walk_at "kn";subst hl;exact k ps vk vv van vuri vaq s' (Aj _).symm S'
 | cons p0 r0=>
  refine eZ ?_;clear hl hemp;refine Ay ?_;refine wpAny_For ?_ (by intro _;kernel_rfl);walk_at "c";refine Sta.builtin S' I.b_sorted qF (by kernel_rfl) ?_;walk_at "c";refine Sta.getM_D (kvs:=atV l) S' hmd F.slot_dict_items F.type_dict_items ?_;walk_at "c";refine Sta.itemsD (kvs:=atV l) S' hmd ?_;clear S';intro r s' S';walk_at "c";refine Sta.sortedItems (l:=l) S' hA.handled (.head _) (.tail _ hmd) h4 ?_;clear S';intro b its s' hits S';refine Sta.iterList S' (.head _) ?_;clear S';intro it s' S';have hitl:its.length<=4:=by
   have h1:=congrArg AV hits;rw[Al,(cB (lt:=lt2) _).length_eq,Al]at h1;walk_at "o"
  have hitm:∀ x∈its,∃ p∈l,p.1=x.2.1:=by
   intro x hx;have h1:x.2∈its.map (·.2):=Ah.mpr ⟨x,hx,rfl⟩;rw[hits,(cB (lt:=lt2) _).mem_iff]at h1;obtain⟨p,hp,e⟩:=Ah.mp h1;exact⟨p,hp,by rw[←e]⟩
  have Y:LY W [(b,aA (aG its))] it (aG its) [(it,bM b 0)]:=dJ (own₀:=[]) (by simp[aG]) (aG its) 0 rfl;have S2:=S'.sel (nw':=((al,aA (aG ps))::(aL ps++(aL its++((acc,IsD W acc (pqD pl))::(d,IsD W d (atV l))::(bV pl++N)))))++([(b,aA (aG its))]++[(it,bM b 0)])) (Sel.rest [(r,jB d)] (by walk_at "perm"));clear S';refine oA (sh:=[(b,aA (aG its))]) (f:=λ(x:Addr×NsP)=>.ref x.1) (hA.le (by first | decide | walk_at "o")) (G:=G) (og:=[]) (own:=[(it,bM b 0)]) (λ(v:List (Addr×NsP)×Option Value×Option Value×Option Value×Option Value×Option Value) _=>gJ tag t d nn vqt v.2.1 v.2.2.1 vqs vrn vqn (some .none) v.2.2.2.1 vvl (some (.ref acc)) v.2.2.2.2.1 (some (.ref al)) v.2.2.2.2.2 vsb vwr) (λ v _=>(al,aA (aG v.1))::(aL v.1++(aL its++((acc,IsD W acc (pqD pl))::(d,IsD W d (atV l))::(bV pl++N))))) (λ v dn=>v.1.map (·.2)=ps.map (·.2)++dn.map (λ x=>atP res x.2)) (eP Y.yields) (ps,vk,vv,van,vuri,vaq) (by simp) (by rw[Aj];exact S2) ?_ ?_
  rotate_left
  ·refine pr3 ?_;intro xa xk xv dn rest tl tg vw s1 K hit hq S' kk _ _;clear S2;replace hq:vw.1.map (·.2)=ps.map (·.2)++dn.map (λ x=>atP res x.2):=hq;have hxm:(xa,xk,xv)∈its:=by rw[hit];simp
   obtain⟨p,hpm,hpe⟩:=hitm _ hxm;have hpe:p.1=xk:=hpe;have hxg:NmG xk:=by rw[←hpe];exact hgd p hpm
   obtain⟨pq,hpq1,hpq2,hpq3,hpq4⟩:=qY (k:=xk) hpl (by rw[←hpe];exact hk p hpm);have hul:=hxg.ul;have hmq:(xa,dZ (xk,xv))∈(aL vw.1++(aL its++((acc,IsD W acc (pqD pl))::(d,IsD W d (atV l))::(bV pl++N))))++((b,aA (aG its))::tl):=Am _ (Ag _ (Am _ (Ah.mpr ⟨_,hxm,rfl⟩)));have hmp:(pq.a,oU pq.x pq.tx)∈(aL vw.1++(aL its++((acc,IsD W acc (pqD pl))::(d,IsD W d (atV l))::(bV pl++N))))++((b,aA (aG its))::tl):=Am _ (Ag _ (Ag _ (.tail _ (.tail _ (Am _ (Ah.mpr ⟨_,hpq1,rfl⟩))))));have hma:(acc,IsD W acc (pqD pl))∈(aL vw.1++(aL its++((acc,IsD W acc (pqD pl))::(d,IsD W d (atV l))::(bV pl++N))))++((b,aA (aG its))::tl):=Am _ (Ag _ (Ag _ (.head _)));have hql:vw.1.length<=1000:=by
    have h1:=congrArg AV hq;have h2:=congrArg AV hit;simp only[Al,Ae]at h1 h2;walk_at "o"
   have e1:∀ a:Addr,(vw.1++[(a,atP res (xk,xv))]).map (·.2)=ps.map (·.2)++(dn++[(xa,xk,xv)]).map (λ x=>atP res x.2):=λ a=>by simp only[Ao,hq,Ai];rfl
   walk_at "zd";simp only[gJ,Ar,Ax]at S';refine Sta.unpackPr S' hA.handled (by walk_at "mem") (by kernel_rfl) (by kernel_rfl) ?_;clear S';intro t1 t2 s' S';refine assignInOrder_cons ?_;refine assign_Name ?_;walk_at "c";refine assignInOrder_cons ?_;refine assign_Name ?_;walk_at "c";refine assignInOrder_nil ?_;walk_at "c";refine Sta.subD S' (.tail _ hma) hpq4 ?_;clear S';intro s' S';refine Sta.unpackQn S' hA.handled (x:=pq.x) (tx:=pq.tx) (by walk_at "mem") (by kernel_rfl) (by kernel_rfl) ?_;clear S';intro t3 t4 t5 s' S';walk_at "zd";rw[hpq2,hpq3]at *;refine assignInOrder_cons ?_;refine assign_Name ?_;walk_at "c";refine assignInOrder_cons ?_;refine assign_Name ?_;walk_at "c";refine assignInOrder_cons ?_;refine assign_Name ?_;walk_at "c";refine assignInOrder_nil ?_;walk_at "c";refine dH S' (by walk_at "o") (λ h0=>?_) (λ h0=>?_)
   ·clear S';intro s' S';have ht:atP res (xk,xv)=((nmL xk:Str),xv):=by show(if(nmU xk).length=0 then nmL xk else dR res xk,xv)=_;rw[if_pos h0]
    rw[ht]at e1;walk_at "c";refine Sta.pushPr hql (S'.perm (nw':=(a',aJ [.str (nmL xk) t4,.str xv t2])::(al,aA (aG vw.1))::(aL vw.1++(aL its++((acc,IsD W acc (pqD pl))::(d,IsD W d (atV l))::(bV pl++(N++((b,aA (aG its))::tl))))))) (by walk_at "perm")) ?_;clear S';intro s' S';walk_at "c";exact(kk (vw.1++[(a',(nmL xk:Str),xv)],_,_,_,_,_) _ (e1 a') (S'.perm (nw':=((al,aA (aG (vw.1++[(a',(nmL xk:Str),xv)])))::(aL (vw.1++[(a',(nmL xk:Str),xv)])++(aL its++((acc,IsD W acc (pqD pl))::(d,IsD W d (atV l))::(bV pl++N)))))++([(b,aA (aG its))]++tl)) (by walk_at "perm"))).1
   ·clear S';intro s' S';have ht:atP res (xk,xv)=((dR res xk:Str),xv):=by show(if(nmU xk).length=0 then nmL xk else dR res xk,xv)=_;rw[if_neg h0]
    rw[ht]at e1;walk_at "c";refine Sta.pushPr hql (S'.perm (nw':=(a',aJ [.str (dR res xk) t3,.str xv t2])::(al,aA (aG vw.1))::(aL vw.1++(aL its++((acc,IsD W acc (pqD pl))::(d,IsD W d (atV l))::(bV pl++(N++((b,aA (aG its))::tl))))))) (by walk_at "perm")) ?_;clear S';intro s' S';walk_at "c";exact(kk (vw.1++[(a',(dR res xk:Str),xv)],_,_,_,_,_) _ (e1 a') (S'.perm (nw':=((al,aA (aG (vw.1++[(a',(dR res xk:Str),xv)])))::(aL (vw.1++[(a',(dR res xk:Str),xv)])++(aL its++((acc,IsD W acc (pqD pl))::(d,IsD W d (atV l))::(bV pl++N)))))++([(b,aA (aG its))]++tl)) (by walk_at "perm"))).1
  ·intro vw s1 hq S1;walk_at "kn";refine k vw.1 vw.2.1 vw.2.2.1 vw.2.2.2.1 vw.2.2.2.2.1 vw.2.2.2.2.2 s1 ?_ (S1.sel (Sel.rest ((b,aA (aG its))::aL its) (by walk_at "perm")));rw[show vw.1.map (·.2)=ps.map (·.2)++its.map (λ x=>atP res x.2)from hq];unfold atR atQ;rw[←hits,AZ]
   rfl
end
noncomputable def cD(q:NsP):Str:=" "++q.1++"=\""++aBX q.2++"\""
noncomputable abbrev aCk:Scope:={ kind:=.function,names:=[(Str.ofString ".0",.local),(Str.ofString "k",.local),(Str.ofString "v",.local),(Str.ofString "_escape_attrib_c14n",.globalImplicit)],isGenerator:=false,isCoroutine:=false,more:=[] }
noncomputable abbrev atX(p1 p2 p3 p4 p5 p6 p7 p8 p9 p10 p11 p12 p13 p14 p15:Pos):Expr:=.ListComp (.JoinedStr [.Constant (.str " ") 0 p1,.FormattedValue (.Name "k" p2) (-1) none p3,.Constant (.str "=\"") 0 p4,.FormattedValue (.Call (.Name "_escape_attrib_c14n" p5) [.Name "v" p6] [] p7) (-1) none p8,.Constant (.str "\"") 0 p9] p10) [⟨.Tuple [.Name "k" p11,.Name "v" p12] 0 p13,.Name "attr_list" p14,[],0⟩] aCk p15
theorem oD(v:Str):(aBX v).length<=6*v.length:=nK _ 6 aDY v
theorem uD(q:NsP):(cD q).length<=q.1.length+6*q.2.length+4:=by
 have hl1:(" ":Str).length=1:=by decide +kernel
 have hl2:("=\"":Str).length=2:=by decide +kernel
 have hl3:("\"":Str).length=1:=by decide +kernel
 have hl4:=oD q.2;unfold cD;simp only[Str.length_append]
 walk_at "o"
section
variable {w:Wn}{c:Wc}{q:Addr}{m:Wm}
theorem zE{L al:Addr}{qs:List (Addr×NsP)}{p1 p2 p3 p4 p5 p6 p7 p8 p9 p10 p11 p12 p13 p14 p15:Pos}{Q:Value->Ac->Prop}(I:IsC W)(hA:Aok 12 A)(h60:qs.length<=70)(hx:∀ r∈qs,r.2.1.length<=2000/\r.2.2.length<=1000)(hal:(("attr_list":Str),some (Value.ref al))∈loc)(S':Sta W G (bT L) loc ((al,aA (aG qs))::(aL qs++N)) s)(k:∀ b s',Sta W G (bT L) loc ((b,aB (qs.map λ r=>cD r.2))::(al,aA (aG qs))::(aL qs++N)) s'->Q (.ref b) s'):Ad W.M A (eval (atX p1 p2 p3 p4 p5 p6 p7 p8 p9 p10 p11 p12 p13 p14 p15) (bT L)) Q E s:=by
 have hl1:(" ":Str).length=1:=by decide +kernel
 have hl2:("=\"":Str).length=2:=by decide +kernel
 have hl3:("\"":Str).length=1:=by decide +kernel
 refine gP (cl:=[]) ["k","v"] (by kernel_rfl) (by kernel_rfl) rfl rfl ?_ (by intro _;kernel_rfl);refine S'.local_ hal ?_;refine S'.iterL (.head _) ?_;clear S';intro it s' S';refine CompK.mk S' ?_;intro b Cc s1 eok S1;refine dX rfl rfl jH (S1.get (.tail _ (.tail _ (.head _)))) ?_;have Y:LY W [(al,aA (aG qs))] it (aG qs) [(it,bM al 0)]:=dJ (own₀:=[]) (by simp[aG]) (aG qs) 0 rfl;have S2:=(S1.tell (c':=aB []) .head λ o _ ho=>⟨_,.nil,ho⟩).perm (nw':=((b,aB [])::((bT L).locals,aI loc)::(aL qs++N))++([(al,aA (aG qs))]++[(it,bM al 0)])) (by walk_at "perm");clear S' S1;refine rV (sh:=[(al,aA (aG qs))]) (f:=λ(r:Addr×NsP)=>.ref r.1) (hA.le (by first | decide | walk_at "o")) (G:=G) (og:=[]) (own:=[(it,bM al 0)]) (λ(v:Option Value×Option Value) _=>[("k",v.1),("v",v.2)]) (λ _ dn=>(b,aB (dn.map λ r=>cD r.2))::((bT L).locals,aI loc)::(aL qs++N)) (λ _ _=>True) (compTurn_list1 ..) (eP Y.yields) (none,none) trivial (by rw[Aj];exact S2) ?_ ?_
 rotate_left
 ·refine pr3 ?_;intro ra x v dn rest tl tg vv s1 K hq _ S' kk;clear S2;have hrm:(ra,x,v)∈qs:=by rw[hq];simp
  have hxl:x.length<=2000:=(hx _ hrm).1;have hvl:v.length<=1000:=(hx _ hrm).2;have hl4:=oD v;have hmq:(ra,dZ (x,v))∈(aL qs++N)++((al,aA (aG qs))::tl):=Am _ (Am _ (Ah.mpr ⟨_,hrm,rfl⟩));have hdl:(dn.map λ r=>cD r.2).length<=100:=by
   have:=congrArg AV hq;simp only[Al,Ae]at this ⊢;walk_at "o"
  have e1:((dn++[(ra,x,v)]).map λ r=>cD r.2)=(dn.map λ r=>cD r.2)++[cD (x,v)]:=by rw[Ao];rfl
  walk_at "zd";simp only[Ar,Ax]at S';refine Sta.unpackPr S' hA.handled (by walk_at "mem") (by kernel_rfl) (by kernel_rfl) ?_;clear S';intro t1 t2 s' S';refine cE S' ?_;clear S';intro lq Mq S';refine assignInOrder_cons ?_;refine assign_Name ?_;walk_at "c";refine assignInOrder_cons ?_;refine assign_Name ?_;walk_at "c";refine assignInOrder_nil ?_;refine Aa ?_;walk_at "c";refine Sta.global S' I.g_escA (by kernel_rfl) ?_;refine bR (by rw[I.k];kernel_rfl) ?_ (by kernel_rfl) (by kernel_rfl);walk_at "c";refine escA_ I S' (hA.le (by first | decide | walk_at "o")) (by unfold txL;walk_at "o") ?_;clear S';intro t3 s' S';walk_at "c";have e:cD (x,v)=Str.empty++" "++x++"=\""++aBX v++"\"":=by rw[Str.empty_append];rfl
  rw[←e];refine Aa (S'.appendT .head (by walk_at "osz") λ s' S'=>Af ?_);walk_at "zd";exact kk (some (.str x t1),some (.str v t2)) _ trivial (S'.perm (nw':=((b,aB ((dn++[(ra,x,v)]).map λ r=>cD r.2))::((bT L).locals,aI loc)::(aL qs++N))++([(al,aA (aG qs))]++tl)) (by rw[e1];walk_at "perm"))
 ·intro vv s1 _ S1;exact CompEnd.mk (nw':=(b,aB (qs.map λ r=>cD r.2))::(al,aA (aG qs))::(aL qs++N)) (S1.perm (by walk_at "perm")) λ s3 S3=>k b s3 S3
end
end
end
noncomputable def bS(tx:Str)(row:List NsP):List Str:=("<"++tx)::((if row.isEmpty then[]else[cat (row.map cD)])++[(">":Str)])
noncomputable abbrev uP:Str:="{http://www.w3.org/XML/1998/namespace}space"
theorem aAZ:∀(xs:List Str) (n:Nat),(∀ x∈xs,x.length<=n)->(cat xs).length<=n*xs.length:=by
 intro l0
 induction l0 with
 | nil=>
  intro n _;rw[rX];simp
 | cons x r ih=>
  intro n h;have h1:=ih n λ y hy=>h y (.tail _ hy);have h2:=h x (.head _);rw[rX]at h1 ⊢;simp only[Ak,List.sum_cons,A9]at h1 ⊢;rw[Nat.mul_succ];walk_at "o"
section
variable {w:Wn}{c:Wc}{q:Addr}{m:Wm}
theorem aBp{K:Sink W}{σ:K.σ}{L d nn c1 acc al:Addr}{tag:Str}{t:Tok}{l:List (Str×Str×Tok)}{pl:List Pq}{pq:Pq}{qs:List (Addr×NsP)}{p0:List Bool}{pb:Bool}{vqt vk vv vqs vrn vqn vqa van vvl vuri vaq:Option Value}{Q:Flow->Ac->Prop}(I:IsC W)(hA:Aok 14 A)(hself:ClO (bT L) .cell "self" c1)(hpq:pq∈pl)(hv1:valueAt (pqD pl) tag=some (.ref pq.a))(htl:pq.tx.length<=2000)(h60:qs.length<=70)(hql:∀ r∈qs,r.2.1.length<=2000/\r.2.2.length<=1000)(hsp:valueAt (atV l) uP=none)(hps:m.ps=p0++[pb])(hpz:m.ps.length<=10000)(hr:K.room σ 3)(S':Sta W G (bT L) (gJ tag t d nn vqt vk vv vqs vrn vqn vqa van vvl (some (.ref acc)) vuri (some (.ref al)) vaq none none) ((al,aA (aG qs))::(acc,IsD W acc (pqD pl))::(c1,aE (some (.ref w.x)))::(d,IsD W d (atV l))::aC W w c K.q m (K.L σ++(aL qs++(bV pl++N)))) s)(k:∀ loc' s',loc'=gJ tag t d nn vqt vk vv vqs vrn vqn vqa van vvl (some (.ref acc)) vuri (some (.ref al)) vaq (some .none) (some (.ref K.q))->Sta W G (bT L) loc' ((al,aA (aG qs))::(acc,IsD W acc (pqD pl))::(c1,aE (some (.ref w.x)))::(d,IsD W d (atV l))::aC W w c K.q { m with ps:=m.ps++[pb] } (K.L (K.pushes σ (bS pq.tx (qs.map (·.2))))++(aL qs++(bV pl++N)))) s'-> Ad W.M A (execs ((aH bQ).drop 15) (bT L)) Q E s'):Ad W.M A (execs ((aH bQ).drop 9) (bT L)) Q E s:=by
 have hcl:=I.cl;have hl1:("<":Str).length=1:=by decide +kernel
 have hps2:(m.ps.map Value.bool).length<=Au:=by walk_at "osz"
 have hls:(m.ps.map Value.bool).getLast?=some (.bool pb):=by rw[hps];simp
 have hr1:K.room σ 1:=K.less (K.less hr);have hr2:∀ x,K.room (K.push σ x) 2:=λ x=>K.step x hr;have hr3:∀ x y,K.room (K.push (K.push σ x) y) 1:=λ x y=>K.step y (hr2 x);have hpm:(pq.a,oU pq.x pq.tx)∈bV pl:=Ah.mpr ⟨pq,hpq,rfl⟩;walk_at "zd";walk_at "c";refine Sta.getM_D S' (by walk_at "mem") F.slot_dict_get F.type_dict_get ?_;walk_at "c";refine Sta.dictGet S' (by walk_at "mem") ?_;clear S';intro s' S';rw[hsp,Option.getD_none];walk_at "c";refine aO ?_ (by intro _ _;kernel_rfl);walk_at "c";refine Sta.sub_last S' (by walk_at "mem") hls ?_;walk_at "c";refine aO ?_ (by intro _ _;kernel_rfl);refine aO ?_ (by intro _ _;kernel_rfl);walk_at "c";refine Sta.subD S' (by walk_at "mem") hv1 ?_;clear S';intro s' S';walk_at "c";refine Sta.subQn S' (x:=pq.x) (tx:=pq.tx) (by repeat (first | exact Am _ hpm | refine BK _ ?_ | refine Ag _ ?_)) ?_;intro t2;walk_at "c";refine⟨S'.sinkLed (L':=[]) (by walk_at "mid"),?_⟩;refine S'.sink (hA.le (by first | decide | walk_at "o")) hr1 (by walk_at "mid") ?_;clear S';intro s' S';walk_at "c";refine Sta.truthyR S' (.head _) (by walk_at "o") ?_;clear S';intro s' S';have eb:∀ X:Lg,(w.ps,aA (m.ps.map .bool++[.bool pb]))::X=(w.ps,aA ((m.ps++[pb]).map .bool))::X:=λ X=>by rw[Ao];rfl
 cases qs with
 | nil=>
  refine dG ?_;walk_at "c";refine⟨S'.sinkLed (L':=[]) (by walk_at "mid"),?_⟩;refine S'.sink (hA.le (by first | decide | walk_at "o")) (K.less (hr2 _)) (by walk_at "mid") ?_;clear S';intro s' S';rw[eb]at S';walk_at "ke";exact k _ s' rfl S'
 | cons r0 rr=>
  refine eZ ?_;walk_at "c";refine dW ?_;refine cT ?_ (by kernel_rfl) (by kernel_rfl);refine args_cons ?_ (by kernel_rfl);walk_at "zd";generalize hqs:r0::rr=qs at *;have hemp:¬(qs.map (·.2)).isEmpty=true:=by rw[←hqs];simp
  replace S':=S'.perm (nw':=(al,aA (aG qs))::(aL qs++((acc,IsD W acc (pqD pl))::(c1,aE (some (.ref w.x)))::(d,IsD W d (atV l))::(w.x,bG 143 w.dx)::(w.dx,aS (fW w c K.q m))::(w.d,aB m.held)::(w.dns,aA (aK m.dl))::(w.ns,aA (aK m.nl))::(w.pm,IsD W w.pm (pmV m.pm))::(w.ps,aA (m.ps.map .bool++[.bool pb]))::(aW m.dl++(aW m.nl++(K.L (K.push σ ("<"++pq.tx))++(bV pl++N))))))) (by walk_at "perm");refine cE S' ?_;clear S';intro lq Mq S';refine zE (al:=al) (qs:=qs) I (hA.le (by first | decide | walk_at "o")) h60 hql (by walk_at "mem") S' ?_;clear S';intro b s' S';refine args_nil ?_;refine Sta.joinT S' (.head _) (by kernel_rfl) (by
   refine An (aAZ _ 8004 λ x hx=>?_) (An (Bt 8004 (show _<=70 by rw[Al];exact h60)) (by decide));obtain⟨r,hr,rfl⟩:=Ah.mp hx;have h1:=hql r hr;have h2:=uD r.2;walk_at "o") ?_
  clear S';intro t3 s' S';walk_at "c";replace S':=S'.perm (nw':=(b,aB (qs.map λ r=>cD r.2))::(al,aA (aG qs))::(acc,IsD W acc (pqD pl))::(c1,aE (some (.ref w.x)))::(d,IsD W d (atV l))::(w.x,bG 143 w.dx)::(w.dx,aS (fW w c K.q m))::(w.d,aB m.held)::(w.dns,aA (aK m.dl))::(w.ns,aA (aK m.nl))::(w.pm,IsD W w.pm (pmV m.pm))::(w.ps,aA (m.ps.map .bool++[.bool pb]))::(aW m.dl++(aW m.nl++(K.L (K.push σ ("<"++pq.tx))++(aL qs++(bV pl++N)))))) (by walk_at "perm");refine⟨S'.sinkLed (L':=[]) (by walk_at "mid"),?_⟩;refine S'.sink (hA.le (by first | decide | walk_at "o")) (K.less (hr2 _)) (by walk_at "mid") ?_;clear S';intro s' S';walk_at "c";refine⟨S'.sinkLed (L':=[]) (by walk_at "mid"),?_⟩;refine S'.sink (hA.le (by first | decide | walk_at "o")) (hr3 _ _) (by walk_at "mid") ?_;clear S';intro s' S';rw[eb]at S';walk_at "ke";refine k _ s' rfl ?_;have ef:bS pq.tx (qs.map (·.2))=[("<"++pq.tx:Str),cat (qs.map λ r=>cD r.2),(">":Str)]:=by
   unfold bS;rw[if_neg hemp,AZ]
   rfl
  rw[ef];exact S'.sel (Sel.drop (Sel.refl _))
end
structure StOk (rw:Bool) (s:NSt) (tag:Str) (l:List (Str×Str×Tok)) (res:List (Str×Str)) (sv:NSt):Prop where
 new:tag∉l.map (·.1)
 nd:(l.map (·.1)).Nodup
 len:l.length<=3
 nm:∀ x∈tag::l.map (·.1),NmG x
 inj:∀ x∈tag::l.map (·.1),∀ y∈tag::l.map (·.1),cA x=cA y->x=y
 ok:zF rw s (srt (ltK cA) (tag::l.map (·.1)))
 rs:gG rw s (srt (ltK cA) (tag::l.map (·.1)))=some (res,sv)
 t4:(kJ sv.decl).length<=4
 sm:∀ r∈kJ sv.decl,gY r
 tl:∀ r∈res,r.2.length<=2000
 vl:∀ p∈l,p.2.1.length<=1000
 sp:uP∉l.map (·.1)
theorem iQ{rw:Bool}:∀{xs:List Str} {s sv:NSt} {res:List (Str×Str)},gG rw s xs=some (res,sv)->res.map (·.1)=xs
 | [],s,sv,res,h=>by obtain⟨rfl,rfl⟩:=Prod.mk.inj (Option.some.inj h);rfl
 | x::r,s,sv,res,h=>by
  obtain⟨⟨tx,s1⟩,h1,h2⟩:=Option.bind_eq_some_iff.mp h;obtain⟨⟨rr,sv'⟩,h3,h4⟩:=Option.map_eq_some_iff.mp h2;obtain⟨rfl,rfl⟩:=Prod.mk.inj h4;rw[Ak,iQ h3]
theorem mR{res:List (Str×Str)}{k:Str}(h:k∈res.map (·.1)):∃ r∈res,r.2=dR res k:=by
 obtain⟨r0,h0,e0⟩:=Ah.mp h;unfold dR;cases hf:res.find? λ r=>decide (r.1=k)with
 | none=>exact absurd e0 (by simpa using List.find?_eq_none.mp hf r0 h0)
 | some r=>exact⟨r,List.mem_of_find?_eq_some hf,rfl⟩
theorem StOk.key{rw:Bool}{s sv:NSt}{tag:Str}{l:List (Str×Str×Tok)}{res:List (Str×Str)}(h:StOk rw s tag l res sv){x:Str}(hx:x∈tag::l.map (·.1)):x∈res.map (·.1):=by
 rw[iQ h.rs];exact(cB (lt:=ltK cA) _).mem_iff.mpr hx
theorem StOk.row{rw:Bool}{s sv:NSt}{tag:Str}{l:List (Str×Str×Tok)}{res:List (Str×Str)}(h:StOk rw s tag l res sv):∀ r∈xnR sv.decl++atR res (atQ l),r.1.length<=2000/\r.2.length<=1000:=by
 intro r hr;rcases AW.mp hr with hr | hr
 ·have h1:=(cB (lt:=lt2) _).mem_iff.mp hr;obtain⟨q,hq,rfl⟩:=Ah.mp h1;have h2:=h.sm q hq;have h3:=aBb q.2;exact⟨by show(xnT q.2).length<=2000;have:=h2.2;walk_at "o",h2.1⟩
 ·obtain⟨q,hq,rfl⟩:=Ah.mp hr;have h1:=(cB (lt:=lt2) _).mem_iff.mp hq;obtain⟨p,hp,rfl⟩:=Ah.mp h1;refine⟨?_,h.vl p hp⟩;have hx:p.1∈tag::l.map (·.1):=.tail _ (Ah.mpr ⟨p,hp,rfl⟩);show(if(nmU p.1).length=0 then nmL p.1 else dR res p.1).length<=2000
  split
  ·have:=(h.nm _ hx).ll;walk_at "o"
  ·obtain⟨r,hr,e⟩:=mR (h.key hx);rw[←e];exact h.tl r hr
section
variable {w:Wn}{c:Wc}{q:Addr}{m:Wm}
theorem aBo{K:Sink W}{L c1:Addr}{vt vd vn vk vv vqs vrn vqn vqa van vvl vpq vuri val vaq vsb vwr:Option Value}{Q:Flow->Ac->Prop}(I:IsC W)(hA:Aok 14 A)(hself:ClO (bT L) .cell "self" c1)(hnz:m.nl.length<=10000)(S':Sta W G (bT L) [("tag",vt),("attrs",vd),("new_namespaces",vn),("qname_text",some .none),("k",vk),("v",vv),("qnames",vqs),("resolved_names",vrn),("qname",vqn),("qattrs",vqa),("attr_name",van),("value",vvl),("parsed_qnames",vpq),("uri",vuri),("attr_list",val),("attr_qname",vaq),("space_behaviour",vsb),("write",vwr)] ((c1,aE (some (.ref w.x)))::aC W w c K.q m N) s)(k:∀ a loc' s',Sta W G (bT L) loc' (aC W w c K.q { m with rs:=true,nl:=m.nl++[⟨a,[]⟩] } N) s'->Q .next s'):Ad W.M A (execs ((aH bQ).drop 15) (bT L)) Q E s:=by
 have hcl:=I.cl;have hnl:(aK m.nl).length<=Au:=by rw[Av];simp[aK];walk_at "o"
 walk_at "zd";walk_at "c";walk_at "ke";refine k a' _ s' (S'.sel (Sel.rest [(c1,aE (some (.ref w.x)))] ?_));simp only[aC]
 rw[bW];have e:aK m.nl++[.ref a']=aK (m.nl++[⟨a',[]⟩]):=by simp[aK]
 rw[e];show List.Perm _ (((w.x,bG 143 w.dx)::(w.dx,aS (fW w c K.q { m with rs:=true,nl:=m.nl++[⟨a',[]⟩] }))::(w.d,aB m.held)::(w.dns,aA (aK m.dl))::(w.ns,aA (aK (m.nl++[⟨a',[]⟩])))::(w.pm,IsD W w.pm (pmV m.pm))::(w.ps,aA (m.ps.map .bool))::(aW m.dl++((aW m.nl++[(a',aA [])])++N)))++[(c1,aE (some (.ref w.x)))]);walk_at "perm"
theorem aBr{K:Sink W}{σ:K.σ}{d:Addr}{tag:Str}{t:Tok}{l:List (Str×Str×Tok)}{res:List (Str×Str)}{sv:NSt}{d0:List Lv}{lv:Lv}{p0:List Bool}{pb:Bool}{c?:Option Addr}{Q:Value->Ac->Prop}(I:IsC W)(C:CodeHd W.B 118 116)(hA:Aok 24 A)(hd:m.dl=d0++[lv])(hok:StOk c.rw (bF m) tag l res sv)(hps:m.ps=p0++[pb])(hpz:m.ps.length<=10000)(hnz:m.nl.length<=10000)(hr:K.room σ 3)(S:Sta W G env loc ((d,IsD W d (atV l))::aC W w c K.q m (K.L σ++(bA 116 bE aN c?++N))) s)(k:∀ c' dl pm a s',bF { m with dl:=dl,pm:=pm }=sv->aK dl=aK m.dl->Sta W G env loc ((d,IsD W d (atV l))::aC W w c K.q { m with dl:=dl,pm:=pm,rs:=true,ps:=m.ps++[pb],nl:=m.nl++[⟨a,[]⟩] } (K.L (K.pushes σ (bS (dR res tag) (xnR sv.decl++atR res (atQ l))))++(bA 116 bE aN (some c')++N))) s'->Q .none s'):Ad W.M A (call (.ref 119) [.ref w.x,.str tag t,.ref d,.ref lv.a]) Q E s:=by
 refine S.call_fnC (binds:=[("self",.ref w.x),("tag",.str tag t),("attrs",.ref d),("new_namespaces",.ref lv.a),("qname_text",.none)]) [("tag",.str tag t),("attrs",.ref d),("new_namespaces",.ref lv.a),("qname_text",.none)] ["k","v","qnames","resolved_names","qname","qattrs","attr_name","value","parsed_qnames","uri","attr_list","attr_qname","space_behaviour","write"] [some (.ref w.x),none] I.f_start1 hA.room ?_ (by kernel_rfl) (by kernel_rfl) (by kernel_rfl) ?_
 ·intro name doc pm ct an;exact kp_binds S.kin λ S=>by rw[I.k];kernel_rfl
 intro L cs s' hcs S';have hnm:aU (aD bQ).names=(["self","parse_qname"]:List Str):=by kernel_rfl
 rw[hnm]at hcs;obtain⟨c1,c2,rfl,hself,hpq⟩:=hcs.two;have hA':=hA.deeper (env:=bT L);walk_at "zd";dsimp only[aT,Ak,AD,Ar,Ax,gF,gU]at S';have hak:=aA4 l;have hql:(atQ l).map (·.1)=l.map (·.1):=by simp[atQ,AZ,Function.comp_def]
 rw[hql]at hak;have hall:(atV l).length=l.length:=Al ..;have S2:=S'.perm (nw':=(c1,aE (some (.ref w.x)))::(d,IsD W d (atV l))::aC W w c K.q m ((c2,aE none)::(K.L σ++(bA 116 bE aN c?++((env.locals,aI loc)::N))))) (by simp only[aC];walk_at "perm");clear S';refine aR ?_;refine aBn (kvs:=atV l) I (hA'.le (by decide)) hself (by rw[hak];exact hok.new) (by rw[hall];exact hok.len) S2 ?_;clear S2;intro qs vrn s' S';walk_at "zd";have S2:=S'.perm (nw':=(c1,aE (some (.ref w.x)))::(c2,aE none)::(qs,cZ W (tag::l.map (·.1)))::aC W w c K.q m (bA 116 bE aN c?++((d,IsD W d (atV l))::(K.L σ++((env.locals,aI loc)::N))))) (by rw[hak];simp only[aC];walk_at "perm");clear S';refine aBl I C (hA'.le (by decide)) hself hpq hd rfl (AH.mpr ⟨hok.new,hok.nd⟩) hok.nm (by have:=hok.len;simp;walk_at "o") hok.inj hok.ok hok.rs hok.t4 hok.sm S2 ?_;clear S2;intro acc al pl ps dl pm c' s' hpr hsv hdl hpsr S';have hp60:ps.length<=60:=by
  have h1:=congrArg AV hpsr;have h2:=hok.t4;unfold xnR at h1;rw[Al,(cB (lt:=lt2) _).length_eq,Al]at h1;walk_at "o"
 have S2:=S'.perm (nw':=(al,aA (aG ps))::(aL ps++((acc,IsD W acc (pqD pl))::(d,IsD W d (atV l))::(bV pl++((c1,aE (some (.ref w.x)))::aC W w c K.q { m with dl:=dl,pm:=pm } (K.L σ++(bA 116 bE aN (some c')++((env.locals,aI loc)::N)))))))) (by simp only[aC];walk_at "perm");clear S';refine aBq (ps:=ps) I (hA'.le (by decide)) hpr (λ p hp=>hok.key (.tail _ (Ah.mpr ⟨p,hp,rfl⟩))) (by have:=hok.len;walk_at "o") hp60 (λ p hp=>hok.nm _ (.tail _ (Ah.mpr ⟨p,hp,rfl⟩))) S2 ?_;clear S2;intro rs vk vv van vuri vaq s' hrs S';rw[hpsr]at hrs;obtain⟨pq,hq1,hq2,hq3,hq4⟩:=qY (k:=tag) hpr (hok.key (.head _));have S2:=S'.perm (nw':=(al,aA (aG rs))::(acc,IsD W acc (pqD pl))::(c1,aE (some (.ref w.x)))::(d,IsD W d (atV l))::aC W w c K.q { m with dl:=dl,pm:=pm } (K.L σ++(aL rs++(bV pl++(bA 116 bE aN (some c')++((env.locals,aI loc)::N)))))) (by simp only[aC];walk_at "perm");clear S';have hr60:rs.length<=70:=by
  have h1:=congrArg AV hrs;have h2:=congrArg AV hpsr;unfold atR at h1;rw[Al,Ae,Al,(cB (lt:=lt2) _).length_eq]at h1;rw[Al]at h2;have h3:=hok.len;have h4:(atQ l).length=l.length:=Al ..;walk_at "o"
 refine aBp (m:={ m with dl:=dl,pm:=pm }) I (hA'.le (by decide)) hself hq1 hq4 (by rw[hq3];obtain⟨r,hr,e⟩:=mR (hok.key (x:=tag) (.head _));rw[←e];exact hok.tl r hr) hr60 (λ r hr=>hok.row _ (by rw[←hrs];exact Ah.mpr ⟨r,hr,rfl⟩)) (jF (by rw[hak];exact hok.sp)) hps hpz hr S2 ?_;clear S2;intro loc' s' hloc S';subst hloc;walk_at "zd";have S2:=S'.sel (nw':=(c1,aE (some (.ref w.x)))::aC W w c K.q { m with dl:=dl,pm:=pm,ps:=m.ps++[pb] } ((d,IsD W d (atV l))::(K.L (K.pushes σ (bS (dR res tag) (xnR sv.decl++atR res (atQ l))))++(bA 116 bE aN (some c')++((env.locals,aI loc)::N))))) (Sel.rest ((al,aA (aG rs))::(acc,IsD W acc (pqD pl))::(aL rs++bV pl)) (by rw[hrs,hq3];simp only[aC];walk_at "perm"));clear S';refine aBo (m:={ m with dl:=dl,pm:=pm,ps:=m.ps++[pb] }) I (hA'.le (by decide)) hself hnz S2 ?_;clear S2;intro a loc' s' S';walk_at "ke";refine k c' dl pm a s' hsv hdl (Sta.back (S'.perm ?_) S.eok);walk_at "perm"
end
noncomputable def Wm.data(m:Wm)(x:Str):Wm:=if m.ig=0 then{ m with held:=m.held++[x] }else m
noncomputable def cW(held:List Str):List Str:=if(cat held).length=0 then[]else[dC (cat held)]
noncomputable def Wm.fl(m:Wm):List Str:=if m.rs=true then cW m.held else[]
theorem tQ:cW []=[]:=rfl
theorem gD{W:Wd}(K:Sink W){σ:K.σ}{n m:Nat}(h:n<=m)(hr:K.room σ m):K.room σ n:=by
 induction m with
 | zero=>have:n=0:=(by walk_at "o");subst this;exact hr
 | succ m ih=>
  by_cases e:n=m+1
  ·subst e;exact hr
  ·exact ih (by walk_at "o") (K.less hr)
theorem eX{W:Wd}(K:Sink W):∀(xs:List Str) {σ:K.σ} {n:Nat},K.room σ (n+xs.length)->K.room (K.pushes σ xs) n
 | [],σ,n,h=>h
 | x::r,σ,n,h=>eX K r (σ:=K.push σ x) (K.step x (by simpa[Bk]using h))
theorem rS(m:Wm):m.fl.length<=1:=by
 unfold Wm.fl cW
 split
 ·split<;>simp
 ·simp
theorem wV{W:Wd}(K:Sink W){σ:K.σ}{n:Nat}(m:Wm)(h:K.room σ (n+1)):K.room (K.pushes σ m.fl) n:=eX K _ (gD K (by have:=rS m;walk_at "o") h)
theorem aAO{m:Wm}(h:m.held=[]):m.fl=[]:=by unfold Wm.fl;rw[h,tQ];split<;>rfl
section
variable {w:Wn}{c:Wc}{q:Addr}{m:Wm}
theorem jb_at(I:IsC W):∃ t0,W.K.lookup 91=some { cls:=.type "builtin_function_or_method",data:=.fields #[.builtin "str.join",.str "" t0] }:=by
 rw[I.k];exact⟨430,by kernel_rfl⟩
theorem data_{x:Str}{t:Tok}{Q:Value->Ac->Prop}(I:IsC W)(S:Sta W G env loc (aC W w c q m N) s)(hA:Aok 2 A)(hz:m.held.length<=Au)(k:∀ s',Sta W G env loc (aC W w c q (m.data x) N) s'->Q .none s'):Ad W.M A (call (.ref 90) [.ref w.x,.str x t]) Q E s:=by
 refine S.call_fn (binds:=[("self",.ref w.x),("data",.str x t)]) [] I.f_data hA.room (λ _ _ _ _ _=>BindsTo.of_eq (by kernel_rfl)) (by kernel_rfl) ?_;intro L s' S';walk_at "zd";simp only[aT,Ak,AD,Ar,Ax]at S';have hcl:=I.cl;refine aR ?_;walk_at "c"
 by_cases hi:m.ig=0
 ·have e0:((m.ig:Int) != 0)=false:=by rw[hi];rfl
  rw[e0];walk_at "c";have S2:=Sta.back S' S.eok;have q:=k s';unfold Wm.data at q;rw[if_pos hi]at q;exact q S2
 ·have e0:((m.ig:Int) != 0)=true:=bne_iff_ne.mpr (by walk_at "o");rw[e0];walk_at "c";have S2:=Sta.back S' S.eok;have q:=k s';unfold Wm.data at q;rw[if_neg hi]at q;exact q S2
theorem aDW{K:Sink W}{σ:K.σ}{Q:Value->Ac->Prop}(I:IsC W)(S:Sta W G env loc (aC W w c K.q m (K.L σ++N)) s)(hA:Aok 5 A)(hz:m.held.length<=Au)(hc:(cat m.held).length<=txL)(hr:K.room σ 1)(k:∀ s',Sta W G env loc (aC W w c K.q { m with held:=[] } (K.L (K.pushes σ m.fl)++N)) s'->Q .none s'):Ad W.M A (call (.ref 99) [.ref w.x]) Q E s:=by
 obtain⟨t0,hj⟩:=jb_at I;have hz2:(cat m.held).length<=16777216:=by unfold txL at hc;walk_at "o"
 refine S.call_fnV (λ L=>envOf "C14NWriterTarget._flush" (aD mX) L 99 (.ref 98)) (binds:=[("self",.ref w.x),("_join_text",.ref 91)]) ["data","args","qname_text"] I.f_flush hA ?_ (by kernel_rfl) ?_
 ·intro name doc pm ct an;exact kp_binds S.kin λ S=>by rw[I.k];kernel_rfl
 intro L A' s' hA' S';walk_at "zd";simp only[aT,Ak,AD,Ar,Ax]at S';have hcl:=I.cl;refine aR ?_;walk_at "c";refine aCf hj ?_ (by kernel_rfl) (by kernel_rfl);walk_at "c";refine⟨S'.kin,?_⟩;refine Sta.joinB S' hj (by walk_at "mem") (by kernel_rfl) hz2 ?_;clear S';intro t1 s' S';walk_at "c";refine wpAny_Delete (wpAny_deleteEach_cons (wD ?_));walk_at "c";refine⟨_,_,_,_,_,_,S',rfl,by walk_at "upd",hz,?_⟩;clear S';intro s' S';refine wpAny_deleteEach_nil ?_;walk_at "c";refine dH S' hz2 (λ e s' S'=>?_) (λ e s' S'=>?_)
 ·walk_at "c";have S2:=Sta.back S' S.eok;have q:=k s';have ef:m.fl=[]:=by unfold Wm.fl cW;rw[if_pos e];split<;>rfl
  rw[ef]at q;exact q S2
 ·walk_at "c";cases hrs:m.rs with
  | false=>
   walk_at "c";have S2:=Sta.back S' S.eok;have q:=k s';have ef:m.fl=[]:=by unfold Wm.fl;rw[hrs];rfl
   rw[ef]at q;exact q S2
  | true=>
   walk_at "c";refine Sta.global S' I.g_escC (by kernel_rfl) ?_;refine bR (by rw[I.k];kernel_rfl) ?_ (by kernel_rfl) (by kernel_rfl);walk_at "c";refine⟨S'.kin,?_⟩;refine aAQ I S' (hA'.le (by first | decide | walk_at "o")) hc ?_;clear S';intro t2 s' S';walk_at "c";refine⟨S'.sinkLed (L':=[]) (by walk_at "mid"),?_⟩;refine S'.sink (hA'.le (by first | decide | walk_at "o")) hr (by walk_at "mid") ?_;clear S';intro s' S';walk_at "c";have S2:=Sta.back S' S.eok;have q:=k s';have ef:m.fl=[dC (cat m.held)]:=by unfold Wm.fl cW;rw[hrs,if_pos rfl,if_neg e]
   rw[ef]at q;exact q S2
theorem qC{K:Sink W}{σ:K.σ}{pos apos opos:Pos}{Q:Value->Ac->Prop}(I:IsC W)(hA:Aok 5 A)(hs:(("self":Str),some (Value.ref w.x))∈loc)(hz:m.held.length<=Au)(hc:(cat m.held).length<=txL)(hr:K.room σ 1)(hb:attributeBase (.Name "self" opos) "_flush" env (eval (.Name "self" opos) env)=eval (.Name "self" opos) env)(hf:methodCallForm (([]:List Expr).length+([]:List Keyword).length) (backTo pos (Aw [] env)) (backToKw pos (keywordEach [] env))=true)(hl:(apos.endLine==pos.line)=true)(S:Sta W G env loc (aC W w c K.q m (K.L σ++N)) s)(k:∀ s',Sta W G env loc (aC W w c K.q { m with held:=[] } (K.L (K.pushes σ m.fl)++N)) s'->Q .none s'):Ad W.M A (eval (.Call (.Attribute (.Name "self" opos) "_flush" apos) [] [] pos) env) Q E s:=by
 have hcl:=I.cl;refine jD ?_ hb hf hl;refine S.local_ hs ?_;refine Sta.getM_inst (f:=99) S hcl (by walk_at "mem") (by walk_at "mem") VV.keys (by decide +kernel) (by rw[I.k];kernel_rfl) (by rw[I.k];kernel_rfl) ?_;refine aEc (by rw[I.k];kernel_rfl) S.kin ?_;exact aDW I S hA hz hc hr k
theorem oB{K:Sink W}{σ:K.σ}{p9 p10 p12 p13 p14 p15 p16:Pos}{Q:Flow->Ac->Prop}(I:IsC W)(hA:Aok 5 A)(hi:interactive env=false)(hs:(("self":Str),some (Value.ref w.x))∈loc)(hz:m.held.length<=Au)(hc:(cat m.held).length<=txL)(hr:K.room σ 1)(hl2:(p13.endLine==p14.line)=true)(S':Sta W G env loc (aC W w c K.q m (K.L σ++N)) s)(k:∀ s',Sta W G env loc (aC W w c K.q { m with held:=[] } (K.L (K.pushes σ m.fl)++N)) s'->Q .next s'):Ad W.M A (exec (.If (.Attribute (.Name "self" p9) "_data" p10) [.Expr (.Call (.Attribute (.Name "self" p12) "_flush" p13) [] [] p14) p15] [] p16) env) Q E s:=by
 have hcl:=I.cl;refine wpAny_If ?_;refine eT ?_ rfl;refine kL S' hs ?_;walk_at "c";cases hd2:m.held with
 | nil=>
  rw[aAO hd2,show({ m with held:=[] }:Wm)=m from by rw[←hd2]]at k;exact dG (AI (k _ S'))
 | cons y r=>
  refine eZ (Ay ?_);refine wpAny_Expr_any ?_ hi (by kernel_rfl);exact qC I hA hs hz hc hr rfl rfl hl2 S' λ s2 S3=>AI (k s2 S3)
end
noncomputable abbrev aD3(L:Addr):Env:=envOf "C14NWriterTarget.start_ns" (aD gA) L 106 (.ref 105)
section
variable {w:Wn}{c:Wc}{q:Addr}{m:Wm}
theorem ns_{K:Sink W}{σ:K.σ}{p u:Str}{t1 t2:Tok}{n0:List Lv}{lv:Lv}{Q:Value->Ac->Prop}(I:IsC W)(hA:Aok 8 A)(hig:m.ig=0)(hz:m.held.length<=Au)(hc:(cat m.held).length<=txL)(hr:K.room σ 1)(hn:m.nl=n0++[lv])(hlz:lv.ps.length<=1000)(S:Sta W G env loc (aC W w c K.q m (K.L σ++N)) s)(k:∀ a s',Sta W G env loc (aC W w c K.q { m with held:=[],nl:=cQ (a,u,p) m.nl } (K.L (K.pushes σ m.fl)++N)) s'->Q .none s'):Ad W.M A (call (.ref 106) [.ref w.x,.str p t1,.str u t2]) Q E s:=by
 refine S.call_fnV aD3 (binds:=[("self",.ref w.x),("prefix",.str p t1),("uri",.str u t2)]) [] I.f_startNs hA (λ _ _ _ _ _=>BindsTo.of_eq (by kernel_rfl)) (by kernel_rfl) ?_;intro L A' s' hA' S';walk_at "zd";simp only[aT,Ak,AD,Ar,Ax]at S';have hcl:=I.cl;have e0:((m.ig:Int) != 0)=false:=by rw[hig];rfl
 have hlast:=eU n0 lv;rw[←hn]at hlast;have rest:∀ s',Sta W G (aD3 L) ([("self",some (.ref w.x)),("prefix",some (.str p t1)),("uri",some (.str u t2))]:Loc) (aC W w c K.q { m with held:=[] } (K.L (K.pushes σ m.fl)++((env.locals,aI loc)::N))) s'->
   Ad W.M A' (execs ((aH gA).drop 2) (aD3 L)) (λ fl s''=>Q (match fl with | .ret v=>v | _=>.none) s'') (λ _ _=>False) s':=by
  clear S';intro s' S';walk_at "zd";walk_at "c";refine aO ?_ (by intro _ _;kernel_rfl);walk_at "c";refine Sta.sub_last S' (by walk_at "mem") hlast ?_;have hlm:(lv.a,aA (aG lv.ps))∈aW m.dl++(aW m.nl++(K.L (K.pushes σ m.fl)++((env.locals,aI loc)::N))):=Ag _ (Am _ (nM (by rw[hn];simp)));walk_at "c";revert a';intro tup S';have S2:=S'.perm (nw':=(tup,aJ [.str u t2,.str p t1])::(aW (n0++[lv])++((w.x,bG 143 w.dx)::(w.dx,aS (fW w c K.q { m with held:=[] }))::(w.d,aB [])::(w.dns,aA (aK m.dl))::(w.ns,aA (aK m.nl))::(w.pm,IsD W w.pm (pmV m.pm))::(w.ps,aA (m.ps.map .bool))::(aW m.dl++(K.L (K.pushes σ m.fl)++((env.locals,aI loc)::N)))))) (by rw[←hn];walk_at "perm");clear S';refine Sta.addPr (d0:=n0) (lv:=lv) hlz S2 ?_;clear S2;intro s' S';rw[←hn]at S';walk_at "ke";refine fS (by decide) ?_;walk_at "ke";refine k tup s' (Sta.back (S'.perm ?_) S.eok);simp only[aC,dF]
  walk_at "perm"
 refine aR ?_;refine aF rfl ?_;refine wpAny_If ?_
 iterate 4 walk_at "cw"
 rw[e0];refine dG ?_;walk_at "ke";refine aF rfl ?_;refine oB (w:=w) (c:=c) (m:=m) (σ:=σ) (N:=(env.locals,aI loc)::N) I (hA'.le (by decide)) rfl (.head _) hz hc hr rfl (S'.perm (by walk_at "perm")) ?_;clear S';intro s' S';exact rest _ S'
end
noncomputable def NSt.opn(s:NSt):NSt:={ s with decl:=s.decl++[[]] }
theorem aAm(m:Wm)(a:Addr)(h:List Str):bF { m with held:=h,dl:=m.dl++[⟨a,[]⟩] }=(bF m).opn:=by
 unfold bF NSt.opn;simp[Lv.val]
noncomputable abbrev wC(L:Addr):Env:=envOf "C14NWriterTarget.start" (aD gL) L 113 (.ref 112)
noncomputable abbrev aDH(w:Wn)(tag:Str)(t:Tok)(d:Addr)(vn:Option Value):Loc:=[("self",some (.ref w.x)),("tag",some (.str tag t)),("attrs",some (.ref d)),("new_namespaces",vn)]
noncomputable def Wm.begun(m:Wm)(dl:List Lv)(pm:List (Str×Str×Tok))(pb:Bool)(a:Addr):Wm:={ m with held:=[],dl:=dl,pm:=pm,rs:=true,ps:=m.ps++[pb],nl:=m.nl++[⟨a,[]⟩] }
section
variable {w:Wn}{c:Wc}{q:Addr}{m:Wm}
theorem aBk{K:Sink W}{σ:K.σ}{L d:Addr}{tag:Str}{t:Tok}{l:List (Str×Str×Tok)}{res:List (Str×Str)}{sv:NSt}{p0:List Bool}{pb:Bool}{c?:Option Addr}{Q:Flow->Ac->Prop}(I:IsC W)(C:CodeHd W.B 118 116)(hA:Aok 26 A)(hok:StOk c.rw (bF m).opn tag l res sv)(hps:m.ps=p0++[pb])(hpz:m.ps.length<=10000)(hnz:m.nl.length<=10000)(hdz:m.dl.length<=10000)(hz:m.held.length<=Au)(hc:(cat m.held).length<=txL)(hr:K.room σ 4)(S':Sta W G (wC L) (aDH w tag t d none) ((d,IsD W d (atV l))::aC W w c K.q m (K.L σ++(bA 116 bE aN c?++N))) s)(k:∀ c' dl pm a loc' s',bF { m with dl:=dl,pm:=pm }=sv->Sta W G (wC L) loc' ((d,IsD W d (atV l))::aC W w c K.q (m.begun dl pm pb a) (K.L (K.pushes σ (m.fl++bS (dR res tag) (xnR sv.decl++atR res (atQ l))))++(bA 116 bE aN (some c')++N))) s'->Q .next s'):Ad W.M A (execs ((aH gL).drop 1) (wC L)) Q E s:=by
 have hcl:=I.cl;have rest:∀ s',Sta W G (wC L) (aDH w tag t d none) ((d,IsD W d (atV l))::aC W w c K.q { m with held:=[] } (K.L (K.pushes σ m.fl)++(bA 116 bE aN c?++N))) s'->Ad W.M A (execs ((aH gL).drop 2) (wC L)) Q E s':=by
  clear S';intro s' S';have hdz:(aK m.dl).length<=Au:=by rw[Av];simp[aK];walk_at "o"
  walk_at "zd";walk_at "c";refine Sta.getM_inst (f:=119) S' hcl (by walk_at "mem") (by walk_at "mem") VV.keys (by decide +kernel) (by rw[I.k];kernel_rfl) (by rw[I.k];kernel_rfl) ?_;refine eB (by rw[I.k];kernel_rfl) ?_ (by kernel_rfl) (by kernel_rfl);walk_at "c";refine⟨S'.kin,?_⟩;have e:aK m.dl++[.ref a']=aK (m.dl++[⟨a',[]⟩]):=by simp[aK]
  walk_at "zd";have S2:=S'.perm (nw':=(d,IsD W d (atV l))::aC W w c K.q { m with held:=[],dl:=m.dl++[⟨a',[]⟩] } (K.L (K.pushes σ m.fl)++(bA 116 bE aN c?++N))) (by
   rw[e];simp only[aC]
   rw[bW];show List.Perm _ ((d,IsD W d (atV l))::(w.x,bG 143 w.dx)::(w.dx,aS (fW w c K.q { m with held:=[],dl:=m.dl++[⟨a',[]⟩] }))::(w.d,aB [])::(w.dns,aA (aK (m.dl++[⟨a',[]⟩])))::(w.ns,aA (aK m.nl))::(w.pm,IsD W w.pm (pmV m.pm))::(w.ps,aA (m.ps.map .bool))::((aW m.dl++[(a',aA [])])++(aW m.nl++(K.L (K.pushes σ m.fl)++(bA 116 bE aN c?++N)))));walk_at "perm")
  clear S';refine aBr (m:={ m with held:=[],dl:=m.dl++[⟨a',[]⟩] }) (lv:=⟨a',[]⟩) (d0:=m.dl) I C (hA.le (by first | decide | walk_at "o")) rfl (by rw[aAm];exact hok) hps hpz hnz (wV K m hr) S2 ?_;clear S2;intro c' dl pm a s' hsv hdl S';walk_at "c";walk_at "ke";refine k c' dl pm a (aDH w tag t d (some (.ref a'))) s' hsv ?_;rw[K.pushes_append];exact S'
 refine aF rfl ?_;refine oB (w:=w) (c:=c) (m:=m) (σ:=σ) (N:=(d,IsD W d (atV l))::(bA 116 bE aN c?++N)) I (hA.le (by decide)) rfl (.head _) hz hc (gD K (by walk_at "o") hr) rfl (S'.perm (by walk_at "perm")) ?_;clear S';intro s' S';exact rest _ (S'.perm (by walk_at "perm"))
end
noncomputable def oG(tx:Str):Str:="</"++tx++">"
theorem dQ(v:Str):(dC v).length<=6*v.length:=nK _ 6 aDX v
noncomputable abbrev aD4(L:Addr):Env:=envOf "C14NWriterTarget.end" (aD qN) L 126 (.ref 125)
noncomputable abbrev kA(L:Addr):Env:=envOf "C14NWriterTarget.pi" (aD sF) L 140 (.ref 139)
noncomputable def Wm.done(m:Wm)(dl:List Lv)(pm:List (Str×Str×Tok)):Wm:={ m with held:=[],dl:=dl.dropLast,pm:=pm,nl:=m.nl.dropLast,ps:=m.ps.dropLast,rd:=decide (m.ps.length=2) }
theorem pW{dl:List Lv}{d0:List Lv}{lv:Lv}(h:dl=d0++[lv]):aW dl=aW d0++((lv.a,aA (aG lv.ps))::(aL lv.ps++[])):=by subst h;exact bW ..
section
variable {w:Wn}{c:Wc}{q:Addr}{m:Wm}
theorem aDi{x tx:Str}{t:Tok}{sv:NSt}{Q:Value->Ac->Prop}(I:IsC W)(S:Sta W G env loc (aC W w c q m N) s)(hA:Aok 14 A)(hx:NmG x)(hok:NsOk (bF m))(hq:qnV c.rw (bF m) (nmU x) (nmL x)=some (tx,sv))(k:∀ a dl pm s',bF { m with dl:=dl,pm:=pm }=sv->aK dl=aK m.dl->Sta W G env loc ((a,oU x tx)::aC W w c q { m with dl:=dl,pm:=pm } N) s'->Q (.ref a) s'):Ad W.M A (call (.ref 83) [.ref w.x,.str x t]) Q E s:=
 wpAny_call (wX I S hA hx hok hq λ a dl pm t1 t2 t3 s' h1 h2 S'=>k a dl pm s' h1 h2 (S'.tell (c':=oU x tx) .head λ o _ ho=>⟨t1,t2,t3,ho⟩))
theorem end_{K:Sink W}{σ:K.σ}{tag tx:Str}{t:Tok}{sv:NSt}{d0 n0:List Lv}{lv ln:Lv}{p0:List Bool}{pb:Bool}{Q:Value->Ac->Prop}(I:IsC W)(hA:Aok 18 A)(htag:NmG tag)(hok:NsOk (bF m))(hq:qnV c.rw (bF m) (nmU tag) (nmL tag)=some (tx,sv))(htl:tx.length<=2000)(hig:m.ig=0)(hz:m.held.length<=Au)(hc:(cat m.held).length<=txL)(hr:K.room σ 2)(hn:m.nl=n0++[ln])(hd:m.dl=d0++[lv])(hps:m.ps=p0++[pb])(hpz:m.ps.length<=10000)(hnz:m.nl.length<=10000)(hdz:m.dl.length<=10000)(S:Sta W G env loc (aC W w c K.q m (K.L σ++N)) s)(k:∀ dl pm s',bF { m with dl:=dl,pm:=pm }=sv->Sta W G env loc (aC W w c K.q (m.done dl pm) (K.L (K.pushes σ (m.fl++[oG tx]))++N)) s'->Q .none s'):Ad W.M A (call (.ref 126) [.ref w.x,.str tag t]) Q E s:=by
 refine S.call_fnV aD4 (binds:=[("self",.ref w.x),("tag",.str tag t)]) [] I.f_end hA (λ _ _ _ _ _=>BindsTo.of_eq (by kernel_rfl)) (by kernel_rfl) ?_;intro L A' s' hA' S';walk_at "zd"
 try simp only[aT,Ak,AD,Ar,Ax]at S'
 have hcl:=I.cl;have e0:((m.ig:Int) != 0)=false:=by rw[hig];rfl
 have hl1:("</":Str).length=2:=by decide +kernel
 have hl2:(">":Str).length=1:=by decide +kernel
 have rest:∀ s',Sta W G (aD4 L) ([("self",some (.ref w.x)),("tag",some (.str tag t))]:Loc) (aC W w c K.q { m with held:=[] } (K.L (K.pushes σ m.fl)++((env.locals,aI loc)::N))) s'->
   Ad W.M A' (execs ((aH qN).drop 2) (aD4 L)) (λ fl s''=>Q (match fl with | .ret v=>v | _=>.none) s'') (λ _ _=>False) s':=by
  clear S';intro s' S';walk_at "zd";walk_at "c";refine aO ?_ (by intro _ _;kernel_rfl);walk_at "c";refine Sta.getM_inst (f:=83) S' hcl (by walk_at "mem") (by walk_at "mem") VV.keys (by decide +kernel) (by rw[I.k];kernel_rfl) (by rw[I.k];kernel_rfl) ?_;refine eB (by rw[I.k];kernel_rfl) ?_ (by kernel_rfl) (by kernel_rfl);walk_at "c";refine⟨S'.kin,?_⟩;refine aDi (m:={ m with held:=[] }) I (S'.perm (nw':=aC W w c K.q { m with held:=[] } (K.L (K.pushes σ m.fl)++((env.locals,aI loc)::N))) (by simp only[aC];walk_at "perm")) (hA'.le (by first | decide | walk_at "o")) htag hok hq ?_;clear S';intro tp dl pm s' hsv hdl S';have hdl:aK dl=aK m.dl:=hdl;obtain⟨d1,lv1,hd1,hla⟩:=lL (hdl.trans (congrArg _ hd));have hdn:(aK d1).length<Au:=by
   have h1:=congrArg AV hdl;rw[hd1]at h1;simp only[aK,Al,Ae]at h1 ⊢;rw[Av];simp at h1;walk_at "o"
  have hnn:(aK n0).length<Au:=by
   have h1:=congrArg AV hn;rw[Av];simp[aK]at h1 ⊢;walk_at "o"
  have hpn:(p0.map Value.bool).length<Au:=by
   have h1:=congrArg AV hps;rw[Av];simp at h1 ⊢;walk_at "o"
  walk_at "c";refine Sta.subQn S' (x:=tag) (tx:=tx) (.head _) ?_;intro t3;walk_at "c";refine⟨S'.sinkLed (L':=[]) (by walk_at "mid"),?_⟩;refine S'.sink (hA'.le (by first | decide | walk_at "o")) (wV K m hr) (by walk_at "mid") ?_;clear S';intro s' S';have er1:aK dl=aK d1++[.ref lv1.a]:=by rw[hd1];simp[aK]
  have er2:aK m.nl=aK n0++[.ref ln.a]:=by rw[hn];simp[aK]
  have er3:m.ps.map Value.bool=p0.map .bool++[.bool pb]:=by rw[hps];simp
  walk_at "zd"
  try simp only[aC]at S'
  walk_at "zd"
  try simp only[er1,er2,er3]at S'
  have hz3:(p0.map Value.bool).length<=Au:=Nat.le_of_lt hpn;walk_at "c";refine Sta.pop S' (by walk_at "upd") hpn ?_;clear S';intro s' S';walk_at "c";refine Sta.builtin S' I.b_len kY (by kernel_rfl) ?_;walk_at "c";refine Sta.len S' (by walk_at "mem") hz3 ?_;clear S';intro t4 s' S';walk_at "c";refine Sta.pop S' (by walk_at "upd") hdn ?_;clear S';intro s' S';walk_at "c";refine Sta.pop S' (by walk_at "upd") hnn ?_;clear S';intro s' S';walk_at "c";have er:((((p0.map Value.bool).length:Nat):Int)==1)=decide (m.ps.length=2):=by
   have h1:m.ps.length=p0.length+1:=by rw[hps];simp
   rw[Al]
   by_cases h:p0.length=1
   ·rw[h1,h];rfl
   ·rw[decide_eq_false (by walk_at "o")];exact beq_eq_false_iff_ne.mpr (by walk_at "o")
  walk_at "zd";have ed:(m.done dl pm).dl=d1:=by show dl.dropLast=d1;rw[hd1];exact BL
  have en:(m.done dl pm).nl=n0:=by show m.nl.dropLast=n0;rw[hn];exact BL
  have ep:(m.done dl pm).ps=p0:=by show m.ps.dropLast=p0;rw[hps];exact BL
  walk_at "ke";refine k dl pm s' hsv (Sta.back (S'.sel (Sel.rest ((tp,oU tag tx)::(lv1.a,aA (aG lv1.ps))::(ln.a,aA (aG ln.ps))::(aL lv1.ps++aL ln.ps)) ?_)) S.eok);rw[er,pW hd1,pW hn,K.pushes_append];simp only[aC,ed,en,ep]
  show List.Perm _ _;walk_at "perm"
 refine aR ?_;refine aF rfl ?_;refine wpAny_If ?_
 iterate 4 walk_at "cw"
 rw[e0];refine dG ?_;walk_at "ke";refine aF rfl ?_;refine oB (w:=w) (c:=c) (m:=m) (σ:=σ) (N:=(env.locals,aI loc)::N) I (hA'.le (by decide)) rfl (.head _) hz hc (gD K (by walk_at "o") hr) rfl (S'.perm (by walk_at "perm")) ?_;clear S';intro s' S';exact rest _ S'
end
section
variable {w:Wn}{c:Wc}{q:Addr}{m:Wm}
end
noncomputable def aD0(K:Frag)(d:Addr):Array DictEntry:=match(bD K d).data with
 | .dict es _=>es
 | _=>#[]
noncomputable def epAt(K:Frag)(d:Addr):Nat:=match(bD K d).data with
 | .dict _ ep=>ep
 | _=>0
noncomputable def jQ(P:Params)(i:Nat):DictEntry:=(aD0 (KK P) 37).toList.getD i default
noncomputable def mS:Value->Tok
 | .str _ t=>t
 | _=>0
noncomputable def aCF(P:Params):List (Str×Str×Tok):=[("http://www.w3.org/XML/1998/namespace","xml",mS (jQ P 0).val),("http://www.w3.org/1999/xhtml","html",mS (jQ P 1).val),("http://www.w3.org/1999/02/22-rdf-syntax-ns#","rdf",mS (jQ P 2).val),("http://schemas.xmlsoap.org/wsdl/","wsdl",mS (jQ P 3).val),("http://www.w3.org/2001/XMLSchema","xs",mS (jQ P 4).val),("http://www.w3.org/2001/XMLSchema-instance","xsi",mS (jQ P 5).val),("http://purl.org/dc/elements/1.1/","dc",mS (jQ P 6).val)]
noncomputable def nmapV:List NsP:=[("http://www.w3.org/XML/1998/namespace","xml"),("http://www.w3.org/1999/xhtml","html"),("http://www.w3.org/1999/02/22-rdf-syntax-ns#","rdf"),("http://schemas.xmlsoap.org/wsdl/","wsdl"),("http://www.w3.org/2001/XMLSchema","xs"),("http://www.w3.org/2001/XMLSchema-instance","xsi"),("http://purl.org/dc/elements/1.1/","dc")]
theorem sZ(P:Params):(aD0 (KK P) 37).toList=[jQ P 0,jQ P 1,jQ P 2,jQ P 3,jQ P 4,jQ P 5,jQ P 6]:=by kernel_rfl
theorem aDD(prog:Program)(w:World)(h:Heap)(X:(KK w.params).In h):h.DictAt (PySem.strKind prog w) 37 (atV (aCF w.params)) (epAt (KK w.params) 37):=by
 refine⟨bD (KK w.params) 37,aD0 (KK w.params) 37,X _ _ (by kernel_rfl),⟨by kernel_rfl,by kernel_rfl,by kernel_rfl⟩,by kernel_rfl,?_,?_,?_⟩
 ·intro e he;have he':=Array.mem_toList_iff.mpr he;rw[sZ]at he';simp only[At,BG,or_false]at he';rcases he' with rfl | rfl | rfl | rfl | rfl | rfl | rfl
  ·exact⟨"http://www.w3.org/XML/1998/namespace",by kernel_rfl,by kernel_rfl⟩
  ·exact⟨"http://www.w3.org/1999/xhtml",by kernel_rfl,by kernel_rfl⟩
  ·exact⟨"http://www.w3.org/1999/02/22-rdf-syntax-ns#",by kernel_rfl,by kernel_rfl⟩
  ·exact⟨"http://schemas.xmlsoap.org/wsdl/",by kernel_rfl,by kernel_rfl⟩
  ·exact⟨"http://www.w3.org/2001/XMLSchema",by kernel_rfl,by kernel_rfl⟩
  ·exact⟨"http://www.w3.org/2001/XMLSchema-instance",by kernel_rfl,by kernel_rfl⟩
  ·exact⟨"http://purl.org/dc/elements/1.1/",by kernel_rfl,by kernel_rfl⟩
 ·rw[sZ];exact .cons (by kernel_rfl) (by kernel_rfl) (.cons (by kernel_rfl) (by kernel_rfl) (.cons (by kernel_rfl) (by kernel_rfl) (.cons (by kernel_rfl) (by kernel_rfl) (.cons (by kernel_rfl) (by kernel_rfl) (.cons (by kernel_rfl) (by kernel_rfl) (.cons (by kernel_rfl) (by kernel_rfl) .nil))))))
 ·show(nmapV.map (·.1)).Nodup
  decide +kernel
theorem IsC.mapAt{W:Wd}(I:IsC W)(O:W.Ok):W.B.DictAt (PySem.strKind W.prog W.w) 37 (atV (aCF W.w.params)) (epAt (KK W.w.params) 37):=aDD _ _ _ (by have:=O.kin;rwa[I.k]at this)
theorem Sta.listItemsT{r d:Addr}{l:List (Str×Str×Tok)}{ep:Nat}{Q:Value->Ac->Prop}(S:Sta W G env loc nw s)(hh:A.handled=none)(hm:W.B.DictAt (PySem.strKind W.prog W.w) d (atV l) ep)(mv:(r,jB d)∈nw)(hn:l.length<=1000)(h:∀ b ps s',ps.map (·.2)=l.map (λ p=>(p.1,p.2.1))->Sta W G env loc ((b,aA (aG ps))::(nw++aL ps)) s'->Q (.ref b) s'):Ad W.M A (call (.type "list") [.ref r]) Q E s:=by
 obtain⟨o,ho,rfl⟩:=S.get mv;have hll:(atV l).length=l.length:=Al ..;refine kdx_call (knd:=PySem.strKind W.prog W.w) hh ⟨_,ho,rfl,rfl⟩ (gE hm S.led.keep) (by rw[hll,Av];walk_at "o") λ h' tk acc c as hk hS hl hG hacc=>?_;have hal:as.length=l.length:=hl.trans hll
 let ps:List (Addr×NsP):=as.zip (l.map λ p=>(p.1,p.2.1))
 have hps1:ps.map (·.1)=as:=List.map_fst_zip (by rw[Al];walk_at "o");have hps2:ps.map (·.2)=l.map λ p=>(p.1,p.2.1):=List.map_snd_zip (by rw[Al];walk_at "o");have href:as.map Value.ref=aG ps:=by rw[←hps1];simp[aG]
 refine h _ ps _ hps2 (Sta.perm (nw:=(s.heap.objs.size,aA (aG ps))::(aL ps++nw)) ?_ (AU.cons _));have e:((s.heap.objs.size,aA (aG ps))::(aL ps++nw):Lg)=((s.heap.objs.size,aA (aG ps))::aL ps)++nw:=rfl;rw[e];refine S.many hk _ ?_ ?_ ?_ tk
 ·have e:(aL ps).map Prod.fst=as:=by rw[←hps1];simp[aL]
  rw[Ak,e];refine AH.mpr ⟨λ hm=>?_,hG.rise.imp λ hlt=>Bx hlt⟩;exact absurd (hG.above _ hm) (BE _)
 ·intro p hp;rcases At.mp hp with rfl | hp
  ·exact AG _
  obtain⟨q,hq,rfl⟩:=Ah.mp hp;have:q.1∈as:=by rw[←hps1];exact Ah.mpr ⟨q,hq,rfl⟩
  exact Nat.le_of_lt (hG.above _ this)
 ·intro p hp;rcases At.mp hp with rfl | hp
  ·refine⟨_,hS,c,?_⟩;rw[←href,←hacc]
  obtain⟨q,hq,rfl⟩:=Ah.mp hp;obtain⟨j,q0⟩:=BN hq;obtain⟨hj,rfl⟩:=q0;have hja:j<as.length:=by have:=congrArg AV hps1;rw[Al]at this;walk_at "o"
  have hjl:j<l.length:=by walk_at "o"
  have ez:ps[j]=(as[j],(l[j].1,l[j].2.1)):=by simp[ps]
  obtain⟨key,k,x',e1,e2,e3⟩:=hG.pairs j as[j] (List.getElem?_eq_getElem hja);have e1':(l[j].1,Value.str l[j].2.1 l[j].2.2)=(k,x'):=by
   have:(atV l)[j]?=some (l[j].1,.str l[j].2.1 l[j].2.2):=by simp[atV,hjl]
   rw[this]at e1;exact Option.some.inj e1
  cases e1';obtain⟨t,rfl⟩:∃ t,key=.str l[j].1 t:=by
   cases key with
   | str y t=>exact⟨t,by rw[aAC e2]⟩
   | _=>first | cases e2 | exact absurd e2 (by simp[PySem.strKind,Value.isStrOf])
  rw[ez];exact⟨_,e3,t,_,0,rfl⟩
noncomputable def IXc(X:String)(a0 tb cx:Value):Cell:=λ o=>o.cls=.type X/\∃ vs,o.data=.fields vs/\vs[0]?=some a0/\vs[1]?=some tb/\vs[2]?=some cx
noncomputable def IsTb(fl:Value):Cell:=λ o=>∃ ts,o.data=.fields ts/\ts[3]?=some fl
noncomputable def FrIn(nw:Lg)(l:List Env):Prop:=∀ e∈l,e.scope.kind≠.module/\∃ L lc,e.frame=some L/\(L,aI lc)∈nw
theorem FrIn.mono{nw nw':Lg}{l:List Env}(h:FrIn nw l)(k:∀ p∈nw,p∈nw'):FrIn nw' l:=λ e he=>let⟨x,L,lc,y,m⟩:=h e he;⟨x,L,lc,y,k _ m⟩
theorem sM:∀{nw:Lg} {p q:Addr×Cell},(nw.map Prod.fst).Nodup->p∈nw->q∈nw->p.1=q.1->p=q
 | r::nw,p,q,nd,hp,hq,e=>by
  rw[Ak,AH]at nd;rcases At.mp hp with h1 | h1<;>rcases At.mp hq with h2 | h2
  ·rw[h1,h2]
  ·exact absurd (Ah.mpr ⟨q,h2,by rw[←e,h1]⟩) nd.1
  ·exact absurd (Ah.mpr ⟨p,h1,by rw[e,h2]⟩) nd.1
  ·exact sM nd.2 h1 h2 e
theorem Led.slots{B h h':Heap}{nw:Lg}{fs:List Addr}(D:Led B nw h)(hf:∀ b∈fs,∃ lc,(b,aI lc)∈nw)(hs:Heap.SlotsOnly fs h h'):Led B nw h':=
 ⟨λ b o e=>by
  rw[hs.2.1 b λ hb=>by
   obtain⟨lc,m⟩:=hf b hb;have:=(D.own _ m).1;rw[e]at this;cases this]
  exact D.keep b o e,λ p hp=>by
  obtain⟨x,q0⟩:=D.own p hp;obtain⟨o,ho,hc⟩:=q0
  by_cases hb:p.1∈fs
  ·obtain⟨lc,m⟩:=hf _ hb;have:=sM D.nodup hp m rfl;obtain⟨sl,e⟩:=hs.2.2 _ _ ho;refine⟨x,_,e,?_⟩;rw[this]at hc ⊢;exact hc
  ·exact⟨x,o,(hs.2.1 _ hb).trans ho,hc⟩,D.nodup⟩
section
variable {M:Model}
theorem qB{B h:Heap}{nw:Lg}(D:Led B nw h):∀{l:List Env},FrIn nw l->h.FunFrames B l
 | [],_=>trivial
 | e::l,H=>by
  obtain⟨x,q0⟩:=H e (.head _);obtain⟨L,lc,y,m⟩:=q0;obtain⟨hB,q0⟩:=D.own _ m;obtain⟨o,ho,_,q0⟩:=q0;obtain⟨es,ep,hd,_⟩:=q0;exact⟨x,⟨L,o,y,hB,ho,λ vs q=>by rw[hd]at q;cases q⟩,qB D λ e' he=>H e' (.tail _ he)⟩
theorem FrIn.at{l:List Env}(H:FrIn nw l):∀ b∈l.filterMap (·.frame),∃ lc,(b,aI lc)∈nw:=λ b hb=>by
 obtain⟨e,he,q⟩:=List.mem_filterMap.mp hb;obtain⟨_,q0⟩:=H e he;obtain⟨L,lc,y,m⟩:=q0;rw[y]at q;cases q;exact⟨lc,m⟩
theorem Sta.slots{fs:List Addr}{h':Heap}(S:Sta W G env loc nw s)(hf:∀ b∈fs,∃ lc,(b,aI lc)∈(env.locals,aI loc)::nw)(hs:Heap.SlotsOnly fs s.heap h'):Sta W G env loc nw { s with heap:=h' }:=
 ⟨S.ok,S.eok,S.led.slots hf hs,S.bare,S.os,S.gens,S.gnd⟩
structure Fra (A:AJ) (env:Env) (nw:Lg):Prop where
 ex:∃ outer,A.frames=some (env::outer)/\FrIn nw outer
 fr:env.frame=some env.locals
 kind:env.scope.kind≠.module
 guards:A.guards=some []
theorem Fra.mono(F:Fra A env nw)(k:∀ p∈nw,p∈nw'):Fra A env nw':=⟨let⟨o,x,H⟩:=F.ex;⟨o,x,H.mono k⟩,F.fr,F.kind,F.guards⟩
theorem Fra.mark(F:Fra A env nw)(h:Option Value):Fra (A.mark h) env nw:=⟨F.ex,F.fr,F.kind,F.guards⟩
theorem Fra.deeper{env':Env}(F:Fra A env nw)(fr:env'.frame=some env'.locals)(kind:env'.scope.kind≠.module):Fra (A.deeper env') env' ((env.locals,aI loc)::nw):=
 ⟨let⟨o,x,H⟩:=F.ex;⟨env::o,Around.frames_deeper x,λ e he=>(At.mp he).elim (λ q=>by subst q;exact⟨F.kind,_,loc,F.fr,.head _⟩) λ he=>let⟨a,L,lc,b,m⟩:=H e he;⟨a,L,lc,b,.tail _ m⟩⟩,fr,kind,F.guards⟩
theorem aBs{e:Addr}{i:Nat}{x:Value}{c c':Cell}{Q:Unit->Ac->Prop}(S:Sta W G env loc ((e,c)::nw) s)(hc:∀ o,c o->∃ vs,o.data=.fields vs/\i<vs.size)(hc':∀ o vs,c o->o.data=.fields vs->c' (Obj.mapFields (·.setIfInBounds i x) o))(k:∀ s',Sta W G env loc ((e,c')::nw) s'->Q () s'):Ad M A (setField (.ref e) i x) Q E s:=by
 obtain⟨o,ho,h⟩:=S.get (.head _);obtain⟨vs,hd,hi⟩:=hc o h;exact wpAny_setField ho hd hi (k _ (S.set .head (λ b o' hb e'=>(Heap.get?_update_other _ _ (Ne.symm hb)).trans e') (Heap.get?_update_self _ ho (Obj.isFreed_of_fields (Obj.data_mapFields hd _))) (hc' o vs h hd) s.toks))
theorem IXc.setTb{X:String}{a0 tb cx v:Value}{o:Obj}{vs:Array Value}(h:IXc X a0 tb cx o)(hd:o.data=.fields vs):IXc X a0 v cx (Obj.mapFields (·.setIfInBounds 1 v) o):=by
 obtain⟨hc,q0⟩:=h;obtain⟨vs',hd',h0,h1,h2⟩:=q0;rw[hd]at hd';cases hd';have hz:=(Array.getElem?_eq_some_iff.mp h1).1;refine⟨(Obj.cls_mapFields _ _).trans hc,_,Obj.data_mapFields hd _,?_,?_,?_⟩
 ·rw[Array.getElem?_setIfInBounds_ne (by decide)];exact h0
 ·rw[Array.getElem?_setIfInBounds_self_of_lt hz]
 ·rw[Array.getElem?_setIfInBounds_ne (by decide)];exact h2
theorem IsTb.set{fl v:Value}{o:Obj}{vs:Array Value}(h:IsTb fl o)(hd:o.data=.fields vs):IsTb v (Obj.mapFields (·.setIfInBounds 3 v) o):=by
 obtain⟨vs',hd',h3⟩:=h;rw[hd]at hd';cases hd';exact⟨_,Obj.data_mapFields hd _,by rw[Array.getElem?_setIfInBounds_self_of_lt (Array.getElem?_eq_some_iff.mp h3).1]⟩
theorem IXc.fields{X:String}{a0 tb cx:Value}{o:Obj}(h:IXc X a0 tb cx o):∃ vs,o.data=.fields vs/\1<vs.size:=by
 obtain⟨hc,q0⟩:=h;obtain⟨vs',hd',h0,h1,h2⟩:=q0;exact⟨_,hd',(Array.getElem?_eq_some_iff.mp h1).1⟩
theorem IsTb.fields{fl:Value}{o:Obj}(h:IsTb fl o):∃ vs,o.data=.fields vs/\3<vs.size:=by
 obtain⟨vs',hd',h3⟩:=h;exact⟨_,hd',(Array.getElem?_eq_some_iff.mp h3).1⟩
theorem aAU{X:String}{e:Addr}{a0 tb cx head:Value}{b:Bool}{Q:Unit->Ac->Prop}(S:Sta W G env loc ((e,IXc X a0 tb cx)::nw) s)(F:Fra A env nw)(k:∀ T s',Sta W G env loc ((e,IXc X a0 (.ref T) cx)::(T,IsTb (rawInt env.locals))::nw) s'->Q () s'):Ad M A (do let a ← frameOf env;let pl ← entryPlaceOf env.locals b;let c ← EntryCells.newEntry head a .none (rawInt env.locals) .none pl;setField (.ref e) 1 c) Q E s:=by
 obtain⟨outer,hfr,H⟩:=F.ex;have H':FrIn ((env.locals,aI loc)::(e,IXc X a0 tb cx)::nw) (env::outer):=λ x hx=>(At.mp hx).elim (λ q=>by subst q;exact⟨F.kind,_,loc,F.fr,.head _⟩) λ hx=>let⟨a,L,lc,b,m⟩:=H x hx;⟨a,L,lc,b,.tail _ (.tail _ m)⟩;refine Aa (wpAny_frameOf_fun hfr (qB S.led H') F.fr λ h₁ hs₁=>?_);have S1:=S.slots H'.at hs₁;refine Aa (wpAny_entryPlaceOf λ pl hpl=>?_);unfold EntryCells.newEntry newFields;refine Aa (wpAny_newObj_type ?_ (hpl.sizeOk5 _ _ _ _ _));have S2:=S1.new (o:={ cls:=.type "traceback",dict:=none,data:=.fields ([head,.ref env.locals,.none,rawInt env.locals,.none]++(if pl.isEmpty then List.replicate 6 Value.none else pl)).toArray }) (c:=IsTb (rawInt env.locals)) rfl ⟨_,rfl,rfl⟩ s.toks;exact aBs (S2.perm (List.Perm.swap ..)) (λ _ h=>h.fields) (λ _ _ h hd=>h.setTb hd) λ s' S'=>k _ s' S'
noncomputable def Ex(W:Wd)(G:Gens)(env:Env)(loc:Loc)(nw:Lg)(X:String)(a0 cx:Value)(e:Addr)(s:Ac):Prop:=
 ∃ T fl,Sta W G env loc ((e,IXc X a0 (.ref T) cx)::(T,IsTb fl)::nw) s
theorem Ex.perm{X:String}{a0 cx:Value}{e:Addr}(h:Ex W G env loc nw X a0 cx e s)(p:nw.Perm nw'):Ex W G env loc nw' X a0 cx e s:=let⟨T,fl,S⟩:=h;⟨T,fl,S.perm ((p.cons _).cons _)⟩
theorem Ex.back{env':Env}{X:String}{a0 cx:Value}{e:Addr}(h:Ex W G env' loc' ((env.locals,aI loc)::nw) X a0 cx e s)(S₀:EvO env (loc.map Prod.fst)):Ex W G env loc nw X a0 cx e s:=
 let⟨T,fl,S⟩:=h;⟨T,fl,Sta.back (S.perm (((List.Perm.swap ..).cons _).trans (List.Perm.swap ..))) S₀⟩
theorem Ex.is{X:String}{a0 cx:Value}{e:Addr}(h:Ex W G env loc nw X a0 cx e s):s.TypeIs (.ref e) X:=by
 obtain⟨T,fl,S⟩:=h;obtain⟨o,ho,hc,_⟩:=S.get (.head _);exact⟨o,ho,hc⟩
theorem sX{X:String}{e:Addr}{a0 cx:Value}{Q:Unit->Ac->Prop}(S:Sta W G env loc ((e,IXc X a0 .none cx)::nw) s)(F:Fra A env nw)(k:∀ s',Ex W G env loc nw X a0 cx e s'->Q () s'):Ad M A (noteFrame (.ref e) env) Q E s:=by
 obtain⟨o,ho,_,q0⟩:=S.get (.head _);obtain⟨vs,hd,_,h1,_⟩:=q0;unfold noteFrame;rw[F.fr];refine Aa (wpAny_field ho hd h1 ?_);rw[if_neg (by decide)];exact aAU S F λ T s' S'=>k s' ⟨T,_,S'⟩
theorem xC{X:String}{e:Addr}{a0 cx:Value}{Q:Unit->Ac->Prop}(h:Ex W G env loc nw X a0 cx e s)(F:Fra A env nw)(k:∀ s',Ex W G env loc nw X a0 cx e s'->Q () s'):Ad M A (noteFrame (.ref e) env) Q E s:=by
 obtain⟨T,fl,S⟩:=h;obtain⟨o,ho,_,q0⟩:=S.get (.head _);obtain⟨vs,hd,_,h1,_⟩:=q0;obtain⟨oT,hoT,q0⟩:=S.get (.tail _ (.head _));obtain⟨ts,hdT,h3⟩:=q0;unfold noteFrame;rw[F.fr];refine Aa (wpAny_field ho hd h1 ?_);rw[if_pos (show(Value.ref T != Value.none)=true from by simp)];refine Aa (wpAny_field hoT hdT h3 ?_)
 by_cases hb:(fl==rawInt env.locals)=true
 ·rw[if_pos hb];exact Af (k s ⟨T,fl,S⟩)
 ·rw[if_neg hb];refine Aa (aBs (S.perm (List.Perm.swap ..)) (λ _ h=>h.fields) (λ _ _ h hd=>h.set hd) λ s' S'=>?_);exact aAU (Sta.sub S' (AQ ..)) F λ T s' S'=>k s' ⟨T,_,S'⟩
theorem eN{X:String}{e:Addr}{a0 cx:Value}{f:Option Addr}{Q:Unit->Ac->Prop}(h:Ex W G env loc nw X a0 cx e s)(k:∀ s',Ex W G env loc nw X a0 cx e s'->Q () s'):Ad M A (setFlight (.ref e) f) Q E s:=by
 obtain⟨T,fl,S⟩:=h;obtain⟨o,ho,_,q0⟩:=S.get (.head _);obtain⟨vs,hd,_,h1,_⟩:=q0;unfold setFlight;refine Aa (wpAny_field ho hd h1 ?_);rw[if_pos (show(Value.ref T != Value.none)=true from by simp)];exact aBs (S.perm (List.Perm.swap ..)) (λ _ h=>h.fields) (λ _ _ h hd=>h.set hd) λ s' S'=>k s' ⟨T,_,S'.perm (List.Perm.swap ..)⟩
theorem vP{X:String}{e:Addr}{a0 cx:Value}{Q:Unit->Ac->Prop}(h:Ex W G env loc nw X a0 cx e s)(F:Fra A env nw)(k:∀ s',Ex W G env loc nw X a0 cx e s'->Q () s'):Ad M A (leaving env (.ref e)) Q E s:=
 Aa (xC h F λ _ h=>eN h k)
theorem yT{X:String}{e:Addr}{a0 cx:Value}{Q:Unit->Ac->Prop}(S:Sta W G env loc ((e,IXc X a0 .none cx)::nw) s)(F:Fra A env nw)(k:∀ s',Ex W G env loc nw X a0 cx e s'->Q () s'):Ad M A (leaving env (.ref e)) Q E s:=
 Aa (sX S F λ _ h=>eN h k)
theorem zC{X:String}{e:Addr}{a0 cx:Value}(h:Ex W G env loc nw X a0 cx e s)(k:∀ s',Ex W G env loc nw X a0 cx e s'->E (.ref e) s'):cameBackBy M A env E (.ref e) s:=by
 have h':=h;obtain⟨T,fl,S⟩:=h';obtain⟨o,ho,_,q0⟩:=S.get (.head _);obtain⟨vs,hd,_,h1,_⟩:=q0;unfold cameBackBy;refine Aa (wpAny_field ho hd h1 ?_);rw[if_neg (show ¬(Value.ref T==Value.none)=true from by simp)];exact eN h k
theorem aDz{X:String}{e:Addr}{a0 cx:Value}(h:Ex W G env loc nw X a0 cx e s)(F:Fra A env nw)(k:∀ s',Ex W G env loc nw X a0 cx e s'->E (.ref e) s'):notedBy M A env E (.ref e) s:=xC h F k
end
section
variable {M:Model}
theorem Sta.newAt{h':Heap}{e:Addr}{o:Obj}{c:Cell}(S:Sta W G env loc nw s)(k:∀ b o,s.heap.get? b=some o->h'.get? b=some o)(n:s.heap.get? e=none)(ho:h'.get? e=some o)(hc:c o)(t:Nat):Sta W G env loc ((e,c)::nw) { s with heap:=h',toks:=t }:=by
 refine⟨S.ok,S.eok,(S.led.cons_new k (λ m=>?_) ?_ ho hc).perm (List.Perm.swap ..),S.bare,S.os,S.gens,S.gnd⟩
 ·obtain⟨p,hp,q⟩:=Ah.mp m;obtain⟨_,q0⟩:=S.led.own p hp;obtain⟨o',ho',_⟩:=q0;rw[q,n]at ho';cases ho'
 ·cases q:W.B.get? e with
  | none=>rfl
  | some o'=>
   have:=S.led.keep _ _ q;rw[n]at this;cases this
noncomputable abbrev gX(W:Wd)(G:Gens)(env:Env)(loc:Loc)(nw:Lg)(X:String)(E:Value->Ac->Prop):Prop:=∀ t e s',Sta W G env loc ((e,IXc X t .none .none)::nw) s'->E (.ref e) s'
theorem Sta.thrown{X:String}{h':Heap}{e:Addr}{tk:Nat}(S:Sta W G env loc nw s)(x:Heap.NewExc s.heap h' e X)(k:gX W G env loc nw X E):E (.ref e) { s with heap:=h',toks:=tk }:=by
 obtain⟨ob,t,he,hc,hd⟩:=x.there;exact k t e _ (S.newAt x.keeps x.new he ⟨hc,_,hd,rfl,rfl,rfl⟩ tk)
theorem mH{α:Type}{cls msg:String}{Q:α->Ac->Prop}(hp:PlainExc cls)(hh:A.handled=none)(hm:(msg:Str).length<=Au)(S:Sta W G env loc nw s)(k:gX W G env loc nw cls E):Ad M A (raiseErrorMade cls msg:Sem α) Q E s:=
 wpAny_raiseErrorMade hp hh (λ _ _ _ x=>S.thrown x k) hm
theorem xI{c x:Value}{T:String}{Q:Value->Ac->Prop}(hh:A.handled=none)(S:Sta W G env loc nw s)(hT:∀ s':Ac,s'.TypeIs c T)(h1:typeLookup (.type T) "__contains__"=pure none)(h2:typeLookup (.type T) "__iter__"=pure none)(h3:typeLookup (.type T) "__getitem__"=pure none)(h4:(Value.type T==Value.type "builtin_function_or_method")=false)(h5:(shownName T).length<=1000)(k:gX W G env loc nw "TypeError" E):Ad W.M A (compareOp .In x c) Q E s:=by
 have hm:∀ a b:String,a.length<=1000->b.length<=1000->((a++shownName T++b:String):Str).length<=Au:=by
  intro a b ha hb;show(Str.ofString _).length<=_;rw[PySem.ofString_length,Av];simp only[String.length_append]
  walk_at "o"
 unfold compareOp;refine Aa ?_;unfold contains;refine AC ?_;rw[stdlibNamesSay?_of_typeIs (hT s) x];dsimp only
 refine Aa (wpAny_specialOf (hT s) h1 ?_);rw[if_neg (by decide)];refine Aa (wpAny_callSpecialUnlessNone?_none (hT s) h1 ?_);dsimp only
 refine Aa (wpAny_rule ?_);refine Aa (wpAny_tryCatch ?_);unfold pyIter;refine Aa (wpAny_specialOf (hT s) h2 ?_);dsimp only
 refine Aa (wpAny_specialOf (hT s) h3 ?_);dsimp only
 refine Aa (wpAny_rule (Aa (wpAny_typeNameOf' (hT s) h4 ?_)));refine mH plainExc_TypeError hh (hm _ _ (by decide) (by decide)) S λ t e s' S'=>?_;obtain⟨o,ho,hc,_⟩:=S'.get (.head _);refine Aa (wpAny_isInstance (T:="TypeError") (b:=true) ⟨o,ho,hc⟩ (by rw[isSubtype_type];kernel_rfl) ?_);rw[if_pos rfl];refine Aa (wpAny_typeNameOf' (hT s') h4 ?_);exact mH plainExc_TypeError hh (hm _ _ (by decide) (by decide)) S' λ t2 e2 s2 S2=>k t2 e2 s2 (S2.sub (List.Sublist.cons_cons _ (AQ ..)))
end
section
variable {M:Model}
theorem Sta.thrownA{h':Heap}{e:Addr}{tk:Nat}{o:Value}{name:Str}(S:Sta W G env loc nw s)(x:Heap.NewAttrErr s.heap h' e o name)(k:gX W G env loc nw "AttributeError" E):E (.ref e) { s with heap:=h',toks:=tk }:=by
 obtain⟨t,u,he⟩:=x.there;exact k t e _ (S.newAt x.keeps x.new he ⟨rfl,_,rfl,rfl,rfl,rfl⟩ tk)
theorem vU{a:Addr}{xs:List Value}{name:Str}{Q:Value×List Value->Ac->Prop}(hA:A.handled=none)(S:Sta W G env loc nw s)(m:(a,aA xs)∈nw)(hmiss:typeLookup (.type "list") name=pure none)(hname:(["__module__","__name__","__qualname__","__doc__","__annotations__"]:List Str).contains name=false)(hsz:name.length+100<=Au)(k:gX W G env loc nw "AttributeError" E):GetM W.M A E name (.ref a) Q s:=by
 intro pl;obtain⟨o,hx,q0⟩:=S.get m;obtain⟨n,rfl⟩:=q0;obtain⟨g,hg,hcan⟩:=F.plainAttrs_list.ga;have hl:s.TypeIs (.ref a) "list":=⟨_,hx,rfl⟩
 unfold getMethod;refine Aa (wpAny_specialOf hl hg ?_);show Ad _ _ (if(Manifest.canonical g != "object.__getattribute__")=true then _ else _) Q E s;rw[hcan,if_neg Bool.false_ne_true];refine Aa (wpAny_specialOf hl F.plainAttrs_list.noGetattr ?_);refine Aa (wpAny_specialOf hl hmiss ?_);have k':∀ h' tk e,Heap.NewAttrErr s.heap h' e (.ref a) name->E (.ref e) { s with heap:=h',toks:=tk }:=λ h' tk e x=>S.thrownA x k;clear k;obtain⟨hp,g,d,tk,os⟩:=s;have hT:∀ tk',(⟨hp,g,d,tk',os⟩:Ac).TypeIs (.ref a) "list":=λ _=>⟨_,hx,rfl⟩
 have f1:=sub_AttributeError;have f3:=F.slot_list_getattribute.lookup;have f4:=F.slot_list_getattribute.bind (.ref a);have f5:=am_list_getattr_none;show Ad _ _ (do return(← getAttr (.ref a) name,[])) _ _ _;refine Aa ?_;unfold getAttr getAttrBy
 repeat (any_goals (first | assumption | exact hT _ | ((with_reducible show Ad _ _ (call (Value.builtin "list.__getattribute__") _ _) _ _ _);refine call_meets F.slot_list_getattribute (hT _) am_entry_list_getattribute (F.args_list_getattribute_2 _ _) (meets_getattribute_miss_list a xs.toArray n _ name _ hmiss hname hsz) ⟨hx,hA,λ h' tk' e hx'=>?_⟩) | wp_step))
 obtain⟨t',u',he⟩:=hx'.there;show Ad _ _ (getattributeRaised _ _ _ _ _ _ _) _ _ _;unfold getattributeRaised
 repeat (any_goals (first | assumption | wp_step))
 exact k' _ _ _ hx'
theorem pB{α:Type}{X Y:String}{e h:Addr}{a0 tb b0:Value}{Q:α->Ac->Prop}(hh:A.handled=some (.ref h))(S:Sta W G env loc ((e,IXc X a0 tb .none)::nw) s)(m:∃ tb',(h,IXc Y b0 tb' .none)∈nw)(k:∀ s',Sta W G env loc ((e,IXc X a0 tb (.ref h))::nw) s'->E (.ref e) s'):Ad W.M A (raiseNew (.ref e):Sem α) Q E s:=by
 obtain⟨tb',m⟩:=m;have hne:h≠e:=λ q=>by
  subst q;have:=S.led.tail.nodup;rw[Ak,AH]at this;exact this.1 (Ah.mpr ⟨_,m,rfl⟩)
 obtain⟨o,ho,_,q0⟩:=S.get (.tail _ m);obtain⟨vs,hd,h0,h1,h2⟩:=q0;unfold raiseNew;refine Aa (wpAny_handled ?_);rw[hh];dsimp only
 rw[if_pos (show((Value.ref h) != Value.ref e)=true from by simp[hne])];have en:entryFor table "proto.unchain"=some Builtin.«proto.unchain»:=entryFor_of_tree (by kernel_rfl);refine Aa (AC (wpAny_runValue (codeAny_builtin en ?_)));unfold Builtin.«proto.unchain»;dsimp only
 refine Aa (wpAny_field ho hd h2 ?_);rw[if_pos (show(Value.none==Value.none)=true from rfl)];refine Af ?_;refine Aa (m:=setField (.ref e) 2 (.ref h)) (aBs S (λ _ h=>?_) (λ o vs h hd=>?_) λ s' S'=>wpAny_throw (k s' S'))
 ·exact Aq h.2 λ vs x=>⟨vs,x.1,(Array.getElem?_eq_some_iff.mp x.2.2.2).1⟩
 ·obtain⟨hc,vs',hd',k0,k1,k2⟩:=h;rw[hd]at hd';cases hd';exact⟨(Obj.cls_mapFields _ _).trans hc,_,Obj.data_mapFields hd _,by rw[Array.getElem?_setIfInBounds_ne (by decide)];exact k0,by rw[Array.getElem?_setIfInBounds_ne (by decide)];exact k1,by rw[Array.getElem?_setIfInBounds_self_of_lt (Array.getElem?_eq_some_iff.mp k2).1]⟩
end
section
variable {M:Model}
theorem Sta.call_fnE{Q:Value->Ac->Prop}{f:Addr}{qual:Str}{st:Stmt}{dV kV cdv:Value}{pos:List Value}{kw:List (Str×Value)}{binds:List (Str×Value)}(rest:List Str)(S:Sta W G env loc nw s)(hf:Fn W.K f st qual dV kV cdv)(hroom:A.depth<Be)(hbind:lS s st qual dV kV cdv ⟨pos,kw⟩ binds)(hk:dL (aD st) (binds.map Prod.fst++rest)=true)(h:∀ L s',Sta W G (envOf qual (aD st) L f cdv) (aT binds rest) ((env.locals,aI loc)::nw) s'->
   Ad W.M (A.deeper (envOf qual (aD st) L f cdv)) (execs (aH st) (envOf qual (aD st) L f cdv)) (λ fl s''=>Q (match fl with | .ret v=>v | _=>.none) s'')
    (λ x s''=>Ad W.M (A.deeper (envOf qual (aD st) L f cdv)) (leaving (envOf qual (aD st) L f cdv) x) (λ _ s3=>E x s3) E s'') s'):Ad W.M A (call (.ref f) pos kw) Q E s:=by
 refine vF hf.at_ ?_;intro name doc pm ct oc an od osl ho;refine eY hk ?_;clear hk;intro hkind hco hgen hcell hks hnd;have hks2:((aT binds rest).map Prod.fst)=binds.map Prod.fst++rest:=by
  simp[aT,AZ,Function.comp_def]
 refine wpAny_call (codeAny_call_def (fd:=fnOf name qual (dP st) (aH st) (aD st) dV kV doc pm an cdv ct) (body:=aH st) (binds:=binds) hroom (S.kin _ _ ho) rfl S.nolimit (codeRec_of S.kin hf.code) rfl (hbind _ _ _ _ _) hcell
  (λ x hx=>(hks x.1 (Am _ (Ah.mpr ⟨x,hx,rfl⟩))).1) (λ h₁ hns hkp=>?_) hco hgen hkind)
 have D:Led W.B ((s.heap.objs.size,aI (aT binds rest))::(env.locals,aI loc)::nw) h₁:=by
  obtain⟨o,es,ep,ho',hd,hsk,hf⟩:=hns;refine S.led.cons_new hkp S.led.size_ne S.led.size_new ho' ⟨by rw[hks2];exact hnd,es,ep,hd,hsk,λ x=>?_⟩;rw[hf x,eV _ _ (hnd.sublist (AO _ _))]
 have S':Sta W G (envOf qual (aD st) s.heap.objs.size f cdv) (aT binds rest) ((env.locals,aI loc)::nw) { s with heap:=h₁,toks:=s.toks+binds.length }:=
  ⟨S.ok,by rw[hks2];exact⟨hkind,rfl,rfl,λ x hx=>(hks x hx).1,λ x hx=>(hks x hx).2,hnd⟩,D,S.bare,S.os,S.gens,S.gnd⟩
 exact h _ _ S'
theorem Sta.new2{h':Heap}{e t:Addr}{o ot:Obj}{c ct:Cell}(S:Sta W G env loc nw s)(k:∀ b o,s.heap.get? b=some o->h'.get? b=some o)(n:s.heap.get? e=none)(nt:s.heap.get? t=none)(hne:e≠t)(ho:h'.get? e=some o)(hot:h'.get? t=some ot)(hc:c o)(hct:ct ot):Sta W G env loc ((e,c)::(t,ct)::nw) { s with heap:=h' }:=by
 have S1:=S.newAt k nt hot hct s.toks;refine⟨S1.ok,S1.eok,(S1.led.cons_new (λ _ _ e=>e) (λ m=>?_) ?_ ho hc).perm (List.Perm.swap ..),S.bare,S.os,S.gens,S.gnd⟩
 ·obtain⟨p,hp,q⟩:=Ah.mp m;have old:∀ p∈(env.locals,aI loc)::nw,p.1≠e:=λ p hp q=>by
   obtain⟨_,q0⟩:=S.led.own p hp;obtain⟨o',ho',_⟩:=q0;rw[q,n]at ho';cases ho'
  rcases At.mp hp with rfl | hp
  ·exact old _ (.head _) q
  ·rcases At.mp hp with rfl | hp
   ·exact hne q.symm
   ·exact old _ (.tail _ hp) q
 ·cases q:W.B.get? e with
  | none=>rfl
  | some o'=>
   have:=S.led.keep _ _ q;rw[n]at this;cases this
noncomputable def aA9(cls:String)(t:Addr):Cell:=bZ { cls:=.type cls,data:=.fields #[.ref t,.none,.none,.none,.bool false,.none] }
theorem Sta.made{cls newId initId:String}{vs:List Value}{Q:Value->Ac->Prop}(S:Sta W G env loc nw s)(F:ExcCallFacts cls newId initId)(hz:vs.length<=Au)(k:∀ e t s',Sta W G env loc ((e,aA9 cls t)::(t,aJ vs)::nw) s'->Q (.ref e) s'):Ad W.M A (call (.type cls) vs) Q E s:=by
 obtain⟨hp,g,d,tk,os⟩:=s;refine wpAny_call_exc F (hrest:=hz) λ h' e hm=>?_;obtain⟨t,ht,hn,htt⟩:=hm.there;exact k e t _ (S.new2 (s:=⟨hp,g,d,tk,os⟩) hm.keeps hm.new hn (λ q=>by subst q;rw[ht]at htt;cases htt) ht htt rfl ⟨0,rfl⟩)
noncomputable def aCn(W:Wd)(G:Gens)(env:Env)(loc:Loc)(E:Value->Ac->Prop)(cls Y:String)(hd:Addr)(b0:Value)(v:Value)(s:Ac):Prop:=
 ∃ e t nw,v=.ref e/\Sta W G env loc ((e,aA9 cls t)::nw) s/\(∃ tb,(hd,IXc Y b0 tb .none)∈nw)/\∀ s',Sta W G env loc ((e,IXc cls (.ref t) .none (.ref hd))::nw) s'->E (.ref e) s'
theorem uX{cls:String}{Y:String}{hd:Addr}{b0:Value}(H:ExcRaiseFacts cls){x:Expr}{pos:Pos}{Q:Flow->Ac->Prop}(hh:A.handled=some (.ref hd))(h:Ad W.M A (eval x env) (aCn W G env loc E cls Y hd b0) E s):Ad W.M A (exec (.Raise (some x) none pos) env) Q E s:=by
 rw[arm_exec_Raise];show Ad _ A (do standAt pos;raiseStmt env (some (do let v ← eval x env;standAt pos;pure v)) none) Q E s;refine Aa (AP ?_);unfold raiseStmt;refine Aa (Aa (As h (λ v s₁ h₁=>Aa (AP (Af ?_))) λ _ _ x=>x));obtain⟨e,t,nw,rfl,S,m,k⟩:=h₁;obtain⟨o,he,rfl⟩:=S.get (.head _);have k2:Ad W.M A (raiseNew (.ref e):Sem Flow) Q E s₁:=pB hh (S.tell .head λ o _ ho=>by cases ho;exact⟨rfl,_,rfl,rfl,rfl,rfl⟩) m k;clear S k;obtain⟨hp,g,d,tk,os⟩:=s₁;have hsub:=H.isExc;have hmeta:=H.plainMeta
 repeat (first | exact k2 | refine wpAny_loadPart he ?_ | wp_step)
end
noncomputable def oQ(W:Wd)(A:AJ)(v:Value)(r:Str)(h₀:Heap):Prop:=∀(s:Ac) (Q:Value->Ac->Prop) (E:Value->Ac->Prop),(∀ b o,h₀.get? b=some o->s.heap.get? b=some o)->
 (∀ h' u tk,(∀ b o,s.heap.get? b=some o->h'.get? b=some o)->Q (.str r u) { s with heap:=h',toks:=tk })->Ad W.M A (pyReprObj v) Q E s
section
open Builtin Builtin.ObjectAttr Builtin.Getset_descriptor
variable {M:Model}
theorem iP{v:Value}{T id:String}{B:Builtin}{r:PySem.Str}{h:Heap}(hT:∀ s:Ac,s.TypeIs v T)(slot:Slot T "__repr__" id)(entry:entryFor table id=some B)(args:argsOk id ⟨[v],[]⟩)(g:Gives (B ⟨[v],[]⟩) (.str r))(hv:[v].any Value.onHeap=false)(hx:r.length<=Au):oQ W A v r h:=λ s Q E _ k=>
 wpAny_pyReprObj_gives (hT s) slot entry args g (k s.heap _ _ λ _ _ e=>e) hv hx
theorem uR{h:Heap}:oQ W A .none "None" h:=iP typeIs_none F.slot_NoneType_repr F.entry_NoneType_repr (F.args_NoneType_repr_1 _) gives_none_repr rfl (by decide)
theorem yG{i:Int}{t:Tok}{h:Heap}(hi:i.natAbs.log2<1920):oQ W A (.int i t) (toString i:String) h:=iP (λ s=>typeIs_int s i t) F.slot_int_repr F.entry_int_repr (F.args_int_repr_1 _) (gives_int_repr i t hi) rfl (int_text_fits hi)
theorem lT:Slot "bytes" "__repr__" "bytes.__repr__":=
 .of (owner:="bytes") (n:="__repr__") (by rw[typeLookup_type,AF];kernel_rfl) (by decide +kernel) (by decide +kernel) (by decide +kernel) (by first | exact .inl (by decide +kernel) | exact .inr (by decide +kernel)) (by rw[isSubtype_type];kernel_rfl)
theorem slot_bytes_in:Slot "bytes" "__contains__" "bytes.__contains__":=
 .of (owner:="bytes") (n:="__contains__") (by rw[typeLookup_type,AF];kernel_rfl) (by decide +kernel) (by decide +kernel) (by decide +kernel) (by first | exact .inl (by decide +kernel) | exact .inr (by decide +kernel)) (by rw[isSubtype_type];kernel_rfl)
theorem mD(a:Value):argsOk "bytes.__repr__" ⟨[a],[]⟩:=by
 unfold argsOk;rw[signature?_of (id:="bytes.__repr__") (n:=['_','_','r','p','e','r','_','_']) (o:=['s','e','t','y','b']) (by kernel_rfl) FB.owner_bytes];kernel_rfl
theorem pK(a b:Value):argsOk "bytes.__contains__" ⟨[a,b],[]⟩:=by
 unfold argsOk;rw[signature?_of (id:="bytes.__contains__") (n:=['_','_','s','n','i','a','t','n','o','c','_','_']) (o:=['s','e','t','y','b']) (by kernel_rfl) FB.owner_bytes];kernel_rfl
theorem sK{t:Tok}{h:Heap}:oQ W A (.bytes #[38] t) "b'&'" h:=
 iP (B:=Builtin.«bytes.__repr__») (λ s=>typeIs_bytes s _ t) lT (entryFor_of_tree (by kernel_rfl)) (mD _) (by
  refine .of_wp λ M A E s Q hq=>?_;show Ad M A (Builtin.Bytes.payload (.bytes #[38] t) >>= λ b=>Builtin.Bytes.literalAsked b >>= λ x=>retStr x) _ E s;refine Aa (Bi (a:=#[38]) rfl ?_);refine Aa (Bi (a:=("b'&'":PySem.Str)) (by kernel_rfl) ?_);exact Aa (wpAny_mkStr (Af ⟨_,rfl,hq.2⟩) (by decide))) rfl (by decide)
theorem uS{a:Addr}{t u:Tok}{h:Heap}{n:Nat}(hg:A.guards=some [])(hu:A.units+1<cLine)(ho:h.get? a=some { cls:=.type "list",data:=.seq #[.str "&" t,.int 1 u] n }):oQ W A (.ref a) "['&', 1]" h:=by
 intro s Q E hk k;have e:("['&', 1]":PySem.Str)=listText ["'&'","1"]:=by decide +kernel
 rw[e]at k;refine wpAny_pyReprObj_listK (as:=[]) (h₀:=h) (d:=0) ho rfl rfl (λ m=>nomatch m) rfl (λ i y hy=>?_) hg (λ b _=>?_) hu hk k ?_
 ·obtain _ | _ | i:=i
  ·cases hy;have h:=ReprIs.str (prog:=W.prog) (w:=W.w) "&" t (by decide +kernel);rw[show reprText "&"="'&'" from by decide +kernel]at h;exact⟨_,rfl,ReprK.of_is h _ _ _⟩
  ·cases hy;exact⟨_,rfl,ReprK.of_is (ReprIs.int (a:=1) u (by decide +kernel)) _ _ _⟩
  ·simp at hy
 ·exact Clear.nil b
 ·have:(listText ["'&'","1"]).length=8:=by decide +kernel
  rw[this,Av]
  decide
theorem aBN{T q:String}{Q:Value->Ac->Prop}(S:Sta W G env loc nw s)(ht:kitMeta T=true)(hs:Manifest.isStub T=false)(e:findCls W.K (.type T) (.type "type") "__name__"=some (.get (.builtin "getset_descriptor.__get__") (.builtin "type.__name__") (.type T) (.type "type")))(hq:ktynFast T=q)(hz:(Str.ofString q).length<=Au)(k:∀ t s',Sta W G env loc nw s'->Q (.str (Str.ofString q) t) s')(ex:Bool):Ad W.M A (getAttr (.type T) "__name__" ex) Q E s:=by
 have hstub:opaqueClassAbove (.type T)=pure none:=by unfold opaqueClassAbove;dsimp only;rw[hs];rfl
 have L0:Looks W.M s.heap (typeOf (.type T)) (.type "type"):=Looks.of_pure (kitMeta_of ht);have LO:Looks W.M s.heap (opaqueClassAbove (.type T)) none:=Looks.of_pure hstub;refine cls_open S.kin LO L0 type_tga (looks_hook S.kin (r:=none) (by rfl)) (by show subIn W.K _ _=_;rfl) e ?_;show Ad _ _ (do ret (← holding [Value.builtin "type.__name__"] (call (.builtin "getset_descriptor.__get__") [.builtin "type.__name__",.type T,.type "type"]))) _ _ _;refine Aa (AC (wpAny_call (ktyn_get (s:={ s with toks:=s.toks+1 }) (kitMeta_of ht) hq hz ?_)));exact Af (handed_on rfl (k _ _ (S.toks _)))
end
section
open Builtin
variable {M:Model}
theorem mZ{b:Array UInt8}{t:Tok}(n:PySem.Str){r:Option Value}(h:typeLookup (.type "bytes") n=pure r):specialOf (.bytes b t) n=pure r:=h
theorem aC8{x:PySem.Str}{t:Tok}(n:PySem.Str){r:Option Value}(h:typeLookup (.type "str") n=pure r):specialOf (.str x t) n=pure r:=h
theorem zD{b:Array UInt8}{t:Tok}:Bytes.buffer? "bytes.__contains__" (.bytes b t)=pure (some b):=by
 have h1:typeLookup (.type "bytes") "__buffer__"=pure (some (.builtin "bytes.__buffer__")):=by rw[typeLookup_type,AF];kernel_rfl
 have h2:typeLookup (.type "bytes") "__release_buffer__"=pure none:=by rw[typeLookup_type,AF];kernel_rfl
 have e1:Bytes.slotIsOwn (.bytes b t) "__buffer__"=pure true:=by
  unfold Bytes.slotIsOwn;rw[mZ _ h1];show(if(!("bytes.__buffer__".endsWith ("."++"__buffer__")))=true then pure false else isInstance (.bytes b t) (.type ("bytes.__buffer__".dropRight ("__buffer__".length+1))))=_;rw[if_neg (by decide +kernel)];show isSubtype (.type "bytes") _=_;rw[show "bytes.__buffer__".dropRight ("__buffer__".length+1)="bytes" from by decide +kernel,isSubtype_type]
  kernel_rfl
 have e2:Bytes.ownRelease (.bytes b t)=pure false:=by
  unfold Bytes.ownRelease Bytes.slotIsOwn;rw[mZ _ h2]
  rfl
 unfold Bytes.buffer?;rw[mZ _ h1,e1,e2]
 rfl
theorem aCh{x:PySem.Str}{t:Tok}:Bytes.buffer? "bytes.__contains__" (.str x t)=pure none:=by
 have h1:typeLookup (.type "str") "__buffer__"=pure none:=by rw[typeLookup_type,AF];kernel_rfl
 unfold Bytes.buffer?;rw[aC8 _ h1]
 rfl
theorem tT:entryFor table "bytes.__contains__"=some Builtin.«bytes.__contains__»:=entryFor_of_tree (by kernel_rfl)
theorem aAF{x:PySem.Str}{b:Array UInt8}{t u:Tok}{Q:Value->Ac->Prop}(hh:A.handled=none)(S:Sta W G env loc nw s)(k:gX W G env loc nw "TypeError" E):Ad W.M A (compareOp .In (.str x t) (.bytes b u)) Q E s:=by
 unfold compareOp;refine Aa ?_;unfold contains;refine AC ?_;rw[stdlibNamesSay?_of_typeIs (typeIs_bytes s b u) _];dsimp only
 refine Aa (wpAny_specialOf (typeIs_bytes s b u) slot_bytes_in.lookup ?_);rw[if_neg (by decide)];refine Aa (m:=callSpecialUnlessNone? (.bytes b u) (Str.ofString "__contains__") [.str x t] _) ?_;refine wpAny_callSpecialUnlessNone?_slot (name:=Str.ofString "__contains__") (args:=[.str x t]) (typeIs_bytes s b u) slot_bytes_in ?_;refine wpAny_call ?_;refine codeAny_call_builtin slot_bytes_in.plain tT ?_;refine slot_bytes_in.check _ _ _ _ _ _ _ _ (typeIs_bytes s b u) (pK _ _) ?_;show Ad _ _ (do ret (.bool (← Bytes.containsIn "bytes.__contains__" (.bytes b u) (.str x t)))) _ _ _;refine Aa ?_;unfold Bytes.containsIn;refine Aa (Bz ?_);have h1:typeLookup (.type "str") "__index__"=pure none:=by rw[typeLookup_type,AF];kernel_rfl
 unfold asIndex;refine Aa (Bi (a:=none) rfl ?_);refine Aa (wpAny_callSpecial?_none (typeIs_str s x t) h1 ?_);refine Aa (Bi (a:="str") (by kernel_rfl) ?_);refine mH plainExc_TypeError hh (by decide +kernel) S λ t1 e1 s1 S1=>?_;rw[zD,aCh];refine Aa (Af ?_);refine Aa (Af ?_);refine Aa (wpAny_rule ?_);refine Aa (Bi (a:="str") (by kernel_rfl) ?_);exact mH plainExc_TypeError hh (by decide +kernel) S1 λ t2 e2 s2 S2=>k t2 e2 s2 (S2.sub (List.Sublist.cons_cons _ (AQ ..)))
end
section
variable {M:Model}
theorem aDS{a:Addr}{t t2 u:Tok}{Q:Value->Ac->Prop}(S:Sta W G env loc nw s)(m:(a,aA [.str "&" t,.int 1 u])∈nw)(q:Q (.bool true) s):Ad W.M A (compareOp .In (.str "&" t2) (.ref a)) Q E s:=by
 refine in_listAt (λ v=>match v with | .str y _=>decide (y="&") | _=>false) (S.isList m) (λ y hy=>?_) ?_
 ·have hy:y∈[Value.str "&" t,.int 1 u]:=by simpa using hy
  rcases At.mp hy with rfl | hy
  ·exact gT
  ·rcases At.mp hy with rfl | hy
   ·exact EqAt.int_str 1 u "&" t2
   ·cases hy
 ·have e:(#[Value.str "&" t,.int 1 u].any λ v=>match v with | .str y _=>decide (y="&") | _=>false)=true:=by kernel_rfl
  show Q (.bool (#[Value.str "&" t,.int 1 u].any _)) s;rw[e];exact q
theorem wO{e ta:Addr}{tb cx:Value}{msg:Str}{tk:Tok}{Q:Value->Ac->Prop}(S:Sta W G env loc nw s)(m1:(e,IXc "TypeError" (.ref ta) tb cx)∈nw)(m2:(ta,aJ [.str msg tk])∈nw)(hu:A.units+2<cLine)(q:Q (.str msg tk) s):Ad W.M A (call (.type "str") [.ref e]) Q E s:=by
 obtain⟨o,ho,hc,q0⟩:=S.get m1;obtain⟨vs,hd,h0,_⟩:=q0;obtain⟨ot,hot,q0⟩:=S.get m2;obtain⟨n,rfl⟩:=q0;exact P.str_of_exc_one F.excStr_TypeError hu ⟨o,vs,ho,hc,hd,h0⟩ ⟨_,n,hot,rfl,rfl⟩ q
theorem Sta.leave{env':Env}{h':Heap}(S:Sta W G env' loc' ((env.locals,aI loc)::nw) s)(S₀:EvO env (loc.map Prod.fst))(hs:Heap.SameBut env'.locals s.heap h')(t:Nat):Sta W G env loc nw { s with heap:=h',toks:=t }:=by
 have nd:=S.led.nodup;rw[Ak,AH]at nd;refine⟨S.ok,S₀,⟨λ b o e=>?_,λ p hp=>?_,S.led.tail.nodup⟩,S.bare,S.os,S.gens,S.gnd⟩
 ·rw[hs.2 b λ q=>by
   have:=(S.led.own _ (.head _)).1;subst q;rw[e]at this;cases this]
  exact S.led.keep b o e
 ·obtain⟨x,q0⟩:=S.led.own p (.tail _ hp);obtain⟨o,ho,hc⟩:=q0;exact⟨x,o,(hs.2 _ λ q=>nd.1 (Ah.mpr ⟨p,hp,q⟩)).trans ho,hc⟩
theorem pU{n:Str}{pos:Pos}{v:Option Value}{Q:Unit->Ac->Prop}{env0:Env}{loc0:Loc}(S:Sta W G env loc ((env0.locals,aI loc0)::nw) s)(S₀:EvO env0 (loc0.map Prod.fst))(hn:(n,v)∈loc)(k:∀ s',Sta W G env0 loc0 nw s'->Q () s'):Ad M A (do bindName env n .none;unbindBehindTheSuite env n pos) Q E s:=
 wpAny_nameGoes (S.eok.kinds _ (Ah.mpr ⟨_,hn,rfl⟩)) S.ns (by rw[S.eok.fn];rfl) λ h' m' _ hs=>k _ (S.leave S₀ hs _)
theorem kTE:isSubtype (.type "TypeError") (.type "BaseException")=pure true:=by rw[isSubtype_type];kernel_rfl
theorem kTT:isSubtype (.type ((Manifest.find? "TypeError").elim "type" λ x=>x.metatype)) (.type "tuple")=pure false:=by
 rw[show((Manifest.find? "TypeError").elim "type" λ x=>x.metatype)="type" from by decide +kernel,isSubtype_type]
 kernel_rfl
theorem kAE:isSubtype (.type "AttributeError") (.type "BaseException")=pure true:=by rw[isSubtype_type];kernel_rfl
theorem kAT:isSubtype (.type ((Manifest.find? "AttributeError").elim "type" λ x=>x.metatype)) (.type "tuple")=pure false:=by
 rw[show((Manifest.find? "AttributeError").elim "type" λ x=>x.metatype)="type" from by decide +kernel,isSubtype_type]
 kernel_rfl
end
structure Thing (W:Wd) (nw:Lg) (v:Value) (T:String) (r:Str):Prop where
 ty:∀{G env loc nw' s},Sta W G env loc nw' s->(∀ p∈nw,p∈nw')->s.TypeIs v T
 sh:∀{A:AJ} {G env loc nw' s},A.guards=some []->A.units+1<cLine->Sta W G env loc nw' s->(∀ p∈nw,p∈nw')->oQ W A v r s.heap
 nb:(Value.type T==Value.type "builtin_function_or_method")=false
 kit:kitMeta T=true
 stub:Manifest.isStub T=false
 cls:findCls W.K (.type T) (.type "type") "__name__"=some (.get (.builtin "getset_descriptor.__get__") (.builtin "type.__name__") (.type T) (.type "type"))
 rz:r.length<=1000
 fast:ktynFast T=T
 tz:(Str.ofString T).length<=1000
noncomputable def cF(r:Str)(T:String):Str:="cannot serialize "++r++" (type "++Str.ofString T++")"
theorem IsC.b_type{W:Wd}(I:IsC W):nsIn W.K AL "type"=some none:=by rw[I.k];kernel_rfl
noncomputable abbrev aD2(L:Addr):Env:=envOf "_raise_serialization_error" (aD mW) L 44 (.ref 43)
theorem aDe{v:Value}{T:String}{r:Str}{Y:String}{hd_:Addr}{b0:Value}{Q:Value->Ac->Prop}(I:IsC W)(hroom:A.depth<Be)(hu:A.units+20<cLine)(hh:A.handled=some (.ref hd_))(F:Fra A env nw)(S:Sta W G env loc nw s)(mh:∃ tb,(hd_,IXc Y b0 tb .none)∈nw)(V:Thing W nw v T r)(k:∀ e ta tk s',Ex W G env loc ((ta,aJ [.str (cF r T) tk])::nw) "TypeError" (.ref ta) (.ref hd_) e s'->E (.ref e) s'):Ad W.M A (call (.ref 44) [v]) Q E s:=by
 refine S.call_fnE (binds:=[("text",v)]) [] I.f_raise hroom (λ _ _ _ _ _=>BindsTo.of_eq (by kernel_rfl)) (by kernel_rfl) ?_;intro L s' S';have F':Fra (A.deeper (aD2 L)) (aD2 L) ((env.locals,aI loc)::nw):=F.deeper rfl (λ e=>nomatch e);simp only[aT,Ak,AD,Ar,Ax]at S';have hl1:("cannot serialize ":Str).length=17:=by decide +kernel
 have hl2:(" (type ":Str).length=7:=by decide +kernel
 have hl3:(")":Str).length=1:=by decide +kernel
 have hl4:=V.rz;have hl5:=V.tz;have hup:(A.deeper (aD2 L)).units=A.units+3:=rfl;refine aR ?_;refine aF rfl ?_;refine uX (G:=G) (loc:=[("text",some v)]) (cls:="TypeError") (Y:=Y) (hd:=hd_) (b0:=b0) PySem.F.excRaise_TypeError hh ?_;refine Call_ ?_ (by kernel_rfl);refine Sta.builtin (v:=.type "TypeError") S' I.b_TypeError (by kernel_rfl) (by kernel_rfl) ?_;walk_at "c";refine wpAny_FormattedValue_repr ?_;walk_at "c";refine V.sh F'.guards (by walk_at "o") S' (λ p hp=>.tail _ hp) _ _ _ (λ _ _ e=>e) λ h' u' tk hk=>?_;have S2:=S'.grow hk tk;clear S';generalize hs2:({ s' with heap:=h',toks:=tk }:Ac)=s2 at S2 ⊢;clear hs2 hk;revert s2;intro s' S';walk_at "c";refine wpAny_FormattedValue_s ?_;walk_at "c";refine Sta.builtin (v:=.type "type") S' I.b_type (by kernel_rfl) (by kernel_rfl) ?_;walk_at "c";refine call_type_of (V.ty S' λ p hp=>.tail _ hp) V.nb ?_;refine aBN (q:=T) S' V.kit V.stub V.cls V.fast (by walk_at "osz") (λ t1 s' S'=>?_) _;refine SB.convS_str (λ t2 k2=>?_) (by walk_at "osz");have S2:=S'.toks k2;clear S';generalize hs2:({ s' with toks:=k2 }:Ac)=s2 at S2 ⊢;clear hs2;revert s2;intro s' S';walk_at "c";refine S'.made PySem.F.excCall_TypeError (by show 1<=_;decide) λ e t s' S'=>?_;rw[Str.empty_append]at S';obtain⟨tb,mh⟩:=mh;refine⟨e,t,_,rfl,S',⟨tb,.tail _ (.tail _ mh)⟩,λ s2 S2=>?_⟩;refine yT (cx:=.ref hd_) (S2.perm (nw':=(e,IXc "TypeError" (.ref t) .none (.ref hd_))::(env.locals,aI loc)::(t,aJ [_])::nw) ((List.Perm.swap ..).cons _)) (F'.mono λ p hp=>(At.mp hp).elim (λ q=>q▸.head _) λ hp=>.tail _ (.tail _ hp)) λ s3 S3=>?_;exact k e t _ s3 (S3.back S.eok)
noncomputable abbrev TryE(W:Wd)(A:AJ)(env:Env)(hs:List ExceptHandler)(Q:Flow->Ac->Prop)(E:Value->Ac->Prop):Value->Ac->Prop:=λ e s₁=>
 Ad W.M A (noteFrame e env) (λ _ s₂=>Ad W.M A (setFlight e none) (λ _ s₃=>Ad W.M A (handleBy e env hs) Q E s₃) E s₂) E s₁
noncomputable abbrev oS(W:Wd)(A:AJ)(env:Env)(E:Value->Ac->Prop):Value->Ac->Prop:=λ x s''=>Ad W.M A (leaving env x) (λ _ s3=>E x s3) E s''
noncomputable def aEe(W:Wd)(G:Gens)(env:Env)(loc:Loc)(nw:Lg):Value->Ac->Prop:=λ x s=>∃ e t X,x=.ref e/\(X="TypeError"\/X="AttributeError")/\Sta W G env loc ((e,IXc X t .none .none)::nw) s
noncomputable abbrev iG(L:Addr):Env:=envOf "_escape_cdata_c14n" (aD qM) L 154 (.ref 153)
noncomputable def kG(W:Wd)(nw:Lg)(v:Value):Prop:=∀(A:AJ) (G:Gens) (env:Env) (loc:Loc) (nw':Lg) (s:Ac) (E:Value->Ac->Prop) (Q:Value->Ac->Prop) (t:Tok),A.handled=none->Sta W G env loc nw' s->(∀ p∈nw,p∈nw')->gX W G env loc nw' "TypeError" E->Ad W.M A (compareOp .In (.str "&" t) v) Q E s
theorem aAP{v:Value}{T:String}{r:Str}{L:Addr}{n:Nat}{p1 p2 p3 p4 p5 p6 p7 p8:Pos}{Q:Flow->Ac->Prop}{x:Value}(I:IsC W)(hA:Aok 4 A)(F:Fra A env nw)(S₀:EvO env (loc.map Prod.fst))(V:Thing W nw v T r)(h:aEe W G (iG L) [("text",some v)] ((env.locals,aI loc)::nw) x s)(k:∀ e ta tk e1 s',Ex W G env loc ((ta,aJ [.str (cF r T) tk])::nw) "TypeError" (.ref ta) (.ref e1) e s'->E (.ref e) s'):TryE W (A.deeper (iG L)) (iG L) [.ExceptHandler (some (.Tuple [.Name "TypeError" p1,.Name "AttributeError" p2] n p3)) none [.Expr (.Call (.Name "_raise_serialization_error" p4) [.Name "text" p5] [] p6) p7] p8] Q (oS W (A.deeper (iG L)) (iG L) E) x s:=by
 obtain⟨e,t,X,h1,hX,S'⟩:=h;subst h1;have F':Fra (A.deeper (iG L)) (iG L) ((env.locals,aI loc)::nw):=F.deeper rfl (λ e=>nomatch e);refine sX S' F' λ s1 S1=>?_;refine eN S1 λ s2 S2=>?_;obtain⟨tb,fl,S'⟩:=S2;have sub:∃ b1 b2:Bool,isSubtype (.type X) (.type "TypeError")=pure b1/\isSubtype (.type X) (.type "AttributeError")=pure b2/\(b1||b2)=true:=by
  rcases hX with rfl | rfl
  ·exact⟨true,false,by rw[isSubtype_type];kernel_rfl,by rw[isSubtype_type];kernel_rfl,rfl⟩
  ·exact⟨false,true,by rw[isSubtype_type];kernel_rfl,by rw[isSubtype_type];kernel_rfl,rfl⟩
 obtain⟨b1,b2,hs1,hs2,hb⟩:=sub;refine wpAny_handleBy_tup2 kTE kTT kAE kAT hs1 hs2 ?_;have F2:Fra ((A.deeper (iG L)).mark (some (.ref e))) (iG L) ((e,IXc X t (.ref tb) .none)::(tb,IsTb fl)::(env.locals,aI loc)::nw):=(F'.mono λ p hp=>.tail _ (.tail _ hp)).mark _;walk_at "c";refine Sta.builtin (v:=.type "TypeError") S' I.b_TypeError (by kernel_rfl) (by kernel_rfl) ?_;walk_at "c";refine Sta.builtin (v:=.type "AttributeError") S' I.b_AttributeError (by kernel_rfl) (by kernel_rfl) ?_;walk_at "c";obtain⟨ot,hot,q0⟩:=S'.get (.head _);obtain⟨n2,h2⟩:=q0;subst h2;have S3:=S'.sub (AQ ..);refine⟨a',rfl,⟨_,hot,rfl,n2,rfl⟩,Ex.is ⟨tb,fl,S3⟩,?_⟩;rw[hb,if_pos rfl];refine eN ⟨tb,fl,S3⟩ λ s3 S4=>?_;obtain⟨tb2,fl2,S'⟩:=S4;have F2:Fra ((A.deeper (iG L)).mark (some (.ref e))) (iG L) ((e,IXc X t (.ref tb2) .none)::(tb2,IsTb fl2)::(env.locals,aI loc)::nw):=(F'.mono λ p hp=>.tail _ (.tail _ hp)).mark _;refine Ay ?_;refine wpAny_Expr_any ?_ (by kernel_rfl) (by kernel_rfl);refine Call_ ?_ (by kernel_rfl);refine Sta.global S' I.g_raise (by kernel_rfl) ?_;refine bR (by rw[I.k];kernel_rfl) ?_ (by kernel_rfl) (by kernel_rfl);walk_at "c";refine⟨S'.kin,?_⟩;have hd:=hA.depth;have hun:=hA.units;refine aDe (T:=T) (r:=r) (Y:=X) (hd_:=e) (b0:=t) I (show A.depth+1<_ by walk_at "o") (show A.units+3+20<_ by walk_at "o") rfl F2 S' ⟨_,.head _⟩ ?_ λ e2 ta tk s4 S5=>?_
 ·exact⟨λ S h=>V.ty S λ p hp=>h p (.tail _ (.tail _ (.tail _ hp))),λ a b S h=>V.sh a b S λ p hp=>h p (.tail _ (.tail _ (.tail _ hp))),V.nb,V.kit,V.stub,V.cls,V.rz,V.fast,V.tz⟩
 ·have F3:Fra (A.deeper (iG L)) (iG L) ((ta,aJ [.str (cF r T) tk])::(e,IXc X t (.ref tb2) .none)::(tb2,IsTb fl2)::(env.locals,aI loc)::nw):=F'.mono λ p hp=>.tail _ (.tail _ (.tail _ hp));refine aDz S5 (F3.mark _) λ s5 S6=>?_;refine zC S6 λ s6 S7=>?_;refine vP S7 F3 λ s7 S8=>?_;obtain⟨T3,f3,S9⟩:=S8;refine k e2 ta tk e s7 (Ex.back (env:=env) (loc:=loc) ⟨T3,f3,S9.sel (Sel.rest [(e,IXc X t (.ref tb2) .none),(tb2,IsTb fl2)] (by walk_at "perm"))⟩ S₀)
theorem thr_{L:Addr}{v:Value}{X:String}(hX:X="TypeError"\/X="AttributeError"):gX W G (iG L) [("text",some v)] nw X (aEe W G (iG L) [("text",some v)] nw):=λ t e s' S=>⟨e,t,X,rfl,hX,S⟩
theorem xJ{v:Value}{T:String}{r:Str}{Q:Value->Ac->Prop}(I:IsC W)(S:Sta W G env loc nw s)(hA:Aok 4 A)(F:Fra A env nw)(V:Thing W nw v T r)(R:kG W nw v\/∃ a t u,v=.ref a/\(a,aA [.str "&" t,.int 1 u])∈nw)(k:∀ e ta tk e1 s',Ex W G env loc ((ta,aJ [.str (cF r T) tk])::nw) "TypeError" (.ref ta) (.ref e1) e s'->E (.ref e) s'):Ad W.M A (call (.ref 154) [v]) Q E s:=by
 refine S.call_fnE (binds:=[("text",v)]) [] I.f_escC hA.room (λ _ _ _ _ _=>BindsTo.of_eq (by kernel_rfl)) (by kernel_rfl) ?_;intro L s' S';simp only[aT,Ak,AD,Ar,Ax]at S';refine Ay ?_;refine wpAny_Try_except ?_;refine As (E:=aEe W G (iG L) [("text",some v)] ((env.locals,aI loc)::nw)) ?_ (λ _ _ h=>h) λ x s1 h1=>aAP I hA F S.eok V h1 k;refine Ay ?_;refine wpAny_If ?_;refine wpAny_isTrue_Compare1 ?_ rfl;walk_at "c";rcases R with R | ⟨a,t1,u,rfl,m⟩
 ·exact R _ _ _ _ _ _ _ _ _ (hA.deeper (k:=3)).handled S' (λ p hp=>.tail _ hp) (thr_ (.inl rfl))
 ·refine aDS S' (.tail _ m) ?_;walk_at "c";refine vU (hA.deeper (k:=3)).handled S' (.tail _ m) (by rw[typeLookup_type,AF];kernel_rfl) (by decide +kernel) (by decide +kernel) (thr_ (.inr rfl))
theorem jG{v:Value}{T:String}{r:Str}(I:IsC W)(ty:∀{G env loc nw' s},Sta W G env loc nw' s->(∀ p∈nw,p∈nw')->s.TypeIs v T)(sh:∀{A:AJ} {G env loc nw' s},A.guards=some []->A.units+1<cLine->Sta W G env loc nw' s->(∀ p∈nw,p∈nw')->oQ W A v r s.heap)(hT:T="NoneType"\/T="int"\/T="bytes"\/T="list")(rz:r.length<=1000):Thing W nw v T r:=by
 refine⟨ty,sh,?_,?_,?_,?_,rz,?_,?_⟩
 ·rcases hT with rfl | rfl | rfl | rfl<;>decide
 ·rcases hT with rfl | rfl | rfl | rfl<;>decide +kernel
 ·rcases hT with rfl | rfl | rfl | rfl<;>decide +kernel
 ·rw[I.k];rcases hT with rfl | rfl | rfl | rfl<;>kernel_rfl
 ·rcases hT with rfl | rfl | rfl | rfl<;>decide +kernel
 ·rcases hT with rfl | rfl | rfl | rfl<;>decide +kernel
theorem uI(I:IsC W):Thing W nw .none "NoneType" "None":=jG I (λ _ _=>rfl) (λ _ _ _ _=>uR) (.inl rfl) (by decide +kernel)
theorem pM(I:IsC W){i:Int}{t:Tok}(hi:i.natAbs.log2<1920)(hz:(Str.ofString (toString i)).length<=1000):Thing W nw (.int i t) "int" (toString i:String):=jG I (λ _ _=>rfl) (λ _ _ _ _=>yG hi) (.inr (.inl rfl)) hz
theorem lD(I:IsC W){t:Tok}:Thing W nw (.bytes #[38] t) "bytes" "b'&'":=jG I (λ _ _=>rfl) (λ _ _ _ _=>sK) (.inr (.inr (.inl rfl))) (by decide +kernel)
theorem mU(I:IsC W){a:Addr}{t u:Tok}(m:(a,aA [.str "&" t,.int 1 u])∈nw):Thing W nw (.ref a) "list" "['&', 1]":=jG I (λ S h=>let⟨o,ho,n,e⟩:=S.get (h _ m);⟨o,ho,by rw[e]⟩) (λ g u S h=>let⟨o,ho,n,e⟩:=S.get (h _ m);uS (n:=n) g u (ho.trans (congrArg some e))) (.inr (.inr (.inr rfl))) (by decide +kernel)
theorem aAa:kG W nw .none:=λ A G env loc nw' s E Q t hh S _ k=>xI (T:="NoneType") hh S (λ _=>rfl) (by rw[typeLookup_type,AF];kernel_rfl) (by rw[typeLookup_type,AF];kernel_rfl) (by rw[typeLookup_type,AF];kernel_rfl) (by decide) (by decide +kernel) k
theorem qV{i:Int}{u:Tok}:kG W nw (.int i u):=λ A G env loc nw' s E Q t hh S _ k=>xI (T:="int") hh S (λ _=>rfl) (by rw[typeLookup_type,AF];kernel_rfl) (by rw[typeLookup_type,AF];kernel_rfl) (by rw[typeLookup_type,AF];kernel_rfl) (by decide) (by decide +kernel) k
theorem pP{b:Array UInt8}{u:Tok}:kG W nw (.bytes b u):=λ A G env loc nw' s E Q t hh S _ k=>aAF hh S k
noncomputable def Wm.rem(m:Wm):Wm:=if m.rd=true then m else if m.rs=true then{ m with held:=[] }else m
noncomputable def Wm.rem0(m:Wm):List Str:=if m.rd=true then["\n"]else m.fl
noncomputable def Wm.rem1(m:Wm):List Str:=if m.rs=true then[]else["\n"]
theorem uW(m:Wm):m.rem.rs=m.rs:=by
 unfold Wm.rem
 by_cases h:m.rd=true
 ·rw[if_pos h]
 ·rw[if_neg h]
  by_cases h:m.rs=true
  ·rw[if_pos h]
  ·rw[if_neg h]
section
variable {w:Wn}{c:Wc}{q:Addr}{m:Wm}
theorem nl_{K:Sink W}{σ:K.σ}{p2 p3 p4 p5 p6:Pos}{k0:Nat}{Q:Flow->Ac->Prop}(I:IsC W)(hA:Aok 3 A)(hi:interactive env=false)(hs:(("self":Str),some (Value.ref w.x))∈loc)(hr:K.room σ 1)(hl:(p3.endLine==p5.line)=true)(S':Sta W G env loc (aC W w c K.q m (K.L σ++N)) s)(k:∀ s',Sta W G env loc (aC W w c K.q m (K.L (K.push σ "\n")++N)) s'->Q .next s'):Ad W.M A (exec (.Expr (.Call (.Attribute (.Name "self" p2) "_write" p3) [.Constant (.str "\n") k0 p4] [] p5) p6) env) Q E s:=by
 have hcl:=I.cl;refine aAc ?_ hi rfl;refine jD ?_ rfl rfl hl;refine S'.local_ hs ?_;walk_at "c";exact mE S' hA hr k
theorem xM{K:Sink W}{σ:K.σ}{p0 p1 p2 p3 p4 p5 p6 p7 p8:Pos}{k0:Nat}{Q:Flow->Ac->Prop}(I:IsC W)(hA:Aok 3 A)(hi:interactive env=false)(hs:(("self":Str),some (Value.ref w.x))∈loc)(hr:K.room σ 1)(hl:(p3.endLine==p5.line)=true)(S':Sta W G env loc (aC W w c K.q m (K.L σ++N)) s)(k:∀ s',Sta W G env loc (aC W w c K.q m (K.L (K.pushes σ m.rem1)++N)) s'->Q .next s'):Ad W.M A (exec (.If (.UnaryOp .Not (.Attribute (.Name "self" p0) "_root_seen" p1) p7) [.Expr (.Call (.Attribute (.Name "self" p2) "_write" p3) [.Constant (.str "\n") k0 p4] [] p5) p6] [] p8) env) Q E s:=by
 have hcl:=I.cl;refine wpAny_If ?_;refine isTrue_not ?_;refine eT ?_ rfl;refine kL S' hs ?_;walk_at "c";unfold Wm.rem1 at k;cases hrs:m.rs with
 | true=>
  rw[if_pos hrs]at k;exact AI (k _ S')
 | false=>
  rw[if_neg (by rw[hrs];exact Bool.noConfusion)]at k;exact Ay (nl_ I hA hi hs hr hl S' λ s' S'=>AI (k s' S'))
theorem aA8{K:Sink W}{σ:K.σ}{p0 p1 p2 p3 p4 p5 p6 p7 p8 p9 p10 p11 p12 p13 p14 p15 p16 p17:Pos}{k0:Nat}{Q:Flow->Ac->Prop}(I:IsC W)(hA:Aok 5 A)(hi:interactive env=false)(hs:(("self":Str),some (Value.ref w.x))∈loc)(hz:m.held.length<=Au)(hc:(cat m.held).length<=txL)(hr:K.room σ 1)(hl:(p3.endLine==p5.line)=true)(hl2:(p13.endLine==p14.line)=true)(S':Sta W G env loc (aC W w c K.q m (K.L σ++N)) s)(k:∀ s',Sta W G env loc (aC W w c K.q m.rem (K.L (K.pushes σ m.rem0)++N)) s'->Q .next s'):Ad W.M A (exec (.If (.Attribute (.Name "self" p0) "_root_done" p1) [.Expr (.Call (.Attribute (.Name "self" p2) "_write" p3) [.Constant (.str "\n") k0 p4] [] p5) p6]
   [.If (.BoolOp .And [.Attribute (.Name "self" p7) "_root_seen" p8,.Attribute (.Name "self" p9) "_data" p10] p11) [.Expr (.Call (.Attribute (.Name "self" p12) "_flush" p13) [] [] p14) p15] [] p16] p17) env) Q E s:=by
 have hcl:=I.cl;refine wpAny_If ?_;refine eT ?_ rfl;refine kL S' hs ?_;walk_at "c";cases hrd:m.rd with
 | true=>
  rw[show m.rem=m from if_pos hrd,show m.rem0=([("\n":Str)]:List Str)from if_pos hrd]at k;exact Ay (nl_ I (hA.le (by decide)) hi hs hr hl S' λ s' S'=>AI (k s' S'))
 | false=>
  have nd:¬m.rd=true:=ne_true_of_eq_false hrd;rw[show m.rem0=m.fl from if_neg nd]at k;refine Ay ?_;refine wpAny_If ?_;refine isTrue_and ?_;refine eT ?_ rfl;refine kL S' hs ?_;walk_at "c";cases hrs:m.rs with
  | false=>
   rw[show m.rem=m from(if_neg nd).trans (if_neg (ne_true_of_eq_false hrs)),show m.fl=[]from by unfold Wm.fl;rw[hrs];rfl]at k;exact dG (dG (AI (AI (k s' S'))))
  | true=>
   rw[show m.rem={ m with held:=[] }from(if_neg nd).trans (if_pos hrs)]at k;refine eZ ?_;refine isTrue_and ?_;refine eT ?_ rfl;refine kL S' hs ?_;walk_at "c";cases hd2:m.held with
   | nil=>
    rw[aAO hd2,show({ m with held:=[] }:Wm)=m from by rw[←hd2]]at k;exact dG (dG (AI (AI (k _ S'))))
   | cons y r=>
    refine eZ ?_;refine isTrue_and_nil ?_;refine eZ ?_;refine Ay ?_;refine wpAny_Expr_any ?_ hi (by kernel_rfl);refine qC I hA hs hz hc hr rfl rfl hl2 S' ?_;intro s2 S3;exact AI (AI (k s2 S3))
theorem sN{K:Sink W}{σ:K.σ}(m:Wm)(t:Str):K.pushes (K.push (K.pushes σ m.rem0) t) m.rem.rem1=K.pushes σ (m.rem0++t::m.rem1):=by
 rw[K.pushes_append,show m.rem.rem1=m.rem1 from congrArg (λ b=>if b=true then[]else([("\n":Str)]:List Str)) (uW m)]
 rfl
end
noncomputable def Tru(W:Wd)(nw:Lg)(v:Value)(b:Bool):Prop:=∀(A:AJ) (G:Gens) (env:Env) (loc:Loc) (nw':Lg) (s:Ac) (E:Value->Ac->Prop) (Q:Bool->Ac->Prop),Sta W G env loc nw' s->(∀ p∈nw,p∈nw')->(∀ s',Sta W G env loc nw' s'->Q b s')->Ad W.M A (truthy v) Q E s
inductive Oc where
 | plain
 | text (x:Str)
 | bad (T:String) (r:Str)
noncomputable def BadV(W:Wd)(nw:Lg)(v:Value)(T:String)(r:Str):Prop:=Thing W nw v T r/\(kG W nw v\/∃ a t u,v=.ref a/\(a,aA [.str "&" t,.int 1 u])∈nw)
noncomputable def PiV(W:Wd)(nw:Lg)(v:Value):Oc->Prop
 | .plain=>Tru W nw v false
 | .text x=>(∃ t,v=.str x t)/\x.length≠0/\x.length<=txL
 | .bad T r=>Tru W nw v true/\BadV W nw v T r
noncomputable def CoV(W:Wd)(nw:Lg)(v:Value):Oc->Prop
 | .plain=>False
 | .text x=>(∃ t,v=.str x t)/\x.length<=txL
 | .bad T r=>BadV W nw v T r
noncomputable def bH(tg:Str):Oc->Option Str
 | .plain=>some ("<?"++tg++"?>")
 | .text x=>some ("<?"++tg++" "++dC x++"?>")
 | .bad _ _=>none
noncomputable def bL:Oc->Option Str
 | .plain=>none
 | .text x=>some ("<!--"++dC x++"-->")
 | .bad _ _=>none
theorem BadV.up{W:Wd}{nw nw':Lg}{v:Value}{T:String}{r:Str}(h:BadV W nw v T r)(k:∀ p∈nw,p∈nw'):BadV W nw' v T r:=
 ⟨⟨λ S j=>h.1.ty S λ p hp=>j p (k p hp),λ a b S j=>h.1.sh a b S λ p hp=>j p (k p hp),h.1.nb,h.1.kit,h.1.stub,h.1.cls,h.1.rz,h.1.fast,h.1.tz⟩,h.2.elim (λ h=>.inl λ A G env loc nw2 s E Q t hh S j=>h A G env loc nw2 s E Q t hh S λ p hp=>j p (k p hp)) λ⟨a,t,u,e,m⟩=>.inr ⟨a,t,u,e,k _ m⟩⟩
section
variable {w:Wn}{c:Wc}{q:Addr}{m:Wm}
theorem piX_{K:Sink W}{σ:K.σ}{tg:Str}{v:Value}{o:Oc}{u:Tok}{Q:Value->Ac->Prop}(I:IsC W)(hA:Aok 8 A)(F:Fra A env N)(htg:tg.length<=1000)(hv:PiV W N v o)(hig:m.ig=0)(hz:m.held.length<=Au)(hc:(cat m.held).length<=txL)(hr:K.room σ 3)(S:Sta W G env loc (aC W w c K.q m (K.L σ++N)) s)(k:∀ t s',bH tg o=some t->Sta W G env loc (aC W w c K.q m.rem (K.L (K.pushes σ (m.rem0++t::m.rem1))++N)) s'->Q .none s')(kE:∀ T r e ta tk e1 s',o=.bad T r->Ex W G env loc ((ta,aJ [.str (cF r T) tk])::aC W w c K.q m.rem (K.L (K.pushes σ m.rem0)++N)) "TypeError" (.ref ta) (.ref e1) e s'->E (.ref e) s'):Ad W.M A (call (.ref 140) [.ref w.x,.str tg u,v]) Q E s:=by
 refine S.call_fnE (binds:=[("self",.ref w.x),("target",.str tg u),("data",v)]) [] I.f_pi hA.room (λ _ _ _ _ _=>BindsTo.of_eq (by kernel_rfl)) (by kernel_rfl) ?_;intro L s' S';have hA':=hA.deeper (env:=kA L);have F':Fra (A.deeper (kA L)) (kA L) ((env.locals,aI loc)::N):=F.deeper rfl (λ e=>nomatch e);simp only[aT,Ak,AD,Ar,Ax]at S';have hcl:=I.cl;have e0:((m.ig:Int) != 0)=false:=by rw[hig];rfl
 have hl1:("<?":Str).length=2:=by decide +kernel
 have hl2:("?>":Str).length=2:=by decide +kernel
 have hl4:(" ":Str).length=1:=by decide +kernel
 have er:m.rem.rs=m.rs:=uW m;have hlen:m.rem0.length<=1:=by unfold Wm.rem0;split;exact AG _;exact rS m
 have hr2:K.room (K.pushes σ m.rem0) 2:=eX K _ (gD K (by walk_at "o") hr)
 -- the end: a line feed ahead of the root
 have fin:∀ t s',bH tg o=some t->Sta W G (kA L) ([("self",some (.ref w.x)),("target",some (.str tg u)),("data",some v)]:Loc) (aC W w c K.q m.rem (K.L (K.push (K.pushes σ m.rem0) t)++((env.locals,aI loc)::N))) s'->
   Ad W.M (A.deeper (kA L)) (execs ((aH sF).drop 3) (kA L)) (λ fl s''=>Q (match fl with | .ret v=>v | _=>.none) s'') (oS W (A.deeper (kA L)) (kA L) E) s':=by
  clear S';intro t s' ht S';refine aF rfl ?_;refine xM I (hA'.le (by decide)) rfl (.head _) (K.step t hr2) rfl S' ?_;clear S';intro s' S';rw[sN]at S';exact fS (AE rfl) (k t s' ht (Sta.back (S'.perm wn_mid) S.eok))
 -- the mark
 have mid:∀ m' σ' s',m'=m.rem->σ'=K.pushes σ m.rem0->Sta W G (kA L) ([("self",some (.ref w.x)),("target",some (.str tg u)),("data",some v)]:Loc) (aC W w c K.q m' (K.L σ'++((env.locals,aI loc)::N))) s'->
   Ad W.M (A.deeper (kA L)) (execs ((aH sF).drop 2) (kA L)) (λ fl s''=>Q (match fl with | .ret v=>v | _=>.none) s'') (oS W (A.deeper (kA L)) (kA L) E) s':=by
  clear S';intro m' σ' s' em eσ S';subst em eσ;have up:∀ p∈N,p∈aC W w c K.q m.rem (K.L (K.pushes σ m.rem0)++((env.locals,aI loc)::N)):=λ p hp=>by
   dsimp only[aC]
   repeat' first | exact Ag _ (.tail _ hp) | refine Ag _ ?_ | refine .tail _ ?_
  refine aF rfl ?_;walk_at "c";cases o with
  | plain=>
   refine hv _ _ _ _ _ _ _ _ S' up (λ s' S'=>?_);walk_at "c";rw[Str.empty_append];exact mE (m:=m.rem) (σ:=K.pushes σ m.rem0) (w:=w) (c:=c) (N:=(env.locals,aI loc)::N) S' (hA'.le (by decide)) (K.less hr2) λ s' S'=>fin _ s' rfl S'
  | text x=>
   obtain⟨ht,hx0,hx⟩:=hv;obtain⟨t0,h1⟩:=ht;subst h1;have hx':x.length<=300000:=hx;have hl3:=dQ x;refine dH S' (by walk_at "o") (λ e s' S'=>absurd e hx0) (λ e s' S'=>?_);walk_at "c";refine Sta.global S' I.g_escC (by kernel_rfl) ?_;refine bR (by rw[I.k];kernel_rfl) ?_ (by kernel_rfl) (by kernel_rfl);walk_at "c";refine⟨S'.kin,?_⟩;refine aAQ I S' (hA'.le (by first | decide | walk_at "o")) hx ?_;clear S';intro t2 s' S';walk_at "c";rw[Str.empty_append];exact mE (m:=m.rem) (σ:=K.pushes σ m.rem0) (w:=w) (c:=c) (N:=(env.locals,aI loc)::N) S' (hA'.le (by decide)) (K.less hr2) λ s' S'=>fin _ s' rfl S'
  | bad T r=>
   obtain⟨h1,h2⟩:=hv;refine h1 _ _ _ _ _ _ _ _ S' up (λ s' S'=>?_);walk_at "c";refine Sta.global S' I.g_escC (by kernel_rfl) ?_;refine bR (by rw[I.k];kernel_rfl) ?_ (by kernel_rfl) (by kernel_rfl);walk_at "c";refine⟨S'.kin,?_⟩;have S2:Sta W G (kA L) ([("self",some (.ref w.x)),("target",some (.str tg u)),("data",some v)]:Loc) (aC W w c K.q m.rem (K.L (K.pushes σ m.rem0)++((env.locals,aI loc)::N))) s':=S';have up2:∀ p∈(env.locals,aI loc)::N,p∈aC W w c K.q m.rem (K.L (K.pushes σ m.rem0)++((env.locals,aI loc)::N)):=λ p hp=>by
    dsimp only[aC]
    repeat' first | exact Ag _ hp | refine Ag _ ?_ | refine .tail _ ?_
   have h3:=h2.up up;refine xJ I S2 (hA'.le (by decide)) (F'.mono up2) h3.1 h3.2 λ e ta tk e1 s2 h=>?_;refine vP h (F'.mono λ p hp=>.tail _ (up2 p hp)) λ s3 h4=>kE T r e ta tk e1 s3 rfl (Ex.back (h4.perm ?_) S.eok);walk_at "perm"
 refine aR ?_;refine aF rfl ?_;walk_at "cw";walk_at "cw";walk_at "st";rw[e0];walk_at "st";refine aF rfl ?_;refine aA8 (w:=w) (c:=c) (m:=m) (σ:=σ) I (hA'.le (by decide)) rfl (.head _) hz hc (gD K (by walk_at "o") hr) rfl rfl (S'.perm wn_mid.symm) ?_;clear S';intro s' S';exact mid _ _ _ rfl rfl S'
end
noncomputable abbrev fE(L:Addr):Env:=envOf "C14NWriterTarget.comment" (aD eS) L 133 (.ref 132)
section
variable {w:Wn}{c:Wc}{q:Addr}{m:Wm}
theorem coX_{K:Sink W}{σ:K.σ}{v:Value}{o:Oc}{Q:Value->Ac->Prop}(I:IsC W)(hA:Aok 8 A)(F:Fra A env N)(hcom:c.com=true)(hv:CoV W N v o)(hig:m.ig=0)(hz:m.held.length<=Au)(hc:(cat m.held).length<=txL)(hr:K.room σ 3)(S:Sta W G env loc (aC W w c K.q m (K.L σ++N)) s)(k:∀ t s',bL o=some t->Sta W G env loc (aC W w c K.q m.rem (K.L (K.pushes σ (m.rem0++t::m.rem1))++N)) s'->Q .none s')(kE:∀ T r e ta tk e1 s',o=.bad T r->Ex W G env loc ((ta,aJ [.str (cF r T) tk])::aC W w c K.q m.rem (K.L (K.pushes σ m.rem0)++N)) "TypeError" (.ref ta) (.ref e1) e s'->E (.ref e) s'):Ad W.M A (call (.ref 133) [.ref w.x,v]) Q E s:=by
 refine S.call_fnE (binds:=[("self",.ref w.x),("text",v)]) [] I.f_comment hA.room (λ _ _ _ _ _=>BindsTo.of_eq (by kernel_rfl)) (by kernel_rfl) ?_;intro L s' S';have hA':=hA.deeper (env:=fE L);have F':Fra (A.deeper (fE L)) (fE L) ((env.locals,aI loc)::N):=F.deeper rfl (λ e=>nomatch e);simp only[aT,Ak,AD,Ar,Ax]at S';have hcl:=I.cl;have e0:((m.ig:Int) != 0)=false:=by rw[hig];rfl
 have hl1:("<!--":Str).length=4:=by decide +kernel
 have hl2:("-->":Str).length=3:=by decide +kernel
 have er:m.rem.rs=m.rs:=uW m;have hlen:m.rem0.length<=1:=by unfold Wm.rem0;split;exact AG _;exact rS m
 have hr2:K.room (K.pushes σ m.rem0) 2:=eX K _ (gD K (by walk_at "o") hr)
 -- the end: a line feed ahead of the root
 have fin:∀ t s',bL o=some t->Sta W G (fE L) ([("self",some (.ref w.x)),("text",some v)]:Loc) (aC W w c K.q m.rem (K.L (K.push (K.pushes σ m.rem0) t)++((env.locals,aI loc)::N))) s'->
   Ad W.M (A.deeper (fE L)) (execs ((aH eS).drop 4) (fE L)) (λ fl s''=>Q (match fl with | .ret v=>v | _=>.none) s'') (oS W (A.deeper (fE L)) (fE L) E) s':=by
  clear S';intro t s' ht S';refine aF rfl ?_;refine xM I (hA'.le (by decide)) rfl (.head _) (K.step t hr2) rfl S' ?_;clear S';intro s' S';rw[sN]at S';exact fS (AE rfl) (k t s' ht (Sta.back (S'.perm wn_mid) S.eok))
 -- the mark
 have mid:∀ m' σ' s',m'=m.rem->σ'=K.pushes σ m.rem0->Sta W G (fE L) ([("self",some (.ref w.x)),("text",some v)]:Loc) (aC W w c K.q m' (K.L σ'++((env.locals,aI loc)::N))) s'->
   Ad W.M (A.deeper (fE L)) (execs ((aH eS).drop 3) (fE L)) (λ fl s''=>Q (match fl with | .ret v=>v | _=>.none) s'') (oS W (A.deeper (fE L)) (fE L) E) s':=by
  clear S';intro m' σ' s' em eσ S';subst em eσ;have up:∀ p∈N,p∈aC W w c K.q m.rem (K.L (K.pushes σ m.rem0)++((env.locals,aI loc)::N)):=λ p hp=>by
   dsimp only[aC]
   repeat' first | exact Ag _ (.tail _ hp) | refine Ag _ ?_ | refine .tail _ ?_
  refine aF rfl ?_;walk_at "c";cases o with
  | plain=>exact hv.elim
  | text x=>
   obtain⟨ht,hx⟩:=hv;obtain⟨t0,h1⟩:=ht;subst h1;have hx':x.length<=300000:=hx;have hl3:=dQ x;walk_at "c";refine Sta.global S' I.g_escC (by kernel_rfl) ?_;refine bR (by rw[I.k];kernel_rfl) ?_ (by kernel_rfl) (by kernel_rfl);walk_at "c";refine⟨S'.kin,?_⟩;refine aAQ I S' (hA'.le (by first | decide | walk_at "o")) hx ?_;clear S';intro t2 s' S';walk_at "c";rw[Str.empty_append];exact mE (m:=m.rem) (σ:=K.pushes σ m.rem0) (w:=w) (c:=c) (N:=(env.locals,aI loc)::N) S' (hA'.le (by decide)) (K.less hr2) λ s' S'=>fin _ s' rfl S'
  | bad T r=>
   have h2:BadV W N v T r:=hv;walk_at "c";refine Sta.global S' I.g_escC (by kernel_rfl) ?_;refine bR (by rw[I.k];kernel_rfl) ?_ (by kernel_rfl) (by kernel_rfl);walk_at "c";refine⟨S'.kin,?_⟩;have S2:Sta W G (fE L) ([("self",some (.ref w.x)),("text",some v)]:Loc) (aC W w c K.q m.rem (K.L (K.pushes σ m.rem0)++((env.locals,aI loc)::N))) s':=S';have up2:∀ p∈(env.locals,aI loc)::N,p∈aC W w c K.q m.rem (K.L (K.pushes σ m.rem0)++((env.locals,aI loc)::N)):=λ p hp=>by
    dsimp only[aC]
    repeat' first | exact Ag _ hp | refine Ag _ ?_ | refine .tail _ ?_
   have h3:=h2.up up;refine xJ I S2 (hA'.le (by decide)) (F'.mono up2) h3.1 h3.2 λ e ta tk e1 s2 h=>?_;refine vP h (F'.mono λ p hp=>.tail _ (up2 p hp)) λ s3 h4=>kE T r e ta tk e1 s3 rfl (Ex.back (h4.perm ?_) S.eok);walk_at "perm"
 refine aR ?_;refine aF rfl ?_;walk_at "cw";walk_at "cw";walk_at "st";rw[hcom];walk_at "st";refine aF rfl ?_;walk_at "cw";walk_at "cw";walk_at "st";rw[e0];walk_at "st";refine aF rfl ?_;refine aA8 (w:=w) (c:=c) (m:=m) (σ:=σ) I (hA'.le (by decide)) rfl (.head _) hz hc (gD K (by walk_at "o") hr) rfl rfl (S'.perm wn_mid.symm) ?_;clear S';intro s' S';exact mid _ _ _ rfl rfl S'
end
noncomputable def Wm.remS(m:Wm):Wm:=if m.ig=0 then m.rem else m
noncomputable def Wm.remW(m:Wm)(x:Option Str):List Str:=if m.ig=0 then m.rem0++(match x with | some t=>t::m.rem1 | none=>[])else[]
noncomputable def Oc.msg:Oc->Str
 | .bad T r=>cF r T
 | _=>""
noncomputable def Wm.remM(m:Wm)(o:Oc):Str:=if m.ig=0 then o.msg else ""
noncomputable abbrev aAT(L:Addr):Env:=envOf "_law_pi" (aD qL) L 206 (.ref 205)
section
variable {w:Wn}{c:Wc}{q:Addr}{m:Wm}
theorem piI_{tg:Str}{v:Value}{u:Tok}{Q:Value->Ac->Prop}(I:IsC W)(hA:Aok 8 A)(hig:m.ig≠0)(S:Sta W G env loc (aC W w c q m N) s)(k:∀ s',Sta W G env loc (aC W w c q m N) s'->Q .none s'):Ad W.M A (call (.ref 140) [.ref w.x,.str tg u,v]) Q E s:=by
 refine S.call_fn (binds:=[("self",.ref w.x),("target",.str tg u),("data",v)]) [] I.f_pi hA.room (λ _ _ _ _ _=>BindsTo.of_eq (by kernel_rfl)) (by kernel_rfl) ?_;intro L s' S';simp only[aT,Ak,AD,Ar,Ax]at S';have hcl:=I.cl;have e0:((m.ig:Int) != 0)=true:=bne_iff_ne.mpr (by walk_at "o");refine aR ?_;walk_at "c";rw[e0];walk_at "c";exact k s' (Sta.back S' S.eok)
theorem coI_{v:Value}{Q:Value->Ac->Prop}(I:IsC W)(hA:Aok 8 A)(hig:c.com=false\/m.ig≠0)(S:Sta W G env loc (aC W w c q m N) s)(k:∀ s',Sta W G env loc (aC W w c q m N) s'->Q .none s'):Ad W.M A (call (.ref 133) [.ref w.x,v]) Q E s:=by
 refine S.call_fn (binds:=[("self",.ref w.x),("text",v)]) [] I.f_comment hA.room (λ _ _ _ _ _=>BindsTo.of_eq (by kernel_rfl)) (by kernel_rfl) ?_;intro L s' S';simp only[aT,Ak,AD,Ar,Ax]at S';have hcl:=I.cl;refine aR ?_;walk_at "c";cases hcom:c.com with
 | false=>
  walk_at "c";exact k s' (Sta.back S' S.eok)
 | true=>
  have e0:((m.ig:Int) != 0)=true:=bne_iff_ne.mpr (by rcases hig with h | h;rw[h]at hcom;cases hcom;walk_at "o");walk_at "c";rw[e0];walk_at "c";exact k s' (Sta.back S' S.eok)
theorem lpi_{K:Sink W}{σ:K.σ}{v:Value}{o:Oc}{Q:Value->Ac->Prop}(I:IsC W)(hA:Aok 10 A)(F:Fra A env N)(hv:PiV W N v o)(hz:m.held.length<=Au)(hc:(cat m.held).length<=txL)(hr:K.room σ 3)(S:Sta W G env loc (aC W w c K.q m (K.L σ++N)) s)(k:∀ t s',Sta W G env loc (aC W w c K.q m.remS (K.L (K.pushes σ (m.remW (bH "m" o)))++N)) s'->Q (.str (m.remM o) t) s'):Ad W.M A (call (.ref 206) [.ref w.x,v]) Q E s:=by
 refine S.call_fn (binds:=[("writer",.ref w.x),("thing",v)]) ["error"] I.f_l_pi hA.room (λ _ _ _ _ _=>BindsTo.of_eq (by kernel_rfl)) (by kernel_rfl) ?_;intro L s' S';have hA':=hA.deeper (env:=aAT L);have F':Fra (A.deeper (aAT L)) (aAT L) ((env.locals,aI loc)::N):=F.deeper rfl (λ e=>nomatch e);simp only[aT,Ak,AD,Ar,Ax]at S';have hcl:=I.cl;refine aR ?_;refine aF rfl ?_;refine wpAny_Try_except ?_;refine Ay ?_;refine wpAny_Expr_any ?_ (by kernel_rfl) (by kernel_rfl);walk_at "c";refine Sta.getM_inst (f:=140) S' hcl (by walk_at "mem") (by walk_at "mem") VV.keys (by decide +kernel) (by rw[I.k];kernel_rfl) (by rw[I.k];kernel_rfl) ?_;refine eB (by rw[I.k];kernel_rfl) ?_ (by kernel_rfl) (by kernel_rfl);walk_at "c";refine⟨S'.kin,?_⟩
 by_cases hig:m.ig=0
 ·have hS:m.remS=m.rem:=by unfold Wm.remS;rw[if_pos hig]
  have hM:m.remM o=o.msg:=by unfold Wm.remM;rw[if_pos hig]
  refine piX_ (w:=w) (c:=c) (σ:=σ) (N:=(env.locals,aI loc)::N) (o:=o) I (hA'.le (by decide)) F' (by decide) ?_ hig hz hc hr (S'.perm (by dsimp only[aC];walk_at "perm")) ?_ ?_
  ·cases o with
   | plain=>exact λ A G env loc nw' s E Q S h=>hv A G env loc nw' s E Q S λ p hp=>h p (.tail _ hp)
   | text x=>exact hv
   | bad T r=>exact⟨λ A G env loc nw' s E Q S h=>hv.1 A G env loc nw' s E Q S λ p hp=>h p (.tail _ hp),hv.2.up λ p hp=>.tail _ hp⟩
  ·clear S';intro t s' ht S';have hW:m.remW (bH "m" o)=m.rem0++t::m.rem1:=by unfold Wm.remW;rw[if_pos hig,ht]
   have hM2:o.msg="":=by cases o with
    | bad T r=>cases ht
    | plain=>rfl
    | text x=>rfl
   rw[hM,hM2,hS,hW]at k;walk_at "c";exact k _ s' (Sta.back (S'.perm (by walk_at "zg";dsimp only[aC];walk_at "perm")) S.eok)
  ·clear S';intro T r e ta tk e1 s' h1 h2;subst h1;have hW:m.remW (bH "m" (.bad T r))=m.rem0:=by unfold Wm.remW;rw[if_pos hig];exact Aj _
   rw[hM,hS,hW]at k;have up:∀ p∈(env.locals,aI loc)::N,p∈(ta,aJ [.str (cF r T) tk])::aC W w c K.q m.rem (K.L (K.pushes σ m.rem0)++((env.locals,aI loc)::N)):=λ p hp=>by
    dsimp only[aC]
    repeat' first | exact Ag _ hp | refine Ag _ ?_ | refine .tail _ ?_
   refine xC h2 (F'.mono up) λ s1 h3=>?_;refine eN h3 λ s2 h4=>?_;obtain⟨tb,fl,S4⟩:=h4;refine wpAny_handleBy_builtin_as (X:="TypeError") (T:="TypeError") (b:=true) kTE kTT (by rw[isSubtype_type];kernel_rfl) ?_;refine Sta.builtin (v:=.type "TypeError") S4 I.b_TypeError (by kernel_rfl) (by kernel_rfl) ?_;refine⟨rfl,Ex.is ⟨tb,fl,S4⟩,?_⟩;rw[if_pos rfl];refine eN ⟨tb,fl,S4⟩ λ s3 h5=>?_;obtain⟨tb2,fl2,S5⟩:=h5;refine S5.store (x:="error") (by walk_at "put") λ s' S'=>?_;clear S5;have hun:=hA.units;refine Ay ?_
   iterate 2 walk_at "cw"
   refine Sta.builtin S' I.b_str aA3 (by kernel_rfl) ?_;walk_at "c";refine wO S' (.head _) (.tail _ (.tail _ (.head _))) (show A.units+3+2<_ by walk_at "o") ?_;walk_at "c";refine pU (env0:=env) (loc0:=loc) (v:=some (.ref e)) (nw:=(e,IXc "TypeError" (.ref ta) (.ref tb2) (.ref e1))::(tb2,IsTb fl2)::(ta,aJ [.str (cF r T) tk])::aC W w c K.q m.rem (K.L (K.pushes σ m.rem0)++N)) (S'.perm ?_) S.eok (by walk_at "mem") λ s5 S5=>?_
   ·walk_at "zg";dsimp only[aC]
    walk_at "perm"
   ·exact k tk s5 (S5.sel (Sel.rest [(e,IXc "TypeError" (.ref ta) (.ref tb2) (.ref e1)),(tb2,IsTb fl2),(ta,aJ [.str (cF r T) tk])] (by dsimp only[aC];walk_at "perm")))
 ·refine piI_ I (hA'.le (by decide)) hig (S'.perm (nw':=aC W w c K.q m (K.L σ++((env.locals,aI loc)::N))) (by dsimp only[aC];walk_at "perm")) ?_;clear S';intro s' S';have hS:m.remS=m:=by unfold Wm.remS;rw[if_neg hig]
  have hM:m.remM o="":=by unfold Wm.remM;rw[if_neg hig]
  have hW:m.remW (bH "m" o)=[]:=by unfold Wm.remW;rw[if_neg hig]
  rw[hM,hS,hW]at k;walk_at "c";exact k _ s' (Sta.back (S'.perm (by walk_at "zg";dsimp only[aC];walk_at "perm")) S.eok)
end
noncomputable abbrev xL(L:Addr):Env:=envOf "_law_comment" (aD gC) L 213 (.ref 212)
section
variable {w:Wn}{c:Wc}{q:Addr}{m:Wm}
theorem lco_{K:Sink W}{σ:K.σ}{v:Value}{o:Oc}{Q:Value->Ac->Prop}(I:IsC W)(hA:Aok 10 A)(F:Fra A env N)(hcom:c.com=true)(hv:CoV W N v o)(hz:m.held.length<=Au)(hc:(cat m.held).length<=txL)(hr:K.room σ 3)(S:Sta W G env loc (aC W w c K.q m (K.L σ++N)) s)(k:∀ t s',Sta W G env loc (aC W w c K.q m.remS (K.L (K.pushes σ (m.remW (bL o)))++N)) s'->Q (.str (m.remM o) t) s'):Ad W.M A (call (.ref 213) [.ref w.x,v]) Q E s:=by
 refine S.call_fn (binds:=[("writer",.ref w.x),("thing",v)]) ["error"] I.f_l_comment hA.room (λ _ _ _ _ _=>BindsTo.of_eq (by kernel_rfl)) (by kernel_rfl) ?_;intro L s' S';have hA':=hA.deeper (env:=xL L);have F':Fra (A.deeper (xL L)) (xL L) ((env.locals,aI loc)::N):=F.deeper rfl (λ e=>nomatch e);simp only[aT,Ak,AD,Ar,Ax]at S';have hcl:=I.cl;refine aR ?_;refine aF rfl ?_;refine wpAny_Try_except ?_;refine Ay ?_;refine wpAny_Expr_any ?_ (by kernel_rfl) (by kernel_rfl);walk_at "c";refine Sta.getM_inst (f:=133) S' hcl (by walk_at "mem") (by walk_at "mem") VV.keys (by decide +kernel) (by rw[I.k];kernel_rfl) (by rw[I.k];kernel_rfl) ?_;refine eB (by rw[I.k];kernel_rfl) ?_ (by kernel_rfl) (by kernel_rfl);walk_at "c";refine⟨S'.kin,?_⟩
 by_cases hig:m.ig=0
 ·have hS:m.remS=m.rem:=by unfold Wm.remS;rw[if_pos hig]
  have hM:m.remM o=o.msg:=by unfold Wm.remM;rw[if_pos hig]
  refine coX_ (w:=w) (c:=c) (σ:=σ) (N:=(env.locals,aI loc)::N) (o:=o) I (hA'.le (by decide)) F' hcom ?_ hig hz hc hr (S'.perm (by dsimp only[aC];walk_at "perm")) ?_ ?_
  ·cases o with
   | plain=>exact hv.elim
   | text x=>exact hv
   | bad T r=>exact BadV.up hv λ p hp=>.tail _ hp
  ·clear S';intro t s' ht S';have hW:m.remW (bL o)=m.rem0++t::m.rem1:=by unfold Wm.remW;rw[if_pos hig,ht]
   have hM2:o.msg="":=by cases o with
    | bad T r=>cases ht
    | plain=>cases ht
    | text x=>rfl
   rw[hM,hM2,hS,hW]at k;walk_at "c";exact k _ s' (Sta.back (S'.perm (by walk_at "zg";dsimp only[aC];walk_at "perm")) S.eok)
  ·clear S';intro T r e ta tk e1 s' h1 h2;subst h1;have hW:m.remW (bL (.bad T r))=m.rem0:=by unfold Wm.remW;rw[if_pos hig];exact Aj _
   rw[hM,hS,hW]at k;have up:∀ p∈(env.locals,aI loc)::N,p∈(ta,aJ [.str (cF r T) tk])::aC W w c K.q m.rem (K.L (K.pushes σ m.rem0)++((env.locals,aI loc)::N)):=λ p hp=>by
    dsimp only[aC]
    repeat' first | exact Ag _ hp | refine Ag _ ?_ | refine .tail _ ?_
   refine xC h2 (F'.mono up) λ s1 h3=>?_;refine eN h3 λ s2 h4=>?_;obtain⟨tb,fl,S4⟩:=h4;refine wpAny_handleBy_builtin_as (X:="TypeError") (T:="TypeError") (b:=true) kTE kTT (by rw[isSubtype_type];kernel_rfl) ?_;refine Sta.builtin (v:=.type "TypeError") S4 I.b_TypeError (by kernel_rfl) (by kernel_rfl) ?_;refine⟨rfl,Ex.is ⟨tb,fl,S4⟩,?_⟩;rw[if_pos rfl];refine eN ⟨tb,fl,S4⟩ λ s3 h5=>?_;obtain⟨tb2,fl2,S5⟩:=h5;refine S5.store (x:="error") (by walk_at "put") λ s' S'=>?_;clear S5;have hun:=hA.units;refine Ay ?_
   iterate 2 walk_at "cw"
   refine Sta.builtin S' I.b_str aA3 (by kernel_rfl) ?_;walk_at "c";refine wO S' (.head _) (.tail _ (.tail _ (.head _))) (show A.units+3+2<_ by walk_at "o") ?_;walk_at "c";refine pU (env0:=env) (loc0:=loc) (v:=some (.ref e)) (nw:=(e,IXc "TypeError" (.ref ta) (.ref tb2) (.ref e1))::(tb2,IsTb fl2)::(ta,aJ [.str (cF r T) tk])::aC W w c K.q m.rem (K.L (K.pushes σ m.rem0)++N)) (S'.perm ?_) S.eok (by walk_at "mem") λ s5 S5=>?_
   ·walk_at "zg";dsimp only[aC]
    walk_at "perm"
   ·exact k tk s5 (S5.sel (Sel.rest [(e,IXc "TypeError" (.ref ta) (.ref tb2) (.ref e1)),(tb2,IsTb fl2),(ta,aJ [.str (cF r T) tk])] (by dsimp only[aC];walk_at "perm")))
 ·refine coI_ I (hA'.le (by decide)) (.inr hig) (S'.perm (nw':=aC W w c K.q m (K.L σ++((env.locals,aI loc)::N))) (by dsimp only[aC];walk_at "perm")) ?_;clear S';intro s' S';have hS:m.remS=m:=by unfold Wm.remS;rw[if_neg hig]
  have hM:m.remM o="":=by unfold Wm.remM;rw[if_neg hig]
  have hW:m.remW (bL o)=[]:=by unfold Wm.remW;rw[if_neg hig]
  rw[hM,hS,hW]at k;walk_at "c";exact k _ s' (Sta.back (S'.perm (by walk_at "zg";dsimp only[aC];walk_at "perm")) S.eok)
theorem lcoN_{v:Value}{Q:Value->Ac->Prop}(I:IsC W)(hA:Aok 10 A)(hcom:c.com=false)(S:Sta W G env loc (aC W w c q m N) s)(k:∀ t s',Sta W G env loc (aC W w c q m N) s'->Q (.str "" t) s'):Ad W.M A (call (.ref 213) [.ref w.x,v]) Q E s:=by
 refine S.call_fn (binds:=[("writer",.ref w.x),("thing",v)]) ["error"] I.f_l_comment hA.room (λ _ _ _ _ _=>BindsTo.of_eq (by kernel_rfl)) (by kernel_rfl) ?_;intro L s' S';have hA':=hA.deeper (env:=xL L);simp only[aT,Ak,AD,Ar,Ax]at S';have hcl:=I.cl;refine aR ?_;refine aF rfl ?_;refine wpAny_Try_except ?_;refine Ay ?_;refine wpAny_Expr_any ?_ (by kernel_rfl) (by kernel_rfl);walk_at "c";refine Sta.getM_inst (f:=133) S' hcl (by walk_at "mem") (by walk_at "mem") VV.keys (by decide +kernel) (by rw[I.k];kernel_rfl) (by rw[I.k];kernel_rfl) ?_;refine eB (by rw[I.k];kernel_rfl) ?_ (by kernel_rfl) (by kernel_rfl);walk_at "c";refine⟨S'.kin,?_⟩;refine coI_ I (hA'.le (by decide)) (.inl hcom) (S'.perm (nw':=aC W w c q m ((env.locals,aI loc)::N)) (by dsimp only[aC];walk_at "perm")) ?_;clear S';intro s' S';walk_at "c";exact k _ s' (Sta.back (S'.perm (by walk_at "zg";dsimp only[aC];walk_at "perm")) S.eok)
end
section
variable {w:Wn}{c:Wc}{q:Addr}{m:Wm}
theorem aBj{K:Sink W}{σ:K.σ}{d xt:Addr}{T:Str->Bool}{tag:Str}{t:Tok}{l:List (Str×Str×Tok)}{res:List (Str×Str)}{sv:NSt}{p0:List Bool}{pb:Bool}{c?:Option Addr}{Q:Value->Ac->Prop}(I:IsC W)(C:CodeHd W.B 118 116)(hA:Aok 27 A)(het:c.et=.ref xt)(hxt:(xt,bI W T 1)∈N)(hig:m.ig=0)(hT:T tag=false)(hok:StOk c.rw (bF m).opn tag l res sv)(hps:m.ps=p0++[pb])(hpz:m.ps.length<=10000)(hnz:m.nl.length<=10000)(hdz:m.dl.length<=10000)(hz:m.held.length<=Au)(hc:(cat m.held).length<=txL)(hr:K.room σ 4)(S:Sta W G env loc ((d,IsD W d (atV l))::aC W w c K.q m (K.L σ++(bA 116 bE aN c?++N))) s)(k:∀ c' dl pm a s',bF { m with dl:=dl,pm:=pm }=sv->Sta W G env loc ((d,IsD W d (atV l))::aC W w c K.q (m.begun dl pm pb a) (K.L (K.pushes σ (m.fl++bS (dR res tag) (xnR sv.decl++atR res (atQ l))))++(bA 116 bE aN (some c')++N))) s'->Q .none s'):Ad W.M A (call (.ref 113) [.ref w.x,.str tag t,.ref d]) Q E s:=by
 obtain⟨com,rw,et⟩:=c;subst het;refine S.call_fnV wC (binds:=[("self",.ref w.x),("tag",.str tag t),("attrs",.ref d)]) ["new_namespaces"] I.f_start hA (λ _ _ _ _ _=>BindsTo.of_eq (by kernel_rfl)) (by kernel_rfl) ?_;intro L A' s' hA' S';simp only[aT,Ak,AD,Ar,Ax]at S';have hcl:=I.cl;have e0:((m.ig:Int) != 0)=false:=by rw[hig];rfl
 refine aR ?_;refine aF rfl ?_;refine wpAny_If ?_;walk_at "c";rw[e0];walk_at "c";have hx2:(xt,bI W T 1)∈(env.locals,aI loc)::(d,IsD W d (atV l))::aC W w ⟨com,rw,.ref xt⟩ K.q m (K.L σ++(bA 116 bE aN c?++N)):=by
  dsimp only[aC]
  repeat' first | exact Ag _ hxt | refine Ag _ ?_ | refine .tail _ ?_
 refine Sta.inSet S' hx2 (by decide) ?_;clear S';intro s' S';rw[hT]
 iterate 5 walk_at "cw"
 refine AI ?_;have S2:=S'.perm (nw':=(d,IsD W d (atV l))::aC W w ⟨com,rw,.ref xt⟩ K.q m (K.L σ++(bA 116 bE aN c?++((env.locals,aI loc)::N)))) (by walk_at "zg";dsimp only[aC];walk_at "perm");refine aBk I C (hA'.le (by first | decide | walk_at "o")) hok hps hpz hnz hdz hz hc hr S2 ?_;intro c' dl pm a loc' s3 hsv S3;walk_at "ke";exact k c' dl pm a s3 hsv (Sta.back (S3.perm (by simp only[aC];walk_at "perm")) S.eok)
theorem aBm{q d xt:Addr}{T:Str->Bool}{tag:Str}{t:Tok}{Q:Value->Ac->Prop}(I:IsC W)(hA:Aok 3 A)(het:c.et=.ref xt)(hxt:(xt,bI W T 1)∈N)(hT:m.ig≠0\/T tag=true)(S:Sta W G env loc (aC W w c q m N) s)(k:∀ ti s',Sta W G env loc (aC W w c q { m with ig:=m.ig+1,ti:=ti } N) s'->Q .none s'):Ad W.M A (call (.ref 113) [.ref w.x,.str tag t,.ref d]) Q E s:=by
 obtain⟨com,rw,et⟩:=c;have het:et=.ref xt:=het;subst het;refine S.call_fnV wC (binds:=[("self",.ref w.x),("tag",.str tag t),("attrs",.ref d)]) ["new_namespaces"] I.f_start hA (λ _ _ _ _ _=>BindsTo.of_eq (by kernel_rfl)) (by kernel_rfl) ?_;intro L A' s' hA' S';simp only[aT,Ak,AD,Ar,Ax]at S';have hcl:=I.cl;have ei:((m.ig:Int)+1)=((m.ig+1:Nat):Int):=by walk_at "o"
 have hx2:(xt,bI W T 1)∈(env.locals,aI loc)::aC W w ⟨com,rw,.ref xt⟩ q m N:=by
  dsimp only[aC]
  repeat' first | exact Ag _ hxt | refine Ag _ ?_ | refine .tail _ ?_
 refine aR ?_;refine aF rfl ?_;refine wpAny_If ?_;walk_at "c"
 by_cases hi:m.ig=0
 ·have e0:((m.ig:Int) != 0)=false:=by rw[hi];rfl
  rw[e0];walk_at "c";refine Sta.inSet S' hx2 (by decide) ?_;clear S';intro s' S';rw[hT.resolve_left (λ h=>h hi)];walk_at "c";walk_at "zd";rw[ei]at S';exact k _ s' (Sta.back (S'.perm (by dsimp only[aC];walk_at "perm")) S.eok)
 ·have e0:((m.ig:Int) != 0)=true:=bne_iff_ne.mpr (by walk_at "o");rw[e0];walk_at "c";walk_at "zd";rw[ei]at S';exact k _ s' (Sta.back (S'.perm (by dsimp only[aC];walk_at "perm")) S.eok)
theorem endI_{tag:Str}{t:Tok}{Q:Value->Ac->Prop}(I:IsC W)(hA:Aok 3 A)(hig:m.ig≠0)(S:Sta W G env loc (aC W w c q m N) s)(k:∀ ti s',Sta W G env loc (aC W w c q { m with ig:=m.ig-1,ti:=ti } N) s'->Q .none s'):Ad W.M A (call (.ref 126) [.ref w.x,.str tag t]) Q E s:=by
 refine S.call_fn (binds:=[("self",.ref w.x),("tag",.str tag t)]) [] I.f_end hA.room (λ _ _ _ _ _=>BindsTo.of_eq (by kernel_rfl)) (by kernel_rfl) ?_;intro L s' S';simp only[aT,Ak,AD,Ar,Ax]at S';have hcl:=I.cl;have e0:((m.ig:Int) != 0)=true:=bne_iff_ne.mpr (by walk_at "o");have ei:((m.ig:Int)-1)=((m.ig-1:Nat):Int):=by walk_at "o"
 refine aR ?_;walk_at "c";rw[e0];walk_at "c";walk_at "zd";rw[ei]at S';exact k _ s' (Sta.back (S'.perm (by dsimp only[aC];walk_at "perm")) S.eok)
theorem nsI_{p u:Str}{t1 t2:Tok}{Q:Value->Ac->Prop}(I:IsC W)(hA:Aok 3 A)(hig:m.ig≠0)(S:Sta W G env loc (aC W w c q m N) s)(k:∀ s',Sta W G env loc (aC W w c q m N) s'->Q .none s'):Ad W.M A (call (.ref 106) [.ref w.x,.str p t1,.str u t2]) Q E s:=by
 refine S.call_fn (binds:=[("self",.ref w.x),("prefix",.str p t1),("uri",.str u t2)]) [] I.f_startNs hA.room (λ _ _ _ _ _=>BindsTo.of_eq (by kernel_rfl)) (by kernel_rfl) ?_;intro L s' S';simp only[aT,Ak,AD,Ar,Ax]at S';have hcl:=I.cl;have e0:((m.ig:Int) != 0)=true:=bne_iff_ne.mpr (by walk_at "o");refine aR ?_;walk_at "c";rw[e0];walk_at "c";exact k s' (Sta.back S' S.eok)
end
noncomputable abbrev kI:Str:="http://www.w3.org/XML/1998/namespace"
noncomputable def dI(rw:Bool):NSt:=⟨[[(kI,"xml")]],if rw=true then[[]]else[nmapV,[]],[]⟩
structure IFr (m:Wm) (rw:Bool):Prop where
 held:m.held=[]
 ns:bF m=dI rw
 ps:m.ps=[false]
 rs:m.rs=false
 rd:m.rd=false
 ig:m.ig=0
noncomputable abbrev aBY(L:Addr):Env:=envOf "C14NWriterTarget.__init__" (aD mG) L 60 (.ref 59)
theorem gK{α:Type}{l:List α}{x:α}(i:Nat)(h:l[i]?=some x):l[i]?=some x:=h
theorem eJ{a:Addr}{c c':Cell}:∀{l:Lg} (i:Nat),l[i]?=some (a,c)->Upd a c c' l (l.set i (a,c'))
 | [],_,h=>nomatch h
 | _::_,0,h=>by cases h;exact .head
 | _::_,i+1,h=>.tail (eJ i h)
theorem aCu{x:Str}{o v:Option Value}:∀{l:Loc} (i:Nat),l[i]?=some (x,o)->Put x v l (l.set i (x,v))
 | [],_,h=>nomatch h
 | _::_,0,h=>by cases h;exact .head
 | _::_,i+1,h=>.tail (aCu i h)
section
variable {W:Wd}{G:Gens}{env:Env}{loc:Loc}{nw:Lg}{s:Ac}{A:AJ}{E:Value->Ac->Prop}{i j:Nat}{vals:Loc}{v:Value}{o:Option Value}{names:List Str}{C a d:Addr}{x y attr:Str}{l:List Stmt}{n:Nat}{xp yp p' pos:Pos}{Q:Flow->Ac->Prop}
theorem Sta.setattrAt{Q:Unit->Ac->Prop}(S:Sta W G env loc nw s)(c:Cl W.K C names)(mx:(a,bG C d)∈nw)(hi:nw[i]?=some (d,aS vals))(hk:vals.map Prod.fst=names)(hj:vals[j]?=some (attr,o))(hz:names.length<=1000)(h:∀ s',let V:=vals.set j (attr,some v);let M:=nw.set i (d,aS V);Sta W G env loc M s'->Q () s'):Ad W.M A (setAttr (.ref a) attr v) Q E s:=S.setattr c mx (eJ i hi) hk (aCu j hj) hz h
theorem aDg(S:Sta W G env loc nw s)(hl:l[n]?=some (.Assign [.Attribute (.Name x xp) attr p'] (.Name y yp) pos))(hy:(y,some v)∈loc)(hx:(x,some (.ref a))∈loc)(c:Cl W.K C names)(mx:(a,bG C d)∈nw)(hi:nw[i]?=some (d,aS vals))(hk:vals.map Prod.fst=names)(hj:vals[j]?=some (attr,o))(hz:names.length<=1000)(h:∀ s',let V:=vals.set j (attr,some v);let M:=nw.set i (d,aS V);Sta W G env loc M s'->Ad W.M A (execs (l.drop (n+1)) env) Q E s'):Ad W.M A (execs (l.drop n) env) Q E s:=
 aF hl (fF (S.local_ hy (S.local_ hx (S.setattrAt c mx hi hk hj hz h))) rfl)
theorem aDf{k:Nat}(S:Sta W G env loc nw s)(hl:l[n]?=some (.Assign [.Attribute (.Name x xp) attr p'] (.Constant .none k yp) pos))(hx:(x,some (.ref a))∈loc)(c:Cl W.K C names)(mx:(a,bG C d)∈nw)(hi:nw[i]?=some (d,aS vals))(hk:vals.map Prod.fst=names)(hj:vals[j]?=some (attr,o))(hz:names.length<=1000)(h:∀ s',let V:=vals.set j (attr,some .none);let M:=nw.set i (d,aS V);Sta W G env loc M s'->Ad W.M A (execs (l.drop (n+1)) env) Q E s'):Ad W.M A (execs (l.drop n) env) Q E s:=
 aF hl (fF (wpAny_Constant_none (S.local_ hx (S.setattrAt c mx hi hk hj hz h))) rfl)
theorem aDh{k:Nat}{b:Bool}(S:Sta W G env loc nw s)(hl:l[n]?=some (.Assign [.Attribute (.Name x xp) attr p'] (.Constant (.bool b) k yp) pos))(hx:(x,some (.ref a))∈loc)(c:Cl W.K C names)(mx:(a,bG C d)∈nw)(hi:nw[i]?=some (d,aS vals))(hk:vals.map Prod.fst=names)(hj:vals[j]?=some (attr,o))(hz:names.length<=1000)(h:∀ s',let V:=vals.set j (attr,some (.bool b));let M:=nw.set i (d,aS V);Sta W G env loc M s'->Ad W.M A (execs (l.drop (n+1)) env) Q E s'):Ad W.M A (execs (l.drop n) env) Q E s:=
 aF hl (fF (wpAny_Constant_bool (S.local_ hx (S.setattrAt c mx hi hk hj hz h))) rfl)
end
section
local macro_rules | `(tactic| walk_at $s:str) => Mine.goAt "\nperm\t( ( 'first ( ( '| ( 'dsimp ( ( ( ( '( config ':= ( '{ ( )null ( ( ( ( zetaDelta ( )null )T:structInstLVal ( ( )null ( )null ( ':= ( )null true )T:structInstFieldDef )null )T:structInstField )null )T:structInstFields ( ( )null )T:optEllipsis ( )null '} )T:structInst ') )t:valConfigItem )t:configItem )null )t:optConfig ( )null ( 'only )null ( '[ ( ( ( )null ( )null List.set_cons_zero )t:simpLemma ', ( ( )null ( )null List.set_cons_succ )t:simpLemma )null '] )null ( )null )t:dsimp )group ( '| ( )null )group )null )t:first ( 'first ( ( '| =pm )group ( '| =perm0 )group )null )t:first )null\nzd\t( 'first ( ( '| ( 'dsimp ( ( ( ( '( config ':= ( '{ ( )null ( ( ( ( zetaDelta ( )null )T:structInstLVal ( ( )null ( )null ( ':= ( )null true )T:structInstFieldDef )null )T:structInstField )null )T:structInstFields ( ( )null )T:optEllipsis ( )null '} )T:structInst ') )t:valConfigItem )t:configItem )null )t:optConfig ( )null ( 'only )null ( '[ ( ( ( )null ( )null List.set_cons_zero )t:simpLemma ', ( ( )null ( )null List.set_cons_succ )t:simpLemma )null '] )null ( ( 'at ( ( S' )null )t:locationHyp )t:location )null )t:dsimp )group ( '| ( )null )group )null )t:first\nzg\t( 'first ( ( '| ( 'dsimp ( ( ( ( '( config ':= ( '{ ( )null ( ( ( ( zetaDelta ( )null )T:structInstLVal ( ( )null ( )null ( ':= ( )null true )T:structInstFieldDef )null )T:structInstField )null )T:structInstFields ( ( )null )T:optEllipsis ( )null '} )T:structInst ') )t:valConfigItem )t:configItem )null )t:optConfig ( )null ( 'only )null ( '[ ( ( ( )null ( )null List.set_cons_zero )t:simpLemma ', ( ( )null ( )null List.set_cons_succ )t:simpLemma )null '] )null ( )null )t:dsimp )group ( '| ( )null )group )null )t:first\nmem\t( 'exact ( Ap ( '( i ':= ( '0 )num ') )T:namedArgument rfl )$ )t:exact; ( 'exact ( Ap ( '( i ':= ( '1 )num ') )T:namedArgument rfl )$ )t:exact; ( 'exact ( Ap ( '( i ':= ( '2 )num ') )T:namedArgument rfl )$ )t:exact; ( 'exact ( Ap ( '( i ':= ( '3 )num ') )T:namedArgument rfl )$ )t:exact; ( 'exact ( Ap ( '( i ':= ( '4 )num ') )T:namedArgument rfl )$ )t:exact; ( 'exact ( Ap ( '( i ':= ( '5 )num ') )T:namedArgument rfl )$ )t:exact; ( 'exact ( Ap ( '( i ':= ( '6 )num ') )T:namedArgument rfl )$ )t:exact; ( 'exact ( Ap ( '( i ':= ( '7 )num ') )T:namedArgument rfl )$ )t:exact; ( 'exact ( Ap ( '( i ':= ( '8 )num ') )T:namedArgument rfl )$ )t:exact; ( 'exact ( Ap ( '( i ':= ( '9 )num ') )T:namedArgument rfl )$ )t:exact; ( 'exact ( Ap ( '( i ':= ( '10 )num ') )T:namedArgument rfl )$ )t:exact; ( 'exact ( Ap ( '( i ':= ( '11 )num ') )T:namedArgument rfl )$ )t:exact; ( 'exact ( Ap ( '( i ':= ( '12 )num ') )T:namedArgument rfl )$ )t:exact; ( 'exact ( Ap ( '( i ':= ( '13 )num ') )T:namedArgument rfl )$ )t:exact\nupd\t( 'exact ( eJ ( '0 )num rfl )$ )t:exact; ( 'exact ( eJ ( '1 )num rfl )$ )t:exact; ( 'exact ( eJ ( '2 )num rfl )$ )t:exact; ( 'exact ( eJ ( '3 )num rfl )$ )t:exact; ( 'exact ( eJ ( '4 )num rfl )$ )t:exact; ( 'exact ( eJ ( '5 )num rfl )$ )t:exact; ( 'exact ( eJ ( '6 )num rfl )$ )t:exact; ( 'exact ( eJ ( '7 )num rfl )$ )t:exact; ( 'exact ( eJ ( '8 )num rfl )$ )t:exact; ( 'exact ( eJ ( '9 )num rfl )$ )t:exact; ( 'exact ( eJ ( '10 )num rfl )$ )t:exact; ( 'exact ( eJ ( '11 )num rfl )$ )t:exact; ( 'exact ( eJ ( '12 )num rfl )$ )t:exact; ( 'exact ( eJ ( '13 )num rfl )$ )t:exact\nix\t( 'exact ( gK ( '0 )num rfl )$ )t:exact; ( 'exact ( gK ( '1 )num rfl )$ )t:exact; ( 'exact ( gK ( '2 )num rfl )$ )t:exact; ( 'exact ( gK ( '3 )num rfl )$ )t:exact; ( 'exact ( gK ( '4 )num rfl )$ )t:exact; ( 'exact ( gK ( '5 )num rfl )$ )t:exact; ( 'exact ( gK ( '6 )num rfl )$ )t:exact; ( 'exact ( gK ( '7 )num rfl )$ )t:exact; ( 'exact ( gK ( '8 )num rfl )$ )t:exact; ( 'exact ( gK ( '9 )num rfl )$ )t:exact; ( 'exact ( gK ( '10 )num rfl )$ )t:exact; ( 'exact ( gK ( '11 )num rfl )$ )t:exact; ( 'exact ( gK ( '12 )num rfl )$ )t:exact; ( 'exact ( gK ( '13 )num rfl )$ )t:exact; ( 'exact ( gK ( '14 )num rfl )$ )t:exact; ( 'exact ( gK ( '15 )num rfl )$ )t:exact; ( 'exact ( gK ( '16 )num rfl )$ )t:exact; ( 'exact ( gK ( '17 )num rfl )$ )t:exact\nnV\t( ( 'clear ( S' )null )t:clear ( 'intro ( s' Vq Mq S' )null )t:intro )null\nsv\t^aDg S' /rfl /mem /mem hcl /mem /ix /rfl /ix /dec _& =nV; ^aDf S' /rfl /mem hcl /mem /ix /rfl /ix /dec _& =nV; ^aDh S' /rfl /mem hcl /mem /ix /rfl /ix /dec _& =nV; <Sta.dictD0 S' _% =na; ^Sta.setattrAt S' hcl /mem /ix /rfl /ix /dec _& =nV; ^Sta.getattr S' hcl /mem /mem /rfl /mem /rfl _& =ns; ^Sta.builtin S' I.b_list aCi /kr _ /deck /deck&; ^Sta.global S' I.g_map /kr _ /deck&; <Sta.getM_dict S' hmap F.slot_dict_items F.type_dict_items _%; ^Sta.items S' hmap /deck _& =na; =cw\n" s
variable {w:Wn}{c:Wc}{q:Addr}{m:Wm}
theorem mkWn{x dx d dns ns pm ps a0 tp q:Addr}{tu tx ti:Tok}{nl:List Lv}{com rw:Bool}{et:Value}(S:Sta W G env loc ((x,bG 143 dx)::(dx,aS (VV (.ref q) (.ref d) (.bool com) (.bool false) .none et (.bool rw) .none .none (.ref dns) (.ref ns) (.ref pm) (.ref ps) .none (.bool false) (.bool false) (.int 0 ti)))::(d,aA [])::(dns,aA [.ref a0])::(ns,aA (aK nl))::(pm,IsD W pm [])::(ps,aA [.bool false])::(a0,aA [.ref tp])::(tp,aJ [.str kI tu,.str "xml" tx])::(aW nl++N)) s):Sta W G env loc (aC W ⟨x,dx,d,dns,ns,pm,ps⟩ ⟨com,rw,et⟩ q ⟨[],[⟨a0,[(tp,kI,"xml")]⟩],nl,[],[false],false,false,0,ti⟩ N) s:=by
 have S1:=S.tell (a:=d) (c':=aB []) (.tail (.tail .head)) λ o _ ho=>⟨_,.nil,ho⟩
 have S2:=S1.tell (a:=tp) (c':=dZ (kI,"xml")) (.tail (.tail (.tail (.tail (.tail (.tail (.tail (.tail .head)))))))) λ o _ ho=>⟨_,_,ho⟩
 refine S2.perm ?_;exact .refl _
theorem mkWnE{p:Addr×Cell}{x dx d dns ns pm ps a0 tp q e:Addr}{tu tx ti:Tok}{nl:List Lv}{com rw:Bool}{et:Value}(S:Sta W G env loc ((ps,aA [.bool false])::(pm,IsD W pm [])::(e,aA [])::(ns,aA (aK nl++[.ref e]))::(dns,aA [.ref a0])::(a0,aA [.ref tp])::(tp,aJ [.str kI tu,.str "xml" tx])::(d,aA [])::p::(x,bG 143 dx)::(dx,aS (VV (.ref q) (.ref d) (.bool com) (.bool false) .none et (.bool rw) .none .none (.ref dns) (.ref ns) (.ref pm) (.ref ps) .none (.bool false) (.bool false) (.int 0 ti)))::(aW nl++N)) s):Sta W G env loc (aC W ⟨x,dx,d,dns,ns,pm,ps⟩ ⟨com,rw,et⟩ q ⟨[],[⟨a0,[(tp,kI,"xml")]⟩],nl++[⟨e,[]⟩],[],[false],false,false,0,ti⟩ (p::N)) s:=by
 refine mkWn (nl:=nl++[⟨e,[]⟩]) (tu:=tu) (tx:=tx) (S.perm ?_);have h:aK (nl++[⟨e,[]⟩])=aK nl++[.ref e]:=Ao;rw[h,bW];show List.Perm _ ((x,bG 143 dx)::(dx,aS _)::(d,aA [])::(dns,aA [.ref a0])::(ns,aA (aK nl++[.ref e]))::(pm,IsD W pm [])::(ps,aA [.bool false])::(a0,aA [.ref tp])::(tp,aJ [.str kI tu,.str "xml" tx])::((aW nl++((e,aA [])::[]))++(p::N)));walk_at "perm"
theorem toEnd{li vw ns:Addr}{X:Cell}{lps:List (Addr×NsP)}{e1 e2 e3 e4 e5 e6 e7:Addr×Cell}(S:Sta W G env loc ((li,aA (aG lps))::(vw,X)::(ns,aA ([]++[.ref li]))::e1::e2::e3::e4::e5::e6::e7::(N++aL lps)) s):Sta W G env loc ((ns,aA (aK [⟨li,lps⟩]))::e1::e2::e3::e4::e5::e6::e7::(aW [⟨li,lps⟩]++N)) s:=by
 refine S.sel (Sel.rest [(vw,X)] ?_);show List.Perm _ (((ns,aA ([]++[.ref li]))::e1::e2::e3::e4::e5::e6::e7::(((li,aA (aG lps))::(aL lps++[]))++N))++[(vw,X)]);walk_at "perm"
theorem offP{p:Addr×Cell}{c:Wc}{m:Wm}(S:Sta W G env loc (aC W w c q m (p::N)) s):Sta W G env loc (p::aC W w c q m N) s:=by
 refine S.perm ?_;walk_at "perm"
noncomputable abbrev halfV(q d dns ns xt:Addr)(com rw:Bool):Loc:=[("_write",some (.ref q)),("_data",some (.ref d)),("_with_comments",some (.bool com)),("_strip_text",some (.bool false)),("_exclude_attrs",some .none),("_exclude_tags",some (.ref xt)),("_rewrite_prefixes",some (.bool rw)),("_qname_aware_tags",some .none),("_find_qname_aware_attrs",some .none),("_declared_ns_stack",some (.ref dns)),("_ns_stack",some (.ref ns)),("_prefix_map",none),("_preserve_space",none),("_pending_start",none),("_root_seen",none),("_root_done",none),("_ignored_depth",none)]
noncomputable abbrev locI(x q xl:Addr)(com rw:Bool):Loc:=[("self",some (.ref x)),("write",some (.ref q)),("with_comments",some (.bool com)),("strip_text",some (.bool false)),("rewrite_prefixes",some (.bool rw)),("qname_aware_tags",some .none),("qname_aware_attrs",some .none),("exclude_attrs",some .none),("exclude_tags",some (.ref xl))]
theorem tM{p:Addr×Cell}{x dx q d dns a0 tp ns L xt xl:Addr}{tu tx:Tok}{nl:List Lv}{com rw:Bool}{Q:Flow->Ac->Prop}(I:IsC W)(hn:nl.length<=1)(S':Sta W G (aBY L) (locI x q xl com rw) ((ns,aA (aK nl))::(dns,aA [.ref a0])::(a0,aA [.ref tp])::(tp,aJ [.str kI tu,.str "xml" tx])::(d,aA [])::p::(x,bG 143 dx)::(dx,aS (halfV q d dns ns xt com rw))::(aW nl++N)) s)(k:∀ e pm ps ti s',Sta W G (aBY L) (locI x q xl com rw) (aC W ⟨x,dx,d,dns,ns,pm,ps⟩ ⟨com,rw,.ref xt⟩ q ⟨[],[⟨a0,[(tp,kI,"xml")]⟩],nl++[⟨e,[]⟩],[],[false],false,false,0,ti⟩ (p::N)) s'->Q .next s'):Ad W.M A (execs ((aH mG).drop 12) (aBY L)) Q E s:=by
 have hcl:=I.cl;have hz:(aK nl).length<16777216:=by rw[show(aK nl).length=nl.length from Al ..];walk_at "o"
 repeat walk_at "sv"
 exact k _ _ _ _ _ (mkWnE S')
theorem tP{a0 tp:Addr}{nl:List Lv}{ti:Tok}{rw:Bool}(h:nl.map Lv.val=(dI rw).nss):IFr ⟨[],[⟨a0,[(tp,kI,"xml")]⟩],nl,[],[false],false,false,0,ti⟩ rw:=by
 refine⟨rfl,?_,rfl,rfl,rfl,rfl⟩;unfold bF;rw[h]
 rfl
theorem aDa{e1 e2 e3 e4:Addr×Cell}{l:Addr}{vs:List Value}{ss:List Str}{Q:Value->Ac->Prop}(S:Sta W G env loc (e1::e2::e3::e4::(l,aA vs)::N) s)(hA:Aok 14 A)(ht:TxA vs ss)(hb:ss.length+1<Bu)(h:∀ a s',Sta W G env loc (e1::e2::e3::e4::(a,bI W (yH (λ _=>false) ss) (zU (λ _=>false) 0 ss))::N) s'->Q (.ref a) s'):Ad W.M A (call (.type "set") [.ref l]) Q E s:=
 Sta.setOfList (S.perm (nw':=(l,aA vs)::e1::e2::e3::e4::N) (by walk_at "perm")) hA ht hb λ a s' S'=>h a s' (S'.sel (Sel.rest [(l,aA vs)] (by walk_at "perm")))
noncomputable def Tx:Str->Bool:=yH (λ _=>false) ["x"]
theorem aDR{x dx q xl:Addr}{com rw:Bool}{vs:List Value}{R:Result->Ac->Prop}(I:IsC W)(S:Sta W G env loc ((x,bG 143 dx)::(dx,aS (sfN.map λ k=>(k,none)))::(xl,aA vs)::N) s)(ht:TxA vs ["x"])(hA:Aok 16 A)(h:∀ w xt m s',w.x=x->IFr m rw->Sta W G env loc (aC W w ⟨com,rw,.ref xt⟩ q m ((xt,bI W Tx 1)::N)) s'->R (.ok (.ret .none)) s'):codeAny W.M A (.call (.ref 60) ⟨[.ref x,.ref q],[("with_comments",.bool com),("rewrite_prefixes",.bool rw),("exclude_tags",.ref xl)]⟩) R s:=by
 refine S.code_fn (binds:=[("self",.ref x),("write",.ref q),("with_comments",.bool com),("strip_text",.bool false),("rewrite_prefixes",.bool rw),("qname_aware_tags",.none),("qname_aware_attrs",.none),("exclude_attrs",.none),("exclude_tags",.ref xl)]) [] I.f_init hA.room ?_ (by kernel_rfl) ?_
 ·intro name doc pm ct an;exact kp_binds S.kin λ S=>by rw[I.k];kernel_rfl
 intro L s' S';have hA':=hA.deeper (env:=aBY L);walk_at "zd";have hcl:=I.cl;have hmap:=I.mapAt S.ok;have hvl:vs.length<=Au:=by rw[ht.length,Av];simp
 have hve:(!vs.isEmpty)=true:=by cases ht with
  | cons a r=>rfl
 refine Ay ?_
 repeat walk_at "sv"
 rw[hve]
 repeat walk_at "sv"
 refine Sta.builtin S' I.b_set wJ (by kernel_rfl) ?_
 repeat walk_at "sv"
 refine aDa S' (hA'.le (by first | decide | walk_at "o")) ht (by decide) ?_;clear S';intro xt s' S';replace S':Sta W _ _ _ (_::_::_::_::(xt,bI W Tx 1)::_) s':=S'
 repeat walk_at "sv"
 cases rw with
 | true=>
  refine dG ?_;walk_at "kn";exact tM (nl:=[]) (N:=(xt,bI W Tx 1)::N) I (AB _) S' λ e pm ps ti s' S2=>h _ xt _ s' rfl (tP rfl) (Sta.back (offP S2) S.eok)
 | false=>
  repeat walk_at "sv"
  refine Sta.listItemsT S' hA'.handled hmap (by walk_at "mem") (by show 7<=1000;decide) ?_;clear S';intro li lps s' hlv S';simp only[Ar]at S'
  iterate 3 walk_at "sv"
  walk_at "kn";refine tM (nl:=[⟨li,lps⟩]) (N:=(xt,bI W Tx 1)::N) I (AG _) (toEnd S') ?_;intro e pm ps ti s' S2;refine h _ xt _ s' rfl (tP ?_) (Sta.back (offP S2) S.eok);show[lps.map (·.2),[]]=_;rw[hlv]
  rfl
theorem aDE{xl q:Addr}{com rw:Bool}{vs:List Value}{Q:Value->Ac->Prop}(I:IsC W)(S:Sta W G env loc ((xl,aA vs)::N) s)(ht:TxA vs ["x"])(hA:Aok 17 A)(h:∀ w xt m s',IFr m rw->Sta W G env loc (aC W w ⟨com,rw,.ref xt⟩ q m ((xt,bI W Tx 1)::N)) s'->Q (.ref w.x) s'):Ad W.M A (call (.ref 143) [.ref q] [("with_comments",.bool com),("rewrite_prefixes",.bool rw),("exclude_tags",.ref xl)]) Q E s:=by
 refine Sta.make (fI:=60) sfN S (by decide +kernel) (by rw[I.k];kernel_rfl) (by rw[I.k];kernel_rfl) (by rw[I.k];kernel_rfl) ?_;intro x dx s' S';refine aDR I S' ht (aA6 hA) ?_;intro w xt m s' hw hm S2;subst hw;exact⟨rfl,h w xt m _ hm S2⟩
end
section
local macro_rules | `(tactic| walk_at $s:str) => Mine.goAt Mine.tabD s
noncomputable def iI(t0 t1 t2 t3:Tok):List (Str×Value):=[("&",.str "&amp;" t0),("<",.str "&lt;" t1),(">",.str "&gt;" t2),("\r",.str "&#xD;" t3)]
noncomputable def sp1(c:Nat):Str:=⟨(fC c).toArray⟩
theorem rC{c d:Nat}{x:Str}(hx:x=⟨#[d]⟩)(h:c≠d):(⟨#[c]⟩:Str)≠x:=by
 rintro rfl
 have:=congrArg (λ y:Str=>y.cps.toList) hx;simp at this;exact h this
theorem aC9{t0 t1 t2 t3 ts:Tok}{c:Nat}:∃ t,(valueAt (iI t0 t1 t2 t3) ⟨#[c]⟩).getD (.str ⟨#[c]⟩ ts)=.str (sp1 c) t:=by
 by_cases h0:c=38
 ·subst h0;exact⟨t0,by kernel_rfl⟩
 by_cases h1:c=60
 ·subst h1;exact⟨t1,by kernel_rfl⟩
 by_cases h2:c=62
 ·subst h2;exact⟨t2,by kernel_rfl⟩
 by_cases h3:c=13
 ·subst h3;exact⟨t3,by kernel_rfl⟩
 have hn:valueAt (iI t0 t1 t2 t3) ⟨#[c]⟩=none:=by
  refine jF ?_;simp only[iI,Ak,AD,At,BG,or_false,not_or]
  exact⟨rC (d:=38) (by kernel_rfl) h0,rC (d:=60) (by kernel_rfl) h1,rC (d:=62) (by kernel_rfl) h2,rC (d:=13) (by kernel_rfl) h3⟩
 refine⟨ts,?_⟩;rw[hn];unfold sp1 fC;rw[if_neg h0,if_neg h1,if_neg h2,if_neg h3]
 rfl
theorem sg_nd(t0 t1 t2 t3:Tok):((iI t0 t1 t2 t3).map (·.1)).Nodup:=by
 show(["&","<",">","\r"]:List Str).Nodup
 decide +kernel
theorem aB4:∀ cs:List Nat,(cat (cs.map sp1)).cps.toList=cs.flatMap fC:=by
 intro l0
 induction l0 with
 | nil=>
  exact rfl
 | cons c r ih=>
  show(sp1 c++cat (r.map sp1)).cps.toList=_;rw[Str.cps_append,Array.toList_append,ih]
  rfl
theorem aAY(x:Str):cat (x.cps.toList.map sp1)=dC x:=Str.ext' (aB4 _)
noncomputable def aBt:Stmt->Expr
 | .Return (some (.Call _ [c] _ _)) _=>c
 | _=>.Name "" default
noncomputable abbrev qE(L:Addr):Env:=envOfC "_law_spelled" (aD cV) L 166 (.ref 165)
theorem Sta.dictGetD{d:Addr}{kvs:List (Str×Value)}{x:Str}{t:Tok}{v:Value}{Q:Value->Ac->Prop}(S:Sta W G env loc nw s)(m:(d,IsD W d kvs)∈nw)(h:∀ s',Sta W G env loc nw s'->Q ((valueAt kvs x).getD v) s'):Ad W.M A (call (.builtin "dict.get") [.ref d,.str x t,v]) Q E s:=by
 obtain⟨hd,hn⟩:=S.dictAt m;exact call_meetsIn F.slot_dict_get hd.typeIs F.entry_dict_get (F.args_dict_get_3 _ _ _) (meets_dict_get_default (PySem.strKind W.prog W.w) d (strKind_is _ _ x t) hn v) ⟨_,hd.mapOf,h _ (S.toks _)⟩
theorem sp_{L c1 d:Addr}{x:Str}{t u0 u1 u2 u3:Tok}{Q:Value->Ac->Prop}(I:IsC W)(hA:Aok 12 A)(hx:x.length<=1000000)(h1:ClO (qE L) .cell "table" c1)(mx:(("text":Str),some (Value.str x t))∈loc)(S':Sta W G (qE L) loc ((d,IsD W d (iI u0 u1 u2 u3))::(c1,aE (some (.ref d)))::N) s)(k:∀ b s',Sta W G (qE L) loc ((b,aB (x.cps.toList.map sp1))::(d,IsD W d (iI u0 u1 u2 u3))::(c1,aE (some (.ref d)))::N) s'->Q (.ref b) s')(e:Expr)(he:e=aBt ((aH cV).getD 1 (.Pass default))):Ad W.M A (eval e (qE L)) Q E s:=by
 subst he;refine gP (cl:=[("table",c1)]) ["sign"] (lQ (by kernel_rfl) h1) (by kernel_rfl) rfl rfl ?_ (by intro _;kernel_rfl);refine S'.local_ mx ?_;refine S'.iterStr ?_;clear S';intro it ty s' hty S';refine CompK.mk S' ?_;intro b Cc s1 eok S1;refine dX rfl rfl (zW hty) (S1.get (.tail _ (.tail _ (.head _)))) ?_;generalize hfr:((qE L).locals,aI loc)=fr at S1;have S2:=(S1.tell (c':=aB []) .head λ o _ ho=>⟨_,.nil,ho⟩).perm (nw':=((b,aB [])::fr::(d,IsD W d (iI u0 u1 u2 u3))::(c1,aE (some (.ref d)))::N)++([]++[(it,dD ty x t 0)])) (by walk_at "perm");clear S' S1;refine rU (sh:=[]) (f:=λ(c:Nat) t=>.str ⟨#[c]⟩ t) (hA.le (by decide)) (G:=G) (og:=[]) (own:=[(it,dD ty x t 0)]) (λ(vk:Option Value) _=>[("sign",vk)]) (λ _ dn=>(b,aB (dn.map sp1))::fr::(d,IsD W d (iI u0 u1 u2 u3))::(c1,aE (some (.ref d)))::N) (λ _ _=>True) (compTurn_list1 ..) (uG hty _ 0 rfl) none trivial (by rw[Aj];exact S2) ?_ ?_
 rotate_left
 ·intro c dn rest t1 tl tg vk s1 K hq _ S1 kk;have hdl:(dn.map sp1).length<=Au:=by
   have h2:=congrArg AV hq;rw[List.drop_zero,←Str.len_list,Ae]at h2;rw[Al,Av];walk_at "o"
  refine wpAny_assign_Name (S1.store (by walk_at "put") λ s' S'=>?_);clear S1 S2;simp only[Ar]at S';refine Aa ?_;refine jD ?_ (by kernel_rfl) (by kernel_rfl) (by kernel_rfl);refine Sta.cell S' ⟨by kernel_rfl,rfl,by decide +kernel,by decide +kernel⟩ (c:=c1) (by walk_at "mem") ?_;refine Sta.getM_D S' (by walk_at "mem") F.slot_dict_get F.type_dict_get ?_;refine cT ?_ (by kernel_rfl) (by kernel_rfl);walk_at "c";refine Sta.dictGetD S' (by walk_at "mem") ?_;clear S';intro s' S';obtain⟨t2,hg⟩:=aC9 (t0:=u0) (t1:=u1) (t2:=u2) (t3:=u3) (ts:=t1) (c:=c);rw[hg];refine Aa (Sta.appendT S' (by walk_at "upd") hdl λ s' S'=>Af ?_);refine kk _ s' trivial (S'.perm ?_);rw[Ao];exact List.Perm.refl _
 ·intro vk s1 _ S1;rw[Aj]at S1;subst hfr;exact CompEnd.mk (S1.perm (List.Perm.swap ..)) λ s3 S3=>k b s3 S3
theorem qQ{x:Str}{t:Tok}{Q:Value->Ac->Prop}(I:IsC W)(hA:Aok 14 A)(hx:x.length<=1000000)(S:Sta W G env loc N s)(k:∀ t' s',Sta W G env loc N s'->Q (.str (dC x) t') s'):Ad W.M A (call (.ref 166) [.str x t]) Q E s:=by
 refine S.call_fnC (binds:=[("text",.str x t)]) [("text",.str x t)] [] [none] I.f_l_spelled hA.room (λ _ _ _ _ _=>BindsTo.of_eq (by kernel_rfl)) (by kernel_rfl) (by kernel_rfl) (by kernel_rfl) ?_;intro L cs s' hcs S';generalize hst:aH cV=st;have hnm:aU (aD cV).names=(["table"]:List Str):=by kernel_rfl
 rw[hnm]at hcs;obtain⟨c1,rfl,h1⟩:=hcs.one;have hA':=hA.deeper (env:=qE L);simp only[aT,Ak,AD,Ar,Ax,gF,gU]at S';refine aR ?_;subst hst;walk_at "c";refine DLit.mk (iI _ _ _ _) S' (by exact⟨strKind_is _ _ _ _,rfl,strKind_is _ _ _ _,rfl,strKind_is _ _ _ _,rfl,strKind_is _ _ _ _,rfl,trivial⟩) (sg_nd _ _ _ _) (AE rfl) .head ?_;clear S';intro s' S';refine Sta.storeC S' h1 (by walk_at "upd") ?_;clear S';intro s' S';walk_at "c";refine dW ?_;refine cT ?_ (by kernel_rfl) (by kernel_rfl);refine args_cons ?_ (by kernel_rfl);refine sp_ (x:=x) (t:=t) (d:=d') (c1:=c1) (N:=(env.locals,aI loc)::N) I (hA'.le (by decide)) hx h1 (by walk_at "mem") (S'.perm (by walk_at "zg";walk_at "perm")) ?_ _ rfl;clear S';intro b s' S';refine args_nil ?_;have hl:=dQ x;refine Sta.joinT S' (.head _) (by kernel_rfl) (by rw[aAY];walk_at "o") ?_;clear S';intro t3 s' S';rw[aAY];walk_at "ke";exact k _ s' (Sta.back (S'.sel (Sel.rest [(b,aB (x.cps.toList.map sp1)),(d',IsD W d' (iI _ _ _ _)),(c1,aE (some (.ref d')))] (by walk_at "perm"))) S.eok)
section
local macro_rules | `(tactic| walk_at $s:str) => Mine.goAt Mine.tabF s
section
local macro_rules | `(tactic| walk_at $s:str) => Mine.goAt Mine.tabG s
set_option hygiene false in
local macro_rules | `(tactic| walk_at "iK") => `(tactic| intro Kq hKn hKr)
theorem jX(y:Int)(n:Nat)(h:0<n):∃ j:Nat,y.fmod (n:Int)=(j:Int)/\j<n:=by
 exact aBV y n h
noncomputable def pcs:List Str:=["a","&","<",">","\r"," ","?>","-->","\n","&lt;","b"]
theorem xA:∀ x∈pcs,0<x.length/\x.length<=4:=by decide +kernel
theorem aAj(y:Int):∃(j:Nat) (x:Str),y.fmod 11=(j:Int)/\j<11/\pcs[j]?=some x/\0<x.length/\x.length<=4:=by
 obtain⟨j,hj,hl⟩:=jX y 11 (by decide);have hl2:j<pcs.length:=hl;exact⟨j,pcs[j],hj,hl,List.getElem?_eq_getElem hl2,(xA _ (Bb hl2)).1,(xA _ (Bb hl2)).2⟩
noncomputable abbrev aAS(L:Addr):Env:=envOf "_law_text" (aD fP) L 173 (.ref 172)
theorem aBJ{L:Addr}{i j:Nat}{x z:Str}{y:Int}{t:Tok}{Q:Flow->Ac->Prop}(I:IsC W)(hA:Aok 5 A)(hi:y.fmod 11=(i:Int))(hi2:i<11)(hx:pcs[i]?=some x)(hj:(y.fdiv 11).fmod 11=(j:Int))(hj2:j<11)(hz:pcs[j]?=some z)(hl:(x++z).length<=8)(S':Sta W G (aAS L) [("y",some (.int y t)),("pieces",none)] N s)(k:∀ a t' s',Sta W G (aAS L) [("y",some (.int y t)),("pieces",some (.ref a))] ((a,aB pcs)::N) s'->Q (.ret (.str (x++z) t')) s'):∀ st:List Stmt,st=(aH fP).drop 0->Ad W.M A (execs st (aAS L)) Q E s:=by
 intro st hst;subst hst;have hlz:x.length+z.length<=Au:=by rw[←Str.length_append,Av];walk_at "o"
 walk_at "c";replace S':=S'.tell (a:=a') (c':=aB pcs) .head λ o _ ho=>ho;rw[hi];refine Sta.subT S' (j:=i) (by walk_at "mem") rfl (by walk_at "o") hx ?_;intro t1;walk_at "c";rw[hj];refine Sta.subT S' (j:=j) (by walk_at "mem") rfl (by walk_at "o") hz ?_;intro t2;refine Sta.addS S' hlz ?_;clear S';intro t3 s' S';exact hKr _ _ (k _ _ s' S')
theorem vL{y:Int}{t:Tok}{Q:Value->Ac->Prop}(I:IsC W)(hA:Aok 6 A)(S:Sta W G env loc N s)(k:∀ x t' s',0<x.length->x.length<=8->Sta W G env loc N s'->Q (.str x t') s'):Ad W.M A (call (.ref 173) [.int y t]) Q E s:=by
 obtain⟨i,x,hi,hi2,hx,h1,h2⟩:=aAj y;obtain⟨j,z,hj,hj2,hz,h3,h4⟩:=aAj (y.fdiv 11);have hl:(x++z).length=x.length+z.length:=Str.length_append ..;refine S.call_fn (binds:=[("y",.int y t)]) ["pieces"] I.f_l_text hA.room (λ _ _ _ _ _=>BindsTo.of_eq (by kernel_rfl)) (by kernel_rfl) ?_;intro L s' S';refine aR ?_;generalize hst:BI 0 (aH fP)=st;exact aBJ I (hA.deeper (k:=5)) hi hi2 hx hj hj2 hz (by walk_at "o") S' (λ a t' s' S2=>k _ _ s' (by walk_at "o") (by walk_at "o") (Sta.back (S2.sub (AQ ..)) S.eok)) st hst.symm
noncomputable def Oc.mark(o:Option Str):Str:=o.getD ""
theorem rH:bH "m" .plain=some "<?m?>":=by decide +kernel
theorem aDF(x:Str):bH "m" (.text x)=some ("<?m "++dC x++"?>"):=by
 show some ("<?"++"m"++" "++dC x++"?>")=_;rw[show("<?"++"m"++" ":Str)="<?m " from by decide +kernel]
theorem m_emp:bL (.text "")=some "<!---->":=by decide +kernel
theorem aDc:cF "None" "NoneType"="cannot serialize None (type NoneType)":=by decide +kernel
theorem s_0:cF "0" "int"="cannot serialize 0 (type int)":=by decide +kernel
theorem s_7:cF "7" "int"="cannot serialize 7 (type int)":=by decide +kernel
theorem s_b:cF "b'&'" "bytes"="cannot serialize b'&' (type bytes)":=by decide +kernel
theorem s_l:cF "['&', 1]" "list"="cannot serialize ['&', 1] (type list)":=by decide +kernel
noncomputable abbrev aCM(L:Addr):Env:=envOf "_law_thing" (aD iO) L 180 (.ref 179)
section
variable {W:Wd}{nw:Lg}
theorem zK:Tru W nw .none false:=λ A G env loc nw' s E Q S h k=>truthy_none (k s S)
theorem zJ{t:Tok}:Tru W nw (.str "" t) false:=λ A G env loc nw' s E Q S h k=>dH S (by decide +kernel) (λ _ s' S'=>k s' S') (λ e=>absurd rfl e)
theorem wM{i:Int}{t:Tok}:Tru W nw (.int i t) (i != 0):=λ A G env loc nw' s E Q S h k=>PyProof.Rows.truthy_int (k s S)
theorem xX{t:Tok}:Tru W nw (.bytes #[38] t) true:=λ A G env loc nw' s E Q S h k=>truthy_bytes (by decide) (k _ (S.toks _))
theorem zL{a:Addr}{t u:Tok}(m:(a,aA [.str "&" t,.int 1 u])∈nw):Tru W nw (.ref a) true:=λ A G env loc nw' s E Q S h k=>Sta.truthyL S (h _ m) (by show 2<=_;decide) λ s' S'=>k s' S'
end
theorem kR{nm:Str}{y m c:Int}{t:Tok}{th el:List Stmt}{p1 p2 p3 p4 p5 p6:Pos}{n1 n2:Nat}{Q:Flow->Ac->Prop}(hl:(nm,some (.int y t))∈loc)(hm:m≠0)(S':Sta W G env loc nw s)(ht:∀ s',Sta W G env loc nw s'->Ad W.M A (execs th env) Q E s')(he:∀ s',Sta W G env loc nw s'->Ad W.M A (execs el env) Q E s'):Ad W.M A (exec (.If (.Compare (.BinOp (.Name nm p1) .Mod (.Constant (.int m) n1 p2) p3) [.Eq] [.Constant (.int c) n2 p4] p5) th el p6) env) Q E s:=by
 refine wpAny_If ?_;refine wpAny_isTrue_Compare1 ?_ (by rfl);refine wpAny_BinOp ?_;refine S'.local_ hl ?_
 repeat ((fail_if_success (with_reducible show Ad _ _ (binaryOp _ _ _) _ _ _));walk_at "cw")
 refine Sta.mod S' hm ?_;clear S';intro t' s' S';walk_at "c";refine cR (λ _=>?_) (λ _=>?_)
 ·repeat ((fail_if_success (with_reducible show Ad _ _ (execs _ _) _ _ _));walk_at "cw")
  exact ht s' S'
 ·repeat ((fail_if_success (with_reducible show Ad _ _ (execs _ _) _ _ _));walk_at "cw")
  exact he s' S'
theorem aC1{y:Int}{t:Tok}{Q:Value->Ac->Prop}(I:IsC W)(hA:Aok 18 A)(S:Sta W G env loc N s)(k:∀ tp v a1 a2 TL o1 o2 s',PiV W TL v o1->CoV W TL v o2->Sta W G env loc ((tp,aJ [v,.ref a1,.ref a2])::(a1,aB [Oc.mark (bH "m" o1),Oc.mark (bL o2)])::(a2,aB [o1.msg,o2.msg])::(TL++N)) s'->Q (.ref tp) s'):Ad W.M A (call (.ref 180) [.int y t]) Q E s:=by
 refine S.call_fnV aCM (binds:=[("y",.int y t)]) ["text"] I.f_l_thing hA (λ _ _ _ _ _=>BindsTo.of_eq (by kernel_rfl)) (by kernel_rfl) ?_;intro L A' s' hA' S';simp only[aT,Ak,AD,Ar,Ax]at S';have fin:∀{tp:Addr} {v:Value} {a1 a2:Addr} (TL:Lg) (o1 o2:Oc) {x1 x2 y1 y2:Str} {lc:Loc} {s':Ac},PiV W TL v o1->CoV W TL v o2->Oc.mark (bH "m" o1)=x1->Oc.mark (bL o2)=x2->o1.msg=y1->o2.msg=y2->Sta W G (aCM L) lc ((tp,aJ [v,.ref a1,.ref a2])::(a2,aB [y1,y2])::(a1,aB [x1,x2])::(TL++((env.locals,aI loc)::N))) s'->Q (.ref tp) s':=by
  intro tp v a1 a2 TL o1 o2 x1 x2 y1 y2 lc s' h1 h2 e1 e2 e3 e4 S2;subst e1 e2 e3 e4;exact k tp v a1 a2 TL o1 o2 s' h1 h2 (Sta.back (S2.perm (by walk_at "perm")) S.eok)
 have i0:(toString (0:Int):Str)="0":=by decide +kernel
 have i7:(toString (7:Int):Str)="7":=by decide +kernel
 have T0:∀{u:Tok},Thing W [] (.int 0 u) "int" "0":=λ{u}=>i0▸pM (nw:=[]) (i:=0) (t:=u) I (by decide) (by decide +kernel);have T7:∀{u:Tok},Thing W [] (.int 7 u) "int" "7":=λ{u}=>i7▸pM (nw:=[]) (i:=7) (t:=u) I (by decide) (by decide +kernel);refine aR ?_;refine aF rfl ?_;refine kR (by walk_at "mem") (by decide) S' (λ s' S'=>?_) (λ s' S'=>?_)
 ·walk_at "c";exact fin [] .plain (.bad "NoneType" "None") zK ⟨uI I,.inl aAa⟩ (congrArg Oc.mark rH) rfl rfl aDc S'
 refine AI ?_;refine aF rfl ?_;refine kR (by walk_at "mem") (by decide) S' (λ s' S'=>?_) (λ s' S'=>?_)
 ·walk_at "c";exact fin [] .plain (.text "") zJ ⟨⟨_,rfl⟩,by decide⟩ (congrArg Oc.mark rH) (congrArg Oc.mark m_emp) rfl rfl S'
 refine AI ?_;refine aF rfl ?_;refine kR (by walk_at "mem") (by decide) S' (λ s' S'=>?_) (λ s' S'=>?_)
 ·walk_at "c";exact fin [] .plain (.bad "int" "0") (wM (i:=0)) ⟨T0,.inl qV⟩ (congrArg Oc.mark rH) rfl rfl s_0 S'
 refine AI ?_;refine aF rfl ?_;refine kR (by walk_at "mem") (by decide) S' (λ s' S'=>?_) (λ s' S'=>?_)
 ·walk_at "c";exact fin [] (.bad "int" "7") (.bad "int" "7") ⟨wM (i:=7),T7,.inl qV⟩ ⟨T7,.inl qV⟩ rfl rfl s_7 s_7 S'
 refine AI ?_;refine aF rfl ?_;refine kR (by walk_at "mem") (by decide) S' (λ s' S'=>?_) (λ s' S'=>?_)
 ·walk_at "c";refine Constant_bytes ?_;replace S':=S'.toks (s'.toks+1);generalize ({ s' with toks:=s'.toks+1 }:Ac)=s2 at S' ⊢;revert s2;intro s' S';walk_at "c";exact fin [] (.bad "bytes" "b'&'") (.bad "bytes" "b'&'") ⟨xX,lD I,.inl pP⟩ ⟨lD I,.inl pP⟩ rfl rfl s_b s_b S'
 refine AI ?_;refine aF rfl ?_;refine kR (by walk_at "mem") (by decide) S' (λ s' S'=>?_) (λ s' S'=>?_)
 ·walk_at "c";exact fin [(_,aA [.str "&" _,.int 1 _])] (.bad "list" "['&', 1]") (.bad "list" "['&', 1]") ⟨zL (.head _),mU I (.head _),.inr ⟨_,_,_,rfl,.head _⟩⟩ ⟨mU I (.head _),.inr ⟨_,_,_,rfl,.head _⟩⟩ rfl rfl s_l s_l S'
 walk_at "c";refine Sta.global S' I.g_l_text (by kernel_rfl) ?_;refine bR (by rw[I.k];kernel_rfl) ?_ (by kernel_rfl) (by kernel_rfl);walk_at "c";refine vL I (hA'.le (by decide)) S' ?_;clear S';intro x t1 s' h1 h2 S';have hx:x.length<=1000000:=by walk_at "o"
 have hl1:("<?m ":Str).length=4:=by decide +kernel
 have hl2:("?>":Str).length=2:=by decide +kernel
 have hl3:("<!--":Str).length=4:=by decide +kernel
 have hl4:("-->":Str).length=3:=by decide +kernel
 have hl5:=dQ x;walk_at "c";refine Sta.global S' I.g_l_spelled (by kernel_rfl) ?_;refine bR (by rw[I.k];kernel_rfl) ?_ (by kernel_rfl) (by kernel_rfl);walk_at "c";refine qQ I (hA'.le (by decide)) hx S' ?_;clear S';intro t2 s' S';walk_at "c";refine Sta.global S' I.g_l_spelled (by kernel_rfl) ?_;refine bR (by rw[I.k];kernel_rfl) ?_ (by kernel_rfl) (by kernel_rfl);walk_at "c";refine qQ I (hA'.le (by decide)) hx S' ?_;clear S';intro t3 s' S';walk_at "c";have S2:=S'.tell (c':=aB ["<?m "++dC x++"?>","<!--"++dC x++"-->"]) (.tail (.tail .head)) λ o _ ho=>⟨_,.cons _ _ (.cons _ _ .nil),ho⟩
 have hxt:x.length<=txL:=by unfold txL;walk_at "o"
 exact fin [] (.text x) (.text x) ⟨⟨t1,rfl⟩,by walk_at "o",hxt⟩ ⟨⟨t1,rfl⟩,hxt⟩ (congrArg Oc.mark (aDF x)) rfl rfl rfl S2
set_option genCtorIdx true in
inductive Cal
 | ns (p u:Str)
 | start (x:Str) (j:Nat)
 | fin (x:Str)
 | rem (y:Int)
 | txt (x:Str)
noncomputable def bO(d:Addr):Cal->Cell
 | .ns p u=>λ o=>∃ t0 t1 t2,aJ [.str "ns" t0,.str p t1,.str u t2] o
 | .start x j=>λ o=>∃ t0 t1,aJ [.str "start" t0,.str x t1,.ref d] o
 | .fin x=>λ o=>∃ t0 t1,aJ [.str "end" t0,.str x t1] o
 | .rem y=>λ o=>∃ t0 t1,aJ [.str "remark" t0,.int y t1] o
 | .txt x=>λ o=>∃ t0 t1,aJ [.str "text" t0,.str x t1] o
structure CA where
 a:Addr
 c:Cal
 d:Addr
 l:List (Str×Str×Tok)
noncomputable def CA.led(W:Wd)(r:CA):Lg:=(r.a,bO r.d r.c)::(match r.c with | .start _ _=>[(r.d,IsD W r.d (atV r.l))] | _=>[])
noncomputable def aY(W:Wd)(cs:List CA):Lg:=cs.flatMap (CA.led W)
noncomputable def bC(cs:List CA):List Value:=cs.map λ r=>.ref r.a
noncomputable def fG:Nat->List NsP
 | 0=>[]
 | 1=>[("k","<\"")]
 | 2=>[("{urn:a}k","&"),("k","\t")]
 | _=>[("{urn:b}k","")]
theorem eC(W:Wd)(a b:List CA):aY W (a++b)=aY W a++aY W b:=List.flatMap_append
theorem fO(a b:List CA):bC (a++b)=bC a++bC b:=Ao
noncomputable def fU:Cal->Prop
 | .txt x=>0<x.length/\x.length<=8
 | .rem _=>True
 | _=>False
noncomputable abbrev envOu(L:Addr):Env:=envOf "_law_outside" (aD gB) L 187 (.ref 186)
theorem aAk{x:Int}{t:Tok}{Q:Value->Ac->Prop}(I:IsC W)(hA:Aok 9 A)(S:Sta W G env loc N s)(k:∀ tp d c s',fU c->Sta W G env loc ((tp,bO d c)::N) s'->Q (.ref tp) s'):Ad W.M A (call (.ref 187) [.int x t]) Q E s:=by
 refine S.call_fnV envOu (binds:=[("x",.int x t)]) [] I.f_l_outside hA (λ _ _ _ _ _=>BindsTo.of_eq (by kernel_rfl)) (by kernel_rfl) ?_;intro L A' s' hA' S';simp only[aT,Ak,AD,Ar,Ax]at S';refine aR ?_;walk_at "c";refine cR (λ _=>?_) (λ _=>?_)
 ·walk_at "c";refine Sta.global S' I.g_l_text (by kernel_rfl) ?_;refine bR (by rw[I.k];kernel_rfl) ?_ (by kernel_rfl) (by kernel_rfl);walk_at "c";refine vL I (hA'.le (by decide)) S' ?_;clear S';intro x t1 s' h1 h2 S';walk_at "c";exact k _ 0 (.txt x) s' ⟨h1,h2⟩ ((Sta.back (S'.perm (List.Perm.swap ..)) S.eok).tell .head λ o _ ho=>⟨_,_,ho⟩)
 ·walk_at "c";exact k _ 0 (.rem (x.fdiv 2)) s' trivial ((Sta.back (S'.perm (List.Perm.swap ..)) S.eok).tell .head λ o _ ho=>⟨_,_,ho⟩)
theorem Sta.pushCal{cl tp:Addr}{cs:List CA}{c:Cal}{d:Addr}{l:List (Str×Str×Tok)}{C:Cell}{Q:Value->Ac->Prop}(hz:cs.length<=1000)(hC:∀ o,C o->bO d c o)(hn:∀ x j,c≠.start x j)(S:Sta W G env loc ((tp,C)::(cl,aA (bC cs))::(aY W cs++N)) s)(h:∀ s',Sta W G env loc ((cl,aA (bC (cs++[⟨tp,c,d,l⟩])))::(aY W (cs++[⟨tp,c,d,l⟩])++N)) s'->Q .none s'):Ad W.M A (call (.builtin "list.append") [.ref cl,.ref tp]) Q E s:=by
 have S1:=(S.tell (c':=bO d c) .head λ o _ ho=>hC o ho).perm (List.Perm.swap ..);refine S1.append .head (by rw[Av];simp[bC];walk_at "o") λ s' S2=>h s' (S2.perm ?_);have e:aY W [⟨tp,c,d,l⟩]=[(tp,bO d c)]:=by
  unfold aY CA.led;cases c with
  | start x j=>exact absurd rfl (hn x j)
  | _=>rfl
 rw[fO,eC,e];show List.Perm ((cl,aA (bC cs++[.ref tp]))::(tp,bO d c)::(aY W cs++N)) ((cl,aA (bC cs++[.ref tp]))::((aY W cs++[(tp,bO d c)])++N));walk_at "perm"
theorem lC{W:Wd}{sh:Lg}{it:Addr}{vs:List Value}{ns:List Int}{own:Lg}{og:Gens}(h:IntsAre vs ns):cN W sh it vs own og->YdR W sh it (λ(i:Int) v=>∃ t,v=.int i t) ns own og:=by
 induction h generalizing own og with
 | nil=>exact λ H=>H
 | cons n t h ih=>exact λ H=>⟨H.1,λ A R GR s Q E hA S hQ=>H.2 A R GR s Q E hA S λ own' og' s' S' H'=>hQ _ own' og' s' ⟨t,rfl⟩ S' (ih H')⟩
theorem IntsAre.take{vs:List Value}{ns:List Int}(h:IntsAre vs ns):∀ k,IntsAre (vs.take k) (ns.take k):=by
 induction h with
 | nil=>intro k;rw[List.take_nil,List.take_nil];exact .nil
 | cons n t h ih=>
  intro k;cases k with
  | zero=>exact .nil
  | succ k=>exact .cons n t (ih k)
theorem IntsAre.drop{vs:List Value}{ns:List Int}(h:IntsAre vs ns):∀ k,IntsAre (vs.drop k) (ns.drop k):=by
 induction h with
 | nil=>intro k;rw[List.drop_nil,List.drop_nil];exact .nil
 | cons n t h ih=>
  intro k;cases k with
  | zero=>exact .cons n t h
  | succ k=>exact ih k
theorem IntsAre.len{vs:List Value}{ns:List Int}(h:IntsAre vs ns):vs.length=ns.length:=by
 induction h with
 | nil=>rfl
 | cons n t h ih=>rw [A9,A9,ih]
noncomputable abbrev bN(L:Addr):Env:=envOf "_law_calls" (aD bY) L 192 (.ref 191)
theorem Sta.lenB{l:Addr}{xs:List Value}{Q:Value->Ac->Prop}(S:Sta W G env loc nw s)(hB:W.B.IsList l xs.toArray)(hz:xs.length<=1000000)(h:∀ t s',Sta W G env loc nw s'->Q (.int xs.length t) s'):Ad W.M A (call (.builtin "len") [.ref l]) Q E s:=by
 have q:=h (s.toks+1) _ (S.toks (s.toks+1+1));refine len_list (let⟨o,e,r⟩:=hB;⟨o,S.led.keep _ _ e,r⟩) ?_ ?_
 ·simp;walk_at "o"
 ·simpa using q
noncomputable def SliceKB(W:Wd)(env:Env)(Q:Value->Ac->Prop)(o vl vu:Value)(s:Ac):Prop:=
 ∃ G loc nw l xs lo hi,Sta W G env loc nw s/\o=.ref l/\W.B.IsList l xs/\xs.size<=Au/\IsPart vl lo/\IsPart vu hi∧
  ∀ a s',Sta W G env loc ((a,aA (slicePick xs lo hi none).toList)::nw) s'->Q (.ref a) s'
theorem SliceKB.mk{Q:Value->Ac->Prop}{l:Addr}{xs:Array Value}{lo hi:Option Int}{vl vu:Value}(S:Sta W G env loc nw s)(m:W.B.IsList l xs)(hz:xs.size<=Au)(pl:IsPart vl lo)(pu:IsPart vu hi)(k:∀ a s',Sta W G env loc ((a,aA (slicePick xs lo hi none).toList)::nw) s'->Q (.ref a) s'):SliceKB W env Q (.ref l) vl vu s:=⟨G,loc,nw,l,xs,lo,hi,S,rfl,m,hz,pl,pu,k⟩
theorem qS{value:Expr}{lower upper:Option Expr}{p pos:Pos}{Q:Value->Ac->Prop}(h:Ad W.M A (eval value env) (λ o s₁=>Ad W.M A (evalPart lower env) (λ vl s₂=>Ad W.M A (evalPart upper env) (λ vu s₃=>SliceKB W env Q o vl vu s₃) E s₂) E s₁) E s)(ht:∀ o r,letTemporaryGo value o r=pure ():=by intro _ _;rfl):Ad W.M A (eval (.Subscript value (.Slice lower upper none p) pos) env) Q E s:=by
 refine wpAny_Subscript_list_slice (As h (λ o s₁ h₁=>As h₁ (λ vl s₂ h₂=>As h₂ (λ vu s₃ h₃=>?_) λ _ _ e=>e) λ _ _ e=>e) λ _ _ e=>e) ht;obtain⟨G,loc,nw,l,xs,h₃⟩:=h₃;obtain⟨lo,hi,S,rfl,m,h₃⟩:=h₃;obtain⟨hz,pl,pu,q⟩:=h₃;refine⟨l,xs,lo,hi,rfl,(let⟨o,e,r⟩:=m;⟨o,S.led.keep _ _ e,r⟩),hz,pl,pu,?_⟩;have S1:=S.grow (h':=s₃.heap.push { cls:=.type "slice",data:=.fields #[vl,vu,.none] }) (λ _ _ e=>Heap.get?_push_of_some _ e) s₃.toks;have S2:=S1.new (o:={ cls:=.type "list",data:=.seq (slicePick xs lo hi none) }) (c:=aA (slicePick xs lo hi none).toList) rfl ⟨0,rfl⟩ s₃.toks;have e:s₃.heap.objs.size+1=(s₃.heap.push { cls:=.type "slice",data:=.fields #[vl,vu,.none] }).objs.size:=by rw[Heap.size_push]
 rw[e];exact q _ _ S2
theorem aCE{L:Addr}{vs:List Value}{ns:List Int}{iter:Expr}{p1 p2 p3 p4 p5:Pos}{sc:Scope}{Q:Value->Ac->Prop}(I:IsC W)(hA:Aok 14 A)(hi:IntsAre vs ns)(hn:ns.length<=63)(hclos:closureFor sc (bN L)=pure [])(hk:eQ sc ["x"]=true)(hkd:∀ Cc,(compEnvC sc [] Cc (bN L)).kindOf "_law_outside"=some .globalImplicit)(hs:∀ x,foldedSetIterable iter (bN L) x=pure x)(S0:Sta W G (bN L) loc N s)(h:∀ Q2:Value->Ac->Prop,(∀ sl s',Sta W G (bN L) loc ((sl,aA vs)::N) s'->Q2 (.ref sl) s')->Ad W.M A (eval iter (bN L)) Q2 E s)(k:∀ b cs s',(∀ r∈cs,fU r.c)->cs.length=ns.length->Sta W G (bN L) loc ((b,aA (bC cs))::(aY W cs++N)) s'->Q (.ref b) s'):Ad W.M A (eval (.ListComp (.Call (.Name "_law_outside" p1) [.Name "x" p2] [] p3) [⟨.Name "x" p4,iter,[],0⟩] sc p5) (bN L)) Q E s:=by
 refine gP (cl:=[]) ["x"] hclos hk rfl rfl (h _ λ sl s' S'=>?_) hs;refine S'.iterL (.head _) ?_;clear S';intro it s' S';refine CompK.mk S' ?_;intro b Cc s1 eok S1;refine dX rfl rfl jH (S1.get (.tail _ (.tail _ (.head _)))) ?_;generalize hfr:((bN L).locals,aI loc)=fr at S1;have S2:=S1.perm (nw':=((b,aA (bC []))::fr::(aY W []++N))++([]++[(it,bM sl 0),(sl,aA vs)])) (by show List.Perm _ (((b,aA [])::fr::N)++([]++[(it,bM sl 0),(sl,aA vs)]));walk_at "perm");clear S' S1;refine rU (sh:=[]) (f:=λ(i:Int) t=>.int i t) (hA.le (by decide)) (G:=G) (og:=[]) (own:=[(it,bM sl 0),(sl,aA vs)]) (λ(v:List CA×Option Value) _=>[("x",v.2)]) (λ v _=>(b,aA (bC v.1))::fr::(aY W v.1++N)) (λ v dn=>(∀ r∈v.1,fU r.c)/\v.1.length=dn.length) (compTurn_list1 ..) (lC hi (LY.yields (dJ (sh:=[]) (xs:=vs) (own₀:=[(sl,aA vs)]) (.head _) vs 0 rfl))) ([],none) ⟨(λ _ h=>absurd h BG),rfl⟩ (by rw[Aj];exact S2) ?_ ?_
 rotate_left
 ·intro i dn rest t1 tl tg v s1 K hq hH S1 kk;obtain⟨h1,h2⟩:=hH;have hdl:v.1.length<=1000:=by
   have h3:=congrArg AV hq;rw[Ae]at h3;walk_at "o"
  refine wpAny_assign_Name (S1.store (by walk_at "put") λ s' S'=>?_);clear S1 S2;simp only[Ar]at S';refine Aa ?_;refine Call_ ?_ (by kernel_rfl);refine Sta.global S' I.g_l_outside (hkd _) ?_;refine bR (by rw[I.k];kernel_rfl) ?_ (by kernel_rfl) (by kernel_rfl);walk_at "c";refine aAk I (hA.le (by decide)) S' ?_;clear S';intro tp d c s' hc S';have hns:∀ x j,c≠.start x j:=λ x j e=>by subst e;exact hc
  refine Aa (Sta.pushCal (cs:=v.1) (c:=c) (d:=d) (l:=[]) (N:=fr::(N++([]++tl))) hdl (λ o ho=>ho) hns (S'.perm (by walk_at "perm")) λ s' S'=>Af ?_);refine kk (v.1++[⟨tp,c,d,[]⟩],_) s' ⟨λ r hr=>?_,?_⟩ (S'.perm (by walk_at "perm"))
  ·rcases AW.mp hr with hr | hr
   ·exact h1 r hr
   ·rw[AR]at hr;subst hr;exact hc
  ·show(v.1++[_]).length=(dn++[i]).length;rw[Ae,Ae,h2]
   rfl
 ·intro v s1 hH S1;rw[Aj]at S1;subst hfr;exact CompEnd.mk (S1.perm (List.Perm.swap ..)) λ s3 S3=>k b v.1 s3 hH.1 hH.2 S3
noncomputable def nm4:List Str:=["a","{urn:a}a","x","{urn:b}b"]
noncomputable def kn4:List (Str×Str):=[("s","urn:a"),("z","urn:b")]
inductive Step:Nat->List Str->Nat->Cal->Nat->List Str->Nat->Prop
 | p:Step 0 [] 0 (.ns "p" "urn:a") 1 [] 0
 | q:Step 1 [] 0 (.ns "q" "urn:b") 2 [] 0
 | ahead {c}:fU c->Step 2 [] 0 c 2 [] 0
 | r:Step 2 [] 0 (.start "{urn:a}a" 0) 3 ["{urn:a}a"] 0
 | start {ns b x j}:b<9->x∈nm4->j<4->ns≠[]->Step 3 ns b (.start x j) 3 (ns++[x]) (b+1)
 | fin {ns b x}:ns≠[]->Step 3 (ns++[x]) b (.fin x) 3 ns b
 | ns {ns b p u}:(p,u)∈kn4->ns≠[]->Step 3 ns b (.ns p u) 3 ns b
 | mid {ns b c}:fU c->ns≠[]->Step 3 ns b c 3 ns b
 | last {x b}:Step 3 [x] b (.fin x) 4 [] b
 | behind {b c}:fU c->Step 4 [] b c 4 [] b
inductive Chn:Nat->List Str->Nat->List Cal->Nat->List Str->Nat->Prop
 | nil {i ns b}:Chn i ns b [] i ns b
 | cons {i ns b c i1 ns1 b1 r i2 ns2 b2}:Step i ns b c i1 ns1 b1->Chn i1 ns1 b1 r i2 ns2 b2->Chn i ns b (c::r) i2 ns2 b2
theorem Chn.snoc{i i1 i2 b b1 b2:Nat}{ns ns1 ns2:List Str}{cs:List Cal}{c:Cal}(h:Chn i ns b cs i1 ns1 b1):Step i1 ns1 b1 c i2 ns2 b2->Chn i ns b (cs++[c]) i2 ns2 b2:=by
 induction h with
 | nil=>exact λ h2=>.cons h2 .nil
 | cons h1 _ ih=>exact λ h2=>.cons h1 (ih h2)
theorem Chn.outs{k b0:Nat}{cs:List Cal}{k1 b:Nat}{ns:List Str}(hs:∀ c,fU c->Step k1 ns b c k1 ns b):∀{os:List Cal},(∀ c∈os,fU c)->Chn k [] b0 cs k1 ns b->Chn k [] b0 (cs++os) k1 ns b
 | [],_,h=>by rw[Aj];exact h
 | c::os,ho,h=>by
  rw[show cs++c::os=(cs++[c])++os from by simp];exact Chn.outs hs (λ c hc=>ho c (.tail _ hc)) (h.snoc (hs c (ho c (.head _))))
noncomputable def cs4(a1 a2 a3 a4:Addr):List CA:=[⟨a1,.ns "p" "urn:a",0,[]⟩,⟨a2,.ns "q" "urn:b",0,[]⟩,⟨a3,.txt "h",0,[]⟩,⟨a4,.rem 0,0,[]⟩]
noncomputable def cs3(a1 a2 a3 d:Addr):List CA:=[⟨a1,.start "{urn:a}a" 0,d,[]⟩,⟨a2,.txt " w<",0,[]⟩,⟨a3,.rem 6,0,[]⟩]
theorem aEa(a1 a2 a3 a4:Addr):Chn 0 [] 0 ((cs4 a1 a2 a3 a4).map CA.c) 2 [] 0:=.cons .p (.cons .q (.cons (.ahead (by show 0<("h":Str).length/\("h":Str).length<=8;decide +kernel)) (.cons (.ahead trivial) .nil)))
theorem aD9{a1 a2 a3 a4 b1 b2 b3 d:Addr}{cs:List CA}(ho:∀ r∈cs,fU r.c):Chn 0 [] 0 (((cs4 a1 a2 a3 a4++cs)++cs3 b1 b2 b3 d).map CA.c) 3 ["{urn:a}a"] 0:=by
 have h1:=Chn.outs (os:=cs.map CA.c) (λ c hc=>Step.ahead hc) (λ c hc=>by obtain⟨r,hr,rfl⟩:=Ah.mp hc;exact ho r hr) (aEa a1 a2 a3 a4);have h2:=((h1.snoc .r).snoc (.mid (c:=.txt " w<") (by show 0<(" w<":Str).length/\(" w<":Str).length<=8;decide +kernel) (by simp))).snoc (.mid (c:=.rem 6) trivial (by simp));rw[Ao];show Chn 0 [] 0 (_++[.start "{urn:a}a" 0,.txt " w<",.rem 6]) 3 _ 0;simpa using h2
noncomputable def RwO(cs:List CA):Prop:=∀ r∈cs,∀ x j,r.c=.start x j->atQ r.l=fG j
theorem RwO.append{a b:List CA}(h1:RwO a)(h2:RwO b):RwO (a++b):=λ r hr=>(AW.mp hr).elim (h1 r) (h2 r)
theorem RwO.outs{cs:List CA}(h:∀ r∈cs,fU r.c):RwO cs:=λ r hr x j e=>by have:=h r hr;rw[e]at this;exact this.elim
theorem rowH{a1 a2 a3 a4 b1 b2 b3 d:Addr}{cs:List CA}(ho:∀ r∈cs,fU r.c):RwO ((cs4 a1 a2 a3 a4++cs)++cs3 b1 b2 b3 d):=by
 refine RwO.append (RwO.append (a:=cs4 a1 a2 a3 a4) (λ r hr x j e=>?_) (.outs ho)) λ r hr x j e=>?_
 ·simp only[cs4,At,BG,or_false]at hr;rcases hr with rfl | rfl | rfl | rfl<;>cases e
 ·simp only[cs3,At,BG,or_false]at hr;rcases hr with rfl | rfl | rfl
  ·cases e;rfl
  ·cases e
  ·cases e
noncomputable abbrev eK(scr cl nm:Addr)(ah be:Nat)(ta tb:Tok)(b:Nat)(tg:Tok)(vx vk vy:Option Value):Loc:=[("script",some (.ref scr)),("ahead",some (.int (ah:Int) ta)),("behind",some (.int (be:Int) tb)),("calls",some (.ref cl)),("names",some (.ref nm)),("begun",some (.int (b:Int) tg)),("x",vx),("kind",vk),("y",vy)]
theorem aAy{x y:Str}{o:Obj}(h:uF [x,y] o):∃ t u,aJ [.str x t,.str y u] o:=by
 obtain⟨vs,ht,ho⟩:=h;cases ht with
 | cons _ _ ht=>cases ht with
  | cons _ _ ht=>cases ht;exact⟨_,_,ho⟩
theorem head4{cl a1 a2 a3 a4:Addr}{t0 t1:Tok}(S:Sta W G env loc ((cl,aA [.ref a1,.ref a2,.ref a3,.ref a4])::(a4,aJ [.str "remark" t0,.int 0 t1])::(a3,uF ["text","h"])::(a2,uF ["ns","q","urn:b"])::(a1,uF ["ns","p","urn:a"])::N) s):Sta W G env loc ((cl,aA (bC (cs4 a1 a2 a3 a4)))::(aY W (cs4 a1 a2 a3 a4)++N)) s:=by
 have S1:=S.tell (a:=a4) (c':=bO 0 (.rem 0)) (.tail .head) λ o _ ho=>⟨_,_,ho⟩
 have S2:=S1.tell (a:=a3) (c':=bO 0 (.txt "h")) (.tail (.tail .head)) λ o _ ho=>aAy ho;have S3:=S2.tell (a:=a2) (c':=bO 0 (.ns "q" "urn:b")) (.tail (.tail (.tail .head))) λ o _ ho=>aCI ho;have S4:=S3.tell (a:=a1) (c':=bO 0 (.ns "p" "urn:a")) (.tail (.tail (.tail (.tail .head)))) λ o _ ho=>aCI ho;refine S4.perm ?_;show List.Perm _ ((cl,aA [.ref a1,.ref a2,.ref a3,.ref a4])::(a1,bO 0 (.ns "p" "urn:a"))::(a2,bO 0 (.ns "q" "urn:b"))::(a3,bO 0 (.txt "h"))::(a4,bO 0 (.rem 0))::N);walk_at "perm"
theorem aDZ{cl b:Addr}{c0 cs:List CA}{Q:Value->Ac->Prop}(S:Sta W G env loc ((b,aA (bC cs))::(aY W cs++((cl,aA (bC c0))::(aY W c0++N)))) s)(hz:c0.length+cs.length<=1000)(k:∀ s',Sta W G env loc ((cl,aA (bC (c0++cs)))::(aY W (c0++cs)++N)) s'->Q .none s'):Ad W.M A (call (.builtin "list.extend") [.ref cl,.ref b]) Q E s:=by
 have S1:=S.perm (nw':=(cl,aA (bC c0))::(b,aA (bC cs))::(aY W c0++(aY W cs++N))) (by walk_at "perm");refine S1.extendL .head (.tail _ (.head _)) (by rw[Av];simp[bC];walk_at "o") λ s' S2=>k s' (S2.sel (Sel.rest [(b,aA (bC cs))] ?_));rw[fO,eC];walk_at "perm"
theorem head3{b a1 a2 a3 d:Addr}{t0 t1 t2 t3:Tok}(S:Sta W G env loc ((b,aA [.ref a1,.ref a2,.ref a3])::(a3,aJ [.str "remark" t0,.int 6 t1])::(a2,uF ["text"," w<"])::(a1,aJ [.str "start" t2,.str "{urn:a}a" t3,.ref d])::(d,IsD W d [])::N) s):Sta W G env loc ((b,aA (bC (cs3 a1 a2 a3 d)))::(aY W (cs3 a1 a2 a3 d)++N)) s:=by
 have S1:=S.tell (a:=a3) (c':=bO 0 (.rem 6)) (.tail .head) λ o _ ho=>⟨_,_,ho⟩
 have S2:=S1.tell (a:=a2) (c':=bO 0 (.txt " w<")) (.tail (.tail .head)) λ o _ ho=>aAy ho;have S3:=S2.tell (a:=a1) (c':=bO d (.start "{urn:a}a" 0)) (.tail (.tail (.tail .head))) λ o _ ho=>⟨_,_,ho⟩
 refine S3.perm ?_;show List.Perm _ ((b,aA [.ref a1,.ref a2,.ref a3])::(a1,bO d (.start "{urn:a}a" 0))::(d,IsD W d [])::(a2,bO 0 (.txt " w<"))::(a3,bO 0 (.rem 6))::N);walk_at "perm"
theorem aCa{L scr:Addr}{vs:List Value}{ns:List Int}{Q:Flow->Ac->Prop}(I:IsC W)(hA:Aok 16 A)(hB:W.B.IsList scr vs.toArray)(hi:IntsAre vs ns)(hn:ns.length<=63)(S':Sta W G (bN L) [("script",some (.ref scr)),("ahead",none),("behind",none),("calls",none),("names",none),("begun",none),("x",none),("kind",none),("y",none)] N s)(k:∀ cl nm cs ta tb tg s',Chn 0 [] 0 (cs.map CA.c) 3 ["{urn:a}a"] 0->RwO cs->cs.length=7+ns.length/4->Sta W G (bN L) (eK scr cl nm (ns.length/4) (ns.length-ns.length/4) ta tb 0 tg none none none) ((nm,aB ["{urn:a}a"])::(cl,aA (bC cs))::(aY W cs++N)) s'-> Ad W.M A (execs ((aH bY).drop 7) (bN L)) Q E s'):∀ st:List Stmt,st=(aH bY).drop 0->Ad W.M A (execs st (bN L)) Q E s:=by
 intro st hst;subst hst;have hl:=IntsAre.len hi;walk_at "c";refine Sta.builtin S' I.b_len kY (by kernel_rfl) ?_;walk_at "c";refine Sta.lenB S' hB (by walk_at "o") ?_;clear S';intro t1 s' S';walk_at "c";have ea:((vs.length:Nat):Int).fdiv 4=((ns.length/4:Nat):Int):=by
  rw[hl,Int.fdiv_eq_ediv_of_nonneg _ (by decide)]
  rfl
 have eb:((vs.length:Nat):Int)-((ns.length/4:Nat):Int)=((ns.length-ns.length/4:Nat):Int):=by rw[hl];walk_at "o"
 rw[ea]at S';refine Sta.builtin S' I.b_len kY (by kernel_rfl) ?_;walk_at "c";refine Sta.lenB S' hB (by walk_at "o") ?_;clear S';intro t2 s' S'
 iterate 3 walk_at "cw"
 rw[eb]at S';refine cE S' ?_;clear S';intro lq Mq S';walk_at "c";replace S':=head4 S';refine Sta.getM_list S' (by walk_at "mem") F.slot_list_extend F.type_list_extend ?_;refine cT ?_ (by kernel_rfl) (by kernel_rfl);refine args_cons ?_ (by kernel_rfl);refine aCE I (hA.le (by decide)) (hi.take (ns.length/4)) (by rw[List.length_take];walk_at "o") (by kernel_rfl) (by kernel_rfl) (λ _=>by kernel_rfl) (λ _=>by kernel_rfl) S' (λ Q2 hq=>?_) ?_
 ·refine qS ?_ (by intro _ _;kernel_rfl);walk_at "c";exact SliceKB.mk (hi:=some ((ns.length/4:Nat):Int)) S' hB (by rw[AN,Av];walk_at "o") .none (.int _ _) λ a s2 S2=>hq a s2 (by rw[uQ]at S2;exact S2)
 clear S';intro b1 cs s' ho hlc S';refine cE S' ?_;clear S';intro lq Mq S';refine args_nil ?_;have hlc2:cs.length=ns.length/4:=by rw[hlc,List.length_take];walk_at "o"
 refine aDZ S' (by show 4+_<=_;walk_at "o") ?_;clear S';intro s' S';refine cE S' ?_;clear S';intro lq Mq S';walk_at "c";refine Sta.getM_list S' (by walk_at "mem") F.slot_list_extend F.type_list_extend ?_;walk_at "c";replace S':=head3 S';refine aDZ S' (by show(cs4 _ _ _ _++cs).length+3<=_;rw[Ae];show 4+_+3<=_;walk_at "o") ?_;clear S';intro s' S';refine cE S' ?_;clear S';intro lq Mq S'
 repeat (fail_if_success (with_reducible show Ad W.M A (execs ((aH bY).drop 7) (bN L)) Q E _));walk_at "cw"
 walk_at "ke";refine k _ _ _ _ _ _ s' (aD9 ho) (rowH ho) ?_ S';rw[Ae,Ae];show 4+cs.length+3=_;walk_at "o"
noncomputable def aCg:Stmt:=(aH bY).getD 7 (.Pass default)
noncomputable def cIf:Stmt:=(iL aCg).getD 1 (.Pass default)
noncomputable def cIf1:Stmt:=(aAG cIf).getD 0 (.Pass default)
theorem aDK{j:Nat}(h:j<2):∃ p u:Str,(["s","z"]:List Str)[j]?=some p/\(["urn:a","urn:b"]:List Str)[j]?=some u/\(p,u)∈kn4:=by
 rcases(show j=0\/j=1 by walk_at "o")with rfl | rfl
 ·exact⟨_,_,rfl,rfl,.head _⟩
 ·exact⟨_,_,rfl,rfl,.tail _ (.head _)⟩
theorem aDA{j:Nat}(h:j<4):∃ x:Str,nm4[j]?=some x/\x∈nm4:=⟨nm4[j]'h,List.getElem?_eq_getElem h,Bb h⟩
noncomputable abbrev gV(W:Wd)(nm cl:Addr)(ns:List Str)(cs:List CA)(N:Lg):Lg:=(nm,aB ns)::(cl,aA (bC cs))::(aY W cs++N)
noncomputable abbrev CK(W:Wd)(G:Gens)(L scr cl nm:Addr)(ah be:Nat)(ta tb:Tok)(cs:List CA)(N:Lg)(ns:List Str)(b:Nat)(vx:Option Value)(Q:Flow->Ac->Prop):Prop:=
 ∀ ns' b' tg' r vk vy s',Step 3 ns b r.c 3 ns' b'->ns'≠[]->ns'.length<=ns.length+1->b'<=9->(∀ x j,r.c=.start x j->atQ r.l=fG j)->Sta W G (bN L) (eK scr cl nm ah be ta tb b' tg' vx vk vy) (gV W nm cl ns' (cs++[r]) N) s'->Q .next s'
noncomputable def da4(d0 d1 d2 d3:Addr):Nat->Addr
 | 0=>d0
 | 1=>d1
 | 2=>d2
 | _=>d3
theorem aD7(d0 d1 d2 d3:Addr){i:Nat}(h:i<4):([.ref d0,.ref d1,.ref d2,.ref d3]:List Value)[i]?=some (.ref (da4 d0 d1 d2 d3 i)):=by
 rcases(show i=0\/i=1\/i=2\/i=3 by walk_at "o")with rfl | rfl | rfl | rfl<;>rfl
theorem pick4{tp d0 d1 d2 d3:Addr}{z:Str}{t0 t1 x1 x2 x3 x4:Tok}{i:Nat}(h:i<4)(S:Sta W G env loc ((tp,aJ [.str "start" t0,.str z t1,.ref (da4 d0 d1 d2 d3 i)])::(d3,IsD W d3 [("{urn:b}k",.str "" x4)])::(d2,IsD W d2 [("{urn:a}k",.str "&" x2),("k",.str "\t" x3)])::(d1,IsD W d1 [("k",.str "<\"" x1)])::(d0,IsD W d0 [])::N) s):∃ d l,atQ l=fG i/\Sta W G env loc ((tp,bO d (.start z i))::(d,IsD W d (atV l))::N) s:=by
 have S1:=S.tell (c':=bO (da4 d0 d1 d2 d3 i) (.start z i)) .head λ o _ ho=>⟨_,_,ho⟩
 rcases(show i=0\/i=1\/i=2\/i=3 by walk_at "o")with rfl | rfl | rfl | rfl
 ·exact⟨d0,[],rfl,S1.sel (Sel.rest [(d3,IsD W d3 [("{urn:b}k",.str "" x4)]),(d2,IsD W d2 [("{urn:a}k",.str "&" x2),("k",.str "\t" x3)]),(d1,IsD W d1 [("k",.str "<\"" x1)])] (by show List.Perm _ ((tp,bO d0 (.start z 0))::(d0,IsD W d0 [])::(N++_));walk_at "perm"))⟩
 ·exact⟨d1,[("k","<\"",x1)],rfl,S1.sel (Sel.rest [(d3,IsD W d3 [("{urn:b}k",.str "" x4)]),(d2,IsD W d2 [("{urn:a}k",.str "&" x2),("k",.str "\t" x3)]),(d0,IsD W d0 [])] (by show List.Perm _ ((tp,bO d1 (.start z 1))::(d1,IsD W d1 [("k",.str "<\"" x1)])::(N++_));walk_at "perm"))⟩
 ·exact⟨d2,[("{urn:a}k","&",x2),("k","\t",x3)],rfl,S1.sel (Sel.rest [(d3,IsD W d3 [("{urn:b}k",.str "" x4)]),(d1,IsD W d1 [("k",.str "<\"" x1)]),(d0,IsD W d0 [])] (by show List.Perm _ ((tp,bO d2 (.start z 2))::(d2,IsD W d2 [("{urn:a}k",.str "&" x2),("k",.str "\t" x3)])::(N++_));walk_at "perm"))⟩
 ·exact⟨d3,[("{urn:b}k","",x4)],rfl,S1.sel (Sel.rest [(d2,IsD W d2 [("{urn:a}k",.str "&" x2),("k",.str "\t" x3)]),(d1,IsD W d1 [("k",.str "<\"" x1)]),(d0,IsD W d0 [])] (by show List.Perm _ ((tp,bO d3 (.start z 3))::(d3,IsD W d3 [("{urn:b}k",.str "" x4)])::(N++_));walk_at "perm"))⟩
theorem Sta.pushStart{cl tp d:Addr}{cs:List CA}{z:Str}{i:Nat}{l:List (Str×Str×Tok)}{Q:Value->Ac->Prop}(hz:cs.length<=1000)(S:Sta W G env loc ((tp,bO d (.start z i))::(d,IsD W d (atV l))::(cl,aA (bC cs))::(aY W cs++N)) s)(h:∀ s',Sta W G env loc ((cl,aA (bC (cs++[⟨tp,.start z i,d,l⟩])))::(aY W (cs++[⟨tp,.start z i,d,l⟩])++N)) s'->Q .none s'):Ad W.M A (call (.builtin "list.append") [.ref cl,.ref tp]) Q E s:=by
 have S1:=S.perm (nw':=(cl,aA (bC cs))::(tp,bO d (.start z i))::(d,IsD W d (atV l))::(aY W cs++N)) (by walk_at "perm");refine S1.append .head (by rw[Av];simp[bC];walk_at "o") λ s' S2=>h s' (S2.perm ?_);rw[fO,eC];show List.Perm ((cl,aA (bC cs++[.ref tp]))::(tp,bO d (.start z i))::(d,IsD W d (atV l))::(aY W cs++N)) ((cl,aA (bC cs++[.ref tp]))::((aY W cs++[(tp,bO d (.start z i)),(d,IsD W d (atV l))])++N));walk_at "perm"
theorem aCb{L scr cl nm:Addr}{ah be:Nat}{ta tb tg tk ty:Tok}{cs:List CA}{ns:List Str}{b:Nat}{kd y:Int}{vx:Option Value}{Q:Flow->Ac->Prop}(I:IsC W)(hA:Aok 10 A)(hne:ns≠[])(hcl:cs.length<=200)(hb:b<=9)(S':Sta W G (bN L) (eK scr cl nm ah be ta tb b tg vx (some (.int kd tk)) (some (.int y ty))) (gV W nm cl ns cs N) s)(k:CK W G L scr cl nm ah be ta tb cs N ns b vx Q)(st:List Stmt)(hst:st=aAG cIf1):Ad W.M A (execs st (bN L)) Q E s:=by
 subst hst;have push:∀{Q':Value->Ac->Prop} {tp:Addr} {c:Cal} {s':Ac} {loc:Loc} {J:Lg},fU c\/(∃ p u:Str,c=.ns p u/\(p,u)∈kn4)->Sta W G (bN L) loc ((tp,bO 0 c)::(J++((nm,aB ns)::(cl,aA (bC cs))::(aY W cs++N)))) s'->loc=eK scr cl nm ah be ta tb b tg vx (some (.int kd tk)) (some (.int y ty))->(∀ s3,Q .next s3->Q' .none s3)->Ad W.M A (call (.builtin "list.append") [.ref cl,.ref tp]) Q' E s':=by
  intro Q' tp c s' loc J hc S2 hl hq;subst hl;have hst:Step 3 ns b c 3 ns b/\∀ x j,c≠.start x j:=by
   rcases hc with hc | ⟨p,u,rfl,h⟩
   ·exact⟨.mid hc hne,λ x j e=>by subst e;exact hc⟩
   ·exact⟨.ns h hne,λ x j e=>by cases e⟩
  refine Sta.pushCal (cs:=cs) (c:=c) (d:=0) (l:=[]) (N:=(nm,aB ns)::N) (by walk_at "o") (λ o ho=>ho) hst.2 (S2.sel (Sel.rest J (by walk_at "perm"))) λ s3 S3=>?_;exact hq s3<|k ns b tg ⟨tp,c,0,[]⟩ _ _ s3 hst.1 hne (by walk_at "o") hb (λ x j e=>absurd e (hst.2 x j)) (S3.perm (by walk_at "perm"))
 refine Ay ?_;refine wpAny_If ?_;walk_at "c";have rem:∀{Q':Value->Ac->Prop} {tp:Addr} {t0:Tok} {s':Ac},Sta W G (bN L) (eK scr cl nm ah be ta tb b tg vx (some (.int kd tk)) (some (.int y ty))) ((tp,aJ [.str "remark" t0,.int y ty])::((nm,aB ns)::(cl,aA (bC cs))::(aY W cs++N))) s'->(∀ s3,Q .next s3->Q' .none s3)->Ad W.M A (call (.builtin "list.append") [.ref cl,.ref tp]) Q' E s':=
  λ S2 hq=>push (c:=.rem y) (J:=[]) (.inl trivial) (S2.tell .head λ o _ ho=>⟨_,_,ho⟩) rfl hq
 refine cR (λ _=>?_) (λ _=>?_)
 ·walk_at "c";refine rem S' λ s3 h=>?_;walk_at "c";exact h
 ·walk_at "c";refine cR (λ _=>?_) (λ _=>?_)
  ·walk_at "c";refine rem S' λ s3 h=>?_;walk_at "c";exact h
  ·walk_at "c";refine cR (λ _=>?_) (λ _=>?_)
   ·walk_at "c";obtain⟨j,hj,hj2⟩:=jX y 2 (by decide);rw[show((2:Nat):Int)=2 from rfl]at hj;obtain⟨p,u,hp,hu,hpu⟩:=aDK hj2;rw[hj];revert a';intro l1 S';refine Sta.subT S' (j:=j) (.head _) rfl (by walk_at "o") hp ?_;intro t1;walk_at "c";rw[hj];revert a';intro l2 S';refine Sta.subT S' (j:=j) (.head _) rfl (by walk_at "o") hu ?_;intro t2;walk_at "c";refine push (c:=.ns p u) (J:=[(l2,aB ["urn:a","urn:b"]),(l1,aB ["s","z"])]) (.inr ⟨p,u,rfl,hpu⟩) (S'.tell .head λ o _ ho=>⟨_,_,_,ho⟩) rfl λ s3 h=>?_;walk_at "c";exact h
   ·walk_at "c";refine Sta.global S' I.g_l_text (by kernel_rfl) ?_;refine bR (by rw[I.k];kernel_rfl) ?_ (by kernel_rfl) (by kernel_rfl);walk_at "c";refine vL I (hA.le (by decide)) S' ?_;clear S';intro x t1 s' h1 h2 S';walk_at "c";refine push (c:=.txt x) (J:=[]) (.inl ⟨h1,h2⟩) (S'.tell .head λ o _ ho=>⟨_,_,ho⟩) rfl λ s3 h=>?_;walk_at "c";exact h
theorem aCc{L scr cl nm:Addr}{ah be:Nat}{ta tb tg tk ty:Tok}{cs:List CA}{ns:List Str}{b:Nat}{kd y:Int}{vx:Option Value}{Q:Flow->Ac->Prop}(I:IsC W)(hA:Aok 10 A)(hne:ns≠[])(hnl:ns.length<=100)(hcl:cs.length<=200)(hb:b<=9)(S':Sta W G (bN L) (eK scr cl nm ah be ta tb b tg vx (some (.int kd tk)) (some (.int y ty))) (gV W nm cl ns cs N) s)(k:CK W G L scr cl nm ah be ta tb cs N ns b vx Q)(st:List Stmt)(hst:st=aAG cIf):Ad W.M A (execs st (bN L)) Q E s:=by
 subst hst;have hnz:ns.length<=Au:=by walk_at "osz"
 have onE:∀{s'},Sta W G (bN L) (eK scr cl nm ah be ta tb b tg vx (some (.int kd tk)) (some (.int y ty))) (gV W nm cl ns cs N) s'->Ad W.M A (execs (aAG cIf1) (bN L)) (λ f s₁=>match f with | .next=>Ad W.M A (execs [] (bN L)) Q E s₁ | f=>Q f s₁) E s':=
  λ S'=>aCb I hA hne hcl hb S' (λ ns' b' tb' r vk vy s' h1 h2 h3 h4 h5 S'=>AI (k ns' b' tb' r vk vy s' h1 h2 h3 h4 h5 S')) _ rfl
 refine Ay ?_;refine wpAny_If ?_;walk_at "c";refine cR (λ _=>?_) (λ _=>?_)
 ·walk_at "c";refine Sta.builtin S' I.b_len kY (by kernel_rfl) ?_;walk_at "c";refine Sta.lenT S' (by walk_at "mem") hnz ?_;clear S';intro tn s' S';walk_at "c";refine cR (λ hgt=>?_) (λ _=>?_)
  ·refine isTrue_and_nil (eZ ?_);have hlt:1<ns.length:=by have:=of_decide_eq_true hgt;walk_at "o"
   obtain⟨n0,x,hnx⟩:∃ n0 x,ns=n0++[x]:=⟨ns.dropLast,ns.getLast hne,(AA hne).symm⟩
   subst hnx;have hn0:n0≠[]:=by intro e;subst e;simp at hlt
   have hz0:n0.length<Au:=by simp at hnl;walk_at "osz"
   walk_at "c";refine Sta.popT S' (by walk_at "upd") hz0 ?_;clear S';intro t1 s' S';walk_at "c";revert a';intro tp S';refine Sta.pushCal (cs:=cs) (c:=.fin x) (d:=0) (l:=[]) (N:=(nm,aB n0)::N) (by walk_at "o") (λ o ho=>ho) (λ x j e=>by cases e) ((S'.tell (c':=bO 0 (.fin x)) .head λ o _ ho=>⟨_,_,ho⟩).perm (by walk_at "perm")) ?_;clear S';intro s' S';walk_at "c";exact k n0 b tg ⟨tp,.fin x,0,[]⟩ _ _ s' (.fin hn0) hn0 (by simp;walk_at "o") hb (λ x j e=>by cases e) (S'.perm (by walk_at "perm"))
  ·refine dG ?_;exact onE S'
 ·refine dG ?_;exact onE S'
theorem aB8{L scr cl nm:Addr}{ah be:Nat}{ta tb tg tx:Tok}{cs:List CA}{ns:List Str}{b:Nat}{x:Int}{vk vy:Option Value}{Q:Flow->Ac->Prop}(I:IsC W)(hA:Aok 10 A)(hne:ns≠[])(hnl:ns.length<=100)(hcl:cs.length<=200)(hb:b<=9)(S':Sta W G (bN L) (eK scr cl nm ah be ta tb b tg (some (.int x tx)) vk vy) (gV W nm cl ns cs N) s)(k:CK W G L scr cl nm ah be ta tb cs N ns b (some (.int x tx)) Q)(body:List Stmt)(hbd:body=iL aCg):Ad W.M A (execs body (bN L)) Q E s:=by
 subst hbd;refine aR ?_;refine aF rfl ?_;refine Assign_Tuple_swapped (names:=["kind","y"]) ?_ (by kernel_rfl) (by kernel_rfl);walk_at "c";refine Sta.unpackI S' hA.handled (by walk_at "mem") rfl ?_;clear S';intro s' S';replace S':=S'.sub (AQ _ _);refine assignInOrder_cons ?_;refine bindName_ ?_;walk_at "c";refine assignInOrder_cons ?_;refine bindName_ ?_;walk_at "c";refine assignInOrder_nil ?_;have kk:∀{u1 u2:Tok} {s'},Sta W G (bN L) (eK scr cl nm ah be ta tb b tg (some (.int x tx)) (some (.int (x.fmod 8) u1)) (some (.int (x.fdiv 8) u2))) (gV W nm cl ns cs N) s'->Ad W.M A (execs (aAG cIf) (bN L)) (λ f s₁=>match f with | .next=>Ad W.M A (execs ((iL aCg).drop 2) (bN L)) Q E s₁ | f=>Q f s₁) E s':=
  λ S'=>aCc I hA hne hnl hcl hb S' (λ ns' b' tb' r vk vy s' h1 h2 h3 h4 h5 S'=>AI (k ns' b' tb' r vk vy s' h1 h2 h3 h4 h5 S')) _ rfl
 refine aF rfl ?_;refine wpAny_If ?_;walk_at "c";refine cR (λ _=>?_) (λ _=>?_)
 ·walk_at "c";refine cR (λ hgt=>?_) (λ _=>?_)
  ·refine isTrue_and_nil (eZ ?_);have hlt:b<9:=by have:=of_decide_eq_true hgt;walk_at "o"
   walk_at "c";have eb:(b:Int)+1=((b+1:Nat):Int):=by walk_at "o"
   obtain⟨j,hj,hj4⟩:=jX (x.fdiv 8) 4 (by decide);obtain⟨i,hi,hi4⟩:=jX ((x.fdiv 8).fdiv 4) 4 (by decide);rw[show((4:Nat):Int)=4 from rfl]at hj hi;obtain⟨z,hz,hzm⟩:=aDA hj4;rw[hj];revert a';intro l1 S';replace S':=S'.tell (a:=l1) (c':=aB nm4) .head λ o _ ho=>ho;refine Sta.subT S' (j:=j) (.head _) rfl (by walk_at "o") hz ?_;intro t1;walk_at "c";refine Sta.subT_last S' (x:=z) (by walk_at "mem") ?_;intro t2;walk_at "c";refine DLit.mk [("k",.str "<\"" _)] S' (by exact⟨strKind_is _ _ _ _,rfl,trivial⟩) (by simp) (AE rfl) .head ?_;clear S';intro s' S';refine cE S' ?_;clear S';intro lq Mq S';walk_at "c";refine DLit.mk [("{urn:a}k",.str "&" _),("k",.str "\t" _)] S' (by exact⟨strKind_is _ _ _ _,rfl,strKind_is _ _ _ _,rfl,trivial⟩) (by show(["{urn:a}k","k"]:List Str).Nodup;decide +kernel) (AE rfl) .head ?_;clear S';intro s' S';refine cE S' ?_;clear S';intro lq Mq S';walk_at "c";refine DLit.mk [("{urn:b}k",.str "" _)] S' (by exact⟨strKind_is _ _ _ _,rfl,trivial⟩) (by simp) (AE rfl) .head ?_;clear S';intro s' S';refine cE S' ?_;clear S';intro lq Mq S';walk_at "c";rw[hi];refine Sta.sub_list S' (.head _) (by walk_at "o") (by walk_at "o") (by rw[BD];exact aD7 _ _ _ _ hi4) ?_;walk_at "c";revert a';intro tp S';obtain⟨d,l,hrow,S2⟩:=pick4 hi4 (S'.sub (.cons_cons _ (.cons _ (.cons_cons _ (.cons_cons _ (.cons_cons _ (.cons_cons _ (.cons _ (List.Sublist.refl _)))))))));refine Sta.pushStart (cs:=cs) (N:=(nm,aB (ns++[z]))::N) (by walk_at "o") (S2.perm (by walk_at "perm")) ?_;clear S' S2;intro s' S';walk_at "c";exact k (ns++[z]) (b+1) _ ⟨tp,.start z i,d,l⟩ _ _ s' (.start hlt hzm hi4 hne) (by simp) (by simp) (by walk_at "o") (λ x j e=>by cases e;exact hrow) (S'.perm (by walk_at "perm"))
  ·refine dG ?_;exact kk S'
 ·refine dG ?_;exact kk S'
noncomputable def cWh:Stmt:=(aH bY).getD 8 (.Pass default)
noncomputable abbrev aCT(st:Stmt):Expr:=stE st
noncomputable abbrev aCU(st:Stmt):List Stmt:=aH st
structure ClS where
 nms:List Str
 b:Nat
 tg:Tok
 cs:List CA
 vx:Option Value
 vk:Option Value
 vy:Option Value
noncomputable def stg(nms:List Str):Nat:=if nms=[]then 4 else 3
theorem zR(l:List Str)(z:Str):stg (l++[z])=3:=if_neg (by simp)
theorem zQ{b:Nat}{l:List Str}{z:Str}:Step 3 (l++[z]) b (.fin z) (stg l) l b:=by
 unfold stg
 by_cases h:l=[]
 ·subst h;rw[if_pos rfl];exact .last
 ·rw[if_neg h];exact .fin h
theorem aB9{p:Pos}{L scr cl nm it sl:Addr}{ah be:Nat}{ta tb tg:Tok}{cs0:List CA}{vs:List Value}{ns:List Int}{R:Result->Ac->Prop}(I:IsC W)(hA:Aok 16 A)(hi:IntsAre vs ns)(hn:ns.length<=63)(hc0:cs0.length<=70)(hch:Chn 0 [] 0 (cs0.map CA.c) 3 ["{urn:a}a"] 0)(hro:RwO cs0)(S:Sta W G (bN L) (eK scr cl nm ah be ta tb 0 tg none none none) ((it,bM sl 0)::(sl,aA vs)::gV W nm cl ["{urn:a}a"] cs0 N) s)(k:∀ nms b tg cs vx vk vy s',nms≠[]->Chn 0 [] 0 (cs.map CA.c) 3 nms b->RwO cs->nms.length<=64->cs.length<=133->Sta W G (bN L) (eK scr cl nm ah be ta tb b tg vx vk vy) (gV W nm cl nms cs N) s'->R (.ok .next) s')(body:List Stmt)(hbd:body=iL aCg):codeAny W.M A (.forLoop (.Name "x" p) (.ref it) body [] (bN L)) R s:=by
 have S2:=S.perm (nw':=gV W nm cl ["{urn:a}a"] cs0 N++([]++[(it,bM sl 0),(sl,aA vs)])) (by walk_at "perm");refine vV (sh:=[]) (f:=λ(i:Int) t=>.int i t) (hA.le (by decide)) (G:=G) (og:=[]) (own:=[(it,bM sl 0),(sl,aA vs)]) (λ(v:ClS) _=>eK scr cl nm ah be ta tb v.b v.tg v.vx v.vk v.vy) (λ v _=>gV W nm cl v.nms v.cs N) (λ v dn=>Chn 0 [] 0 (v.cs.map CA.c) 3 v.nms v.b/\v.nms≠[]/\v.b<=9/\v.nms.length<=dn.length+1/\v.cs.length<=dn.length+70/\RwO v.cs) (lC hi (LY.yields (dJ (sh:=[]) (xs:=vs) (own₀:=[(sl,aA vs)]) (.head _) vs 0 rfl))) ⟨["{urn:a}a"],0,tg,cs0,none,none,none⟩ ⟨hch,by simp,by walk_at "o",by simp,by simpa using hc0,hro⟩ (by rw[Aj];exact S2) ?_ ?_
 rotate_left
 ·intro x dn rest t1 tl tg v s1 K hq hJ S1 kk _ _;obtain⟨hch,hne,hb,h1,h2,h3⟩:=hJ;have hr:dn.length+1<=63:=by
   have:=congrArg AV hq;simp only[Ae,A9]at this;walk_at "o"
  refine wpAny_assign_Name (S1.store (by walk_at "put") λ s' S'=>?_);refine aB8 (cs:=v.cs) (ns:=v.nms) (b:=v.b) (tg:=v.tg) (vk:=v.vk) (vy:=v.vy) (N:=N++([]++tl)) I (hA.le (by decide)) hne (by walk_at "o") (by walk_at "o") hb (S'.perm (by simp only[gV];walk_at "perm")) ?_ _ hbd;intro ns' b' tg' r vk vy s' hst hne' hl hb' hrw S';refine(kk ⟨ns',b',tg',v.cs++[r],_,vk,vy⟩ _ ⟨?_,hne',hb',?_,?_,?_⟩ (S'.perm (by simp only[gV];walk_at "perm"))).1
  ·rw[Ao];exact hch.snoc hst
  ·rw[Ae,Az];exact An hl (Bf h1 1)
  ·rw[Ae,Ae,Az,Az];walk_at "o"
  ·exact h3.append λ r' hr'=>by rw[AR]at hr';subst hr';exact hrw
 ·intro v s1 hJ S1;obtain⟨hch,hne,hb,h1,h2,h3⟩:=hJ;rw[Aj]at S1;exact k v.nms v.b v.tg v.cs v.vx v.vk v.vy s1 hne hch h3 (by walk_at "o") (by walk_at "o") S1
theorem aB7{p:Pos}{L scr cl nm:Addr}{ah be:Nat}{ta tb:Tok}{cs0:List CA}{nms0:List Str}{b:Nat}{tg:Tok}{vx vk vy:Option Value}{Q:Flow->Ac->Prop}(I:IsC W)(hA:Aok 16 A)(hne:nms0≠[])(hch:Chn 0 [] 0 (cs0.map CA.c) 3 nms0 b)(hro:RwO cs0)(hn:nms0.length<=64)(hc:cs0.length<=133)(S:Sta W G (bN L) (eK scr cl nm ah be ta tb b tg vx vk vy) (gV W nm cl nms0 cs0 N) s)(k:∀ cs s',Chn 0 [] 0 (cs.map CA.c) 4 [] b->RwO cs->cs.length<=197->Sta W G (bN L) (eK scr cl nm ah be ta tb b tg vx vk vy) (gV W nm cl [] cs N) s'->Q .next s')(test:Expr)(body:List Stmt)(ht:test=aCT cWh)(hb:body=aCU cWh):Ad W.M A (exec (.While test body [] p) (bN L)) Q E s:=by
 subst ht hb;refine wpAny_While (codeAny_whileLoop (λ m s'=>∃ cs nms,nms.length=m/\Chn 0 [] 0 (cs.map CA.c) (stg nms) nms b/\RwO cs/\nms.length<=64/\cs.length+nms.length<=197/\Sta W G (bN L) (eK scr cl nm ah be ta tb b tg vx vk vy) (gV W nm cl nms cs N) s') ?_ nms0.length ?_)
 ·intro m s1 hI;obtain⟨cs,nms,hm,hch,hro,hl,hcl,S'⟩:=hI;have hnz:nms.length<=Au:=by walk_at "osz"
  refine isTrue_plain ?_ (by kernel_rfl);refine S'.local_ (by walk_at "mem") ?_;refine Sta.truthyT S' (.head _) hnz ?_;clear S';intro s' S';cases hcase:nms with
  | nil=>
   subst hcase;refine dG ?_;exact AI (k cs _ hch hro (by simp at hcl;walk_at "o") S')
  | cons y0 r0=>
   obtain⟨l1,z,hlz⟩:∃ l1 z,nms=l1++[z]:=by
    have hne:nms≠[]:=by rw[hcase];simp
    exact⟨nms.dropLast,nms.getLast hne,(AA hne).symm⟩
   clear hcase;subst hlz;rw[zR]at hch;refine eZ ?_;have hl1:l1.length<Au:=by simp at hl;walk_at "osz"
   refine aR ?_;walk_at "c";refine Sta.popT S' (by walk_at "upd") hl1 ?_;clear S';intro t1 s' S';walk_at "c";revert a';intro tp S';refine Sta.pushCal (cs:=cs) (c:=.fin z) (d:=0) (l:=[]) (N:=(nm,aB l1)::N) (by walk_at "o") (λ o ho=>ho) (λ x j e=>by cases e) ((S'.tell (c':=bO 0 (.fin z)) .head λ o _ ho=>⟨_,_,ho⟩).perm (by walk_at "perm")) ?_;clear S';intro s' S';walk_at "c";simp only[Ae,Az]at hm hl hcl;refine⟨l1.length,by walk_at "o",cs++[⟨tp,.fin z,0,[]⟩],l1,rfl,?_,hro.append λ r hr x j e=>?_,by walk_at "o",by simp;walk_at "o",S'.perm (by walk_at "perm")⟩
   ·rw[Ao];exact hch.snoc zQ
   ·rw[AR]at hr;subst hr;cases e
 ·exact⟨cs0,nms0,rfl,by unfold stg;rw[if_neg hne];exact hch,hro,hn,by walk_at "o",S⟩
theorem aB6{L scr cl nm:Addr}{ta tb tg:Tok}{b:Nat}{cs:List CA}{vs:List Value}{ns:List Int}{vx vk vy:Option Value}{Q:Flow->Ac->Prop}(I:IsC W)(hA:Aok 16 A)(hB:W.B.IsList scr vs.toArray)(hi:IntsAre vs ns)(hn:ns.length<=63)(hch:Chn 0 [] 0 (cs.map CA.c) 4 [] b)(hro:RwO cs)(hc:cs.length<=197)(S':Sta W G (bN L) (eK scr cl nm (ns.length/4) (ns.length-ns.length/4) ta tb b tg vx vk vy) (gV W nm cl [] cs N) s)(k:∀ lc cs s',Chn 0 [] 0 (cs.map CA.c) 4 [] b->RwO cs->cs.length<=300->Sta W G (bN L) lc ((cl,aA (bC cs))::(aY W cs++N)) s'->Q (.ret (.ref cl)) s'):∀ st:List Stmt,st=(aH bY).drop 9->Ad W.M A (execs st (bN L)) Q E s:=by
 intro st hst;subst hst;have hl:=IntsAre.len hi;simp only[gV]at S';walk_at "c";revert a';intro tp S';refine Sta.pushCal (cs:=cs) (c:=.txt "n") (d:=0) (l:=[]) (N:=(nm,aB [])::N) (by walk_at "o") (λ o ho=>ho) (λ x j e=>by cases e) ((S'.tell (c':=bO 0 (.txt "n")) .head λ o _ ho=>aAy ho).perm (by walk_at "perm")) ?_;clear S';intro s' S';walk_at "c";refine Sta.getM_list S' (by walk_at "mem") F.slot_list_extend F.type_list_extend ?_;refine cT ?_ (by kernel_rfl) (by kernel_rfl);refine args_cons ?_ (by kernel_rfl);refine aCE I (hA.le (by decide)) (hi.drop (ns.length-ns.length/4)) (by rw[List.length_drop];walk_at "o") (by kernel_rfl) (by kernel_rfl) (λ _=>by kernel_rfl) (λ _=>by kernel_rfl) S' (λ Q2 hq=>?_) ?_
 ·refine qS ?_ (by intro _ _;kernel_rfl);walk_at "c";exact SliceKB.mk (lo:=some ((ns.length-ns.length/4:Nat):Int)) S' hB (by rw[AN,Av];walk_at "o") (.int _ _) .none λ a s2 S2=>hq a s2 (by rw[nB]at S2;exact S2)
 clear S';intro b1 os s' ho hlc S';refine args_nil ?_;have hlc2:os.length<=63:=by rw[hlc,List.length_drop];walk_at "o"
 have hlc3:(cs++[(⟨tp,.txt "n",0,[]⟩:CA)]).length<=198:=by rw[Ae];show cs.length+1<=_;walk_at "o"
 refine aDZ S' (by walk_at "o") ?_;clear S';intro s' S';walk_at "c";revert a';intro tq S';refine Sta.pushCal (cs:=cs++[(⟨tp,.txt "n",0,[]⟩:CA)]++os) (c:=.rem 3) (d:=0) (l:=[]) (N:=(nm,aB [])::N) (by rw[Ae];walk_at "o") (λ o ho=>ho) (λ x j e=>by cases e) ((S'.tell (c':=bO 0 (.rem 3)) .head λ o _ ho=>⟨_,_,ho⟩).perm (by walk_at "perm")) ?_;clear S';intro s' S';walk_at "c";refine k _ _ s' ?_ ?_ ?_ (S'.sel (Sel.rest [(nm,aB [])] (by walk_at "perm")))
 ·rw[Ao,Ao,Ao];exact(Chn.outs (λ c hc=>Step.behind hc) (λ c hc=>by obtain⟨r,hr,rfl⟩:=Ah.mp hc;exact ho r hr) (hch.snoc (.behind (by show 0<("n":Str).length/\("n":Str).length<=8;decide +kernel)))).snoc (.behind (c:=.rem 3) trivial)
 ·exact((hro.append λ r hr x j e=>by rw[AR]at hr;subst hr;cases e).append (.outs ho)).append λ r hr x j e=>by rw[AR]at hr;subst hr;cases e
 ·rw[Ae,Ae];show _+_+1<=_;walk_at "o"
theorem aEb{scr:Addr}{vs:List Value}{ns:List Int}{Q:Value->Ac->Prop}(I:IsC W)(hA:Aok 20 A)(hB:W.B.IsList scr vs.toArray)(hi:IntsAre vs ns)(hn:ns.length<=63)(S:Sta W G env loc N s)(k:∀ cl cs b s',Chn 0 [] 0 (cs.map CA.c) 4 [] b->RwO cs->cs.length<=300->Sta W G env loc ((cl,aA (bC cs))::(aY W cs++N)) s'->Q (.ref cl) s'):Ad W.M A (call (.ref 192) [.ref scr]) Q E s:=by
 refine S.call_fnV bN (binds:=[("script",.ref scr)]) ["ahead","behind","calls","names","begun","x","kind","y"] I.f_l_calls hA (λ _ _ _ _ _=>BindsTo.of_eq (by kernel_rfl)) (by kernel_rfl) ?_;intro L A' s' hA' S';refine cE S' ?_;clear S';intro lq Mq S';have hl:=IntsAre.len hi;refine aR ?_;generalize hst:BI 0 (aH bY)=st;refine aCa I (hA'.le (by decide)) hB hi hn S' ?_ _ hst.symm;clear S';intro cl nm cs ta tb tg s' hch hro hcl S';refine cE S' ?_;clear S';intro lq Mq S';refine aF rfl ?_;refine wpAny_For ?_ (by intro _;kernel_rfl);refine qS ?_ (by intro _ _;kernel_rfl);walk_at "c";refine SliceKB.mk (lo:=some ((ns.length/4:Nat):Int)) (hi:=some ((ns.length-ns.length/4:Nat):Int)) S' hB (by rw[AN,Av];walk_at "o") (.int _ _) (.int _ _) λ sl s2 S2=>?_;rw[yF _ _ _ (by walk_at "o") (by walk_at "o")]at S2;refine S2.iterL (.head _) ?_;clear S' S2;intro it s' S';refine aB9 I (hA'.le (by decide)) ((hi.take (ns.length-ns.length/4)).drop (ns.length/4)) (by rw[List.length_drop,List.length_take];walk_at "o") (by walk_at "o") hch hro S' ?_ _ rfl;clear S';intro nms b tg cs vx vk vy s' hne hch hro h1 h2 S';refine aF rfl ?_;refine aB7 I (hA'.le (by decide)) hne hch hro h1 h2 S' ?_ _ _ rfl rfl;clear S';intro cs s' hch hro h3 S';generalize hst:BI (8+1) (aH bY)=st;refine aB6 I (hA'.le (by decide)) hB hi hn hch hro h3 S' ?_ _ hst.symm;clear S';intro lc cs s' hch hro h4 S';exact k cl cs b s' hch hro h4 (Sta.back (S'.perm (by walk_at "perm")) S.eok)
end
end
end
noncomputable abbrev eW(L:Addr):Env:=envOf "_law_tell" (aD kK) L 199 (.ref 198)
noncomputable abbrev xH(w:Wn)(ca:Addr):Loc:=[("writer",some (.ref w.x)),("call",some (.ref ca))]
section
variable {w:Wn}{c:Wc}{q:Addr}{m:Wm}{ca:Addr}{Q:Value->Ac->Prop}
theorem memN{p:Addr×Cell}(h:p∈N):p∈aC W w c q m N:=by
 dsimp only[aC]
 repeat' first | exact Ag _ h | refine Ag _ ?_ | refine .tail _ ?_
theorem xF{p e:Addr×Cell}(h:p∈N):p∈e::aC W w c q m N:=.tail _ (memN h)
theorem Sta.frN{e:Addr×Cell}(S:Sta W G env loc (e::aC W w c q m N) s):Sta W G env loc (aC W w c q m (e::N)) s:=by
 refine S.perm ?_;dsimp only[aC]
 walk_at "perm"
theorem cH{nm:Str}{ca:Addr}{vs:List Value}{kd lit:Str}{t0:Tok}{th el:List Stmt}{p1 p2 p3 p4 p5 p6:Pos}{n1 n2:Nat}{Q:Flow->Ac->Prop}(hl:(nm,some (.ref ca))∈loc)(hm:(ca,aJ vs)∈nw)(h0:vs[0]?=some (.str kd t0))(S':Sta W G env loc nw s)(ht:kd=lit->∀ s',Sta W G env loc nw s'->Ad W.M A (execs th env) Q E s')(he:kd≠lit->∀ s',Sta W G env loc nw s'->Ad W.M A (execs el env) Q E s'):Ad W.M A (exec (.If (.Compare (.Subscript (.Name nm p1) (.Constant (.int 0) n1 p2) p3) [.Eq] [.Constant (.str lit) n2 p4] p5) th el p6) env) Q E s:=by
 refine wpAny_If ?_;walk_at "c";refine aO ?_ (by intro _ _;rfl);refine S'.local_ hl ?_;walk_at "c";refine Sta.sub_tuple S' hm (j:=0) rfl (by decide) h0 ?_;walk_at "c";refine wB (λ e=>?_) (λ e=>?_)
 ·repeat ((fail_if_success (with_reducible show Ad _ _ (execs _ _) _ _ _));walk_at "cw")
  exact ht e s' S'
 ·repeat ((fail_if_success (with_reducible show Ad _ _ (execs _ _) _ _ _));walk_at "cw")
  exact he e s' S'
theorem zM{tag:Str}{t0 t1:Tok}{d:Addr}(I:IsC W)(hA:Aok 1 A)(hc:(ca,aJ [.str "start" t0,.str tag t1,.ref d])∈N)(S:Sta W G env loc (aC W w c q m N) s)(h:∀ L s',Sta W G (eW L) (xH w ca) (aC W w c q m ((env.locals,aI loc)::N)) s'->Ad W.M (A.deeper (eW L)) (call (.ref 113) [.ref w.x,.str tag t1,.ref d]) (λ _ s2=>Q .none s2) (λ _ _=>False) s'):Ad W.M A (call (.ref 199) [.ref w.x,.ref ca]) Q E s:=by
 refine S.call_fn (binds:=[("writer",.ref w.x),("call",.ref ca)]) [] I.f_l_tell hA.room (λ _ _ _ _ _=>BindsTo.of_eq (by kernel_rfl)) (by kernel_rfl) ?_;intro L s' S';have hcl:=I.cl;have hc2:=xF (W:=W) (w:=w) (c:=c) (q:=q) (m:=m) (e:=(env.locals,aI loc)) hc;simp only[aT,Ak,AD,Ar,Ax]at S';refine aR ?_;refine aF rfl ?_;refine cH (by walk_at "mem") hc2 rfl S' (λ _=>?_) (λ e=>absurd rfl e);clear S';intro s' S';walk_at "c";refine Sta.getM_inst (f:=113) S' hcl (by walk_at "mem") (by walk_at "mem") VV.keys (by decide +kernel) (by rw[I.k];kernel_rfl) (by rw[I.k];kernel_rfl) ?_;refine eB (by rw[I.k];kernel_rfl) ?_ (by kernel_rfl) (by kernel_rfl);refine args_cons ?_ (by kernel_rfl);refine aO ?_ (by intro _ _;kernel_rfl);walk_at "c";refine Sta.sub_tuple S' hc2 (j:=1) rfl (by walk_at "o") rfl ?_;refine args_cons ?_ (by kernel_rfl);refine aO ?_ (by intro _ _;kernel_rfl);walk_at "c";refine Sta.sub_tuple S' hc2 (j:=2) rfl (by walk_at "o") rfl ?_;refine args_nil ?_;refine⟨S'.kin,?_⟩;refine As (h L _ S'.frN) (λ _ s2 h2=>?_) λ _ _ x=>x;walk_at "c";exact h2
theorem zO{tag:Str}{t0 t1:Tok}(I:IsC W)(hA:Aok 1 A)(hc:(ca,aJ [.str "end" t0,.str tag t1])∈N)(S:Sta W G env loc (aC W w c q m N) s)(h:∀ L s',Sta W G (eW L) (xH w ca) (aC W w c q m ((env.locals,aI loc)::N)) s'->Ad W.M (A.deeper (eW L)) (call (.ref 126) [.ref w.x,.str tag t1]) (λ _ s2=>Q .none s2) (λ _ _=>False) s'):Ad W.M A (call (.ref 199) [.ref w.x,.ref ca]) Q E s:=by
 refine S.call_fn (binds:=[("writer",.ref w.x),("call",.ref ca)]) [] I.f_l_tell hA.room (λ _ _ _ _ _=>BindsTo.of_eq (by kernel_rfl)) (by kernel_rfl) ?_;intro L s' S';have hcl:=I.cl;have hc2:=xF (W:=W) (w:=w) (c:=c) (q:=q) (m:=m) (e:=(env.locals,aI loc)) hc;simp only[aT,Ak,AD,Ar,Ax]at S';refine aR ?_;refine aF rfl ?_;refine cH (by walk_at "mem") hc2 rfl S' (λ e=>absurd e (by decide +kernel)) (λ _=>?_);clear S';intro s' S';walk_at "cw";refine cH (by walk_at "mem") hc2 rfl S' (λ _=>?_) (λ e=>absurd rfl e);clear S';intro s' S';walk_at "c";refine Sta.getM_inst (f:=126) S' hcl (by walk_at "mem") (by walk_at "mem") VV.keys (by decide +kernel) (by rw[I.k];kernel_rfl) (by rw[I.k];kernel_rfl) ?_;refine eB (by rw[I.k];kernel_rfl) ?_ (by kernel_rfl) (by kernel_rfl);refine args_cons ?_ (by kernel_rfl);refine aO ?_ (by intro _ _;kernel_rfl);walk_at "c";refine Sta.sub_tuple S' hc2 (j:=1) rfl (by walk_at "o") rfl ?_;refine args_nil ?_;refine⟨S'.kin,?_⟩;refine As (h L _ S'.frN) (λ _ s2 h2=>?_) λ _ _ x=>x;walk_at "c";exact h2
theorem zN{p u:Str}{t0 t1 t2:Tok}(I:IsC W)(hA:Aok 1 A)(hc:(ca,aJ [.str "ns" t0,.str p t1,.str u t2])∈N)(S:Sta W G env loc (aC W w c q m N) s)(h:∀ L s',Sta W G (eW L) (xH w ca) (aC W w c q m ((env.locals,aI loc)::N)) s'->Ad W.M (A.deeper (eW L)) (call (.ref 106) [.ref w.x,.str p t1,.str u t2]) (λ _ s2=>Q .none s2) (λ _ _=>False) s'):Ad W.M A (call (.ref 199) [.ref w.x,.ref ca]) Q E s:=by
 refine S.call_fn (binds:=[("writer",.ref w.x),("call",.ref ca)]) [] I.f_l_tell hA.room (λ _ _ _ _ _=>BindsTo.of_eq (by kernel_rfl)) (by kernel_rfl) ?_;intro L s' S';have hcl:=I.cl;have hc2:=xF (W:=W) (w:=w) (c:=c) (q:=q) (m:=m) (e:=(env.locals,aI loc)) hc;simp only[aT,Ak,AD,Ar,Ax]at S';refine aR ?_;refine aF rfl ?_;refine cH (by walk_at "mem") hc2 rfl S' (λ e=>absurd e (by decide +kernel)) (λ _=>?_);clear S';intro s' S';walk_at "cw";refine cH (by walk_at "mem") hc2 rfl S' (λ e=>absurd e (by decide +kernel)) (λ _=>?_);clear S';intro s' S';walk_at "cw";refine cH (by walk_at "mem") hc2 rfl S' (λ _=>?_) (λ e=>absurd rfl e);clear S';intro s' S';walk_at "c";refine Sta.getM_inst (f:=106) S' hcl (by walk_at "mem") (by walk_at "mem") VV.keys (by decide +kernel) (by rw[I.k];kernel_rfl) (by rw[I.k];kernel_rfl) ?_;refine eB (by rw[I.k];kernel_rfl) ?_ (by kernel_rfl) (by kernel_rfl);refine args_cons ?_ (by kernel_rfl);refine aO ?_ (by intro _ _;kernel_rfl);walk_at "c";refine Sta.sub_tuple S' hc2 (j:=1) rfl (by walk_at "o") rfl ?_;refine args_cons ?_ (by kernel_rfl);refine aO ?_ (by intro _ _;kernel_rfl);walk_at "c";refine Sta.sub_tuple S' hc2 (j:=2) rfl (by walk_at "o") rfl ?_;refine args_nil ?_;refine⟨S'.kin,?_⟩;refine As (h L _ S'.frN) (λ _ s2 h2=>?_) λ _ _ x=>x;walk_at "c";exact h2
theorem aC2{x:Str}{t0 t1:Tok}(I:IsC W)(hA:Aok 1 A)(hc:(ca,aJ [.str "text" t0,.str x t1])∈N)(S:Sta W G env loc (aC W w c q m N) s)(h:∀ L s',Sta W G (eW L) (xH w ca) (aC W w c q m ((env.locals,aI loc)::N)) s'->Ad W.M (A.deeper (eW L)) (call (.ref 90) [.ref w.x,.str x t1]) (λ _ s2=>Q .none s2) (λ _ _=>False) s'):Ad W.M A (call (.ref 199) [.ref w.x,.ref ca]) Q E s:=by
 refine S.call_fn (binds:=[("writer",.ref w.x),("call",.ref ca)]) [] I.f_l_tell hA.room (λ _ _ _ _ _=>BindsTo.of_eq (by kernel_rfl)) (by kernel_rfl) ?_;intro L s' S';have hcl:=I.cl;have hc2:=xF (W:=W) (w:=w) (c:=c) (q:=q) (m:=m) (e:=(env.locals,aI loc)) hc;simp only[aT,Ak,AD,Ar,Ax]at S';refine aR ?_;refine aF rfl ?_;refine cH (by walk_at "mem") hc2 rfl S' (λ e=>absurd e (by decide +kernel)) (λ _=>?_);clear S';intro s' S';walk_at "cw";refine cH (by walk_at "mem") hc2 rfl S' (λ e=>absurd e (by decide +kernel)) (λ _=>?_);clear S';intro s' S';walk_at "cw";refine cH (by walk_at "mem") hc2 rfl S' (λ e=>absurd e (by decide +kernel)) (λ _=>?_);clear S';intro s' S';walk_at "c";refine Sta.getM_inst (f:=90) S' hcl (by walk_at "mem") (by walk_at "mem") VV.keys (by decide +kernel) (by rw[I.k];kernel_rfl) (by rw[I.k];kernel_rfl) ?_;refine eB (by rw[I.k];kernel_rfl) ?_ (by kernel_rfl) (by kernel_rfl);refine args_cons ?_ (by kernel_rfl);refine aO ?_ (by intro _ _;kernel_rfl);walk_at "c";refine Sta.sub_tuple S' hc2 (j:=1) rfl (by walk_at "o") rfl ?_;refine args_nil ?_;refine⟨S'.kin,?_⟩;refine As (h L _ S'.frN) (λ _ s2 h2=>?_) λ _ _ x=>x;walk_at "c";exact h2
end
noncomputable def nsAll:List Str:=["","urn:a","urn:b"]
noncomputable def kP:List NsP:=[("urn:a","p"),("urn:a","s"),("urn:b","q"),("urn:b","z")]
noncomputable def nPs:List Str:=["n0","n1","n2","n3"]
noncomputable def nP:List NsP:=nsAll.flatMap λ u=>nPs.map λ p=>(u,p)
noncomputable abbrev xU:NsP:=(kI,"xml")
noncomputable def allP:List NsP:=xU::(kP++nP)
theorem bX(D:List (List NsP))(lv:List NsP):aX (D++[lv])=lv++aX D:=by
 unfold aX;rw[List.reverse_append];rfl
structure Good (rw:Bool) (s:NSt):Prop where
 du:((aX s.decl).map (·.1)).Nodup
 dp:((aX s.decl).map (·.2)).Nodup
 dm:∀ q∈aX s.decl,q=xU\/(rw=false/\q∈kP)\/(rw=true/\q∈s.pm)
 pu:(s.pm.map (·.1)).Nodup
 pp:s.pm.map (·.2)=(AY s.pm.length).map fQ
 ps:∀ q∈s.pm,q.1∈nsAll
theorem aBF:∀ i,i<4->fQ i∈nPs:=by
 intro i hi;obtain rfl | rfl | rfl | rfl:i=0\/i=1\/i=2\/i=3:=by walk_at "o"
 all_goals decide +kernel
theorem aBE:((AY 4).map fQ).Nodup:=by decide +kernel
theorem pT{β:Type}[DecidableEq β]:∀{l L:List β},l.Nodup->(∀ x∈l,x∈L)->l.length<=L.length
 | [],_,_,_=>AB _
 | x::r,L,hn,hs=>by
  rw[AH]at hn;have hx:=hs x (.head _);have h:=pT (l:=r) (L:=L.erase x) hn.2 λ y hy=>(List.mem_erase_of_ne (λ e=>hn.1 (by rw[←e];exact hy))).mpr (hs y (.tail _ hy));rw[List.length_erase_of_mem hx]at h;have h2:=List.length_pos_of_mem hx;rw[A9];walk_at "o"
theorem rI{α β:Type}[DecidableEq β]{l:List α}{f:α->β}{L:List β}(h:(l.map f).Nodup)(hs:∀ q∈l,f q∈L):l.length<=L.length:=by
 have:=pT h λ x hx=>by
  obtain⟨q,hq,rfl⟩:=Ah.mp hx;exact hs q hq
 rwa[Al]at this
theorem Good.pl{rw:Bool}{s:NSt}(g:Good rw s):s.pm.length<=4:=An (rI (L:=nsAll) g.pu g.ps) (by decide)
theorem Good.pmP{rw:Bool}{s:NSt}(g:Good rw s){q:NsP}(h:q∈s.pm):q∈nP:=by
 have h1:=g.ps q h;have h2:q.2∈s.pm.map (·.2):=Ah.mpr ⟨q,h,rfl⟩;rw[g.pp]at h2;obtain⟨i,hi,e⟩:=Ah.mp h2;have h3:=aBF i (Nat.lt_of_lt_of_le (Br.mp hi) g.pl);rw[e]at h3;exact List.mem_flatMap.mpr ⟨q.1,h1,Ah.mpr ⟨q.2,h3,rfl⟩⟩
theorem Good.all{rw:Bool}{s:NSt}(g:Good rw s){q:NsP}(h:q∈aX s.decl):q∈allP:=by
 rcases g.dm q h with rfl | ⟨_,h⟩ | ⟨_,h⟩
 ·exact .head _
 ·exact .tail _ (Am _ h)
 ·exact .tail _ (Ag _ (g.pmP h))
theorem dY:∀ q∈allP,q.1.length<=100/\q.2.length<=100:=by decide +kernel
theorem aCl:∀ q∈allP,q.1∈kI::nsAll:=by decide +kernel
theorem Good.len{rw:Bool}{s:NSt}(g:Good rw s):(aX s.decl).length<=5:=An (rI (L:=kI::nsAll) g.du λ q hq=>aCl q (g.all hq)) (by decide)
theorem wA(u:Str):∀(l:List NsP) (seen:List Str),(l.map (·.2)).Nodup->(∀ q∈l,q.2∉seen)->findN u seen l=(l.find? λ q=>decide (q.1=u)).map (·.2):=by
 intro l0
 induction l0 with
 | nil=>
  intro _ _ _;exact rfl
 | cons p0 r ih=>
  obtain⟨v,p⟩:=p0;intro seen hn hs;rw[Ak,AH]at hn;show(if v=u/\p∉seen then some p else findN u (seen++[p]) r)=_
  by_cases e:v=u
  ·rw[if_pos ⟨e,hs (v,p) (.head _)⟩,List.find?_cons_of_pos (by simpa using e)]
   rfl
  ·rw[if_neg (λ h=>e h.1),List.find?_cons_of_neg (by simpa using e)];exact ih (seen++[p]) hn.2 λ q hq h=>by
    rcases AW.mp h with h | h
    ·exact hs q (.tail _ hq) h
    ·rw[AR]at h;exact hn.1 (Ah.mpr ⟨q,hq,h⟩)
theorem Good.findN{rw:Bool}{s:NSt}(g:Good rw s)(u:Str):Mine.findN u [] (aX s.decl)=((aX s.decl).find? λ q=>decide (q.1=u)).map (·.2):=wA u _ [] g.dp (by simp)
noncomputable def Ext(n:Nat)(s s':NSt):Prop:=∃ D lv e,s.decl=D++[lv]/\s'.decl=D++[lv++e]/\e.length<=n
theorem Ext.mem{n:Nat}{s s':NSt}(h:Ext n s s'){q:NsP}(hq:q∈aX s.decl):q∈aX s'.decl:=by
 obtain⟨D,lv,e,h1,h2,_⟩:=h;rw[h1,bX]at hq;rw[h2,bX];rcases AW.mp hq with h | h
 ·exact Am _ (Am _ h)
 ·exact Ag _ h
theorem Ext.refl{s:NSt}(h:s.decl≠[]):Ext 0 s s:=⟨s.decl.dropLast,s.decl.getLast h,[],(AA h).symm,by rw[Aj];exact(AA h).symm,AG _⟩
theorem Ext.trans{n m:Nat}{s s' s'':NSt}(h:Ext n s s')(k:Ext m s' s''):Ext (n+m) s s'':=by
 obtain⟨D,lv,e,h1,h2,h3⟩:=h;obtain⟨D2,lv2,e2,k1,k2,k3⟩:=k;rw[h2]at k1;obtain⟨rfl,h4⟩:=List.append_inj' k1 rfl;injection h4 with h4
 subst h4;exact⟨D,lv,e++e2,h1,by rw[k2,Ai],by rw[Ae];walk_at "o"⟩
theorem Ext.le{n m:Nat}{s s':NSt}(h:Ext n s s')(e:n<=m):Ext m s s':=by
 obtain⟨D,lv,e2,h1,h2,h3⟩:=h;exact⟨D,lv,e2,h1,h2,by walk_at "o"⟩
theorem Ext.ne{n:Nat}{s s':NSt}(h:Ext n s s'):s'.decl≠[]:=by
 obtain⟨D,lv,e,h1,h2,h3⟩:=h;rw[h2];simp
theorem Good.lay{rw:Bool}{s:NSt}(g:Good rw s)(hne:s.decl≠[]){u p:Str}{pm:List (Str×Str)}(hu:u∉(aX s.decl).map (·.1))(hp:p∉(aX s.decl).map (·.2))(hq:(rw=false/\(u,p)∈kP)\/(rw=true/\(u,p)∈pm))(hs:∀ q∈s.pm,q∈pm)(pu:(pm.map (·.1)).Nodup)(pp:pm.map (·.2)=(AY pm.length).map fQ)(ps:∀ q∈pm,q.1∈nsAll):Good rw { s with decl:=cG (u,p) s.decl,pm:=pm }/\Ext 1 s { s with decl:=cG (u,p) s.decl,pm:=pm }/\(u,p)∈aX (cG (u,p) s.decl):=by
 obtain⟨D,lv,hd⟩:∃ D lv,s.decl=D++[lv]:=⟨_,_,(AA hne).symm⟩
 have hl:cG (u,p) s.decl=D++[lv++[(u,p)]]:=by rw[hd,iX]
 have hf:aX s.decl=lv++aX D:=by rw[hd,bX]
 have hf2:aX (cG (u,p) s.decl)=lv++(u,p)::aX D:=by rw[hl,bX];simp
 have hpm:(aX (cG (u,p) s.decl)).Perm ((u,p)::aX s.decl):=by rw[hf2,hf];exact AM
 refine⟨⟨?_,?_,?_,pu,pp,ps⟩,⟨D,lv,[(u,p)],hd,hl,AG _⟩,hpm.symm.subset (.head _)⟩
 ·exact((hpm.map (·.1)).nodup_iff).mpr (AH.mpr ⟨hu,g.du⟩)
 ·exact((hpm.map (·.2)).nodup_iff).mpr (AH.mpr ⟨hp,g.dp⟩)
 ·intro q h;rcases At.mp (hpm.subset h)with h | h
  ·subst h;exact .inr hq
  ·rcases g.dm q h with h | ⟨h1,h⟩ | ⟨h1,h⟩
   ·exact .inl h
   ·exact .inr (.inl ⟨h1,h⟩)
   ·exact .inr (.inr ⟨h1,hs q h⟩)
theorem kP_fn:∀ q∈xU::kP,∀ r∈xU::kP,q.2=r.2->q.1=r.1:=by decide +kernel
theorem aDB:∀ q∈nP,q.2≠"xml"/\q.2.length≠0:=by decide +kernel
theorem aAq:∀ i,i<4->(fQ i).length≠0:=by
 intro i hi;obtain rfl | rfl | rfl | rfl:i=0\/i=1\/i=2\/i=3:=by walk_at "o"
 all_goals decide +kernel
theorem tA{l:List NsP}(h:(l.map (·.2)).Nodup){u v p:Str}(h1:(u,p)∈l)(h2:(v,p)∈l):u=v:=by
 induction l with
 | nil=>cases h1
 | cons q r ih=>
  rw[Ak,AH]at h;rcases At.mp h1 with a | a
  ·rcases At.mp h2 with b | b
   ·rw[←a]at b;injection b with b;exact b.symm
   ·exact absurd (Ah.mpr ⟨(v,p),b,by rw[←a]⟩) h.1
  ·rcases At.mp h2 with b | b
   ·exact absurd (Ah.mpr ⟨(u,p),a,by rw[←b]⟩) h.1
   ·exact ih h.2 a b
theorem Good.pnd{rw:Bool}{s:NSt}(g:Good rw s):(s.pm.map (·.2)).Nodup:=by
 rw[g.pp];have h:(AY s.pm.length).Sublist (AY 4):=List.range_sublist.mpr g.pl;exact(h.map fQ).nodup aBE
noncomputable def xQ(rw:Bool)(n:List NsP):Prop:=rw=false->∀ u∈nsAll,(u=""/\n.find? (λ q=>decide (q.1=u))=none)\/(u≠""/\∃ p,n.find? (λ q=>decide (q.1=u))=some (u,p)/\(u,p)∈kP)
theorem yN:∀ i∈AY 4,∀ j∈AY 4,fQ i=fQ j->i=j:=by decide +kernel
theorem aAr(i:Nat)(hi:i<4)(j:Nat)(hj:j<4)(e:fQ i=fQ j):i=j:=yN i (Br.mpr hi) j (Br.mpr hj) e
theorem aAp:∀ i,i<4->fQ i≠"xml":=by
 intro i hi;obtain rfl | rfl | rfl | rfl:i=0\/i=1\/i=2\/i=3:=by walk_at "o"
 all_goals decide +kernel
theorem qD{u:Str}{l:List NsP}(h:l.find? (λ q=>decide (q.1=u))=none):u∉l.map (·.1):=λ m=>by
 obtain⟨q,hq,e⟩:=Ah.mp m;have:=List.find?_eq_none.mp h q hq;simp[e]at this
theorem aCr{rw:Bool}{s:NSt}{u:Str}(g:Good rw s)(hne:s.decl≠[])(hn:xQ rw (aX s.nss))(hu:u∈nsAll)(l:Str):∃ tx s',qnV rw s u l=some (tx,s')/\Good rw s'/\s'.nss=s.nss/\Ext 1 s s'/\((∃ p,(u,p)∈aX s'.decl/\tx=gI p l)\/(rw=false/\u=""/\tx=l)):=by
 unfold qnV;rw[g.findN];cases hf:(aX s.decl).find? λ q=>decide (q.1=u)with
 | some q=>
  have h1:=List.mem_of_find?_eq_some hf;have h2:q.1=u:=by simpa using List.find?_some hf
  exact⟨_,_,rfl,g,rfl,(Ext.refl hne).le (AB _),.inl ⟨q.2,by rw[←h2];exact h1,rfl⟩⟩
 | none=>
  have hu1:=qD hf;dsimp only[Option.map_none]
  cases rw with
  | true=>
   rw[if_pos rfl];cases hp:s.pm.find? λ q=>decide (q.1=u)with
   | some q=>
    have h1:=List.mem_of_find?_eq_some hp;have h2:q.1=u:=by simpa using List.find?_some hp
    have h3:=aDB q (g.pmP h1);have h4:(u,q.2)∈s.pm:=by rw[←h2];exact h1
    obtain⟨a,b,c⟩:=g.lay hne (u:=u) (p:=q.2) (pm:=s.pm) hu1 (λ m=>by
     obtain⟨r,hr,e⟩:=Ah.mp m;rcases g.dm r hr with h | ⟨h,_⟩ | ⟨_,h⟩
     ·rw[h]at e;exact h3.1 e.symm
     ·cases h
     ·have:r.1=u:=tA g.pnd (p:=q.2) (by rw[←e];exact h) h4;exact hu1 (Ah.mpr ⟨r,hr,this⟩)) (.inr ⟨rfl,h4⟩) (λ _ h=>h) g.pu g.pp g.ps
    exact⟨_,_,rfl,a,rfl,b,.inl ⟨q.2,c,(if_neg h3.2).symm⟩⟩
   | none=>
    have hu2:=qD hp;have hnd:((s.pm++[(u,fQ s.pm.length)]).map (·.1)).Nodup:=by
     rw[Ao,Bq];refine⟨g.pu,by simp,λ x hx y hy=>?_⟩;simp only[Ak,AD,AR]at hy;rw[hy];exact λ e=>hu2 (e▸hx)
    have hns:∀ q∈s.pm++[(u,fQ s.pm.length)],q.1∈nsAll:=λ q hq=>by
     rcases AW.mp hq with h | h
     ·exact g.ps q h
     ·rw[AR.mp h];exact hu
    have h4:s.pm.length+1<=4:=by
     have:=rI (L:=nsAll) hnd hns;rw[Ae]at this;exact An this (by decide)
    obtain⟨a,b,c⟩:=g.lay hne (u:=u) (p:=fQ s.pm.length) (pm:=s.pm++[(u,fQ s.pm.length)]) hu1 (λ m=>by
     obtain⟨r,hr,e⟩:=Ah.mp m;rcases g.dm r hr with h | ⟨h,_⟩ | ⟨_,h⟩
     ·rw[h]at e;exact aAp _ (by walk_at "o") e.symm
     ·cases h
     ·have h5:r.2∈s.pm.map (·.2):=Ah.mpr ⟨r,h,rfl⟩;rw[g.pp,e]at h5;obtain⟨i,hi,e2⟩:=Ah.mp h5;have hi:=Br.mp hi;have:=aAr i (by walk_at "o") s.pm.length (by walk_at "o") e2;walk_at "o") (.inr ⟨rfl,Ag _ (.head _)⟩) (λ _ h=>Am _ h) hnd (by
     rw[Ao,Ae,g.pp];show _=(AY (s.pm.length+1)).map fQ;rw[List.range_succ,Ao];rfl) hns
    exact⟨_,_,rfl,a,rfl,b,.inl ⟨_,c,(if_neg (aAq _ (by walk_at "o"))).symm⟩⟩
  | false=>
   rw[if_neg (by decide)];have h0:∀ q,(if u=""/\("":Str)∉(aX s.decl).map (·.2)then some (l,s)else match(aX s.nss).find? (λ q=>decide (q.1=u))with
    | some q=>some (gI q.2 l,{ s with decl:=cG (u,q.2) s.decl })
    | none=>if u="" then some (l,s)else none)=q->∃ tx s',q=some (tx,s')/\Good false s'/\s'.nss=s.nss/\Ext 1 s s'/\((∃ p,(u,p)∈aX s'.decl/\tx=gI p l)\/(false=false/\u=""/\tx=l)):=by
    intro q hq;subst hq;rcases hn rfl u hu with⟨h1,h2⟩ | ⟨h1,p,h2,h3⟩
    ·have hr:∃ tx s',some (l,s)=some (tx,s')/\Good false s'/\s'.nss=s.nss/\Ext 1 s s'/\((∃ p,(u,p)∈aX s'.decl/\tx=gI p l)\/(false=false/\u=""/\tx=l)):=⟨_,_,rfl,g,rfl,(Ext.refl hne).le (AB _),.inr ⟨rfl,h1,rfl⟩⟩
     split
     ·exact hr
     ·rw[h2];exact hr
    ·rw[if_neg (λ h=>h1 h.1),h2];obtain⟨a,b,c⟩:=g.lay hne (u:=u) (p:=p) (pm:=s.pm) hu1 (λ m=>by
      obtain⟨r,hr,e⟩:=Ah.mp m;have hr2:r∈xU::kP:=by
       rcases g.dm r hr with h | ⟨_,h⟩ | ⟨h,_⟩
       ·rw[h];exact .head _
       ·exact .tail _ h
       ·cases h
      exact hu1 (Ah.mpr ⟨r,hr,kP_fn r hr2 (u,p) (.tail _ h3) e⟩)) (.inl ⟨rfl,h3⟩) (λ _ h=>h) g.pu g.pp g.ps
     exact⟨_,_,rfl,a,rfl,b,.inl ⟨p,c,rfl⟩⟩
   exact h0 _ rfl
noncomputable def OkTx(rw:Bool)(sv:NSt)(x tx:Str):Prop:=(∃ p,(nmU x,p)∈aX sv.decl/\tx=gI p (nmL x))\/(rw=false/\nmU x=""/\tx=nmL x)
theorem OkTx.up{rw:Bool}{n:Nat}{s s':NSt}{x tx:Str}(h:OkTx rw s x tx)(e:Ext n s s'):OkTx rw s' x tx:=by
 rcases h with⟨p,h1,h2⟩ | h
 ·exact .inl ⟨p,e.mem h1,h2⟩
 ·exact .inr h
noncomputable def aCm(n:List NsP):Prop:=n.length<=1000/\∀ q∈n,gY q
theorem Good.nsOk{rw:Bool}{s:NSt}(g:Good rw s)(hne:s.decl≠[])(hs:aCm (aX s.nss)):NsOk s where
 d1:=λ q hq=>by have:=dY q (g.all hq);exact⟨by walk_at "o",by walk_at "o"⟩
 d2:=by have:=g.len;walk_at "o"
 n1:=hs.2
 n2:=hs.1
 p1:=λ q hq=>by have:=dY q (.tail _ (Ag _ (g.pmP hq)));exact⟨by walk_at "o",by walk_at "o"⟩
 p2:=by have:=g.pl;walk_at "o"
 ne:=hne
theorem sP{rw:Bool}:∀{xs:List Str} {s:NSt},Good rw s->s.decl≠[]->xQ rw (aX s.nss)->aCm (aX s.nss)->(∀ x∈xs,nmU x∈nsAll)->
  ∃ res sv,gG rw s xs=some (res,sv)/\zF rw s xs/\Good rw sv/\sv.nss=s.nss/\Ext xs.length s sv/\∀ r∈res,OkTx rw sv r.1 r.2
 | [],s,g,hne,hn,hs,_=>⟨[],s,rfl,trivial,g,rfl,Ext.refl hne,λ _ h=>by cases h⟩
 | x::r,s,g,hne,hn,hs,hx=>by
  obtain⟨tx,s1,e1,g1,n1,x1,o1⟩:=aCr g hne hn (hx x (.head _)) (nmL x);obtain⟨res,sv,e2,q2,g2,n2,x2,o2⟩:=sP (xs:=r) g1 x1.ne (by rw[n1];exact hn) (by rw[n1];exact hs) λ y hy=>hx y (.tail _ hy);refine⟨(x,tx)::res,sv,?_,⟨g.nsOk hne hs,_,e1,q2⟩,g2,n2.trans n1,?_,λ y hy=>?_⟩
  ·rw[sQ,e1];show(gG rw s1 r).map _=_;rw[e2];rfl
  ·have:=x1.trans x2;exact this.le (by rw[A9];walk_at "o")
  ·rcases At.mp hy with h | h
   ·rw[h];exact OkTx.up o1 x2
   ·exact o2 y h
noncomputable def oY:List Str:=nm4
noncomputable def attN:List Str:=["k","{urn:a}k","{urn:b}k"]
theorem wN:∀ x∈oY,nmU x∈nsAll:=by decide +kernel
theorem aCj:∀ x∈attN,nmU x∈nsAll:=by decide +kernel
theorem hZ:∀ x∈oY++attN,(x.length<=500/\(nmU x).length<=500/\(nmL x).length<=500)/\((Txt.slice x none (some 1)="{"/\Txt.rsplitMax (Txt.slice x (some 1) none) "}" 1=[nmU x,nmL x])\/(Txt.slice x none (some 1)≠"{"/\nmU x=""/\nmL x=x)):=by decide +kernel
theorem aAo{x:Str}(h:x∈oY++attN):NmG x:=⟨(hZ x h).1.1,(hZ x h).1.2.1,(hZ x h).1.2.2,(hZ x h).2⟩
theorem yB:∀ x∈oY++attN,∀ y∈oY++attN,cA x=cA y->x=y:=by decide +kernel
theorem wU:∀ j∈AY 4,((fG j).map (·.1)).Nodup/\(fG j).length<=2/\(∀ q∈fG j,q.1∈attN/\q.2∈(["<\"","&","\t",""]:List Str)):=by decide +kernel
theorem aBf:∀ x∈oY,x∉attN:=by decide +kernel
theorem yE:uP∉attN:=by decide +kernel
theorem aCV:∀ x∈(["<\"","&","\t",""]:List Str),x.length<=1000:=by decide +kernel
theorem xW{res:List (Str×Str)}{k:Str}(h:k∈res.map (·.1)):(k,dR res k)∈res:=by
 unfold dR;obtain⟨r,hr,e⟩:=Ah.mp h;cases hf:res.find? λ r=>decide (r.1=k)with
 | none=>have:=List.find?_eq_none.mp hf r hr;simp[e]at this
 | some q=>
  have h1:=List.mem_of_find?_eq_some hf;have h2:q.1=k:=by simpa using List.find?_some hf
  exact(h2)▸(h1)
theorem sB(p l:Str):(gI p l).length<=p.length+1+l.length:=by
 unfold gI
 split
 ·walk_at "o"
 ·have h1:(":":Str).length=1:=by decide +kernel
  rw[Str.length_append,Str.length_append,h1];walk_at "o"
theorem Good.opn{rw:Bool}{s:NSt}(g:Good rw s):Good rw s.opn:=by
 have e:aX s.opn.decl=aX s.decl:=by
  show aX (s.decl++[[]])=_;rw[bX];rfl
 exact⟨by rw[e];exact g.du,by rw[e];exact g.dp,by rw[e];exact g.dm,g.pu,g.pp,g.ps⟩
theorem st_ok{rw:Bool}{s:NSt}{x:Str}{j:Nat}{l:List (Str×Str×Tok)}(g:Good rw s)(hn:xQ rw (aX s.nss))(hs:aCm (aX s.nss))(hx:x∈oY)(hj:j<4)(hl:atQ l=fG j):∃ res sv,StOk rw s.opn x l res sv/\Good rw sv/\sv.nss=s.nss/\(∃ lv,sv.decl=s.decl++[lv]/\lv.length<=3)/\∀ y∈x::(fG j).map (·.1),OkTx rw sv y (dR res y):=by
 obtain⟨r1,r2,r3⟩:=wU j (Br.mpr hj);have hk:l.map (·.1)=(fG j).map (·.1):=by rw[←hl];simp[atQ]
 have hll:l.length=(fG j).length:=by rw[←hl];simp[atQ]
 have hat:∀ y∈(fG j).map (·.1),y∈attN:=λ y hy=>by
  obtain⟨q,hq,rfl⟩:=Ah.mp hy;exact(r3 q hq).1
 have hall:∀ y∈x::(fG j).map (·.1),y∈oY++attN:=λ y hy=>by
  rcases At.mp hy with h | h
  ·rw[h];exact Am _ hx
  ·exact Ag _ (hat y h)
 have hu:∀ y∈oY++attN,nmU y∈nsAll:=λ y hy=>by
  rcases AW.mp hy with h | h
  ·exact wN y h
  ·exact aCj y h
 have hpm:=cB (lt:=ltK cA) (x::(fG j).map (·.1));obtain⟨res,sv,e1,e2,g2,n2,x2,o2⟩:=sP (xs:=srt (ltK cA) (x::(fG j).map (·.1))) g.opn (show s.decl++[[]]≠[]by simp) hn hs λ y hy=>hu y (hall y (hpm.subset hy));have hkeys:=iQ e1;have htx:∀ y∈x::(fG j).map (·.1),OkTx rw sv y (dR res y):=λ y hy=>o2 (y,dR res y) (xW (by rw[hkeys];exact hpm.symm.subset hy));obtain⟨D,lv,e,d1,d2,d3⟩:=x2;have d1:s.decl++[[]]=D++[lv]:=d1;obtain⟨rfl,h5⟩:=List.append_inj' d1 rfl;injection h5 with h5
 subst h5;rw[Ax]at d2;have hlen:(srt (ltK cA) (x::(fG j).map (·.1))).length=(fG j).length+1:=by rw[hpm.length_eq];simp
 have h3:e.length<=3:=by walk_at "o"
 have htop:kJ sv.decl=e:=by rw[d2];unfold kJ;simp
 refine⟨res,sv,⟨by rw[hk];exact(λ h=>aBf x hx (hat x h)),by rw[hk];exact r1,by walk_at "o",?_,?_,by rw[hk];exact e2,by rw[hk];exact e1,by rw[htop];walk_at "o",?_,?_,?_,?_⟩,g2,n2,⟨e,d2,h3⟩,htx⟩
 ·intro y hy;rw[hk]at hy;exact aAo (hall y hy)
 ·intro y hy z hz;rw[hk]at hy hz;exact yB y (hall y hy) z (hall z hz)
 ·intro r hr;have h:=dY r (g2.all (by rw[d2,bX];rw[htop]at hr;exact Am _ hr));exact⟨by walk_at "o",by walk_at "o"⟩
 ·intro r hr;have hy:r.1∈oY++attN:=hall _ (hpm.subset (by rw[←hkeys];exact Ah.mpr ⟨r,hr,rfl⟩));have h1:=(hZ _ hy).1.2.2;rcases o2 r hr with⟨p,h2,h3⟩ | ⟨_,_,h3⟩
  ·have h4:=(dY _ (g2.all h2)).2;have h5:=sB p (nmL r.1);rw[h3];dsimp only at h4;walk_at "o"
  ·rw[h3];walk_at "o"
 ·intro p hp;have:(p.1,p.2.1)∈fG j:=by rw[←hl];exact Ah.mpr ⟨p,hp,rfl⟩
  exact aCV _ (r3 _ this).2
 ·rw[hk];exact λ h=>yE (hat _ h)
theorem Good.pop{rw:Bool}{s:NSt}{D:List (List NsP)}{lv:List NsP}{n:List (List NsP)}(g:Good rw s)(hd:s.decl=D++[lv]):Good rw ⟨D,n,s.pm⟩:=by
 have e:aX s.decl=lv++aX D:=by rw[hd,bX]
 have hs:(aX D).Sublist (aX s.decl):=by rw[e];exact List.sublist_append_right _ _
 exact⟨(hs.map _).nodup g.du,(hs.map _).nodup g.dp,λ q hq=>g.dm q (hs.subset hq),g.pu,g.pp,g.ps⟩
theorem gR{q:NsP}{ls:List (List NsP)}(h:ls≠[]):cG q ls=ls.dropLast++[ls.getLast h++[q]]:=by
 have e:=(AA h).symm
 conv=>lhs;rw[e]
 rw[iX]
theorem kU{q:NsP}{ls:List (List NsP)}(h:ls≠[]):(aX (cG q ls)).Perm (q::aX ls):=by
 have e:=(AA h).symm;rw[gR h,bX]
 conv=>rhs;rw[e,bX]
 rw[Ai];exact AM
noncomputable def told2:List NsP:=[("urn:a","p"),("urn:b","q")]
structure NsInv (i n:Nat) (nss:List (List NsP)):Prop where
 sp:∃ B R,nss=B++R/\R.length=n/\B≠[]/\(∀ q∈told2.take i,q∈aX B)/\B.length<=2
 al:∀ q∈aX nss,q∈nmapV\/q∈kP
theorem rD:∀ q∈nmapV,q.1∉nsAll/\gY q:=by
 have h:(nmapV.all λ q=>decide (q.1∉nsAll)&&decide (q.1.length<=1000)&&decide (q.2.length<=1000))=true:=by decide +kernel
 intro q hq;have:=Bv.mp h q hq;simp only[AK,decide_eq_true_eq]at this;exact⟨this.1.1,this.1.2,this.2⟩
theorem aCH:∀ q∈kP,q.1≠"":=by decide +kernel
theorem aBd:∀ u∈nsAll,u=""\/∃ q∈told2,q.1=u:=by decide +kernel
theorem aAN(a b:List (List NsP)):aX (a++b)=aX b++aX a:=by unfold aX;rw[List.reverse_append,List.flatten_append]
theorem NsInv.ok{i n:Nat}{nss:List (List NsP)}(h:NsInv i n nss)(hi:2<=i)(rw:Bool):xQ rw (aX nss):=by
 intro _ u hu;obtain⟨B,R,e,_,_,h3,_⟩:=h.sp;rcases aBd u hu with h0 | ⟨q,hq,e2⟩
 ·refine .inl ⟨h0,List.find?_eq_none.mpr λ q hq=>?_⟩;rcases h.al q hq with h1 | h1
  ·have:=(rD q h1).1;simp only[decide_eq_true_eq]
   exact λ e=>this (e▸hu)
  ·have:=aCH q h1;simp only[decide_eq_true_eq,h0]
   exact this
 ·have hq2:q∈aX nss:=by
   rw[e,aAN];exact Ag _ (h3 q (by rw[BH (by exact hi)];exact hq))
  cases hf:(aX nss).find? λ q=>decide (q.1=u)with
  | none=>have:=List.find?_eq_none.mp hf q hq2;simp[e2]at this
  | some r=>
   have h1:=List.mem_of_find?_eq_some hf;have h2:r.1=u:=by simpa using List.find?_some hf
   rcases h.al r h1 with h4 | h4
   ·exact absurd hu (by rw[←h2];exact(rD r h4).1)
   ·exact .inr ⟨by rw[←h2];exact aCH r h4,r.2,by rw[←h2],by rw[←h2];exact h4⟩
theorem NsInv.small{i n:Nat}{nss:List (List NsP)}(h:NsInv i n nss){q:NsP}(hq:q∈aX nss):gY q:=by
 rcases h.al q hq with h1 | h1
 ·exact(rD q h1).2
 ·have:=dY q (.tail _ (Am _ h1));exact⟨by walk_at "o",by walk_at "o"⟩
theorem NsInv.ne{i n:Nat}{nss:List (List NsP)}(h:NsInv i n nss):nss≠[]:=by
 obtain⟨B,R,e,_,h2,_⟩:=h.sp;rw[e];exact λ h=>h2 (List.append_eq_nil_iff.mp h).1
theorem NsInv.laid{i n i1:Nat}{nss:List (List NsP)}{q:NsP}(h:NsInv i n nss)(hq:q∈kP)(hi:i1=i\/(n=0/\∀ r∈told2.take i1,r=q\/r∈told2.take i)):NsInv i1 n (cG q nss):=by
 obtain⟨B,R,e,h1,h2,h3,hB⟩:=h.sp;refine⟨?_,λ r hr=>?_⟩
 ·by_cases hR:R=[]
  ·subst hR;rw[Aj]at e;subst e;refine⟨cG q nss,[],by rw[Aj],h1,by rw[gR h2];simp,λ r hr=>(kU h2).symm.subset ?_,by rw[gR h2,Ae,List.length_dropLast,Az];have:=BF.mpr h2;walk_at "o"⟩;rcases hi with rfl | ⟨_,hi⟩
   ·exact .tail _ (h3 r hr)
   ·rcases hi r hr with rfl | hr
    ·exact .head _
    ·exact .tail _ (h3 r hr)
  ·have e2:=(AA hR).symm;refine⟨B,cG q R,?_,?_,h2,?_,hB⟩
   ·rw[e,gR hR]
    conv=>lhs;rw[e2,←Ai,iX]
    rw[Ai]
   ·rw[gR hR,Ae,List.length_dropLast,Az];have:=BF.mpr hR;walk_at "o"
   ·rcases hi with rfl | ⟨h0,_⟩
    ·exact h3
    ·exact absurd (Bs.mp (h1.trans h0)) hR
 ·rcases At.mp ((kU h.ne).subset hr)with rfl | hr
  ·exact .inr hq
  ·exact h.al r hr
theorem NsInv.len{i n:Nat}{nss:List (List NsP)}(h:NsInv i n nss):nss.length<=n+2/\n+1<=nss.length:=by
 obtain⟨B,R,e,h1,h2,h3,hB⟩:=h.sp;have:=BF.mpr h2;rw[e,Ae];walk_at "o"
theorem NsInv.push{i n i1:Nat}{nss:List (List NsP)}(h:NsInv i n nss)(hi:told2.take i1=told2.take i):NsInv i1 (n+1) (nss++[[]]):=by
 obtain⟨B,R,e,h1,h2,h3,hB⟩:=h.sp;refine⟨⟨B,R++[[]],by rw[e,Ai],by simp[h1],h2,by rw[hi];exact h3,hB⟩,λ q hq=>h.al q ?_⟩;rw[bX]at hq;exact hq
theorem NsInv.pop{i n:Nat}{nss:List (List NsP)}(h:NsInv i (n+1) nss):NsInv i n nss.dropLast:=by
 obtain⟨B,R,e,h1,h2,h3,hB⟩:=h.sp;have hR:R≠[]:=λ e=>by rw[e]at h1;cases h1
 refine⟨⟨B,R.dropLast,by rw[e,List.dropLast_append_of_ne_nil hR],by rw[List.length_dropLast];walk_at "o",h2,h3,hB⟩,λ q hq=>h.al q ?_⟩;have e2:=(AA h.ne).symm;rw[e2,bX];exact Ag _ hq
structure Ab where
 n:NSt
 ps:List Bool
 rs:Bool
 rd:Bool
 ig:Nat
noncomputable def cM(m:Wm):Ab:=⟨bF m,m.ps,m.rs,m.rd,m.ig⟩
structure Inv4 (rw:Bool) (k i:Nat) (ns:List Str) (a:Ab):Prop where
 igz:a.ig<=ns.length-1
 dl:a.n.decl.length=ns.length-a.ig+1
 ps:a.ps.length=ns.length-a.ig+1
 nss:NsInv i (ns.length-a.ig) a.n.nss
 nz:(aX a.n.nss).length<=k+7
 good:Good rw a.n
 rs:a.rs=decide (3<=i)
 rd:a.rd=decide (i=4)
 nsl:i=3↔ns≠[]
 nm:∀ x∈ns,x∈nm4
set_option genCtorIdx true in
inductive Hd
 | keep
 | add (x:Str)
 | fl
noncomputable def Hd.held:Hd->List Str->List Str
 | .keep,h=>h
 | .add x,h=>h++[x]
 | .fl,_=>[]
noncomputable def Hd.out(rs:Bool):Hd->List Str->List Str
 | .fl,h=>if rs=true then cW h else[]
 | _,_=>[]
noncomputable def jS:Cal->Nat->Nat
 | .start x _,g=>if 0<g\/x="x" then g+1 else g
 | .fin _,g=>g-1
 | _,g=>g
noncomputable def gQ:Cal->Nat->Hd
 | .start x _,g=>if 0<g\/x="x" then .keep else .fl
 | .fin _,g=>if 0<g then .keep else .fl
 | .ns _ _,g=>if 0<g then .keep else .fl
 | .txt x,g=>if 0<g then .keep else .add x
 | .rem _,_=>.keep
structure Ef (rw:Bool) (k i:Nat) (c:Cal) (i1:Nat) (ns1:List Str) (a a':Ab) (hd:Hd) (body:List Str):Prop where
 inv:Inv4 rw (k+1) i1 ns1 a'
 bl:body.length<=4
 cl:(cat body).length<=45000
 k1:hd≠.fl->body=[]/\i1=i
 k2:hd=.fl->i<=3
 ig:a'.ig=jS c a.ig
 hd:hd=gQ c a.ig
theorem kn_kP:∀ r∈kn4,(r.2,r.1)∈kP:=by decide +kernel
theorem Step.or{i b i1 b1:Nat}{ns ns1:List Str}{cl:Cal}(h:Step i ns b cl i1 ns1 b1):(∃ p u:Str,cl=.ns p u/\(u,p)∈kP/\ns1=ns/\((i1=i/\i=3)\/(ns=[]/\i1=i+1/\i1<=2/\∀ r∈told2.take i1,r=(u,p)\/r∈told2.take i)))∨
  (∃(x:Str) (j:Nat),cl=.start x j/\x∈nm4/\j<4/\((i=2/\ns=[]/\x≠"x")\/(i=3/\ns≠[]))/\i1=3/\ns1=ns++[x])∨
  (fU cl/\i1=i/\ns1=ns)\/(∃ x:Str,cl=.fin x/\i=3/\ns=ns1++[x]/\((i1=3/\ns1≠[])\/(i1=4/\ns1=[]))):=by
 induction h with
 | p=>exact .inl ⟨_,_,rfl,by decide +kernel,rfl,.inr ⟨rfl,rfl,by decide,by decide +kernel⟩⟩
 | q=>exact .inl ⟨_,_,rfl,by decide +kernel,rfl,.inr ⟨rfl,rfl,by decide,by decide +kernel⟩⟩
 | r=>exact .inr (.inl ⟨_,_,rfl,by decide +kernel,by decide,.inl ⟨rfl,rfl,by decide +kernel⟩,rfl,rfl⟩)
 | start h1 h2 h3 h4=>exact .inr (.inl ⟨_,_,rfl,h2,h3,.inr ⟨rfl,h4⟩,rfl,rfl⟩)
 | ns h1 h2=>exact .inl ⟨_,_,rfl,kn_kP _ h1,rfl,.inl ⟨rfl,rfl⟩⟩
 | ahead h1=>exact .inr (.inr (.inl ⟨h1,rfl,rfl⟩))
 | mid h1 h2=>exact .inr (.inr (.inl ⟨h1,rfl,rfl⟩))
 | behind h1=>exact .inr (.inr (.inl ⟨h1,rfl,rfl⟩))
 | fin h1=>exact .inr (.inr (.inr ⟨_,rfl,rfl,rfl,.inl ⟨rfl,h1⟩⟩))
 | last=>exact .inr (.inr (.inr ⟨_,rfl,rfl,rfl,.inr ⟨rfl,rfl⟩⟩))
theorem NsInv.to{i n i1:Nat}{nss:List (List NsP)}(h:NsInv i n nss)(e:told2.take i1=told2.take i):NsInv i1 n nss:=by
 obtain⟨B,R,e1,h1,h2,h3,hB⟩:=h.sp;exact⟨⟨B,R,e1,h1,h2,by rw[e];exact h3,hB⟩,h.al⟩
section
variable {rw:Bool}{k i i1:Nat}{ns ns1:List Str}{a:Ab}
theorem Inv4.nsS(V:Inv4 rw k i ns a)(hk:k<=300):aCm (aX a.n.nss):=⟨by have:=V.nz;walk_at "o",λ q hq=>V.nss.small hq⟩
theorem Inv4.ne(V:Inv4 rw k i ns a):a.n.decl≠[]:=λ e=>by have h:=V.dl;rw[e]at h;simp at h
theorem Inv4.up(V:Inv4 rw k i ns a):Inv4 rw (k+1) i ns a:=⟨V.igz,V.dl,V.ps,V.nss,BB V.nz,V.good,V.rs,V.rd,V.nsl,V.nm⟩
theorem p_ns(V:Inv4 rw k i ns a){p u:Str}(hg:a.ig=0)(hq:(u,p)∈kP)(h:(i1=i/\i=3)\/(ns=[]/\i1=i+1/\i1<=2/\∀ r∈told2.take i1,r=(u,p)\/r∈told2.take i)):Ef rw k i (.ns p u) i1 ns a ⟨⟨a.n.decl,cG (u,p) a.n.nss,a.n.pm⟩,a.ps,a.rs,a.rd,a.ig⟩ .fl []:=by
 have hl:=V.nz;have h3:(3<=i1↔3<=i)/\(i1=4↔i=4)/\(i1=3↔i=3)/\i<=3:=by rcases h with⟨h1,h2⟩ | ⟨_,h1,h2,_⟩<;>walk_at "o"
 refine⟨⟨V.igz,V.dl,V.ps,?_,?_,⟨V.good.du,V.good.dp,V.good.dm,V.good.pu,V.good.pp,V.good.ps⟩,V.rs.trans ?_,V.rd.trans ?_,h3.2.2.1.trans V.nsl,V.nm⟩,AB _,AB _,λ h=>absurd rfl h,λ _=>h3.2.2.2,rfl,?_⟩
 ·refine V.nss.laid hq (h.imp (λ h=>h.1) λ h=>⟨?_,h.2.2.2⟩);rw[h.1];exact Nat.zero_sub _
 ·show(aX (cG (u,p) a.n.nss)).length<=_;rw[(kU V.nss.ne).length_eq,A9];walk_at "o"
 ·exact decide_eq_decide.mpr h3.1.symm
 ·exact decide_eq_decide.mpr h3.2.1.symm
 ·show _=if 0<a.ig then Hd.keep else Hd.fl
  rw[hg];rfl
theorem p_nsI(V:Inv4 rw k i ns a){p u:Str}(hg:a.ig≠0)(h:(i1=i/\i=3)\/(ns=[]/\i1=i+1/\i1<=2/\∀ r∈told2.take i1,r=(u,p)\/r∈told2.take i)):Ef rw k i (.ns p u) i1 ns a a .keep []:=by
 have h2:i1=i:=by
  rcases h with h | ⟨h,_⟩
  ·exact h.1
  ·have:=V.igz;rw[h]at this;exact absurd (Nat.le_zero.mp this) hg
 subst h2;refine⟨V.up,AB _,AB _,λ _=>⟨rfl,rfl⟩,λ h=>(by cases h),rfl,?_⟩;show _=if 0<a.ig then Hd.keep else Hd.fl
 rw[if_pos (by walk_at "o")]
theorem p_txt(V:Inv4 rw k i ns a){x:Str}:Ef rw k i (.txt x) i ns a a (if a.ig=0 then .add x else .keep) []:=by
 refine⟨V.up,AB _,AB _,λ _=>⟨rfl,rfl⟩,λ h=>?_,rfl,?_⟩
 ·split at h<;>cases h
 ·show _=if 0<a.ig then Hd.keep else .add x
  by_cases h:a.ig=0
  ·rw[if_pos h,if_neg (by walk_at "o")]
  ·rw[if_neg h,if_pos (by walk_at "o")]
theorem xE{ns:List Str}{x:Str}(h:∀ y∈ns,y∈nm4)(hx:x∈nm4):∀ y∈ns++[x],y∈nm4:=λ y hy=>by
 rcases AW.mp hy with hy | hy
 ·exact h y hy
 ·rw[AR.mp hy];exact hx
theorem sT(V:Inv4 rw k 3 ns a){x:Str}{j:Nat}(hn:ns≠[])(hx:x∈nm4)(h:a.ig≠0\/x="x"):Ef rw k 3 (.start x j) 3 (ns++[x]) a ⟨a.n,a.ps,a.rs,a.rd,a.ig+1⟩ .keep []:=by
 have h0:0<ns.length:=BF.mpr hn;have h1:=V.igz;have e:(ns++[x]).length-(a.ig+1)=ns.length-a.ig:=by rw[Ae,Az];walk_at "o"
 have h2:0<a.ig\/x="x":=h.imp Nat.pos_of_ne_zero id;refine⟨⟨?_,by rw[e];exact V.dl,by rw[e];exact V.ps,by rw[e];exact V.nss,BB V.nz,V.good,V.rs,V.rd,by simp,xE V.nm hx⟩,AB _,AB _,λ _=>⟨rfl,rfl⟩,λ h=>(by cases h),?_,?_⟩
 ·show a.ig+1<=_;rw[Ae,Az];walk_at "o"
 ·show _=if 0<a.ig\/x="x" then a.ig+1 else a.ig
  rw[if_pos h2]
 ·show _=if 0<a.ig\/x="x" then Hd.keep else Hd.fl
  rw[if_pos h2]
theorem aDu{x:Str}(V:Inv4 rw k 3 (ns++[x]) a)(hg:a.ig≠0)(h:(i1=3/\ns≠[])\/(i1=4/\ns=[])):Ef rw k 3 (.fin x) i1 ns a ⟨a.n,a.ps,a.rs,a.rd,a.ig-1⟩ .keep []:=by
 have h1:=V.igz;rw[Ae,Az]at h1;obtain⟨rfl,h2⟩:i1=3/\ns≠[]:=by
  rcases h with h | ⟨_,h⟩
  ·exact h
  ·rw[h]at h1;exact absurd (Nat.le_zero.mp h1) hg
 have e:ns.length-(a.ig-1)=(ns++[x]).length-a.ig:=by rw[Ae,Az];walk_at "o"
 refine⟨⟨?_,by rw[e];exact V.dl,by rw[e];exact V.ps,by rw[e];exact V.nss,BB V.nz,V.good,V.rs,V.rd,⟨λ _=>h2,λ _=>rfl⟩,λ y hy=>V.nm y (Am _ hy)⟩,AB _,AB _,λ _=>⟨rfl,rfl⟩,λ h=>(by cases h),rfl,?_⟩
 ·show a.ig-1<=ns.length-1;walk_at "o"
 ·show _=if 0<a.ig then Hd.keep else Hd.fl
  rw[if_pos (by walk_at "o")]
theorem oZ(tx:Str)(row:List NsP):(bS tx row).length<=3:=by
 unfold bS
 split<;>simp
theorem rJ(x:Str):(cat [x]).length=x.length:=by
 show(x++Str.empty).length=_;rw[Str.length_append];rfl
theorem uN{tx:Str}{row:List NsP}(h:∀ r∈row,r.1.length<=2000/\r.2.length<=1000)(h5:row.length<=5)(ht:tx.length<=2000):(cat (bS tx row)).length<=45000:=by
 have h1:(cat (row.map cD)).length<=8100*(row.map cD).length:=aAZ _ _ λ x hx=>by
  obtain⟨r,hr,rfl⟩:=Ah.mp hx;have h2:=h r hr;have h3:=oD r.2;have e1:(" ":Str).length=1:=by decide +kernel
  have e2:("=\"":Str).length=2:=by decide +kernel
  have e3:("\"":Str).length=1:=by decide +kernel
  unfold cD;rw[Str.length_append,Str.length_append,Str.length_append,Str.length_append];walk_at "o"
 have e4:("<":Str).length=1:=by decide +kernel
 have e5:(">":Str).length=1:=by decide +kernel
 show(("<"++tx)++cat _:Str).length<=_;rw[bP,Str.length_append,Str.length_append,Str.length_append,rJ]
 split
 ·show _+(0+_)<=_;walk_at "o"
 ·rw[rJ];walk_at "o"
theorem aBB{x:Str}{j:Nat}{l:List (Str×Str×Tok)}(V:Inv4 rw k i ns a)(hk:k<=300)(hg:a.ig=0)(hx:x∈nm4)(hxx:x≠"x")(hj:j<4)(hi:(i=2/\ns=[])\/(i=3/\ns≠[]))(hl:atQ l=fG j):∃ res sv,StOk rw a.n.opn x l res sv/\∀ pb,Ef rw k i (.start x j) 3 (ns++[x]) a ⟨⟨sv.decl,a.n.nss++[[]],sv.pm⟩,a.ps++[pb],true,a.rd,a.ig⟩ .fl (bS (dR res x) (xnR sv.decl++atR res (atQ l))):=by
 have hi2:2<=i/\i<=3:=by rcases hi with h | h<;>walk_at "o"
 have hl':=V.nz;have hps:=V.ps;have hdl:=V.dl;have hno:=V.nss;have hrd:=V.rd;rw[hg,Nat.sub_zero]at hps hdl hno;obtain⟨res,sv,hst,g2,n2,hlv,htx⟩:=st_ok V.good (hno.ok hi2.1 rw) (V.nsS hk) hx hj hl;obtain⟨lv,d1,d2⟩:=hlv;have h1:¬(0<a.ig\/x="x"):=λ h=>h.elim (by walk_at "o") hxx;have e:(ns++[x]).length=ns.length+1:=by rw[Ae];rfl
 have htop:kJ sv.decl=lv:=by rw[d1];unfold kJ;simp
 have hcl:(cat (bS (dR res x) (xnR sv.decl++atR res (atQ l)))).length<=45000:=by
  refine uN hst.row ?_ ?_
  ·have h6:=(cB (lt:=lt2) ((kJ sv.decl).map xnP)).length_eq;have h7:=(cB (lt:=lt2) (atQ l)).length_eq;have h8:=(wU j (Br.mpr hj)).2.1;rw[Al,htop]at h6;rw[hl]at h7;rw[Ae];show(srt lt2 _).length+((srt lt2 (atQ l)).map (atP res)).length<=5;rw[Al,htop,hl,h6,h7];walk_at "o"
  ·obtain⟨r,hr,e2⟩:=mR (hst.key (.head _));rw[←e2];exact hst.tl r hr
 refine⟨res,sv,hst,λ pb=>⟨⟨?_,?_,?_,?_,?_,⟨g2.du,g2.dp,g2.dm,g2.pu,g2.pp,g2.ps⟩,rfl,hrd.trans (decide_eq_decide.mpr (by walk_at "o")),by simp,xE V.nm hx⟩,BB (oZ ..),hcl,λ h=>absurd rfl h,λ _=>hi2.2,?_,?_⟩⟩
 ·show a.ig<=_;rw[hg];exact AB _
 ·show sv.decl.length=(ns++[x]).length-a.ig+1;rw[hg,d1,e,Ae,hdl];rfl
 ·show(a.ps++[pb]).length=(ns++[x]).length-a.ig+1;rw[hg,e,Ae,hps];rfl
 ·show NsInv 3 ((ns++[x]).length-a.ig) (a.n.nss++[[]]);rw[hg,e];refine hno.push ?_;rcases hi with⟨rfl,_⟩ | ⟨rfl,_⟩<;>rfl
 ·show(aX (a.n.nss++[[]])).length<=_;rw[bX,Ax];walk_at "o"
 ·show a.ig=if 0<a.ig\/x="x" then a.ig+1 else a.ig
  rw[if_neg h1]
 ·show _=if 0<a.ig\/x="x" then Hd.keep else Hd.fl
  rw[if_neg h1]
theorem p_fin{x:Str}(V:Inv4 rw k 3 (ns++[x]) a)(hk:k<=300)(hg:a.ig=0)(h:(i1=3/\ns≠[])\/(i1=4/\ns=[])):∃ tx sv,qnV rw a.n (nmU x) (nmL x)=some (tx,sv)/\tx.length<=2000/\Ef rw k 3 (.fin x) i1 ns a ⟨⟨sv.decl.dropLast,a.n.nss.dropLast,sv.pm⟩,a.ps.dropLast,a.rs,decide (a.ps.length=2),a.ig⟩ .fl [oG tx]:=by
 have hl':=V.nz;have hps:=V.ps;have hdl:=V.dl;have hno:=V.nss;rw[hg,Nat.sub_zero,Ae,Az]at hps hdl hno;have hx:=V.nm x (by simp);obtain⟨tx,sv,h1,g2,n2,hD,o⟩:=aCr V.good V.ne (hno.ok (by decide) rw) (wN x hx) (nmL x);obtain⟨D,lv,e,d1,d2,d3⟩:=hD;have hnl:=(hZ x (Am _ hx)).1.2.2;have htl:tx.length<=2000:=by
  rcases o with⟨p,h2,h3⟩ | ⟨_,_,h3⟩
  ·have h4:=(dY _ (g2.all h2)).2;have h5:=sB p (nmL x);rw[h3];dsimp only at h4;walk_at "o"
  ·rw[h3];walk_at "o"
 refine⟨tx,sv,h1,htl,⟨⟨?_,?_,?_,?_,?_,?_,?_,?_,?_,λ y hy=>V.nm y (Am _ hy)⟩,(by decide:1<=4),?_,λ h=>absurd rfl h,λ _=>AG _,?_,?_⟩⟩
 ·show a.ig<=_;rw[hg];exact AB _
 ·show sv.decl.dropLast.length=ns.length-a.ig+1;rw[d1,Ae,Az]at hdl;rw[hg,d2,BL];walk_at "o"
 ·show a.ps.dropLast.length=ns.length-a.ig+1;rw[hg,List.length_dropLast];walk_at "o"
 ·show NsInv i1 (ns.length-a.ig) a.n.nss.dropLast;rw[hg];refine hno.pop.to ?_;rcases h with⟨rfl,_⟩ | ⟨rfl,_⟩<;>rfl
 ·show(aX a.n.nss.dropLast).length<=_;have e2:=(AA V.nss.ne).symm;have:(aX a.n.nss).length=(a.n.nss.getLast V.nss.ne++aX a.n.nss.dropLast).length:=by conv=>lhs;rw[e2,bX]
  rw[Ae]at this;walk_at "o"
 ·have:=g2.pop (n:=a.n.nss.dropLast) d2;show Good rw ⟨sv.decl.dropLast,_,_⟩;rw[d2,BL];exact this
 ·exact V.rs.trans (decide_eq_decide.mpr (by walk_at "o"))
 ·refine decide_eq_decide.mpr ?_;rw[hps];rcases h with⟨h,h2⟩ | ⟨h,h2⟩
  ·have:=BF.mpr h2;walk_at "o"
  ·rw[h2];simpa using h
 ·rcases h with⟨h,h2⟩ | ⟨h,h2⟩
  ·exact⟨λ _=>h2,λ _=>h⟩
  ·exact⟨λ h3=>by walk_at "o",λ h3=>absurd h2 h3⟩
 ·have he1:oG tx="</"++tx++">":=rfl;have he2:("</":Str).length=2:=by decide +kernel
  have he3:(">":Str).length=1:=by decide +kernel
  rw[rJ,he1,Str.length_append,Str.length_append];walk_at "o"
 ·show a.ig=a.ig-1;rw[hg]
 ·show _=if 0<a.ig then Hd.keep else Hd.fl
  rw[if_neg (by walk_at "o")]
end
noncomputable def lh(i:Nat)(h:List Str):Str:=if i=3 then cat h else ""
noncomputable def tl(i:Nat)(h:List Str):Str:=dC (lh i h)
theorem mL(x:Str):x++("":Str)=x:=Str.append_empty _
theorem aBZ(x:Str):("":Str)++x=x:=Str.ext' (by rw[gW];rfl)
theorem hY(x y z:Str):x++y++z=x++(y++z):=Str.ext' (by rw[gW,gW,gW,gW,Ai])
theorem iC(x:Str):cat [x]=x:=Str.append_empty _
theorem jZ:dC ""="":=by decide +kernel
theorem wI(h:List Str):cat (cW h)=dC (cat h):=by
 unfold cW
 by_cases e:(cat h).length=0
 ·rw[if_pos e];have:cat h="":=Str.ext' (List.eq_nil_of_length_eq_zero (by rw[←Str.len_list];exact e));rw[this,jZ];rfl
 ·rw[if_neg e,iC]
theorem eG(l:List Str)(x:Str):cat (l++[x])=cat l++x:=by rw[bP,iC]
theorem vN(i:Nat):lh i []="":=by unfold lh;split<;>rfl
theorem nQ{i:Nat}(h:i≠3)(l:List Str):lh i l="":=if_neg h
theorem tI(l:List Str):lh 3 l=cat l:=if_pos rfl
theorem aC0(i:Nat):tl i []="":=by unfold tl;rw[vN,jZ]
theorem mT{i:Nat}(h:i≠3)(l:List Str):tl i l="":=by unfold tl;rw[nQ h,jZ]
theorem aAl{i:Nat}{rs:Bool}(hrs:rs=decide (3<=i))(h3:i<=3)(h:List Str):cat (Hd.out rs .fl h)=tl i h:=by
 subst hrs;show cat (if decide (3<=i)=true then cW h else[])=_
 by_cases e:i=3
 ·subst e;unfold tl;exact wI h
 ·rw[mT e,if_neg (by rw[decide_eq_true_eq];walk_at "o")]
  rfl
section
variable {rw:Bool}{k i i1:Nat}{ns ns1:List Str}{a a':Ab}{c:Cal}{hd:Hd}{body:List Str}
theorem Ef.cmp(e:Ef rw k i c i1 ns1 a a' hd body){rs:Bool}(hrs:rs=decide (3<=i)){h0 h2 o2 ba:List Str}(h:cat o2++tl i h2=cat ba++tl i h0):cat (o2++(hd.out rs h2++body))++tl i1 (hd.held h2)=cat (ba++[cat (hd.out rs h0++body)])++tl i1 (hd.held h0):=by
 rw[bP,eG,bP,bP];cases hd with
 | keep=>
  obtain⟨rfl,rfl⟩:=e.k1 (λ h=>by cases h);show(cat o2++(Str.empty++Str.empty))++tl i1 h2=(cat ba++(Str.empty++Str.empty))++tl i1 h0;exact h
 | add x=>
  obtain⟨rfl,rfl⟩:=e.k1 (λ h=>by cases h);show(cat o2++(Str.empty++Str.empty))++tl i1 (h2++[x])=(cat ba++(Str.empty++Str.empty))++tl i1 (h0++[x]);rw[Str.append_empty,Str.append_empty,Str.append_empty]
  by_cases e3:i1=3
  ·subst e3;unfold tl at h ⊢;rw[tI]at h ⊢;rw[tI]at h ⊢;rw[eG,eG,gS,gS,←hY,←hY,h]
  ·rw[mT e3]at h ⊢;rw[mT e3]at h ⊢;exact h
 | fl=>
  show(cat o2++(cat (Hd.out rs .fl h2)++cat body))++tl i1 []=(cat ba++(cat (Hd.out rs .fl h0)++cat body))++tl i1 [];rw[aAl hrs (e.k2 rfl),aAl hrs (e.k2 rfl),←hY,←hY,h]
noncomputable def jT(hd:Hd)(ns:List Str)(l:Str):Str:=
 match hd with
 | .keep=>l
 | .add x=>if ns=[]then l else l++x
 | .fl=>""
theorem Ef.lh(e:Ef rw k i c i1 ns1 a a' hd body)(V:Inv4 rw k i ns a)(h0:List Str):Mine.lh i1 (hd.held h0)=jT hd ns (Mine.lh i h0):=by
 cases hd with
 | keep=>
  obtain⟨_,rfl⟩:=e.k1 (λ h=>by cases h)
  rfl
 | add x=>
  obtain⟨_,rfl⟩:=e.k1 (λ h=>by cases h);show Mine.lh i1 (h0++[x])=if ns=[]then _ else _
  by_cases e3:i1=3
  ·subst e3;rw[if_neg (V.nsl.mp rfl),tI,tI,eG]
  ·rw[nQ e3,nQ e3,if_pos];exact Decidable.byContradiction λ h=>e3 (V.nsl.mpr h)
 | fl=>exact vN i1
theorem xB{rs:Bool}{h:List Str}:(cat (Hd.out rs .fl h)).length<=6*(cat h).length:=by
 show(cat (if rs=true then cW h else[])).length<=_
 split
 ·rw[wI];exact dQ _
 ·exact AB _
theorem Ef.pot(e:Ef rw k i c i1 ns1 a a' hd body){rs:Bool}{h o:List Str}(hx:∀ x,c=.txt x->x.length<=8)(hp:(cat o).length+6*(cat h).length<=45100*k):(cat (o++(hd.out rs h++body))).length+6*(cat (hd.held h)).length<=45100*(k+1):=by
 have hc:=e.cl;rw[bP,bP,Str.length_append,Str.length_append];cases hd with
 | keep=>
  show _+(0+_)+6*(cat h).length<=_;walk_at "o"
 | add x=>
  have h1:=e.hd;have h2:x.length<=8:=by
   cases c with
   | txt y=>
    change Hd.add x=if 0<a.ig then Hd.keep else .add y at h1
    split at h1
    ·injection h1
    ·injection h1 with h1
     rw[h1];exact hx y rfl
   | start y j=>change Hd.add x=if _ then _ else _ at h1;split at h1<;>cases h1
   | fin y=>change Hd.add x=if _ then _ else _ at h1;split at h1<;>cases h1
   | ns p u=>change Hd.add x=if _ then _ else _ at h1;split at h1<;>cases h1
   | rem y=>cases h1
  show _+(0+_)+6*(cat (h++[x])).length<=_;rw[eG,Str.length_append];walk_at "o"
 | fl=>
  have h1:=xB (rs:=rs) (h:=h);show _+6*0<=_;walk_at "o"
theorem tN(hd:Hd)(h:List Str):(hd.held h).length<=h.length+1:=by
 cases hd with
 | keep=>exact Nat.le_succ _
 | add x=>show(h++[x]).length<=_;rw[Ae];exact AG _
 | fl=>exact AB _
theorem mI(hd:Hd)(rs:Bool)(h:List Str):(hd.out rs h).length<=1:=by
 cases hd with
 | keep=>exact AB _
 | add x=>exact AB _
 | fl=>
  show(if rs=true then cW h else[]).length<=_;unfold cW
  split
  ·split<;>simp
  ·simp
end
theorem zV(r:Str)(T:String):cF r T≠"":=λ e=>by
 have h:=congrArg Str.length e;unfold cF at h;simp only[Str.length_append]at h;have h1:("cannot serialize ":Str).length=17:=by decide +kernel
 have h2:("":Str).length=0:=rfl;walk_at "o"
noncomputable def OcX(o:Oc)(x:Option Str):Prop:=(x=none/\o.msg≠"")\/∃ t,x=some t/\o.msg=""
theorem aDx(o:Oc):OcX o (bH "m" o):=by
 cases o with
 | plain=>exact .inr ⟨_,rfl,rfl⟩
 | text x=>exact .inr ⟨_,rfl,rfl⟩
 | bad T r=>exact .inl ⟨rfl,zV r T⟩
theorem aDy{W:Wd}{nw:Lg}{v:Value}{o:Oc}(h:CoV W nw v o):OcX o (bL o):=by
 cases o with
 | plain=>exact h.elim
 | text x=>exact .inr ⟨_,rfl,rfl⟩
 | bad T r=>exact .inl ⟨rfl,zV r T⟩
noncomputable def dA(ig i:Nat)(l mark msg:Str):Str:=
 if 0<ig then "" else if i<3 then(if msg="" then mark++"\n" else "")else if i=4 then "\n"++mark else dC l++mark
theorem zY(m:Wm):cM m.remS=cM m:=by
 unfold Wm.remS Wm.rem
 split
 ·split
  ·rfl
  ·split<;>rfl
 ·rfl
section
variable {rw:Bool}{k i:Nat}{ns:List Str}{m:Wm}
theorem qT(V:Inv4 rw k i ns (cM m))(hi:i<=4){o:Oc}{x:Option Str}(h:OcX o x):cat (m.remW x)=dA m.ig i (lh i m.held) (Oc.mark x) o.msg:=by
 have hrs:m.rs=decide (3<=i):=V.rs;have hrd:m.rd=decide (i=4):=V.rd;unfold Wm.remW dA
 by_cases hg:m.ig=0
 ·rw[if_pos hg,if_neg (by walk_at "o")];unfold Wm.rem0 Wm.rem1 Wm.fl;rw[hrs,hrd,bP]
  by_cases h3:i<3
  ·have e1:decide (i=4)=false:=decide_eq_false (by walk_at "o");have e2:decide (3<=i)=false:=decide_eq_false (by walk_at "o");rw[e1,e2,if_pos h3];rcases h with⟨rfl,h⟩ | ⟨t,rfl,h⟩
   ·rw[if_neg h];rfl
   ·rw[if_pos h];show Str.empty++cat ([t]++[("\n":Str)])=t++"\n";rw[bP,iC,iC];exact aBZ _
  ·have e2:decide (3<=i)=true:=decide_eq_true (by walk_at "o");rw[e2,if_neg h3];have first:cat (if decide (i=4)=true then[("\n":Str)]else if true=true then cW m.held else[])++Oc.mark x=if i=4 then "\n"++Oc.mark x else dC (lh i m.held)++Oc.mark x:=by
    by_cases h4:i=4
    ·rw[if_pos (decide_eq_true h4),if_pos h4,iC]
    ·have h5:i=3:=by walk_at "o"
     rw[if_neg (by simpa using h4),if_neg h4,h5,tI,if_pos rfl,wI]
   rw[←first];rcases h with⟨rfl,h⟩ | ⟨t,rfl,h⟩
   ·rfl
   ·exact congrArg (_++·) (iC t)
 ·rw[if_neg hg,if_pos (by walk_at "o")]
  rfl
theorem sO(V:Inv4 rw k i ns (cM m))(hi:i<=4):m.remS.held=if m.ig=0/\i=3 then[]else m.held:=by
 have hrs:m.rs=decide (3<=i):=V.rs;have hrd:m.rd=decide (i=4):=V.rd;unfold Wm.remS Wm.rem
 by_cases hg:m.ig=0
 ·rw[if_pos hg,hrs,hrd]
  by_cases h4:i=4
  ·rw[if_pos (decide_eq_true h4),if_neg (by walk_at "o")]
  ·rw[if_neg (by simpa using h4)]
   by_cases h3:3<=i
   ·rw[if_pos (decide_eq_true h3)]
    by_cases e3:i=3
    ·rw[if_pos ⟨hg,e3⟩]
    ·rw[if_neg (λ h=>e3 h.2)];exact absurd hi (by walk_at "o")
   ·rw[if_neg (by simpa using h3),if_neg (by walk_at "o")]
 ·rw[if_neg hg,if_neg (λ h=>hg h.1)]
end
theorem dE{W:Wd}{q out:Addr}:∀(xs outs:List Str),(bJ W q out).pushes outs xs=(outs++xs:List Str)
 | [],outs=>(Aj outs).symm
 | x::xs,outs=>by
  have h:=dE (W:=W) (q:=q) (out:=out) xs (outs++[x]);rw[Ai]at h;exact h
structure W3 where
 w:Wn
 q:Addr
 out:Addr
 xt:Addr
 com:Bool
 m:Wm
 outs:List Str
noncomputable abbrev W3.own(W:Wd)(r:W3):Lg:=[(r.q,eE "list.append" (.ref r.out)),(r.out,aB r.outs),(r.xt,bI W Tx 1)]
noncomputable def W3.led(W:Wd)(rw:Bool)(r:W3):Lg:=aC W r.w ⟨r.com,rw,.ref r.xt⟩ r.q r.m (r.own W)
theorem W3.open_{W:Wd}{rw:Bool}(r:W3)(N:Lg):(r.led W rw++N).Perm (aC W r.w ⟨r.com,rw,.ref r.xt⟩ r.q r.m ((bJ W r.q r.out).L r.outs++((r.xt,bI W Tx 1)::N))):=by
 show(r.led W rw++N).Perm (aC W r.w ⟨r.com,rw,.ref r.xt⟩ r.q r.m ([(r.q,eE "list.append" (.ref r.out)),(r.out,aB r.outs)]++((r.xt,bI W Tx 1)::N)));dsimp only[W3.led,W3.own,aC]
 simp only[Ar,Ai,Ax]
 exact .refl _
noncomputable def cX(d:Addr)(t:Tok×Tok×Tok):Cal->List Value
 | .ns p u=>[.str "ns" t.1,.str p t.2.1,.str u t.2.2]
 | .start x _=>[.str "start" t.1,.str x t.2.1,.ref d]
 | .fin x=>[.str "end" t.1,.str x t.2.1]
 | .rem y=>[.str "remark" t.1,.int y t.2.1]
 | .txt x=>[.str "text" t.1,.str x t.2.1]
noncomputable def aA2:Cal->Str
 | .ns _ _=>"ns"
 | .start _ _=>"start"
 | .fin _=>"end"
 | .rem _=>"remark"
 | .txt _=>"text"
theorem eD(d:Addr)(t:Tok×Tok×Tok)(c:Cal):(cX d t c)[0]?=some (.str (aA2 c) t.1):=by cases c<;>rfl
theorem aAE{d:Addr}{c:Cal}{o:Obj}(h:bO d c o):∃ t,aJ (cX d t c) o:=by
 cases c with
 | ns p u=>obtain⟨t0,t1,t2,h⟩:=h;exact⟨(t0,t1,t2),h⟩
 | start x j=>obtain⟨t0,t1,h⟩:=h;exact⟨(t0,t1,t1),h⟩
 | fin x=>obtain⟨t0,t1,h⟩:=h;exact⟨(t0,t1,t1),h⟩
 | rem y=>obtain⟨t0,t1,h⟩:=h;exact⟨(t0,t1,t1),h⟩
 | txt x=>obtain⟨t0,t1,h⟩:=h;exact⟨(t0,t1,t1),h⟩
theorem aAw{d:Addr}{t:Tok×Tok×Tok}{c:Cal}{o:Obj}(h:aJ (cX d t c) o):bO d c o:=by
 cases c with
 | ns p u=>exact⟨_,_,_,h⟩
 | start x j=>exact⟨_,_,h⟩
 | fin x=>exact⟨_,_,h⟩
 | rem y=>exact⟨_,_,h⟩
 | txt x=>exact⟨_,_,h⟩
noncomputable def CA.at(W:Wd)(r:CA):Lg:=match r.c with | .start _ _=>[(r.d,IsD W r.d (atV r.l))] | _=>[]
noncomputable abbrev CA.opn(W:Wd)(r:CA)(t:Tok×Tok×Tok):Lg:=(r.a,aJ (cX r.d t r.c))::r.at W
theorem CA.led_eq(W:Wd)(r:CA):r.led W=(r.a,bO r.d r.c)::r.at W:=rfl
theorem Sta.openCal{r:CA}(S:Sta W G env loc (r.led W++N) s):∃ t,Sta W G env loc (r.opn W t++N) s:=by
 rw[CA.led_eq]at S;obtain⟨o,ho,h⟩:=S.get (.head _);obtain⟨t,h⟩:=aAE h;exact⟨t,S.tell (c':=aJ (cX r.d t r.c)) .head λ o' ho' _=>by rw[ho]at ho';cases ho';exact h⟩
theorem Sta.closeCal{r:CA}{t:Tok×Tok×Tok}(S:Sta W G env loc (r.opn W t++N) s):Sta W G env loc (r.led W++N) s:=by
 rw[CA.led_eq];exact S.tell (c':=bO r.d r.c) .head λ o _ ho=>aAw ho
noncomputable def fT(W:Wd)(rw:Bool)(r:CA)(t:Tok×Tok×Tok)(a a':Ab)(hd:Hd)(body:List Str):Prop:=
 ∀{G:Gens} {env:Env} {loc:Loc} {N:Lg} {s:Ac} {A:AJ} {E:Value->Ac->Prop} {Q:Value->Ac->Prop} {x:W3} {c?:Option Addr},Aok 30 A->cM x.m=a->x.m.held.length<=Au->(cat x.m.held).length<=txL->x.outs.length<=15000000->
  Sta W G env loc (r.opn W t++(x.led W rw++(bA 116 bE aN c?++N))) s->
  (∀ m' c? s',cM m'=a'->m'.held=hd.held x.m.held->Sta W G env loc (r.opn W t++(({ x with m:=m',outs:=x.outs++(hd.out x.m.rs x.m.held++body) }:W3).led W rw++(bA 116 bE aN c?++N))) s'->Q .none s')->
  Ad W.M A (call (.ref 199) [.ref x.w.x,.ref r.a]) Q E s
theorem fX{rw:Bool}{r:CA}{t:Tok×Tok×Tok}{a a':Ab}{hd:Hd}{body:List Str}(h:∀ AT,AT=r.at W->∀{G:Gens} {env:Env} {loc:Loc} {N:Lg} {s:Ac} {A:AJ} {E:Value->Ac->Prop} {Q:Value->Ac->Prop} {x:W3} {c?:Option Addr},Aok 30 A->cM x.m=a->x.m.held.length<=Au->(cat x.m.held).length<=txL->x.outs.length<=15000000-> Sta W G env loc (aC W x.w ⟨x.com,rw,.ref x.xt⟩ x.q x.m ((bJ W x.q x.out).L x.outs++((x.xt,bI W Tx 1)::(r.a,aJ (cX r.d t r.c))::(AT++(bA 116 bE aN c?++N))))) s-> (∀ m' c? s' o',cM m'=a'->m'.held=hd.held x.m.held->o'=x.outs++(hd.out x.m.rs x.m.held++body)->Sta W G env loc (aC W x.w ⟨x.com,rw,.ref x.xt⟩ x.q m' ((bJ W x.q x.out).L o'++((x.xt,bI W Tx 1)::(r.a,aJ (cX r.d t r.c))::(AT++(bA 116 bE aN c?++N))))) s'->Q .none s')-> Ad W.M A (call (.ref 199) [.ref x.w.x,.ref r.a]) Q E s):fT W rw r t a a' hd body:=by
 intro G env loc N s A E Q x c? hA h1 h2 h3 h4 S k;refine h _ rfl hA h1 h2 h3 h4 ((S.perm (nw':=x.led W rw++(r.opn W t++(bA 116 bE aN c?++N))) (by walk_at "perm")).perm (x.open_ _)) ?_;intro m' c2 s' o' e1 e2 e3 S2;subst e3;exact k m' c2 s' e1 e2 ((S2.perm (W3.open_ ({ x with m:=m',outs:=x.outs++(hd.out x.m.rs x.m.held++body) }:W3) _).symm).perm (by walk_at "perm"))
theorem Inv4.lens{rw:Bool}{k i:Nat}{ns:List Str}{a:Ab}{m:Wm}(V:Inv4 rw k i ns a)(hk:k<=300)(hn:ns.length<=200)(e:cM m=a):m.ps.length<=300/\m.nl.length<=300/\m.dl.length<=300/\m.ps≠[]/\m.nl≠[]/\m.dl≠[]/\∀ lv∈m.nl,lv.ps.length<=1000:=by
 subst e;have h1:m.ps.length=ns.length-m.ig+1:=V.ps;have h2:(m.dl.map Lv.val).length=ns.length-m.ig+1:=V.dl;have h3:=V.nss.len;have h4:(bF m).nss.length=m.nl.length:=Al ..;have h5:=V.nz;rw[Al]at h2;refine⟨by walk_at "o",?_,by walk_at "o",λ e=>?_,λ e=>?_,λ e=>?_,λ lv hlv=>?_⟩
 ·rw[←h4];exact An h3.1 (by show ns.length-m.ig+2<=_;walk_at "o")
 ·rw[e]at h1;cases h1
 ·have h:=h3.2;change _<=(bF m).nss.length at h;rw[h4,e]at h;exact absurd h (by simp)
 ·rw[e]at h2;cases h2
 ·have h6:lv.val∈(bF m).nss:=Ah.mpr ⟨_,hlv,rfl⟩;have h7:lv.val.length<=(aX (bF m).nss).length:=jY h6;have h8:lv.val.length=lv.ps.length:=Al ..;change (aX (bF m).nss).length<=_ at h5;walk_at "o"
theorem Tx_at:∀ x∈nm4,(x="x"->Tx x=true)/\(x≠"x"->Tx x=false):=by decide +kernel
section
variable {rw:Bool}{k i i1:Nat}{ns ns1:List Str}{a:Ab}
theorem t_txt{ca d:Addr}{x:Str}{l:List (Str×Str×Tok)}{t:Tok×Tok×Tok}(I:IsC W):fT W rw ⟨ca,.txt x,d,l⟩ t a a (if a.ig=0 then .add x else .keep) []:=by
 refine fX ?_;intro AT hAT G env loc N s A E Q r c? hA e h1 h2 h3 S k;subst e;refine aC2 (t0:=t.1) (t1:=t.2.1) (x:=x) I (hA.le (by decide)) (.tail _ (.tail _ (.tail _ (.head _)))) S λ L s' S'=>?_;have hA':=hA.deeper (env:=eW L);refine data_ I S' (hA'.le (by decide)) h1 λ s' S2=>?_;refine k (r.m.data x) c? s' r.outs ?_ ?_ ?_ (Sta.back (S2.perm (by simp only[aC,bJ];walk_at "perm")) S.eok)
 ·unfold Wm.data
  split<;>rfl
 ·show(r.m.data x).held=(if r.m.ig=0 then Hd.add x else .keep).held r.m.held;unfold Wm.data
  split<;>rfl
 ·show r.outs=r.outs++((if r.m.ig=0 then Hd.add x else .keep).out r.m.rs r.m.held++[])
  split<;>exact(Aj _).symm
theorem t_ns{ca d:Addr}{p u:Str}{l:List (Str×Str×Tok)}{t:Tok×Tok×Tok}(I:IsC W)(hk:k<=300)(hn:ns.length<=200)(V:Inv4 rw k i ns a)(hg:a.ig=0):fT W rw ⟨ca,.ns p u,d,l⟩ t a ⟨⟨a.n.decl,cG (u,p) a.n.nss,a.n.pm⟩,a.ps,a.rs,a.rd,a.ig⟩ .fl []:=by
 refine fX ?_;intro AT hAT G env loc N s A E Q r c? hA e h1 h2 h3 S k;obtain⟨l1,l2,l3,l4,l5,l6,l7⟩:=V.lens hk hn e;subst e;refine zN (t0:=t.1) (t1:=t.2.1) (t2:=t.2.2) (p:=p) (u:=u) I (hA.le (by decide)) (.tail _ (.tail _ (.tail _ (.head _)))) S λ L s' S'=>?_;have hA':=hA.deeper (env:=eW L);refine ns_ (K:=bJ W r.q r.out) (σ:=r.outs) (N:=(env.locals,aI loc)::(r.xt,bI W Tx 1)::(ca,aJ (cX d t (.ns p u)))::(AT++(bA 116 bE aN c?++N))) I (hA'.le (by decide)) hg h1 h2 (by show r.outs.length+1<=16000000;walk_at "o") (AA l5).symm (l7 _ (List.getLast_mem l5)) (S'.perm (by simp only[aC,bJ];walk_at "perm")) λ a' s' S2=>?_;rw[dE]at S2;refine k { r.m with held:=[],nl:=cQ (a',u,p) r.m.nl } c? s' (r.outs++r.m.fl) ?_ rfl ?_ (Sta.back (S2.perm (by simp only[aC,bJ];walk_at "perm")) S.eok)
 ·unfold cM bF;rw[fR]
 ·rw[Aj];rfl
theorem t_nsI{ca d:Addr}{p u:Str}{l:List (Str×Str×Tok)}{t:Tok×Tok×Tok}(I:IsC W)(hg:a.ig≠0):fT W rw ⟨ca,.ns p u,d,l⟩ t a a .keep []:=by
 refine fX ?_;intro AT hAT G env loc N s A E Q r c? hA e h1 h2 h3 S k;subst e;refine zN (t0:=t.1) (t1:=t.2.1) (t2:=t.2.2) (p:=p) (u:=u) I (hA.le (by decide)) (.tail _ (.tail _ (.tail _ (.head _)))) S λ L s' S'=>?_;have hA':=hA.deeper (env:=eW L);refine nsI_ I (hA'.le (by decide)) hg S' λ s' S2=>?_;exact k r.m c? s' r.outs rfl rfl (Aj _).symm (Sta.back (S2.perm (by simp only[aC,bJ];walk_at "perm")) S.eok)
theorem t_fin{ca d:Addr}{x tx:Str}{sv:NSt}{l:List (Str×Str×Tok)}{t:Tok×Tok×Tok}(I:IsC W)(hk:k<=300)(hn:ns.length<=200)(V:Inv4 rw k i ns a)(hg:a.ig=0)(hx:x∈nm4)(hq:qnV rw a.n (nmU x) (nmL x)=some (tx,sv))(htl:tx.length<=2000):fT W rw ⟨ca,.fin x,d,l⟩ t a ⟨⟨sv.decl.dropLast,a.n.nss.dropLast,sv.pm⟩,a.ps.dropLast,a.rs,decide (a.ps.length=2),a.ig⟩ .fl [oG tx]:=by
 refine fX ?_;intro AT hAT G env loc N s A E Q r c? hA e h1 h2 h3 S k;obtain⟨l1,l2,l3,l4,l5,l6,l7⟩:=V.lens hk hn e;have hnk:=V.good.nsOk V.ne (V.nsS hk);subst e;refine zO (t0:=t.1) (t1:=t.2.1) (tag:=x) I (hA.le (by decide)) (.tail _ (.tail _ (.tail _ (.head _)))) S λ L s' S'=>?_;have hA':=hA.deeper (env:=eW L);refine end_ (K:=bJ W r.q r.out) (σ:=r.outs) (N:=(env.locals,aI loc)::(r.xt,bI W Tx 1)::(ca,aJ (cX d t (.fin x)))::(AT++(bA 116 bE aN c?++N))) I (hA'.le (by decide)) (aAo (Am _ hx)) hnk hq htl hg h1 h2 (by show r.outs.length+2<=16000000;walk_at "o") (AA l5).symm (AA l6).symm (AA l4).symm (by walk_at "o") (by walk_at "o") (by walk_at "o") (S'.perm (by simp only[aC,bJ];walk_at "perm")) λ dl pm s' hs S2=>?_;rw[dE]at S2;subst hs;refine k (r.m.done dl pm) c? s' (r.outs++(r.m.fl++[oG tx])) ?_ rfl rfl (Sta.back (S2.perm (by simp only[aC,bJ];walk_at "perm")) S.eok);unfold cM bF Wm.done;rw[List.map_dropLast,List.map_dropLast]
theorem aC5{ca d:Addr}{x:Str}{l:List (Str×Str×Tok)}{t:Tok×Tok×Tok}(I:IsC W)(hg:a.ig≠0):fT W rw ⟨ca,.fin x,d,l⟩ t a ⟨a.n,a.ps,a.rs,a.rd,a.ig-1⟩ .keep []:=by
 refine fX ?_;intro AT hAT G env loc N s A E Q r c? hA e h1 h2 h3 S k;subst e;refine zO (t0:=t.1) (t1:=t.2.1) (tag:=x) I (hA.le (by decide)) (.tail _ (.tail _ (.tail _ (.head _)))) S λ L s' S'=>?_;have hA':=hA.deeper (env:=eW L);refine endI_ I (hA'.le (by decide)) hg S' λ ti s' S2=>?_;exact k { r.m with ig:=r.m.ig-1,ti:=ti } c? s' r.outs rfl rfl (Aj _).symm (Sta.back (S2.perm (by simp only[aC,bJ];walk_at "perm")) S.eok)
theorem sC{ca d:Addr}{x:Str}{j:Nat}{l:List (Str×Str×Tok)}{t:Tok×Tok×Tok}(I:IsC W)(hT:a.ig≠0\/Tx x=true):fT W rw ⟨ca,.start x j,d,l⟩ t a ⟨a.n,a.ps,a.rs,a.rd,a.ig+1⟩ .keep []:=by
 refine fX ?_;intro AT hAT G env loc N s A E Q r c? hA e h1 h2 h3 S k;subst e;refine zM (t0:=t.1) (t1:=t.2.1) (tag:=x) (d:=d) I (hA.le (by decide)) (.tail _ (.tail _ (.tail _ (.head _)))) S λ L s' S'=>?_;have hA':=hA.deeper (env:=eW L);refine aBm (xt:=r.xt) I (hA'.le (by decide)) rfl (.tail _ (.tail _ (.tail _ (.head _)))) hT S' λ ti s' S2=>?_;exact k { r.m with ig:=r.m.ig+1,ti:=ti } c? s' r.outs rfl rfl (Aj _).symm (Sta.back (S2.perm (by simp only[aC,bJ];walk_at "perm")) S.eok)
theorem aBg{ca d:Addr}{x:Str}{j:Nat}{res:List (Str×Str)}{sv:NSt}{l:List (Str×Str×Tok)}{t:Tok×Tok×Tok}(I:IsC W)(C:CodeHd W.B 118 116)(hk:k<=300)(hn:ns.length<=200)(V:Inv4 rw k i ns a)(hg:a.ig=0)(hT:Tx x=false)(hst:StOk rw a.n.opn x l res sv)(hp:a.ps≠[]):fT W rw ⟨ca,.start x j,d,l⟩ t a ⟨⟨sv.decl,a.n.nss++[[]],sv.pm⟩,a.ps++[a.ps.getLast hp],true,a.rd,a.ig⟩ .fl (bS (dR res x) (xnR sv.decl++atR res (atQ l))):=by
 refine fX ?_;intro AT hAT G env loc N s A E Q r c? hA e h1 h2 h3 S k;obtain⟨l1,l2,l3,l4,l5,l6,l7⟩:=V.lens hk hn e;subst e;subst hAT;refine zM (t0:=t.1) (t1:=t.2.1) (tag:=x) (d:=d) I (hA.le (by decide)) (.tail _ (.tail _ (.tail _ (.head _)))) S λ L s' S'=>?_;have hA':=hA.deeper (env:=eW L);refine aBj (c?:=c?) (c:=⟨r.com,rw,.ref r.xt⟩) (K:=bJ W r.q r.out) (σ:=r.outs) (l:=l) (N:=(r.xt,bI W Tx 1)::(env.locals,aI loc)::(ca,aJ (cX d t (.start x j)))::N) I C (hA'.le (by decide)) rfl (.head _) hg hT hst (AA l4).symm (by walk_at "o") (by walk_at "o") (by walk_at "o") h1 h2 (by show r.outs.length+4<=16000000;walk_at "o") (S'.perm ?_) λ c' dl pm a' s' hs S2=>?_
 ·show List.Perm (aC W r.w ⟨r.com,rw,.ref r.xt⟩ r.q r.m ((env.locals,aI loc)::((bJ W r.q r.out).L r.outs++((r.xt,bI W Tx 1)::((ca,aJ (cX d t (.start x j)))::(d,IsD W d (atV l))::(bA 116 bE aN c?++N)))))) _;simp only[aC,bJ]
  walk_at "perm"
 rw[dE]at S2;subst hs;refine k (r.m.begun dl pm (r.m.ps.getLast l4) a') (some c') s' (r.outs++(r.m.fl++bS (dR res x) (xnR (bF { r.m with dl:=dl,pm:=pm }).decl++atR res (atQ l)))) ?_ rfl rfl (Sta.back (S2.perm ?_) S.eok)
 ·unfold cM bF Wm.begun;simp only[Ao]
  rfl
 ·show List.Perm _ ((env.locals,aI loc)::aC W r.w ⟨r.com,rw,.ref r.xt⟩ r.q (r.m.begun dl pm (r.m.ps.getLast l4) a') ((bJ W r.q r.out).L (r.outs++(r.m.fl++bS (dR res x) (xnR (bF { r.m with dl:=dl,pm:=pm }).decl++atR res (atQ l))))++((r.xt,bI W Tx 1)::((ca,aJ (cX d t (.start x j)))::(d,IsD W d (atV l))::(bA 116 bE aN (some c')++N)))));simp only[aC,bJ]
  walk_at "perm"
end
section
local macro_rules | `(tactic| walk_at $s:str) => Mine.goAt Mine.tabD s
section
local macro_rules | `(tactic| walk_at $s:str) => Mine.goAt Mine.tabF s
section
local macro_rules | `(tactic| walk_at $s:str) => Mine.goAt Mine.tabG s
set_option hygiene false in
local macro_rules | `(tactic| walk_at "iK") => `(tactic| intro Kq hKn hKr)
noncomputable def lFor:Stmt:=(aH cJ).getD 5 (.Pass default)
noncomputable def lB:List Stmt:=iL lFor
noncomputable abbrev aV(L:Addr):Env:=envOfC "law" (aD cJ) L 218 (.ref 217)
section
variable {rw:Bool}{k i i1:Nat}{ns ns1:List Str}{a:Ab}
theorem lE{r:CA}{t:Tok×Tok×Tok}{a':Ab}{hd:Hd}{body:List Str}(e:Ef rw k i r.c i1 ns1 a a' hd body)(T:fT W rw r t a a' hd body):∃ a' hd body,Ef rw k i r.c i1 ns1 a a' hd body/\fT W rw r t a a' hd body:=⟨_,_,_,e,T⟩
theorem aC3{b b1:Nat}{r:CA}{t:Tok×Tok×Tok}(I:IsC W)(C:CodeHd W.B 118 116)(hk:k<=300)(hn:ns.length<=200)(St:Step i ns b r.c i1 ns1 b1)(V:Inv4 rw k i ns a)(hrw:∀ x j,r.c=.start x j->atQ r.l=fG j)(hrem:∀ y,r.c≠.rem y):∃ a' hd body,Ef rw k i r.c i1 ns1 a a' hd body/\fT W rw r t a a' hd body:=by
 obtain⟨ca,c,d,l⟩:=r;have hor:=Step.or (cl:=c) St;clear St;rcases hor with⟨p,u,rfl,h2,rfl,h3⟩ | ⟨x,j,rfl,h2,h3,h4,rfl,rfl⟩ | ⟨h1,rfl,rfl⟩ | ⟨x,rfl,rfl,rfl,h4⟩
 ·by_cases hg:a.ig=0
  ·exact lE (p_ns V hg h2 h3) (t_ns I hk hn V hg)
  ·exact lE (p_nsI V hg h3) (t_nsI I hg)
 ·have hx:=Tx_at x h2
  by_cases hg:a.ig=0
  ·by_cases hxx:x="x"
   ·rcases h4 with⟨_,_,h4⟩ | ⟨rfl,h4⟩
    ·exact absurd hxx h4
    ·exact lE (sT V h4 h2 (.inr hxx)) (sC I (.inr (hx.1 hxx)))
   ·have hp:a.ps≠[]:=λ e=>by have h:=V.ps;rw[e]at h;cases h
    obtain⟨res,sv,hst,h5⟩:=aBB V hk hg h2 hxx h3 (h4.imp (λ h=>⟨h.1,h.2.1⟩) id) (hrw x j rfl);exact lE (h5 _) (aBg I C hk hn V hg (hx.2 hxx) hst hp)
  ·rcases h4 with⟨_,h4,_⟩ | ⟨rfl,h4⟩
   ·have:=V.igz;rw[h4]at this;exact absurd (Nat.le_zero.mp this) hg
   ·exact lE (sT V h4 h2 (.inl hg)) (sC I (.inl hg))
 ·cases c with
  | txt x=>exact lE (p_txt V) (t_txt I)
  | rem y=>exact absurd rfl (hrem y)
  | ns p u=>exact h1.elim
  | start x j=>exact h1.elim
  | fin x=>exact h1.elim
 ·by_cases hg:a.ig=0
  ·obtain⟨tx,sv,h1,h2,h3⟩:=p_fin V hk hg h4;exact lE (h3) (t_fin I hk hn V hg (V.nm x (by simp)) h1 h2)
  ·exact lE (aDu V hg h4) (aC5 I hg)
theorem Sta.appendI{a:Addr}{ns:List Int}{n:Int}{t:Tok}{Q:Value->Ac->Prop}(S:Sta W G env loc nw s)(U:Upd a (aZ ns) (aZ (ns++[n])) nw nw')(hz:ns.length<=Au)(h:∀ s',Sta W G env loc nw' s'->Q .none s'):Ad W.M A (call (.builtin "list.append") [.ref a,.int n t]) Q E s:=by
 obtain⟨vs,nw1,ht,U1,U2,S1⟩:=S.openI U;obtain⟨nw2,U3,U4⟩:=U2.via2 (aA (vs++[.int n t]));exact S1.append U3 (by rw[Mine.IntsAre.length' ht];exact hz) λ s' S2=>h _ (S2.tell U4 λ o _ ho=>⟨_,Mine.IntsAre.snoc ht n t,ho⟩)
end
theorem mN{W:Wd}{sh:Lg}{it:Addr}:∀{xs:List (Addr×List Str)} {own:Lg} {og:Gens},cN W sh it (xs.map λ r=>.ref r.1) own og->YdR W sh it (λ(q:Addr×List Str) v=>v=.ref q.1) xs own og
 | [],_,_,H=>H
 | q::r,_,_,H=>⟨H.1,λ A R GR s Q E hA S hQ=>H.2 A R GR s Q E hA S λ own' og' s' S' H'=>hQ _ own' og' s' rfl S' (mN (xs:=r) H')⟩
noncomputable abbrev lJ(os:List (Addr×List Str)):Lg:=os.map λ r=>(r.1,aB r.2)
noncomputable abbrev gM(os:List (Addr×List Str)):List Value:=os.map λ r=>.ref r.1
theorem seen_{L oc sc ol:Addr}{v:Option Value}{os:List (Addr×List Str)}{Q:Flow->Ac->Prop}(I:IsC W)(hA:Aok 9 A)(hoc:ClO (aV L) .cell "outs" oc)(hsc:ClO (aV L) .cell "seen" sc)(hl:os.length<=10)(hz:∀ r∈os,r.2.length<=Au)(S':Sta W G (aV L) loc ((oc,aE (some (.ref ol)))::(ol,aA (gM os))::(sc,aE v)::(lJ os++N)) s)(k:∀ sl s',Sta W G (aV L) loc ((sl,aZ (os.map λ r=>(r.2.length:Int)))::(sc,aE (some (.ref sl)))::(oc,aE (some (.ref ol)))::(ol,aA (gM os))::(lJ os++N)) s'-> Ad W.M A (execs (lB.drop 1) (aV L)) Q E s'):Ad W.M A (execs (lB.drop 0) (aV L)) Q E s:=by
 refine aF rfl ?_;refine wpAny_Assign_Name ?_ (by kernel_rfl);refine gP (cl:=[]) ["out"] (by kernel_rfl) (by kernel_rfl) rfl rfl ?_ (by intro _;kernel_rfl);refine Sta.cell S' hoc (by walk_at "mem") ?_;refine S'.iterL (.tail _ (.head _)) ?_;clear S';intro it s' S';refine CompK.mk S' ?_;intro b Cc s1 eok S1;refine dX rfl rfl jH (S1.get (.tail _ (.tail _ (.head _)))) ?_;generalize hfr:((aV L).locals,aI loc)=fr at S1;have Y:LY W [(ol,aA (gM os))] it (gM os) [(it,bM ol 0)]:=dJ (own₀:=[]) (by simp) (gM os) 0 rfl;have S2:=(S1.tell (c':=aZ []) .head λ o _ ho=>⟨_,.nil,ho⟩).perm (nw':=((b,aZ [])::fr::(oc,aE (some (.ref ol)))::(sc,aE v)::(lJ os++N))++([(ol,aA (gM os))]++[(it,bM ol 0)])) (by walk_at "perm");clear S' S1;refine rV (sh:=[(ol,aA (gM os))]) (f:=λ(r:Addr×List Str)=>.ref r.1) (hA.le (by decide)) (G:=G) (og:=[]) (own:=[(it,bM ol 0)]) (λ(v:Option Value) _=>[("out",v)]) (λ _ dn=>(b,aZ (dn.map λ r=>(r.2.length:Int)))::fr::(oc,aE (some (.ref ol)))::(sc,aE v)::(lJ os++N)) (λ _ _=>True) (compTurn_list1 ..) (mN Y.yields) none trivial (by rw[Aj];exact S2) ?_ ?_
 rotate_left
 ·refine pr2 ?_;intro ra o dn rest tl tg vk s1 K hq _ S' kk;clear S2;have hrm:(ra,o)∈os:=by rw[hq];simp
  have hmq:(ra,aB o)∈(lJ os++N)++((ol,aA (gM os))::tl):=Am _ (Am _ (Ah.mpr ⟨(ra,o),hrm,rfl⟩));have hdl:(dn.map λ r=>(r.2.length:Int)).length<=100:=by
   have:=congrArg AV hq;simp only[Al,Ae]at this ⊢;walk_at "o"
  have e1:((dn++[(ra,o)]).map λ r=>(r.2.length:Int))=(dn.map λ r=>(r.2.length:Int))++[(o.length:Int)]:=by rw[Ao];rfl
  simp only[Ar,Ax]at S';refine wpAny_assign_Name (S'.store (by walk_at "put") λ s' S'=>?_);refine Aa ?_;refine Call_ ?_ (by kernel_rfl);refine Sta.builtin S' I.b_len kY (by kernel_rfl) ?_;refine PyProof.Rows.callWith_builtin1 ?_ (by kernel_rfl) (by kernel_rfl);walk_at "c";refine Sta.lenT S' (by walk_at "mem") (hz _ hrm) ?_;clear S';intro t1 s' S';walk_at "c";refine Aa (Sta.appendI S' .head (by walk_at "osz") λ s' S'=>Af ?_);exact kk (some (.ref ra)) _ trivial (S'.perm (nw':=((b,aZ ((dn++[(ra,o)]).map λ r=>(r.2.length:Int)))::fr::(oc,aE (some (.ref ol)))::(sc,aE v)::(lJ os++N))++([(ol,aA (gM os))]++tl)) (by rw[e1];walk_at "perm"))
 ·intro vk s1 _ S1;subst hfr;refine CompEnd.mk (nw':=(b,aZ (os.map λ r=>(r.2.length:Int)))::(oc,aE (some (.ref ol)))::(sc,aE v)::(lJ os++N)++[(ol,aA (gM os))]) (S1.perm (by walk_at "perm")) λ s3 S3=>?_;refine S3.storeC (nw':=(b,aZ (os.map λ r=>(r.2.length:Int)))::(oc,aE (some (.ref ol)))::(sc,aE (some (.ref b)))::(lJ os++N)++[(ol,aA (gM os))]) hsc (.tail (.tail .head)) ?_;intro s4 S4;walk_at "ke";exact k b s4 (S4.perm (by walk_at "perm"))
theorem nE{n x:Nat}{dn rest:List Nat}(h:Bg 0 n=dn++x::rest):x=dn.length/\x<n:=by
 have h1:=congrArg (λ l:List Nat=>l[dn.length]?) h;have h2:=congrArg AV h;simp only[Ae,A9,List.length_range']at h2;have h3:dn.length<n:=by walk_at "o"
 have h4:(Bg 0 n)[dn.length]?=some dn.length:=by rw[List.getElem?_range' h3];simp
 simp only[h4,List.getElem?_append_right (AG _),Nat.sub_self,List.getElem?_cons_zero]at h1;injection h1 with h1
 exact⟨h1.symm,h1▸h3⟩
noncomputable abbrev Grew:=Addr×List Str×List Str
noncomputable abbrev fD(os:List Grew):Lg:=os.map λ r=>(r.1,aB (r.2.1++r.2.2))
noncomputable abbrev fB(os:List Grew):List Value:=os.map λ r=>.ref r.1
noncomputable abbrev dN(os:List Grew):List Int:=os.map λ r=>(r.2.1.length:Int)
theorem incs_{L oc sc ol sl:Addr}{os:List Grew}{p1 p2 p3 p4 p5 p6 p7 p8 p9 p10 p11 p12 p13 p14 p15 p16:Pos}{Q:Value->Ac->Prop}(I:IsC W)(hA:Aok 9 A)(hoc:ClO (aV L) .cell "outs" oc)(hsc:ClO (aV L) .cell "seen" sc)(hl:os.length=3)(hp:(p2.endLine==p11.line)=true)(hz:∀ r∈os,(r.2.1++r.2.2).length<=Au)(hc:∀ r∈os,(cat r.2.2).length<=16000000)(S':Sta W G (aV L) loc ((oc,aE (some (.ref ol)))::(ol,aA (fB os))::(sc,aE (some (.ref sl)))::(sl,aZ (dN os))::(fD os++N)) s)(k:∀ b s',Sta W G (aV L) loc ((b,aB (os.map λ r=>cat r.2.2))::(oc,aE (some (.ref ol)))::(ol,aA (fB os))::(sc,aE (some (.ref sl)))::(sl,aZ (dN os))::(fD os++N)) s'->Q (.ref b) s'):Ad W.M A (eval (.ListComp (.Call (.Attribute (.Constant (.str "") 0 p1) "join" p2) [.Subscript (.Subscript (.Name "outs" p3) (.Name "k" p4) p5) (.Slice (some (.Subscript (.Name "seen" p6) (.Name "k" p7) p8)) none none p9) p10] [] p11) [⟨.Name "k" p12,.Call (.Name "range" p13) [.Constant (.int 3) 0 p14] [] p15,[],0⟩] { kind:=.function,names:=[(Str.ofString ".0",.local),(Str.ofString "k",.local),(Str.ofString "outs",.free),(Str.ofString "seen",.free)],isGenerator:=false,isCoroutine:=false } p16) (aV L)) Q E s:=by
 refine gP (cl:=[("seen",sc),("outs",oc)]) ["k"] (tX (by kernel_rfl) (by decide +kernel) hoc hsc) (by kernel_rfl) rfl rfl ?_ (by intro _;kernel_rfl);walk_at "c";refine Sta.builtin S' I.b_range oM (by kernel_rfl) ?_;walk_at "c";refine Sta.range1 S' ?_;clear S';intro rg s' S';refine Sta.iterRange (a:=0) (b:=3) S' (.head _) (by decide) (by decide) ?_;clear S';intro it s' S';refine CompK.mk S' ?_;intro b Cc s1 eok S1;refine dX rfl rfl zX (S1.get (.tail _ (.tail _ (.head _)))) ?_;generalize hfr:((aV L).locals,aI loc)=fr at S1;have S2:=(S1.tell (c':=aB []) .head λ o _ ho=>⟨_,.nil,ho⟩).sel (nw':=((b,aB [])::fr::(oc,aE (some (.ref ol)))::(ol,aA (fB os))::(sc,aE (some (.ref sl)))::(sl,aZ (dN os))::(fD os++N))++([]++[(it,bU ((0:Nat):Int) ((3-0:Nat):Int))])) (Sel.rest [(rg,qG 0 3)] (by walk_at "perm"));clear S' S1;refine rU (sh:=[]) (f:=λ(k:Nat) t=>.int (k:Int) t) (hA.le (by decide)) (G:=G) (og:=[]) (own:=[(it,bU ((0:Nat):Int) ((3-0:Nat):Int))]) (λ(v:Option Value) _=>[("k",v)]) (λ _ dn=>(b,aB ((os.take dn.length).map λ r=>cat r.2.2))::fr::(oc,aE (some (.ref ol)))::(ol,aA (fB os))::(sc,aE (some (.ref sl)))::(sl,aZ (dN os))::(fD os++N)) (λ _ _=>True) (compTurn_list1 ..) (eL 3 0) none trivial (by rw[Aj];exact S2) ?_ ?_
 rotate_left
 ·intro x dn rest t1 tl tg vk s1 K hq _ S' kk;clear S2;obtain⟨hx,hx3⟩:=nE hq;have hxo:x<os.length:=by walk_at "o"
  have hgo:os[x]?=some os[x]:=List.getElem?_eq_getElem hxo;obtain⟨⟨a,o,y⟩,hr⟩:∃ r,r=os[x]:=⟨_,rfl⟩
  have hrm:(a,o,y)∈os:=hr▸Bb hxo;rw[←hr]at hgo;have g1:(fB os)[x]?=some (.ref a):=by rw[List.getElem?_map,hgo];rfl
  have g2:(dN os)[x]?=some (o.length:Int):=by rw[List.getElem?_map,hgo];rfl
  have hmq:(a,aB (o++y))∈(fD os++N)++tl:=Am _ (Am _ (Ah.mpr ⟨(a,o,y),hrm,rfl⟩));have hyz:=hz _ hrm;have hyc:=hc _ hrm;have hdl:((os.take dn.length).map λ r=>cat r.2.2).length<=100:=by
   rw[Al,List.length_take];walk_at "o"
  have e1:(os.take (dn++[x]).length).map (λ r=>cat r.2.2)=((os.take dn.length).map λ r=>cat r.2.2)++[cat y]:=by
   rw[Ae,Az,←hx,List.take_add_one,hgo,Ao]
   rfl
  simp only[Ar,Ax]at S';refine wpAny_assign_Name (S'.store (by walk_at "put") λ s' S'=>?_);refine Aa ?_;refine nF ?_ rfl (by show(true&&_)=true;rw[hp];rfl);walk_at "c";refine dW ?_;walk_at "c";refine wT ?_;refine aO ?_ (by intro _ _;kernel_rfl);refine Sta.cell S' ⟨by kernel_rfl,rfl,by decide +kernel,by decide +kernel⟩ (c:=oc) (by walk_at "mem") ?_;walk_at "c";refine Sta.sub_list S' (by walk_at "mem") (by walk_at "o") (by walk_at "o") (by rw[BD];exact g1) ?_;rw[evalPart_some];refine aO ?_ (by intro _ _;kernel_rfl);refine Sta.cell S' ⟨by kernel_rfl,rfl,by decide +kernel,by decide +kernel⟩ (c:=sc) (by walk_at "mem") ?_;walk_at "c";refine Sta.subI S' (by walk_at "mem") (j:=x) rfl (by walk_at "o") g2 λ t2=>?_;walk_at "c";refine lG (j:=o.length) S' (by walk_at "mem") hyz rfl ?_;rw[List.drop_left];clear S';intro sl2 s' S';walk_at "c";refine Sta.joinT S' (.head _) rfl (by walk_at "o") ?_;clear S';intro t3 s' S';refine Aa (Sta.appendT (S'.sel (nw':=(b,aB ((os.take dn.length).map λ r=>cat r.2.2))::fr::(oc,aE (some (.ref ol)))::(ol,aA (fB os))::(sc,aE (some (.ref sl)))::(sl,aZ (dN os))::(fD os++N++tl)) (Sel.rest [(sl2,aB y)] (by walk_at "perm"))) .head (by walk_at "osz") λ s' S'=>Af ?_);rw[←e1]at S';exact kk _ _ trivial (S'.perm (by walk_at "perm"))
 ·intro vk s1 _ S1;rw[Aj]at S1;subst hfr;have e1:(os.take (Bg 0 3).length).map (λ r=>cat r.2.2)=os.map λ r=>cat r.2.2:=by
   rw[BH (by rw[List.length_range'];walk_at "o")]
  rw[e1]at S1;exact CompEnd.mk (S1.perm (List.Perm.swap ..)) λ s3 S3=>k b s3 S3
end
end
end
inductive R4
 | tx (x:Str)
 | pr (xs ys:List Str)
structure R4A where
 a:Addr
 b:Addr
 c:Addr
 t:Tok
 r:R4
noncomputable def R4A.val:R4A->Value
 | ⟨_,_,_,t,.tx x⟩=>.str x t
 | ⟨a,_,_,_,.pr _ _⟩=>.ref a
noncomputable def R4A.led:R4A->Lg
 | ⟨_,_,_,_,.tx _⟩=>[]
 | ⟨a,b,c,_,.pr xs ys⟩=>[(a,aJ [.ref b,.ref c]),(b,aB xs),(c,aB ys)]
noncomputable def aP(l:List R4A):Lg:=l.flatMap R4A.led
noncomputable def aM(l:List R4A):List Value:=l.map R4A.val
theorem uZ(l:List R4A)(r:R4A):aP (l++[r])=aP l++r.led:=by
 unfold aP;rw[List.flatMap_append];simp
theorem uY(l:List R4A)(r:R4A):aM (l++[r])=aM l++[r.val]:=Ao
noncomputable def W3.rest(W:Wd)(rw:Bool)(r:W3):Lg:=aC W r.w ⟨r.com,rw,.ref r.xt⟩ r.q r.m [(r.q,eE "list.append" (.ref r.out)),(r.xt,bI W Tx 1)]
noncomputable def W3.rem(r:W3)(x:Option Str):W3:={ r with m:=r.m.remS,outs:=r.outs++r.m.remW x }
theorem Tru.up{W:Wd}{nw nw':Lg}{v:Value}{b:Bool}(h:Tru W nw v b)(k:∀ p∈nw,p∈nw'):Tru W nw' v b:=λ A G env loc n s E Q S h2=>h A G env loc n s E Q S λ p hp=>h2 p (k p hp)
theorem PiV.up{W:Wd}{nw nw':Lg}{v:Value}{o:Oc}(h:PiV W nw v o)(k:∀ p∈nw,p∈nw'):PiV W nw' v o:=by
 cases o with
 | plain=>exact Tru.up h k
 | text x=>exact h
 | bad T r=>exact⟨Tru.up h.1 k,BadV.up h.2 k⟩
theorem CoV.up{W:Wd}{nw nw':Lg}{v:Value}{o:Oc}(h:CoV W nw v o)(k:∀ p∈nw,p∈nw'):CoV W nw' v o:=by
 cases o with
 | plain=>exact h
 | text x=>exact h
 | bad T r=>exact BadV.up h k
section
variable {rw:Bool}{x:W3}
theorem W3.out_perm(r:W3):(r.led W rw).Perm ((r.out,aB r.outs)::r.rest W rw):=by
 dsimp only[W3.led,W3.rest,W3.own,aC]
 walk_at "perm"
theorem Sta.pushR4{tl:Addr}{rs:List R4A}{r:R4A}{Q:Value->Ac->Prop}(hz:rs.length<=10000)(S:Sta W G env loc ((tl,aA (aM rs))::(aP rs++(r.led++N))) s)(h:∀ s',Sta W G env loc ((tl,aA (aM (rs++[r])))::(aP (rs++[r])++N)) s'->Q .none s'):Ad W.M A (call (.builtin "list.append") [.ref tl,r.val]) Q E s:=by
 refine S.append .head (by rw[Av];simp[aM];walk_at "o") λ s' S2=>h s' ?_;rw[uY,uZ,Ai];exact S2
theorem lpi3_{v:Value}{o:Oc}{Q:Value->Ac->Prop}(I:IsC W)(hA:Aok 10 A)(F:Fra A env [])(hv:PiV W N v o)(hz:x.m.held.length<=Au)(hc:(cat x.m.held).length<=txL)(hr:x.outs.length<=15000000)(S:Sta W G env loc (x.led W rw++N) s)(k:∀ t s',Sta W G env loc ((x.rem (bH "m" o)).led W rw++N) s'->Q (.str (x.m.remM o) t) s'):Ad W.M A (call (.ref 206) [.ref x.w.x,v]) Q E s:=by
 refine lpi_ (K:=bJ W x.q x.out) (σ:=x.outs) I hA (F.mono λ _ h=>nomatch h) (hv.up λ p hp=>.tail _ hp) hz hc (by show x.outs.length+3<=16000000;walk_at "o") (S.perm (x.open_ N)) λ t s' S2=>?_;rw[dE]at S2;exact k t s' (S2.perm ((x.rem (bH "m" o)).open_ N).symm)
theorem lco3_{v:Value}{o:Oc}{Q:Value->Ac->Prop}(I:IsC W)(hA:Aok 10 A)(F:Fra A env [])(hcom:x.com=true)(hv:CoV W N v o)(hz:x.m.held.length<=Au)(hc:(cat x.m.held).length<=txL)(hr:x.outs.length<=15000000)(S:Sta W G env loc (x.led W rw++N) s)(k:∀ t s',Sta W G env loc ((x.rem (bL o)).led W rw++N) s'->Q (.str (x.m.remM o) t) s'):Ad W.M A (call (.ref 213) [.ref x.w.x,v]) Q E s:=by
 refine lco_ (K:=bJ W x.q x.out) (σ:=x.outs) I hA (F.mono λ _ h=>nomatch h) hcom (hv.up λ p hp=>.tail _ hp) hz hc (by show x.outs.length+3<=16000000;walk_at "o") (S.perm (x.open_ N)) λ t s' S2=>?_;rw[dE]at S2;exact k t s' (S2.perm ((x.rem (bL o)).open_ N).symm)
theorem aDJ{v:Value}{Q:Value->Ac->Prop}(I:IsC W)(hA:Aok 10 A)(hcom:x.com=false)(S:Sta W G env loc (x.led W rw++N) s)(k:∀ t s',Sta W G env loc (x.led W rw++N) s'->Q (.str "" t) s'):Ad W.M A (call (.ref 213) [.ref x.w.x,v]) Q E s:=
 lcoN_ I hA hcom (S.perm (x.open_ N)) λ t s' S2=>k t s' (S2.perm (x.open_ N).symm)
end
noncomputable abbrev dK(scr wl:Addr)(vk vw:Option Value)(hi de be he:Value)(ba td du:Addr)(vc vt vm vr vs vwr:Option Value):Loc:=[("script",some (.ref scr)),("writers",some (.ref wl)),("k",vk),("writer",vw),("hidden",some hi),("depth",some de),("begun",some be),("held",some he),("bare",some (.ref ba)),("told",some (.ref td)),("due",some (.ref du)),("call",vc),("thing",vt),("marks",vm),("refusals",vr),("words",vs),("written",vwr)]
noncomputable def rIf:Stmt:=lB.getD 1 (.Pass default)
noncomputable def rB:List Stmt:=aH rIf
noncomputable def rFor:Stmt:=rB.getD 4 (.Pass default)
noncomputable def pick(x:Nat)(a b:Str):Str:=if x=0 then a else b
noncomputable def jJ(g:Nat)(y0 y1:Str)(n:Nat):List Str:=if 0<g then(if n=0 then[y0,y1]else if n=1 then["",y1]else["",""])else[y0,y1]
noncomputable def wrN(f0 f1:Str)(n:Nat):List Str:=if n=0 then["","",""]else if n=1 then[f0,"",""]else[f0,f1,""]
theorem hV{P:Nat->Prop}{x:Nat}(hx:x<2)(h0:P 0)(h1:P 1):P x:=by
 rcases(show x=0\/x=1 by walk_at "o")with rfl | rfl
 ·exact h0
 ·exact h1
theorem wZ{x:Nat}(hx:x<2)(a b:Str):[a,b][x]?=some (pick x a b):=hV (P:=λ x=>[a,b][x]?=some (pick x a b)) hx rfl rfl
theorem zZ{g x:Nat}{y0 y1:Str}(hg:0<g)(hx:x<2):(jJ g y0 y1 x).set x ""=jJ g y0 y1 (x+1)/\x<(jJ g y0 y1 x).length:=by
 unfold jJ;rw[if_pos hg,if_pos hg];exact hV (P:=λ x=>(if x=0 then[y0,y1]else if x=1 then["",y1]else["",""]).set x ""=(if x+1=0 then[y0,y1]else if x+1=1 then["",y1]else["",""])/\x<(if x=0 then[y0,y1]else if x=1 then["",y1]else["",""]).length) hx ⟨rfl,Nat.zero_lt_succ _⟩ ⟨rfl,Nat.succ_lt_succ (Nat.zero_lt_succ _)⟩
theorem aBu{g:Nat}{y0 y1:Str}(hg:¬0<g)(n:Nat):jJ g y0 y1 n=[y0,y1]:=if_neg hg
theorem aCR{x:Nat}(f0 f1:Str)(hx:x<2):(wrN f0 f1 x).set x (pick x f0 f1)=wrN f0 f1 (x+1)/\x<(wrN f0 f1 x).length:=
 hV (P:=λ x=>(wrN f0 f1 x).set x (pick x f0 f1)=wrN f0 f1 (x+1)/\x<(wrN f0 f1 x).length) hx ⟨rfl,Nat.zero_lt_succ _⟩ ⟨rfl,Nat.succ_lt_succ (Nat.zero_lt_succ _)⟩
theorem aCS{x:Nat}(hx:x<2):wrN "" "" x=wrN "" "" (x+1):=hV (P:=λ x=>wrN "" "" x=wrN "" "" (x+1)) hx rfl rfl
theorem aBx(g i:Nat)(l:Str)(x:Nat)(m0 m1 y0 y1:Str):dA g i l (pick x m0 m1) (pick x y0 y1)=pick x (dA g i l m0 y0) (dA g i l m1 y1):=by
 unfold pick
 split<;>rfl
section
local macro_rules | `(tactic| walk_at $s:str) => Mine.goAt Mine.tabD s
section
local macro_rules | `(tactic| walk_at $s:str) => Mine.goAt Mine.tabF s
section
local macro_rules | `(tactic| walk_at $s:str) => Mine.goAt Mine.tabG s
set_option hygiene false in
local macro_rules | `(tactic| walk_at "iK") => `(tactic| intro Kq hKn hKr)
theorem rK_{L it scr wl ba td du mk rf wr:Addr}{p:Pos}{vk vw vc vt vs:Option Value}{g i:Nat}{ns:List Str}{l m0 m1 y0 y1:Str}{th tdp tl:Tok}{bg:Bool}{R:Result->Ac->Prop}(I:IsC W)(hA:Aok 16 A)(hl:l.length<=1000000)(hm0:m0.length<=2000000)(hm1:m1.length<=2000000)(hi:i=3↔ns≠[])(hi4:i<=4)(hbg:bg=decide (3<=i))(S:Sta W G (aV L) (dK scr wl vk vw (.int (g:Int) th) (.int (ns.length:Int) tdp) (.bool bg) (.str l tl) ba td du vc vt (some (.ref mk)) (some (.ref rf)) vs (some (.ref wr))) ((it,bU ((0:Nat):Int) ((2-0:Nat):Int))::(rf,aB [y0,y1])::(wr,aB ["","",""])::(mk,aB [m0,m1])::N) s)(k:∀ vk s',Sta W G (aV L) (dK scr wl vk vw (.int (g:Int) th) (.int (ns.length:Int) tdp) (.bool bg) (.str l tl) ba td du vc vt (some (.ref mk)) (some (.ref rf)) vs (some (.ref wr))) ((rf,aB (if 0<g then["",""]else[y0,y1]:List Str))::(wr,aB [dA g i l m0 y0,dA g i l m1 y1,""])::(mk,aB [m0,m1])::N) s'->R (.ok .next) s')(body:List Stmt)(hbd:body=iL rFor):codeAny W.M A (.forLoop (.Name "k" p) (.ref it) body [] (aV L)) R s:=by
 subst hbd;obtain⟨f0,hf0⟩:∃ f,f=dA g i l m0 y0:=⟨_,rfl⟩
 obtain⟨f1,hf1⟩:∃ f,f=dA g i l m1 y1:=⟨_,rfl⟩
 have S2:=S.perm (nw':=((rf,aB [y0,y1])::(wr,aB ["","",""])::(mk,aB [m0,m1])::N)++([]++[(it,bU ((0:Nat):Int) ((2-0:Nat):Int))])) (by walk_at "perm");have er:jJ g y0 y1 0=[y0,y1]:=by unfold jJ;split<;>rfl
 clear S;refine vV (sh:=[]) (f:=λ(k:Nat) t=>.int (k:Int) t) (hA.le (by decide)) (G:=G) (og:=[]) (own:=[(it,bU ((0:Nat):Int) ((2-0:Nat):Int))]) (λ(v:Option Value) _=>dK scr wl v vw (.int (g:Int) th) (.int (ns.length:Int) tdp) (.bool bg) (.str l tl) ba td du vc vt (some (.ref mk)) (some (.ref rf)) vs (some (.ref wr))) (λ _ dn=>(rf,aB (jJ g y0 y1 dn.length))::(wr,aB (wrN f0 f1 dn.length))::(mk,aB [m0,m1])::N) (λ _ _=>True) (eL 2 0) vk trivial (by rw[Aj,List.length_nil,er];exact S2) ?_ ?_
 rotate_left
 ·intro x dn rest t1 tl2 tg v s1 K hq _ S1 kk _ _;clear S2;obtain⟨hx,hx2⟩:=nE hq;rw[←hx]at S1;have hln:(dn++[x]).length=x+1:=by rw[Ae,←hx];rfl
  rw[hln]at kk;have hpm:=wZ hx2 m0 m1;have hpl:(pick x m0 m1).length<=2000000:=by unfold pick;split<;>assumption
  have hfx:=aBx g i l x m0 m1 y0 y1;rw[←hf0,←hf1]at hfx;have hel:=dQ l;have hnl:("\n":Str).length=1:=by decide +kernel
  refine wpAny_assign_Name (S1.store (by walk_at "put") λ s' S'=>?_);clear S1;simp only[Ar,Ax]at S';refine aR ?_;refine aF rfl ?_;refine wpAny_If ?_;walk_at "c";refine cR (λ hg=>?_) (λ hg=>?_)
  ·have hg0:0<g:=by have:=of_decide_eq_true hg;walk_at "o"
   have hr:=zZ (y0:=y0) (y1:=y1) hg0 hx2;have hf:∀ a b,dA g i l a b="":=λ a b=>if_pos hg0;rw[hf]at hf0 hf1;subst hf0 hf1;have hw:=aCS hx2;walk_at "c";refine wpAny_Assign_Subscript ?_ (by kernel_rfl);walk_at "c";refine Sta.setItemT (j:=x) S' (by walk_at "upd") rfl (by walk_at "o") hr.2 ?_;clear S';intro s' S';rw[hr.1,hw]at S';walk_at "c";exact(kk _ s' trivial (S'.perm (by walk_at "perm"))).1
  ·have hg0:¬0<g:=by have:=of_decide_eq_false hg;walk_at "o"
   have hr:=aBu (y0:=y0) (y1:=y1) hg0;rw[hr]at S' kk;have hpy:=wZ hx2 y0 y1;have hw:=aCR f0 f1 hx2;unfold dA at hfx;rw[if_neg hg0]at hfx;have fin:∀{tq:Tok} {f:Str} {s'} {Q':Unit->Ac->Prop},f=pick x f0 f1->Sta W (G++tg) (aV L) (dK scr wl (some (.int (x:Int) t1)) vw (.int (g:Int) th) (.int (ns.length:Int) tdp) (.bool bg) (.str l tl) ba td du vc vt (some (.ref mk)) (some (.ref rf)) vs (some (.ref wr))) ((rf,aB [y0,y1])::(wr,aB (wrN f0 f1 x))::(mk,aB [m0,m1])::(N++tl2)) s'->
     (∀ s3,K .next s3->Q' () s3)->Ad W.M A (PySem.setItem (.ref wr) (.int (x:Int) t1) (.str f tq)) Q' (λ _ _=>False) s':=by
    intro tq f s' Q' hf S' hq;subst hf;refine Sta.setItemT (j:=x) S' (by walk_at "upd") rfl (by walk_at "o") hw.2 ?_;clear S';intro s' S';rw[hw.1]at S';exact hq _ (kk _ s' trivial (S'.perm (by walk_at "perm"))).1
   walk_at "c";cases bg with
   | false=>
    have h3:i<3:=by have:=of_decide_eq_false hbg.symm;walk_at "o"
    rw[if_pos h3]at hfx;walk_at "c";refine wpAny_Assign_Subscript ?_ (by kernel_rfl);walk_at "c";refine Sta.subT S' (by walk_at "mem") (j:=x) rfl (by walk_at "o") hpy λ t2=>?_;walk_at "c";refine wB (λ e=>?_) (λ e=>?_)
    ·rw[if_pos e]at hfx;walk_at "c";refine Sta.subT S' (by walk_at "mem") (j:=x) rfl (by walk_at "o") hpm λ t3=>?_;walk_at "c";refine fin hfx S' λ s3 h=>?_;walk_at "c";exact h
    ·rw[if_neg e]at hfx;walk_at "c";refine fin hfx S' λ s3 h=>?_;walk_at "c";exact h
   | true=>
    have h3:¬i<3:=by have:=of_decide_eq_true hbg.symm;walk_at "o"
    rw[if_neg h3]at hfx;walk_at "c";refine cR (λ hd=>?_) (λ hd=>?_)
    ·have h4:i=4:=by
      have h5:ns=[]:=Bs.mp (by have:=of_decide_eq_true hd;walk_at "o");have h6:i≠3:=λ e=>hi.mp e h5;walk_at "o"
     rw[if_pos h4]at hfx;walk_at "c";refine wpAny_Assign_Subscript ?_ (by kernel_rfl);walk_at "c";refine Sta.subT S' (by walk_at "mem") (j:=x) rfl (by walk_at "o") hpm λ t3=>?_;walk_at "c";refine fin hfx S' λ s3 h=>?_;walk_at "c";exact h
    ·have h4:¬i=4:=λ e=>by
      have h5:ns≠[]:=λ e2=>by rw[e2]at hd;exact absurd hd (by simp)
      have:=hi.mpr h5;walk_at "o"
     rw[if_neg h4]at hfx;walk_at "c";refine wpAny_Assign_Subscript ?_ (by kernel_rfl);walk_at "c";refine Sta.global S' I.g_l_spelled (by kernel_rfl) ?_;refine bR (by rw[I.k];kernel_rfl) ?_ (by kernel_rfl) (by kernel_rfl);walk_at "c";refine qQ I (hA.le (by decide)) hl S' ?_;clear S';intro t3 s' S';walk_at "c";refine Sta.subT S' (by walk_at "mem") (j:=x) rfl (by walk_at "o") hpm λ t4=>?_;walk_at "c";refine fin hfx S' λ s3 h=>?_;walk_at "c";exact h
 ·intro v s1 _ S1;rw[Aj]at S1;have e1:jJ g y0 y1 (Bg 0 2).length=(if 0<g then["",""]else[y0,y1]:List Str):=rfl;have e2:wrN f0 f1 (Bg 0 2).length=[dA g i l m0 y0,dA g i l m1 y1,""]:=by rw[←hf0,←hf1];rfl
  rw[e1,e2]at S1;exact k v s1 S1
noncomputable abbrev bK(W:Wd)(rw:Bool)(oc ol sc wl ba td du:Addr)(v:Option Value)(r0 r1 r2:W3)(bare:List Str)(ta dd:List R4A)(N:Lg):Lg:=
 (oc,aE (some (.ref ol)))::(ol,aA [.ref r0.out,.ref r1.out,.ref r2.out])::(sc,aE v)::(wl,aA [.ref r0.w.x,.ref r1.w.x,.ref r2.w.x])::(ba,aB bare)::(td,aA (aM ta))::(du,aA (aM dd))::(aP ta++(aP dd++(r0.led W rw++(r1.led W rw++(r2.led W rw++N)))))
structure W3.Bd (r:W3):Prop where
 h:r.m.held.length<=1000
 c:(cat r.m.held).length<=10000
 o:r.outs.length<=10000
theorem aBy{W:Wd}{nw:Lg}{v:Value}{o:Oc}(h:PiV W nw v o):(Oc.mark (bH "m" o)).length<=2000000:=by
 cases o with
 | plain=>exact AE (by decide +kernel)
 | text x=>
  have h1:=h.2.2;have h2:=dQ x;unfold txL at h1;show("<?m "++dC x++"?>":Str).length<=_;have hl1:("<?m ":Str).length=4:=by decide +kernel
  have hl2:("?>":Str).length=2:=by decide +kernel
  walk_at "o"
 | bad T r=>exact AB _
theorem aB2{W:Wd}{nw:Lg}{v:Value}{o:Oc}(h:CoV W nw v o):(Oc.mark (bL o)).length<=2000000:=by
 cases o with
 | plain=>exact h.elim
 | text x=>
  have h1:=h.2;have h2:=dQ x;unfold txL at h1;show("<!--"++dC x++"-->":Str).length<=_;have hl1:("<!--":Str).length=4:=by decide +kernel
  have hl2:("-->":Str).length=3:=by decide +kernel
  walk_at "o"
 | bad T r=>exact AB _
theorem vO(i:Nat)(h:List Str):(lh i h).length<=(cat h).length:=by
 unfold lh
 split
 ·exact AG _
 ·exact AB _
theorem pZ(g i:Nat)(l mark msg:Str):(dA g i l mark msg).length<=6*l.length+mark.length+1:=by
 have h1:=dQ l;have h2:("\n":Str).length=1:=by decide +kernel
 have h3:("":Str).length=0:=rfl;unfold dA
 split
 ·walk_at "o"
 ·split
  ·split
   ·rw[Str.length_append];walk_at "o"
   ·walk_at "o"
  ·split
   ·rw[Str.length_append];walk_at "o"
   ·rw[Str.length_append];walk_at "o"
theorem jI(m:Wm)(x:Option Str):(m.remW x).length<=4:=by
 have h1:=rS m;unfold Wm.remW Wm.rem0 Wm.rem1
 split
 ·rw[Ae];have h2:(if m.rd=true then[("\n":Str)]else m.fl).length<=1:=by split;exact AG _;exact h1
  have h3:(match x with | some t=>t::(if m.rs=true then[]else[("\n":Str)]) | none=>[]).length<=2:=by
   cases x with
   | none=>exact AB _
   | some t=>show(t::_).length<=2;split<;>simp
  exact An (A7 h2 h3) (by decide)
 ·exact AB _
section
variable {rw:Bool}{k i:Nat}{ns:List Str}
theorem lI(r0 r1 r2:W3)(N:Lg):(r0.led W rw++(r1.led W rw++(r2.led W rw++N))).Perm ((r0.out,aB r0.outs)::(r1.out,aB r1.outs)::(r2.out,aB r2.outs)::(r0.rest W rw++(r1.rest W rw++(r2.rest W rw++N)))):=by
 refine(r0.out_perm.append (r1.out_perm.append (r2.out_perm.append_right N))).trans ?_;walk_at "perm"
theorem aDw(r0 r1 r2:W3)(N:Lg):(r0.led W rw++(r1.led W rw++(r2.led W rw++N))).Perm ((r0.out,aB r0.outs)::(r1.out,aB r1.outs)::(r2.out,aB (r2.outs++[]))::(r0.rest W rw++(r1.rest W rw++(r2.rest W rw++N)))):=by
 rw[Aj];exact lI r0 r1 r2 N
theorem aA7{α:Type}{P:α->Prop}{a b c:α}(h1:P a)(h2:P b)(h3:P c):∀ r∈[a,b,c],P r:=λ r hr=>by
 rcases At.mp hr with rfl | hr
 ·exact h1
 ·rcases At.mp hr with rfl | hr
  ·exact h2
  ·rw[AR.mp hr];exact h3
theorem aDC{p:Addr×Cell}{a b c d M:Lg}(h:p∈M):p∈a++(b++(c++(d++M))):=Ag _ (Ag _ (Ag _ (Ag _ h)))
theorem remA_{L oc ol sc sl wl ba td du scr ca d:Addr}{y:Int}{t:Tok×Tok×Tok}{r0 r1 r2:W3}{bare:List Str}{ta dd:List R4A}{hi de be he:Value}{vk vw vt vm vr vs vwr:Option Value}{Q:Flow->Ac->Prop}(I:IsC W)(hA:Aok 20 A)(FR:Fra A (aV L) [])(hoc:ClO (aV L) .cell "outs" oc)(hsc:ClO (aV L) .cell "seen" sc)(hi4:i<=4)(V0:Inv4 rw k i ns (cM r0.m))(V1:Inv4 rw k i ns (cM r1.m))(b0:r0.Bd)(b1:r1.Bd)(b2:r2.Bd)(c1:r1.com=true)(c2:r2.com=false)(hta:ta.length<=9000)(S':Sta W G (aV L) (dK scr wl vk vw hi de be he ba td du (some (.ref ca)) vt vm vr vs vwr) ((ca,aJ (cX d t (.rem y)))::(sl,aZ [(r0.outs.length:Int),(r1.outs.length:Int),(r2.outs.length:Int)])::bK W rw oc ol sc wl ba td du (some (.ref sl)) r0 r1 r2 bare ta dd N) s)(kk:∀ v a1 a2 wd o1 o2 row s',OcX o1 (bH "m" o1)->OcX o2 (bL o2)->(Oc.mark (bH "m" o1)).length<=2000000->(Oc.mark (bL o2)).length<=2000000->row.r=R4.pr [r0.m.remM o1,r1.m.remM o2,""] [cat (r0.m.remW (bH "m" o1)),cat (r1.m.remW (bL o2)),""]-> Sta W G (aV L) (dK scr wl vk vw hi de be he ba td du (some (.ref ca)) (some v) (some (.ref a1)) (some (.ref a2)) (some (.ref wd)) vwr) ((a1,aB [Oc.mark (bH "m" o1),Oc.mark (bL o2)])::(a2,aB [o1.msg,o2.msg])::(ca,aJ (cX d t (.rem y)))::bK W rw oc ol sc wl ba td du (some (.ref sl)) (r0.rem (bH "m" o1)) (r1.rem (bL o2)) r2 bare (ta++[row]) dd N) s'-> Ad W.M A (execs (rB.drop 3) (aV L)) Q E s'):∀ st:List Stmt,st=rB.drop 0->Ad W.M A (execs st (aV L)) Q E s:=by
 intro st hst;subst hst;refine aF rfl ?_;walk_at "c";refine Sta.global S' I.g_l_thing (by kernel_rfl) ?_;refine bR (by rw[I.k];kernel_rfl) ?_ (by kernel_rfl) (by kernel_rfl);refine args_cons ?_ (by kernel_rfl);refine aO ?_ (by intro _ _;kernel_rfl);walk_at "c";refine Sta.sub_tuple S' (.head _) (j:=1) rfl (by walk_at "o") rfl ?_;refine args_nil ?_;refine⟨S'.kin,?_⟩;refine aC1 I (hA.le (by decide)) S' ?_;clear S';intro tp v a1 a2 TL o1 o2 s' hpi hco S';refine Sta.unpackT S' hA.handled (.head _) (by kernel_rfl) (by kernel_rfl) ?_;clear S';intro s' S';refine assignInOrder_cons ?_;refine assign_Name ?_;walk_at "c";refine assignInOrder_cons ?_;refine assign_Name ?_;walk_at "c";refine assignInOrder_cons ?_;refine assign_Name ?_;walk_at "c";refine assignInOrder_nil ?_;obtain⟨M0,hM0⟩:∃ M0:Lg,M0=(wl,aA [.ref r0.w.x,.ref r1.w.x,.ref r2.w.x])::(oc,aE (some (.ref ol)))::(ol,aA [.ref r0.out,.ref r1.out,.ref r2.out])::(sc,aE (some (.ref sl)))::(sl,aZ [(r0.outs.length:Int),(r1.outs.length:Int),(r2.outs.length:Int)])::(td,aA (aM ta))::(aP ta++((a1,aB [Oc.mark (bH "m" o1),Oc.mark (bL o2)])::(a2,aB [o1.msg,o2.msg])::(ca,aJ (cX d t (.rem y)))::(ba,aB bare)::(du,aA (aM dd))::(aP dd++N))):=⟨_,rfl⟩
 have hwl:(wl,aA [.ref r0.w.x,.ref r1.w.x,.ref r2.w.x])∈M0:=by rw[hM0];exact .head _
 replace S':=S'.sel (nw':=r0.led W rw++(r1.led W rw++(r2.led W rw++(TL++M0)))) (Sel.rest [(tp,aJ [v,.ref a1,.ref a2])] (by rw[hM0];simp only[bK];walk_at "perm"));refine cE S' ?_;clear S';intro lq Mq S';have ho0:=b0.o;have ho1:=b1.o;have ho2:=b2.o;have hsz:(1000:Nat)<=Au:=by rw[Av];decide
 have htz:(10000:Nat)<=txL:=by unfold txL;decide
 walk_at "c";refine Sta.global S' I.g_l_pi (by kernel_rfl) ?_;refine bR (by rw[I.k];kernel_rfl) ?_ (by kernel_rfl) (by kernel_rfl);refine args_cons ?_ (by kernel_rfl);refine aO ?_ (by intro _ _;kernel_rfl);walk_at "c";refine Sta.sub_list S' (aDC hwl) (by decide) (by decide) rfl ?_;refine args_cons ?_ (by kernel_rfl);refine S'.local_ (v:=v) (by walk_at "mem") ?_;refine args_nil ?_;refine⟨S'.kin,?_⟩;refine lpi3_ (x:=r0) (N:=TL++(r1.led W rw++(r2.led W rw++M0))) (o:=o1) I (hA.le (by decide)) FR (hpi.up λ p hp=>Am _ hp) (An b0.h hsz) (An b0.c htz) (by walk_at "o") (S'.perm (by walk_at "perm")) ?_;clear S';intro t1 s' S';replace S':=S'.perm (nw':=(r0.rem (bH "m" o1)).led W rw++(r1.led W rw++(r2.led W rw++(TL++M0)))) (by walk_at "perm");walk_at "c";refine Sta.global S' I.g_l_comment (by kernel_rfl) ?_;refine bR (by rw[I.k];kernel_rfl) ?_ (by kernel_rfl) (by kernel_rfl);refine args_cons ?_ (by kernel_rfl);refine aO ?_ (by intro _ _;kernel_rfl);walk_at "c";refine Sta.sub_list S' (aDC hwl) (by decide) (by decide) rfl ?_;refine args_cons ?_ (by kernel_rfl);refine S'.local_ (v:=v) (by walk_at "mem") ?_;refine args_nil ?_;refine⟨S'.kin,?_⟩;refine lco3_ (x:=r1) (N:=TL++((r0.rem (bH "m" o1)).led W rw++(r2.led W rw++M0))) (o:=o2) I (hA.le (by decide)) FR c1 (hco.up λ p hp=>Am _ hp) (An b1.h hsz) (An b1.c htz) (by walk_at "o") (S'.perm (by walk_at "perm")) ?_;clear S';intro t2 s' S';replace S':=S'.perm (nw':=(r0.rem (bH "m" o1)).led W rw++((r1.rem (bL o2)).led W rw++(r2.led W rw++(TL++M0)))) (by walk_at "perm");walk_at "c";refine Sta.global S' I.g_l_comment (by kernel_rfl) ?_;refine bR (by rw[I.k];kernel_rfl) ?_ (by kernel_rfl) (by kernel_rfl);refine args_cons ?_ (by kernel_rfl);refine aO ?_ (by intro _ _;kernel_rfl);walk_at "c";refine Sta.sub_list S' (aDC hwl) (by decide) (by decide) rfl ?_;refine args_cons ?_ (by kernel_rfl);refine S'.local_ (v:=v) (by walk_at "mem") ?_;refine args_nil ?_;refine⟨S'.kin,?_⟩;refine aDJ (x:=r2) (rw:=rw) (N:=TL++((r0.rem (bH "m" o1)).led W rw++((r1.rem (bL o2)).led W rw++M0))) I (hA.le (by decide)) c2 (S'.perm (by walk_at "perm")) ?_;clear S';intro t3 s' S';walk_at "c";revert a';intro wd S';refine cE S' ?_;clear S';intro lq Mq S';obtain⟨x1,hx1⟩:∃ x,x=bH "m" o1:=⟨_,rfl⟩
 obtain⟨x2,hx2⟩:∃ x,x=bL o2:=⟨_,rfl⟩
 obtain⟨MM,hMM⟩:∃ M:Lg,M=(a1,aB [Oc.mark (bH "m" o1),Oc.mark (bL o2)])::(a2,aB [o1.msg,o2.msg])::(ca,aJ (cX d t (.rem y)))::(wl,aA [.ref r0.w.x,.ref r1.w.x,.ref r2.w.x])::(ba,aB bare)::(du,aA (aM dd))::(aP dd++N):=⟨_,rfl⟩
 have S1:=((S'.tell (c':=aB [r0.m.remM o1,r1.m.remM o2,""]) .head λ o _ ho=>⟨_,.cons _ _ (.cons _ _ (.cons _ _ .nil)),ho⟩).sel (nw':=(r0.rem (bH "m" o1)).led W rw++((r1.rem (bL o2)).led W rw++(r2.led W rw++((td,aA (aM ta))::(wd,aB [r0.m.remM o1,r1.m.remM o2,""])::(oc,aE (some (.ref ol)))::(ol,aA [.ref r0.out,.ref r1.out,.ref r2.out])::(sc,aE (some (.ref sl)))::(sl,aZ [(r0.outs.length:Int),(r1.outs.length:Int),(r2.outs.length:Int)])::(aP ta++MM))))) (Sel.rest TL (by rw[hM0,hMM];walk_at "perm"))).perm (aDw (r0.rem (bH "m" o1)) (r1.rem (bL o2)) r2 _);clear S';have S':=S1.perm (nw':=(td,aA (aM ta))::(wd,aB [r0.m.remM o1,r1.m.remM o2,""])::(oc,aE (some (.ref ol)))::(ol,aA [.ref r0.out,.ref r1.out,.ref r2.out])::(sc,aE (some (.ref sl)))::(sl,aZ [(r0.outs.length:Int),(r1.outs.length:Int),(r2.outs.length:Int)])::((r0.out,aB (r0.outs++r0.m.remW (bH "m" o1)))::(r1.out,aB (r1.outs++r1.m.remW (bL o2)))::(r2.out,aB (r2.outs++[]))::((r0.rem (bH "m" o1)).rest W rw++((r1.rem (bL o2)).rest W rw++(r2.rest W rw++(aP ta++MM)))))) (by show List.Perm ((r0.out,aB (r0.outs++r0.m.remW (bH "m" o1)))::(r1.out,aB (r1.outs++r1.m.remW (bL o2)))::_) _;walk_at "perm");clear S1;rw[←hx1,←hx2]at S';walk_at "c";have g1:=aBy hpi;have g2:=aB2 hco;have X1:OcX o1 (bH "m" o1):=aDx o1;have X2:OcX o2 (bL o2):=aDy hco;have w0:(cat (r0.m.remW x1)).length<=16000000:=by
  have h:=pZ r0.m.ig i (lh i r0.m.held) (Oc.mark (bH "m" o1)) o1.msg;have h2:=vO i r0.m.held;have h3:=b0.c;rw[hx1,qT V0 hi4 X1];walk_at "o"
 have w1:(cat (r1.m.remW x2)).length<=16000000:=by
  have h:=pZ r1.m.ig i (lh i r1.m.held) (Oc.mark (bL o2)) o2.msg;have h2:=vO i r1.m.held;have h3:=b1.c;rw[hx2,qT V1 hi4 X2];walk_at "o"
 have n0:=jI r0.m x1;have n1:=jI r1.m x2;refine incs_ (ol:=ol) (sl:=sl) (os:=[(r0.out,r0.outs,r0.m.remW x1),(r1.out,r1.outs,r1.m.remW x2),(r2.out,r2.outs,[])]) (N:=(td,aA (aM ta))::(wd,aB [r0.m.remM o1,r1.m.remM o2,""])::((r0.rem x1).rest W rw++((r1.rem x2).rest W rw++(r2.rest W rw++(aP ta++MM))))) I (hA.le (by decide)) hoc hsc rfl (by kernel_rfl) ?_ ?_ (S'.perm ?_) ?_
 ·refine aA7 ?_ ?_ ?_
  ·show(r0.outs++r0.m.remW x1).length<=_;rw[Ae,Av];walk_at "o"
  ·show(r1.outs++r1.m.remW x2).length<=_;rw[Ae,Av];walk_at "o"
  ·show(r2.outs++[]).length<=_;rw[Aj,Av];walk_at "o"
 ·exact aA7 w0 w1 (AB _)
 ·show List.Perm _ ((oc,aE (some (.ref ol)))::(ol,aA [.ref r0.out,.ref r1.out,.ref r2.out])::(sc,aE (some (.ref sl)))::(sl,aZ [(r0.outs.length:Int),(r1.outs.length:Int),(r2.outs.length:Int)])::(r0.out,aB (r0.outs++r0.m.remW x1))::(r1.out,aB (r1.outs++r1.m.remW x2))::(r2.out,aB (r2.outs++[]))::((td,aA (aM ta))::(wd,aB [r0.m.remM o1,r1.m.remM o2,""])::((r0.rem x1).rest W rw++((r1.rem x2).rest W rw++(r2.rest W rw++(aP ta++MM))))));walk_at "perm"
 clear S';intro b s' S';replace S':=S'.perm (nw':=(b,aB [cat (r0.m.remW x1),cat (r1.m.remW x2),""])::(td,aA (aM ta))::(wd,aB [r0.m.remM o1,r1.m.remM o2,""])::(oc,aE (some (.ref ol)))::(ol,aA [.ref r0.out,.ref r1.out,.ref r2.out])::(sc,aE (some (.ref sl)))::(sl,aZ [(r0.outs.length:Int),(r1.outs.length:Int),(r2.outs.length:Int)])::(r0.out,aB (r0.outs++r0.m.remW x1))::(r1.out,aB (r1.outs++r1.m.remW x2))::(r2.out,aB (r2.outs++[]))::((r0.rem x1).rest W rw++((r1.rem x2).rest W rw++(r2.rest W rw++(aP ta++MM))))) (by show List.Perm ((b,aB [cat (r0.m.remW x1),cat (r1.m.remW x2),""])::(oc,aE (some (.ref ol)))::(ol,aA [.ref r0.out,.ref r1.out,.ref r2.out])::(sc,aE (some (.ref sl)))::(sl,aZ [(r0.outs.length:Int),(r1.outs.length:Int),(r2.outs.length:Int)])::(r0.out,aB (r0.outs++r0.m.remW x1))::(r1.out,aB (r1.outs++r1.m.remW x2))::(r2.out,aB (r2.outs++[]))::((td,aA (aM ta))::(wd,aB [r0.m.remM o1,r1.m.remM o2,""])::((r0.rem x1).rest W rw++((r1.rem x2).rest W rw++(r2.rest W rw++(aP ta++MM)))))) _;walk_at "perm");rw[Aj]at S';walk_at "c";revert a';intro row S';refine Sta.pushR4 (r:=⟨row,wd,b,0,.pr [r0.m.remM o1,r1.m.remM o2,""] [cat (r0.m.remW x1),cat (r1.m.remW x2),""]⟩) (rs:=ta) (N:=(oc,aE (some (.ref ol)))::(ol,aA [.ref r0.out,.ref r1.out,.ref r2.out])::(sc,aE (some (.ref sl)))::(r0.out,aB (r0.outs++r0.m.remW x1))::(r1.out,aB (r1.outs++r1.m.remW x2))::(r2.out,aB r2.outs)::((r0.rem x1).rest W rw++((r1.rem x2).rest W rw++(r2.rest W rw++MM)))) (by walk_at "o") (S'.sel (Sel.rest [(sl,aZ [(r0.outs.length:Int),(r1.outs.length:Int),(r2.outs.length:Int)])] ?_)) ?_
 ·show List.Perm _ (((td,aA (aM ta))::(aP ta++((row,aJ [.ref wd,.ref b])::(wd,aB [r0.m.remM o1,r1.m.remM o2,""])::(b,aB [cat (r0.m.remW x1),cat (r1.m.remW x2),""])::((oc,aE (some (.ref ol)))::(ol,aA [.ref r0.out,.ref r1.out,.ref r2.out])::(sc,aE (some (.ref sl)))::(r0.out,aB (r0.outs++r0.m.remW x1))::(r1.out,aB (r1.outs++r1.m.remW x2))::(r2.out,aB r2.outs)::((r0.rem x1).rest W rw++((r1.rem x2).rest W rw++(r2.rest W rw++MM)))))))++[(sl,aZ [(r0.outs.length:Int),(r1.outs.length:Int),(r2.outs.length:Int)])]);walk_at "perm"
 clear S';intro s' S';walk_at "ke";subst hx1 hx2;refine kk v a1 a2 wd o1 o2 ⟨row,wd,b,0,.pr [r0.m.remM o1,r1.m.remM o2,""] [cat (r0.m.remW (bH "m" o1)),cat (r1.m.remW (bL o2)),""]⟩ s' X1 X2 g1 g2 rfl ?_;obtain⟨ta2,hta2⟩:∃ x,x=ta++[(⟨row,wd,b,0,.pr [r0.m.remM o1,r1.m.remM o2,""] [cat (r0.m.remW (bH "m" o1)),cat (r1.m.remW (bL o2)),""]⟩:R4A)]:=⟨_,rfl⟩
 rw[←hta2]at S' ⊢;subst hMM;exact((S'.perm (nw':=(r0.out,aB (r0.outs++r0.m.remW (bH "m" o1)))::(r1.out,aB (r1.outs++r1.m.remW (bL o2)))::(r2.out,aB r2.outs)::((r0.rem (bH "m" o1)).rest W rw++((r1.rem (bL o2)).rest W rw++(r2.rest W rw++((a1,aB [Oc.mark (bH "m" o1),Oc.mark (bL o2)])::(a2,aB [o1.msg,o2.msg])::(ca,aJ (cX d t (.rem y)))::(oc,aE (some (.ref ol)))::(ol,aA [.ref r0.out,.ref r1.out,.ref r2.out])::(sc,aE (some (.ref sl)))::(wl,aA [.ref r0.w.x,.ref r1.w.x,.ref r2.w.x])::(ba,aB bare)::(td,aA (aM ta2))::(du,aA (aM dd))::(aP ta2++(aP dd++N))))))) (by walk_at "perm")).perm (lI (r0.rem (bH "m" o1)) (r1.rem (bL o2)) r2 _).symm).perm (by simp only[bK];show List.Perm _ ((a1,aB [Oc.mark (bH "m" o1),Oc.mark (bL o2)])::(a2,aB [o1.msg,o2.msg])::(ca,aJ (cX d t (.rem y)))::(oc,aE (some (.ref ol)))::(ol,aA [.ref r0.out,.ref r1.out,.ref r2.out])::(sc,aE (some (.ref sl)))::(wl,aA [.ref r0.w.x,.ref r1.w.x,.ref r2.w.x])::(ba,aB bare)::(td,aA (aM ta2))::(du,aA (aM dd))::(aP ta2++(aP dd++((r0.rem (bH "m" o1)).led W rw++((r1.rem (bL o2)).led W rw++(r2.led W rw++N))))));walk_at "perm")
end
section
variable {rw:Bool}{k i:Nat}{ns:List Str}
theorem aBc{vs ws:List Value}{xs ys:List Str}(h1:TxA vs xs)(h2:TxA ws ys):TxA (vs++ws) (xs++ys):=by
 induction h1 with
 | nil=>exact h2
 | cons x t _ ih=>exact .cons x t ih
theorem Sta.addTT{l b:Addr}{xs ys:List Str}{Q:Value->Ac->Prop}(S:Sta W G env loc ((l,aB xs)::(b,aB ys)::N) s)(hz:xs.length+ys.length<=Au)(h:∀ a s',Sta W G env loc ((a,aB (xs++ys))::(l,aB xs)::(b,aB ys)::N) s'->Q (.ref a) s'):Ad W.M A (binaryOp .Add (.ref l) (.ref b)) Q E s:=by
 obtain⟨o1,ho1,q0⟩:=S.get (.head _);obtain⟨vs,hv,h1⟩:=q0;obtain⟨o2,ho2,q0⟩:=S.get (.tail _ (.head _));obtain⟨ws,hw,h2⟩:=q0;have S1:=(S.tell (c':=aA vs) .head λ o' ho' _=>by rw[ho1]at ho';cases ho';exact h1).tell (c':=aA ws) (.tail .head) λ o' ho' _=>by rw[ho2]at ho';cases ho';exact h2
 refine Sta.addLL S1 (.head _) (.tail _ (.head _)) (by rw[hv.length,hw.length];exact hz) λ a s' S2=>h a s' ?_;exact((S2.tell (c':=aB (xs++ys)) .head λ o _ ho=>⟨_,aBc hv hw,ho⟩).tell (c':=aB xs) (.tail .head) λ o _ ho=>⟨_,hv,ho⟩).tell (c':=aB ys) (.tail (.tail .head)) λ o _ ho=>⟨_,hw,ho⟩
theorem remB_{L oc ol sc wl ba td du scr ca mk rf:Addr}{it:List Value}{r0 r1 r2:W3}{bare:List Str}{ta dd:List R4A}{vk vw vc vt vs vwr v:Option Value}{g:Nat}{l m0 m1 y0 y1:Str}{th tdp tl:Tok}{bg:Bool}{Q:Flow->Ac->Prop}(I:IsC W)(hA:Aok 20 A)(hl:l.length<=1000000)(hm0:m0.length<=2000000)(hm1:m1.length<=2000000)(hi:i=3↔ns≠[])(hi4:i<=4)(hbg:bg=decide (3<=i))(hdd:dd.length<=9000)(hba:bare.length<=9000)(S':Sta W G (aV L) (dK scr wl vk vw (.int (g:Int) th) (.int (ns.length:Int) tdp) (.bool bg) (.str l tl) ba td du vc vt (some (.ref mk)) (some (.ref rf)) vs vwr) ((mk,aB [m0,m1])::(rf,aB [y0,y1])::(ca,aJ it)::bK W rw oc ol sc wl ba td du v r0 r1 r2 bare ta dd N) s)(kk:∀ vk vt vm vr vs vwr (l':Str) tl' bare' row s',row.r=R4.pr ((if 0<g then["",""]else[y0,y1]:List Str)++[("":Str)]) [dA g i l m0 y0,dA g i l m1 y1,""]->((g=0/\l'=""/\bare'=bare++[dC l])\/(g≠0/\l'=l/\bare'=bare))->
   Sta W G (aV L) (dK scr wl vk vw (.int (g:Int) th) (.int (ns.length:Int) tdp) (.bool bg) (.str l' tl') ba td du vc vt vm vr vs vwr) ((ca,aJ it)::bK W rw oc ol sc wl ba td du v r0 r1 r2 bare' ta (dd++[row]) N) s'->Q .cont s'):∀ st:List Stmt,st=rB.drop 3->Ad W.M A (execs st (aV L)) Q E s:=by
 intro st hst;subst hst;obtain⟨M,hM⟩:∃ M:Lg,M=(ca,aJ it)::(oc,aE (some (.ref ol)))::(ol,aA [.ref r0.out,.ref r1.out,.ref r2.out])::(sc,aE v)::(wl,aA [.ref r0.w.x,.ref r1.w.x,.ref r2.w.x])::(td,aA (aM ta))::(aP ta++(r0.led W rw++(r1.led W rw++(r2.led W rw++N)))):=⟨_,rfl⟩
 replace S':=S'.perm (nw':=(mk,aB [m0,m1])::(rf,aB [y0,y1])::(ba,aB bare)::(du,aA (aM dd))::(aP dd++M)) (by rw[hM];simp only[bK];walk_at "perm");refine aF rfl ?_;walk_at "c";revert a';intro wr S';refine cE S' ?_;clear S';intro lq Mq S';refine wpAny_For ?_ (by intro _;kernel_rfl);walk_at "c";refine Sta.builtin S' I.b_range oM (by kernel_rfl) ?_;walk_at "c";refine Sta.range1 S' ?_;clear S';intro rg s' S';refine Sta.iterRange (a:=0) (b:=2) S' (.head _) (by decide) (by decide) ?_;clear S';intro itr s' S';refine rK_ (mk:=mk) (rf:=rf) (wr:=wr) (i:=i) (ns:=ns) (N:=(ba,aB bare)::(du,aA (aM dd))::(aP dd++M)) I (hA.le (by decide)) hl hm0 hm1 hi hi4 hbg (S'.sel (Sel.rest [(rg,qG 0 2)] (by walk_at "perm"))) ?_ _ rfl;clear S';intro vk s' S';obtain⟨ys,hys⟩:∃ ys,ys=(if 0<g then["",""]else[y0,y1]:List Str):=⟨_,rfl⟩
 rw[←hys]at S';have hyl:ys.length=2:=by rw[hys];split<;>rfl
 obtain⟨ws,hws⟩:∃ ws,ws=[dA g i l m0 y0,dA g i l m1 y1,""]:=⟨_,rfl⟩
 rw[←hws]at S';refine cE S' ?_;clear S';intro lq Mq S';walk_at "ke";refine aF rfl ?_;walk_at "c";revert a';intro e1 S';refine Sta.addTT (l:=rf) (b:=e1) (N:=(wr,aB ws)::(mk,aB [m0,m1])::(ba,aB bare)::(du,aA (aM dd))::(aP dd++M)) (S'.perm (by walk_at "perm")) (by rw[hyl,Av];decide) ?_;clear S';intro rs s' S';replace S':=S'.sel (nw':=(rs,aB (ys++[("":Str)]))::(wr,aB ws)::(ba,aB bare)::(du,aA (aM dd))::(aP dd++M)) (Sel.rest [(rf,aB ys),(e1,aB [("":Str)]),(mk,aB [m0,m1])] (by walk_at "perm"));walk_at "c";revert a';intro ra S';refine Sta.pushR4 (r:=⟨ra,rs,wr,0,.pr (ys++[("":Str)]) ws⟩) (rs:=dd) (N:=(ba,aB bare)::M) (by walk_at "o") (S'.perm ?_) ?_
 ·show List.Perm _ ((du,aA (aM dd))::(aP dd++((ra,aJ [.ref rs,.ref wr])::(rs,aB (ys++[("":Str)]))::(wr,aB ws)::((ba,aB bare)::M))));walk_at "perm"
 clear S';intro s' S';obtain⟨row,hrow⟩:∃ r:R4A,r=⟨ra,rs,wr,0,.pr (ys++[("":Str)]) ws⟩:=⟨_,rfl⟩
 rw[←hrow]at S';replace S':=S'.perm (nw':=(ba,aB bare)::(du,aA (aM (dd++[row])))::(aP (dd++[row])++M)) (by walk_at "perm");have hrr:row.r=.pr (ys++[("":Str)]) ws:=by rw[hrow]
 rw[hys,hws]at hrr;walk_at "ke";refine aF rfl ?_;refine wpAny_If ?_;walk_at "c";refine cR (λ hg=>?_) (λ hg=>?_)
 ·have hg0:g=0:=by have:=of_decide_eq_true hg;walk_at "o"
  walk_at "cw"
  repeat ((fail_if_success (with_reducible show Ad _ _ (execs _ _) _ _ _));walk_at "cw")
  refine Sta.global S' I.g_l_spelled (by kernel_rfl) ?_;refine bR (by rw[I.k];kernel_rfl) ?_ (by kernel_rfl) (by kernel_rfl);walk_at "c";refine qQ I (hA.le (by decide)) hl S' ?_;clear S';intro t3 s' S'
  repeat ((fail_if_success (with_reducible show Ad _ _ (execs _ _) _ _ _));walk_at "cw")
  walk_at "cw"
  repeat ((fail_if_success (with_reducible show Ad _ _ (execs _ _) _ _ _));walk_at "cw")
  refine AI ?_;refine aF rfl ?_;refine wpAny_Continue ?_;subst hM;exact kk _ _ _ _ _ _ _ _ _ _ s' hrr (.inl ⟨hg0,rfl,rfl⟩) (S'.perm (by simp only[bK];walk_at "perm"))
 ·have hg0:g≠0:=by
   intro e;rw[e]at hg;exact absurd hg (by decide)
  walk_at "cw";refine aF rfl ?_;refine wpAny_Continue ?_;subst hM;exact kk _ _ _ _ _ _ _ _ _ _ s' hrr (.inr ⟨hg0,rfl,rfl⟩) (S'.perm (by simp only[bK];walk_at "perm"))
end
structure LInv (rw:Bool) (k i:Nat) (ns:List Str) (r0 r1 r2:W3) (bare:List Str) (l:Str) (a:Ab):Prop where
 V:Inv4 rw k i ns a
 a0:cM r0.m=a
 a1:cM r1.m=a
 a2:cM r2.m=a
 h01:r1.m.held=r0.m.held
 hl:l=lh i r0.m.held
 cmp:cat r2.outs++tl i r2.m.held=cat bare++tl i r0.m.held
 hz0:r0.m.held.length<=k
 hc0:(cat r0.m.held).length<=8*k
 hz2:r2.m.held.length<=k
 hc2:(cat r2.m.held).length<=8*k
 pot:(cat r2.outs).length+6*(cat r2.m.held).length<=45100*k
 o0:r0.outs.length<=5*k
 o1:r1.outs.length<=5*k
 o2:r2.outs.length<=5*k
 c1:r1.com=true
 c2:r2.com=false
 bz:bare.length<=k
 i4:i<=4
section
variable {rw:Bool}{k i i1:Nat}{ns ns1:List Str}{r0 r1 r2:W3}{bare:List Str}{l:Str}{a a':Ab}{c:Cal}{hd:Hd}{body:List Str}
theorem LInv.bd0(V:LInv rw k i ns r0 r1 r2 bare l a)(hk:k<=300):r0.Bd:=⟨by have:=V.hz0;walk_at "o",by have:=V.hc0;walk_at "o",by have:=V.o0;walk_at "o"⟩
theorem LInv.bd1(V:LInv rw k i ns r0 r1 r2 bare l a)(hk:k<=300):r1.Bd:=⟨by rw[V.h01];have:=V.hz0;walk_at "o",by rw[V.h01];have:=V.hc0;walk_at "o",by have:=V.o1;walk_at "o"⟩
theorem LInv.bd2(V:LInv rw k i ns r0 r1 r2 bare l a)(hk:k<=300):r2.Bd:=⟨by have:=V.hz2;walk_at "o",by have:=V.hc2;walk_at "o",by have:=V.o2;walk_at "o"⟩
theorem LInv.ll(V:LInv rw k i ns r0 r1 r2 bare l a)(hk:k<=300):l.length<=10000:=by
 have h1:=vO i r0.m.held;have h2:=V.hc0;rw[V.hl];walk_at "o"
theorem aAI(m:Wm):m.remS.held=m.held\/m.remS.held=[]:=by
 delta Wm.remS Wm.rem
 split
 ·split
  ·exact .inl rfl
  ·split
   ·exact .inr rfl
   ·exact .inl rfl
 ·exact .inl rfl
theorem LInv.rem(V:LInv rw k i ns r0 r1 r2 bare l a){x1 x2:Option Str}{l':Str}{bare':List Str}(h:(a.ig=0/\l'=""/\bare'=bare++[dC l])\/(a.ig≠0/\l'=l/\bare'=bare)):LInv rw (k+1) i ns (r0.rem x1) (r1.rem x2) r2 bare' l' a:=by
 have e0:=sO (V.a0▸V.V) V.i4;have hg0:r0.m.ig=a.ig:=congrArg Ab.ig V.a0;have hg1:r1.m.ig=a.ig:=congrArg Ab.ig V.a1;have n0:=jI r0.m x1;have n1:=jI r1.m x2;have hb:r0.m.remS.held.length<=r0.m.held.length/\(cat r0.m.remS.held).length<=(cat r0.m.held).length:=by
  rcases aAI r0.m with h | h
  ·rw[h];exact⟨AG _,AG _⟩
  ·rw[h];exact⟨AB _,AB _⟩
 have z1:=V.hz0;have z2:=V.hc0;have z3:=V.hz2;have z4:=V.hc2;have z5:=V.pot;have z6:=V.o0;have z7:=V.o1;have z8:=V.o2;have z9:=V.bz;have core:l'=lh i r0.m.remS.held/\cat r2.outs++tl i r2.m.held=cat bare'++tl i r0.m.remS.held:=by
  rw[hg0]at e0;rcases h with⟨h1,rfl,rfl⟩ | ⟨h1,rfl,rfl⟩
  ·by_cases h3:i=3
   ·rw[if_pos ⟨h1,h3⟩]at e0;rw[e0,vN,aC0,eG,V.cmp,V.hl];exact⟨rfl,(mL _).symm⟩
   ·rw[if_neg (λ h=>h3 h.2)]at e0;have hle:l="":=by rw[V.hl,nQ h3]
    rw[e0,nQ h3,eG,V.cmp,hle,jZ,mL];exact⟨rfl,rfl⟩
  ·rw[if_neg (λ h=>h1 h.1)]at e0;rw[e0];exact⟨V.hl,V.cmp⟩
 have hbl:bare'.length<=k+1:=by
  rcases h with⟨_,_,rfl⟩ | ⟨_,_,rfl⟩
  ·rw[Ae,Az];walk_at "o"
  ·walk_at "o"
 refine⟨V.V.up,(zY r0.m).trans V.a0,(zY r1.m).trans V.a1,V.a2,?_,core.1,core.2,?_,?_,?_,?_,?_,?_,?_,?_,V.c1,V.c2,hbl,V.i4⟩
 ·show r1.m.remS.held=r0.m.remS.held;rw[e0,(sO (m:=r1.m) (V.a1▸V.V) V.i4),hg0,hg1,V.h01]
 ·show r0.m.remS.held.length<=_;walk_at "o"
 ·show(cat r0.m.remS.held).length<=_;walk_at "o"
 ·walk_at "o"
 ·walk_at "o"
 ·walk_at "o"
 ·show(r0.outs++r0.m.remW x1).length<=_;rw[Ae];walk_at "o"
 ·show(r1.outs++r1.m.remW x2).length<=_;rw[Ae];walk_at "o"
 ·walk_at "o"
theorem LInv.rows(V:LInv rw k i ns r0 r1 r2 bare l a){o1 o2:Oc}(X1:OcX o1 (bH "m" o1))(X2:OcX o2 (bL o2)):R4.pr [r0.m.remM o1,r1.m.remM o2,""] [cat (r0.m.remW (bH "m" o1)),cat (r1.m.remW (bL o2)),""]=R4.pr ((if 0<a.ig then["",""]else[o1.msg,o2.msg]:List Str)++[("":Str)]) [dA a.ig i l (Oc.mark (bH "m" o1)) o1.msg,dA a.ig i l (Oc.mark (bL o2)) o2.msg,""]:=by
 have hg0:r0.m.ig=a.ig:=congrArg Ab.ig V.a0;have hg1:r1.m.ig=a.ig:=congrArg Ab.ig V.a1;rw[qT (V.a0▸V.V) V.i4 X1,qT (m:=r1.m) (V.a1▸V.V) V.i4 X2,V.h01,←V.hl,hg0,hg1];unfold Wm.remM;rw[hg0,hg1]
 by_cases h:a.ig=0
 ·rw[if_pos h,if_pos h,if_neg (by walk_at "o")];rfl
 ·rw[if_neg h,if_neg h,if_pos (by walk_at "o")];rfl
noncomputable def W3.told(r:W3)(hd:Hd)(body:List Str)(m':Wm):W3:={ r with m:=m',outs:=r.outs++(hd.out r.m.rs r.m.held++body) }
theorem Ef.hc(e:Ef rw k i c i1 ns1 a a' hd body){h:List Str}(hx:∀ x,c=.txt x->x.length<=8):(cat (hd.held h)).length<=(cat h).length+8:=by
 have h1:=e.hd;cases hd with
 | keep=>exact AX _ _
 | fl=>exact AB _
 | add x=>
  have h2:x.length<=8:=by
   cases c with
   | txt y=>
    change Hd.add x=if 0<a.ig then Hd.keep else .add y at h1
    split at h1
    ·cases h1
    ·injection h1 with h1
     rw[h1];exact hx y rfl
   | start y j=>change Hd.add x=if _ then _ else _ at h1;split at h1<;>cases h1
   | fin y=>change Hd.add x=if _ then _ else _ at h1;split at h1<;>cases h1
   | ns p u=>change Hd.add x=if _ then _ else _ at h1;split at h1<;>cases h1
   | rem y=>cases h1
  show(cat (h++[x])).length<=_;rw[eG,Str.length_append];walk_at "o"
theorem LInv.told(V:LInv rw k i ns r0 r1 r2 bare l a)(e:Ef rw k i c i1 ns1 a a' hd body)(hi1:i1<=4)(hx:∀ x,c=.txt x->x.length<=8){m0 m1 m2:Wm}(e0:cM m0=a')(e1:cM m1=a')(e2:cM m2=a')(g0:m0.held=hd.held r0.m.held)(g1:m1.held=hd.held r1.m.held)(g2:m2.held=hd.held r2.m.held):LInv rw (k+1) i1 ns1 (r0.told hd body m0) (r1.told hd body m1) (r2.told hd body m2) (bare++[cat (hd.out r0.m.rs r0.m.held++body)]) (jT hd ns l) a':=by
 have hr0:r0.m.rs=decide (3<=i):=(congrArg Ab.rs V.a0).trans V.V.rs;have hr2:r2.m.rs=decide (3<=i):=(congrArg Ab.rs V.a2).trans V.V.rs;have z1:=V.hz0;have z2:=V.hc0;have z3:=V.hz2;have z4:=V.hc2;have z6:=V.o0;have z7:=V.o1;have z8:=V.o2;have z9:=V.bz;have y1:=tN hd r0.m.held;have y2:=tN hd r2.m.held;have y3:=e.hc (h:=r0.m.held) hx;have y4:=e.hc (h:=r2.m.held) hx;have y5:=mI hd r0.m.rs r0.m.held;have y6:=mI hd r1.m.rs r1.m.held;have y7:=mI hd r2.m.rs r2.m.held;have y8:=e.bl;refine⟨e.inv,e0,e1,e2,?_,?_,?_,?_,?_,?_,?_,?_,?_,?_,?_,V.c1,V.c2,?_,hi1⟩
 ·show m1.held=m0.held;rw[g0,g1,V.h01]
 ·show _=lh i1 m0.held;rw[g0,e.lh V.V,V.hl]
 ·show cat (r2.outs++(hd.out r2.m.rs r2.m.held++body))++tl i1 m2.held=cat (bare++[cat (hd.out r0.m.rs r0.m.held++body)])++tl i1 m0.held;rw[g0,g2,hr0,hr2];exact e.cmp rfl V.cmp
 ·show m0.held.length<=_;rw[g0];walk_at "o"
 ·show(cat m0.held).length<=_;rw[g0];walk_at "o"
 ·show m2.held.length<=_;rw[g2];walk_at "o"
 ·show(cat m2.held).length<=_;rw[g2];walk_at "o"
 ·show(cat (r2.outs++(hd.out r2.m.rs r2.m.held++body))).length+6*(cat m2.held).length<=_;rw[g2];exact e.pot hx V.pot
 ·show(r0.outs++(hd.out r0.m.rs r0.m.held++body)).length<=_;rw[Ae,Ae];walk_at "o"
 ·show(r1.outs++(hd.out r1.m.rs r1.m.held++body)).length<=_;rw[Ae,Ae];walk_at "o"
 ·show(r2.outs++(hd.out r2.m.rs r2.m.held++body)).length<=_;rw[Ae,Ae];walk_at "o"
 ·rw[Ae,Az];walk_at "o"
theorem LInv.same(V:LInv rw k i ns r0 r1 r2 bare l a)(hd:Hd)(body:List Str):cat (hd.out r1.m.rs r1.m.held++body)=cat (hd.out r0.m.rs r0.m.held++body):=by
 have h1:r1.m.rs=a.rs:=congrArg Ab.rs V.a1;have h0:r0.m.rs=a.rs:=congrArg Ab.rs V.a0;rw[h1,h0,V.h01]
end
noncomputable abbrev eI(rs:List W3):List Value:=rs.map λ r=>.ref r.w.x
noncomputable def dT(W:Wd)(rw:Bool)(rs:List W3):Lg:=rs.flatMap (W3.led W rw)
theorem mQ(W:Wd)(rw:Bool)(rs:List W3)(r:W3):dT W rw (rs++[r])=dT W rw rs++r.led W rw:=by
 unfold dT;rw[List.flatMap_append];simp
theorem qJ(W:Wd)(rw:Bool)(r0 r1 r2:W3):dT W rw [r0,r1,r2]=r0.led W rw++(r1.led W rw++(r2.led W rw++[])):=rfl
theorem pL{W:Wd}{sh:Lg}{it:Addr}:∀{xs:List W3} {own:Lg} {og:Gens},cN W sh it (eI xs) own og->YdR W sh it (λ(q:W3) v=>v=.ref q.w.x) xs own og
 | [],_,_,H=>H
 | q::r,_,_,H=>⟨H.1,λ A R GR s Q E hA S hQ=>H.2 A R GR s Q E hA S λ own' og' s' S' H'=>hQ _ own' og' s' rfl S' (pL (xs:=r) H')⟩
noncomputable def ToldL(hd:Hd)(body:List Str)(a':Ab)(dn ys:List W3):Prop:=ys.length=dn.length/\∀(j:Nat) x,dn[j]?=some x->∃ m',cM m'=a'/\m'.held=hd.held x.m.held/\ys[j]?=some (x.told hd body m')
theorem ToldL.snoc{hd:Hd}{body:List Str}{a':Ab}{dn ys:List W3}{x:W3}{m':Wm}(h:ToldL hd body a' dn ys)(e1:cM m'=a')(e2:m'.held=hd.held x.m.held):ToldL hd body a' (dn++[x]) (ys++[x.told hd body m']):=by
 refine⟨by rw[Ae,Ae,h.1];rfl,λ j y hj=>?_⟩
 by_cases hlt:j<dn.length
 ·rw[List.getElem?_append_left hlt]at hj;obtain⟨m,f1,f2,f3⟩:=h.2 j y hj;exact⟨m,f1,f2,by rw[List.getElem?_append_left (by rw[h.1];exact hlt)];exact f3⟩
 ·have hl:=(List.getElem?_eq_some_iff.mp hj).1;rw[Ae,Az]at hl;have hje:j=dn.length:=by walk_at "o"
  subst hje;rw[List.getElem?_append_right (AG _),Nat.sub_self]at hj;injection hj with hj
  subst hj;exact⟨m',e1,e2,by rw[←h.1,List.getElem?_append_right (AG _),Nat.sub_self];rfl⟩
theorem ToldL.three{hd:Hd}{body:List Str}{a':Ab}{r0 r1 r2:W3}{ys:List W3}(h:ToldL hd body a' [r0,r1,r2] ys):∃ m0 m1 m2,(cM m0=a'/\cM m1=a'/\cM m2=a')/\(m0.held=hd.held r0.m.held/\m1.held=hd.held r1.m.held/\m2.held=hd.held r2.m.held)/\ys=[r0.told hd body m0,r1.told hd body m1,r2.told hd body m2]:=by
 obtain⟨m0,f1,f2,f3⟩:=h.2 0 r0 rfl;obtain⟨m1,f4,f5,f6⟩:=h.2 1 r1 rfl;obtain⟨m2,f7,f8,f9⟩:=h.2 2 r2 rfl;refine⟨m0,m1,m2,⟨f1,f4,f7⟩,⟨f2,f5,f8⟩,List.ext_getElem? λ j=>?_⟩;rcases(show j=0\/j=1\/j=2\/3<=j by walk_at "o")with rfl | rfl | rfl | hj
 ·exact f3
 ·exact f6
 ·exact f9
 ·rw[List.getElem?_eq_none (by rw[h.1];exact hj),List.getElem?_eq_none (by exact hj)]
section
variable {rw:Bool}
noncomputable def tFor:Stmt:=lB.getD 2 (.Pass default)
theorem aCZ{L it wl scr ba td du:Addr}{p:Pos}{r0 r1 r2:W3}{r:CA}{t:Tok×Tok×Tok}{a a':Ab}{hd:Hd}{body:List Str}{c?:Option Addr}{hi de be he:Value}{vk vw vt vm vr vs vwr:Option Value}{R:Result->Ac->Prop}(I:IsC W)(hA:Aok 32 A)(T:fT W rw r t a a' hd body)(b0:r0.Bd)(b1:r1.Bd)(b2:r2.Bd)(a0:cM r0.m=a)(a1:cM r1.m=a)(a2:cM r2.m=a)(S:Sta W G (aV L) (dK scr wl vk vw hi de be he ba td du (some (.ref r.a)) vt vm vr vs vwr) ((it,bM wl 0)::(wl,aA [.ref r0.w.x,.ref r1.w.x,.ref r2.w.x])::(r.opn W t++(r0.led W rw++(r1.led W rw++(r2.led W rw++(bA 116 bE aN c?++N)))))) s)(k:∀ vw c? m0 m1 m2 s',(cM m0=a'/\cM m1=a'/\cM m2=a')->(m0.held=hd.held r0.m.held/\m1.held=hd.held r1.m.held/\m2.held=hd.held r2.m.held)->Sta W G (aV L) (dK scr wl vk vw hi de be he ba td du (some (.ref r.a)) vt vm vr vs vwr) ((wl,aA [.ref r0.w.x,.ref r1.w.x,.ref r2.w.x])::(r.opn W t++((r0.told hd body m0).led W rw++((r1.told hd body m1).led W rw++((r2.told hd body m2).led W rw++(bA 116 bE aN c?++N)))))) s'->R (.ok .next) s')(bdy:List Stmt)(hbd:bdy=iL tFor):codeAny W.M A (.forLoop (.Name "writer" p) (.ref it) bdy [] (aV L)) R s:=by
 subst hbd;have Y:LY W [(wl,aA (eI [r0,r1,r2]))] it (eI [r0,r1,r2]) [(it,bM wl 0)]:=dJ (own₀:=[]) (by simp) (eI [r0,r1,r2]) 0 rfl;obtain⟨xs,hxs⟩:∃ xs,xs=[r0,r1,r2]:=⟨_,rfl⟩
 have hab:∀ x∈xs,cM x.m=a:=by rw[hxs];exact aA7 a0 a1 a2
 have hbd:∀ x∈xs,x.Bd:=by rw[hxs];exact aA7 b0 b1 b2
 have hsz:(1000:Nat)<=Au:=by rw[Av];decide
 have htz:(10000:Nat)<=txL:=by unfold txL;decide
 have S2:Sta W (G++[]) (aV L) (dK scr wl vk vw hi de be he ba td du (some (.ref r.a)) vt vm vr vs vwr) ((dT W rw []++(dT W rw (xs.drop 0)++(bA 116 bE aN c?++(r.opn W t++N))))++([(wl,aA (eI xs))]++[(it,bM wl 0)])) s:=by
  rw[Aj,List.drop_zero,hxs,qJ];refine S.perm ?_;show List.Perm _ (([]++((r0.led W rw++(r1.led W rw++(r2.led W rw++[])))++(bA 116 bE aN c?++(r.opn W t++N))))++([(wl,aA [.ref r0.w.x,.ref r1.w.x,.ref r2.w.x])]++[(it,bM wl 0)]));walk_at "perm"
 rw[←hxs]at Y;clear S;refine oA (sh:=[(wl,aA (eI xs))]) (f:=λ(r:W3)=>.ref r.w.x) (hA.le (by decide)) (G:=G) (og:=[]) (own:=[(it,bM wl 0)]) (λ(v:List W3×Option Addr×Option Value) _=>dK scr wl vk v.2.2 hi de be he ba td du (some (.ref r.a)) vt vm vr vs vwr) (λ v dn=>dT W rw v.1++(dT W rw (xs.drop dn.length)++(bA 116 bE aN v.2.1++(r.opn W t++N)))) (λ v dn=>ToldL hd body a' dn v.1) (pL Y.yields) ([],c?,vw) ⟨rfl,λ j x h=>by cases h⟩ S2 ?_ ?_
 rotate_left
 ·intro x dn rest tl tg v s1 K hq hH S1 kk _ _;clear S2;have hxm:x∈xs:=by rw[hq];simp
  have hB:=hbd x hxm;have e1:xs.drop dn.length=x::rest:=by rw[hq,List.drop_left]
  have e2:xs.drop (dn++[x]).length=rest:=by rw[hq,show dn++x::rest=(dn++[x])++rest by simp,List.drop_left]
  have e3:dT W rw (x::rest)=x.led W rw++dT W rw rest:=rfl;rw[e1,e3]at S1;refine wpAny_assign_Name (S1.store (by walk_at "put") λ s' S'=>?_);clear S1;refine aR ?_;walk_at "c";refine Sta.global S' I.g_l_tell (by kernel_rfl) ?_;refine bR (by rw[I.k];kernel_rfl) ?_ (by kernel_rfl) (by kernel_rfl);walk_at "c";refine T (x:=x) (c?:=v.2.1) (N:=dT W rw v.1++(dT W rw rest++(N++([(wl,aA (eI xs))]++tl)))) (hA.le (by decide)) (hab x hxm) (An hB.h hsz) (An hB.c htz) (by have:=hB.o;walk_at "o") (S'.perm (by walk_at "perm")) ?_;clear S';intro m' c2 s' f1 f2 S';walk_at "c";refine(kk (v.1++[x.told hd body m'],c2,some (.ref x.w.x)) s' (hH.snoc f1 f2) (S'.perm ?_)).1;rw[e2,mQ];show List.Perm (r.opn W t++((x.told hd body m').led W rw++_)) _;walk_at "perm"
 ·intro v s1 hH S1;rw[hxs]at hH;obtain⟨m0,m1,m2,f1,f2,f3⟩:=hH.three;refine k v.2.2 v.2.1 m0 m1 m2 s1 f1 f2 (S1.perm ?_);rw[f3,qJ,List.drop_length,hxs];show List.Perm (((r0.told hd body m0).led W rw++((r1.told hd body m1).led W rw++((r2.told hd body m2).led W rw++[]))++([]++(bA 116 bE aN v.2.1++(r.opn W t++N))))++[(wl,aA [.ref r0.w.x,.ref r1.w.x,.ref r2.w.x])]) _;walk_at "perm"
end
section
variable {rw:Bool}
theorem aCJ{L oc sc ol sl a:Addr}{os:List Grew}{j:Nat}{o y:List Str}{p3 p4 p5 p6 p7 p8 p9 p10 p11:Pos}{x:Str}{tx:Tok}{Q:Value->Ac->Prop}(hx:x=Str.empty)(hoc:ClO (aV L) .cell "outs" oc)(hsc:ClO (aV L) .cell "seen" sc)(hg:os[j]?=some (a,o,y))(hj:j<100)(hz:(o++y).length<=Au)(hc:(cat y).length<=16000000)(S':Sta W G (aV L) loc ((oc,aE (some (.ref ol)))::(ol,aA (fB os))::(sc,aE (some (.ref sl)))::(sl,aZ (dN os))::(fD os++N)) s)(k:∀ t s',Sta W G (aV L) loc ((oc,aE (some (.ref ol)))::(ol,aA (fB os))::(sc,aE (some (.ref sl)))::(sl,aZ (dN os))::(fD os++N)) s'->Q (.str (cat y) t) s'):GetM W.M A E "join" (.str x tx) (λ p s₂=>Ad W.M A (callWith p11 p.1 p.2 (backTo p11 (Aw [.Subscript (.Subscript (.Name "outs" p3) (.Constant (.int (j:Int)) 0 p4) p5) (.Slice (some (.Subscript (.Name "seen" p6) (.Constant (.int (j:Int)) 0 p7) p8)) none none p9) p10] (aV L))) (backToKw p11 (keywordEach [] (aV L)))) Q E s₂) s:=by
 have hrm:(a,o,y)∈os:=Ap hg;have g1:(fB os)[j]?=some (.ref a):=by rw[List.getElem?_map,hg];rfl
 have g2:(dN os)[j]?=some (o.length:Int):=by rw[List.getElem?_map,hg];rfl
 have hmq:(a,aB (o++y))∈(fD os++N):=Am _ (Ah.mpr ⟨(a,o,y),hrm,rfl⟩);refine dW ?_;walk_at "c";refine wT ?_;refine aO ?_ (by intro _ _;kernel_rfl);refine Sta.cell S' hoc (by walk_at "mem") ?_;walk_at "c";refine Sta.sub_list S' (by walk_at "mem") (by walk_at "o") (by walk_at "o") (by rw[BD];exact g1) ?_;rw[evalPart_some];refine aO ?_ (by intro _ _;kernel_rfl);refine Sta.cell S' hsc (by walk_at "mem") ?_;walk_at "c";refine Sta.subI S' (by walk_at "mem") (j:=j) rfl (by walk_at "o") g2 λ t2=>?_;walk_at "c";refine lG (j:=o.length) S' (by walk_at "mem") hz rfl ?_;rw[List.drop_left];clear S';intro sl2 s' S';walk_at "c";refine Sta.joinT S' (.head _) hx (by walk_at "o") ?_;clear S';intro t3 s' S';exact k t3 s' (S'.sel (Sel.rest [(sl2,aB y)] (by walk_at "perm")))
end
section
variable {rw:Bool}
theorem aCW{L oc ol sc sl wl ba td du scr:Addr}{k i:Nat}{ns:List Str}{r0 r1 r2:W3}{r:CA}{t:Tok×Tok×Tok}{a a':Ab}{hd:Hd}{body:List Str}{c?:Option Addr}{bare:List Str}{l:Str}{ta dd:List R4A}{hi de be he:Value}{vk vw vt vm vr vs vwr:Option Value}{Q:Flow->Ac->Prop}(I:IsC W)(hA:Aok 33 A)(hoc:ClO (aV L) .cell "outs" oc)(hsc:ClO (aV L) .cell "seen" sc)(hk:k<=300)(hkd:aA2 r.c≠"remark")(T:fT W rw r t a a' hd body)(V:LInv rw k i ns r0 r1 r2 bare l a)(hb1:body.length<=4)(hb2:(cat body).length<=45000)(hta:ta.length<=9000)(hdd:dd.length<=9000)(S':Sta W G (aV L) (dK scr wl vk vw hi de be he ba td du (some (.ref r.a)) vt vm vr vs vwr) (r.opn W t++((sl,aZ [(r0.outs.length:Int),(r1.outs.length:Int),(r2.outs.length:Int)])::bK W rw oc ol sc wl ba td du (some (.ref sl)) r0 r1 r2 bare ta dd (bA 116 bE aN c?++N))) s)(kk:∀ vw c? m0 m1 m2 t1 t2 s',(cM m0=a'/\cM m1=a'/\cM m2=a')->(m0.held=hd.held r0.m.held/\m1.held=hd.held r1.m.held/\m2.held=hd.held r2.m.held)-> Sta W G (aV L) (dK scr wl vk vw hi de be he ba td du (some (.ref r.a)) vt vm vr vs vwr) (r.opn W t++(bK W rw oc ol sc wl ba td du (some (.ref sl)) (r0.told hd body m0) (r1.told hd body m1) (r2.told hd body m2) (bare++[cat (hd.out r0.m.rs r0.m.held++body)]) (ta++[⟨0,0,0,t1,.tx (cat (hd.out r0.m.rs r0.m.held++body))⟩]) (dd++[⟨0,0,0,t2,.tx (cat (hd.out r0.m.rs r0.m.held++body))⟩]) (bA 116 bE aN c?++N))) s'-> Ad W.M A (execs (lB.drop 6) (aV L)) Q E s'):∀ st:List Stmt,st=lB.drop 1->Ad W.M A (execs st (aV L)) Q E s:=by
 intro st hst;subst hst;have b0:=V.bd0 hk;have b1:=V.bd1 hk;have b2:=V.bd2 hk;obtain⟨M,hM⟩:∃ M:Lg,M=(oc,aE (some (.ref ol)))::(ol,aA [.ref r0.out,.ref r1.out,.ref r2.out])::(sc,aE (some (.ref sl)))::(sl,aZ [(r0.outs.length:Int),(r1.outs.length:Int),(r2.outs.length:Int)])::(ba,aB bare)::(td,aA (aM ta))::(du,aA (aM dd))::(aP ta++(aP dd++N)):=⟨_,rfl⟩
 replace S':=S'.perm (nw':=(r.a,aJ (cX r.d t r.c))::(wl,aA [.ref r0.w.x,.ref r1.w.x,.ref r2.w.x])::(r.at W++(r0.led W rw++(r1.led W rw++(r2.led W rw++(bA 116 bE aN c?++M)))))) (by rw[hM];simp only[bK];walk_at "perm");refine aF rfl ?_;refine cH (by walk_at "mem") (.head _) (eD ..) S' (λ e=>absurd e hkd) (λ _=>?_);clear S';intro s' S';walk_at "c";refine wpAny_For ?_ (by intro _;kernel_rfl);walk_at "c";refine S'.iterL (.tail _ (.head _)) ?_;clear S';intro it s' S';refine aCZ (r:=r) (r0:=r0) (r1:=r1) (r2:=r2) (wl:=wl) (c?:=c?) (N:=M) I (hA.le (by decide)) T b0 b1 b2 V.a0 V.a1 V.a2 (S'.perm (by walk_at "perm")) ?_ _ rfl;clear S';intro vw c2 m0 m1 m2 s' f1 f2 S';obtain⟨x0,hx0⟩:∃ x,x=hd.out r0.m.rs r0.m.held++body:=⟨_,rfl⟩
 obtain⟨x1,hx1⟩:∃ x,x=hd.out r1.m.rs r1.m.held++body:=⟨_,rfl⟩
 obtain⟨x2,hx2⟩:∃ x,x=hd.out r2.m.rs r2.m.held++body:=⟨_,rfl⟩
 have hsame:cat x1=cat x0:=by rw[hx0,hx1];exact V.same hd body
 have hxl:∀(m:Wm) x,x=hd.out m.rs m.held++body->(cat m.held).length<=10000->x.length<=10/\(cat x).length<=16000000:=by
  intro m x e hm;have h1:=mI hd m.rs m.held;have h2:(cat (hd.out m.rs m.held)).length<=60000:=by
   cases hd with
   | keep=>exact AB _
   | add y=>exact AB _
   | fl=>have:=xB (rs:=m.rs) (h:=m.held);walk_at "o"
  rw[e];exact⟨by rw[Ae];walk_at "o",by rw[bP,Str.length_append];walk_at "o"⟩
 have l0:=hxl _ _ hx0 b0.c;have l1:=hxl _ _ hx1 b1.c;have o0:=b0.o;have o1:=b1.o;have hbz:=V.bz;replace S':=(S'.perm (nw':=(r0.told hd body m0).led W rw++((r1.told hd body m1).led W rw++((r2.told hd body m2).led W rw++((wl,aA [.ref r0.w.x,.ref r1.w.x,.ref r2.w.x])::(r.opn W t++(bA 116 bE aN c2++M)))))) (by walk_at "perm")).perm (lI (r0.told hd body m0) (r1.told hd body m1) (r2.told hd body m2) _);obtain⟨P,hP⟩:∃ P:Lg,P=(r0.told hd body m0).rest W rw++((r1.told hd body m1).rest W rw++((r2.told hd body m2).rest W rw++((wl,aA [.ref r0.w.x,.ref r1.w.x,.ref r2.w.x])::(r.opn W t++(bA 116 bE aN c2++N))))):=⟨_,rfl⟩
 obtain⟨os,hos⟩:∃ os:List Grew,os=[(r0.out,r0.outs,x0),(r1.out,r1.outs,x1),(r2.out,r2.outs,x2)]:=⟨_,rfl⟩
 replace S':=S'.perm (nw':=(ba,aB bare)::(td,aA (aM ta))::(du,aA (aM dd))::((oc,aE (some (.ref ol)))::(ol,aA (fB os))::(sc,aE (some (.ref sl)))::(sl,aZ (dN os))::(fD os++(aP ta++(aP dd++P))))) (by
  rw[hos,hM,hP,hx0,hx1,hx2];show List.Perm ((r0.out,aB (r0.outs++(hd.out r0.m.rs r0.m.held++body)))::(r1.out,aB (r1.outs++(hd.out r1.m.rs r1.m.held++body)))::(r2.out,aB (r2.outs++(hd.out r2.m.rs r2.m.held++body)))::_) ((ba,aB bare)::(td,aA (aM ta))::(du,aA (aM dd))::((oc,aE (some (.ref ol)))::(ol,aA [.ref r0.out,.ref r1.out,.ref r2.out])::(sc,aE (some (.ref sl)))::(sl,aZ [(r0.outs.length:Int),(r1.outs.length:Int),(r2.outs.length:Int)])::((r0.out,aB (r0.outs++(hd.out r0.m.rs r0.m.held++body)))::(r1.out,aB (r1.outs++(hd.out r1.m.rs r1.m.held++body)))::(r2.out,aB (r2.outs++(hd.out r2.m.rs r2.m.held++body)))::(aP ta++(aP dd++_)))));walk_at "perm")
 walk_at "ke";walk_at "c";refine aCJ (j:=0) (a:=r0.out) (o:=r0.outs) (y:=x0) (os:=os) (ol:=ol) (sl:=sl) (N:=(ba,aB bare)::(td,aA (aM ta))::(du,aA (aM dd))::(aP ta++(aP dd++P))) rfl hoc hsc (by rw[hos];rfl) (by decide) (by rw[Ae,Av];walk_at "o") l0.2 (S'.perm (by walk_at "perm")) ?_;clear S';intro t1 s' S';replace S':=S'.perm (nw':=(ba,aB bare)::(td,aA (aM ta))::(du,aA (aM dd))::((oc,aE (some (.ref ol)))::(ol,aA (fB os))::(sc,aE (some (.ref sl)))::(sl,aZ (dN os))::(fD os++(aP ta++(aP dd++P))))) (by walk_at "perm");walk_at "c";refine Sta.subT_last S' (.head _) λ t2=>?_;walk_at "c";have hv:∀(q:Tok) (x:Str),R4A.val ⟨0,0,0,q,.tx x⟩=.str x q:=λ _ _=>rfl;have hle:∀(q:Tok) (x:Str),R4A.led ⟨0,0,0,q,.tx x⟩=[]:=λ _ _=>rfl;refine Sta.pushR4 (r:=⟨0,0,0,t2,.tx (cat x0)⟩) (rs:=ta) (N:=(ba,aB (bare++[cat x0]))::(du,aA (aM dd))::(oc,aE (some (.ref ol)))::(ol,aA (fB os))::(sc,aE (some (.ref sl)))::(sl,aZ (dN os))::(fD os++(aP dd++P))) (by walk_at "o") (S'.perm (by rw[hle];walk_at "perm")) ?_;clear S';intro s' S';obtain⟨ta2,hta2⟩:∃ x,x=ta++[(⟨0,0,0,t2,.tx (cat x0)⟩:R4A)]:=⟨_,rfl⟩
 rw[←hta2]at S';replace S':=S'.perm (nw':=(du,aA (aM dd))::(td,aA (aM ta2))::(ba,aB (bare++[cat x0]))::((oc,aE (some (.ref ol)))::(ol,aA (fB os))::(sc,aE (some (.ref sl)))::(sl,aZ (dN os))::(fD os++(aP ta2++(aP dd++P))))) (by walk_at "perm");walk_at "c";refine aCJ (j:=1) (a:=r1.out) (o:=r1.outs) (y:=x1) (os:=os) (ol:=ol) (sl:=sl) (N:=(du,aA (aM dd))::(td,aA (aM ta2))::(ba,aB (bare++[cat x0]))::(aP ta2++(aP dd++P))) rfl hoc hsc (by rw[hos];rfl) (by decide) (by rw[Ae,Av];walk_at "o") l1.2 (S'.perm (by walk_at "perm")) ?_;clear S';intro t3 s' S';rw[hsame];walk_at "c";refine Sta.pushR4 (r:=⟨0,0,0,t3,.tx (cat x0)⟩) (rs:=dd) (N:=(td,aA (aM ta2))::(ba,aB (bare++[cat x0]))::(oc,aE (some (.ref ol)))::(ol,aA (fB os))::(sc,aE (some (.ref sl)))::(sl,aZ (dN os))::(fD os++(aP ta2++P))) (by walk_at "o") (S'.perm (by rw[hle];walk_at "perm")) ?_;clear S';intro s' S';obtain⟨dd2,hdd2⟩:∃ x,x=dd++[(⟨0,0,0,t3,.tx (cat x0)⟩:R4A)]:=⟨_,rfl⟩
 rw[←hdd2]at S';walk_at "ke";subst hx0;refine kk vw c2 m0 m1 m2 t2 t3 s' f1 f2 ?_;rw[←hta2,←hdd2];subst hx1 hx2 hos hP;refine((S'.sel (nw':=(r0.out,aB (r0.outs++(hd.out r0.m.rs r0.m.held++body)))::(r1.out,aB (r1.outs++(hd.out r1.m.rs r1.m.held++body)))::(r2.out,aB (r2.outs++(hd.out r2.m.rs r2.m.held++body)))::((r0.told hd body m0).rest W rw++((r1.told hd body m1).rest W rw++((r2.told hd body m2).rest W rw++((wl,aA [.ref r0.w.x,.ref r1.w.x,.ref r2.w.x])::(oc,aE (some (.ref ol)))::(ol,aA [.ref r0.out,.ref r1.out,.ref r2.out])::(sc,aE (some (.ref sl)))::(ba,aB (bare++[cat (hd.out r0.m.rs r0.m.held++body)]))::(td,aA (aM ta2))::(du,aA (aM dd2))::(aP ta2++(aP dd2++(r.opn W t++(bA 116 bE aN c2++N))))))))) (Sel.rest [(sl,aZ [(r0.outs.length:Int),(r1.outs.length:Int),(r2.outs.length:Int)])] ?_)).perm (lI (r0.told hd body m0) (r1.told hd body m1) (r2.told hd body m2) _).symm).perm ?_
 ·show List.Perm ((du,aA (aM dd2))::(aP dd2++((td,aA (aM ta2))::(ba,aB (bare++[cat (hd.out r0.m.rs r0.m.held++body)]))::(oc,aE (some (.ref ol)))::(ol,aA [.ref r0.out,.ref r1.out,.ref r2.out])::(sc,aE (some (.ref sl)))::(sl,aZ [(r0.outs.length:Int),(r1.outs.length:Int),(r2.outs.length:Int)])::((r0.out,aB (r0.outs++(hd.out r0.m.rs r0.m.held++body)))::(r1.out,aB (r1.outs++(hd.out r1.m.rs r1.m.held++body)))::(r2.out,aB (r2.outs++(hd.out r2.m.rs r2.m.held++body)))::(aP ta2++((r0.told hd body m0).rest W rw++((r1.told hd body m1).rest W rw++((r2.told hd body m2).rest W rw++((wl,aA [.ref r0.w.x,.ref r1.w.x,.ref r2.w.x])::(r.opn W t++(bA 116 bE aN c2++N))))))))))) _;walk_at "perm"
 ·show List.Perm _ (r.opn W t++((oc,aE (some (.ref ol)))::(ol,aA [.ref r0.out,.ref r1.out,.ref r2.out])::(sc,aE (some (.ref sl)))::(wl,aA [.ref r0.w.x,.ref r1.w.x,.ref r2.w.x])::(ba,aB (bare++[cat (hd.out r0.m.rs r0.m.held++body)]))::(td,aA (aM ta2))::(du,aA (aM dd2))::(aP ta2++(aP dd2++((r0.told hd body m0).led W rw++((r1.told hd body m1).led W rw++((r2.told hd body m2).led W rw++(bA 116 bE aN c2++N))))))));walk_at "perm"
end
noncomputable def begF(c:Cal)(b:Bool):Bool:=match c with | .start _ _=>true | _=>b
noncomputable def zS(c:Cal)(ns ns1:List Str):Prop:=match c with | .start x _=>ns1=ns++[x] | .fin x=>ns=ns1++[x] | _=>ns1=ns
section
variable {rw:Bool}
theorem aC4{L scr wl ba td du ca d:Addr}{c:Cal}{t:Tok×Tok×Tok}{g:Nat}{ns ns1:List Str}{l:Str}{th tdp tl:Tok}{bg:Bool}{vk vw vt vm vr vs vwr:Option Value}{Q:Flow->Ac->Prop}(I:IsC W)(hA:Aok 9 A)(hrem:∀ y,c≠.rem y)(hst:zS c ns ns1)(hl:l.length<=1000000)(hx:∀ x,c=.txt x->x.length<=8)(S':Sta W G (aV L) (dK scr wl vk vw (.int (g:Int) th) (.int (ns.length:Int) tdp) (.bool bg) (.str l tl) ba td du (some (.ref ca)) vt vm vr vs vwr) ((ca,aJ (cX d t c))::N) s)(k:∀(gi di:Int) hd bb ll th tdp tl s',gi=((jS c g:Nat):Int)->di=(ns1.length:Int)->hd=gQ c g->bb=begF c bg->ll=jT hd ns l->Sta W G (aV L) (dK scr wl vk vw (.int gi th) (.int di tdp) (.bool bb) (.str ll tl) ba td du (some (.ref ca)) vt vm vr vs vwr) ((ca,aJ (cX d t c))::N) s'->Q .next s'):∀ st:List Stmt,st=lB.drop 6->Ad W.M A (execs st (aV L)) Q E s:=by
 intro st hst';subst hst';cases c with
 | rem y=>exact absurd rfl (hrem y)
 | start x j=>
  subst hst;refine aF rfl ?_;refine cH (by walk_at "mem") (.head _) (eD ..) S' (λ _=>?_) (λ e=>absurd rfl e);clear S';intro s' S';walk_at "c";have en:((ns.length:Int)+1)=((ns++[x]).length:Int):=by rw[Ae];rfl
  refine cR (λ hg=>?_) (λ hg=>?_)
  ·have hc:0<g\/x="x":=.inl (by have:=of_decide_eq_true hg;walk_at "o");have e1:jS (.start x j) g=g+1:=if_pos hc;have e2:gQ (.start x j) g=.keep:=if_pos hc;walk_at "c";exact k _ _ _ _ _ _ _ _ s' (by rw[e1];rfl) en e2.symm rfl rfl S'
  ·walk_at "c";refine Sta.sub_tuple S' (.head _) (j:=1) rfl (by decide) rfl ?_;walk_at "c";refine wB (λ e=>?_) (λ e=>?_)
   ·have hc:0<g\/x="x":=.inr e;have e1:jS (.start x j) g=g+1:=if_pos hc;have e2:gQ (.start x j) g=.keep:=if_pos hc;walk_at "c";exact k _ _ _ _ _ _ _ _ s' (by rw[e1];rfl) en e2.symm rfl rfl S'
   ·have hc:¬(0<g\/x="x"):=λ h=>h.elim (λ h=>by have:=of_decide_eq_false hg;walk_at "o") e;have e1:jS (.start x j) g=g:=if_neg hc;have e2:gQ (.start x j) g=.fl:=if_neg hc;walk_at "c";exact k _ _ _ _ _ _ _ _ s' (by rw[e1]) en e2.symm rfl rfl S'
 | fin x=>
  refine aF rfl ?_;refine cH (by walk_at "mem") (.head _) (eD ..) S' (λ e=>absurd (show("end":Str)="start" from e) (by decide +kernel)) (λ _=>?_);clear S';intro s' S';walk_at "cw";refine cH (by walk_at "mem") (.head _) (eD ..) S' (λ _=>?_) (λ e=>absurd rfl e);clear S';intro s' S';walk_at "c";have en:((ns.length:Int)-1)=(ns1.length:Int):=by rw[hst,Ae,Az];walk_at "o"
  refine cR (λ hg=>?_) (λ hg=>?_)
  ·have hc:0<g:=by have:=of_decide_eq_true hg;walk_at "o"
   have e1:(g:Int)-1=((jS (.fin x) g:Nat):Int):=(ar_u2 hc).symm;have e2:gQ (.fin x) g=.keep:=if_pos hc;walk_at "c";exact k _ _ _ _ _ _ _ _ s' e1 en e2.symm rfl rfl S'
  ·have hc:¬0<g:=by have:=of_decide_eq_false hg;walk_at "o"
   have e1:jS (.fin x) g=g:=by show g-1=g;walk_at "o"
   have e2:gQ (.fin x) g=.fl:=if_neg hc;walk_at "c";exact k _ _ _ _ _ _ _ _ s' (by rw[e1]) en e2.symm rfl rfl S'
 | ns p u=>
  have hst:ns1=ns:=hst;subst hst;refine aF rfl ?_;refine cH (by walk_at "mem") (.head _) (eD ..) S' (λ e=>absurd (show("ns":Str)="start" from e) (by decide +kernel)) (λ _=>?_);clear S';intro s' S';walk_at "cw";refine cH (by walk_at "mem") (.head _) (eD ..) S' (λ e=>absurd (show("ns":Str)="end" from e) (by decide +kernel)) (λ _=>?_);clear S';intro s' S';walk_at "cw";refine cH (by walk_at "mem") (.head _) (eD ..) S' (λ _=>?_) (λ e=>absurd rfl e);clear S';intro s' S';walk_at "c";have e1:jS (.ns p u) g=g:=rfl;refine cR (λ hg=>?_) (λ hg=>?_)
  ·have hc:¬0<g:=by
    walk_at "o"
   have e2:gQ (.ns p u) g=.fl:=if_neg hc;walk_at "c";exact k _ _ _ _ _ _ _ _ s' rfl rfl e2.symm rfl rfl S'
  ·have hc:0<g:=by
    walk_at "o"
   have e2:gQ (.ns p u) g=.keep:=if_pos hc;walk_at "c";exact k _ _ _ _ _ _ _ _ s' rfl rfl e2.symm rfl rfl S'
 | txt x=>
  have hst:ns1=ns:=hst;subst hst;have hxl:=hx x rfl;refine aF rfl ?_;refine cH (by walk_at "mem") (.head _) (eD ..) S' (λ e=>absurd (show("text":Str)="start" from e) (by decide +kernel)) (λ _=>?_);clear S';intro s' S';walk_at "cw";refine cH (by walk_at "mem") (.head _) (eD ..) S' (λ e=>absurd (show("text":Str)="end" from e) (by decide +kernel)) (λ _=>?_);clear S';intro s' S';walk_at "cw";refine cH (by walk_at "mem") (.head _) (eD ..) S' (λ e=>absurd (show("text":Str)="ns" from e) (by decide +kernel)) (λ _=>?_);clear S';intro s' S';walk_at "c";have e1:jS (.txt x) g=g:=rfl;refine cR (λ hg=>?_) (λ hg=>?_)
  ·have hc:¬0<g:=by
    walk_at "o"
   have e2:gQ (.txt x) g=.add x:=if_neg hc;walk_at "c";refine cR (λ hd=>?_) (λ hd=>?_)
   ·have hn:ns1≠[]:=λ e=>by rw[e]at hd;exact absurd hd (by decide)
    have e3:jT (.add x) ns1 l=l++x:=if_neg hn;walk_at "c";refine Sta.sub_tuple S' (.head _) (j:=1) rfl (by decide) rfl ?_;refine Sta.iaddS S' (by walk_at "osz") ?_;clear S';intro t1 s' S';walk_at "c";exact k _ _ _ _ _ _ _ _ s' rfl rfl e2.symm rfl e3.symm S'
   ·have hn:ns1=[]:=Bs.mp (by have:=of_decide_eq_false hd;walk_at "o");have e3:jT (.add x) ns1 l=l:=if_pos hn;walk_at "c";exact k _ _ _ _ _ _ _ _ s' rfl rfl e2.symm rfl e3.symm S'
  ·have hc:0<g:=by
    walk_at "o"
   have e2:gQ (.txt x) g=.keep:=if_pos hc;walk_at "c";exact k _ _ _ _ _ _ _ _ s' rfl rfl e2.symm rfl rfl S'
end
section
variable {rw:Bool}
theorem aCX{L oc ol sc sl wl ba td du scr:Addr}{k i:Nat}{ns:List Str}{r0 r1 r2:W3}{r:CA}{t:Tok×Tok×Tok}{a:Ab}{c?:Option Addr}{bare:List Str}{l:Str}{ta dd:List R4A}{th tdp tl:Tok}{y:Int}{vk vw vt vm vr vs vwr:Option Value}{Q:Flow->Ac->Prop}(I:IsC W)(hA:Aok 33 A)(FR:Fra A (aV L) [])(hoc:ClO (aV L) .cell "outs" oc)(hsc:ClO (aV L) .cell "seen" sc)(hk:k<=300)(hy:r.c=.rem y)(V:LInv rw k i ns r0 r1 r2 bare l a)(hta:ta.length<=9000)(hdd:dd.length<=9000)(hrows:ta.map R4A.r=dd.map R4A.r)(S':Sta W G (aV L) (dK scr wl vk vw (.int (a.ig:Nat) th) (.int (ns.length:Int) tdp) (.bool (decide (3<=i))) (.str l tl) ba td du (some (.ref r.a)) vt vm vr vs vwr) (r.opn W t++((sl,aZ [(r0.outs.length:Int),(r1.outs.length:Int),(r2.outs.length:Int)])::bK W rw oc ol sc wl ba td du (some (.ref sl)) r0 r1 r2 bare ta dd (bA 116 bE aN c?++N))) s)(kk:∀ vk vt vm vr vs vwr tl r0' r1' bare' l' ta' dd' s',LInv rw (k+1) i ns r0' r1' r2 bare' l' a->ta'.map R4A.r=dd'.map R4A.r->ta'.length=ta.length+1-> Sta W G (aV L) (dK scr wl vk vw (.int (a.ig:Nat) th) (.int (ns.length:Int) tdp) (.bool (decide (3<=i))) (.str l' tl) ba td du (some (.ref r.a)) vt vm vr vs vwr) (r.opn W t++bK W rw oc ol sc wl ba td du (some (.ref sl)) r0' r1' r2 bare' ta' dd' (bA 116 bE aN c?++N)) s'->Q .cont s'):∀ st:List Stmt,st=lB.drop 1->Ad W.M A (execs st (aV L)) Q E s:=by
 intro st hst;subst hst;have b0:=V.bd0 hk;have b1:=V.bd1 hk;have b2:=V.bd2 hk;have hll:=V.ll hk;have hbz:=V.bz;obtain⟨it,hit⟩:∃ it,it=cX r.d t (.rem y):=⟨_,rfl⟩
 have hop:r.opn W t=(r.a,aJ it)::r.at W:=by rw[hit,←hy]
 rw[hop]at S' kk;have S2:=S'.perm (nw':=(r.a,aJ it)::(sl,aZ [(r0.outs.length:Int),(r1.outs.length:Int),(r2.outs.length:Int)])::bK W rw oc ol sc wl ba td du (some (.ref sl)) r0 r1 r2 bare ta dd (r.at W++(bA 116 bE aN c?++N))) (by simp only[bK];walk_at "perm");clear S';refine aF rfl ?_;have S':=S2;clear S2;refine cH (by walk_at "mem") (.head _) (by rw[hit];rfl) S' (λ _=>?_) (λ e=>absurd rfl e);clear S';intro s' S';subst hit;refine remA_ (y:=y) (d:=r.d) (t:=t) (i:=i) (ns:=ns) (k:=k) (N:=r.at W++(bA 116 bE aN c?++N)) I (hA.le (by decide)) FR hoc hsc V.i4 (V.a0▸V.V) (V.a1▸V.V) b0 b1 b2 V.c1 V.c2 hta S' ?_ _ (by kernel_rfl);clear S';intro v a1 a2 wd o1 o2 row s' X1 X2 g1 g2 hr1 S';generalize hst:BI 3 rB=st;refine remB_ (i:=i) (ns:=ns) (g:=a.ig) (l:=l) (mk:=a1) (rf:=a2) (N:=r.at W++(bA 116 bE aN c?++N)) I (hA.le (by decide)) (by walk_at "o") g1 g2 V.V.nsl V.i4 rfl hdd (by walk_at "o") S' ?_ st hst.symm;clear S' hst;intro vk vt vm vr vs vwr l' tl' bare' row2 s' hr2 hx S';refine kk vk vt vm vr vs vwr tl' _ _ bare' l' (ta++[row]) (dd++[row2]) s' (V.rem (x1:=bH "m" o1) (x2:=bL o2) hx) ?_ ?_ (S'.perm ?_)
 ·rw[Ao,Ao,hrows];show _++[row.r]=_++[row2.r]
  rw[hr1,hr2,V.rows X1 X2]
 ·rw[Ae];rfl
 ·simp only[bK]
  walk_at "perm"
end
theorem uM{i b i1 b1:Nat}{ns ns1:List Str}{c:Cal}(h:Step i ns b c i1 ns1 b1):begF c (decide (3<=i))=decide (3<=i1)/\zS c ns ns1/\(i<=4->i1<=4)/\(∀ x,c=.txt x->x.length<=8)/\(∀ y,c=.rem y->i1=i/\ns1=ns):=by
 rcases h.or with⟨p,u,rfl,h2,rfl,h3⟩ | ⟨x,j,rfl,h2,h3,h4,rfl,rfl⟩ | ⟨h1,rfl,rfl⟩ | ⟨x,rfl,rfl,rfl,h4⟩
 ·refine⟨decide_eq_decide.mpr ?_,rfl,λ h=>?_,λ x e=>(by cases e),λ y e=>(by cases e)⟩
  ·rcases h3 with⟨h3,h4⟩ | ⟨_,h3,h4,_⟩<;>walk_at "o"
  ·rcases h3 with⟨h3,h4⟩ | ⟨_,h3,h4,_⟩<;>walk_at "o"
 ·exact⟨rfl,rfl,λ _=>by walk_at "o",λ x e=>(by cases e),λ y e=>(by cases e)⟩
 ·cases c with
  | txt x=>exact⟨rfl,rfl,id,λ y e=>by injection e with e;rw[←e];exact h1.2,λ y e=>(by cases e)⟩
  | rem y=>exact⟨rfl,rfl,id,λ x e=>(by cases e),λ y e=>⟨rfl,rfl⟩⟩
  | ns p u=>exact h1.elim
  | start x j=>exact h1.elim
  | fin x=>exact h1.elim
 ·refine⟨show decide (3<=3)=decide (3<=i1)from decide_eq_decide.mpr ?_,rfl,λ _=>?_,λ x e=>(by cases e),λ y e=>(by cases e)⟩
  ·rcases h4 with⟨h3,_⟩ | ⟨h3,_⟩<;>walk_at "o"
  ·rcases h4 with⟨h3,_⟩ | ⟨h3,_⟩<;>walk_at "o"
theorem kd_ne{c:Cal}(h:∀ y,c≠.rem y):aA2 c≠"remark":=by
 cases c with
 | rem y=>exact absurd rfl (h y)
 | ns p u=>show("ns":Str)≠"remark";decide +kernel
 | start x j=>show("start":Str)≠"remark";decide +kernel
 | fin x=>show("end":Str)≠"remark";decide +kernel
 | txt x=>show("text":Str)≠"remark";decide +kernel
section
variable {rw:Bool}
theorem turn_{L oc ol sc wl ba td du scr:Addr}{k i b i1 b1:Nat}{ns ns1:List Str}{r0 r1 r2:W3}{r:CA}{a:Ab}{c?:Option Addr}{v:Option Value}{bare:List Str}{l:Str}{ta dd:List R4A}{th tdp tl:Tok}{vk vw vt vm vr vs vwr:Option Value}{Q:Flow->Ac->Prop}(I:IsC W)(C:CodeHd W.B 118 116)(hA:Aok 34 A)(FR:Fra A (aV L) [])(hoc:ClO (aV L) .cell "outs" oc)(hsc:ClO (aV L) .cell "seen" sc)(hk:k<=300)(hn:ns.length<=200)(St:Step i ns b r.c i1 ns1 b1)(V:LInv rw k i ns r0 r1 r2 bare l a)(hrw:∀ x j,r.c=.start x j->atQ r.l=fG j)(hta:ta.length<=1000)(hdd:dd.length<=1000)(hrows:ta.map R4A.r=dd.map R4A.r)(S':Sta W G (aV L) (dK scr wl vk vw (.int (a.ig:Nat) th) (.int (ns.length:Int) tdp) (.bool (decide (3<=i))) (.str l tl) ba td du (some (.ref r.a)) vt vm vr vs vwr) (r.led W++bK W rw oc ol sc wl ba td du v r0 r1 r2 bare ta dd (bA 116 bE aN c?++N)) s)(kk:∀ vk vw vt vm vr vs vwr th tdp tl v c? r0' r1' r2' bare' l' a' ta' dd' s',LInv rw (k+1) i1 ns1 r0' r1' r2' bare' l' a'->ta'.map R4A.r=dd'.map R4A.r->ta'.length=ta.length+1-> Sta W G (aV L) (dK scr wl vk vw (.int (a'.ig:Nat) th) (.int (ns1.length:Int) tdp) (.bool (decide (3<=i1))) (.str l' tl) ba td du (some (.ref r.a)) vt vm vr vs vwr) (r.led W++bK W rw oc ol sc wl ba td du v r0' r1' r2' bare' ta' dd' (bA 116 bE aN c?++N)) s'->Q .next s'/\Q .cont s'):∀ st:List Stmt,st=lB.drop 0->Ad W.M A (execs st (aV L)) Q E s:=by
 intro st hst;subst hst;obtain⟨s1,s2,s3,s4,s5⟩:=uM St;have hi1:=s3 V.i4;obtain⟨t,S2⟩:=S'.openCal;clear S';have b0:=V.bd0 hk;have b1:=V.bd1 hk;have b2:=V.bd2 hk;have o0:=b0.o;have o1:=b1.o;have o2:=b2.o;have hll:=V.ll hk;have hlen:=congrArg AV hrows;rw[Al,Al]at hlen;obtain⟨P,hP⟩:∃ P:Lg,P=r0.rest W rw++(r1.rest W rw++(r2.rest W rw++((wl,aA [.ref r0.w.x,.ref r1.w.x,.ref r2.w.x])::(ba,aB bare)::(td,aA (aM ta))::(du,aA (aM dd))::(aP ta++(aP dd++(r.opn W t++(bA 116 bE aN c?++N))))))):=⟨_,rfl⟩
 refine seen_ (os:=[(r0.out,r0.outs),(r1.out,r1.outs),(r2.out,r2.outs)]) (ol:=ol) (v:=v) (N:=P) I (hA.le (by decide)) hoc hsc (AE rfl) (aA7 (by show r0.outs.length<=_;walk_at "osz") (by show r1.outs.length<=_;walk_at "osz") (by show r2.outs.length<=_;walk_at "osz")) (((S2.perm (nw':=r0.led W rw++(r1.led W rw++(r2.led W rw++((oc,aE (some (.ref ol)))::(ol,aA [.ref r0.out,.ref r1.out,.ref r2.out])::(sc,aE v)::((wl,aA [.ref r0.w.x,.ref r1.w.x,.ref r2.w.x])::(ba,aB bare)::(td,aA (aM ta))::(du,aA (aM dd))::(aP ta++(aP dd++(r.opn W t++(bA 116 bE aN c?++N))))))))) (by simp only[bK];walk_at "perm")).perm (lI r0 r1 r2 _)).perm ?_) ?_
 ·rw[hP];show List.Perm _ ((oc,aE (some (.ref ol)))::(ol,aA [.ref r0.out,.ref r1.out,.ref r2.out])::(sc,aE v)::((r0.out,aB r0.outs)::(r1.out,aB r1.outs)::(r2.out,aB r2.outs)::(r0.rest W rw++(r1.rest W rw++(r2.rest W rw++((wl,aA [.ref r0.w.x,.ref r1.w.x,.ref r2.w.x])::(ba,aB bare)::(td,aA (aM ta))::(du,aA (aM dd))::(aP ta++(aP dd++(r.opn W t++(bA 116 bE aN c?++N))))))))));walk_at "perm"
 clear S2;intro sl s' S';replace S':=((S'.perm (nw':=(r0.out,aB r0.outs)::(r1.out,aB r1.outs)::(r2.out,aB r2.outs)::(r0.rest W rw++(r1.rest W rw++(r2.rest W rw++((sl,aZ [(r0.outs.length:Int),(r1.outs.length:Int),(r2.outs.length:Int)])::(oc,aE (some (.ref ol)))::(ol,aA [.ref r0.out,.ref r1.out,.ref r2.out])::(sc,aE (some (.ref sl)))::((wl,aA [.ref r0.w.x,.ref r1.w.x,.ref r2.w.x])::(ba,aB bare)::(td,aA (aM ta))::(du,aA (aM dd))::(aP ta++(aP dd++(r.opn W t++(bA 116 bE aN c?++N)))))))))) (by
  rw[hP];show List.Perm ((sl,aZ [(r0.outs.length:Int),(r1.outs.length:Int),(r2.outs.length:Int)])::(sc,aE (some (.ref sl)))::(oc,aE (some (.ref ol)))::(ol,aA [.ref r0.out,.ref r1.out,.ref r2.out])::((r0.out,aB r0.outs)::(r1.out,aB r1.outs)::(r2.out,aB r2.outs)::(r0.rest W rw++(r1.rest W rw++(r2.rest W rw++((wl,aA [.ref r0.w.x,.ref r1.w.x,.ref r2.w.x])::(ba,aB bare)::(td,aA (aM ta))::(du,aA (aM dd))::(aP ta++(aP dd++(r.opn W t++(bA 116 bE aN c?++N)))))))))) _;walk_at "perm")).perm (lI r0 r1 r2 _).symm).perm (nw':=r.opn W t++((sl,aZ [(r0.outs.length:Int),(r1.outs.length:Int),(r2.outs.length:Int)])::bK W rw oc ol sc wl ba td du (some (.ref sl)) r0 r1 r2 bare ta dd (bA 116 bE aN c?++N))) (by simp only[bK];walk_at "perm")
 subst hP
 by_cases hrem:∃ y,r.c=.rem y
 ·obtain⟨y,hy⟩:=hrem;obtain⟨e1,e2⟩:=s5 y hy;subst e1 e2;generalize hst:BI 1 lB=st;refine aCX (r:=r) (t:=t) (a:=a) (c?:=c?) (y:=y) I (hA.le (by decide)) FR hoc hsc hk hy V (by walk_at "o") (by walk_at "o") hrows S' ?_ st hst.symm;clear S' hst;intro vk vt vm vr vs vwr tl r0' r1' bare' l' ta' dd' s' V2 h1 h2 S';exact(kk _ _ _ _ _ _ _ _ _ _ _ c? _ _ _ _ _ a _ _ s' V2 h1 h2 S'.closeCal).2
 ·have hrem:∀ y,r.c≠.rem y:=λ y e=>hrem ⟨y,e⟩;obtain⟨a',hd,body,e,T⟩:=aC3 (t:=t) I C hk hn St V.V hrw hrem;generalize hst:BI 1 lB=st;refine aCW (r:=r) (t:=t) (a:=a) (a':=a') (hd:=hd) (body:=body) (c?:=c?) (l:=l) (k:=k) (i:=i) (ns:=ns) I (hA.le (by decide)) hoc hsc hk (kd_ne hrem) T V e.bl e.cl (by walk_at "o") (by walk_at "o") S' ?_ st hst.symm;clear S' hst;intro vw c2 m0 m1 m2 t1 t2 s' f1 f2 S';have V2:=V.told e hi1 s4 f1.1 f1.2.1 f1.2.2 f2.1 f2.2.1 f2.2.2;generalize hst:BI 6 lB=st2;refine aC4 (c:=r.c) (d:=r.d) (t:=t) (g:=a.ig) (ns:=ns) (ns1:=ns1) (l:=l) I (hA.le (by decide)) hrem s2 (by walk_at "o") s4 S' ?_ st2 hst.symm;clear S' hst;intro gi di hd' bb ll th tdp tl s' q1 q2 q3 q4 q5 S';obtain rfl:gi=((a'.ig:Nat):Int):=by rw[q1,e.ig]
  obtain rfl:hd'=hd:=by rw[q3,e.hd]
  rw[s1]at q4;subst q2 q4 q5;refine(kk _ _ _ _ _ _ _ _ _ _ _ c2 _ _ _ _ _ a' _ _ s' V2 ?_ ?_ S'.closeCal).1
  ·rw[Ao,Ao,hrows];rfl
  ·rw[Ae];rfl
end
theorem mP{W:Wd}{sh:Lg}{it:Addr}:∀{xs:List CA} {own:Lg} {og:Gens},cN W sh it (bC xs) own og->YdR W sh it (λ(q:CA) v=>v=.ref q.a) xs own og
 | [],_,_,H=>H
 | q::r,_,_,H=>⟨H.1,λ A R GR s Q E hA S hQ=>H.2 A R GR s Q E hA S λ own' og' s' S' H'=>hQ _ own' og' s' rfl S' (mP (xs:=r) H')⟩
theorem aBi{i b i1 b1:Nat}{ns ns1:List Str}{c:Cal}(h:Step i ns b c i1 ns1 b1)(hb:ns.length<=b+1/\b<=9):ns1.length<=b1+1/\b1<=9:=by
 revert hb
 induction h with
 | start h1 h2 h3 h4=>intro hb;rw[Ae,Az];walk_at "o"
 | fin=>intro hb;rw[Ae,Az]at hb;walk_at "o"
 | r=>exact λ _=>⟨AG _,by walk_at "o"⟩
 | last=>exact λ h=>⟨AB _,h.2⟩
 | _=>exact id
theorem Chn.invs{i b i2 b2:Nat}{ns ns2:List Str}{cs:List Cal}(h:Chn i ns b cs i2 ns2 b2):match cs with | []=>i=i2/\ns=ns2 | c::cs=>∃ i1 ns1 b1,Step i ns b c i1 ns1 b1/\Chn i1 ns1 b1 cs i2 ns2 b2:=by
 induction h with
 | nil=>exact⟨rfl,rfl⟩
 | cons h1 h2 _=>exact⟨_,_,_,h1,h2⟩
theorem Chn.inv{i b i2 b2:Nat}{ns ns2:List Str}{c:Cal}{cs:List Cal}(h:Chn i ns b (c::cs) i2 ns2 b2):∃ i1 ns1 b1,Step i ns b c i1 ns1 b1/\Chn i1 ns1 b1 cs i2 ns2 b2:=h.invs
theorem Chn.inv0{i b i2 b2:Nat}{ns ns2:List Str}(h:Chn i ns b [] i2 ns2 b2):i=i2/\ns=ns2:=h.invs
structure LwS where
 i:Nat
 b:Nat
 ns:List Str
 r0:W3
 r1:W3
 r2:W3
 bare:List Str
 l:Str
 a:Ab
 ta:List R4A
 dd:List R4A
 c?:Option Addr
 th:Tok
 tp:Tok
 tl:Tok
 v:Option Value
 vk:Option Value
 vw:Option Value
 vc:Option Value
 vt:Option Value
 vm:Option Value
 vr:Option Value
 vs:Option Value
 vr2:Option Value
section
variable {rw:Bool}
theorem aAv{p:Pos}{L oc ol sc wl ba td du scr it cl:Addr}{bz:Nat}{cs:List CA}{r0 r1 r2:W3}{a:Ab}{l:Str}{v vk vw vc vt vm vr vs vwr:Option Value}{th tdp tl:Tok}{R:Result->Ac->Prop}(I:IsC W)(C:CodeHd W.B 118 116)(hA:Aok 35 A)(FR:Fra A (aV L) [])(hoc:ClO (aV L) .cell "outs" oc)(hsc:ClO (aV L) .cell "seen" sc)(hch:Chn 0 [] 0 (cs.map CA.c) 4 [] bz)(hro:RwO cs)(hc:cs.length<=300)(V:LInv rw 0 0 [] r0 r1 r2 [] l a)(S:Sta W G (aV L) (dK scr wl vk vw (.int (a.ig:Nat) th) (.int (0:Nat) tdp) (.bool false) (.str l tl) ba td du vc vt vm vr vs vwr) ((it,bM cl 0)::(cl,aA (bC cs))::bK W rw oc ol sc wl ba td du v r0 r1 r2 [] [] [] (bA 116 bE aN none++(aY W cs++N))) s)(k:∀ vk vw hi de be he vc vt vm vr vs vwr c? v r0 r1 r2 bare l a ta dd s',LInv rw cs.length 4 [] r0 r1 r2 bare l a->ta.map R4A.r=dd.map R4A.r->ta.length<=300->Sta W G (aV L) (dK scr wl vk vw hi de be he ba td du vc vt vm vr vs vwr) (bK W rw oc ol sc wl ba td du v r0 r1 r2 bare ta dd (bA 116 bE aN c?++(aY W cs++N))) s'->R (.ok .next) s')(body:List Stmt)(hbd:body=lB):codeAny W.M A (.forLoop (.Name "call" p) (.ref it) body [] (aV L)) R s:=by
 have Y:LY W [] it (bC cs) [(it,bM cl 0),(cl,aA (bC cs))]:=dJ (sh:=[]) (own₀:=[(cl,aA (bC cs))]) (.head _) (bC cs) 0 rfl;have S2:Sta W (G++[]) (aV L) (dK scr wl vk vw (.int (a.ig:Nat) th) (.int ((([]:List Str).length:Nat):Int) tdp) (.bool (decide (3<=0))) (.str l tl) ba td du vc vt vm vr vs vwr) (bK W rw oc ol sc wl ba td du v r0 r1 r2 [] [] [] (bA 116 bE aN none++(aY W cs++N))++([]++[(it,bM cl 0),(cl,aA (bC cs))])) s:=by
  rw[Aj];exact S.perm (by simp only[bK];walk_at "perm")
 clear S;refine oA (sh:=[]) (f:=λ(q:CA)=>.ref q.a) (hA.le (by decide)) (G:=G) (og:=[]) (own:=[(it,bM cl 0),(cl,aA (bC cs))]) (λ(v:LwS) _=>dK scr wl v.vk v.vw (.int (v.a.ig:Nat) v.th) (.int (v.ns.length:Int) v.tp) (.bool (decide (3<=v.i))) (.str v.l v.tl) ba td du v.vc v.vt v.vm v.vr v.vs v.vr2) (λ v _=>bK W rw oc ol sc wl ba td du v.v v.r0 v.r1 v.r2 v.bare v.ta v.dd (bA 116 bE aN v.c?++(aY W cs++N))) (λ v dn=>(∀ rest,cs=dn++rest->Chn v.i v.ns v.b (rest.map CA.c) 4 [] bz)/\(v.ns.length<=v.b+1/\v.b<=9)/\LInv rw dn.length v.i v.ns v.r0 v.r1 v.r2 v.bare v.l v.a/\v.ta.map R4A.r=v.dd.map R4A.r/\v.ta.length=dn.length) (mP Y.yields) ⟨0,0,[],r0,r1,r2,[],l,a,[],[],none,th,tdp,tl,v,vk,vw,vc,vt,vm,vr,vs,vwr⟩ ⟨λ rest e=>by rw[←show cs=rest from e];exact hch,⟨AB _,AB _⟩,V,rfl,rfl⟩ S2 ?_ ?_
 rotate_left
 ·intro r dn rest tl2 tg v s1 K hq hH S1 kk _ _;clear S2;obtain⟨hch,hb,V1,hr,hz⟩:=hH;have hdn:dn.length+1<=300:=by
   have:=congrArg AV hq;simp only[Ae,A9]at this;walk_at "o"
  have hzd:v.dd.length=v.ta.length:=by have:=congrArg AV hr;simpa using this.symm
  obtain⟨i1,ns1,b1,St,hch2⟩:=(hch _ hq).inv;have hb1:=aBi St hb;refine wpAny_assign_Name (S1.store (by walk_at "put") λ s' S'=>?_);clear S1;have hperm:(aY W cs).Perm (r.led W++(aY W dn++aY W rest)):=by
   rw[hq,eC];show List.Perm (aY W dn++(r.led W++aY W rest)) _;walk_at "perm"
  obtain⟨U,hU⟩:∃ U:Lg,U=aY W dn++aY W rest:=⟨_,rfl⟩
  rw[←hU]at hperm;have S2:=(S'.perm (nw':=aY W cs++bK W rw oc ol sc wl ba td du v.v v.r0 v.r1 v.r2 v.bare v.ta v.dd (bA 116 bE aN v.c?++(N++([]++tl2)))) (by simp only[bK];walk_at "perm")).perm (hperm.append_right _);clear S';refine turn_ (N:=U++(N++([]++tl2))) (r:=r) (k:=dn.length) I C (hA.le (by decide)) FR hoc hsc (by walk_at "o") (by walk_at "o") St V1 (hro r (by rw[hq];simp)) (by walk_at "o") (by walk_at "o") hr (S2.perm (by simp only[bK];walk_at "perm")) ?_ body hbd;clear S2;intro vk vw vt vm vr vs vwr th tdp tl v' c? r0' r1' r2' bare' l' a' ta' dd' s' V2 h1 h2 S';have S3:=(S'.perm (nw':=(r.led W++U)++bK W rw oc ol sc wl ba td du v' r0' r1' r2' bare' ta' dd' (bA 116 bE aN c?++(N++([]++tl2)))) (by simp only[bK];walk_at "perm")).perm (hperm.symm.append_right _);refine kk ⟨i1,b1,ns1,r0',r1',r2',bare',l',a',ta',dd',c?,th,tdp,tl,v',vk,vw,_,vt,vm,vr,vs,vwr⟩ _ ⟨λ rest' e=>?_,hb1,by rw[Ae];exact V2,h1,by rw[Ae,h2,hz];rfl⟩ (S3.perm (by simp only[bK];walk_at "perm"));have e2:rest=rest':=by
   have h:=hq.symm.trans e;rw[Ai]at h;exact(List.cons.inj (List.append_cancel_left h)).2
  exact e2▸hch2
 ·intro v s1 hH S1;obtain⟨hch,hb,V1,hr,hz⟩:=hH;obtain⟨e1,e2⟩:=(hch [] (Aj _).symm).inv0;rw[Aj]at S1;rw[e1,e2]at V1;exact k _ _ _ _ _ _ _ _ _ _ _ _ v.c? v.v v.r0 v.r1 v.r2 v.bare v.l v.a v.ta v.dd s1 V1 hr (by walk_at "o") S1
end
noncomputable def xP(s:Ac)(L:Lg):Prop:=∀ p∈L,∃ o,s.heap.get? p.1=some o/\p.2 o
theorem aAR{A:AJ}{s:Ac}{l b:Addr}{xs:List Str}(h1:∃ o,s.heap.get? l=some o/\aB xs o)(h2:∃ o,s.heap.get? b=some o/\aB xs o)(hu:A.units<cLine):RcAt A s (.ref l) (.ref b) true:=by
 obtain⟨o1,ho1,q0⟩:=h1;obtain⟨vs,hv,q0⟩:=q0;obtain⟨n1,rfl⟩:=q0;obtain⟨o2,ho2,q0⟩:=h2;obtain⟨ws,hw,q0⟩:=q0;obtain⟨n2,rfl⟩:=q0;refine xK (xs:=vs) (ys:=ws) ⟨_,ho1,rfl,n1,rfl⟩ ⟨_,ho2,rfl,n2,rfl⟩ (by rw[hv.length,hw.length]) hu λ j h1 h2=>?_;have hj:j<xs.length:=by rw[←hv.length];exact h1
 obtain⟨t,e1⟩:=hv.at? (List.getElem?_eq_getElem hj);obtain⟨u,e2⟩:=hw.at? (List.getElem?_eq_getElem hj);rw[List.getElem?_eq_getElem h1]at e1;rw[List.getElem?_eq_getElem h2]at e2;injection e1 with e1
 injection e2 with e2
 rw[e1,e2];have:=gT (A:=A.in1) (s:=s) (x:=xs[j]) (y:=xs[j]) (t:=t) (u:=u)
 rwa[decide_eq_true rfl]at this
theorem eqR4{A:AJ}{s:Ac}{a b:R4A}(e:a.r=b.r)(h1:xP s a.led)(h2:xP s b.led)(hu:A.units+4<cLine):EqAt A s a.val b.val true:=by
 obtain⟨a1,a2,a3,t,r⟩:=a;obtain⟨b1,b2,b3,u,r'⟩:=b;have e:r=r':=e;subst e;cases r with
 | tx x=>
  have:=gT (A:=A) (s:=s) (x:=x) (y:=x) (t:=t) (u:=u)
  rwa[decide_eq_true rfl]at this
 | pr xs ys=>
  obtain⟨o1,ho1,q0⟩:=h1 (a1,aJ [.ref a2,.ref a3]) (.head _);obtain⟨n1,rfl⟩:=q0;obtain⟨o2,ho2,q0⟩:=h2 (b1,aJ [.ref b2,.ref b3]) (.head _);obtain⟨n2,rfl⟩:=q0;have hu1:(A.in1).units<cLine:=by show A.units+1<_;walk_at "o"
  have hL:RcAt A.in1 s (.ref a2) (.ref b2) true:=aAR (h1 (a2,aB xs) (.tail _ (.head _))) (h2 (b2,aB xs) (.tail _ (.head _))) hu1;have hM:RcAt A.in1 s (.ref a3) (.ref b3) true:=aAR (h1 (a3,aB ys) (.tail _ (.tail _ (.head _)))) (h2 (b3,aB ys) (.tail _ (.tail _ (.head _)))) hu1;have k1:s.heap.IsTuple a1 #[.ref a2,.ref a3]:=⟨_,ho1,rfl,n1,rfl⟩
  have k2:s.heap.IsTuple b1 #[.ref b2,.ref b3]:=⟨_,ho2,rfl,n2,rfl⟩
  have hT:=RcAt.tuples (e:=λ _=>true) k1 k2 (A:=A) (by walk_at "o") (λ j h1 h2=>by
   cases j with
   | zero=>exact aD1 hL
   | succ j=>cases j with
    | zero=>exact aD1 hM
    | succ j=>exact absurd (Nat.lt_of_succ_lt_succ (Nat.lt_of_succ_lt_succ h1)) (Nat.not_lt_zero j))
  exact aD1 (show RcAt A s (.ref a1) (.ref b1) true from hT)
noncomputable def ab0(rw:Bool):Ab:=⟨dI rw,[false],false,false,0⟩
theorem oP{rw:Bool}{m:Wm}(h:IFr m rw):cM m=ab0 rw:=by
 unfold cM ab0;rw[h.ns,h.ps,h.rs,h.rd,h.ig]
theorem aDQ(rw:Bool):Inv4 rw 0 0 [] (ab0 rw) where
 igz:=AG _
 dl:=rfl
 ps:=rfl
 nss:=by
  have h1:(dI rw).nss≠[]:=by cases rw<;>simp[dI]
  have h2:(dI rw).nss.length<=2:=by cases rw<;>simp[dI]
  have h3:∀ q∈aX (dI rw).nss,q∈nmapV:=by cases rw<;>simp[dI,aX]
  exact⟨⟨(dI rw).nss,[],(Aj _).symm,rfl,h1,⟨λ q hq=>by simp at hq,h2⟩⟩,λ q hq=>.inl (h3 q hq)⟩
 nz:=by show(aX (dI rw).nss).length<=_;unfold dI;cases rw<;>decide
 good:=by
  show Good rw (dI rw);refine⟨?_,?_,?_,?_,?_,?_⟩<;>simp[dI,aX,xU]
 rs:=rfl
 rd:=rfl
 nsl:=by simp
 nm:=λ x hx=>by cases hx
theorem aDI{rw:Bool}{r0 r1 r2:W3}(h0:IFr r0.m rw/\r0.outs=[])(h1:IFr r1.m rw/\r1.outs=[])(h2:IFr r2.m rw/\r2.outs=[])(c1:r1.com=true)(c2:r2.com=false):LInv rw 0 0 [] r0 r1 r2 [] "" (ab0 rw):=by
 have e0:=h0.1.held;have e1:=h1.1.held;have e2:=h2.1.held;refine⟨aDQ rw,oP h0.1,oP h1.1,oP h2.1,by rw[e0,e1],by rw[e0];rfl,?_,?_,?_,?_,?_,?_,?_,?_,?_,c1,c2,AG _,AB _⟩
 ·rw[e0,e2,h2.2]
 ·rw[e0];exact AG _
 ·rw[e0];exact AG _
 ·rw[e2];exact AG _
 ·rw[e2];exact AG _
 ·rw[e2,h2.2];exact AG _
 ·rw[h0.2];exact AG _
 ·rw[h1.2];exact AG _
 ·rw[h2.2];exact AG _
theorem aAu{rw:Bool}{k:Nat}{r0 r1 r2:W3}{bare:List Str}{l:Str}{a:Ab}(V:LInv rw k 4 [] r0 r1 r2 bare l a):cat r2.outs=cat bare:=by
 have h:=V.cmp;rw[mT (by decide),mT (by decide),mL,mL]at h;exact h
noncomputable abbrev pX(scr wl:Addr)(vk vw:Option Value):Loc:=[("script",some (.ref scr)),("writers",some (.ref wl)),("k",vk),("writer",vw),("hidden",none),("depth",none),("begun",none),("held",none),("bare",none),("told",none),("due",none),("call",none),("thing",none),("marks",none),("refusals",none),("words",none),("written",none)]
noncomputable def mFor:Stmt:=(aH cJ).getD 2 (.Pass default)
noncomputable def sW(os:List Addr):Lg:=os.map λ o=>(o,aA [])
theorem len3{α:Type}:∀{l:List α},l.length=3->∃ a b c,l=[a,b,c]
 | [a,b,c],_=>⟨a,b,c,rfl⟩
structure New3 (rw:Bool) (os:List Addr) (j:Nat) (r:W3):Prop where
 m:IFr r.m rw
 o:r.outs=[]
 a:os[j]?=some r.out
 c:r.com=((j:Int)==1)
section
variable {rw:Bool}
theorem Sta.sumB{a:Addr}{xs:List Value}{ns:List Int}{Q:Value->Ac->Prop}(S:Sta W G env loc nw s)(hh:A.handled=none)(hB:W.B.IsList a xs.toArray)(hi:IntsAre xs ns)(h:∀ t s',Sta W G env loc nw s'->Q (.int ns.sum t) s'):Ad W.M A (call (.builtin "sum") [.ref a]) Q E s:=by
 obtain⟨xs',e⟩:=hi.allInts.items;have hl:s.heap.IsList a xs.toArray:=by
  obtain⟨o,ho,h1,h2⟩:=hB;exact⟨o,S.led.keep _ _ ho,h1,h2⟩
 rw[e]at hl;refine sum_intListG hh hl λ h' tk t' hk=>?_;have q:=h t' _ (S.grow hk tk);rw[preSum_eq,BH (by simp)];have e2:(xs'.toList.map (·.1))=ns:=by
  have:=hi.numsOf;rw[show xs=xs.toArray.toList from rfl,e,nums_intItems]at this;simpa using this
 first | (rw[e2];exact q) | (simpa[e2]using q)
theorem aA0{pos:Pos}{f:Addr}{e:Expr}{rest:List Expr}{kws:List Keyword}{Q:Value->Ac->Prop}(hk:keepIn W.K (.ref f)=true)(h:Ad W.M A (spliced (backTo pos (Aw (e::rest) env))) (λ vs s₁=>Ad W.M A (evalAll ((backToKw pos (keywordEach kws env)).map (·.2))) (λ kvs s₂=>W.K.In s₂.heap/\Ad W.M A (call (.ref f) vs (((backToKw pos (keywordEach kws env)).filterMap (·.1)).zip kvs)) Q E s₂) E s₁) E s)(he:backTo pos (Aw (e::rest) env)=(false,eval e env)::backTo pos (Aw rest env))(hplain:((backTo pos (Aw (e::rest) env)).any (·.1)||(backToKw pos (keywordEach kws env)).any (·.1.isNone))=false)(hall:(backToKw pos (keywordEach kws env)).all (·.1.isSome)=true):Ad W.M A (callWith pos (.ref f) [] (backTo pos (Aw (e::rest) env)) (backToKw pos (keywordEach kws env))) Q E s:=by
 refine callWith_of (P:=λ h=>W.K.In h) (first:=[]) hplain (λ h X=>keeps_K hk h X) ?_;rw[he]at h ⊢;exact evalArgs_kwB hall h
end
section
variable {rw:Bool}
theorem mk3_{p:Pos}{L oc wl scr it ol o0 o1 o2:Addr}{vs:List Value}{ns:List Int}{R:Result->Ac->Prop}(I:IsC W)(hA:Aok 20 A)(hB:W.B.IsList scr vs.toArray)(hi:IntsAre vs ns)(hoc:ClO (aV L) .cell "outs" oc)(hrw:rw=(ns.sum.fmod 2==1))(S:Sta W G (aV L) (pX scr wl none none) ((it,bU ((0:Nat):Int) ((3-0:Nat):Int))::(wl,aA [])::(oc,aE (some (.ref ol)))::(ol,aA [.ref o0,.ref o1,.ref o2])::(o0,aA [])::(o1,aA [])::(o2,aA [])::N) s)(k:∀ vk vw r0 r1 r2 s',New3 rw [o0,o1,o2] 0 r0->New3 rw [o0,o1,o2] 1 r1->New3 rw [o0,o1,o2] 2 r2->Sta W G (aV L) (pX scr wl vk vw) ((wl,aA [.ref r0.w.x,.ref r1.w.x,.ref r2.w.x])::(oc,aE (some (.ref ol)))::(ol,aA [.ref r0.out,.ref r1.out,.ref r2.out])::(r0.led W rw++(r1.led W rw++(r2.led W rw++N)))) s'->R (.ok .next) s')(body:List Stmt)(hbd:body=iL mFor):codeAny W.M A (.forLoop (.Name "k" p) (.ref it) body [] (aV L)) R s:=by
 subst hbd;obtain⟨os,hos⟩:∃ os,os=[o0,o1,o2]:=⟨_,rfl⟩
 have hol:os.length=3:=by rw[hos];rfl
 have S2:Sta W (G++[]) (aV L) (pX scr wl none none) (((wl,aA (eI []))::(oc,aE (some (.ref ol)))::(ol,aA (os.map Value.ref))::(dT W rw []++(sW (os.drop 0)++N)))++([]++[(it,bU ((0:Nat):Int) ((3-0:Nat):Int))])) s:=by
  rw[Aj,hos];refine S.perm ?_;show List.Perm _ (((wl,aA [])::(oc,aE (some (.ref ol)))::(ol,aA [.ref o0,.ref o1,.ref o2])::((o0,aA [])::(o1,aA [])::(o2,aA [])::N))++[(it,bU ((0:Nat):Int) ((3-0:Nat):Int))]);walk_at "perm"
 clear S;refine vV (sh:=[]) (f:=λ(k:Nat) t=>.int (k:Int) t) (hA.le (by decide)) (G:=G) (og:=[]) (own:=[(it,bU ((0:Nat):Int) ((3-0:Nat):Int))]) (λ(v:List W3×Option Value×Option Value) _=>pX scr wl v.2.1 v.2.2) (λ v dn=>(wl,aA (eI v.1))::(oc,aE (some (.ref ol)))::(ol,aA (os.map Value.ref))::(dT W rw v.1++(sW (os.drop dn.length)++N))) (λ v dn=>v.1.length=dn.length/\∀(j:Nat) r,v.1[j]?=some r->New3 rw os j r) (eL 3 0) ([],none,none) ⟨rfl,λ j r h=>by cases h⟩ S2 ?_ ?_
 rotate_left
 ·intro x dn rest t1 tl2 tg v s1 K hq hH S1 kk _ _;clear S2;obtain⟨hx,hx3⟩:=nE hq;rw[←hx]at S1;have hln:(dn++[x]).length=x+1:=by rw[Ae,←hx];rfl
  rw[hln]at kk;have hxo:x<os.length:=by walk_at "o"
  obtain⟨o,ho⟩:∃ o,os[x]?=some o:=⟨_,List.getElem?_eq_getElem hxo⟩
  have hdr:os.drop x=o::os.drop (x+1):=by
   rw[Ba hxo];rw[List.getElem?_eq_getElem hxo]at ho;injection ho with ho
   rw[ho]
  have hol2:sW (os.drop x)=(o,aA [])::sW (os.drop (x+1)):=by rw[hdr];rfl
  rw[hol2]at S1;refine wpAny_assign_Name (S1.store (by walk_at "put") λ s' S'=>?_);clear S1;replace S':=S'.perm (nw':=(o,aA [])::(oc,aE (some (.ref ol)))::(ol,aA (os.map Value.ref))::(wl,aA (eI v.1))::(dT W rw v.1++(sW (os.drop (x+1))++(N++([]++tl2))))) (by walk_at "perm");refine cE S' ?_;clear S';intro lq Mq S';have hga:(os.map Value.ref)[x]?=some (.ref o):=by rw[List.getElem?_map,ho];rfl
  refine aR ?_;refine aF rfl ?_;refine sR ?_ rfl;refine xT ?_ (by kernel_rfl);refine Sta.global S' I.g_cls (by kernel_rfl) ?_;refine aA0 (by rw[I.k];kernel_rfl) ?_ (by kernel_rfl) (by kernel_rfl) (by kernel_rfl);walk_at "c";refine Sta.sub_list S' (by walk_at "mem") (by walk_at "o") (by walk_at "o") (by rw[BD];exact hga) ?_;refine Sta.getAppend S' (.head _) ?_;clear S';intro q s' S';refine cE S' ?_;clear S';intro lq Mq S';walk_at "c";refine kws_cons ?_;walk_at "c";refine kws_cons ?_;walk_at "c";refine Sta.builtin S' I.b_sum aEd (by kernel_rfl) ?_;walk_at "c";refine Sta.sumB S' hA.handled hB hi ?_;clear S';intro t2 s' S';walk_at "c";refine kws_cons ?_;walk_at "c";refine kws_nil ?_;refine⟨S'.kin,?_⟩;revert a';intro xl S';obtain⟨ox,hox,q0⟩:=S'.get (.head _);obtain⟨xs,hxs,hxo2⟩:=q0;replace S':=S'.tell (c':=aA xs) .head λ o' ho' _=>by rw[hox]at ho';cases ho';exact hxo2
  have e2:((ns.sum.fmod 2:Int)==1)=rw:=hrw.symm;rw[e2];refine aDE (com:=((x:Int)==1)) (rw:=rw) I S' hxs (hA.le (by decide)) ?_;clear S';intro w xt m s' hf S';refine S'.store (by walk_at "put") ?_;clear S';intro s' S';refine cE S' ?_;clear S';intro lq Mq S';obtain⟨r,hr⟩:∃ r:W3,r=⟨w,q,o,xt,((x:Int)==1),m,[]⟩:=⟨_,rfl⟩
  replace S':=S'.perm (nw':=(o,aA [])::(aC W w ⟨((x:Int)==1),rw,.ref xt⟩ q m [(q,eE "list.append" (.ref o)),(xt,bI W Tx 1)]++((oc,aE (some (.ref ol)))::(ol,aA (os.map Value.ref))::(wl,aA (eI v.1))::(dT W rw v.1++(sW (os.drop (x+1))++(N++([]++tl2))))))) (by simp only[aC];walk_at "perm");replace S':=(S'.tell (c':=aB []) .head λ o _ ho=>⟨_,.nil,ho⟩).perm (nw':=(wl,aA (eI v.1))::(oc,aE (some (.ref ol)))::(ol,aA (os.map Value.ref))::(r.led W rw++(dT W rw v.1++(sW (os.drop (x+1))++(N++([]++tl2)))))) (by
   rw[hr];show List.Perm _ ((wl,aA (eI v.1))::(oc,aE (some (.ref ol)))::(ol,aA (os.map Value.ref))::(aC W w ⟨((x:Int)==1),rw,.ref xt⟩ q m [(q,eE "list.append" (.ref o)),(o,aB []),(xt,bI W Tx 1)]++(dT W rw v.1++(sW (os.drop (x+1))++(N++([]++tl2))))));walk_at "perm")
  have hwx:w.x=r.w.x:=by rw[hr]
  have hN:New3 rw os x r:=by rw[hr];exact⟨hf,rfl,ho,rfl⟩
  have hvl:(eI v.1).length<=Au:=by rw[Al,hH.1,Av];walk_at "o"
  refine aF rfl ?_
  repeat ((fail_if_success (with_reducible show Ad _ _ (execs _ _) _ _ _));walk_at "cw")
  refine AI ?_;refine(kk (v.1++[r],some (.int (x:Int) t1),some (.ref w.x)) s' ⟨?_,?_⟩ (S'.perm ?_)).1
  ·show(v.1++[r]).length=x+1;rw[Ae,Az,hH.1,←hx]
  ·intro j r' hj
   by_cases hlt:j<v.1.length
   ·rw[List.getElem?_append_left hlt]at hj;exact hH.2 j r' hj
   ·have hl:=(List.getElem?_eq_some_iff.mp hj).1;rw[Ae,Az]at hl;have hje:j=v.1.length:=by walk_at "o"
    subst hje;rw[List.getElem?_append_right (AG _),Nat.sub_self]at hj;injection hj with hj
    subst hj;rw[hH.1,←hx];exact hN
  ·rw[mQ,hwx];rw[show eI (v.1++[r])=eI v.1++[.ref r.w.x]from Ao];walk_at "perm"
 ·intro v s1 hH S1;obtain⟨h1,h2⟩:=hH;have hl3:v.1.length=3:=h1;obtain⟨r0,r1,r2,hv⟩:=len3 hl3;rw[hv]at h2 S1;have n0:=h2 0 r0 rfl;have n1:=h2 1 r1 rfl;have n2:=h2 2 r2 rfl;have ho:os=[r0.out,r1.out,r2.out]:=by
   have q0:=n0.a;have q1:=n1.a;have q2:=n2.a;rw[hos]at q0 q1 q2 ⊢;injection q0 with q0
   injection q1 with q1
   injection q2 with q2
   rw[q0,q1,q2]
  have S3:=S1.perm (nw':=(wl,aA [.ref r0.w.x,.ref r1.w.x,.ref r2.w.x])::(oc,aE (some (.ref ol)))::(ol,aA (os.map Value.ref))::(r0.led W rw++(r1.led W rw++(r2.led W rw++N)))) (by
   rw[Aj,Bo (by rw[List.length_range',hol];exact AG _),qJ];show List.Perm ((wl,aA [.ref r0.w.x,.ref r1.w.x,.ref r2.w.x])::(oc,aE (some (.ref ol)))::(ol,aA (os.map Value.ref))::(r0.led W rw++(r1.led W rw++(r2.led W rw++[]))++([]++N))) _;walk_at "perm")
  rw[ho]at S3;rw[hos]at n0 n1 n2;exact k _ _ r0 r1 r2 s1 n0 n1 n2 S3
end
noncomputable abbrev aAt(scr:Addr):Loc:=[("script",some (.ref scr)),("writers",none),("k",none),("writer",none),("hidden",none),("depth",none),("begun",none),("held",none),("bare",none),("told",none),("due",none),("call",none),("thing",none),("marks",none),("refusals",none),("words",none),("written",none)]
noncomputable def jC(rw:Bool)(j:Int)(r:W3):Prop:=IFr r.m rw/\r.outs=[]/\r.com=(j==1)
theorem New3.fresh{rw:Bool}{os:List Addr}{j:Nat}{r:W3}(h:New3 rw os j r):jC rw j r:=⟨h.m,h.o,h.c⟩
section
variable {rw:Bool}
theorem topA_{L oc scr:Addr}{vs:List Value}{ns:List Int}{Q:Flow->Ac->Prop}(I:IsC W)(hA:Aok 40 A)(hB:W.B.IsList scr vs.toArray)(hi:IntsAre vs ns)(hoc:ClO (aV L) .cell "outs" oc)(hrw:rw=(ns.sum.fmod 2==1))(S':Sta W G (aV L) (aAt scr) ((oc,aE none)::N) s)(kk:∀ wl ol vk vw r0 r1 r2 s',jC rw 0 r0->jC rw 1 r1->jC rw 2 r2->Sta W G (aV L) (pX scr wl vk vw) ((wl,aA [.ref r0.w.x,.ref r1.w.x,.ref r2.w.x])::(oc,aE (some (.ref ol)))::(ol,aA [.ref r0.out,.ref r1.out,.ref r2.out])::(r0.led W rw++(r1.led W rw++(r2.led W rw++N)))) s'-> Ad W.M A (execs ((aH cJ).drop 3) (aV L)) Q E s'):∀ st:List Stmt,st=(aH cJ).drop 0->Ad W.M A (execs st (aV L)) Q E s:=by
 intro st hst;subst hst;refine aF rfl ?_;refine wpAny_Assign_Name ?_ (by kernel_rfl);walk_at "c";revert a';intro ol S';rename_i o0 _ o1 _ _;replace S':=S'.perm (nw':=(o0,aB [])::(o1,aB [])::(a',aB [])::(ol,aA [.ref o0,.ref o1,.ref a'])::(oc,aE none)::N) (by walk_at "perm");have hc:∀ o,aB [] o->aA [] o:=λ o ⟨vs,h1,h2⟩=>by cases h1;exact h2
 replace S':=((S'.tell (c':=aA []) .head λ o _ ho=>hc o ho).tell (c':=aA []) (.tail .head) λ o _ ho=>hc o ho).tell (c':=aA []) (.tail (.tail .head)) λ o _ ho=>hc o ho;refine S'.storeC (nw':=(o0,aA [])::(o1,aA [])::(a',aA [])::(ol,aA [.ref o0,.ref o1,.ref a'])::(oc,aE (some (.ref ol)))::N) hoc (by walk_at "upd") ?_;clear S';intro s' S';refine cE S' ?_;clear S';intro lq Mq S';walk_at "ke";refine aF rfl ?_;walk_at "c";revert a';intro wl S';refine cE S' ?_;clear S';intro lq Mq S';replace S':=S'.tell (c':=aA []) .head λ o _ ho=>hc o ho;refine wpAny_For ?_ (by intro _;kernel_rfl);walk_at "c";refine Sta.builtin S' I.b_range oM (by kernel_rfl) ?_;walk_at "c";refine Sta.range1 S' ?_;clear S';intro rg s' S';refine Sta.iterRange (a:=0) (b:=3) S' (.head _) (by decide) (by decide) ?_;clear S';intro itr s' S';refine mk3_ (L:=L) (wl:=wl) (oc:=oc) (ol:=ol) (o0:=o0) (o1:=o1) (o2:=a') (N:=N) (it:=itr) I (hA.le (by decide)) hB hi hoc hrw (S'.sel (Sel.rest [(rg,qG 0 3)] (by walk_at "perm"))) ?_ _ rfl;clear S';intro vk vw r0 r1 r2 s' n0 n1 n2 S';walk_at "ke";exact kk wl ol vk vw r0 r1 r2 s' n0.fresh n1.fresh n2.fresh S'
end
section
variable {rw:Bool}
theorem topB_{L scr wl:Addr}{vk vw:Option Value}{Q:Flow->Ac->Prop}(hA:Aok 9 A)(S':Sta W G (aV L) (pX scr wl vk vw) N s)(kk:∀ th tdp tl ba td du s',Sta W G (aV L) (dK scr wl vk vw (.int 0 th) (.int 0 tdp) (.bool false) (.str "" tl) ba td du none none none none none none) ((ba,aA [])::(td,aA [])::(du,aA [])::N) s'-> Ad W.M A (execs ((aH cJ).drop 5) (aV L)) Q E s'):∀ st:List Stmt,st=(aH cJ).drop 3->Ad W.M A (execs st (aV L)) Q E s:=by
 intro st hst;subst hst;refine aF rfl ?_;refine Assign_Tuple ?_ (by kernel_rfl) (by kernel_rfl);walk_at "c";replace S':=S'.sub (AQ _ _);refine assignInOrder_cons ?_;refine assign_Name ?_;walk_at "c";refine assignInOrder_cons ?_;refine assign_Name ?_;walk_at "c";refine assignInOrder_cons ?_;refine assign_Name ?_;walk_at "c";refine assignInOrder_cons ?_;refine assign_Name ?_;walk_at "c";refine assignInOrder_nil ?_;refine aF rfl ?_;refine Assign_Tuple_swapped (names:=["bare","told","due"]) ?_ (by kernel_rfl) (by kernel_rfl);walk_at "c";refine Sta.unpackI S' hA.handled (by walk_at "mem") rfl ?_;clear S';intro s' S';replace S':=S'.sub (AQ _ _);refine assignInOrder_cons ?_;refine bindName_ ?_;walk_at "c";refine assignInOrder_cons ?_;refine bindName_ ?_;walk_at "c";refine assignInOrder_cons ?_;refine bindName_ ?_;walk_at "c";refine assignInOrder_nil ?_;have hc:∀ o,aB [] o->aA [] o:=λ o ⟨vs,h1,h2⟩=>by cases h1;exact h2
 replace S':=((S'.tell (c':=aA []) .head λ o _ ho=>hc o ho).tell (c':=aA []) (.tail .head) λ o _ ho=>hc o ho).tell (c':=aA []) (.tail (.tail .head)) λ o _ ho=>hc o ho;exact kk _ _ _ _ _ _ s' (S'.perm (by walk_at "perm"))
end
section
variable {rw:Bool}
theorem topD_{L oc ol sc scr wl ba td du:Addr}{v vk vw vc vt vm vr vs vwr:Option Value}{hi de be he:Value}{r0 r1 r2:W3}{bare:List Str}{ta dd:List R4A}{Q:Flow->Ac->Prop}(hA:Aok 9 A)(hoc:ClO (aV L) .cell "outs" oc)(he2:cat r2.outs=cat bare)(hl2:(cat bare).length<=16000000)(hta:ta.length<=9000)(hrows:ta.map R4A.r=dd.map R4A.r)(S':Sta W G (aV L) (dK scr wl vk vw hi de be he ba td du vc vt vm vr vs vwr) (bK W rw oc ol sc wl ba td du v r0 r1 r2 bare ta dd N) s)(kk:∀ ta dd s',Sta W G (aV L) (dK scr wl vk vw hi de be he ba td du vc vt vm vr vs vwr) (bK W rw oc ol sc wl ba td du v r0 r1 r2 bare ta dd N) s'->Q (.ret (.bool true)) s'):∀ st:List Stmt,st=(aH cJ).drop 6->Ad W.M A (execs st (aV L)) Q E s:=by
 intro st hst;subst hst;have hlen:=congrArg AV hrows;rw[Al,Al]at hlen;obtain⟨P,hP⟩:∃ P:Lg,P=(sc,aE v)::(wl,aA [.ref r0.w.x,.ref r1.w.x,.ref r2.w.x])::(r0.rest W rw++(r1.rest W rw++(r2.rest W rw++N))):=⟨_,rfl⟩
 have S2:=(S'.perm (nw':=r0.led W rw++(r1.led W rw++(r2.led W rw++((oc,aE (some (.ref ol)))::(ol,aA [.ref r0.out,.ref r1.out,.ref r2.out])::(sc,aE v)::(wl,aA [.ref r0.w.x,.ref r1.w.x,.ref r2.w.x])::(ba,aB bare)::(td,aA (aM ta))::(du,aA (aM dd))::(aP ta++(aP dd++N)))))) (by simp only[bK];walk_at "perm")).perm (lI r0 r1 r2 _);clear S';have S':=S2.perm (nw':=(oc,aE (some (.ref ol)))::(ol,aA [.ref r0.out,.ref r1.out,.ref r2.out])::(ba,aB bare)::(r2.out,aB r2.outs)::(td,aA (aM ta))::(du,aA (aM dd))::(aP ta++(aP dd++((r0.out,aB r0.outs)::(r1.out,aB r1.outs)::P)))) (by rw[hP];walk_at "perm");refine cE S' ?_;clear S';intro lq Mq S';clear S2;refine aF rfl ?_;walk_at "c";refine dW ?_;walk_at "c";refine Sta.sub_list S' (by walk_at "mem") (by decide) (by decide) rfl ?_;walk_at "c";refine Sta.joinT S' (by walk_at "mem") rfl (by rw[he2];walk_at "o") ?_;clear S';intro t1 s' S';rw[he2];walk_at "c";have hle:∀(q:Tok) (x:Str),R4A.led ⟨0,0,0,q,.tx x⟩=[]:=λ _ _=>rfl;refine Sta.pushR4 (r:=⟨0,0,0,t1,.tx (cat bare)⟩) (rs:=ta) (N:=(oc,aE (some (.ref ol)))::(ol,aA [.ref r0.out,.ref r1.out,.ref r2.out])::(ba,aB bare)::(r2.out,aB r2.outs)::(du,aA (aM dd))::(aP dd++((r0.out,aB r0.outs)::(r1.out,aB r1.outs)::P))) (by walk_at "o") (S'.perm (by rw[hle];walk_at "perm")) ?_;clear S';intro s' S';obtain⟨ta2,hta2⟩:∃ x,x=ta++[(⟨0,0,0,t1,.tx (cat bare)⟩:R4A)]:=⟨_,rfl⟩
 rw[←hta2]at S';replace S':=S'.perm (nw':=(du,aA (aM dd))::(ba,aB bare)::(td,aA (aM ta2))::(oc,aE (some (.ref ol)))::(ol,aA [.ref r0.out,.ref r1.out,.ref r2.out])::(r2.out,aB r2.outs)::(aP ta2++(aP dd++((r0.out,aB r0.outs)::(r1.out,aB r1.outs)::P)))) (by walk_at "perm");walk_at "ke";refine aF rfl ?_;walk_at "c";refine dW ?_;walk_at "c";refine Sta.joinT S' (by walk_at "mem") rfl (by walk_at "o") ?_;clear S';intro t2 s' S';walk_at "c";refine Sta.pushR4 (r:=⟨0,0,0,t2,.tx (cat bare)⟩) (rs:=dd) (N:=(td,aA (aM ta2))::(oc,aE (some (.ref ol)))::(ol,aA [.ref r0.out,.ref r1.out,.ref r2.out])::(ba,aB bare)::(r2.out,aB r2.outs)::(aP ta2++((r0.out,aB r0.outs)::(r1.out,aB r1.outs)::P))) (by walk_at "o") (S'.perm (by rw[hle];walk_at "perm")) ?_;clear S';intro s' S';obtain⟨dd2,hdd2⟩:∃ x,x=dd++[(⟨0,0,0,t2,.tx (cat bare)⟩:R4A)]:=⟨_,rfl⟩
 rw[←hdd2]at S';refine cE S' ?_;clear S';intro lq Mq S';have hr2:ta2.map R4A.r=dd2.map R4A.r:=by
  rw[hta2,hdd2,Ao,Ao,hrows]
  rfl
 have hl:ta2.length=dd2.length:=by have:=congrArg AV hr2;simpa using this
 walk_at "ke";refine aF rfl ?_;refine wpAny_Return_some ?_;refine wpAny_Compare1 ?_ (by kernel_rfl);walk_at "c";have hu:=hA.units;have hmm:∀ p,(p∈aP ta2\/p∈aP dd2)->p∈(du,aA (aM dd2))::(aP dd2++((td,aA (aM ta2))::(oc,aE (some (.ref ol)))::(ol,aA [.ref r0.out,.ref r1.out,.ref r2.out])::(ba,aB bare)::(r2.out,aB r2.outs)::(aP ta2++((r0.out,aB r0.outs)::(r1.out,aB r1.outs)::P)))):=λ p hp=>by
  rcases hp with h | h<;>simp[h]
 refine Sta.eqOp S' (xK (xs:=aM ta2) (ys:=aM dd2) (S'.isList (.tail _ (Ag _ (.head _)))) (S'.isList (.head _)) (by simp[aM,hl]) (by walk_at "o") λ j h1 h2=>?_) ?_
 ·have j1:j<ta2.length:=by simpa[aM]using h1
  have j2:j<dd2.length:=by simpa[aM]using h2
  have e1:(aM ta2)[j]=ta2[j].val:=by simp[aM]
  have e2:(aM dd2)[j]=dd2[j].val:=by simp[aM]
  rw[e1,e2];refine eqR4 ?_ (λ p hp=>S'.get (a:=p.1) (c:=p.2) (hmm p (.inl (List.mem_flatMap.mpr ⟨_,Bb j1,hp⟩)))) (λ p hp=>S'.get (a:=p.1) (c:=p.2) (hmm p (.inr (List.mem_flatMap.mpr ⟨_,Bb j2,hp⟩)))) ?_
  ·have h:=congrArg (λ l:List R4=>l[j]?) hr2;simp only[List.getElem?_map,List.getElem?_eq_getElem j1,List.getElem?_eq_getElem j2,Option.map_some]at h;injection h
  ·show A.units+1+4<cLine;walk_at "o"
 walk_at "c";clear hmm;subst hP;refine kk ta2 dd2 s' (((S'.perm (nw':=(r0.out,aB r0.outs)::(r1.out,aB r1.outs)::(r2.out,aB r2.outs)::(r0.rest W rw++(r1.rest W rw++(r2.rest W rw++((oc,aE (some (.ref ol)))::(ol,aA [.ref r0.out,.ref r1.out,.ref r2.out])::(sc,aE v)::(wl,aA [.ref r0.w.x,.ref r1.w.x,.ref r2.w.x])::(ba,aB bare)::(td,aA (aM ta2))::(du,aA (aM dd2))::(aP ta2++(aP dd2++N))))))) (by walk_at "perm")).perm (lI r0 r1 r2 _).symm).perm (by simp only[bK];walk_at "perm"))
end
section
variable {rw:Bool}
theorem topC_{L oc sc ol scr wl ba td du:Addr}{vs:List Value}{ns:List Int}{vk vw:Option Value}{th tdp tl:Tok}{r0 r1 r2:W3}{Q:Flow->Ac->Prop}(I:IsC W)(C:CodeHd W.B 118 116)(hA:Aok 40 A)(FR:Fra A (aV L) [])(hB:W.B.IsList scr vs.toArray)(hi:IntsAre vs ns)(hn:ns.length<=63)(hoc:ClO (aV L) .cell "outs" oc)(hsc:ClO (aV L) .cell "seen" sc)(f0:jC rw 0 r0)(f1:jC rw 1 r1)(f2:jC rw 2 r2)(S':Sta W G (aV L) (dK scr wl vk vw (.int 0 th) (.int 0 tdp) (.bool false) (.str "" tl) ba td du none none none none none none) (bK W rw oc ol sc wl ba td du none r0 r1 r2 [] [] [] (bA 116 bE aN none)) s)(kk:∀(cl:Lg) (n:Nat),∀ vk vw hi de be he vc vt vm vr vs vwr c? v r0 r1 r2 bare l a ta dd s',n<=300->LInv rw n 4 [] r0 r1 r2 bare l a->ta.map R4A.r=dd.map R4A.r->ta.length<=300->Sta W G (aV L) (dK scr wl vk vw hi de be he ba td du vc vt vm vr vs vwr) (bK W rw oc ol sc wl ba td du v r0 r1 r2 bare ta dd (bA 116 bE aN c?++cl)) s'-> Ad W.M A (execs ((aH cJ).drop 6) (aV L)) Q E s'):∀ st:List Stmt,st=(aH cJ).drop 5->Ad W.M A (execs st (aV L)) Q E s:=by
 intro st hst;subst hst;refine aF rfl ?_;refine wpAny_For ?_ (by intro _;kernel_rfl);refine Call_ ?_ (by kernel_rfl);refine Sta.global S' I.g_l_calls (by kernel_rfl) ?_;refine bR (by rw[I.k];kernel_rfl) ?_ (by kernel_rfl) (by kernel_rfl);walk_at "c";refine aEb I (hA.le (by decide)) hB hi hn S' ?_;clear S';intro cl cs bz s' hch hro hc S';refine S'.iterL (.head _) ?_;clear S';intro it s' S';have S2:=S'.perm (nw':=(it,bM cl 0)::(cl,aA (bC cs))::bK W rw oc ol sc wl ba td du none r0 r1 r2 [] [] [] (bA 116 bE aN none++(aY W cs++[]))) (by simp only[bK];walk_at "perm");clear S';refine aAv (ol:=ol) (cl:=cl) (cs:=cs) (it:=it) (bz:=bz) (v:=none) (N:=[]) (a:=ab0 rw) I C (hA.le (by decide)) FR hoc hsc hch hro hc (aDI ⟨f0.1,f0.2.1⟩ ⟨f1.1,f1.2.1⟩ ⟨f2.1,f2.2.1⟩ f1.2.2 f2.2.2) S2 ?_ _ rfl;clear S2;intro vk vw hi de be he vc vt vm vr vs vwr c? v r0 r1 r2 bare l a ta dd s' V hr hz S';walk_at "ke";exact kk _ cs.length _ _ _ _ _ _ _ _ _ _ _ _ c? v r0 r1 r2 bare l a ta dd s' hc V hr hz S'
theorem law4{scr:Addr}{vs:List Value}{ns:List Int}(I:IsC W)(C:CodeHd W.B 118 116)(S:St0 W [] (tabLed [(118,116)]) s)(hB:W.B.IsList scr vs.toArray)(hi:IntsAre vs ns)(hn:ns.length<=63)(hA:Aok 45 A)(hfr:A.frames=some [])(hgd:A.guards=some []):codeAny W.M A (.call (.ref 218) ⟨[.ref scr],[]⟩) (λ r s'=>r=.ok (.ret (.bool true))/\∃ G nw' c?,St0 W G (nw'++bA 116 bE aN c?) s') s:=by
 refine S.codeC (binds:=[("script",.ref scr)]) [("script",.ref scr)] ["writers","k","writer","hidden","depth","begun","held","bare","told","due","call","thing","marks","refusals","words","written"] [none,none] I.f_law hA.room (λ _ _ _ _ _=>BindsTo.of_eq (by kernel_rfl)) (by kernel_rfl) (by kernel_rfl) (by kernel_rfl) ?_;intro L cs s' hcs S';have hnm:aU (aD cJ).names=(["outs","seen"]:List Str):=by kernel_rfl
 rw[hnm]at hcs;obtain⟨oc,sc,rfl,hoc,hsc⟩:=hcs.two;have hA':=hA.deeper (env:=aV L);have FR:Fra (A.deeper (aV L)) (aV L) []:=⟨⟨[],Around.frames_deeper hfr,λ e he=>nomatch he⟩,rfl,(by decide +kernel:(aD cJ).kind≠.module),hgd⟩
 simp only[aT,Ak,AD,Ar,Ax,tabLed,gF,gU]at S';obtain⟨rw,hrw⟩:∃ rw,rw=(ns.sum.fmod 2==1):=⟨_,rfl⟩
 obtain⟨s1,S1⟩:∃ s1,s1=s'/\Sta W [] (aV L) (aAt scr) ((oc,aE none)::(sc,aE none)::bA 116 bE aN none) s1:=⟨_,rfl,S'⟩
 obtain⟨e,S1⟩:=S1;subst e;clear S';refine aR ?_;generalize hst:BI 0 (aH cJ)=st;refine topA_ (rw:=rw) (N:=(sc,aE none)::bA 116 bE aN none) I (hA'.le (by decide)) hB hi hoc hrw S1 ?_ st hst.symm;clear S1 hst;intro wl ol vk vw r0 r1 r2 s' f0 f1 f2 S';refine cE S' ?_;clear S';intro lq Mq S';generalize hst:BI 3 (aH cJ)=st;refine topB_ (hA'.le (by decide)) S' ?_ st hst.symm;clear S' hst;intro th tdp tl ba td du s' S';replace S':=S'.tell (c':=aB []) .head λ o _ ho=>⟨_,.nil,ho⟩
 generalize hst:BI 5 (aH cJ)=st;refine topC_ (r0:=r0) (r1:=r1) (r2:=r2) (rw:=rw) (ol:=ol) (wl:=wl) (ba:=ba) (td:=td) (du:=du) I C (hA'.le (by decide)) FR hB hi hn hoc hsc f0 f1 f2 (S'.perm ?_) ?_ st hst.symm
 ·show List.Perm _ ((oc,aE (some (.ref ol)))::(ol,aA [.ref r0.out,.ref r1.out,.ref r2.out])::(sc,aE none)::(wl,aA [.ref r0.w.x,.ref r1.w.x,.ref r2.w.x])::(ba,aB [])::(td,aA [])::(du,aA [])::(r0.led W rw++(r1.led W rw++(r2.led W rw++bA 116 bE aN none))));walk_at "perm"
 clear S' hst;intro cl n vk vw hi de be he vc vt vm vr vs vwr c? v r0 r1 r2 bare l a ta dd s' hc V hr hz S';have he2:=aAu V;have hp:=V.pot;generalize hst:BI 6 (aH cJ)=st;refine topD_ (hA'.le (by decide)) hoc he2 (by rw[←he2];walk_at "o") (by walk_at "o") hr S' ?_ st hst.symm;clear S' hst;intro ta dd s' S';exact⟨rfl,_,(_,aI _)::((oc,aE (some (.ref ol)))::(ol,aA [.ref r0.out,.ref r1.out,.ref r2.out])::(sc,aE v)::(wl,aA [.ref r0.w.x,.ref r1.w.x,.ref r2.w.x])::(ba,aB bare)::(td,aA (aM ta))::(du,aA (aM dd))::(aP ta++(aP dd++(r0.led W rw++(r1.led W rw++(r2.led W rw++cl)))))),c?,(S'.perm (nw':=((oc,aE (some (.ref ol)))::(ol,aA [.ref r0.out,.ref r1.out,.ref r2.out])::(sc,aE v)::(wl,aA [.ref r0.w.x,.ref r1.w.x,.ref r2.w.x])::(ba,aB bare)::(td,aA (aM ta))::(du,aA (aM dd))::(aP ta++(aP dd++(r0.led W rw++(r1.led W rw++(r2.led W rw++cl))))))++bA 116 bE aN c?) (by simp only[bK];walk_at "perm")).st0 (pre:=[]) rfl⟩
end
end
end
end
end Mine
end
namespace Mine
theorem aok_caller:Aok 60 callerA:=⟨rfl,by decide +kernel,by decide +kernel⟩
theorem grown_of{W:Wd}{G:Gens}{nw:Lg}{s:Ac}{P:Addr}{ps:List Value}(S:St0 W G nw s)(m:(P,kH ps)∈nw):GrownAt P s.heap:=by
 obtain⟨_,q0⟩:=S.led.own _ m;obtain⟨o,ho,rfl⟩:=q0;exact⟨_,ho⟩
end Mine
theorem PySem.Challenge.cw_dn0284_04_holds : PySem.Challenge.rw_dn0284_04.Holds := by
 refine PySem.W.holds_law Mine.ws (Function.const _ (Mine.hd ?_))
 k_fill
 intro w s₀ s₁ mg mb G Y fa o pm cd doc dV kV ho hd hcd hD hmg hg args vals as hpre hlay hrd hwl hlo;have KX:=km_in_of Y
 km_tabs Y
 have X:=(Ground.X G).1;have V:=(Ground.X G).2;refine Ground.open G ?_;intro T B D TE TW
 try (refine guard_noD D (by decide +kernel) ?_;clear D)
 km_lay T hmg ho hd cd
 wrow_args hpre hlay hrd hwl hlo
 first | refine callC_kw (enter_call ?_) | refine enter_call ?_
 w_top on
 refine Mine.kn_postG hT9 (λ _=>rfl) (by wrow_post) ?_;have hfa:fa=218:=by
  have e1:mg "law"=some (.ref 218):=mg_of KX T.g (by kernel_rfl);have e2:some (Value.ref fa)=some (.ref 218):=hmg.symm.trans e1;injection e2 with e2
  injection e2
 subst hfa
 let W:Mine.Wd:=⟨PySem.Challenge.rw_dn0284_04.row.prog,w,Mine.KK w.params,ghostOf s₁.heap [(118,116)],s₁.os⟩
 have S0:Mine.St0 W [] (Mine.tabLed [(118,116)]) s₁:=Mine.sta0_of (W:=W) hT9 (by decide) KX (by kernel_rfl) T hg rfl rfl;have C:=ghost_code hT9
 rename s₁.heap.IsList _ _=>hL
 rename IntsAre _ _=>hI
 have hL2:=ghost_list hT9 hL;refine codeAny_mono (Mine.law4 (W:=W) ⟨rfl⟩ C.1 S0 hL2 hI (by walk_at "o") (Mine.aok_caller.le (by walk_at "o")) rfl rfl) λ r s' h=>?_;obtain⟨rfl,q0⟩:=h;obtain⟨G',nw',c?,S'⟩:=q0;refine⟨rfl,S'.led.keep,S'.os,S'.bare,?_,trivial⟩;cases c? with
 | none=>exact Mine.grown_of S' (Ag _ (.head _))
 | some c=>exact Mine.grown_of S' (Ag _ (.head _))
