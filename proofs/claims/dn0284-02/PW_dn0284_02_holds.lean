import PyProof.Rows.All
import Wide.All
import OpenK.AllK
import Wide.FinOn
import PySem.Challenge.RW_dn0284_02
set_option Elab.async false
set_option compiler.extract_closed false
set_option genInjectivity false
set_option genSizeOf false
set_option linter.all false
set_option maxRecDepth 100000
open PySem PySem.W PyProof.Rows PySem.W.X PySem.SeqAt
section
set_option maxHeartbeats 8000000
namespace Mine
theorem ws:PySem.Challenge.rw_dn0284_02.wellSaid=true:=by kernel_rfl
open_top hd for (PySem.W.OpenLaw.row PySem.Challenge.rw_dn0284_02)
end Mine
end
open _root_.PySem renaming wpAny_bind→Aa,Shared→Ac,wpAny→Ad,wpAny_pure→Ae,starEach→Ap,wpAny_mono→As,sizeLine_eq→Aw,wpAny_holding→AB,sizeLine→AC,wpAny_execs_cons→AH,Around→AL,wpAny_standAt→AQ,wpAny_execs_nil→AR,mainGlobals→AS,builtinLookup_eq_fast→Bi,recursionLimit→Bj,scanBound→Bt,wpAny_of_eq→Bw,wpAny_attempt→BH
open _root_.List renaming mem_append_right→Af,length_append→Ag,append_assoc→Ah,length_map→Ai,mem_map→Aj,mem_append_left→Ak,append_nil→Am,map_cons→An,mem_of_getElem?→Ao,map_append→Aq,cons_append→Av,mem_cons→Ax,nil_append→Ay,dropLast_concat_getLast→Az,mem_singleton→AA,mem_append→AD,map_nil→AF,length_cons→AG,length_singleton→AJ,size_toArray→AK,perm_middle→AM,nodup_cons→AP,perm_append_comm→AT,map_map→AW,sublist_cons_self→AZ,sublist_append_left→A7,length→A8,drop_eq_getElem_cons→Ba,lookup_cons→Bb,getElem_mem→Bd,nodup_append→Be,range→Bg,range'→Bk,lookup_eq_none_iff→Bn,all_eq_true→Bq,length_pos_iff→Br,drop_of_length_le→Bu,drop→Bv,not_mem_nil→Bx,length_eq_zero_iff→Bz,mem_range→BC,forIn_cons→BD,mem_cons_of_mem→BE,all_cons→BI,map_dropLast→BJ,length_dropLast→BN,take_length→BO,getElem_of_mem→BQ,pairwise_cons→BS
open _root_.Nat renaming le_trans→Al,le_of_ble_eq_true→Ar,zero_le→AE,le_refl→AN,lt_of_le_of_lt→AO,le_add_right→AU,add_le_add→AV,add_le_add_right→A9,succ_le_succ→Bc,le_of_eq→Bf,add_le_add_left→Bh,add_assoc→Bl,mul_le_mul_left→Bm,ble→Bo,add_right_comm→Bp,zero_add→By,ne_of_lt→BA,add_comm→BB,lt_irrefl→BG,le_succ_of_le→BK,le_of_succ_le→BL,le_of_not_lt→BP,le_antisymm→BR
open _root_.Exists renaming elim→Au
open _root_.Bool renaming and_eq_true→AI,noConfusion→AY,not_eq_true'→Bs
open _root_.Array renaming length_toList→AX
open _root_.Int renaming ofNat_lt→BF,toNat_natCast→BM
section
namespace Mine
theorem le_c{a m c:Nat}(h:a<=m)(e:Bo m c=true):a<=c:=Al h (Ar e)
theorem lt_c{a m c:Nat}(h:a<=m)(e:Bo (m+1) c=true):a<c:=AO h (Ar e)
theorem ub_n{n:Nat}{i:OfNat Nat n}:(@OfNat.ofNat Nat n i)<=@OfNat.ofNat Nat n i:=AN _
theorem ub_l{a n:Nat}{i:OfNat Nat n}(h:a<=@OfNat.ofNat Nat n i):a<=@OfNat.ofNat Nat n i:=h
theorem ub_e{a n:Nat}{i:OfNat Nat n}(h:a=@OfNat.ofNat Nat n i):a<=@OfNat.ofNat Nat n i:=Bf h
theorem ub_t{a n:Nat}{i:OfNat Nat n}(h:a<@OfNat.ofNat Nat n i):a<=@OfNat.ofNat Nat n i:=Nat.le_of_lt h
theorem ub_app{a b:Str}{m n:Nat}(h:a.length<=m)(k:b.length<=n):(a++b).length<=m+n:=by rw[Str.length_append];exact AV h k
theorem ub_lapp{α:Type}{a b:List α}{m n:Nat}(h:a.length<=m)(k:b.length<=n):(a++b).length<=m+n:=by rw[Ag];exact AV h k
theorem ub_cons{α:Type}{x:α}{b:List α}{n:Nat}(k:b.length<=n):(x::b).length<=n+1:=Bc k
theorem ub_nil{α:Type}:([]:List α).length<=0:=AN 0
theorem ub_map{α β:Type}{f:α->β}{b:List α}{n:Nat}(k:b.length<=n):(b.map f).length<=n:=by rw[Ai];exact k
theorem ub_mul{k m n:Nat}(h:m<=n):k*m<=k*n:=Bm k h
theorem ub_sub{a b m:Nat}(h:a<=m):a-b<=m:=Al (Nat.sub_le a b) h
theorem ub_eq{a b m:Nat}(e:a=b)(h:b<=m):a<=m:=e▸h
theorem ub_ltc{a b m:Nat}(e:a<b)(h:b<=m):a<=m:=Al (Nat.le_of_lt e) h
theorem ub_mt:Str.empty.length<=0:=by decide +kernel
theorem ub_min{a b m:Nat}(h:b<=m):min a b<=m:=Al (Nat.min_le_right a b) h
theorem ub_div{a k m:Nat}(h:a<=m):a/k<=m:=Al (Nat.div_le_self a k) h
theorem ar_a{n i m:Nat}(h:n-i=m+1):n-(i+1)=m:=by rw[Nat.sub_add_eq,h];rfl
theorem ar_b{n i m:Nat}(h:n-i=m+1):i<n:=Nat.lt_of_sub_eq_succ h
theorem ar_c{n i:Nat}(h:n-i=0):n<=i:=Nat.le_of_sub_eq_zero h
theorem ar_d{n i:Nat}(h:n-i=0)(k:i<=n):i=n:=BR k (ar_c h)
theorem ar_e{n i m:Nat}(h:n-i=0)(k:i<m):n<m:=AO (ar_c h) k
theorem ar_f{n k:Nat}(h:n=k+1):n-1=k:=by rw[h];rfl
theorem ar_g{a b:Nat}(h:¬a<b):b<=a:=BP h
theorem ar_h{a k c:Nat}(h:a+k<c):a<c:=AO (AU a k) h
theorem ar_i{a j k c:Nat}(h:j<=k)(h2:a+k<c):a+j<c:=AO (Bh h a) h2
theorem ar_j{a m j k c:Nat}(h:j<=k)(h2:a+m*k<c):a+m*j<c:=AO (Bh (Bm m h) a) h2
theorem aDl{a k c j:Nat}(e:Bo j 8=true)(h:a+8*(k+1)<c):a+j+8*k<c:=AO (by rw[Bl,BB j];exact Bh (Bh (Ar e) _) _) h
theorem ar_k{a k c:Nat}(h:a+8*(k+1)<c):a+3+8*k<c:=aDl rfl h
theorem ar_k1{a k c:Nat}(h:a+8*(k+1)<c):a+1+8*k<c:=aDl rfl h
theorem ar_k2{a k c:Nat}(h:a+(k+1)<c):a+1+k<c:=by rw[Bl,BB 1];exact h
theorem ar_l{k:Int}{j:Nat}(h:k=(j:Int)):k.toNat=j:=by rw[h];rfl
theorem ar_r{a b:Nat}(h:b<=a):(a:Int)-(b:Int)=((a-b:Nat):Int):=(Int.ofNat_sub h).symm
theorem ar_q{n k:Nat}:(n:Int)-((n/k:Nat):Int)=((n-n/k:Nat):Int):=(Int.ofNat_sub (Nat.div_le_self n k)).symm
theorem ar_u{g:Nat}(h:g≠0):(g:Int)-1=((g-1:Nat):Int):=(Int.ofNat_sub (Nat.pos_of_ne_zero h)).symm
theorem ar_u2{g:Nat}(h:0<g):((g-1:Nat):Int)=(g:Int)-1:=Int.ofNat_sub h
theorem ar_v{b:Nat}:(b:Int)+1=((b+1:Nat):Int):=rfl
theorem ar_w{j n c:Nat}(h:j<n)(e:Bo n c=true):(j:Int)<(c:Int):=BF.mpr (Nat.lt_of_lt_of_le h (Ar e))
theorem ar_w'{j n:Nat}(h:j<n)(e:Bo n 1000000=true):(j:Int)<1000000:=ar_w h e
theorem ar_p{n i j:Nat}{P:Prop}(h:n<2)(h1:i<j)(h2:j<n):P:=absurd (AO (Al (Bc (AE i)) h1) (Nat.lt_of_succ_lt_succ (AO h2 h))) (BG 1)
theorem ar_s{n k:Nat}(h:n=k)(m:Nat):n/m<=k:=h▸Nat.div_le_self n m
theorem ar_t{n m k:Nat}(h:m=n):n-k<=m:=h▸Nat.sub_le m k
theorem ar_x{n:Nat}:n/4<=n-n/4:=Nat.le_sub_of_add_le (Al (Al (Bf (Nat.two_mul _).symm) (Nat.mul_le_mul_right _ (by decide:2<=4))) (Nat.mul_div_le n 4))
theorem ar_y{n:Nat}(h:n<=63):min (n-n/4) n-n/4<=63:=Al (Nat.sub_le _ _) (Al (Nat.min_le_right _ _) h)
theorem ar_m1{n:Nat}(h:0<n):((-1:Int)+(n:Int)).toNat=n-1:=by rw[Int.add_comm,show(n:Int) + -1=((n-1:Nat):Int)from(ar_u2 h).symm];rfl
theorem ar_2{n g:Nat}(h:g≠0):n-(g-1)=n+1-g:=by
 cases g with
 | zero=>exact absurd rfl h
 | succ g=>exact(Nat.add_sub_add_right n 1 g).symm
theorem ar_3{n g:Nat}(h:g<=n+1-1):g-1<=n-1:=Nat.sub_le_sub_right h 1
theorem ar_4{i i1:Nat}(h:i1=i+1)(h2:i1<=2):(3<=i1↔3<=i)/\(i1=4↔i=4)/\(i1=3↔i=3)/\i<=3:=by
 subst h;exact(by decide:∀ i,i<2->(3<=i+1↔3<=i)/\(i+1=4↔i=4)/\(i+1=3↔i=3)/\i<=3) i h2
theorem ar_5{r l:Nat}(h:r<=l-1)(k:0<l):r+1<=l:=Al (Bc h) (Bf (Nat.sub_add_cancel k))
theorem ar_7{n k:Nat}(e:n=k)(h:0<n):n-1+1=k:=(Nat.sub_add_cancel h).trans e
theorem ar_8{n k:Nat}(e:n<=k)(h:0<n):n-1+1<=k:=(Nat.sub_add_cancel h).symm▸e
theorem ar_9{g:Nat}(h:¬0<g):g-1=g:=by rw[Nat.eq_zero_of_not_pos h]
theorem as_sub{s n i c:Nat}(h:i<n)(h2:s+(n-i)+1<c):s+1+(n-(i+1))+1<c:=by
 rw[Bl s 1,BB 1,Nat.sub_add_eq,Nat.sub_add_cancel (Nat.sub_pos_of_lt h)];exact h2
theorem as_min{n k:Nat}:min (n/k) n=n/k:=Nat.min_eq_left (Nat.div_le_self n k)
theorem as_at{a p b e d q:Nat}(ha:a=1)(hb:b=2)(hd:d=1)(h:e<=6*q):a+p+b+e+d<=p+6*q+4:=by
 rw[ha,hb,hd,BB 1 p,Bp (p+1+2) e 1,Bp p (6*q) 4];exact Bh h _
theorem as_5{r l:Nat}(h:r<=l-1)(k:0<l):r+1<=l+1-1:=ar_5 h k
theorem as_i0{i:Nat}:0<=(i:Int):=Int.natCast_nonneg i
theorem as_i1{k:Int}{j:Nat}(h:k=(j:Int)):0<=k:=h▸Int.natCast_nonneg j
theorem as_rep{x z:Nat}(h:x<=6*300000)(k:(x+1)*z<=(x+1)*6):x+(x+1)*z<=16777216:=
 le_c (AV h (Al k (Nat.mul_le_mul_right 6 (Bc h)))) rfl
theorem as_d2{i:Nat}(h:i<2):i=0\/i=1:=(by decide:∀ i,i<2->i=0\/i=1) i h
theorem as_d4{i:Nat}(h:i<4):i=0\/i=1\/i=2\/i=3:=(by decide:∀ i,i<4->i=0\/i=1\/i=2\/i=3) i h
theorem as_d3{j:Nat}:j=0\/j=1\/j=2\/3<=j:=(Nat.lt_or_ge j 3).elim (λ h=>(by decide:∀ j,j<3->j=0\/j=1\/j=2\/3<=j) j h) λ h=>.inr (.inr (.inr h))
theorem as_d5{n:Nat}(h:2<=n)(k:n<=4):n=2\/n=3\/n=4:=(by decide:∀ n,n<5->2<=n->n=2\/n=3\/n=4) n (Nat.lt_succ_of_le k) h
theorem as_b1{b n:Nat}(h:b<9)(k:n<=b+1/\b<=9):n+1<=b+1+1/\b+1<=9:=⟨Bc k.1,h⟩
theorem as_b2{b n:Nat}(k:n+1<=b+1/\b<=9):n<=b+1/\b<=9:=⟨BL k.1,k.2⟩
theorem as_ser{a r b t c d:Nat}(h:a+r+b+t+c=d)(ha:a=17)(hd:d=0):False:=
 absurd (Al (AU a r) (Al (AU _ b) (Al (AU _ t) (Al (AU _ c) (Bf (h.trans hd)))))) (by rw[ha];decide)
theorem as_e1{a b k c:Nat}(e:a=b+1)(h:a<=k)(q:Bo k c=true):b<c:=Al (Al (Bf e.symm) h) (Ar q)
theorem as_e2{a b k c:Nat}(e:b+1=a)(h:a<=k)(q:Bo k c=true):b<c:=as_e1 e.symm h q
theorem as_u1{a k j c:Nat}(h:a+k<c)(q:Bo j k=true):a+j<c:=ar_i (Ar q) h
theorem as_u2{a k i j c:Nat}(h:a+k<c)(q:Bo (i+j) k=true):a+i+j<c:=by rw[Bl];exact as_u1 h q
theorem as_u3{a k i j l c:Nat}(h:a+k<c)(q:Bo (i+j+l) k=true):a+i+j+l<c:=by rw[Bl a,Bl a];exact as_u1 h q
theorem as_u4{a k c:Nat}(h:a+(k+1)<c):a+k<c:=Nat.lt_of_succ_lt h
theorem as_st{rs x l' ps l:Nat}(h1:rs=x+l')(h2:ps=x)(h3:ps<=60)(h4:l'=l)(h5:l<=3):rs<=70:=by
 rw[h1,h4,←h2];exact le_c (AV h3 h5) rfl
theorem as_n1{i n m:Nat}(h:i<=n)(k:¬i<m):¬n<m:=λ q=>k (AO h q)
theorem as_s{i n:Nat}(h:i<n):i+1<=n:=h
theorem as_s'{i n:Nat}(h:i+1<=n):i<n:=h
theorem as_fl{P:Prop}{l a r:Nat}(h:P->l<=r)(k:P):l<=a+r:=Al (h k) (Nat.le_add_left _ _)
theorem as_l1{n a b c:Nat}(h:n+(a+1)+b<c):n<c:=AO (Al (AU _ _) (AU _ _)) h
theorem as_l2{n a c:Nat}(h:n+(a+1)+1<c):n+1<c:=AO (Bc (AU _ _)) h
theorem as_l3{n a c:Nat}(h:n+(a+1)+1<c):n+1+a+1<c:=by rw[Bp n 1 a];exact h
theorem as_l4{n a c:Nat}(h:n+(a+1)<=c):n+a<=c:=BL h
theorem as_l6{n a c:Nat}(h:n+(a+1)<=c):n+1+a<=c:=by rw[Bp];exact h
theorem as_c1{P:Prop}{x r k m c:Nat}(h:x<=k/\P)(h2:r<=m)(q:Bo (m+k) c=true):r+x<=c:=le_c (AV h2 h.1) q
theorem as_w{x n:Nat}{i:OfNat Nat n}{c:Int}(h:x<@OfNat.ofNat Nat n i)(q:decide (((@OfNat.ofNat Nat n i:Nat):Int)<=c)=true):(x:Int)<c:=Int.lt_of_lt_of_le (BF.mpr h) (of_decide_eq_true q)
theorem as_w1{x n:Nat}{i:OfNat Nat n}{c:Int}(h:x<=@OfNat.ofNat Nat n i)(q:decide (((@OfNat.ofNat Nat n i:Nat):Int)<c)=true):(x:Int)<c:=Int.lt_of_le_of_lt (Int.ofNat_le.mpr h) (of_decide_eq_true q)
theorem as_w2{k:Int}{j n:Nat}{i:OfNat Nat n}{c:Int}(e:k=(j:Int))(h:j<@OfNat.ofNat Nat n i)(q:decide (((@OfNat.ofNat Nat n i:Nat):Int)<=c)=true):k<c:=e▸as_w h q
theorem as_w3{x d:Int}{n:Nat}{i:OfNat Int n}(h:x<@OfNat.ofNat Int n i)(q:decide ((@OfNat.ofNat Int n i)<=d)=true):x<d:=Int.lt_of_lt_of_le h (of_decide_eq_true q)
theorem as_in{a b f k:Nat}(e:a=b)(h:a<=f)(h2:f<=k+7)(h3:k<=300):b<=1000:=e▸le_c (Al h (Al h2 (A9 h3 7))) rfl
theorem as_p1{i i1:Nat}(h:i1=i)(k:i=3):(3<=i1↔3<=i)/\(i1=4↔i=4)/\(i1=3↔i=3)/\i<=3:=by subst h;exact⟨Iff.rfl,Iff.rfl,Iff.rfl,Bf k⟩
theorem as_p2{i i1:Nat}(h:i1=i+1)(k:i1<=2):3<=i↔3<=i1:=(ar_4 h k).1.symm
theorem as_p3{i i1:Nat}(h:i1=i):3<=i↔3<=i1:=h▸Iff.rfl
theorem as_p4{P Q:Prop}{i1:Nat}(h:i1=3/\P\/i1=4/\Q):3<=3↔3<=i1:=⟨λ _=>h.elim (λ h=>Bf h.1.symm) λ h=>h.1▸(by decide),λ _=>AN 3⟩
theorem as_p5{i1 n:Nat}(h:i1=3)(k:0<n):n+1+1=2↔i1=4:=⟨λ e=>absurd k (by rw[Nat.succ.inj (Nat.succ.inj e)];decide),λ e=>absurd (h.symm.trans e) (by decide)⟩
theorem as_p6{P:Prop}{i:Nat}(h:i=2/\P):2<=i/\i<=3:=by rw[h.1];decide
theorem as_p7{i:Nat}(h:2<=i/\i<=3):i=4↔3=4:=⟨λ e=>absurd h.2 (by rw[e];decide),λ e=>absurd e (by decide)⟩
theorem as_p8{a n:Nat}(h:a=n+1+1):a-1=n-0+1:=by rw[h];rfl
theorem as_p9{d n:Nat}(h:d+1=n+1+1):d=n-0+1:=Nat.succ.inj h
theorem as_pa{f k x y:Nat}(h:f<=k+7)(e:f=x+y):y<=k+1+7:=Al (Nat.le_add_left y x) (Al (Bf e.symm) (Al h (by rw[Bp];exact Nat.le_succ _)))
theorem as_pb{f k:Nat}(h:f<=k+7):f+1<=k+1+7:=by rw[Bp];exact Bc h
theorem as_cl{a e v s b d:Nat}(h:a<=2000/\v<=1000)(he:e<=6*v)(hs:s=1)(hb:b=2)(hd:d=1):s+a+b+e+d<=8100:=by
 rw[hs,hb,hd];exact le_c (A9 (AV (A9 (Bh h.1 1) 2) (Al he (Bm 6 h.2))) 1) rfl
theorem aBd{a b k:Nat}(h:a<=45100*k)(h2:b<=45100):a+b<=45100*(k+1):=AV h h2
theorem as_x1{o h b k:Nat}(e:o+6*h<=45100*k)(f:b<=45000):o+(0+b)+6*h<=45100*(k+1):=by
 rw[By,Bp];exact aBd e (Al f (by decide))
theorem as_x2{o h b k x:Nat}(e:o+6*h<=45100*k)(f:b<=45000)(g:x<=8):o+(0+b)+6*(h+x)<=45100*(k+1):=by
 rw[By,Nat.mul_add,←Bl,Bp o b,Bl (o+6*h)];exact aBd e (Al (AV f (Bm 6 g)) (by decide))
theorem as_x3{o h b k u:Nat}(e:o+6*h<=45100*k)(f:b<=45000)(g:u<=6*h):o+(u+b)+6*0<=45100*(k+1):=by
 rw[Nat.mul_zero,Nat.add_zero,←Bl];exact aBd (Al (Bh g o) e) (Al f (by decide))
theorem as_k1{r c k:Nat}(h:r<=c*k):r<=c*(k+1):=Al h (AU _ _)
theorem as_k2{o a c k:Nat}(h:o<=c*k)(g:a<=4)(q:Bo 4 c=true):o+a<=c*(k+1):=AV h (Al g (Ar q))
theorem as_k3{P:Prop}{r h c k:Nat}(e:P/\r<=h)(f:h<=c*k):r<=c*(k+1):=as_k1 (Al e.2 f)
theorem as_k4{P:Prop}{a b k:Nat}(e:a<=b/\P)(f:b<=k):a<=k+1:=BK (Al e.1 f)
theorem as_k5{a k:Nat}(h:a<=k):a<=k+1:=BK h
theorem as_k6{h x k:Nat}(e:x<=h+1)(f:h<=k):x<=k+1:=Al e (Bc f)
theorem as_k7{h x k c:Nat}(e:x<=h+c)(f:h<=c*k):x<=c*(k+1):=Al e (A9 f c)
theorem as_k8{o a b k:Nat}(h:o<=5*k)(e:a<=1)(f:b<=4):o+(a+b)<=5*(k+1):=AV h (AV e f)
theorem as_q1{j d:Nat}(k:¬j<d)(h:j<d+1):j=d:=BR (Nat.le_of_lt_succ h) (BP k)
theorem as_r1{P:Prop}{i:Nat}(h:i=3↔¬P)(k:i<=4)(e:true=decide (3<=i))(p:P):i=4:=
 (Nat.lt_or_ge 3 i).elim (λ g=>BR k g) λ g=>absurd p (h.mp (BR g (of_decide_eq_true e.symm)))
theorem as_r2{i:Nat}(e:true=decide (3<=i)):¬i<3:=Nat.not_lt_of_le (of_decide_eq_true e.symm)
theorem as_r3{i:Nat}(e:false=decide (3<=i)):i<3:=Nat.lt_of_not_le (of_decide_eq_false e.symm)
theorem as_g1{g:Nat}(h:decide (0<(g:Int))=true):0<g:=BF.mp (of_decide_eq_true h)
theorem as_g2{g:Nat}(h:decide (0<(g:Int))=false):¬0<g:=λ k=>of_decide_eq_false h (BF.mpr k)
theorem as_g3{g:Nat}(h:decide (0<(g:Int))=false):g=0:=Nat.eq_zero_of_not_pos (as_g2 h)
theorem as_g4{g:Nat}(h:((g:Int)==0)=true):g=0:=Int.ofNat.inj (beq_iff_eq.mp h)
theorem as_g5{g:Nat}(h:((g:Int)==0)=true):¬0<g:=by rw[as_g4 h];decide
theorem as_g6{g:Nat}(h:((g:Int)==0)=false):0<g:=Nat.pos_of_ne_zero λ e=>by rw[e]at h;exact AY h
theorem as_g7{g:Nat}(h:decide (1<(g:Int))=true):1<g:=BF.mp (of_decide_eq_true h)
theorem as_g8{g:Nat}(h:decide ((g:Int)<9)=true):g<9:=BF.mp (of_decide_eq_true h)
theorem as_g9{g:Nat}(h:¬g=0):¬(g:Int)=0:=λ e=>h (Int.ofNat.inj e)
theorem as_gb{g:Nat}(h:0<g):1<=(g:Int):=Int.ofNat_le.mpr h
theorem as_gc{n:Nat}:0<((n+1:Nat):Int):=BF.mpr (Nat.succ_pos n)
theorem as_gd{n:Nat}:((n+1:Nat):Int)-1=(n:Int):=Int.add_sub_cancel (n:Int) 1
theorem as_h1{a b f k c:Nat}(e:a=b)(h:a<=f)(h2:f<=k)(q:Bo k c=true):b<=c:=e▸le_c (Al h h2) q
theorem as_h2{a b k c:Nat}(e:a=b)(h:a<=k)(q:Bo k c=true):b<=c:=e▸le_c h q
theorem as_j1{a s k c:Nat}(e:a=s)(h:s+k<c):a<c:=e▸AO (AU s k) h
theorem as_j2{a b:Nat}(e:b=a+1)(h:b<=1):a=0:=by subst e;exact Nat.eq_zero_of_le_zero (Nat.le_of_succ_le_succ h)
theorem as_j3{Q:Prop}{p e n:Nat}(h:p=e/\Q)(k:e=n):p=n:=h.1.trans k
theorem as_j4{p e n:Nat}(h:p=e)(k:e=n):p=n:=h.trans k
theorem as_j5{e:Nat}(h:e<=1)(k:¬e=0):e=1:=BR h (Nat.pos_of_ne_zero k)
theorem as_o1{a k c u v:Nat}(h:a+8*(k+2)<c)(e:u<=3)(f:v<=1):a+(u+0)+v+8*k<c:=
 AO (by rw[Bl,Bl];refine Bh ?_ a;rw[Nat.mul_add,BB (8*k),←Bl];exact A9 (le_c (AV (A9 e 0) f) rfl) _) h
theorem as_o2{a k c u:Nat}(h:a+(k+2)<c)(e:u<=1):a+(u+0)+0+k<c:=
 AO (by rw[Bl,Bl];refine Bh ?_ a;rw[BB k];exact Al (AV (le_c e rfl) (Bf (By k))) (A9 (by decide:1<=2) k)) h
theorem as_sc{a b x:Nat}(h:a<=2000/\b<=1000)(e:x<=a+6*b+4):x<=8004:=le_c (Al e (A9 (AV h.1 (Bm 6 h.2)) 4)) rfl
theorem as_ni{r n b:Nat}(h:r=n)(e:b<=2)(f:0<b):b+r<=n+2/\n+1<=b+r:=by
 subst h;exact⟨BB b r▸Bh e r,BB b r▸Bh f r⟩
theorem as_lw{e l m:Nat}(h:e<=6*l):e+m<=6*l+m+1:=BK (A9 h m)
theorem as_lx{a l m:Nat}(h:a=1):m+a<=6*l+m+1:=by rw[h];exact Bc (Nat.le_add_left _ _)
theorem as_t1{o d r k c:Nat}(e:o=d+r)(h:o<=k)(q:Bo k c=true):d<=c:=le_c (Al (AU d r) (Al (Bf e.symm) h)) q
theorem as_t2{v o d r k c:Nat}(e0:v=d)(e:o=d+r)(h:o<=k)(q:Bo k c=true):v<=c:=e0▸as_t1 e h q
theorem as_t4{v d r x:Nat}(h:v<=d)(e:d+r+1=x)(k:x<=100):v+1<=101:=Bc (Al h (Al (AU d (r+1)) (Al (Bf e) k)))
theorem as_t5{c d r k:Nat}(e:c=d+(r+1))(h:c<=k):d+1<=k:=Al (Bc (AU d r)) (Al (Bf e.symm) h)
theorem as_t6{n d r:Nat}(e:n=d+(r+1)):d<n:=e▸Bc (AU d r)
theorem as_t7{v d w k c:Nat}(e:w=v)(f:v=d)(h:d+1<=k)(q:Bo k c=true):w<=c:=e▸f▸le_c (BL h) q
theorem as_t8{v d m k c:Nat}(h:v<=d+m)(e:d+1<=k)(q:Bo (k+m) c=true):v<=c:=le_c (Al h (A9 (BL e) m)) q
theorem as_y3{j a n:Nat}(e:a=n)(h:j<a):j<n:=e▸h
theorem as_y5{i k v:Nat}(e:k=0+v)(h:i<v):i<k:=by rw[e,By];exact h
theorem as_y6{i k v s:Nat}(f:v=s)(e:k=0+v)(h:i<k):i<s:=by rw[e,By,f]at h;exact h
theorem as_y7{k v:Nat}(e:k=0+v)(h:¬v<2):2<=k:=by rw[e,By];exact BP h
theorem as_y8{m n:Nat}(e:m=n)(h:¬n<2):2<=m:=e▸BP h
theorem as_y9{v s k:Nat}(e:v=s)(h:s<k):v<k:=e▸h
theorem as_z1{n s x:Nat}(h:s<=n*x){r:Nat}(e:r<=n):r+s<=n*x+n:=BB s r▸AV h e
theorem as_z2{n s x:Nat}(h:s<=n*x){r:Nat}(e:r<=n):r+s<=n*(x+1):=as_z1 h e
theorem as_z3{a b k c:Nat}(h:a+b<=k)(q:Bo k c=true):a<=c:=le_c (Al (AU a b) h) q
theorem as_z5{a p:Nat}(e:a=6):a+p<=p+6:=by rw[e,BB];exact AN _
theorem as_z6{n k c:Nat}(h:n<=k)(q:Bo k c=true):¬c<n:=Nat.not_lt_of_le (le_c h q)
theorem as_z7{P:Prop}{f m:Nat}(h:P/\f<=m):¬m<f:=Nat.not_lt_of_le h.2
theorem as_z8{P:Prop}{b k c:Nat}(h:P/\b<=k)(q:Bo k c=true):b<=c:=le_c h.2 q
theorem as_z9{P:Prop}{b k c:Nat}(h:b<=k/\P)(q:Bo k c=true):b<=c:=le_c h.1 q
theorem as_a1{x y z:Nat}(e:z=x+y)(h:0<x):0<z:=e▸Nat.lt_of_lt_of_le h (AU x y)
theorem as_a2{p i:Nat}(h:p+1<=4)(k:i<p):i<4:=Nat.lt_trans k h
theorem as_a3{p i:Nat}(h:i=p)(k:i<p):False:=BG p (h▸k)
theorem as_a4{a b:Nat}(e:a=b+1):0<a:=e▸Nat.succ_pos b
theorem as_a5{a b:Nat}(e:a+1=b):a<b:=Bf e
theorem as_a7{n j:Nat}:n+1+j=n+(j+1):=Bp n 1 j
theorem as_a8{s v i:Nat}(e:s=v+1)(h:i<v):i+1<s:=e▸Nat.succ_lt_succ h
theorem as_a9{s v i:Nat}(e:s=v+1)(h:i<v):i<s:=e▸Nat.lt_succ_of_lt h
theorem as_aa{s v i:Nat}(e:s=v+1)(h:i<=v):i<s:=e▸Nat.lt_succ_of_le h
theorem as_ac{s i:Nat}(h:s+1+i<s):False:=BG s (AO (Al (Nat.le_succ s) (AU _ i)) h)
theorem as_ad{n k x:Nat}(e:n=k)(h:x<k):x<n:=e▸h
theorem as_ae{n m:Nat}(h:n<=m+1)(k:¬n=m+1):n<=m:=Nat.le_of_lt_succ (Nat.lt_of_le_of_ne h k)
theorem as_af{P:Prop}{i:Nat}(h:i=4):¬(P/\i=3):=λ k=>absurd (h.symm.trans k.2) (by decide)
theorem as_ag{i:Nat}(h:i<=4)(k:¬i<3)(g:¬i=4):i=3:=BR (Nat.le_of_lt_succ (Nat.lt_of_le_of_ne h g)) (BP k)
theorem as_ah{j n:Nat}(k:j<n):0<n:=AO (AE j) k
theorem as_ai{f p:Nat}(e:f=p)(h:2<=p):0<f:=e▸Nat.lt_of_lt_of_le (by decide) h
theorem as_aj{x n:Nat}(h:x<0+n):x<n:=By n▸h
theorem as_ak{m p:Nat}(e:m=p+1)(h:¬p=1):¬m=2:=λ k=>h (Nat.succ.inj (e.symm.trans k))
theorem as_al{p:Nat}(h:¬p=1):¬(p:Int)=1:=λ k=>h (Int.ofNat.inj k)
theorem as_am{c n:Nat}(e:c=n):4+c+3=7+n:=by rw[e,Bp]
theorem as_an{a b:Nat}(h:a<=b):¬b<a:=Nat.not_lt_of_le h
theorem aDK{n j:Nat}(h:j<n):seqIndex? (j:Int) n=some j:=by
 unfold seqIndex?;rw[if_neg (Int.not_lt.mpr (Int.natCast_nonneg j)),if_pos (by rw[decide_eq_true (Int.natCast_nonneg j),decide_eq_true (BF.mpr h)];rfl)]
 rfl
theorem aCe(y:Int)(n:Nat)(h:0<n):∃ j:Nat,y.fmod (n:Int)=(j:Int)/\j<n:=by
 have hn:(0:Int)<n:=BF.mpr h;have e:=Int.toNat_of_nonneg (Int.fmod_nonneg_of_pos y hn);exact⟨(y.fmod n).toNat,e.symm,BF.mp (e.symm▸Int.fmod_lt_of_pos y hn)⟩
theorem ob02{A0 A1:Prop}{P:Prop}(h:A0/\A1)(f:A0->A1->P):P:=f h.1 h.2
theorem ob03{A0 A1 A2:Prop}{P:Prop}(h:A0/\A1/\A2)(f:A0->A1->A2->P):P:=f h.1 h.2.1 h.2.2
theorem ob04{A0 A1 A2 A3:Prop}{P:Prop}(h:A0/\A1/\A2/\A3)(f:A0->A1->A2->A3->P):P:=f h.1 h.2.1 h.2.2.1 h.2.2.2
theorem ob05{A0 A1 A2 A3 A4:Prop}{P:Prop}(h:A0/\A1/\A2/\A3/\A4)(f:A0->A1->A2->A3->A4->P):P:=f h.1 h.2.1 h.2.2.1 h.2.2.2.1 h.2.2.2.2
theorem ob06{A0 A1 A2 A3 A4 A5:Prop}{P:Prop}(h:A0/\A1/\A2/\A3/\A4/\A5)(f:A0->A1->A2->A3->A4->A5->P):P:=f h.1 h.2.1 h.2.2.1 h.2.2.2.1 h.2.2.2.2.1 h.2.2.2.2.2
theorem ob07{A0 A1 A2 A3 A4 A5 A6:Prop}{P:Prop}(h:A0/\A1/\A2/\A3/\A4/\A5/\A6)(f:A0->A1->A2->A3->A4->A5->A6->P):P:=f h.1 h.2.1 h.2.2.1 h.2.2.2.1 h.2.2.2.2.1 h.2.2.2.2.2.1 h.2.2.2.2.2.2
theorem ob11.{u0}{α:Sort u0}{A0:α->Prop}{P:Prop}(h:∃ x,A0 x)(f:∀ x,A0 x->P):P:=Au h λ x h=>f x h
theorem ob12.{u0}{α:Sort u0}{A0 A1:α->Prop}{P:Prop}(h:∃ x,A0 x/\A1 x)(f:∀ x,A0 x->A1 x->P):P:=Au h λ x h=>f x h.1 h.2
theorem ob13.{u0}{α:Sort u0}{A0 A1 A2:α->Prop}{P:Prop}(h:∃ x,A0 x/\A1 x/\A2 x)(f:∀ x,A0 x->A1 x->A2 x->P):P:=Au h λ x h=>f x h.1 h.2.1 h.2.2
theorem ob14.{u0}{α:Sort u0}{A0 A1 A2 A3:α->Prop}{P:Prop}(h:∃ x,A0 x/\A1 x/\A2 x/\A3 x)(f:∀ x,A0 x->A1 x->A2 x->A3 x->P):P:=Au h λ x h=>f x h.1 h.2.1 h.2.2.1 h.2.2.2
theorem ob15.{u0}{α:Sort u0}{A0 A1 A2 A3 A4:α->Prop}{P:Prop}(h:∃ x,A0 x/\A1 x/\A2 x/\A3 x/\A4 x)(f:∀ x,A0 x->A1 x->A2 x->A3 x->A4 x->P):P:=Au h λ x h=>f x h.1 h.2.1 h.2.2.1 h.2.2.2.1 h.2.2.2.2
theorem ob16.{u0}{α:Sort u0}{A0 A1 A2 A3 A4 A5:α->Prop}{P:Prop}(h:∃ x,A0 x/\A1 x/\A2 x/\A3 x/\A4 x/\A5 x)(f:∀ x,A0 x->A1 x->A2 x->A3 x->A4 x->A5 x->P):P:=Au h λ x h=>f x h.1 h.2.1 h.2.2.1 h.2.2.2.1 h.2.2.2.2.1 h.2.2.2.2.2
theorem ob17.{u0}{α:Sort u0}{A0 A1 A2 A3 A4 A5 A6:α->Prop}{P:Prop}(h:∃ x,A0 x/\A1 x/\A2 x/\A3 x/\A4 x/\A5 x/\A6 x)(f:∀ x,A0 x->A1 x->A2 x->A3 x->A4 x->A5 x->A6 x->P):P:=Au h λ x h=>f x h.1 h.2.1 h.2.2.1 h.2.2.2.1 h.2.2.2.2.1 h.2.2.2.2.2.1 h.2.2.2.2.2.2
theorem ob21.{u0,u1}{α:Sort u0}{β:Sort u1}{A0:α->β->Prop}{P:Prop}(h:∃ x y,A0 x y)(f:∀ x y,A0 x y->P):P:=Au h λ x h=>Au h λ y h=>f x y h
theorem ob22.{u0,u1}{α:Sort u0}{β:Sort u1}{A0 A1:α->β->Prop}{P:Prop}(h:∃ x y,A0 x y/\A1 x y)(f:∀ x y,A0 x y->A1 x y->P):P:=Au h λ x h=>Au h λ y h=>f x y h.1 h.2
theorem ob23.{u0,u1}{α:Sort u0}{β:Sort u1}{A0 A1 A2:α->β->Prop}{P:Prop}(h:∃ x y,A0 x y/\A1 x y/\A2 x y)(f:∀ x y,A0 x y->A1 x y->A2 x y->P):P:=Au h λ x h=>Au h λ y h=>f x y h.1 h.2.1 h.2.2
theorem ob24.{u0,u1}{α:Sort u0}{β:Sort u1}{A0 A1 A2 A3:α->β->Prop}{P:Prop}(h:∃ x y,A0 x y/\A1 x y/\A2 x y/\A3 x y)(f:∀ x y,A0 x y->A1 x y->A2 x y->A3 x y->P):P:=Au h λ x h=>Au h λ y h=>f x y h.1 h.2.1 h.2.2.1 h.2.2.2
theorem ob25.{u0,u1}{α:Sort u0}{β:Sort u1}{A0 A1 A2 A3 A4:α->β->Prop}{P:Prop}(h:∃ x y,A0 x y/\A1 x y/\A2 x y/\A3 x y/\A4 x y)(f:∀ x y,A0 x y->A1 x y->A2 x y->A3 x y->A4 x y->P):P:=Au h λ x h=>Au h λ y h=>f x y h.1 h.2.1 h.2.2.1 h.2.2.2.1 h.2.2.2.2
theorem ob26.{u0,u1}{α:Sort u0}{β:Sort u1}{A0 A1 A2 A3 A4 A5:α->β->Prop}{P:Prop}(h:∃ x y,A0 x y/\A1 x y/\A2 x y/\A3 x y/\A4 x y/\A5 x y)(f:∀ x y,A0 x y->A1 x y->A2 x y->A3 x y->A4 x y->A5 x y->P):P:=Au h λ x h=>Au h λ y h=>f x y h.1 h.2.1 h.2.2.1 h.2.2.2.1 h.2.2.2.2.1 h.2.2.2.2.2
theorem ob31.{u0,u1,u2}{α:Sort u0}{β:Sort u1}{γ:Sort u2}{A0:α->β->γ->Prop}{P:Prop}(h:∃ x y z,A0 x y z)(f:∀ x y z,A0 x y z->P):P:=Au h λ x h=>Au h λ y h=>Au h λ z h=>f x y z h
theorem ob32.{u0,u1,u2}{α:Sort u0}{β:Sort u1}{γ:Sort u2}{A0 A1:α->β->γ->Prop}{P:Prop}(h:∃ x y z,A0 x y z/\A1 x y z)(f:∀ x y z,A0 x y z->A1 x y z->P):P:=Au h λ x h=>Au h λ y h=>Au h λ z h=>f x y z h.1 h.2
theorem ob33.{u0,u1,u2}{α:Sort u0}{β:Sort u1}{γ:Sort u2}{A0 A1 A2:α->β->γ->Prop}{P:Prop}(h:∃ x y z,A0 x y z/\A1 x y z/\A2 x y z)(f:∀ x y z,A0 x y z->A1 x y z->A2 x y z->P):P:=Au h λ x h=>Au h λ y h=>Au h λ z h=>f x y z h.1 h.2.1 h.2.2
theorem ob34.{u0,u1,u2}{α:Sort u0}{β:Sort u1}{γ:Sort u2}{A0 A1 A2 A3:α->β->γ->Prop}{P:Prop}(h:∃ x y z,A0 x y z/\A1 x y z/\A2 x y z/\A3 x y z)(f:∀ x y z,A0 x y z->A1 x y z->A2 x y z->A3 x y z->P):P:=Au h λ x h=>Au h λ y h=>Au h λ z h=>f x y z h.1 h.2.1 h.2.2.1 h.2.2.2
theorem ob35.{u0,u1,u2}{α:Sort u0}{β:Sort u1}{γ:Sort u2}{A0 A1 A2 A3 A4:α->β->γ->Prop}{P:Prop}(h:∃ x y z,A0 x y z/\A1 x y z/\A2 x y z/\A3 x y z/\A4 x y z)(f:∀ x y z,A0 x y z->A1 x y z->A2 x y z->A3 x y z->A4 x y z->P):P:=Au h λ x h=>Au h λ y h=>Au h λ z h=>f x y z h.1 h.2.1 h.2.2.1 h.2.2.2.1 h.2.2.2.2
theorem ob41.{u0,u1,u2,u3}{α:Sort u0}{β:Sort u1}{γ:Sort u2}{δ:Sort u3}{A0:α->β->γ->δ->Prop}{P:Prop}(h:∃ x y z u,A0 x y z u)(f:∀ x y z u,A0 x y z u->P):P:=Au h λ x h=>Au h λ y h=>Au h λ z h=>Au h λ u h=>f x y z u h
theorem ob42.{u0,u1,u2,u3}{α:Sort u0}{β:Sort u1}{γ:Sort u2}{δ:Sort u3}{A0 A1:α->β->γ->δ->Prop}{P:Prop}(h:∃ x y z u,A0 x y z u/\A1 x y z u)(f:∀ x y z u,A0 x y z u->A1 x y z u->P):P:=Au h λ x h=>Au h λ y h=>Au h λ z h=>Au h λ u h=>f x y z u h.1 h.2
theorem ob43.{u0,u1,u2,u3}{α:Sort u0}{β:Sort u1}{γ:Sort u2}{δ:Sort u3}{A0 A1 A2:α->β->γ->δ->Prop}{P:Prop}(h:∃ x y z u,A0 x y z u/\A1 x y z u/\A2 x y z u)(f:∀ x y z u,A0 x y z u->A1 x y z u->A2 x y z u->P):P:=Au h λ x h=>Au h λ y h=>Au h λ z h=>Au h λ u h=>f x y z u h.1 h.2.1 h.2.2
theorem ob44.{u0,u1,u2,u3}{α:Sort u0}{β:Sort u1}{γ:Sort u2}{δ:Sort u3}{A0 A1 A2 A3:α->β->γ->δ->Prop}{P:Prop}(h:∃ x y z u,A0 x y z u/\A1 x y z u/\A2 x y z u/\A3 x y z u)(f:∀ x y z u,A0 x y z u->A1 x y z u->A2 x y z u->A3 x y z u->P):P:=Au h λ x h=>Au h λ y h=>Au h λ z h=>Au h λ u h=>f x y z u h.1 h.2.1 h.2.2.1 h.2.2.2
theorem ob51.{u0,u1,u2,u3,u4}{α:Sort u0}{β:Sort u1}{γ:Sort u2}{δ:Sort u3}{ε:Sort u4}{A0:α->β->γ->δ->ε->Prop}{P:Prop}(h:∃ x y z u v,A0 x y z u v)(f:∀ x y z u v,A0 x y z u v->P):P:=Au h λ x h=>Au h λ y h=>Au h λ z h=>Au h λ u h=>Au h λ v h=>f x y z u v h
theorem ob52.{u0,u1,u2,u3,u4}{α:Sort u0}{β:Sort u1}{γ:Sort u2}{δ:Sort u3}{ε:Sort u4}{A0 A1:α->β->γ->δ->ε->Prop}{P:Prop}(h:∃ x y z u v,A0 x y z u v/\A1 x y z u v)(f:∀ x y z u v,A0 x y z u v->A1 x y z u v->P):P:=Au h λ x h=>Au h λ y h=>Au h λ z h=>Au h λ u h=>Au h λ v h=>f x y z u v h.1 h.2
theorem ob53.{u0,u1,u2,u3,u4}{α:Sort u0}{β:Sort u1}{γ:Sort u2}{δ:Sort u3}{ε:Sort u4}{A0 A1 A2:α->β->γ->δ->ε->Prop}{P:Prop}(h:∃ x y z u v,A0 x y z u v/\A1 x y z u v/\A2 x y z u v)(f:∀ x y z u v,A0 x y z u v->A1 x y z u v->A2 x y z u v->P):P:=Au h λ x h=>Au h λ y h=>Au h λ z h=>Au h λ u h=>Au h λ v h=>f x y z u v h.1 h.2.1 h.2.2
abbrev Sx:=Lean.Syntax
def nd(k:String)(as:List Sx):Sx:=.node .none k.toName as.toArray
def wlk(w:String):Sx:=nd "PyProof.Rows.tacticWalk_at_" [.atom .none "walk_at",Lean.Syntax.mkStrLit w]
def fld{α β:Type}(f:β->α->β)(b:β):List α->β
 | []=>b
 | x::r=>fld f (f b x) r
def word(fr:String->Sx)(p:List (List Sx)×List Sx)(w:String):List (List Sx)×List Sx:=
 let b:=String.ofList (w.toList.drop 1)
 let c:=w.front
 let z:=c==')'
 let q:=p.1.headD []
 let a:=q.reverse
 if c=='(' then([]::p.1,p.2)else
 if c=='.' then((p.2++q)::p.1.tail,[])else
 let n:=fr ("_h"++toString p.2.length)
 let x:=if z then(if b=="$" then nd "Lean.Parser.Term.app" [a.headD .missing,nd "null" a.tail]else nd b a)
  else if c=='\'' then .atom .none b
  else if c=='=' then wlk b
  else if c=='/' then nd "Lean.Parser.Term.syntheticHole" [.atom .none "?",n]
  else fr w
 let s:=if z then p.1.tail else p.1
 ((x::s.headD [])::s.tail,if c=='/' then nd "Lean.Parser.Tactic.case" [.atom .none "case",nd "null" [nd "Lean.Parser.Tactic.caseArg" [nd "Lean.binderIdent" [n],nd "null" []]],.atom .none "=>",nd "Lean.Parser.Tactic.tacticSeq" [nd "Lean.Parser.Tactic.tacticSeq1Indented" [nd "null" [wlk b]]]]::p.2 else p.2)
def rows(fr:String->Sx)(r:String):Lean.TSyntax `tactic:=
 let t:=fld (λ s x=>let p:=x.splitOn "=";(p.getD 1 "").intercalate (s.splitOn (p.headD ""))) ("( 'first ( ( '| ( "++r++" )null )group )null )t:first") ("; = )null )group ( '| ( \n _= ( '? '_ )T:syntheticHole\n ~= ( '_ )T:hole\n#=( 'fail_if_success ( 'fail_if_success ( 'with_reducible\n@=)t:withReducible )t:failIfSuccess )t:failIfSuccess\n`=( 'with_reducible ( 'exact\n!=)t:exact )t:withReducible\n<=( 'with_reducible ( 'refine ( \n%= )$ )t:refine )t:withReducible .\n^=( 'with_reducible ( 'refine' ( \n&= )$ )t:refine' )t:withReducible .\nt:=Lean.Parser.Tactic.\nT:=Lean.Parser.Term.".splitOn "\n")
 ⟨((fld (word fr) ([],[]) (t.splitOn " ")).1.headD []).headD .missing⟩
def nam(w:String):Sx:=Lean.mkIdent w.toName
def goAt(tab:String)(w:Lean.TSyntax `str):Lean.MacroM (Lean.TSyntax `tactic):=λ c s=>
 let r:=(tab.splitOn ("\n"++w.getString++"\t")).getD 1 ""
 if r=="" then .error .unsupportedSyntax s else
 .ok (rows (λ n=>if n.front=='_' then Lean.mkIdent (Lean.addMacroScope c.quotContext n.toName c.currMacroScope)else nam n) ((r.splitOn "\n").headD "")) s
def obTac(ps:Array Sx)(e:Sx):Lean.MacroM (Lean.TSyntax `tactic):=λ _ s=>
 let u:=(fld (λ t x=>t++x.reprint.getD "(") "" ps.toList).splitOn ","
 let p:=fld (λ(p:String×String) x=>
  let x:=x.trimAscii.toString
  let h:=" hr"++toString p.2.length
  if x=="rfl" then(p.1++h,p.2++" ( 'subst ("++h++" )null )t:subst")else(p.1++" "++(if x=="_" then "~" else x),p.2)) ("","") u
 let n:=u.length
 if n<2||n>8||fld (λ b x=>b||((toString (Lean.Syntax.node .none `null ps)).splitOn x).length != 1) false ("tuple \"|\" paren clear explicit \":\" _hyg".splitOn " ")then .error .unsupportedSyntax s else
 let i:=(if e.isIdent then " ( 'first ( ( '| ( 'clear ( E )null )t:clear )group ( '| ( )null )group )null )t:first" else "")++" ( 'intro ("++p.1++" )null )t:intro"++p.2
 .ok (rows (λ w=>if w=="E" then e else nam w) ("; ".intercalate (fld (λ l k=>if k<n then("( 'refine ( Mine.ob"++toString k++toString (n-k)++" E _ )$ )t:refine"++i)::l else l) [] [5,4,3,0,2,1]))) s
def tab0:String:="\nub0\t<Mine.ub_n%; ^Mine.ub_l /asm&; ^Mine.ub_e /asm&; ^Mine.ub_t /asm&; <Mine.ub_nil%; <Mine.ub_mt%; ^AV /ub0 /ub0&; ^Mine.ub_app /ub0 /ub0&; ^Mine.ub_lapp /ub0 /ub0&; ^Mine.ub_cons /ub0&; ^Mine.ub_map /ub0&; ^Mine.ub_mul /ub0&; ^Mine.ub_sub /ub0&; ^Mine.ub_min /ub0&; ^Mine.ub_div /ub0&; ( 'with_reducible ( 'assumption )t:assumption )t:withReducible\nub1\t<Mine.ub_n%; ^Mine.ub_l /asm&; ^Mine.ub_e /asm&; ^Mine.ub_t /asm&; <Mine.ub_nil%; <Mine.ub_mt%; ^AV /ub1 /ub1&; ^Mine.ub_app /ub1 /ub1&; ^Mine.ub_lapp /ub1 /ub1&; ^Mine.ub_cons /ub1&; ^Mine.ub_map /ub1&; ^Mine.ub_mul /ub1&; ^Mine.ub_sub /ub1&; ^Mine.ub_min /ub1&; ^Mine.ub_div /ub1&; ^Al /asm /ub0&; ^Mine.ub_eq /asm /ub0&; ^Mine.ub_ltc /asm /ub0&\nub2\t<Mine.ub_n%; ^Mine.ub_l /asm&; ^Mine.ub_e /asm&; ^Mine.ub_t /asm&; <Mine.ub_nil%; <Mine.ub_mt%; ^AV /ub2 /ub2&; ^Mine.ub_app /ub2 /ub2&; ^Mine.ub_lapp /ub2 /ub2&; ^Mine.ub_cons /ub2&; ^Mine.ub_map /ub2&; ^Mine.ub_mul /ub2&; ^Mine.ub_sub /ub2&; ^Mine.ub_min /ub2&; ^Mine.ub_div /ub2&; ^Al /asm /ub1&; ^Mine.ub_eq /asm /ub1&; ^Mine.ub_ltc /asm /ub1&\nub3\t<Mine.ub_n%; ^Mine.ub_l /asm&; ^Mine.ub_e /asm&; ^Mine.ub_t /asm&; <Mine.ub_nil%; <Mine.ub_mt%; ^AV /ub3 /ub3&; ^Mine.ub_app /ub3 /ub3&; ^Mine.ub_lapp /ub3 /ub3&; ^Mine.ub_cons /ub3&; ^Mine.ub_map /ub3&; ^Mine.ub_mul /ub3&; ^Mine.ub_sub /ub3&; ^Mine.ub_min /ub3&; ^Mine.ub_div /ub3&; ^Al /asm /ub2&; ^Mine.ub_eq /asm /ub2&; ^Mine.ub_ltc /asm /ub2&\nar\t^Mine.ar_a /asm&; ^Mine.ar_b /asm&; ^Mine.ar_c /asm&; ^Mine.ar_d /asm /asm&; ^Mine.ar_e /asm /asm&; ^Mine.ar_f /asm&; ^Mine.ar_g /asm&; ^Mine.ar_h /asm&; ^Mine.ar_i /asm /asm&; ^Mine.ar_j /asm /asm&; ^Mine.ar_k /asm&; ^Mine.ar_k1 /asm&; ^Mine.ar_k2 /asm&; ^Mine.ar_l /asm&; <Mine.ar_q%; ^Mine.ar_r /asm&; ^Mine.ar_u /asm&; ^Mine.ar_u2 /asm&; <Mine.ar_v%; ^Mine.ar_w' /asm /tt&; ^Mine.ar_s /asm ~&; ^Mine.ar_t /asm&; <Mine.ar_x%; ^Mine.ar_m1 /asm&; ^Mine.ar_2 /asm&; ^Mine.ar_3 /asm&; ^Mine.ar_4 /asm /asm&; ^Mine.ar_5 /asm /asm&; ^Mine.ar_7 /asm /asm&; ^Mine.ar_8 /asm /asm&; ^Mine.ar_9 /asm&; ^Mine.ar_y /asm&; ^Mine.as_sub /asm /asm&; <Mine.as_min%; ^Mine.as_at /asm /asm /asm /asm&; ^Mine.as_5 /asm /asm&; <Mine.as_i0%; ^Mine.as_i1 /asm&; ^Mine.as_rep /asm /asm&; ^Mine.as_d2 /asm&; ^Mine.as_d4 /asm&; <Mine.as_d3%; ^Mine.as_d5 /asm /asm&; ^Mine.as_b1 /asm /asm&; ^Mine.as_b2 /asm&; ^Mine.as_ser /asm /asm /asm&; ^Mine.as_e1 /asm /asm /tt&; ^Mine.as_e2 /asm /asm /tt&; ^Mine.as_u1 /asm /tt&; ^Mine.as_u2 /asm /tt&; ^Mine.as_u3 /asm /tt&; ^Mine.as_u4 /asm&; ^Mine.as_st /asm /asm /asm /asm /asm&; ^Mine.as_n1 /asm /asm&; ^Mine.as_s /asm&; ^Mine.as_s' /asm&; ^Mine.as_fl /asm /asm&; ^Mine.as_l1 /asm&; ^Mine.as_l2 /asm&; ^Mine.as_l3 /asm&; ^Mine.as_l4 /asm&; ^Mine.as_l6 /asm&; ^Mine.as_c1 /asm /asm /tt&; ^Mine.as_w /asm /tt&; ^Mine.as_w1 /asm /tt&; ^Mine.as_w2 /asm /asm /tt&; ^Mine.as_w3 /asm /tt&; ^Mine.as_in /asm /asm /asm /asm&; ^Mine.as_p1 /asm /asm&; ^Mine.as_p2 /asm /asm&; ^Mine.as_p3 /asm&; ^Mine.as_p4 /asm&; ^Mine.as_p5 /asm /asm&; ^Mine.as_p6 /asm&; ^Mine.as_p7 /asm&; ^Mine.as_p8 /asm&; ^Mine.as_p9 /asm&; ^Mine.as_pa /asm /asm&; ^Mine.as_pb /asm&; ^Mine.as_cl /asm /asm /asm /asm /asm&; ^Mine.as_x1 /asm /asm&; ^Mine.as_x2 /asm /asm /asm&; ^Mine.as_x3 /asm /asm /asm&; ^Mine.as_k1 /asm&; ^Mine.as_k2 /asm /asm /tt&; ^Mine.as_k3 /asm /asm&; ^Mine.as_k4 /asm /asm&; ^Mine.as_k5 /asm&; ^Mine.as_k6 /asm /asm&; ^Mine.as_k7 /asm /asm&; ^Mine.as_k8 /asm /asm /asm&; ^Mine.as_q1 /asm /asm&; ^Mine.as_r1 /asm /asm /asm /asm&; ^Mine.as_r2 /asm&; ^Mine.as_r3 /asm&; ^Mine.as_g1 /asm&; ^Mine.as_g2 /asm&; ^Mine.as_g3 /asm&; ^Mine.as_g4 /asm&; ^Mine.as_g5 /asm&; ^Mine.as_g6 /asm&; ^Mine.as_g7 /asm&; ^Mine.as_g8 /asm&; ^Mine.as_g9 /asm&; ^Mine.as_gb /asm&; <Mine.as_gc%; <Mine.as_gd%; ^Mine.as_h1 /asm /asm /asm /tt&; ^Mine.as_h2 /asm /asm /tt&; ^Mine.as_j1 /asm /asm&; ^Mine.as_j2 /asm /asm&; ^Mine.as_j3 /asm /asm&; ^Mine.as_j4 /asm /asm&; ^Mine.as_j5 /asm /asm&; ^Mine.as_o1 /asm /asm /asm&; ^Mine.as_o2 /asm /asm&; ^Mine.as_sc /asm /asm&; ^Mine.as_ni /asm /asm /asm&; ^Mine.as_lw /asm&; ^Mine.as_lx /asm&; ^Mine.as_t1 /asm /asm /tt&; ^Mine.as_t2 /asm /asm /asm /tt&; ^Mine.as_t4 /asm /asm /asm&; ^Mine.as_t5 /asm /asm&; ^Mine.as_t6 /asm&; ^Mine.as_t7 /asm /asm /asm /tt&; ^Mine.as_t8 /asm /asm /tt&; ^Mine.as_y3 /asm /asm&; ^Mine.as_y5 /asm /asm&; ^Mine.as_y6 /asm /asm /asm&; ^Mine.as_y7 /asm /asm&; ^Mine.as_y8 /asm /asm&; ^Mine.as_y9 /asm /asm&; ^Mine.as_z2 /asm /asm&; ^Mine.as_z3 /asm /tt&; ^Mine.as_z5 /asm&; ^Mine.as_z6 /asm /tt&; ^Mine.as_z7 /asm&; ^Mine.as_z8 /asm /tt&; ^Mine.as_z9 /asm /tt&; ^Mine.as_a1 /asm /asm&; ^Mine.as_a2 /asm /asm&; ^Mine.as_a3 /asm /asm&; ^Mine.as_a4 /asm&; ^Mine.as_a5 /asm&; <Mine.as_a7%; ^Mine.as_a8 /asm /asm&; ^Mine.as_a9 /asm /asm&; ^Mine.as_aa /asm /asm&; ^Mine.as_ac /asm&; ^Mine.as_ad /asm /asm&; ^Mine.as_ae /asm /asm&; ^Mine.as_af /asm&; ^Mine.as_ag /asm /asm /asm&; ^Mine.as_ah /asm&; ^Mine.as_ai /asm /asm&; ^Mine.as_aj /asm&; ^Mine.as_ak /asm /asm&; ^Mine.as_al /asm&; ^Mine.as_am /asm&; ^Mine.as_an /asm&; ^AV /asm /asm&; ^Al /asm /asm&; ^Nat.pos_of_ne_zero /asm&; ^Nat.lt_trans /asm /asm&; ^Mine.ar_p /asm /asm /asm&\nom\t^Mine.le_c /ub3 /tt&; ^Mine.lt_c /ub3 /tt&\no\t( 'first ( ( '| =ar )group ( '| =om )group ( '| ( 'lia ( ( )null )t:optConfig )t:lia )group ( '| ( 'omega ( ( ( ( '( splitDisjunctions ':= true ') )t:valConfigItem )t:configItem )null )t:optConfig )t:omega )group )null )t:first\nosz\t( 'first ( ( '| =om )group ( '| ( ( 'rw ( ( )null )t:optConfig ( '[ ( ( ( )null Aw )t:rwRule )null '] )t:rwRuleSeq ( )null )t:rwSeq ( 'first ( ( '| ( 'lia ( ( )null )t:optConfig )t:lia )group ( '| ( 'omega ( ( ( ( '( splitDisjunctions ':= true ') )t:valConfigItem )t:configItem )null )t:optConfig )t:omega )group )null )t:first )null )group ( '| ( ( 'rw ( ( )null )t:optConfig ( '[ ( ( ( )null Ai )t:rwRule ', ( ( )null Aw )t:rwRule )null '] )t:rwRuleSeq ( )null )t:rwSeq ( 'first ( ( '| ( 'lia ( ( )null )t:optConfig )t:lia )group ( '| ( 'omega ( ( ( ( '( splitDisjunctions ':= true ') )t:valConfigItem )t:configItem )null )t:optConfig )t:omega )group )null )t:first )null )group )null )t:first\nasm\t( 'with_reducible ( 'assumption )t:assumption )t:withReducible\ntt\t( 'exact ( Eq.refl true )$ )t:exact\n"
def tab10:String:="\nkr\t( 'kernel_rfl )tacticKernel_rfl\nrfl\t( 'rfl )t:tacticRfl\nff\t( 'exact ( Eq.refl false )$ )t:exact\nsimp\t( 'simp ( ( )null )t:optConfig ( )null ( )null ( )null ( )null )t:simp\ndeck\t( 'decide ( ( ( ( '+ kernel )t:posConfigItem )t:configItem )null )t:optConfig )t:decide\ndec\t( 'decide ( ( )null )t:optConfig )t:decide\nle\t( 'exact ( Ar rfl )$ )t:exact\nik\t( ( 'rw ( ( )null )t:optConfig ( '[ ( ( ( )null I.k )t:rwRule )null '] )t:rwRuleSeq ( )null )t:rwSeq ( 'kernel_rfl )tacticKernel_rfl )null\nml\t( ( 'rw ( ( )null )t:optConfig ( '[ ( ( ( )null map_len )t:rwRule ', ( ( )null Aw )t:rwRule )null '] )t:rwRuleSeq ( )null )t:rwSeq ( 'decide ( ( )null )t:optConfig )t:decide )null\nia\t( ( 'clear ( S' )null )t:clear ( 'intro ( a' as' s' hl' S' )null )t:intro )null\nhnd\t( 'first ( ( '| ( 'exact hA'.handled )t:exact )group ( '| ( 'exact hA.handled )t:exact )group )null )t:first\nperm0\t( 'classical ( ( ( ( 'refine ( List.perm_iff_count.mpr ( 'λ ( ( xx )null ( )null '=> _ )T:basicFun )T:fun )$ )t:refine ', ( 'simp ( ( )null )t:optConfig ( )null ( 'only )null ( '[ ( ( ( )null ( )null List.count_append )t:simpLemma ', ( ( )null ( )null List.count_cons )t:simpLemma ', ( ( )null ( )null List.count_nil )t:simpLemma ', ( ( )null ( )null Nat.add_zero )t:simpLemma ', ( ( )null ( )null By )t:simpLemma ', ( ( )null ( )null Av )t:simpLemma ', ( ( )null ( )null Ay )t:simpLemma ', ( ( )null ( )null Ah )t:simpLemma ', ( ( )null ( )null Am )t:simpLemma )null '] )null ( )null )t:simp ', ( 'first ( ( '| ( 'done )t:done )group ( '| =o )group ( '| ( 'ac_rfl )t:acRfl )group )null )t:first )null )t:tacticSeq1Indented )t:tacticSeq )t:classical\nperm\t( ( 'first ( ( '| ( 'dsimp ( ( ( ( '( config ':= ( '{ ( )null ( ( ( ( zetaDelta ( )null )T:structInstLVal ( ( )null ( )null ( ':= ( )null true )T:structInstFieldDef )null )T:structInstField )null )T:structInstFields ( ( )null )T:optEllipsis ( )null '} )T:structInst ') )t:valConfigItem )t:configItem )null )t:optConfig ( )null ( 'only )null ( '[ ( )null '] )null ( )null )t:dsimp )group ( '| ( )null )group )null )t:first ( 'first ( ( '| =pm )group ( '| =pmD )group ( '| =perm0 )group )null )t:first )null\nmem\t( 'first ( ( '| =mem0 )group ( '| ( ( 'with_reducible ( 'refine ( BE ~ _ )$ )t:refine )t:withReducible =mem )null )group ( '| ( ( 'fail_if_success ( 'with_reducible ( 'refine ( BE ~ _ )$ )t:refine )t:withReducible )t:failIfSuccess ( 'with_reducible ( 'assumption )t:assumption )t:withReducible )null )group )null )t:first\nlen\t( 'first ( ( '| ( 'with_reducible ( 'assumption )t:assumption )t:withReducible )group ( '| =om )group ( '| ( ( 'simp ( ( )null )t:optConfig ( )null ( 'only )null ( '[ ( ( ( )null ( )null Str.length_append )t:simpLemma ', ( ( )null ( )null yM )t:simpLemma ', ( ( )null ( )null Aw )t:simpLemma )null '] )null ( )null )t:simp =o )null )group )null )t:first\nsz\t( 'first ( ( '| ( 'with_reducible ( 'assumption )t:assumption )t:withReducible )group ( '| ( 'exact ( Ar rfl )$ )t:exact )group ( '| =om )group ( '| ( 'decide ( ( )null )t:optConfig )t:decide )group ( '| ( ( 'simp ( ( )null )t:optConfig ( )null ( )null ( '[ ( ( ( )null ( )null Aw )t:simpLemma )null '] )null ( )null )t:simp ( 'done )t:done )null )group )null )t:first\nns\t( ( 'clear ( S' )null )t:clear ( 'intro ( s' S' )null )t:intro )null\nnt\t( ( 'clear ( S' )null )t:clear ( 'intro ( t' s' S' )null )t:intro )null\nna\t( ( 'clear ( S' )null )t:clear ( 'intro ( a' s' S' )null )t:intro )null\nkn\t( 'repeat ( ( ( ( 'first ( ( '| ( ( 'with_reducible ( 'refine ( hKn ~ _ )$ )t:refine )t:withReducible ( 'clear ( hKn hKr Kq )null )t:clear )null )group ( '| ( 'with_reducible ( 'refine ( AR _ )$ )t:refine )t:withReducible )group )null )t:first )null )t:tacticSeq1Indented )t:tacticSeq )t:tacticRepeat_\nst\t( 'repeat ( ( ( ( 'fail_if_success ( 'with_reducible ( 'show ( Ad ~ ~ ( execs ( Bv ~ ~ )$ ~ )$ ~ ~ ~ )$ )t:show )t:withReducible )t:failIfSuccess ', =cw )null )t:tacticSeq1Indented )t:tacticSeq )t:tacticRepeat_\nkv\t( 'repeat ( ( ( ( 'with_reducible ( 'refine ( hKr ~ ~ _ )$ )t:refine )t:withReducible ', ( 'clear ( hKn hKr Kq )null )t:clear )null )t:tacticSeq1Indented )t:tacticSeq )t:tacticRepeat_\nke\t( 'repeat ( ( ( ( 'first ( ( '| ( ( 'with_reducible ( 'refine ( hKn ~ _ )$ )t:refine )t:withReducible ( 'clear ( hKn hKr Kq )null )t:clear )null )group ( '| ( ( 'with_reducible ( 'refine ( hKr ~ ~ _ )$ )t:refine )t:withReducible ( 'clear ( hKn hKr Kq )null )t:clear )null )group ( '| ( 'with_reducible ( 'refine ( AR _ )$ )t:refine )t:withReducible )group )null )t:first )null )t:tacticSeq1Indented )t:tacticSeq )t:tacticRepeat_\nzd\t( 'first ( ( '| ( 'dsimp ( ( ( ( '( config ':= ( '{ ( )null ( ( ( ( zetaDelta ( )null )T:structInstLVal ( ( )null ( )null ( ':= ( )null true )T:structInstFieldDef )null )T:structInstField )null )T:structInstFields ( ( )null )T:optEllipsis ( )null '} )T:structInst ') )t:valConfigItem )t:configItem )null )t:optConfig ( )null ( 'only )null ( '[ ( )null '] )null ( ( 'at ( ( S' )null )t:locationHyp )t:location )null )t:dsimp )group ( '| ( )null )group )null )t:first\nzg\t( 'first ( ( '| ( 'dsimp ( ( ( ( '( config ':= ( '{ ( )null ( ( ( ( zetaDelta ( )null )T:structInstLVal ( ( )null ( )null ( ':= ( )null true )T:structInstFieldDef )null )T:structInstField )null )T:structInstFields ( ( )null )T:optEllipsis ( )null '} )T:structInst ') )t:valConfigItem )t:configItem )null )t:optConfig ( )null ( 'only )null ( '[ ( )null '] )null ( )null )t:dsimp )group ( '| ( )null )group )null )t:first\niK\t( ( 'intro ( Kq hKn hKr )null )t:intro ( 'refine ( cJ S' _ )$ )t:refine ( 'clear ( S' )null )t:clear ( 'intro ( lq Mq S' )null )t:intro )null\ncK\t( 'clear ( hKn hKr Kq )null )t:clear\npl\t<oT%; ( ( 'with_reducible ( 'apply pl_w )t:apply )t:withReducible =pl )null; <pl1%; <pl2%; <pl3%; <pl4%; <pl5%; <pl6%; <pl7%; ( =plR =pl )null\nplR\t( 'with_reducible ( 'apply plS )t:apply )t:withReducible; ( 'with_reducible ( 'apply pl_c )t:apply )t:withReducible; ( 'with_reducible ( 'apply pl_n )t:apply )t:withReducible; ( 'with_reducible ( 'apply pl_s )t:apply )t:withReducible; ( 'with_reducible ( 'apply cD )t:apply )t:withReducible; ( 'with_reducible ( 'apply aBN )t:apply )t:withReducible\nps\t<aD0%; <ps_e%; ( ( 'with_reducible ( 'apply ps_w )t:apply )t:withReducible =ps )null; ( =psR =ps )null\npsR\t( 'with_reducible ( 'apply ps_c )t:apply )t:withReducible; ( 'with_reducible ( 'apply ps_n )t:apply )t:withReducible; ( 'with_reducible ( 'apply ps_s )t:apply )t:withReducible; ( 'with_reducible ( 'apply qL )t:apply )t:withReducible; ( 'with_reducible ( 'apply aBM )t:apply )t:withReducible\npmX\t^pm_x /pl _&; ^pm_xs /ps _&\npm\t<List.Perm.refl ~%; ( ( 'with_reducible ( 'apply yC )t:apply )t:withReducible =pm )null; ( =pmX =pm )null; ( =pmR =pm )null\npmR\t<aC4 _%; <aC0 _%; <aCY _%; <aC2 _%; <aC5 _%; <aC1 _%; <aCZ _%; <aC3 _%; <oS _%; <aAv _%; ^aD2 /pl _&; ^aD1 /ps _&\nplD\t<oT%; ( 'exact oT )t:exact; ( =plDR =plD )null\nplDR\t( 'with_reducible ( 'apply plS )t:apply )t:withReducible; ( 'with_reducible ( 'apply pl_c )t:apply )t:withReducible; ( 'with_reducible ( 'apply pl_n )t:apply )t:withReducible; ( 'with_reducible ( 'apply pl_s )t:apply )t:withReducible; ( 'with_reducible ( 'apply cD )t:apply )t:withReducible; ( 'with_reducible ( 'apply aBN )t:apply )t:withReducible\npsD\t<aD0%; <ps_e%; ( 'exact aD0 )t:exact; ( =psDR =psD )null\npsDR\t( 'with_reducible ( 'apply ps_c )t:apply )t:withReducible; ( 'with_reducible ( 'apply ps_n )t:apply )t:withReducible; ( 'with_reducible ( 'apply ps_s )t:apply )t:withReducible; ( 'with_reducible ( 'apply qL )t:apply )t:withReducible; ( 'with_reducible ( 'apply aBM )t:apply )t:withReducible\npmD\t<List.Perm.refl ~%; ( =pmDR =pmD )null\npmDR\t<aC4 _%; <aC0 _%; <aCY _%; <aC2 _%; <aC5 _%; <aC1 _%; <aCZ _%; <aC3 _%; <oS _%; <aAv _%; ^aD2 /pl _&; ^aD1 /ps _&; ( 'refine ( oS _ )$ )t:refine; ( 'refine ( aAv _ )$ )t:refine; ^aD2 /plD _&; ^aD1 /psD _&\nput\t<Put.head%; <put1%; <put2%; <put3%; <put4%; <put5%; <put6%; <put7%; ( =putR =put )null\nputR\t( 'with_reducible ( 'apply putS )t:apply )t:withReducible; ( 'with_reducible ( 'apply Put.tail )t:apply )t:withReducible\nupd\t<Upd.head%; <upd1%; <upd2%; <upd3%; <upd4%; <upd5%; <upd6%; <upd7%; ( =updR =upd )null\nupdR\t( 'with_reducible ( 'apply updS )t:apply )t:withReducible; ( 'with_reducible ( 'apply Upd.tail )t:apply )t:withReducible\npull\t<Pull.head%; <pull1%; <pull2%; <pull3%; <pull4%; <pull5%; <pull6%; <pull7%; ( =pullR =pull )null\npullR\t( 'with_reducible ( 'apply pullS )t:apply )t:withReducible; ( 'with_reducible ( 'apply Pull.tail )t:apply )t:withReducible\nmid\t<Mid.head%; ( =midR =mid )null\nmidR\t( 'with_reducible ( 'apply midS )t:apply )t:withReducible; ( 'with_reducible ( 'apply Mid.tail )t:apply )t:withReducible; ( 'with_reducible ( 'apply Mid.app )t:apply )t:withReducible\nmem0\t( # ( 'exact List.mem_cons_self )t:exact @ ( 'exact ( Ao ( '( i ':= ( '0 )num ') )T:namedArgument rfl )$ )t:exact )null; ( # ( 'exact mem1 )t:exact @ ( 'exact ( Ao ( '( i ':= ( '1 )num ') )T:namedArgument rfl )$ )t:exact )null; ( # ( 'exact mem2 )t:exact @ ( 'exact ( Ao ( '( i ':= ( '2 )num ') )T:namedArgument rfl )$ )t:exact )null; ( # ( 'exact mem3 )t:exact @ ( 'exact ( Ao ( '( i ':= ( '3 )num ') )T:namedArgument rfl )$ )t:exact )null; ( # ( 'exact mem4 )t:exact @ ( 'exact ( Ao ( '( i ':= ( '4 )num ') )T:namedArgument rfl )$ )t:exact )null; ( # ( 'exact mem5 )t:exact @ ( 'exact ( Ao ( '( i ':= ( '5 )num ') )T:namedArgument rfl )$ )t:exact )null; ( # ( 'exact mem6 )t:exact @ ( 'exact ( Ao ( '( i ':= ( '6 )num ') )T:namedArgument rfl )$ )t:exact )null; ( # ( 'exact mem7 )t:exact @ ( 'exact ( Ao ( '( i ':= ( '7 )num ') )T:namedArgument rfl )$ )t:exact )null; ( # ( 'exact mem8 )t:exact @ ( 'exact ( Ao ( '( i ':= ( '8 )num ') )T:namedArgument rfl )$ )t:exact )null; ( # ( 'exact mem9 )t:exact @ ( 'exact ( Ao ( '( i ':= ( '9 )num ') )T:namedArgument rfl )$ )t:exact )null; ( # ( 'exact mem10 )t:exact @ ( 'exact ( Ao ( '( i ':= ( '10 )num ') )T:namedArgument rfl )$ )t:exact )null; ( # ( 'exact mem11 )t:exact @ ( 'exact ( Ao ( '( i ':= ( '11 )num ') )T:namedArgument rfl )$ )t:exact )null; ( # ( 'exact mem12 )t:exact @ ( 'exact ( Ao ( '( i ':= ( '12 )num ') )T:namedArgument rfl )$ )t:exact )null; ( # ( 'exact mem13 )t:exact @ ( 'exact ( Ao ( '( i ':= ( '13 )num ') )T:namedArgument rfl )$ )t:exact )null; ( # ( 'exact mem14 )t:exact @ ( 'exact ( Ao ( '( i ':= ( '14 )num ') )T:namedArgument rfl )$ )t:exact )null; ( # ( 'exact mem15 )t:exact @ ( 'exact ( Ao ( '( i ':= ( '15 )num ') )T:namedArgument rfl )$ )t:exact )null; ( # ( 'exact mem16 )t:exact @ ( 'exact ( Ao ( '( i ':= ( '16 )num ') )T:namedArgument rfl )$ )t:exact )null; ( # ( 'exact mem17 )t:exact @ ( 'exact ( Ao ( '( i ':= ( '17 )num ') )T:namedArgument rfl )$ )t:exact )null; ( # ( 'exact mem18 )t:exact @ ( 'exact ( Ao ( '( i ':= ( '18 )num ') )T:namedArgument rfl )$ )t:exact )null\nfld\t` aB0 !; ` aEi !; ` lS !; ` qS !; ` lV !; ` nF !; ` iS !; ` iT !; ` fJ !; ` iC !; ` vD !; ` qT !; ` kH !; ` lT !; ` sT !; ` sU !; ` lU !\npfld\t` aBR !; ` aD9 !; ` lO !; ` qN !; ` lR !; ` nA !; ` iP !; ` iQ !; ` fH !; ` iA !; ` uV !; ` qO !; ` kG !; ` lP !; ` sL !; ` sM !; ` lQ !\ncw\t( # ( 'show ( Ad ~ ~ ( PySem.eval ~ ~ )$ ~ ~ ~ )$ )t:show @ =weval )null; ( # ( 'show ( Ad ~ ~ ( PySem.exec ~ ~ )$ ~ ~ ~ )$ )t:show @ =wexec )null; ( # ( 'show ( Ad ~ ~ ( PySem.execs ~ ~ )$ ~ ~ ~ )$ )t:show @ =wexecs )null; ( # ( 'show ( Ad ~ ~ ( PySem.spliced ~ )$ ~ ~ ~ )$ )t:show @ =wspliced )null; ( # ( 'show ( Ad ~ ~ ( PySem.call ~ ~ )$ ~ ~ ~ )$ )t:show @ =wcall )null; ( # ( 'show ( Ad ~ ~ ( PySem.callWith ~ ~ ~ ~ ~ )$ ~ ~ ~ )$ )t:show @ =wcallWith )null; ( # ( 'show ( Ad ~ ~ ( PySem.isTrue ~ ~ ~ )$ ~ ~ ~ )$ )t:show @ =wisTrue )null; ( # ( 'show ( Ad ~ ~ ( PySem.truthy ~ )$ ~ ~ ~ )$ )t:show @ =wtruthy )null; ( # ( 'show ( Ad ~ ~ ( PySem.compareOp ~ ~ ~ )$ ~ ~ ~ )$ )t:show @ =wcompareOp )null; ( # ( 'show ( Ad ~ ~ ( PySem.binaryOp ~ ~ ~ )$ ~ ~ ~ )$ )t:show @ =wbinaryOp )null; ^Sta.store S' /put _& =ns; ^Sta.newList S' /sz _& =na; ^Sta.newTuple S' /sz _& =na; ( # ( 'show ( Mine.GetM ~ ~ ~ ~ ~ ~ ~ )$ )t:show @ =wGetM )null; <hKn ~ _% =cK; <hKr ~ ~ _% =cK; <dK _%; <aEo _%; <aEn _%; <cP _%; <evalPart_some_step _%; <evalPart_none_step _%; <joinP _%; <Sta.iadd S' _% =nt; <Sta.isub S' _% =nt; <Sta.neg S' _% =nt; ^Sta.local' S' /mem _&; ^JP.mk /len _&; ^Sta.joinEnd S' /len _& =nt; ^Sta.fmtS S' /len _& =nt; ^Sta.getF S' /asm /mem /mem VV.keys /fld /rfl _& =ns; ^Sta.setattr S' /asm /mem /upd VV.keys /pfld /dec _& =ns\nweval\t<wpAny_Constant_none _%; <wpAny_Constant_bool _%; <q_IfX _%; ^aDW S' /mem _&; <q_Bin _%; <aDT _%; <aBK _%; <aEm _%; <FormattedValue_plain _%; <q_Un _%; ^yB S' /mem _ /tt&; ^sI _ /tt /tt&; ^jF _ /kr /kr /kr&; ^aDU S' /mem _ /ff&; ^q_Cmp _ /ff&; ^gM S' /mem _&; ^aDX S' /asm /mem _&; ^aAr _ /tt&; ^oM _ /kr&; ^aDV _ /kr&; <Sta.int_ S' _% =nt; <Sta.str_ S' _% =nt; ^Sta.local_ S' /mem _&; ^Sta.cell S' /asm /mem _&; <Sta.dict0 S' _% =na\nwexec\t<wpAny_Return_some _%; <wpAny_Return_none _%; <fG _%; <wpAny_AugAssign_AttributeAny _%; <q_Aug _%; ^oQ _ /tt&; ^aAq _ /kr /tt&; ^sJ _ /tt&\nwexecs\t<AR _%; <aBI _% =iK; ^fR /rfl _& =iK; ^dD /le _&\nwspliced\t<args_nil _%; ^aBJ S' /mem _&; ^uT _ /tt&\nwcall\t<Sta.newSet S' _% =na; ^Sta.append S' /upd /sz _& =ns; ^Sta.appendT S' /upd /sz _& =ns; ^Sta.setAdd S' /upd /sz _& =ns\nwcallWith\t<kA _%; <callWith_type0 _%; ^q_bi _ /tt&; ^q_ty _ /tt&; ^q_m1 _ /tt&; ^q_K1 ( '( K ':= K ') )T:namedArgument _ /tt&; ^q_Kn ( '( K ':= K ') )T:namedArgument _ /tt&\nwisTrue\t<q_not _%; <q_and _%; <isTrue_and_nil _%; <q_or _%; <isTrue_or_nil _%; ^qK S' /mem _ /ff&; ^sH _ /ff&; ^yA S' /mem _&; ^dI _ /tt&\nwtruthy\t<wpAny_truthy_bool _%; <truthy_none _%; <PyProof.Rows.truthy_int _%; ^Sta.truthyD S' /mem /sz _& =ns; ^Sta.truthyL S' /mem /sz _& =ns; ^Sta.truthyT S' /mem /sz _& =ns\nwcompareOp\t<PyProof.Rows.eq_int _%; <PyProof.Rows.gt_int _%; <PyProof.Rows.lt_int _%; <aAO _%; <tB _%; <aAN _%; <is_nn _%; <is_sn _%; ^Sta.notInSet S' /mem /sz _& =ns\nwbinaryOp\t<Sta.add S' _% =nt; <Sta.sub_ S' _% =nt; ^Sta.addS S' /len _& =nt\nwGetM\t^Sta.getM_list S' /mem F.slot_list_append F.type_list_append _&; ^Sta.getM_list S' /mem F.slot_list_pop F.type_list_pop _&; ^Sta.getM_list S' /mem F.slot_list_insert F.type_list_insert _&; ^Sta.getM_txts S' /mem F.slot_list_append F.type_list_append _&; ^Sta.getM_add S' /mem /sz _&; ^Sta.getM_val S' /asm /mem /mem VV.keys /fld /rfl _& =ns\nev\t=cw\nc\t( 'repeat ( ( ( =cw )null )t:tacticSeq1Indented )t:tacticSeq )t:tacticRepeat_\n"
def tabD:String:="\nnd\t( ( 'clear ( S' )null )t:clear ( 'intro ( d' s' S' )null )t:intro )null\ncw\t( # ( 'show ( Ad ~ ~ ( PySem.eval ~ ~ )$ ~ ~ ~ )$ )t:show @ =deval )null; ^q_Wm /ik _ /tt&; ( # ( 'show ( Ad ~ ~ ( PySem.binaryOp ~ ~ ~ )$ ~ ~ ~ )$ )t:show @ =dbinaryOp )null; ( # ( 'show ( Mine.GetM ~ ~ ~ ~ ~ ~ ~ )$ )t:show @ =dGetM )null; ( 'with_reducible ( 'refine ( And.intro ( Sta.kin S' )$ _ )$ )t:refine )t:withReducible; <uU _%; <yE _%\ndeval\t<Sta.dictD0 S' _% =na; ^Sta.dictLit /rfl /rfl /simp /le S' _& =nd\ndbinaryOp\t^Sta.mod S' /dec _& =nt; ^Sta.fdiv S' /dec /dec _& =nt\ndGetM\t^Sta.getM_inst ( '( name ':= ( '\"end\" )str ') )T:namedArgument ( '( f ':= ( '133 )num ') )T:namedArgument S' /asm /mem /mem VV.keys /deck /ik /ik _&; ^Sta.getM_inst ( '( name ':= ( '\"pi\" )str ') )T:namedArgument ( '( f ':= ( '147 )num ') )T:namedArgument S' /asm /mem /mem VV.keys /deck /ik /ik _&; ^Sta.getM_inst ( '( name ':= ( '\"comment\" )str ') )T:namedArgument ( '( f ':= ( '140 )num ') )T:namedArgument S' /asm /mem /mem VV.keys /deck /ik /ik _&; ^Sta.getM_inst ( '( name ':= ( '\"data\" )str ') )T:namedArgument ( '( f ':= ( '97 )num ') )T:namedArgument S' /asm /mem /mem VV.keys /deck /ik /ik _&; ^Sta.getM_inst ( '( name ':= ( '\"start\" )str ') )T:namedArgument ( '( f ':= ( '120 )num ') )T:namedArgument S' /asm /mem /mem VV.keys /deck /ik /ik _&\n"
def tabF:String:="\ncw\t<assignInOrder_cons _%; <assignInOrder_nil _%; ( ( 'with_reducible ( 'show ( Ad ~ ~ ( assign ~ ~ ~ )$ ~ ~ ~ )$ )t:show )t:withReducible ( 'with_reducible ( 'refine ( assign_Name _ )$ )t:refine )t:withReducible )null; ^q_W1 /ik _ /tt&; ^Assign_Tuple _ /kr /kr&; ^Sta.getM_txts S' /mem F.slot_list_pop F.type_list_pop _&; ^Sta.unpackT S' /hnd /mem /kr /kr _& =ns; ( ( 'fail_if_success ( 'with_reducible ( 'show ( Ad ~ ~ ( eval ( PySem.Expr.Subscript ~ ( PySem.Expr.Slice ~ ~ ~ ~ )$ ~ )$ ~ )$ ~ ~ ~ )$ )t:show )t:withReducible )t:failIfSuccess ( 'with_reducible ( 'refine' ( cI _ ( '? ht )T:syntheticHole )$ )t:refine' )t:withReducible ( 'case ( ( ( ht )Lean.binderIdent ( )null )t:caseArg )null '=> ( ( ( ( 'intro ( ~ ~ )null )t:intro ', ( 'kernel_rfl )tacticKernel_rfl )null )t:tacticSeq1Indented )t:tacticSeq )t:case )null\n"
def tabG:String:="\ncw\t^Sta.txtList S' /rfl /sz _& =na; ^Sta.txtTup S' /rfl /sz _& =na\n"
end Mine
end
set_option maxHeartbeats 8000000
local macro_rules | `(tactic| walk_at $s:str) => Mine.goAt Mine.tab0 s
local macro_rules | `(tactic| obtain ⟨$ps,*⟩ := $e:term) => Mine.obTac ps.elemsAndSeps e
namespace Mine
noncomputable abbrev Cell:=Obj->Prop
noncomputable abbrev Lg:=List (Addr×Cell)
noncomputable abbrev Loc:=List (Str×Option Value)
structure Led (B:Heap) (nw:Lg) (h:Heap):Prop where
 keep:∀ b o,B.get? b=some o->h.get? b=some o
 own:∀ p∈nw,B.get? p.1=none/\∃ o,h.get? p.1=some o/\p.2 o
 nodup:(nw.map Prod.fst).Nodup
noncomputable def lk(loc:Loc)(x:Str):Option Value:=(loc.lookup x).join
noncomputable def aL(loc:Loc):Cell:=λ o=>(loc.map Prod.fst).Nodup/\∃ es ep,o.data=.dict es ep/\StrKeys es/\∀ name,nsFind es name=lk loc name
noncomputable def aA(xs:List Value):Cell:=λ o=>∃ n,o={ cls:=.type "list",data:=.seq xs.toArray n }
noncomputable def aJ(xs:List Value):Cell:=λ o=>∃ n,o={ cls:=.type "tuple",data:=.seq xs.toArray n }
noncomputable def bU(o₀:Obj):Cell:=λ o=>o=o₀
inductive Upd (a:Addr) (c c':Cell):Lg->Lg->Prop
 | head {r}:Upd a c c' ((a,c)::r) ((a,c')::r)
 | tail {p r r'}:Upd a c c' r r'->Upd a c c' (p::r) (p::r')
inductive Put (x:Str) (v:Option Value):Loc->Loc->Prop
 | head {u r}:Put x v ((x,u)::r) ((x,v)::r)
 | tail {p r r'}:Put x v r r'->Put x v (p::r) (p::r')
theorem Upd.keys{a c c' l l'}(h:Upd a c c' l l'):l'.map Prod.fst=l.map Prod.fst:=by
 induction h with
 | head=>rfl
 | tail h ih=>rw [An,An,ih]
theorem Upd.mem{a c c' l l'}(h:Upd a c c' l l'):(a,c)∈l:=by
 induction h with
 | head=>exact .head _
 | tail h ih=>exact .tail _ ih
theorem Upd.from{a c c' l l'}(h:Upd a c c' l l'):(l.map Prod.fst).Nodup->∀ p∈l',p=(a,c')\/(p∈l/\p.1≠a):=by
 induction h with
 | head=>
  intro nd p hp;rw[An,AP]at nd;rcases Ax.mp hp with rfl | hp
  ·exact .inl rfl
  ·exact .inr ⟨.tail _ hp,λ e=>nd.1 (Aj.mpr ⟨p,hp,e⟩)⟩
 | tail h ih=>
  intro nd p hp;rw[An,AP]at nd;rcases Ax.mp hp with rfl | hp
  ·exact .inr ⟨.head _,λ e=>nd.1 (by rw[e];exact List.mem_map_of_mem h.mem)⟩
  ·rcases ih nd.2 p hp with e | ⟨m,n⟩
   ·exact .inl e
   ·exact .inr ⟨.tail _ m,n⟩
namespace Led
variable {B h h':Heap}{nw nw':Lg}{a:Addr}{c c':Cell}
theorem get(D:Led B nw h)(m:(a,c)∈nw):∃ o,h.get? a=some o/\c o:=(D.own _ m).2
theorem size_ne(D:Led B nw h):h.objs.size∉nw.map Prod.fst:=λ m=>by
 obtain⟨p,hp,e⟩:=Aj.mp m;obtain⟨o,ho,_⟩:=(D.own p hp).2;exact absurd (Heap.lt_size ho) (by rw[e];exact BG _)
theorem size_new(D:Led B nw h):B.get? h.objs.size=none:=by
 cases q:B.get? h.objs.size with
 | none=>rfl
 | some o=>exact absurd (Heap.lt_size (D.keep _ _ q)) (BG _)
theorem grow(D:Led B nw h)(k:∀ b o,h.get? b=some o->h'.get? b=some o):Led B nw h':=
 ⟨λ b o e=>k _ _ (D.keep b o e),λ p hp=>let⟨x,o,ho,hc⟩:=D.own p hp;⟨x,o,k _ _ ho,hc⟩,D.nodup⟩
theorem sub(D:Led B nw h)(s:List.Sublist nw' nw):Led B nw' h:=
 ⟨D.keep,λ p hp=>D.own p (s.subset hp),D.nodup.sublist (s.map _)⟩
theorem perm(D:Led B nw h)(s:List.Perm nw nw'):Led B nw' h:=
 ⟨D.keep,λ p hp=>D.own p (s.mem_iff.mpr hp),(s.map Prod.fst).nodup_iff.mp D.nodup⟩
theorem tail{p:Addr×Cell}(D:Led B (p::nw) h):Led B nw h:=D.sub (AZ _ _)
theorem cons_new(D:Led B nw h){o:Obj}(k:∀ b o',h.get? b=some o'->h'.get? b=some o')(hs:a∉nw.map Prod.fst)(hB:B.get? a=none)(ho:h'.get? a=some o)(hc:c o):Led B ((a,c)::nw) h':=by
 have G:=D.grow k;refine⟨G.keep,λ p hp=>?_,?_⟩
 ·rcases Ax.mp hp with rfl | hp
  ·exact⟨hB,o,ho,hc⟩
  ·exact G.own p hp
 ·rw[An,AP];exact⟨hs,D.nodup⟩
theorem new(D:Led B nw h){o:Obj}(hf:o.isFreed=false)(hc:c o):Led B ((h.objs.size,c)::nw) (h.push o):=
 D.cons_new (λ _ _ e=>Heap.get?_push_of_some _ e) D.size_ne D.size_new (Heap.get?_push_size _ hf) hc
theorem set(D:Led B nw h)(U:Upd a c c' nw nw')(hs:∀ b o,b≠a->h.get? b=some o->h'.get? b=some o){o:Obj}(ho:h'.get? a=some o)(hc:c' o):Led B nw' h':=by
 have hB:=(D.own _ U.mem).1;refine⟨λ b o' e=>hs b o' (λ q=>by rw[q,hB]at e;cases e) (D.keep b o' e),λ p hp=>?_,by rw[U.keys];exact D.nodup⟩;rcases U.from D.nodup p hp with rfl | ⟨m,n⟩
 ·exact⟨hB,o,ho,hc⟩
 ·obtain⟨x,q0⟩:=D.own p m;obtain⟨o',ho',hc'⟩:=q0;exact⟨x,o',hs _ _ n ho',hc'⟩
theorem ne{b:Addr}{o:Obj}(D:Led B nw h)(m:(a,c)∈nw)(e:B.get? b=some o):a≠b:=λ q=>by
 have:=(D.own _ m).1;rw[q,e]at this;cases this
end Led
theorem Put.keys{x:Str}{v:Option Value}{l l':Loc}(h:Put x v l l'):l'.map Prod.fst=l.map Prod.fst:=by
 induction h with
 | head=>rfl
 | tail h ih=>rw [An,An,ih]
theorem Put.mem{x:Str}{v:Option Value}{l l':Loc}(h:Put x v l l'):x∈l.map Prod.fst:=by
 induction h with
 | head=>exact .head _
 | tail h ih=>exact .tail _ ih
theorem Put.look{x:Str}{v:Option Value}{l l':Loc}(h:Put x v l l'):(l.map Prod.fst).Nodup->∀ y,lk l' y=if y=x then v else lk l y:=by
 induction h with
 | head=>
  intro _ y;unfold lk;rw[Bb,Bb]
  by_cases h:y=x
  ·subst h;simp
  ·rw[beq_eq_false_iff_ne.mpr h,if_neg h]
 | @tail p r r' h ih=>
  intro nd y;rw[An,AP]at nd;have ih:=ih nd.2 y;unfold lk at ih ⊢;rw[Bb,Bb]
  by_cases q:y=p.1
  ·have hx:¬y=x:=λ e=>nd.1 (by rw[←q,e];exact h.mem);rw[if_neg hx,beq_iff_eq.mpr q]
  ·rw[beq_eq_false_iff_ne.mpr q];exact ih
theorem hE{x:Str}{v:Option Value}:∀{l:Loc},(l.map Prod.fst).Nodup->(x,v)∈l->lk l x=v
 | p::l,nd,m=>by
  rw[An,AP]at nd;unfold lk;rw[Bb];rcases Ax.mp m with rfl | m
  ·simp
  ·have:x≠p.1:=λ e=>nd.1 (by rw[←e];exact Aj.mpr ⟨_,m,rfl⟩);rw[beq_eq_false_iff_ne.mpr this];exact hE nd.2 m
structure Wd where
 prog:Program
 w:World
 K:Frag
 B:Heap
 os:OsState
noncomputable abbrev Wd.M(W:Wd):=model W.prog W.w
structure Wd.Ok (W:Wd):Prop where
 kin:W.K.In W.B
 top:∃ loose mean mg mb,Top topProg loose mean mg mb W.B
theorem Wd.Ok.g{W:Wd}(O:W.Ok):∃ mg,W.B.Ns AS mg:=let⟨_,_,_,_,T⟩:=O.top;⟨_,T.g⟩
theorem Wd.Ok.b{W:Wd}(O:W.Ok):∃ mb,W.B.Ns builtinsNs mb/\∀ x:Str,x≠"__name__"->mb x=bootBuiltins x:=let⟨_,_,_,_,T⟩:=O.top;⟨_,T.b,T.builtins⟩
theorem Wd.Ok.nolimit{W:Wd}(O:W.Ok):W.B.NoLimit:=let⟨_,_,_,_,T⟩:=O.top;T.nolimit
theorem Wd.Ok.bm{W:Wd}(O:W.Ok):∃ mg bm ob,W.B.Ns AS mg/\mg "__builtins__"=some (.ref bm)/\bm≠builtinsNs/\bm≠AS/\W.B.get? bm=some ob/\ob.cls=.type "module"/\ob.dict=some builtinsNs/\ob.data=.plain:=by
 obtain⟨_,_,mg,_,T⟩:=O.top;obtain⟨bm,ob,h1,h2,h3,h4,h5,h6⟩:=T.bmain;refine⟨mg,bm,ob,T.g,h1,h2,λ q=>?_,h3,h4,h5,h6⟩;obtain⟨o,es,ep,e,hd,_⟩:=T.g;rw[q,e]at h3;cases h3;rw[hd]at h6;cases h6
structure EvO (env:Env) (ks:List Str):Prop where
 fn:env.scope.kind=.function
 glob:env.globals=AS
 bi:env.builtins=builtinsNs
 kinds:∀ x∈ks,env.kindOf x=some .local
 nodebug:∀ x∈ks,(x==("__debug__":Str))=false
 nodup:ks.Nodup
noncomputable abbrev Gens:=List (Nat×GenState)
structure Sta (W:Wd) (G:Gens) (env:Env) (loc:Loc) (nw:Lg) (s:Ac):Prop where
 ok:W.Ok
 eok:EvO env (loc.map Prod.fst)
 led:Led W.B ((env.locals,aL loc)::nw) s.heap
 bare:AllBare s.gens
 os:s.os=W.os
 gens:∀ p∈G,s.gens[p.1]?=some p.2
 gnd:(G.map Prod.fst).Nodup
namespace Sta
variable {W:Wd}{G:Gens}{env:Env}{loc loc':Loc}{nw nw':Lg}{s:Ac}{A:AL}{E:Value->Ac->Prop}
theorem kin(S:Sta W G env loc nw s):W.K.In s.heap:=S.ok.kin.keeps S.led.keep
theorem nolimit(S:Sta W G env loc nw s):s.heap.NoLimit:=S.ok.nolimit.keeps S.led.keep
theorem toks(S:Sta W G env loc nw s)(t:Nat):Sta W G env loc nw { s with toks:=t }:=⟨S.ok,S.eok,S.led,S.bare,S.os,S.gens,S.gnd⟩
theorem ns(S:Sta W G env loc nw s):s.heap.Ns env.locals (lk loc):=by
 obtain⟨o,ho,_,q0⟩:=S.led.get (.head _);obtain⟨es,ep,hd,hk,hf⟩:=q0;exact⟨o,es,ep,ho,hd,hk,hf⟩
theorem get{a:Addr}{c:Cell}(S:Sta W G env loc nw s)(m:(a,c)∈nw):∃ o,s.heap.get? a=some o/\c o:=S.led.get (.tail _ m)
theorem grow(S:Sta W G env loc nw s){h':Heap}(k:∀ b o,s.heap.get? b=some o->h'.get? b=some o)(t:Nat):Sta W G env loc nw { s with heap:=h',toks:=t }:=
 ⟨S.ok,S.eok,S.led.grow k,S.bare,S.os,S.gens,S.gnd⟩
theorem new(S:Sta W G env loc nw s){o:Obj}{c:Cell}(hf:o.isFreed=false)(hc:c o)(t:Nat):Sta W G env loc ((s.heap.objs.size,c)::nw) { s with heap:=s.heap.push o,toks:=t }:=
 ⟨S.ok,S.eok,(S.led.new hf hc).perm (List.Perm.swap ..),S.bare,S.os,S.gens,S.gnd⟩
theorem set(S:Sta W G env loc nw s){a:Addr}{c c':Cell}{o:Obj}{h':Heap}(U:Upd a c c' nw nw')(hs:∀ b o,b≠a->s.heap.get? b=some o->h'.get? b=some o)(ho:h'.get? a=some o)(hc:c' o)(t:Nat):Sta W G env loc nw' { s with heap:=h',toks:=t }:=
 ⟨S.ok,S.eok,S.led.set (.tail U) hs ho hc,S.bare,S.os,S.gens,S.gnd⟩
theorem sub(S:Sta W G env loc nw s)(h:List.Sublist nw' nw):Sta W G env loc nw' s:=⟨S.ok,S.eok,S.led.sub (h.cons_cons _),S.bare,S.os,S.gens,S.gnd⟩
theorem perm(S:Sta W G env loc nw s)(h:List.Perm nw nw'):Sta W G env loc nw' s:=⟨S.ok,S.eok,S.led.perm (h.cons _),S.bare,S.os,S.gens,S.gnd⟩
theorem put(S:Sta W G env loc nw s){x:Str}{v:Option Value}{h':Heap}(P:Put x v loc loc')(hn:h'.Ns env.locals (λ y=>if y=x then v else lk loc y))(hs:Heap.SameBut env.locals s.heap h')(t:Nat):Sta W G env loc' nw { s with heap:=h',toks:=t }:=by
 obtain⟨o,es,ep,ho,hd,hk,hf⟩:=hn;have nd:(loc.map Prod.fst).Nodup:=S.eok.nodup;refine⟨S.ok,by rw[P.keys];exact S.eok,S.led.set (.head) (λ b o hb e=>(hs.2 b hb).trans e) ho ⟨by rw[P.keys];exact nd,es,ep,hd,hk,λ y=>?_⟩,S.bare,S.os,S.gens,S.gnd⟩;rw[hf y,P.look nd]
theorem local_{x:Str}{pos:Pos}{v:Value}{Q:Value->Ac->Prop}{M:Model}(S:Sta W G env loc nw s)(hv:(x,some v)∈loc)(h:Q v s):Ad M A (eval (.Name x pos) env) Q E s:=
 have hx:x∈loc.map Prod.fst:=Aj.mpr ⟨_,hv,rfl⟩
 wpAny_Name (wpAny_loadName_local S.eok.fn (S.eok.kinds _ hx) S.ns (hE S.eok.nodup hv) h) (S.eok.nodebug _ hx)
theorem local'{x:Str}{v:Value}{Q:Value->Ac->Prop}{M:Model}(S:Sta W G env loc nw s)(hv:(x,some v)∈loc)(h:Q v s):Ad M A (loadName env x) Q E s:=
 have hx:x∈loc.map Prod.fst:=Aj.mpr ⟨_,hv,rfl⟩
 wpAny_loadName_local S.eok.fn (S.eok.kinds _ hx) S.ns (hE S.eok.nodup hv) h
theorem store{x:Str}{v:Value}{Q:Unit->Ac->Prop}{M:Model}(S:Sta W G env loc nw s)(hp:Put x (some v) loc loc')(h:∀ s',Sta W G env loc' nw s'->Q () s'):Ad M A (storeName env x v) Q E s:=by
 refine wpAny_storeName_local (S.eok.kinds _ hp.mem) S.ns (λ h' hn hs=>h _ (S.put hp hn hs _)) ?_;rw[S.eok.fn];rfl
theorem global{x:Str}{pos:Pos}{v:Value}{Q:Value->Ac->Prop}{M:Model}(S:Sta W G env loc nw s)(e:nsIn W.K AS x=some (some v))(hx:env.kindOf x=some .globalImplicit)(h:Q v s)(hd:(x==("__debug__":Str))=false:=by decide +kernel):Ad M A (eval (.Name x pos) env) Q E s:=by
 obtain⟨mg,hg⟩:=S.ok.g;exact Calls.Name_function_global S.eok.fn hx (Calls.loadGlobal_global (by rw[S.eok.glob];exact hg.keeps S.led.keep) (mg_of S.ok.kin hg e) h) hd
theorem builtin{x:Str}{pos:Pos}{v:Value}{Q:Value->Ac->Prop}{M:Model}(S:Sta W G env loc nw s)(e:nsIn W.K AS x=some none)(hv:bootBuiltins x=some v)(hx:env.kindOf x=some .globalImplicit)(h:Q v s)(hn:x≠"__name__":=by decide +kernel)(hd:(x==("__debug__":Str))=false:=by decide +kernel):Ad M A (eval (.Name x pos) env) Q E s:=by
 obtain⟨mg,hg⟩:=S.ok.g;obtain⟨mb,hb,hbb⟩:=S.ok.b;exact Calls.Name_function_global S.eok.fn hx (Calls.loadGlobal_builtin (by rw[S.eok.glob];exact hg.keeps S.led.keep) (mg_none_of S.ok.kin hg e) (by rw[S.eok.bi];exact hb.keeps S.led.keep) ((hbb x hn).trans hv) h) hd
end Sta
end Mine
section
variable {W:Mine.Wd}{G:Mine.Gens}{env:Env}{loc loc':Mine.Loc}{nw nw':Mine.Lg}{s:Ac}{A:AL}{E:Value->Ac->Prop}
namespace Mine
theorem mT(xs:List Value)(a:Nat):(slicePick xs.toArray (some (a:Int)) none none).toList=xs.drop a:=by
 rw[slicePick_from']
theorem uN(xs:List Value)(b:Nat):(slicePick xs.toArray none (some (b:Int)) none).toList=xs.take b:=by
 rw[slicePick_upto']
theorem xW(xs:List Value)(a b:Nat)(hb:b<=xs.length)(hab:a<=b):(slicePick xs.toArray (some (a:Int)) (some (b:Int)) none).toList=(xs.take b).drop a:=by
 rw[slicePick_run _ _ _ (by simpa using hb) hab];simp only[List.drop_take]
theorem Sta.isList{a:Addr}{xs:List Value}(S:Sta W G env loc nw s)(m:(a,aA xs)∈nw):s.heap.IsList a xs.toArray:=by
 obtain⟨o,q0⟩:=S.get m;obtain⟨ho,n,rfl⟩:=q0;exact⟨_,ho,rfl,n,rfl⟩
theorem Sta.isL{a:Addr}{xs:List Value}(S:Sta W G env loc nw s)(m:(a,aA xs)∈nw):∃ n,IsL s.heap a xs.toArray n:=by
 obtain⟨o,q0⟩:=S.get m;obtain⟨ho,n,rfl⟩:=q0;exact⟨n,ho⟩
theorem Sta.int_{i:Int}{k:Nat}{pos:Pos}{Q:Value->Ac->Prop}{M:Model}(S:Sta W G env loc nw s)(h:∀ t s',Sta W G env loc nw s'->Q (.int i t) s'):Ad M A (eval (.Constant (.int i) k pos) env) Q E s:=
 wpAny_Constant_int (h _ _ (S.toks _))
theorem Sta.str_{x:Str}{k:Nat}{pos:Pos}{Q:Value->Ac->Prop}{M:Model}(S:Sta W G env loc nw s)(h:∀ t s',Sta W G env loc nw s'->Q (.str x t) s'):Ad M A (eval (.Constant (.str x) k pos) env) Q E s:=
 wpAny_Constant_str (h _ _ (S.toks _))
theorem Sta.add{a b:Int}{t u:Tok}{Q:Value->Ac->Prop}(S:Sta W G env loc nw s)(h:∀ t s',Sta W G env loc nw s'->Q (.int (a+b) t) s'):Ad W.M A (binaryOp .Add (.int a t) (.int b u)) Q E s:=
 PyProof.Rows.add_int (h _ _ (S.toks _))
theorem Sta.sub_{a b:Int}{t u:Tok}{Q:Value->Ac->Prop}(S:Sta W G env loc nw s)(h:∀ t s',Sta W G env loc nw s'->Q (.int (a-b) t) s'):Ad W.M A (binaryOp .Sub (.int a t) (.int b u)) Q E s:=
 PyProof.Rows.sub_int (h _ _ (S.toks _))
theorem Sta.mod{a b:Int}{t u:Tok}{Q:Value->Ac->Prop}(S:Sta W G env loc nw s)(hb:b≠0)(h:∀ t s',Sta W G env loc nw s'->Q (.int (a.fmod b) t) s'):Ad W.M A (binaryOp .Mod (.int a t) (.int b u)) Q E s:=
 PyProof.Rows.mod_int hb (h _ _ (S.toks _))
noncomputable def wC(W:Wd)(env:Env)(Q:Value->Ac->Prop)(o vl vu:Value)(s:Ac):Prop:=
 ∃ G loc nw l xs lo hi,Sta W G env loc nw s/\o=.ref l/\(l,aA xs)∈nw/\xs.length<=AC/\IsPart vl lo/\IsPart vu hi∧
  ∀ a s',Sta W G env loc ((a,aA (slicePick xs.toArray lo hi none).toList)::nw) s'->Q (.ref a) s'
theorem Sta.sum{a:Addr}{xs:List Value}{ns:List Int}{Q:Value->Ac->Prop}(S:Sta W G env loc nw s)(hh:A.handled=none)(m:(a,aA xs)∈nw)(hi:IntsAre xs ns)(h:∀ t s',Sta W G env loc nw s'->Q (.int ns.sum t) s'):Ad W.M A (call (.builtin "sum") [.ref a]) Q E s:=by
 obtain⟨xs',e⟩:=hi.allInts.items;have hl:=S.isList m;rw[e]at hl;refine sum_intListG hh hl λ h' tk t' hk=>?_;have q:=h t' _ (S.grow hk tk);rw[preSum_eq,List.take_of_length_le (by simp)];have e2:(xs'.toList.map (·.1))=ns:=by
  have:=hi.numsOf;rw[show xs=xs.toArray.toList from rfl,e,nums_intItems]at this;simpa using this
 first | (rw[e2];exact q) | (simpa[e2]using q)
noncomputable def dF(p:Program)(i:Nat):Stmt:=p.main.body.getD i (.Pass default)
noncomputable def cZ(st:Stmt)(j:Nat):Stmt:=match st with
 | .ClassDef _ _ _ body _ _ _ _ _ _ _=>body.getD j (.Pass default)
 | st=>st
noncomputable def dY:Stmt->Arguments
 | .FunctionDef _ a _ _ _ _ _ _ _ _=>a
 | _=>default
noncomputable def qD:Stmt->List Stmt×List Stmt×Expr
 | .FunctionDef _ _ b _ _ _ _ _ _ _=>(b,[],.Name "" default)
 | .For t _ b _ _=>(b,[],t)
 | .If t b o _=>(b,o,t)
 | .While t b _ _=>(b,[],t)
 | .Expr e _=>([],[],e)
 | _=>([],[],.Name "" default)
noncomputable def aE(st:Stmt):List Stmt:=(qD st).1
noncomputable def aAS(st:Stmt):List Stmt:=(qD st).2.1
noncomputable def stE(st:Stmt):Expr:=(qD st).2.2
noncomputable def aD:Stmt->Scope
 | .FunctionDef _ _ _ _ _ _ sc _ _ _=>sc
 | _=>default
noncomputable def aW(binds:List (Str×Value))(rest:List Str):Loc:=binds.map (λ p=>(p.1,some p.2))++rest.map (λ k=>(k,none))
theorem jR:∀(rest:List Str) (x:Str),lk (rest.map λ k=>(k,none)) x=none:=by
 intro l0
 induction l0 with
 | nil=>
  intro _;exact rfl
 | cons k r ih=>
  intro x;unfold lk;rw[An,Bb];cases x==k with
  | true=>rfl
  | false=>exact ih x
theorem fS:∀(binds:List (Str×Value)) (rest:List Str),(binds.map Prod.fst).Nodup->∀ x,lk (aW binds rest) x=binds.reverse.lookup x:=by
 intro l0
 induction l0 with
 | nil=>
  intro rest _ x;exact jR rest x
 | cons p0 r ih=>
  obtain⟨k,v⟩:=p0;intro rest nd x;rw[An,AP]at nd;have ih:=ih rest nd.2 x;have key:(r.reverse++[(k,v)]).lookup x=(r.reverse.lookup x).or (if x==k then some v else none):=by
   rw[List.lookup_append]
   congr 1
   rw[Bb];cases x==k<;>rfl
  rw[List.reverse_cons,key];unfold lk aW at ih ⊢;rw[An,Av,Bb]
  by_cases h:x=k
  ·subst h;have:r.reverse.lookup x=none:=by
    rw[Bn];intro p hp;rw[bne_iff_ne];exact λ e=>nd.1 (Aj.mpr ⟨p,List.mem_reverse.mp hp,e.symm⟩)
   rw[this];simp
  ·rw[beq_eq_false_iff_ne.mpr h];rw[if_neg Bool.false_ne_true,Option.or_none];exact ih
noncomputable def eB(sc:Scope)(ks:List Str):Bool:=sc.kind==.function&&!sc.isCoroutine&&!sc.isGenerator&&(sc.names.all λ x=>x.2 != .cell)&&(ks.all λ x=>sc.names.lookup x==some .local&&!(x==("__debug__":Str)))&&decide ks.Nodup
theorem gQ{sc:Scope}{ks:List Str}(hk:eB sc ks=true){P:Prop}(k:sc.kind=.function->sc.isCoroutine=false->sc.isGenerator=false->(∀ x∈sc.names,x.2≠.cell)->(∀ x∈ks,sc.names.lookup x=some .local/\(x==("__debug__":Str))=false)->ks.Nodup->P):P:=by
 simp only[eB,AI,beq_iff_eq,Bs,Bq,bne_iff_ne,decide_eq_true_eq]at hk;exact k hk.1.1.1.1.1 hk.1.1.1.1.2 hk.1.1.1.2 hk.1.1.2 hk.1.2 hk.2
theorem Sta.code_def{R:Result->Ac->Prop}{f:Addr}{name qual:Str}{st:Stmt}{dV kV doc pm cdv ct oc:Value}{an od:Option Addr}{osl:Array (Option Value)}{args:Args}{binds:List (Str×Value)}(rest:List Str)(S:Sta W G env loc nw s)(hroom:A.depth<Bj)(ho:W.K.lookup f=some ⟨oc,od,.func (fnOf name qual (dY st) (aE st) (aD st) dV kV doc pm an cdv ct),osl⟩)(hcd:codeIn W.K cdv qual=true)(hbind:BindsTo s (fnOf name qual (dY st) (aE st) (aD st) dV kV doc pm an cdv ct) args binds)(hk:eB (aD st) (binds.map Prod.fst++rest)=true)(h:∀ L s',Sta W G (envOf qual (aD st) L f cdv) (aW binds rest) ((env.locals,aL loc)::nw) s'->
   Ad W.M (A.deeper (envOf qual (aD st) L f cdv)) (execs (aE st) (envOf qual (aD st) L f cdv)) (λ fl s''=>R (.ok (.ret (match fl with | .ret v=>v | _=>.none))) s'') (λ _ _=>False) s'):codeAny W.M A (.call (.ref f) args) R s:=by
 refine gQ hk ?_;clear hk;intro hkind hco hgen hcell hks hnd;have hks2:((aW binds rest).map Prod.fst)=binds.map Prod.fst++rest:=by
  simp[aW,AW,Function.comp_def]
 refine(codeAny_call_def (fd:=fnOf name qual (dY st) (aE st) (aD st) dV kV doc pm an cdv ct) (body:=aE st) (binds:=binds) hroom (S.kin _ _ ho) rfl S.nolimit (codeRec_of S.kin hcd) rfl hbind hcell
  (λ x hx=>(hks x.1 (Ak _ (Aj.mpr ⟨x,hx,rfl⟩))).1) (λ h₁ hns hkp=>?_) hco hgen hkind)
 have D:Led W.B ((s.heap.objs.size,aL (aW binds rest))::(env.locals,aL loc)::nw) h₁:=by
  obtain⟨o,es,ep,ho',hd,hsk,hf⟩:=hns;refine S.led.cons_new hkp S.led.size_ne S.led.size_new ho' ⟨by rw[hks2];exact hnd,es,ep,hd,hsk,λ x=>?_⟩;rw[hf x,fS _ _ (hnd.sublist (A7 _ _))]
 have S':Sta W G (envOf qual (aD st) s.heap.objs.size f cdv) (aW binds rest) ((env.locals,aL loc)::nw) { s with heap:=h₁,toks:=s.toks+binds.length }:=
  ⟨S.ok,by rw[hks2];exact⟨hkind,rfl,rfl,λ x hx=>(hks x hx).1,λ x hx=>(hks x hx).2,hnd⟩,D,S.bare,S.os,S.gens,S.gnd⟩
 exact As (h _ _ S') (λ fl s'' q=>q) (λ _ _ q=>q.elim)
theorem Sta.call_def{Q:Value->Ac->Prop}{f:Addr}{name qual:Str}{st:Stmt}{dV kV doc pm cdv ct oc:Value}{an od:Option Addr}{osl:Array (Option Value)}{args:Args}{binds:List (Str×Value)}(rest:List Str)(S:Sta W G env loc nw s)(hroom:A.depth<Bj)(ho:W.K.lookup f=some ⟨oc,od,.func (fnOf name qual (dY st) (aE st) (aD st) dV kV doc pm an cdv ct),osl⟩)(hcd:codeIn W.K cdv qual=true)(hbind:BindsTo s (fnOf name qual (dY st) (aE st) (aD st) dV kV doc pm an cdv ct) args binds)(hk:eB (aD st) (binds.map Prod.fst++rest)=true)(h:∀ L s',Sta W G (envOf qual (aD st) L f cdv) (aW binds rest) ((env.locals,aL loc)::nw) s'->
   Ad W.M (A.deeper (envOf qual (aD st) L f cdv)) (execs (aE st) (envOf qual (aD st) L f cdv)) (λ fl s''=>Q (match fl with | .ret v=>v | _=>.none) s'') (λ _ _=>False) s'):Ad W.M A (call (.ref f) args.pos args.kw) Q E s:=wpAny_call (S.code_def rest hroom ho hcd hbind hk h)
theorem Sta.back{env':Env}(S:Sta W G env' loc' ((env.locals,aL loc)::nw) s)(S₀:EvO env (loc.map Prod.fst)):Sta W G env loc nw s:=
 ⟨S.ok,S₀,S.led.tail,S.bare,S.os,S.gens,S.gnd⟩
noncomputable def GetM(M:Model)(A:AL)(E:Value->Ac->Prop)(name:Str)(ov:Value)(Q:Value×List Value->Ac->Prop)(s:Ac):Prop:=∀ pl,Ad M A (getMethod ov name pl) Q E s
section
variable {M:Model}{env:Env}{s:Ac}{A:AL}{E:Value->Ac->Prop}
theorem jF{o:Expr}{name:Str}{apos pos:Pos}{args:List Expr}{kws:List Keyword}{Q:Value->Ac->Prop}(h:Ad M A (eval o env) (λ ov s₁=>GetM M A E name ov (λ p s₂=>Ad M A (callWith pos p.1 p.2 (backTo pos (Ap args env)) (backToKw pos (keywordEach kws env))) Q E s₂) s₁) E s)(hbase:attributeBase o name env (eval o env)=eval o env)(hform:methodCallForm (args.length+kws.length) (backTo pos (Ap args env)) (backToKw pos (keywordEach kws env))=true)(hline:(apos.endLine==pos.line)=true):Ad M A (eval (.Call (.Attribute o name apos) args kws pos) env) Q E s:=by
 rw[arm_eval_Call,hbase];refine Aa (As h (λ ov s₁ h₁=>Aa (AQ ?_)) λ _ _ e=>e);have hpos:methodCallPos true o env apos pos=pure pos:=by unfold methodCallPos;simp[hline]
 unfold methodCall;rw[hform];exact Aa (AB (As (h₁ _) (λ p s₂ h₂=>Aa (Bw hpos h₂)) λ _ _ e=>e))
theorem cT{name:Str}{ov:Value}{Q:Value×List Value->Ac->Prop}{T id:String}(pa:PlainAttrs T)(slot:Slot T name id)(hty:typeOf (.builtin id)=pure (.type "method_descriptor"))(hT:s.TypeIs ov T)(hd:∀ a,ov=.ref a->∃ o,s.heap.get? a=some o/\o.dict=none)(h:Q (.builtin id,[ov]) s):GetM M A E name ov Q s:=λ _=>getMethod_builtin hT pa slot hty hd h
theorem gR{name:Str}{x:Str}{t:Tok}{Q:Value×List Value->Ac->Prop}{id:String}(slot:Slot "str" name id)(hty:typeOf (.builtin id)=pure (.type "method_descriptor"))(h:Q (.builtin id,[.str x t]) s):GetM M A E name (.str x t) Q s:=
 cT F.plainAttrs_str slot hty (typeIs_str _ _ _) (λ _ e=>nomatch e) h
theorem kA{pos:Pos}{id:String}{first:List Value}{Q:Value->Ac->Prop}(h:Ad M A (call (.builtin id) first) Q E s):Ad M A (callWith pos (.builtin id) first (backTo pos (Ap [] env)) (backToKw pos (keywordEach [] env))) Q E s:=
 Calls.callWith_builtin rfl (PySem.evalArgs_none (by rw[Am];exact h))
theorem tS{pos:Pos}{id:String}{first:List Value}{e:Expr}{rest:List Expr}{Q:Value->Ac->Prop}(h:Ad M A (spliced (backTo pos (Ap (e::rest) env))) (λ vs s₁=>Ad M A (call (.builtin id) (first++vs)) Q E s₁) E s)(he:Ap (e::rest) env=(false,eval e env)::Ap rest env)(hplain:(backTo pos (Ap rest env)).any (·.1)=false):Ad M A (callWith pos (.builtin id) first (backTo pos (Ap (e::rest) env)) (backToKw pos (keywordEach [] env))) Q E s:=by
 rw[he]at h ⊢;exact Calls.callWith_builtin (by show(false||(backTo pos (Ap rest env)).any (·.1))=false;rw[hplain];rfl) (Calls.evalArgs_plain h)
end
theorem Sta.getM_list{name:Str}{a:Addr}{xs:List Value}{Q:Value×List Value->Ac->Prop}{id:String}(S:Sta W G env loc nw s)(m:(a,aA xs)∈nw)(slot:Slot "list" name id)(hty:typeOf (.builtin id)=pure (.type "method_descriptor"))(h:Q (.builtin id,[.ref a]) s):GetM W.M A E name (.ref a) Q s:=by
 obtain⟨n,hl⟩:=S.isL m;exact cT F.plainAttrs_list slot hty ⟨_,hl,rfl⟩ (λ b e=>by cases e;exact⟨_,hl,rfl⟩) h
theorem xK{h:Heap}{a:Addr}{xs ys:List Value}{n:Nat}(hl:IsL h a xs.toArray n)(f:Array Value->Array Value)(e:f xs.toArray=ys.toArray):∃ o,(h.update a (Obj.mapSeq f)).get? a=some o/\aA ys o:=by
 refine⟨_,IsL.update hl f,?_⟩;rw[e];exact⟨_,rfl⟩
theorem Sta.setL{a:Addr}{xs ys:List Value}{n:Nat}(S:Sta W G env loc nw s)(hl:IsL s.heap a xs.toArray n)(f:Array Value->Array Value)(e:f xs.toArray=ys.toArray)(U:Upd a (aA xs) (aA ys) nw nw')(t:Nat):Sta W G env loc nw' { s with heap:=s.heap.update a (Obj.mapSeq f),toks:=t }:=by
 obtain⟨o,ho,hc⟩:=xK hl f e;exact S.set U (λ b o hb e=>((Heap.SameBut.update s.heap a _).2 b hb).trans e) ho hc t
theorem Sta.append{a:Addr}{xs:List Value}{v:Value}{Q:Value->Ac->Prop}(S:Sta W G env loc nw s)(U:Upd a (aA xs) (aA (xs++[v])) nw nw')(hz:xs.length<=AC)(h:∀ s',Sta W G env loc nw' s'->Q .none s'):Ad W.M A (call (.builtin "list.append") [.ref a,v]) Q E s:=by
 obtain⟨n,hl⟩:=S.isL U.mem;exact call_meets F.slot_list_append ⟨_,hl,rfl⟩ F.entry_list_append (F.args_list_append_2 _ _) (list_append a xs.toArray n v (by simpa using hz)) ⟨hl,h _ (S.setL hl _ (by simp) U _)⟩
theorem Sta.pop{a:Addr}{xs:List Value}{v:Value}{Q:Value->Ac->Prop}(S:Sta W G env loc nw s)(U:Upd a (aA (xs++[v])) (aA xs) nw nw')(hz:xs.length<AC)(h:∀ s',Sta W G env loc nw' s'->Q v s'):Ad W.M A (call (.builtin "list.pop") [.ref a]) Q E s:=by
 obtain⟨n,hl⟩:=S.isL U.mem;refine call_meets F.slot_list_pop ⟨_,hl,rfl⟩ F.entry_list_pop (F.args_list_pop_1 _) (MeetsSeq.list_pop_last a (xs++[v]).toArray n v (by simp) (by simp;walk_at "o")) ⟨hl,h _ (S.setL hl _ ?_ U _)⟩;simp[Array.eraseIdxIfInBounds,List.eraseIdx_append_of_length_le]
theorem Sta.len{a:Addr}{xs:List Value}{Q:Value->Ac->Prop}(S:Sta W G env loc nw s)(m:(a,aA xs)∈nw)(hz:xs.length<=AC)(h:∀ t s',Sta W G env loc nw s'->Q (.int xs.length t) s'):Ad W.M A (call (.builtin "len") [.ref a]) Q E s:=by
 have q:=h (s.toks+1) _ (S.toks (s.toks+1+1));refine len_list (S.isList m) ?_ ?_
 ·rw[Aw]at hz;simp;walk_at "o"
 ·simpa using q
theorem Sta.newList{vs:List Value}{Q:Value->Ac->Prop}{M:Model}(S:Sta W G env loc nw s)(hz:vs.length<=AC)(h:∀ a s',Sta W G env loc ((a,aA vs)::nw) s'->Q (.ref a) s'):Ad M A (newList vs) Q E s:=
 wpAny_newObj_type (h _ _ (S.new (c:=aA vs) rfl ⟨0,rfl⟩ s.toks)) (by show vs.toArray.size<=AC;rw[AK];exact hz)
theorem Sta.newTuple{vs:List Value}{Q:Value->Ac->Prop}{M:Model}(S:Sta W G env loc nw s)(hz:vs.length<=AC)(h:∀ a s',Sta W G env loc ((a,aJ vs)::nw) s'->Q (.ref a) s'):Ad M A (newTuple vs) Q E s:=
 wpAny_newObj_type (h _ _ (S.new (c:=aJ vs) rfl ⟨0,rfl⟩ s.toks)) (by show vs.toArray.size<=AC;rw[AK];exact hz)
noncomputable def cnt(vals:Loc):Nat:=(vals.filter λ p=>p.2.isSome).length
noncomputable def aN(vals:Loc):Cell:=λ o=>(vals.map Prod.fst).Nodup/\o.cls=.type "dict"/\∃ es ep,o.data=.dict es ep/\StrKeys es/\(∀ name,nsFind es name=lk vals name)/\es.size=cnt vals
noncomputable def bD(C d:Addr):Cell:=λ o=>o=instObj C d
theorem kJ{name:Str}{o:Obj}{es ep}{r:Option Value}(hd:o.data=.dict es ep)(hk:StrKeys es)(hf:nsFind es name=r):lookIn name o=some r:=by
 unfold lookIn;rw[hd];dsimp only
 unfold nsFind findBy at hf;rw[←Array.find?_toList]at hf;cases q:es.toList.find? (λ e=>e.key.isStr name)with
 | some e=>rw [q]at hf;rw[←hf];rfl
 | none=>
  rw[q]at hf;rw[←hf];have:es.toList.any (·.refKey)=false:=by
   rw[List.any_eq_false];intro e he;obtain⟨n,t,h⟩:=hk e (Array.mem_toList_iff.mp he);simp[DictEntry.refKey,h]
  simp[this]
structure Cl (K:Frag) (C:Addr) (names:List Str):Prop where
 ga:findIn K (.ref C) "__getattribute__"=some (some (.builtin "object.__getattribute__"))
 gh:findIn K (.ref C) "__getattr__"=some none
 sa:findIn K (.ref C) "__setattr__"=some (some (.builtin "object.__setattr__"))
 plain:plainOver K C=true
 dict:hasDictIn K C=true
 own:∀ n∈names,findIn K (.ref C) n=some none
section
variable {C x d:Addr}{names:List Str}{vals vals':Loc}
theorem Sta.inst(S:Sta W G env loc nw s)(mx:(x,bD C d)∈nw)(md:(d,aN vals)∈nw):∃ od,InstAt s.heap x (instObj C d) C (some od)/\aN vals od:=by
 obtain⟨o,ho,rfl⟩:=S.get mx;obtain⟨od,hod,hc⟩:=S.get md;exact⟨od,⟨ho,rfl,rfl,hod⟩,hc⟩
theorem Sta.getattr{name:Str}{v:Value}{expr:Bool}{Q:Value->Ac->Prop}(S:Sta W G env loc nw s)(c:Cl W.K C names)(mx:(x,bD C d)∈nw)(md:(d,aN vals)∈nw)(hk:vals.map Prod.fst=names)(hv:(name,some v)∈vals)(hh:handedIn v=true)(h:∀ s',Sta W G env loc nw s'->Q v s'):Ad W.M A (getAttr (.ref x) name expr) Q E s:=by
 obtain⟨od,I,nd,_,q⟩:=S.inst mx md;obtain⟨es,ep,hd,hsk,hf,_⟩:=q;exact get_value S.kin I c.ga (findObj_own c.dict (c.own _ (by rw[←hk];exact Aj.mpr ⟨_,hv,rfl⟩)) rfl (kJ hd hsk ((hf name).trans (hE nd hv)))) hh (h _ (S.toks _))
theorem Sta.getM_inst{name:Str}{f:Addr}{Q:Value×List Value->Ac->Prop}(S:Sta W G env loc nw s)(c:Cl W.K C names)(mx:(x,bD C d)∈nw)(md:(d,aN vals)∈nw)(hk:vals.map Prod.fst=names)(hn:name∉names)(hf:findIn W.K (.ref C) name=some (some (.ref f)))(ht:typeIn W.K (.ref f)=some (.type "function"))(h:Q (.ref f,[.ref x]) s):GetM W.M A E name (.ref x) Q s:=λ pl=>by
 obtain⟨od,I,nd,_,q⟩:=S.inst mx md;obtain⟨es,ep,hd,hsk,hl,_⟩:=q;have hno:lk vals name=none:=by
  unfold lk;rw[Bn.mpr]
  ·rfl
  ·intro p hp;rw[bne_iff_ne];exact λ e=>hn (by rw[←hk,e];exact Aj.mpr ⟨p,hp,rfl⟩)
 exact method_fn S.kin I c.ga c.gh hf ht (by show(lookIn name od).map _=_;rw[kJ hd hsk ((hl name).trans hno)];rfl) h
theorem Put.cnt{y:Str}{v:Value}{l l':Loc}(h:Put y (some v) l l'):(l.map Prod.fst).Nodup->cnt l'=if(lk l y).isSome then cnt l else cnt l+1:=by
 induction h with
 | @head u r=>
  intro _
  delta Mine.cnt lk
  cases u<;>simp
 | @tail p r r' h ih=>
  intro nd;rw[An,AP]at nd;have ih:=ih nd.2;have hne:y≠p.1:=λ e=>nd.1 (e▸h.mem);have e1:lk (p::r) y=lk r y:=by unfold lk;rw[Bb,beq_eq_false_iff_ne.mpr hne]
  rw[e1];unfold Mine.cnt at ih ⊢;cases q:p.2.isSome<;>simp only[List.filter_cons,q,if_true,Bool.false_eq_true,if_false,AG]<;>rw[ih]<;>split<;>rfl
theorem oR{name:Str}{hsh:Int}{t:Tok}{v:Value}{o:Obj}(h:aN vals o)(P:Put name (some v) vals vals'):aN vals' (Obj.putName name hsh (.str name t) v o)/\(Obj.putName name hsh (.str name t) v o).isFreed=false/\∃ es ep,(Obj.putName name hsh (.str name t) v o).data=.dict es ep/\es.size<=vals.length:=by
 obtain⟨nd,hcl,q0⟩:=h;obtain⟨es,ep,hd,hk,hf,hz⟩:=q0;obtain⟨c,di,dt,sl⟩:=o;dsimp only at hd hcl;subst hd hcl;have cz:cnt vals'<=vals.length:=by
  have:vals'.length=vals.length:=by have:=congrArg A8 P.keys;simpa using this
  exact(this)▸(List.length_filter_le _ _)
 have hc:=P.cnt nd;rw[Obj.putName_eq];unfold Obj.putNameByArray;dsimp only
 cases hi:es.findIdx? (·.key.isStr name)with
 | some i=>
  have hs:(lk vals name).isSome=true:=by
   rw[←hf];unfold nsFind;rw[findBy_of_findIdx?,hi];have:=Array.findIdx?_eq_some_iff_getElem.mp hi;obtain⟨hlt,_⟩:=this;simp[hlt]
  rw[if_pos hs]at hc;refine⟨⟨by rw[P.keys];exact nd,rfl,_,_,rfl,hk.modify _ _,λ y=>?_,by simp[hz,hc]⟩,rfl,_,_,rfl,by simp[hz,←hc];exact cz⟩;rw[P.look nd,←hf];exact findBy_modify (λ n v=>v.isStr n) Value.isStr_inj es name y v i hi
 | none=>
  have hs:(lk vals name).isSome=false:=by
   rw[←hf];unfold nsFind;rw[findBy_of_findIdx?,hi];rfl
  rw[if_neg (by rw[hs];decide)]at hc;refine⟨⟨by rw[P.keys];exact nd,rfl,_,_,rfl,hk.push _ _ _ _,λ y=>?_,by simp[hz,hc]⟩,rfl,_,_,rfl,by simp[hz,←hc];exact cz⟩;rw[P.look nd,←hf];exact findBy_push (λ n v=>v.isStr n) es name y _ _ v (λ y=>by
   show(name==y)=decide (y=name)
   by_cases h:y=name
   ·subst h;simp
   ·have:¬name=y:=λ e=>h e.symm;simp[h,this]) hi
theorem Sta.setattr{name:Str}{v:Value}{Q:Unit->Ac->Prop}(S:Sta W G env loc nw s)(c:Cl W.K C names)(mx:(x,bD C d)∈nw)(U:Upd d (aN vals) (aN vals') nw nw')(hk:vals.map Prod.fst=names)(P:Put name (some v) vals vals')(hz:names.length<=1000)(h:∀ s',Sta W G env loc nw' s'->Q () s'):Ad W.M A (setAttr (.ref x) name v) Q E s:=by
 obtain⟨od,I,ha⟩:=S.inst mx U.mem;have hn:findIn W.K (.ref C) name=some none:=c.own _ ((hk)▸(P.mem));have ht:takerIn W.K C name=some none:=by unfold takerIn;rw[hn];rfl
 refine set_plain S.kin I c.sa ?_;refine osa_open (s:={ s with toks:=s.toks+1 }) (S.toks (s.toks+1)).kin I c.plain ht λ b=>?_;obtain⟨cd,hc,hd'⟩:=any_some c.dict;obtain⟨hx,-,-,hdx⟩:=I;have hdx':s.heap.get? d=some od:=hdx;obtain⟨A1,A2,q0⟩:=oR (hsh:=PyData.keyHash W.w.params name) (t:=s.toks+1) ha P;obtain⟨es',ep',A3,A4⟩:=q0;obtain⟨nd,hcl,q0⟩:=ha;obtain⟨es,ep,hd,hsk,hf,hsz⟩:=q0;refine Aa (Ae (Aa (Aa (wpAny_loadPart hx (Aa ((looks_clsIn (S.toks (s.toks+1)).kin hc).here ?_))))));rw[hd'];refine Ae (a:=some d) (Aa (Ae (Aa ?_)));refine Aa (Aa (wpAny_askSetting (Ae (Aa (wpAny_mkText (Aa (wpAny_loadPart hdx' ?_)))))));rw[hd];dsimp only
 have hany:es.any (·.refKey)=false:=by
  rw[Array.any_eq_false'];intro e he;obtain⟨n,t,h⟩:=hsk e he;simp[DictEntry.refKey,h]
 rw[aRefKeyMayBeTheName_at,hany,Bool.and_false];refine wpAny_updatePart hdx' ?_;have D':=Heap.get?_update_self (Obj.putName name (PyData.keyHash W.w.params name) (.str name (s.toks+1)) v) hdx' A2;refine Aa (wpAny_lookBehind D' (by rw[A3];exact pastItsLine_dict (by rw[Aw];have:vals.length=names.length:=(by rw[←hk];simp);walk_at "o")) ?_);exact Ae (h _ (S.set U (λ b o hb e=>((Heap.SameBut.update s.heap d _).2 b hb).trans e) D' A1 _))
end
section
variable {prog:Program}{w:World}{A:AL}{c:Code}{fs:List Frame}{P:End->Ac->Prop}{s:Ac}
theorem aBq{α:Type}{m:Sem α}{K:α->Sem Fin}{H:Value->Sem Fin}{gd lv}(h:Ad (model prog w) (A.over c fs) m (λ a s'=>SegX (model prog w) A c (K a) fs s' P) (λ x s'=>SegX (model prog w) A c (H x) fs s' P) s):SegX (model prog w) A c (m.wrap K H gd lv) fs s P:=by
 rintro Γ p rfl hΓ
 obtain⟨e,s',hr,hq⟩:=runs_wrap_of_wp (Φ:=λ e s'=>e.quiet=true/\P e s') K H gd lv m (h (Γ.over fs) p (hΓ.over fs)) (λ a p' s' h'=>h' Γ p' rfl hΓ) (λ x p' s' h'=>h' Γ p' rfl hΓ);exact⟨e,s',hr,hq⟩
theorem xM{α β:Type}(m:Sem α)(f:α->Sem β){K:β->Sem Fin}{H:Value->Sem Fin}{gd lv}:(m >>= f).wrap K H gd lv=m.wrap (λ a=>(f a).wrap K H gd lv) H gd lv:=by
 rw[Sem.bind_eq_wrap',Sem.wrap_wrap];rfl
theorem pX{α:Type}(m:Sem α)(h:Value->Sem Unit){K:α->Sem Fin}{H:Value->Sem Fin}{gd lv}:(m.onRaise h).wrap K H gd lv=m.wrap K (λ e=>((h e).bind λ _=>(.raise e:Sem α)).wrap K H gd lv) gd lv:=by
 rw[Sem.onRaise_eq_wrap,Sem.wrap_wrap];rfl
theorem fX{α β:Type}{m:Sem α}{f:α->Sem β}{K:β->Sem Fin}{H:Value->Sem Fin}{gd lv}(h:SegX (model prog w) A c (m.wrap (λ a=>(f a).wrap K H gd lv) H gd lv) fs s P):SegX (model prog w) A c ((m >>= f).wrap K H gd lv) fs s P:=by
 rw[xM];exact h
theorem aY{α β:Type}{m:Sem α}{f:α->Sem β}{K:β->Sem Fin}{H:Value->Sem Fin}{gd lv}(h:Ad (model prog w) (A.over c fs) m (λ a s'=>SegX (model prog w) A c ((f a).wrap K H gd lv) fs s' P) (λ x s'=>SegX (model prog w) A c (H x) fs s' P) s):SegX (model prog w) A c ((m >>= f).wrap K H gd lv) fs s P:=
 fX (aBq h)
theorem uI{α:Type}{m:Sem α}{h:Value->Sem Unit}{K:α->Sem Fin}{H:Value->Sem Fin}{gd lv}(x:SegX (model prog w) A c (m.wrap K (λ e=>((h e).bind λ _=>(.raise e:Sem α)).wrap K H gd lv) gd lv) fs s P):SegX (model prog w) A c ((m.onRaise h).wrap K H gd lv) fs s P:=by
 rw[pX];exact x
theorem uH{t:Sem Fin}(h:SegX (model prog w) A c (t.wrap .pure .raise id id) fs s P):SegX (model prog w) A c t fs s P:=by
 have:∀ t:Sem Fin,t.wrap .pure .raise id id=t:=λ t=>by induction t<;>simp only[Sem.wrap,id, *]
 rw[this]at h;exact h
theorem rU{t:Sem Fin}{h:Value->Sem Unit}(x:SegX (model prog w) A c (t.wrap .pure (λ e=>(h e).bind λ _=>.raise e) id id) fs s P):SegX (model prog w) A c (t.onRaise h) fs s P:=by
 rw[Sem.onRaise_eq_wrap];exact x
theorem lJ{id:String}{args:Args}{b:Builtin}(h:entryFor table id=some b):denote table (.builtin id args)=b args:=by
 show(match entryFor table id with | some b=>b args | none=>_)=_;rw[h]
end
theorem tM:entryFor table "proto.yield_from"=some Builtin.«proto.yield_from»:=entryFor_of_tree (by kernel_rfl)
theorem sZ:typeLookup (.type "list_iterator") "close"=pure none:=by rw[typeLookup_type,Bi];kernel_rfl
noncomputable abbrev cU(it:Addr):Code:=.builtin "proto.yield_from" ⟨[.ref it,.bool false,.none],[]⟩
section
variable {prog:Program}{w:World}{A:AL}{fs:List Frame}{P:End->Ac->Prop}{s:Ac}
theorem aBk{it l:Addr}{i:Nat}{xs:Array Value}{v:Value}(hit:s.heap.IsListIter it l i)(hl:s.heap.IsList l xs)(hx:xs[i]?=some v)(hfs:splitAtGen fs=none)(hfg:fs.any Frame.guarded=false)(h:∀ k lv p h',h'.IsListIter it l (i+1)->Heap.SameBut it s.heap h'-> (∀ A' fs' s' P',s'.TypeIs (.ref it) "list_iterator"->SegX (model prog w) A' (cU it) (denote table (cU it)) fs' s' P'->SegX (model prog w) A' (cU it) (k (.send .none)) fs' s' P')-> P (.susp v false lv k (cU it) p fs) { s with heap:=h' }):SegX (model prog w) A (cU it) (denote table (cU it)) fs s P:=by
 rw[lJ tM];refine uH ?_;refine aY (Ae ?_);obtain⟨o,ho,hc,hd⟩:=id hit;obtain⟨ol,hol,_,q0⟩:=hl;obtain⟨nl,hdl⟩:=q0;refine aY (BH (AB ?_));refine Aa (wpAny_rule (Aa (wpAny_callSpecial?_slot (name:=Str.ofString "__next__") hit.typeIs slot_listiter_next
  (wpAny_call_entry slot_listiter_next hit.typeIs entry_listiter_next ?_ (args_listiter_next _)))))
 show Ad _ _ (field (.ref it) 0 >>= _) _ _ s;refine Aa (wpAny_field ho hd (x:=.ref l) rfl ?_);refine Aa (wpAny_field ho hd (x:=.int i 0) rfl ?_);refine Aa (wpAny_seqItems hol hdl ?_);simp only[BM,hx]
 refine Aa (wpAny_setField ho hd (AN _) (Ae ⟨v,rfl,Ae ?_⟩));have hs':=Heap.SameBut.update s.heap it (Obj.mapFields λ vs=>vs.setIfInBounds 1 (rawInt ((i:Int)+1)));have hit':(s.heap.update it (Obj.mapFields λ vs=>vs.setIfInBounds 1 (rawInt ((i:Int)+1)))).IsListIter it l (i+1):=
  ⟨_,Heap.get?_update_self _ ho (Obj.isFreed_of_fields (Obj.data_mapFields hd _)),(Obj.cls_mapFields ..).trans hc,by rw[Obj.data_mapFields hd];simp[rawInt]⟩
 generalize (s.heap.update it (Obj.mapFields λ vs=>vs.setIfInBounds 1 (rawInt ((i:Int)+1))))=h' at hs' hit' ⊢;have hT':({ s with heap:=h' }:Ac).TypeIs (.ref it) "list_iterator":=hit'.typeIs (s:={ s with heap:=h' });obtain⟨o',ho',hc',hd'⟩:=id hit';refine aY (wpAny_typeOf hT' ?_);refine aY (Bw sZ ?_);refine aY (Ae ?_);have slept:∀ b (s':Ac),s'.TypeIs (.ref it) "list_iterator"->∀(A':AL) (Q:Unit->Ac->Prop) (E:Value->Ac->Prop),Q () s'->Ad (model prog w) A' (Builtin.Generator.sleptOver (.ref it) b) Q E s':=λ b s' hT A' Q E hq=>by
  obtain⟨o₁,ho₁,hc₁⟩:=hT;refine Aa (wpAny_load ho₁ ?_);exact(hc₁)▸(Ae hq)
 refine aY (slept _ _ hT' _ _ _ ?_);refine s_yield _ _ _ _ _ _ _ _ _ _ hfs hfg λ p=>?_;refine h _ _ p h' hit' hs' λ A' fs' s' P' hT hseg=>?_;refine aY (Ae ?_);refine aY (slept _ _ hT _ _ _ ?_);refine aY (Bw (a:=Value.none) rfl ?_);exact s_again _ _ _ _ _ _ _ _ (Code.quiet_builtin _ (by decide +kernel)) hseg
theorem aDm{it l:Addr}{i:Nat}{xs:Array Value}(hA:(A.over (cU it) fs).handled=none)(hit:s.heap.IsListIter it l i)(hl:s.heap.IsList l xs)(hx:xs[i]?=none)(h:∀ h',Heap.ExtBut it s.heap h'->SegX (model prog w) A (cU it) (leafOf (.ok (.ret .none))) fs { s with heap:=h' } P):SegX (model prog w) A (cU it) (denote table (cU it)) fs s P:=by
 rw[lJ tM];refine uH ?_;refine aY (Ae ?_);obtain⟨o,ho,hc,hd⟩:=id hit;obtain⟨ol,q0⟩:=hl;obtain⟨hol,q0⟩:=q0;obtain⟨_,nl,hdl⟩:=q0;refine aY (BH (AB ?_));refine Aa (wpAny_rule (Aa (wpAny_callSpecial?_slot (name:=Str.ofString "__next__") hit.typeIs slot_listiter_next
  (wpAny_call_entry slot_listiter_next hit.typeIs entry_listiter_next ?_ (args_listiter_next _)))))
 show Ad _ _ (field (.ref it) 0 >>= _) _ _ s;refine Aa (wpAny_field ho hd (x:=.ref l) rfl ?_);refine Aa (wpAny_field ho hd (x:=.int i 0) rfl ?_);refine Aa (wpAny_seqItems hol hdl ?_);simp only[BM,hx]
 refine Aa (wpAny_rule (Aa (wpAny_setField ho hd (by simp) ?_)));refine Aa ?_;refine Aa (wpAny_newObj_type ?_ (by size_fits));refine Aa (m:=firstArgMember _ _) (Bw (a:=Value.none) (by first | rfl | (simp only[firstArgMember];rfl)) ?_);refine wpAny_newObj_type ?_ (by size_fits);refine wpAny_raiseNew_none (A:=(A.over (cU it) fs).in1) hA ?_;have hs':=(((Heap.SameBut.update s.heap it (Obj.mapFields λ vs=>vs.setIfInBounds 0 Value.none)).extBut.push { cls:=.type "tuple",data:=.seq #[] }).push
  { cls:=.type "StopIteration",data:=.fields (#[.ref (s.heap.update it (Obj.mapFields λ vs=>vs.setIfInBounds 0 Value.none)).objs.size,.none,.none,.none,.bool false,.none]++ownMembersOf (.type "StopIteration") []) })
 have he:=Heap.get?_push_size ((s.heap.update it (Obj.mapFields λ vs=>vs.setIfInBounds 0 Value.none)).push { cls:=.type "tuple",data:=.seq #[] })
  (o:={ cls:=.type "StopIteration",data:=.fields (#[.ref (s.heap.update it (Obj.mapFields λ vs=>vs.setIfInBounds 0 Value.none)).objs.size,.none,.none,.none,.bool false,.none]++ownMembersOf (.type "StopIteration") []) }) rfl
 generalize (((s.heap.update it (Obj.mapFields λ vs=>vs.setIfInBounds 0 Value.none)).push { cls:=.type "tuple",data:=.seq #[] }).push
  { cls:=.type "StopIteration",data:=.fields (#[.ref (s.heap.update it (Obj.mapFields λ vs=>vs.setIfInBounds 0 Value.none)).objs.size,.none,.none,.none,.bool false,.none]++ownMembersOf (.type "StopIteration") []) })=h' at hs' he ⊢
 generalize ((s.heap.update it (Obj.mapFields λ vs=>vs.setIfInBounds 0 Value.none)).push { cls:=.type "tuple",data:=.seq #[] }).objs.size=e at he ⊢;have hT:({ s with heap:=h' }:Ac).TypeIs (.ref e) "StopIteration":=⟨_,he,rfl⟩
 refine aY ?_;refine Aa (Aa (wpAny_typeOf hT (Aa (Bw isSubtype_stop (Aa (Bw (a:=.type "type") (by kernel_rfl) (Ae (Ae ?_))))))));refine aY (wpAny_rule (aY (wpAny_field he rfl (x:=.none) (by kernel_rfl) ?_)));exact h _ hs'
end
structure Aok (k:Nat) (A:AL):Prop where
 handled:A.handled=none
 depth:A.depth+k<Bj
 units:A.units+8*k<cLine
theorem Aok.le{k j:Nat}{A:AL}(h:Aok k A)(e:j<=k):Aok j A:=⟨h.handled,by have:=h.depth;walk_at "o",by have:=h.units;walk_at "o"⟩
theorem Aok.in1{k:Nat}{A:AL}(h:Aok (k+1) A):Aok k A.in1:=⟨h.handled,by have:=h.depth;show A.depth+k<_;walk_at "o",by have:=h.units;show A.units+1+8*k<_;walk_at "o"⟩
theorem Aok.deeper{k:Nat}{A:AL}{env:Env}(h:Aok (k+1) A):Aok k (A.deeper env):=⟨h.handled,by have:=h.depth;show A.depth+1+k<_;walk_at "o",by have:=h.units;show A.units+3+8*k<_;walk_at "o"⟩
theorem Aok.room{k:Nat}{A:AL}(h:Aok k A):A.depth<Bj:=by have:=h.depth;walk_at "o"
structure St0 (W:Wd) (G:Gens) (nw:Lg) (s:Ac):Prop where
 ok:W.Ok
 led:Led W.B nw s.heap
 bare:AllBare s.gens
 os:s.os=W.os
 gens:∀ p∈G,s.gens[p.1]?=some p.2
 gnd:(G.map Prod.fst).Nodup
noncomputable def Wake(W:Wd)(A:AL)(gs:GenState)(s:Ac)(P:End->Ac->Prop):Prop:=match gs with
 | .fresh c=>SegX W.M A c (denote table c) [] s P
 | .suspended k _ c _ fs _=>SegX W.M A c (k (.send .none)) fs s P
 | _=>False
noncomputable def hZ(W:Wd)(sh:Lg):List Value->GenState->Lg->Prop
 | [],gs,own=>∀ A R GR s,Aok 6 A->St0 W GR (R++(sh++own)) s->Wake W A gs s (λ e s'=>e=.ret (.ok (.ret .none))/\St0 W GR (R++sh) s')
 | v::vs,gs,own=>∀ A R GR s,Aok 6 A->St0 W GR (R++(sh++own)) s->Wake W A gs s (λ e s'=>∃ own',e.result=.yielded v/\St0 W GR (R++(sh++own')) s'/\hZ W sh vs e.genState own')
noncomputable def cY(o:Obj):Bool:=match o.cls with
 | .type n=>!(["enumerate","zip","dict_itemiterator","dict_reverseitemiterator","odict_iterator","itertools.zip_longest","itertools.pairwise"].contains n)
 | _=>true
noncomputable def Typ(sh:Lg)(it:Addr)(own:Lg):Prop:=∃ c,(it,c)∈sh++own/\∀ o,c o->cY o=true
noncomputable def cE(W:Wd)(sh:Lg)(it:Addr):List Value->Lg->Gens->Prop
 | [],own,og=>Typ sh it own/\(∀ A R GR s (Q:Option Value->Ac->Prop) E,Aok 7 A->St0 W (GR++og) (R++(sh++own)) s->(∀ s',St0 W GR (R++sh) s'->Q none s')->Ad W.M A (pyNext (.ref it)) Q E s)
 | v::vs,own,og=>Typ sh it own/\(∀ A R GR s (Q:Option Value->Ac->Prop) E,Aok 7 A->St0 W (GR++og) (R++(sh++own)) s->(∀ own' og' s',St0 W (GR++og') (R++(sh++own')) s'->cE W sh it vs own' og'->Q (some v) s')->
   Ad W.M A (pyNext (.ref it)) Q E s)
noncomputable def cF(g:Nat):Cell:=λ o=>∃ nm qn,o={ cls:=.type "generator",data:=.fields #[.int g 0,nm,qn] }
noncomputable def bG(l:Addr)(i:Nat):Cell:=λ o=>o.cls=.type "list_iterator"/\o.data=.fields #[.ref l,.int i 0]
noncomputable def kX(l:Addr)(i:Int):Cell:=λ o=>o.cls=.type "list_reverseiterator"/\o.data=.fields #[.ref l,rawInt i]
theorem SegX.withQuiet{M:Model}{A:AL}{c:Code}{t:Sem Fin}{fs:List Frame}{s:Ac}{P:End->Ac->Prop}(x:SegX M A c t fs s P):SegX M A c t fs s (λ e s'=>e.quiet=true/\P e s'):=λ Γ p hc hΓ=>by
 obtain⟨e,s',hr,hq,hp⟩:=x Γ p hc hΓ;exact⟨e,s',hr,hq,hq,hp⟩
theorem Wake.mono{W:Wd}{A:AL}{gs:GenState}{s:Ac}{P P':End->Ac->Prop}(x:Wake W A gs s P)(h:∀ e s',e.quiet=true->P e s'->P' e s'):Wake W A gs s P':=by
 induction gs with
 | fresh c=>exact SegX.mono (SegX.withQuiet x) λ e s' q=>h e s' q.1 q.2
 | suspended k l c p fs cl=>exact SegX.mono (SegX.withQuiet x) λ e s' q=>h e s' q.1 q.2
 | running=>exact x.elim
 | finished=>exact x.elim
section
variable {W:Wd}{A:AL}{E:Value->Ac->Prop}{s:Ac}
theorem rR{g:Nat}{gs:GenState}{l:List Value}{α:Type}{k:GenResult->Sem α}{Q:α->Ac->Prop}(hg:s.gens[g]?=some gs)(x:Wake W A gs (s.setGen g .running) (λ e s₁=>Ad W.M A (k e.result) Q E (s₁.setGen g e.genState))):Ad W.M A (.resume g (.send .none) l k) Q E s:=by
 intro Γ p hΓ
 induction gs with
 | fresh c=>exact wake_any α W.prog W.w hg (.inl ⟨rfl,rfl,rfl,rfl⟩) (λ Γ=>Γ.In A) (λ _ h=>h) (SegX.mono x λ e s₁ h Γ p hC=>h Γ p hC) Γ p hΓ
 | suspended k₀ l₀ c₀ p₀ fs₀ cl=>exact wake_any α W.prog W.w hg (.inr ⟨k₀,l₀,p₀,cl,rfl,rfl⟩) (λ Γ=>Γ.In A) (λ _ h=>h) (SegX.mono x λ e s₁ h Γ p hC=>h Γ p hC) Γ p hΓ
 | running=>exact x.elim
 | finished=>exact x.elim
theorem sO{a:Addr}{g:Nat}{gs:GenState}{Q:Option Value->Ac->Prop}(hA:Aok 7 A)(hl:s.heap.NoLimit)(hg:s.heap.IsGen a g)(hgs:s.gens[g]?=some gs)(x:Wake W A.in1 gs (s.setGen g .running) (λ e s₁=>(e=.ret (.ok (.ret .none))/\∀ h',(∀ b o,s₁.heap.get? b=some o->h'.get? b=some o)->Q none { s₁.setGen g .finished with heap:=h' })\/(∃ v,e.result=.yielded v/\Q (some v) (s₁.setGen g e.genState)))):Ad W.M A (pyNext (.ref a)) Q E s:=by
 unfold pyNext;refine Aa (BH (wpAny_callSpecial?_slot (name:=Str.ofString "__next__") hg.typeIs slot_gen_next
  (wpAny_call_entry slot_gen_next hg.typeIs entry_gen_next ?_ (args_gen_next _))))
 show Ad _ _ (Builtin.Generator.genWake (.ref a) (.send .none)) _ _ s;refine Aa (AB (wpAny_genNumber hg (Aa (wpAny_genState hgs ?_))));have hd:A.in1.depth<Bj:=by have:=hA.depth;show A.depth<Bj;walk_at "o"
 induction gs with
 | running=>exact x.elim
 | finished=>exact x.elim
 | _=>
  refine Aa (wpAny_roomToWake hl hd ?_);refine rR (W:=W) hgs (Wake.mono x λ e s₁ hq he=>?_);rcases he with⟨rfl,hQ⟩ | ⟨v,hv,hQ⟩
  ·show Ad _ _ (newExc (.type "StopIteration") [] >>= _) _ _ _;refine Aa ?_;refine Aa (wpAny_newObj_type ?_ (by size_fits));refine Aa (m:=firstArgMember _ _) (Bw (a:=Value.none) (by first | rfl | (simp only[firstArgMember];rfl)) ?_);refine wpAny_newObj_type ?_ (by size_fits);refine Aa (Aa (wpAny_handled ?_));rw[show A.in1.handled=none from hA.handled];refine wpAny_throw ?_;refine Aa (wpAny_isInstance (T:="StopIteration") (b:=true) ⟨_,Heap.get?_push_size _ rfl,rfl⟩ isSubtype_stop ?_);exact Ae (hQ _ λ b o hb=>Heap.get?_push_of_some _ (Heap.get?_push_of_some _ hb))
  ·exact(hv)▸(Ae ⟨v,rfl,Ae hQ⟩)
theorem sF(s:Ac)(g:Nat)(x:GenState):(s.setGen g x).gens=s.gens.setIfInBounds g x:=rfl
theorem tX{gens:Array GenState}{g:Nat}{x:GenState}(h:AllBare gens)(hx:x.bare=true):AllBare (gens.setIfInBounds g x):=λ y hy=>by
 rcases Array.mem_or_eq_of_mem_setIfInBounds hy with h1 | h1
 ·exact h y h1
 ·rw[h1];exact hx
theorem pD{GR:Gens}{nw nw':Lg}{g:Nat}{gs:GenState}(S:St0 W (GR++[(g,gs)]) nw s)(D:Led W.B nw' s.heap):St0 W (GR++[(g,.running)]) nw' (s.setGen g .running):=by
 refine⟨S.ok,D,tX S.bare rfl,S.os,λ p hp=>?_,by have:=S.gnd;rw[Aq]at this ⊢;exact this⟩;rw[sF];rcases AD.mp hp with hp | hp
 ·have hne:p.1≠g:=λ e=>by
   have nd:=S.gnd;rw[Aq,Be]at nd;exact nd.2.2 p.1 (List.mem_map_of_mem hp) g (by simp) e
  rw[Array.getElem?_setIfInBounds_ne (Ne.symm hne)];exact S.gens p (by simp[hp])
 ·have:p=(g,.running):=by simpa using hp
  subst this;have hlt:g<s.gens.size:=(Array.getElem?_eq_some_iff.mp (S.gens (g,gs) (by simp))).1;simp[hlt]
theorem pE{GR:Gens}{nw nw':Lg}{g:Nat}{gs gs':GenState}{h':Heap}(S:St0 W (GR++[(g,gs)]) nw s)(D:Led W.B nw' h')(hb:gs'.bare=true):St0 W (GR++[(g,gs')]) nw' { s.setGen g gs' with heap:=h' }:=by
 have hgs:s.gens[g]?=some gs:=S.gens (g,gs) (by simp);refine⟨S.ok,D,tX S.bare hb,S.os,λ p hp=>?_,by have:=S.gnd;rw[Aq]at this ⊢;exact this⟩;show(s.gens.setIfInBounds g gs')[p.1]?=_;rcases AD.mp hp with hp | hp
 ·have hne:p.1≠g:=λ e=>by
   have nd:=S.gnd;rw[Aq,Be]at nd;exact nd.2.2 p.1 (List.mem_map_of_mem hp) g (by simp) e
  rw[Array.getElem?_setIfInBounds_ne (Ne.symm hne)];exact S.gens p (by simp[hp])
 ·have:p=(g,gs'):=by simpa using hp
  subst this;have hlt:g<s.gens.size:=(Array.getElem?_eq_some_iff.mp hgs).1;simp[hlt]
theorem St0.fewer{G G':Gens}{nw:Lg}(S:St0 W (G++G') nw s):St0 W G nw s:=
 ⟨S.ok,S.led,S.bare,S.os,λ p hp=>S.gens p (by simp[hp]),by have:=S.gnd;rw[Aq]at this;exact(Be.mp this).1⟩
theorem uB{sh:Lg}{a:Addr}{g:Nat}{vs:List Value}:∀{gs:GenState} {own:Lg},hZ W sh vs gs own->cE W sh a vs (own++[(a,cF g)]) [(g,gs)]:=by
 induction vs with
 | nil=>exact λ{gs own} H=>⟨⟨cF g,by simp,λ o ⟨_,_,e⟩=>by subst e;unfold cY;show(!(["enumerate","zip","dict_itemiterator","dict_reverseitemiterator","odict_iterator","itertools.zip_longest","itertools.pairwise"].contains "generator"))=true;decide⟩,λ A R GR s Q E hA S hQ=>by
  have D:=S.led;obtain⟨o,ho,q0⟩:=D.get (a:=a) (c:=cF g) (by simp);obtain⟨nm,qn,rfl⟩:=q0;have hgs:s.gens[g]?=some gs:=S.gens (g,gs) (by simp);have D':Led W.B ((R++[(a,cF g)])++(sh++own)) s.heap:=D.perm (by
   rw[Ah];refine List.Perm.append_left _ ?_;rw[←Ah];exact AT)
  refine sO (W:=W) hA (S.ok.nolimit.keeps D.keep) ⟨_,nm,qn,ho,rfl,rfl,rfl⟩ hgs (Wake.mono (H A.in1 (R++[(a,cF g)]) _ (s.setGen g .running) hA.in1 (pD S D')) λ e s₁ hq he=>?_);obtain⟨he,S1⟩:=he;refine .inl ⟨he,λ h' hk=>hQ _ ?_⟩;exact(pE S1 ((S1.led.grow hk).sub (List.Sublist.append (A7 _ _) (List.Sublist.refl _))) rfl).fewer⟩
 | cons v vs ih=>exact λ{gs own} H=>⟨⟨cF g,by simp,λ o ⟨_,_,e⟩=>by subst e;unfold cY;show(!(["enumerate","zip","dict_itemiterator","dict_reverseitemiterator","odict_iterator","itertools.zip_longest","itertools.pairwise"].contains "generator"))=true;decide⟩,λ A R GR s Q E hA S hQ=>by
  have D:=S.led;obtain⟨o,ho,q0⟩:=D.get (a:=a) (c:=cF g) (by simp);obtain⟨nm,qn,rfl⟩:=q0;have hgs:s.gens[g]?=some gs:=S.gens (g,gs) (by simp);have D':Led W.B ((R++[(a,cF g)])++(sh++own)) s.heap:=D.perm (by
   rw[Ah];refine List.Perm.append_left _ ?_;rw[←Ah];exact AT)
  refine sO (W:=W) hA (S.ok.nolimit.keeps D.keep) ⟨_,nm,qn,ho,rfl,rfl,rfl⟩ hgs (Wake.mono (H A.in1 (R++[(a,cF g)]) _ (s.setGen g .running) hA.in1 (pD S D')) λ e s₁ hq he=>?_);obtain⟨own',he,S1,H'⟩:=he;have D2:Led W.B (R++(sh++(own'++[(a,cF g)]))) s₁.heap:=S1.led.perm (by
   rw[Ah];refine List.Perm.append_left _ ?_;rw[←Ah sh];exact AT)
  exact .inr ⟨v,he,hQ (own'++[(a,cF g)]) [(g,e.genState)] _ (pE S1 D2 (End.bare_of_quiet hq)) (ih H')⟩⟩
end
noncomputable def LY(W:Wd)(sh:Lg)(it:Addr):List Value->Lg->Prop
 | [],own=>Typ sh it own/\∀ A R s (Q:Option Value->Ac->Prop) E,A.handled=none->Led W.B (R++(sh++own)) s.heap->(∀ h',Led W.B (R++sh) h'->Q none { s with heap:=h' })->Ad W.M A (pyNext (.ref it)) Q E s
 | v::vs,own=>Typ sh it own/\∀ A R s (Q:Option Value->Ac->Prop) E,A.handled=none->Led W.B (R++(sh++own)) s.heap->(∀ own' h',Led W.B (R++(sh++own')) h'->LY W sh it vs own'->Q (some v) { s with heap:=h' })->Ad W.M A (pyNext (.ref it)) Q E s
theorem LY.yields{W:Wd}{sh:Lg}{it:Addr}:∀{vs:List Value} {own:Lg},LY W sh it vs own->cE W sh it vs own []
 | [],own,H=>⟨H.1,λ A R GR s Q E hA S hQ=>H.2 A R s Q E hA.handled S.led λ h' D=>hQ _ ⟨S.ok,D,S.bare,S.os,λ p hp=>S.gens p (by simpa using hp),by have:=S.gnd;simpa using this⟩⟩
 | v::vs,own,H=>⟨H.1,λ A R GR s Q E hA S hQ=>H.2 A R s Q E hA.handled S.led λ own' h' D H'=>hQ own' [] _ ⟨S.ok,D,S.bare,S.os,S.gens,S.gnd⟩ H'.yields⟩
noncomputable def YdR(W:Wd)(sh:Lg)(it:Addr){α:Type}(P:α->Value->Prop):List α->Lg->Gens->Prop
 | [],own,og=>Typ sh it own/\(∀ A R GR s (Q:Option Value->Ac->Prop) E,Aok 7 A->St0 W (GR++og) (R++(sh++own)) s->(∀ s',St0 W GR (R++sh) s'->Q none s')->Ad W.M A (pyNext (.ref it)) Q E s)
 | x::xs,own,og=>Typ sh it own/\(∀ A R GR s (Q:Option Value->Ac->Prop) E,Aok 7 A->St0 W (GR++og) (R++(sh++own)) s->(∀ v own' og' s',P x v->St0 W (GR++og') (R++(sh++own')) s'->YdR W sh it P xs own' og'->Q (some v) s')->
   Ad W.M A (pyNext (.ref it)) Q E s)
theorem YdR.map{W:Wd}{sh:Lg}{it:Addr}{α β:Type}{P:α->Value->Prop}{P':β->Value->Prop}(f:α->β)(h:∀ x v,P x v->P' (f x) v):∀{xs:List α} {own:Lg} {og:Gens},YdR W sh it P xs own og->YdR W sh it P' (xs.map f) own og
 | [],_,_,H=>H
 | _::_,_,_,H=>⟨H.1,λ A R GR s Q E hA S hQ=>H.2 A R GR s Q E hA S λ v own' og' s' p S' H'=>hQ v own' og' s' (h _ _ p) S' (YdR.map f h H')⟩
theorem Led.isLst{B h:Heap}{nw:Lg}{a:Addr}{xs:List Value}(D:Led B nw h)(m:(a,aA xs)∈nw):h.IsList a xs.toArray:=by
 obtain⟨o,ho,q0⟩:=D.get m;obtain⟨n,rfl⟩:=q0;exact⟨_,ho,rfl,n,rfl⟩
theorem Led.back{B h h':Heap}{nw:Lg}{a:Addr}{c c':Cell}{post:Lg}(D:Led B (nw++((a,c)::post)) h)(hs:∀ b o,b≠a->h.get? b=some o->h'.get? b=some o){o:Obj}(ho:h'.get? a=some o)(hc:c' o):Led B (nw++((a,c')::post)) h':=by
 have D1:Led B ((a,c)::(nw++post)) h:=D.perm AM;exact(D1.set .head hs ho hc).perm AM.symm
theorem Led.dropBack{B h h':Heap}{nw:Lg}{a:Addr}{c:Cell}{post:Lg}(D:Led B (nw++((a,c)::post)) h)(hs:∀ b o,b≠a->h.get? b=some o->h'.get? b=some o):Led B (nw++post) h':=by
 have D1:Led B ((a,c)::(nw++post)) h:=D.perm AM;have hB:=(D1.own _ (.head _)).1;have nd:=D1.nodup;rw[An,AP]at nd;refine⟨λ b o e=>hs b o (λ q=>by rw[q]at e;rw[hB]at e;cases e) (D1.keep b o e),λ p hp=>?_,nd.2⟩;obtain⟨x,q0⟩:=D1.own p (.tail _ hp);obtain⟨o,ho,hc⟩:=q0;exact⟨x,o,hs _ _ (λ q=>nd.1 (Aj.mpr ⟨p,hp,q⟩)) ho,hc⟩
theorem dJ{W:Wd}{sh:Lg}{it l:Addr}{xs:List Value}{own₀:Lg}(m:(l,aA xs)∈sh++own₀):∀(vs:List Value) (i:Nat),xs.drop i=vs->LY W sh it vs ((it,bG l i)::own₀):=by
 intro l0
 induction l0 with
 | nil=>
  intro i e;exact⟨⟨bG l i,by simp,λ o h=>by unfold cY;rw[h.1];decide⟩,λ A R s Q E hA D hQ=>by
  have D0:Led W.B ((R++sh)++((it,bG l i)::own₀)) s.heap:=by rw[Ah];exact D
  obtain⟨o,ho,hcl,hda⟩:=D0.get (a:=it) (c:=bG l i) (by simp);have hl:=D0.isLst (a:=l) (xs:=xs) (by
   rcases AD.mp m with m | m
   ·simp[m]
   ·simp[m])
  refine wpAny_pyNext_list_end hA ⟨_,ho,hcl,hda⟩ hl (by simpa[List.drop_eq_nil_iff]using e) λ h' hx=>hQ h' ?_;exact(D0.dropBack λ b o hb e=>hx b o hb e).sub (A7 _ _)⟩
 | cons v vs ih=>
  intro i e;exact⟨⟨bG l i,by simp,λ o h=>by unfold cY;rw[h.1];decide⟩,λ A R s Q E hA D hQ=>by
  have D0:Led W.B ((R++sh)++((it,bG l i)::own₀)) s.heap:=by rw[Ah];exact D
  obtain⟨o,ho,hcl,hda⟩:=D0.get (a:=it) (c:=bG l i) (by simp);have hl:=D0.isLst (a:=l) (xs:=xs) (by
   rcases AD.mp m with m | m
   ·simp[m]
   ·simp[m])
  have hx:xs[i]?=some v:=by
   have:=congrArg List.head? e;simpa[List.head?_drop]using this
  have e':xs.drop (i+1)=vs:=by
   have:=congrArg List.tail e;simpa[List.tail_drop]using this
  refine wpAny_pyNext_list_item ⟨_,ho,hcl,hda⟩ hl (by simpa using hx) λ h' hit hs=>?_;obtain⟨o',ho',hc',hd'⟩:=hit;have D1:=D0.back (c':=bG l (i+1)) (λ b o hb e=>(hs.2 b hb).trans e) ho' ⟨hc',hd'⟩;exact hQ ((it,bG l (i+1))::own₀) h' (by rw[←Ah];exact D1) (ih (i+1) e')⟩
theorem aEj{W:Wd}{sh:Lg}{it l:Addr}{xs:List Value}(m:(l,aA xs)∈sh):∀(n:Nat),n<=xs.length->LY W sh it (xs.take n).reverse [(it,kX l ((n:Int)-1))]:=by
 intro n
 induction n with
 | zero=>exact λ _=>⟨⟨kX l (((0:Nat):Int)-1),Af _ (.head _),λ o h=>by unfold cY;rw[h.1];decide⟩,λ A R s Q E hA D hQ=>by
  have D0:Led W.B ((R++sh)++[(it,kX l ((0:Nat)-1))]) s.heap:=by rw[Ah];exact D
  obtain⟨o,ho,hcl,hda⟩:=D0.get (a:=it) (c:=kX l ((0:Nat)-1)) (by simp);refine wpAny_pyNext_rev_end hA ⟨o,ho,hcl,hda⟩ λ h' hx=>hQ h' ?_;have:=D0.dropBack (h':=h') λ b o hb e=>hx b o hb e;simpa using this⟩
 | succ n ih=>
  intro hn;have hlt:n<xs.length:=by walk_at "o"
  have e:(xs.take (n+1)).reverse=xs[n]::(xs.take n).reverse:=by
   rw[List.take_succ,List.getElem?_eq_getElem hlt];simp
  rw[e];refine⟨⟨kX l (((n+1:Nat):Int)-1),Af _ (.head _),λ o h=>by unfold cY;rw[h.1];decide⟩,?_⟩;intro A R s Q E hA D hQ;have D0:Led W.B ((R++sh)++[(it,kX l ((n+1:Nat)-1))]) s.heap:=by rw[Ah];exact D
  obtain⟨o,ho,hcl,hda⟩:=D0.get (a:=it) (c:=kX l ((n+1:Nat)-1)) (by simp);have hl:=D0.isLst (a:=l) (xs:=xs) (by simp[m]);have e1:((n+1:Nat):Int)-1=(n:Int):=by walk_at "o"
  rw[e1]at hda;refine wpAny_pyNext_rev_item ⟨o,ho,hcl,hda⟩ hl (x:=xs[n]) (by simp[hlt]) λ h' hit hs=>?_;obtain⟨o',ho',hc',hd'⟩:=hit;have D1:=D0.back (c':=kX l ((n:Int)-1)) (λ b o hb e=>(hs.2 b hb).trans e) ho' ⟨hc',hd'⟩;exact hQ [(it,kX l ((n:Int)-1))] h' (by rw[←Ah];exact D1) (ih (by walk_at "o"))
noncomputable def oK(W:Wd)(sh R:Lg)(GR:Gens)(vs:List Value)(e:End)(s':Ac):Prop:=match vs with
 | []=>e=.ret (.ok (.ret .none))/\St0 W GR (R++sh) s'
 | v::vs=>∃ own',e.result=.yielded v/\St0 W GR (R++(sh++own')) s'/\hZ W sh vs e.genState own'
theorem goodGen_iff{W:Wd}{sh:Lg}{vs:List Value}{gs:GenState}{own:Lg}:hZ W sh vs gs own↔∀ A R GR s,Aok 6 A->St0 W GR (R++(sh++own)) s->Wake W A gs s (oK W sh R GR vs):=by
 cases vs<;>exact Iff.rfl
structure FrOk (W:Wd) (fr:Frame):Prop where
 split:splitAtGen [fr]=none
 guarded:fr.guarded=false
 marks:∀ x,fr.marks x=x
 weight:fr.where_.1.weight<=1
 units:fr.where_.1.cUnits<=3
 back:∀ A c s P,P (.ret (.ok (.ret .none))) s->SegX W.M A c (leafOf (.ok .next)) [fr] s P
theorem Sta.st0{W:Wd}{G:Gens}{nw pre post:Lg}{s:Ac}{env:Env}{loc:Loc}(S:Sta W G env loc (pre++post) s)(e:nw=pre++((env.locals,aL loc)::post)):St0 W G nw s:=by
 subst e;exact⟨S.ok,S.led.perm AM.symm,S.bare,S.os,S.gens,S.gnd⟩
section
variable {W:Wd}{sh:Lg}{env:Env}{nm:Str}{p1 p5 p6 p7 p8 p9:Pos}{rit:Addr}{ks:List Str}
noncomputable abbrev aAM(nm:Str)(p5 p6 p7 p8 p9:Pos):List Stmt:=[.If (.Name nm p5) [.Expr (.YieldFrom (.Name nm p6) p7) p8] [] p9]
noncomputable abbrev iX(env:Env)(nm:Str)(p1 p5 p6 p7 p8 p9:Pos)(rit:Addr):Code:=.forLoop (.Name nm p1) (.ref rit) (aAM nm p5 p6 p7 p8 p9) [] env
theorem aC7{k:Nat}{A:AL}{c':Code}{fr:Frame}(hA:Aok (k+2) A)(hf:FrOk W fr)(hw:c'.weight=0)(hu:c'.cUnits<=1):Aok k (A.over c' [fr]):=by
 refine⟨?_,?_,?_⟩
 ·show(marksOver [fr] (A.handled,A.handled)).1=none;simp only[marksOver,List.foldr,hf.marks];exact hA.handled
 ·have:=hA.depth;have:=hf.weight;show A.depth+frameCount ([fr].map Frame.where_)+c'.weight+k<Bj;simp only[An,AF,frameCount,List.sum_cons,List.sum_nil,hw];walk_at "o"
 ·have:=hA.units;have:=hf.units;show A.units+unitsOf ([fr].map Frame.where_)+c'.cUnits+8*k<cLine;simp only[An,AF,unitsOf,List.sum_cons,List.sum_nil];walk_at "o"
theorem vI{l it:Addr}{xs:List Value}{fr fr2:Frame}(hf:FrOk W fr)(h2:splitAtGen [fr2,fr]=none)(g2:[fr2,fr].any Frame.guarded=false)(hov:∀ A,Aok 6 A->(A.over (cU it) [fr2,fr]).handled=none)(m:(l,aA xs)∈sh)(own₀:Lg)(ws:List Value)(rest:∀ A R GR s,Aok 6 A->St0 W GR (R++(sh++own₀)) s->SegX W.M A (cU it) (leafOf (.ok (.ret .none))) [fr2,fr] s (oK W sh R GR ws)):∀(vs:List Value) (i:Nat),xs.drop i=vs->∀ A R GR s,Aok 6 A->St0 W GR (R++(sh++((it,bG l i)::own₀))) s->
   SegX W.M A (cU it) (denote table (cU it)) [fr2,fr] s (oK W sh R GR (vs++ws)):=by
 intro vs
 induction vs with
 | nil=>
  intro i e A R GR s hA S;have D0:Led W.B ((R++sh)++((it,bG l i)::own₀)) s.heap:=by rw[Ah];exact S.led
  obtain⟨o,ho,hcl,hda⟩:=D0.get (a:=it) (c:=bG l i) (by simp);have hl:=D0.isLst (a:=l) (xs:=xs) (by simp[m]);refine aDm (hov A hA) ⟨o,ho,hcl,hda⟩ hl (by simpa[List.drop_eq_nil_iff]using e) λ h' hx=>?_;have D1:=D0.dropBack (h':=h') λ b o hb e=>hx b o hb e;exact rest A R GR { s with heap:=h' } hA ⟨S.ok,by rw[←Ah];exact D1,S.bare,S.os,S.gens,S.gnd⟩
 | cons v vs ih=>
  intro i e A R GR s hA S;have D0:Led W.B ((R++sh)++((it,bG l i)::own₀)) s.heap:=by rw[Ah];exact S.led
  obtain⟨o,ho,hcl,hda⟩:=D0.get (a:=it) (c:=bG l i) (by simp);have hl:=D0.isLst (a:=l) (xs:=xs) (by simp[m]);have hx:xs[i]?=some v:=by
   have:=congrArg List.head? e;simpa[List.head?_drop]using this
  have e':xs.drop (i+1)=vs:=by
   have:=congrArg List.tail e;simpa[List.tail_drop]using this
  refine aBk ⟨o,ho,hcl,hda⟩ hl (by simpa using hx) h2 g2 λ k lv p h' hit hs hk=>?_;obtain⟨o',ho',hc',hd'⟩:=hit;have D1:=D0.back (c':=bG l (i+1)) (λ b o hb e=>(hs.2 b hb).trans e) ho' ⟨hc',hd'⟩;refine⟨(it,bG l (i+1))::own₀,rfl,⟨S.ok,by rw[←Ah];exact D1,S.bare,S.os,S.gens,S.gnd⟩,goodGen_iff.mpr λ A' R' GR' s' hA' S'=>?_⟩;have D2:Led W.B ((R'++sh)++((it,bG l (i+1))::own₀)) s'.heap:=by rw[Ah];exact S'.led
  obtain⟨o2,ho2,hcl2,hda2⟩:=D2.get (a:=it) (c:=bG l (i+1)) (by simp);exact hk A' _ s' _ ⟨o2,ho2,hcl2⟩ (ih (i+1) e' A' R' GR' s' hA' S')
theorem mY{x:Str}{v:Option Value}:∀{l:Loc},x∈l.map Prod.fst->∃ l',Put x v l l'
 | p::l,h=>by
  rcases Ax.mp h with e | h
  ·obtain⟨k,u⟩:=p;dsimp only at e;subst e;exact⟨_,.head⟩
  ·obtain⟨l',h'⟩:=mY (v:=v) h;exact⟨_,.tail h'⟩
theorem Put.mem'{x:Str}{v:Option Value}{l l':Loc}(h:Put x v l l'):(x,v)∈l':=by
 induction h with
 | head=>exact .head _
 | tail h ih=>exact .tail _ ih
theorem Sta.truthyL{G:Gens}{loc:Loc}{nw:Lg}{s:Ac}{A:AL}{E:Value->Ac->Prop}{a:Addr}{xs:List Value}{Q:Bool->Ac->Prop}(S:Sta W G env loc nw s)(m:(a,aA xs)∈nw)(hz:xs.length<=AC)(h:∀ s',Sta W G env loc nw s'->Q (!xs.isEmpty) s'):Ad W.M A (truthy (.ref a)) Q E s:=by
 refine wpAny_truthy_list (S.isList m) ?_ ?_
 ·rw[Aw]at hz;simp;walk_at "o"
 ·have:=h _ (S.toks (s.toks+1+1));simpa using this
theorem Sta.iterL{G:Gens}{loc:Loc}{nw:Lg}{s:Ac}{A:AL}{E:Value->Ac->Prop}{a:Addr}{xs:List Value}{Q:Value->Ac->Prop}(S:Sta W G env loc nw s)(m:(a,aA xs)∈nw)(h:∀ it s',Sta W G env loc ((it,bG a 0)::nw) s'->Q (.ref it) s'):Ad W.M A (pyIter (.ref a)) Q E s:=
 wpAny_pyIter_list (S.isList m) (h _ _ (S.new (c:=bG a 0) rfl ⟨rfl,rfl⟩ s.toks))
theorem vH{fr:Frame}(hf:FrOk W fr)(hi:interactive env=false)(hnm:nm∈ks):∀(ls:List (Addr×List Value)),(∀ p∈ls,(p.1,aA p.2)∈sh/\p.2.length<=AC)->∀(ownO:Lg) (loc:Loc) A R GR s,Aok 6 A->loc.map Prod.fst=ks->EvO env ks->
   St0 W GR (R++(sh++((env.locals,aL loc)::ownO))) s->LY W sh rit (ls.map λ p=>.ref p.1) ownO->
   SegX W.M A (iX env nm p1 p5 p6 p7 p8 p9 rit) (denote table (iX env nm p1 p5 p6 p7 p8 p9 rit)) [fr] s (oK W sh R GR (ls.flatMap (·.2))):=by
 intro l0
 induction l0 with
 | nil=>
  intro _ ownO loc A R GR s hA hk he S hy;refine rU ?_;refine aY (AQ ?_);have hA':Aok 4 (A.over (iX env nm p1 p5 p6 p7 p8 p9 rit) [fr]):=aC7 hA hf rfl (AE _);have D:Led W.B ((R++[(env.locals,aL loc)])++(sh++ownO)) s.heap:=S.led.perm (by
   rw[Ah];refine List.Perm.append_left _ ?_;exact AM)
  refine aY (wpAny_onRaise (hy.2 _ _ s _ _ hA'.handled D λ h' D'=>?_));refine s_again _ _ _ _ _ _ _ _ rfl ?_;refine hf.back _ _ _ _ ⟨rfl,S.ok,?_,S.bare,S.os,S.gens,S.gnd⟩;exact D'.sub (List.Sublist.append (A7 _ _) (List.Sublist.refl _))
 | cons p0 ls ih=>
  obtain⟨l,xs⟩:=p0;intro hls ownO loc A R GR s hA hk he S hy;have hm:(l,aA xs)∈sh:=(hls (l,xs) (.head _)).1;have hz:xs.length<=AC:=(hls (l,xs) (.head _)).2;have hls':∀ p∈ls,(p.1,aA p.2)∈sh/\p.2.length<=AC:=λ p hp=>hls p (.tail _ hp);refine rU ?_;refine aY (AQ ?_);have hA':Aok 4 (A.over (iX env nm p1 p5 p6 p7 p8 p9 rit) [fr]):=aC7 hA hf rfl (AE _);have D:Led W.B ((R++[(env.locals,aL loc)])++(sh++ownO)) s.heap:=S.led.perm (by
   rw[Ah];refine List.Perm.append_left _ ?_;exact AM)
  refine aY (wpAny_onRaise (hy.2 _ _ s _ _ hA'.handled D λ ownO' h' D' hy'=>?_));refine aY (Bw (a:=()) rfl ?_);have S1:Sta W GR env loc (R++(sh++ownO')) { s with heap:=h' }:=by
   refine⟨S.ok,by rw[hk];exact he,D'.perm ?_,S.bare,S.os,S.gens,S.gnd⟩;rw[Ah];exact AM
  obtain⟨loc',hput⟩:=mY (v:=some (.ref l)) (l:=loc) (x:=nm) (by rw[hk];exact hnm);have hk':loc'.map Prod.fst=ks:=by rw[hput.keys];exact hk
  refine aY (wpAny_assign_Name (S1.store hput λ s2 S2=>?_));rw[execs_cons];refine fX (fX ?_);refine aY (AQ ?_);refine aY (wpAny_isTrue_value (S2.local_ hput.mem' (S2.truthyL (by simp[hm]) hz λ s3 S3=>?_)));have back:∀ A R GR s,Aok 6 A->St0 W GR (R++(sh++((env.locals,aL loc')::ownO'))) s->
    SegX W.M A (iX env nm p1 p5 p6 p7 p8 p9 rit) (.pure (.again (iX env nm p1 p5 p6 p7 p8 p9 rit))) [fr] s (oK W sh R GR (ls.flatMap (·.2))):=λ A R GR s hA S=>
   s_again _ _ _ _ _ _ _ _ rfl (ih hls' ownO' loc' A R GR s hA hk' he S hy')
  induction xs with
  | nil=>
   refine back A R GR s3 hA (Sta.st0 (pre:=R++sh) (post:=ownO') (loc:=loc') (env:=env) ?_ (by simp));rw[Ah];exact S3
  | cons v vs=>
   rw[if_pos (show(!(v::vs).isEmpty)=true from rfl),execs_cons];refine fX ?_;rw[exec_Expr env _ _ hi rfl];refine aY (AQ (fX ?_));refine aY (S3.local_ hput.mem' (aY (AQ ?_)));have hT:s3.TypeIs (.ref l) "list":=(S3.isList (a:=l) (xs:=v::vs) (by simp[hm])).typeIs;refine aY (wpAny_typeOf hT ?_);refine aY (AB (S3.iterL (xs:=v::vs) (by simp[hm]) λ it s4 S4=>?_));refine s_call W.prog W.w A _ [fr] _ s4 (cU it) none false [] _ λ p=>?_;refine vI (xs:=v::vs) (l:=l) hf ?kk2 ?kg2 ?khov hm ((env.locals,aL loc')::ownO') (ls.flatMap (·.2)) ?krest (v::vs) 0 rfl A R GR s4 hA ?kst
   ·simp only[splitAtGen,hf.split,Option.map_none]
   ·show(false||(fr.guarded||false))=false;rw[hf.guarded];rfl
   ·intro A hA;show(marksOver _ (A.handled,A.handled)).1=none;simp only[marksOver,List.foldr_cons,List.foldr_nil]
    rw[hf.marks];exact hA.handled
   ·intro A R GR s hA S;exact s_pop _ _ _ _ _ _ _ _ _ rfl _ _ _ _ _ _ _ (back A R GR s hA S)
   ·refine⟨S4.ok,S4.led.perm ?_,S4.bare,S4.os,S4.gens,S.gnd⟩;refine(List.Perm.swap _ _ _).trans ?_;rw[←Ah R sh,←Ah R sh];exact List.Perm.trans (List.Perm.cons _ AM.symm) AM.symm
end
section
variable {W:Wd}{sh:Lg}{env:Env}{nm rv sk:Str}{p1 p2 p3 p4 p5 p6 p7 p8 p9 p10:Pos}{ks:List Str}
noncomputable abbrev qY(nm rv sk:Str)(p1 p2 p3 p4 p5 p6 p7 p8 p9 p10:Pos):List Stmt:=[.For (.Name nm p1) (.Call (.Name rv p2) [.Name sk p3] [] p4) (aAM nm p5 p6 p7 p8 p9) [] p10]
theorem yO(hi:interactive env=false)(hnm:nm∈ks)(loc:Loc)(hk:loc.map Prod.fst=ks)(he:EvO env ks)(ls:List (Addr×List Value))(hls:∀ p∈ls,(p.1,aA p.2)∈sh/\p.2.length<=AC)(hrev:∀ A R GR s,Aok 4 A->Sta W GR env loc (R++sh) s->∀ Q E,(∀ rit own s',Sta W GR env loc (R++(sh++own)) s'->LY W sh rit (ls.map λ p=>.ref p.1) own->Q (.ref rit) s')->Ad W.M A (eval (.Call (.Name rv p2) [.Name sk p3] [] p4) env) (λ x s₁=>Ad W.M A (pyIter x) Q E s₁) E s):hZ W sh (ls.flatMap (·.2)) (.fresh (.func (qY nm rv sk p1 p2 p3 p4 p5 p6 p7 p8 p9 p10) env)) [(env.locals,aL loc)]:=by
 refine goodGen_iff.mpr λ A R GR s hA S=>?_;show SegX _ A _ (denote table (.func (qY nm rv sk p1 p2 p3 p4 p5 p6 p7 p8 p9 p10) env)) [] s _;refine uH ?_;refine aY (wpAny_point ?_);refine fX (uI ?_);refine fX ?_;have hA':Aok 4 (A.over (.func (qY nm rv sk p1 p2 p3 p4 p5 p6 p7 p8 p9 p10) env) []):=⟨hA.handled,by
   have:=hA.depth;show A.depth+0+1+4<_;walk_at "o",by
   have:=hA.units;show A.units+0+3+8*4<_;walk_at "o"⟩
 have S1:Sta W GR env loc (R++sh) s:=⟨S.ok,by rw[hk];exact he,S.led.perm (by rw[←Ah];exact AT),S.bare,S.os,S.gens,S.gnd⟩
 refine aY (AQ ?_);have main:=hrev _ R GR s hA' S1;refine aY (As (main (λ x s₁=>∃ rit own,x=.ref rit/\Sta W GR env loc (R++(sh++own)) s₁/\LY W sh rit (ls.map λ p=>.ref p.1) own) (λ _ _=>False) λ rit own s' S' hy=>⟨rit,own,rfl,S',hy⟩) (λ x s₁ h₁=>?_) λ _ _ h=>h.elim);refine aY (Bw (a:=x) rfl ?_);refine aY (AQ ?_);refine aY (AB (As h₁ (λ y s₂ h₂=>?_) λ _ _ h=>h.elim));obtain⟨rit,own,rfl,S2,hy⟩:=h₂;refine s_call W.prog W.w A _ [] _ s₂ (iX env nm p1 p5 p6 p7 p8 p9 rit) none false [] _ λ p=>?_;refine vH ?hf hi hnm ls hls own loc A R GR s₂ hA hk he ⟨S2.ok,S2.led.perm ?_,S2.bare,S2.os,S2.gens,S.gnd⟩ hy
 ·refine⟨rfl,rfl,λ x=>rfl,AN _,AN _,λ A c s P hP=>?_⟩;refine s_pop _ _ _ _ _ _ _ _ _ rfl _ _ _ _ _ _ _ ?_;exact s_end _ _ _ _ _ _ _ _ rfl hP
 ·rw[←Ah R sh,←Ah R sh];exact AM.symm
end
structure Fn (K:Frag) (f:Addr) (st:Stmt) (qual:Str) (dV kV cdv:Value):Prop where
 at_:∃ name doc pm ct oc an od osl,K.lookup f=some ⟨oc,od,.func (fnOf name qual (dY st) (aE st) (aD st) dV kV doc pm an cdv ct),osl⟩
 code:codeIn K cdv qual=true
noncomputable def oL(s:Ac)(st:Stmt)(qual:Str)(dV kV cdv:Value)(args:Args)(binds:List (Str×Value)):Prop:=
 ∀ name doc pm ct an,BindsTo s (fnOf name qual (dY st) (aE st) (aD st) dV kV doc pm an cdv ct) args binds
noncomputable def nN(sc:Scope)(ks:List Str):Bool:=sc.kind==.function&&!sc.isCoroutine&&sc.isGenerator&&(sc.names.all λ x=>x.2 != .cell)&&(ks.all λ x=>sc.names.lookup x==some .local&&!(x==("__debug__":Str)))&&decide ks.Nodup
theorem qW{sc:Scope}{ks:List Str}(hk:nN sc ks=true){P:Prop}(k:sc.kind=.function->sc.isCoroutine=false->sc.isGenerator=true->(∀ x∈sc.names,x.2≠.cell)->(∀ x∈ks,sc.names.lookup x=some .local/\(x==("__debug__":Str))=false)->ks.Nodup->P):P:=by
 simp only[nN,AI,beq_iff_eq,Bs,Bq,bne_iff_ne,decide_eq_true_eq]at hk;exact k hk.1.1.1.1.1 hk.1.1.1.1.2 hk.1.1.1.2 hk.1.1.2 hk.1.2 hk.2
theorem yG{A B C D F G H I:Type}{X:A->B->C->D->F->G->H->I->Prop}{P:Prop}(h:∃ a b c d f g e i,X a b c d f g e i)(k:∀ a b c d f g e i,X a b c d f g e i->P):P:=by
 obtain⟨a,b,c,d,f,g,e,i,h⟩:=h;exact k _ _ _ _ _ _ _ _ h
theorem Sta.call_fn{Q:Value->Ac->Prop}{f:Addr}{qual:Str}{st:Stmt}{dV kV cdv:Value}{pos:List Value}{kw:List (Str×Value)}{binds:List (Str×Value)}(rest:List Str)(S:Sta W G env loc nw s)(hf:Fn W.K f st qual dV kV cdv)(hroom:A.depth<Bj)(hbind:oL s st qual dV kV cdv ⟨pos,kw⟩ binds)(hk:eB (aD st) (binds.map Prod.fst++rest)=true)(h:∀ L s',Sta W G (envOf qual (aD st) L f cdv) (aW binds rest) ((env.locals,aL loc)::nw) s'->
   Ad W.M (A.deeper (envOf qual (aD st) L f cdv)) (execs (aE st) (envOf qual (aD st) L f cdv)) (λ fl s''=>Q (match fl with | .ret v=>v | _=>.none) s'') (λ _ _=>False) s'):Ad W.M A (call (.ref f) pos kw) Q E s:=by
 refine yG hf.at_ ?_;intro name doc pm ct oc an od osl ho;exact S.call_def (args:=⟨pos,kw⟩) rest hroom ho hf.code (hbind _ _ _ _ _) hk h
theorem Sta.code_fn{R:Result->Ac->Prop}{f:Addr}{qual:Str}{st:Stmt}{dV kV cdv:Value}{pos:List Value}{kw:List (Str×Value)}{binds:List (Str×Value)}(rest:List Str)(S:Sta W G env loc nw s)(hf:Fn W.K f st qual dV kV cdv)(hroom:A.depth<Bj)(hbind:oL s st qual dV kV cdv ⟨pos,kw⟩ binds)(hk:eB (aD st) (binds.map Prod.fst++rest)=true)(h:∀ L s',Sta W G (envOf qual (aD st) L f cdv) (aW binds rest) ((env.locals,aL loc)::nw) s'->
   Ad W.M (A.deeper (envOf qual (aD st) L f cdv)) (execs (aE st) (envOf qual (aD st) L f cdv)) (λ fl s''=>R (.ok (.ret (match fl with | .ret v=>v | _=>.none))) s'') (λ _ _=>False) s'):codeAny W.M A (.call (.ref f) ⟨pos,kw⟩) R s:=by
 refine yG hf.at_ ?_;intro name doc pm ct oc an od osl ho;exact S.code_def (args:=⟨pos,kw⟩) rest hroom ho hf.code (hbind _ _ _ _ _) hk h
theorem Sta.call_gen{Q:Value->Ac->Prop}{f:Addr}{qual:Str}{st:Stmt}{dV kV cdv:Value}{pos:List Value}{kw:List (Str×Value)}{binds:List (Str×Value)}(rest:List Str)(S:Sta W G env loc nw s)(hf:Fn W.K f st qual dV kV cdv)(hroom:A.depth<Bj)(hbind:oL s st qual dV kV cdv ⟨pos,kw⟩ binds)(hk:nN (aD st) (binds.map Prod.fst++rest)=true)(h:∀ a g L s',EvO (envOf qual (aD st) L f cdv) (binds.map Prod.fst++rest)-> Sta W (G++[(g,.fresh (.func (aE st) (envOf qual (aD st) L f cdv)))]) env loc ((a,cF g)::(L,aL (aW binds rest))::nw) s'->Q (.ref a) s'):Ad W.M A (call (.ref f) pos kw) Q E s:=by
 refine yG hf.at_ ?_;intro name doc pm ct oc an od osl ho;refine qW hk ?_;clear hk;intro hkind hco hgen hcell hks hnd;have hks2:((aW binds rest).map Prod.fst)=binds.map Prod.fst++rest:=by
  simp[aW,AW,Function.comp_def]
 refine wpAny_call (codeAny_call_generator (fd:=fnOf name qual (dY st) (aE st) (aD st) dV kV doc pm an cdv ct) (body:=aE st) hroom (S.kin _ _ ho) rfl hco hgen rfl (codeRec_of S.kin hf.code) (hbind _ _ _ _ _ _ _ _ _ ?_));refine wpAny_newFunctionEnv hcell (λ x hx=>(hks x.1 (Ak _ (Aj.mpr ⟨x,hx,rfl⟩))).1) (λ h₁ hns hsb=>?_) hkind;have hkp:∀ b o,s.heap.get? b=some o->h₁.get? b=some o:=λ b o e=>hsb.extBut b o (BA (Heap.lt_size e)) (Heap.get?_push_of_some _ e);refine⟨S.nolimit.keeps hkp,?_⟩;have D:Led W.B ((s.heap.objs.size,aL (aW binds rest))::(env.locals,aL loc)::nw) h₁:=by
  obtain⟨o,es,ep,ho',hd,hsk,hf⟩:=hns;refine S.led.cons_new hkp S.led.size_ne S.led.size_new ho' ⟨by rw[hks2];exact hnd,es,ep,hd,hsk,λ x=>?_⟩;rw[hf x,fS _ _ (hnd.sublist (A7 _ _))]
 refine h h₁.objs.size s.gens.size s.heap.objs.size _ ⟨hkind,rfl,rfl,λ x hx=>(hks x hx).1,λ x hx=>(hks x hx).2,hnd⟩ ⟨S.ok,S.eok,?_,?_,S.os,?_,?_⟩
 case refine_4=>
  rw[Aq,Be];refine⟨S.gnd,by simp,λ a ha b hb e=>?_⟩;have:b=s.gens.size:=by simpa using hb
  subst this;obtain⟨p,hp,q⟩:=Aj.mp ha;have:=(Array.getElem?_eq_some_iff.mp (S.gens p hp)).1;rw[q,e]at this;exact BG _ this
 ·refine((D.new (c:=cF s.gens.size) (o:={ cls:=.type "generator",data:=.fields #[.int s.gens.size 0,.str name (s.toks+binds.length),.str qual (s.toks+binds.length+1)] }) rfl ⟨_,_,rfl⟩).perm ?_);exact(List.Perm.cons _ (List.Perm.swap ..)).trans (List.Perm.swap ..)
 ·exact S.bare.push rfl
 ·intro p hp;show(s.gens.push _)[p.1]?=_;rcases AD.mp hp with hp | hp
  ·have hlt:=(Array.getElem?_eq_some_iff.mp (S.gens p hp)).1;rw[Array.getElem?_push_lt hlt];have:=S.gens p hp;rw[Array.getElem?_eq_getElem hlt]at this;exact this
  ·have:p=(s.gens.size,.fresh (.func (aE st) (envOf qual (aD st) s.heap.objs.size f cdv))):=by simpa using hp
   subst this;simp;rfl
theorem St0.setL{W:Wd}{G:Gens}{R:Lg}{s:Ac}{a:Addr}{xs ys:List Value}{n:Nat}(S:St0 W G ((a,aA xs)::R) s)(hl:IsL s.heap a xs.toArray n)(f:Array Value->Array Value)(e:f xs.toArray=ys.toArray):St0 W G ((a,aA ys)::R) { s with heap:=s.heap.update a (Obj.mapSeq f) }:=by
 obtain⟨o,ho,hc⟩:=xK hl f e;exact⟨S.ok,S.led.set .head (λ b o hb e=>((Heap.SameBut.update s.heap a _).2 b hb).trans e) ho hc,S.bare,S.os,S.gens,S.gnd⟩
theorem St0.isL{W:Wd}{G:Gens}{R:Lg}{s:Ac}{a:Addr}{xs:List Value}(S:St0 W G R s)(m:(a,aA xs)∈R):∃ n,IsL s.heap a xs.toArray n:=by
 obtain⟨o,ho,q0⟩:=S.led.get m;obtain⟨n,rfl⟩:=q0;exact⟨n,ho⟩
section
variable {W:Wd}{sh:Lg}{I:Addr}{E:Value->Ac->Prop}
theorem oW{T:Addr}{res:Value}{Rr:Result->Ac->Prop}{R:Lg}{GR:Gens}:∀(vs:List Value) (own:Lg) (og:Gens) (acc:List Value) (A:AL) (s:Ac),Aok 8 A->cE W sh I vs own og->acc.length+vs.length<=AC->
  St0 W (GR++og) (((T,aA acc)::R)++(sh++own)) s->(∀ s',St0 W GR (((T,aA (acc++vs))::R)++sh) s'->Rr (.ok (.ret res)) s')->codeAny W.M A (.builtin "list.extend.loop" ⟨[.ref T,.ref I,res],[]⟩) Rr s:=by
 intro l0
 induction l0 with
 | nil=>
  intro own og acc A s hA hy hz S hR;refine codeAny_builtin F.entry_extend_loop ?_;refine Aa (hy.2 A.in1 _ GR s _ _ (Aok.in1 hA) S λ s' S'=>Ae (hR s' ?_));rw[Am];exact S'
 | cons v vs ih=>
  intro own og acc A s hA hy hz S hR;refine codeAny_builtin F.entry_extend_loop ?_;show Ad _ A.in1 (pyNext (.ref I) >>= _) _ _ s;refine Aa (hy.2 A.in1 _ GR s _ _ (Aok.in1 hA) S λ own' og' s' S' hy'=>?_);have S'':St0 W (GR++og') ((T,aA acc)::(R++(sh++own'))) s':=S';obtain⟨n,hl⟩:=S''.isL (.head _);rw[AG]at hz;refine Aa ?_;refine wpAny_updateSeq hl rfl (Ae ⟨plainId_quiet F.plain_extend_loop _,ih own' og' (acc++[v]) A _ hA hy' (by simp;walk_at "o") (S''.setL hl _ (by simp)) λ s'' S3=>hR s'' ?_⟩)
   (by simp;walk_at "o") (by show(acc.toArray.push v).size<=AC+1;simp;walk_at "o")
  rw[Ah]at S3;exact S3
end
theorem Sta.to0{W:Wd}{G:Gens}{env:Env}{loc:Loc}{nw:Lg}{s:Ac}(S:Sta W G env loc nw s):St0 W G ((env.locals,aL loc)::nw) s:=⟨S.ok,S.led,S.bare,S.os,S.gens,S.gnd⟩
theorem St0.toSta{W:Wd}{G:Gens}{env:Env}{loc:Loc}{nw:Lg}{s:Ac}(S:St0 W G ((env.locals,aL loc)::nw) s)(e:EvO env (loc.map Prod.fst)):Sta W G env loc nw s:=⟨S.ok,e,S.led,S.bare,S.os,S.gens,S.gnd⟩
theorem Sta.fewer{W:Wd}{G G':Gens}{env:Env}{loc:Loc}{nw:Lg}{s:Ac}(S:Sta W (G++G') env loc nw s):Sta W G env loc nw s:=(S.to0.fewer).toSta S.eok
theorem tP{prog:Program}{w:World}{A:AL}{s:Ac}{R:Result->Ac->Prop}{target:Expr}{it:Value}{body orelse:List Stmt}{env:Env}(I:Nat->Ac->Prop)(turn:∀ n s,I n s->Ad (model prog w) A (pyNext it) (λ r s₁=>match r with
   | none=>Ad (model prog w) A (execs orelse env) (λ f s₃=>R (.ok f) s₃) (λ _ _=>False) s₁
   | some v=>Ad (model prog w) A (letOwnedTupleGo target it v) (λ _ s₁=>Ad (model prog w) A (assign target env v) (λ _ s₂=>Ad (model prog w) A (execs body env) (λ f s₃=>match f with
     | .next | .cont=>∃ m,m<n/\I m s₃
     | .brk=>R (.ok .next) s₃
     | .ret v=>R (.ok (.ret v)) s₃) (λ _ _=>False) s₂) (λ _ _=>False) s₁) (λ _ _=>False) s₁) (λ _ _=>False) s)(n:Nat)(h:I n s):codeAny (model prog w) A (.forLoop target it body orelse env) R s:=by
 refine codeAny_loop' rfl I (λ n s hI=>?_) n h;refine wpAny_noted ?_;refine Aa (AQ (Aa (wpAny_onRaise (As (turn n s hI) (λ r s₁ h₁=>?_) λ _ _ h'=>h'.elim))))
 induction r with
 | none=>exact Ae (.inr ⟨rfl,codeAny_block (As h₁ (λ _ _ h=>h) λ _ _ h=>h.elim)⟩)
 | some v=>
  refine Aa (As h₁ (λ _ s₁' h₁'=>?_) λ _ _ h'=>h'.elim);refine Aa (As h₁' (λ _ s₂ h₂=>Aa (As h₂ (λ f s₃ h₃=>?_) λ _ _ h'=>h'.elim)) λ _ _ h'=>h'.elim)
  induction f with
  | next=>exact Ae (.inl ⟨rfl,h₃⟩)
  | cont=>exact Ae (.inl ⟨rfl,h₃⟩)
  | brk=>exact Ae h₃
  | ret v=>exact Ae h₃
theorem zM{prog:Program}{w:World}{A:AL}{E:Value->Ac->Prop}{s:Ac}{target:Expr}{it:Addr}{v:Value}{o:Obj}{Q:Unit->Ac->Prop}(ho:s.heap.get? it=some o)(hp:cY o=true)(h:Q () s):Ad (model prog w) A (letOwnedTupleGo target (.ref it) v) Q E s:=by
 have key:Ad (model prog w) A (letOwnedTupleGo (.Tuple [] 0 default) (.ref it) v) Q E s:=by
  induction v with
  | ref a=>
   refine Aa (m:=load it) (wpAny_load ho ?_);obtain⟨cls,dict,data,slots⟩:=o
   induction cls with
   | type n=>
    have hq:=(Bs _).mp hp
    induction data with
    | fields vs=>
     show Ad _ _ (ite _ _ _) _ _ _;refine hq▸?_;exact Ae h
    | _=>exact Ae h
   | _=>exact Ae h
  | _=>exact Ae h
 cases target with
 | Tuple=>exact key
 | List=>exact key
 | _=>exact Ae h
section
variable {W:Wd}{sh:Lg}{env:Env}{A:AL}{R:Result->Ac->Prop}{it:Addr}{target:Expr}{body:List Stmt}
theorem for_y{α:Type}{P:α->Value->Prop}(hA:Aok 7 A)(J:List α->Loc->Lg->Gens->Prop)(turn:∀ x v rest tl tg loc nw G s,P x v->Sta W (G++tg) env loc (nw++(sh++tl)) s->J (x::rest) loc nw G->
   Ad W.M A (assign target env v) (λ _ s₂=>Ad W.M A (execs body env) (λ f s₃=>match f with
     | .next | .cont=>∃ loc' nw' G',Sta W (G'++tg) env loc' (nw'++(sh++tl)) s₃/\J rest loc' nw' G'
     | .brk=>R (.ok .next) s₃
     | .ret v=>R (.ok (.ret v)) s₃) (λ _ _=>False) s₂) (λ _ _=>False) s)(fin:∀ loc nw G s,Sta W G env loc (nw++sh) s->J [] loc nw G->R (.ok .next) s){xs:List α}{own:Lg}{og G:Gens}{loc:Loc}{nw:Lg}{s:Ac}(S:Sta W (G++og) env loc (nw++(sh++own)) s)(hy:YdR W sh it P xs own og)(hJ:J xs loc nw G):codeAny W.M A (.forLoop target (.ref it) body [] env) R s:=by
 refine tP (λ n s=>∃ xs own og G loc nw,xs.length=n/\Sta W (G++og) env loc (nw++(sh++own)) s/\YdR W sh it P xs own og/\J xs loc nw G) (λ n s hI=>?_) xs.length ⟨xs,own,og,G,loc,nw,rfl,S,hy,hJ⟩;obtain⟨vs,own,og,G,loc,hI⟩:=hI;obtain⟨nw,hn,S,hy,hJ⟩:=hI;cases vs with
 | nil=>
  refine hy.2 A ((env.locals,aL loc)::nw) G s _ _ hA S.to0 λ s' S'=>?_;exact AR (fin loc nw G s' (St0.toSta S' S.eok) hJ)
 | cons x rest=>
  refine hy.2 A ((env.locals,aL loc)::nw) G s _ _ hA S.to0 λ v own' og' s' hp S' hy'=>?_;have S1:Sta W (G++og') env loc (nw++(sh++own')) s':=St0.toSta S' S.eok;have ht:Typ sh it own':=by cases rest<;>exact hy'.1
  obtain⟨c,hc,hpl⟩:=ht;obtain⟨o,ho,hco⟩:=S1.get (a:=it) (c:=c) (Af _ hc);refine zM ho (hpl o hco) ?_;refine As (turn x v rest own' og' loc nw G s' hp S1 hJ) (λ _ s₂ h₂=>As h₂ (λ f s₃ h₃=>?_) λ _ _ h=>h) λ _ _ h=>h
  induction f with
  | next=>obtain⟨loc',nw',G',S3,hJ'⟩:=h₃;exact⟨rest.length,by refine hn▸?_;simp,rest,own',og',G',loc',nw',rfl,S3,hy',hJ'⟩
  | cont=>obtain⟨loc',nw',G',S3,hJ'⟩:=h₃;exact⟨rest.length,by refine hn▸?_;simp,rest,own',og',G',loc',nw',rfl,S3,hy',hJ'⟩
  | brk=>exact h₃
  | ret v=>exact h₃
end
noncomputable def aU(v:Option Value):Cell:=λ o=>o.data=.cell v
structure ClO (env:Env) (k:NameKind) (x:Str) (c:Addr):Prop where
 kind:env.kindOf x=some k
 at_:env.cells.lookup x=some c
 nodebug:(x==("__debug__":Str))=false
 noclass:(x==("__classdict__":Str))=false
theorem Sta.isCell{c:Addr}{v:Option Value}(S:Sta W G env loc nw s)(m:(c,aU v)∈nw):s.heap.IsCell c v:=S.get m
theorem Sta.cell{x:Str}{pos:Pos}{c:Addr}{v:Value}{Q:Value->Ac->Prop}{M:Model}(S:Sta W G env loc nw s)(hc:ClO env .cell x c)(m:(c,aU (some v))∈nw)(h:Q v s):Ad M A (eval (.Name x pos) env) Q E s:=
 wpAny_Name (wpAny_loadName_cell S.eok.fn hc.kind hc.at_ (S.isCell m) h) hc.nodebug
theorem Sta.free{x:Str}{pos:Pos}{c:Addr}{v:Value}{Q:Value->Ac->Prop}{M:Model}(S:Sta W G env loc nw s)(hc:ClO env .free x c)(m:(c,aU (some v))∈nw)(h:Q v s):Ad M A (eval (.Name x pos) env) Q E s:=
 wpAny_Name (wpAny_loadName_free S.eok.fn hc.kind hc.at_ (S.isCell m) h hc.noclass) hc.nodebug
theorem Sta.storeC{x:Str}{c:Addr}{v:Value}{v₀:Option Value}{Q:Unit->Ac->Prop}{M:Model}(S:Sta W G env loc nw s)(hc:ClO env .cell x c)(U:Upd c (aU v₀) (aU (some v)) nw nw')(h:∀ s',Sta W G env loc nw' s'->Q () s'):Ad M A (storeName env x v) Q E s:=by
 refine wpAny_storeName_cell S.eok.fn hc.kind hc.at_ (S.isCell U.mem) λ h' hc' hs=>?_;obtain⟨o,ho,hd⟩:=hc';exact h _ (S.set U (λ b o hb e=>(hs.2 b hb).trans e) ho hd s.toks)
noncomputable def aO(names:List (Str×NameKind)):List Str:=(names.filter λ p=>p.2==.cell).map Prod.fst
theorem jX:∀(names:List (Str×NameKind)) (n:Nat) (acc:List (Str×Addr)),cellsFrom n names acc=((aO names).zip (Bk n (aO names).length)).reverse++acc:=by
 intro l0
 induction l0 with
 | nil=>
  intro n acc;exact rfl
 | cons p0 r ih=>
  obtain⟨x,k⟩:=p0;intro n acc;unfold cellsFrom;cases hk:k==.cell with
  | true=>
   rw[if_pos rfl,ih (n+1) ((x,n)::acc)];simp[aO,hk,List.range'_succ]
  | false=>
   rw[ih n acc];simp[aO,hk]
theorem gO:∀(ks:List Str) (n:Nat),ks.Nodup->∀ i (h:i<ks.length),((ks.zip (Bk n ks.length)).reverse++[]).lookup ks[i]=some (n+i):=by
 intro l0
 induction l0 with
 | nil=>
  intro _ _ i h;simp at h
 | cons k r ih=>
  intro n nd i h;rw[AP]at nd;rw[Am];simp only[AG,List.range'_succ,List.zip_cons_cons,List.reverse_cons,List.lookup_append]
  induction i with
  | zero=>
   have:((r.zip (Bk (n+1) r.length)).reverse).lookup k=none:=by
    rw[Bn];intro p hp;rw[bne_iff_ne];intro e;exact nd.1 (by rw[e];exact(List.of_mem_zip (List.mem_reverse.mp hp)).1)
   simp[this]
  | succ j=>
   have hj:j<r.length:=by simpa using h
   have:=ih (n+1) nd.2 j hj;rw[Am]at this;simp only[List.getElem_cons_succ,this]
   simp;walk_at "o"
noncomputable def aBZ(sc:Scope)(binds:List (Str×Value)):List (Str×Value):=binds.filter λ p=>sc.names.lookup p.1==some .local
theorem tV(k:Str->Option NameKind):∀(binds:List (Str×Value)) (m:Str->Option Value) (x:Str),(binds.map Prod.fst).Nodup->bindL k binds m x=((binds.filter λ p=>k p.1==some .local).lookup x).or (m x):=by
 intro l0
 induction l0 with
 | nil=>
  intro m x _
  rfl
 | cons p0 r ih=>
  obtain⟨n,v⟩:=p0;intro m x nd;rw[An,AP]at nd;unfold bindL;rw[ih _ x nd.2]
  by_cases hk:k n=some .local
  ·rw[if_pos hk];rw[List.filter_cons_of_pos (by simp[hk]),Bb]
   by_cases hx:x=n
   ·subst hx;have:(r.filter λ p=>k p.1==some .local).lookup x=none:=by
     rw[Bn];intro p hp;rw[bne_iff_ne];exact λ e=>nd.1 (Aj.mpr ⟨p,(List.mem_filter.mp hp).1,e.symm⟩)
    simp[this]
   ·simp[beq_eq_false_iff_ne.mpr hx,hx]
  ·rw[if_neg hk,List.filter_cons_of_neg (by simp[hk])]
theorem tW(k:Str->Option NameKind):∀(binds:List (Str×Value)) (m:Str->Option Value) (x:Str),(binds.map Prod.fst).Nodup->k x≠some .local->bindC k binds m x=(binds.lookup x).or (m x):=by
 intro l0
 induction l0 with
 | nil=>
  intro m x _ _
  rfl
 | cons p0 r ih=>
  obtain⟨n,v⟩:=p0;intro m x nd hx;rw[An,AP]at nd;unfold bindC;rw[ih _ x nd.2 hx,Bb]
  by_cases e:x=n
  ·subst e;rw[if_neg hx];have:r.lookup x=none:=by
    rw[Bn];intro p hp;rw[bne_iff_ne];exact λ e=>nd.1 (Aj.mpr ⟨p,hp,e.symm⟩)
   simp[this]
  ·rw[beq_eq_false_iff_ne.mpr e]
   by_cases hk:k n=some .local
   ·rw[if_pos hk]
   ·rw[if_neg hk];simp[e]
noncomputable def qX(sc:Scope)(binds:List (Str×Value))(ks:List Str):Bool:=sc.kind==.function&&!sc.isCoroutine&&!sc.isGenerator&&(binds.all λ x=>sc.names.lookup x.1==some .local||sc.names.lookup x.1==some .cell)&&
 (ks.all λ x=>sc.names.lookup x==some .local&&!(x==("__debug__":Str)))&&decide ks.Nodup&&decide (binds.map Prod.fst).Nodup&&decide (aO sc.names).Nodup&&
 ((aO sc.names).all λ x=>sc.names.lookup x==some .cell&&!(x==("__debug__":Str))&&!(x==("__classdict__":Str)))
theorem nO{sc:Scope}{binds:List (Str×Value)}{ks:List Str}(hk:qX sc binds ks=true){P:Prop}(k:sc.kind=.function->sc.isCoroutine=false->sc.isGenerator=false->(∀ x∈binds,sc.names.lookup x.1=some .local\/sc.names.lookup x.1=some .cell)-> (∀ x∈ks,sc.names.lookup x=some .local/\(x==("__debug__":Str))=false)->ks.Nodup->(binds.map Prod.fst).Nodup->(aO sc.names).Nodup->(∀ x∈aO sc.names,(sc.names.lookup x=some .cell/\(x==("__debug__":Str))=false)/\(x==("__classdict__":Str))=false)->P):P:=by
 simp only[qX,AI,beq_iff_eq,Bs,Bq,bne_iff_ne,decide_eq_true_eq,Bool.or_eq_true]at hk;exact k hk.1.1.1.1.1.1.1.1 hk.1.1.1.1.1.1.1.2 hk.1.1.1.1.1.1.2 hk.1.1.1.1.1.2 hk.1.1.1.1.2 hk.1.1.1.2 hk.1.1.2 hk.1.2 hk.2
noncomputable def ClA(env:Env):List Str->List Addr->Prop
 | x::xs,c::cs=>ClO env .cell x c/\ClA env xs cs
 | [],[]=>True
 | _,_=>False
noncomputable def dA:List (Option Value)->List Addr->Lg
 | v::vs,c::cs=>(c,aU v)::dA vs cs
 | _,_=>[]
theorem gF{v:Option Value}{vs:List (Option Value)}{c:Addr}{cs:List Addr}:dA (v::vs) (c::cs)=(c,aU v)::dA vs cs:=rfl
theorem gV{cs:List Addr}:dA [] cs=[]:=rfl
theorem oD{env:Env}:∀(ks:List Str) (n:Nat),(∀ i (h:i<ks.length),ClO env .cell ks[i] (n+i))->ClA env ks (Bk n ks.length):=by
 intro l0
 induction l0 with
 | nil=>
  intro _ _;exact trivial
 | cons k r ih=>
  intro n h;exact⟨h 0 (by simp),ih (n+1) λ i hi=>by have:=h (i+1) (by simpa using hi);simp only[List.getElem_cons_succ]at this;rwa[show n+1+i=n+(i+1)by walk_at "o"]⟩
theorem lL:∀(vs:List (Option Value)) (n:Nat) (p:Addr×Cell),p∈dA vs (Bk n vs.length)->∃ i,∃ h:i<vs.length,p=(n+i,aU vs[i]):=by
 intro l0
 induction l0 with
 | nil=>
  intro _ _ h;cases h
 | cons v vs ih=>
  intro n p h;rcases Ax.mp h with rfl | h
  ·exact⟨0,by simp,rfl⟩
  ·obtain⟨i,q0⟩:=ih (n+1) p h;obtain⟨hi,e⟩:=q0;exact⟨i+1,by simpa using hi,by rw[e];simp;walk_at "o"⟩
theorem jY:∀(vs:List (Option Value)) (n:Nat),(dA vs (Bk n vs.length)).map Prod.fst=Bk n vs.length:=by
 intro l0
 induction l0 with
 | nil=>
  intro _;exact rfl
 | cons v vs ih=>
  intro n;exact congrArg (n::·) (ih (n+1))
theorem Sta.call_fnC{Q:Value->Ac->Prop}{f:Addr}{qual:Str}{st:Stmt}{dV kV cdv:Value}{pos:List Value}{kw:List (Str×Value)}{binds:List (Str×Value)}(bl:List (Str×Value))(rest:List Str)(cv:List (Option Value))(S:Sta W G env loc nw s)(hf:Fn W.K f st qual dV kV cdv)(hroom:A.depth<Bj)(hbind:oL s st qual dV kV cdv ⟨pos,kw⟩ binds)(hbl:aBZ (aD st) binds=bl)(hcv:(aO (aD st).names).map (λ n=>binds.lookup n)=cv)(hk:qX (aD st) binds (bl.map Prod.fst++rest)=true)(h:∀ L cs s',ClA (envOfC qual (aD st) L f cdv) (aO (aD st).names) cs->Sta W G (envOfC qual (aD st) L f cdv) (aW bl rest) (dA cv cs++((env.locals,aL loc)::nw)) s'->
   Ad W.M (A.deeper (envOfC qual (aD st) L f cdv)) (execs (aE st) (envOfC qual (aD st) L f cdv)) (λ fl s''=>Q (match fl with | .ret v=>v | _=>.none) s'') (λ _ _=>False) s'):Ad W.M A (call (.ref f) pos kw) Q E s:=by
 refine yG hf.at_ ?_;intro name doc pm ct oc an od osl ho;refine nO hk ?_;clear hk;intro hkind hco hgen hbk hks hnd hbnd hcnd hcs;have hks2:((aW bl rest).map Prod.fst)=bl.map Prod.fst++rest:=by
  simp[aW,AW,Function.comp_def]
 have hcf:cellsFrom (s.heap.objs.size+1) (aD st).names []=((aO (aD st).names).zip (Bk (s.heap.objs.size+1) (aO (aD st).names).length)).reverse++[]:=jX _ _ _;have hlk:∀ i (hi:i<(aO (aD st).names).length),(cellsFrom (s.heap.objs.size+1) (aD st).names []).lookup (aO (aD st).names)[i]=some (s.heap.objs.size+1+i):=λ i hi=>by
  rw[hcf];exact gO _ _ hcnd i hi
 refine wpAny_call (codeAny_call_function (fd:=fnOf name qual (dY st) (aE st) (aD st) dV kV doc pm an cdv ct) hroom (S.kin _ _ ho) rfl hco hgen rfl (codeRec_of S.kin hf.code) (hbind _ _ _ _ _ _ _ _ _ ?_));refine wpAny_newFunctionEnv_cells hkind (λ x hx=>?_) λ env' he s' X=>?_
 ·rcases hbk x hx with q | q
  ·exact .inl q
  ·refine .inr ⟨q,?_⟩;have:x.1∈aO (aD st).names:=by
    refine Aj.mpr ⟨(x.1,.cell),List.mem_filter.mpr ⟨mem_of_lookup q,rfl⟩,rfl⟩
   obtain⟨i,q0⟩:=BQ this;obtain⟨hi,e⟩:=q0;rw[←e,hlk i hi];rfl
 ·subst he;have hkp:=X.toInCall.keep;obtain⟨h₁,tk,e⟩:=X.toInCall.same;refine⟨S.nolimit.keeps hkp,codeAny_func ?_⟩;have hlen:cv.length=(aO (aD st).names).length:=by rw[←hcv];simp
  have D:Led W.B (dA cv (Bk (s.heap.objs.size+1) cv.length)++((s.heap.objs.size,aL (aW bl rest))::(env.locals,aL loc)::nw)) s'.heap:=by
   have D0:Led W.B ((s.heap.objs.size,aL (aW bl rest))::(env.locals,aL loc)::nw) s'.heap:=by
    obtain⟨o,es,ep,ho',hd,hsk,hf⟩:=X.toInCall.ns;refine S.led.cons_new hkp S.led.size_ne S.led.size_new ho' ⟨by rw[hks2];exact hnd,es,ep,hd,hsk,λ x=>?_⟩;have hnd2:(bl.map Prod.fst).Nodup:=hnd.sublist (A7 _ _);rw[hf x,tV _ _ _ _ hbnd,Option.or_none,fS _ _ hnd2];show(aBZ (aD st) binds).lookup x=_;rw[hbl];have hrev:∀(l:List (Str×Value)),(l.map Prod.fst).Nodup->l.lookup x=l.reverse.lookup x:=by
     intro l hl
     induction l with
     | nil=>rfl
     | cons p r ih=>
      rw[An,AP]at hl;rw[List.reverse_cons,List.lookup_append,←ih hl.2,Bb,Bb]
      by_cases q:x=p.1
      ·subst q;have:r.lookup p.1=none:=by
        rw[Bn];intro z hz;rw[bne_iff_ne];exact λ e=>hl.1 (Aj.mpr ⟨z,hz,e.symm⟩)
       simp[this]
      ·rw[beq_eq_false_iff_ne.mpr q];simp
    exact hrev bl hnd2
   have hcell:∀ i (hi:i<cv.length),s'.heap.IsCell (s.heap.objs.size+1+i) cv[i]:=λ i hi=>by
    have hi':i<(aO (aD st).names).length:=by rw[←hlen];exact hi
    have:=X.cell _ _ (hlk i hi');have hkc:(aD st).names.lookup (aO (aD st).names)[i]=some .cell:=(hcs _ (Bd hi')).1.1;have e2:bindC (newEnv (aD st) s.heap.objs.size AS (cellsFrom (s.heap.objs.size+1) (aD st).names []) (qual++".<locals>.") (some f) cdv none builtinsNs).kindOf binds (λ _=>none) (aO (aD st).names)[i]=cv[i]:=by
     rw[tW _ _ _ _ hbnd (by show(aD st).names.lookup _≠_;rw[hkc];decide),Option.or_none];simp only[←hcv,List.getElem_map]
    rw[←e2];exact this
   refine⟨D0.keep,λ p hp=>?_,?_⟩
   ·rcases AD.mp hp with hp | hp
    ·obtain⟨i,q0⟩:=lL _ _ _ hp;obtain⟨hi,rfl⟩:=q0;obtain⟨o,ho2,hd2⟩:=hcell i hi;refine⟨?_,o,ho2,hd2⟩;cases q:W.B.get? (s.heap.objs.size+1+i)with
     | none=>rfl
     | some o2=>exact absurd (Heap.lt_size (S.led.keep _ _ q)) (λ hh=>by
       walk_at "o")
    ·exact D0.own p hp
   ·rw[Aq,Be,jY];refine⟨List.nodup_range',D0.nodup,λ a ha b hb e=>?_⟩;subst e;have hge:s.heap.objs.size+1<=a:=by
     have:=List.mem_range'_1.mp ha;exact this.1
    rcases Ax.mp hb with q | hb
    ·exact absurd q (Nat.ne_of_gt hge)
    ·obtain⟨p,hp,q⟩:=Aj.mp hb;obtain⟨o,ho2,_⟩:=(S.led.own p hp).2;have hl:p.1<s.heap.objs.size:=Heap.lt_size ho2;exact absurd q (BA (Nat.lt_trans hl hge))
  have S':Sta W G (envOfC qual (aD st) s.heap.objs.size f cdv) (aW bl rest) (dA cv (Bk (s.heap.objs.size+1) cv.length)++((env.locals,aL loc)::nw)) s':=by
   subst e;refine⟨S.ok,by rw[hks2];exact⟨hkind,rfl,rfl,λ x hx=>(hks x hx).1,λ x hx=>(hks x hx).2,hnd⟩,D.perm AM,S.bare,S.os,S.gens,S.gnd⟩
  refine As (h _ _ _ ?_ S') (λ fl s'' q=>q) (λ _ _ q=>q.elim);rw[hlen];refine oD _ _ λ i hi=>⟨(hcs _ (Bd hi)).1.1,hlk i hi,(hcs _ (Bd hi)).1.2,(hcs _ (Bd hi)).2⟩
noncomputable def rN(W:Wd)(it:Addr)(c:Cell):Prop:=∀ A s (Q:Value->Ac->Prop) E o,s.heap.get? it=some o->c o->Q (.ref it) s->Ad W.M A (pyIter (.ref it)) Q E s
theorem kT{prog:Program}{w:World}{A:AL}{s:Ac}{R:Result->Ac->Prop}{elt:Expr}{gens:List Comprehension}{scope:Scope}{pos p:Pos}{d:Nat}{target:Expr}{it acc:Value}{env:Env}{body:Sem Unit}(hT:compTurn (.ListComp elt gens scope pos) d it acc env=(standAt p >>= λ _=>pyNext it >>= λ r=>match r with
   | none=>pure (.done .next)
   | some v=>letOwnedTupleGo target it v >>= λ _=>assign target env v >>= λ _=>body >>= λ _=>again (.compLoop (.ListComp elt gens scope pos) d it acc env)))(I:Nat->Ac->Prop)(turn:∀ n s,I n s->Ad (model prog w) A (pyNext it) (λ r s₁=>match r with
   | none=>R (.ok .next) s₁
   | some v=>Ad (model prog w) A (letOwnedTupleGo target it v) (λ _ s₁=>Ad (model prog w) A (assign target env v) (λ _ s₂=>Ad (model prog w) A body (λ _ s₃=>∃ m,m<n/\I m s₃)
     (λ _ _=>False) s₂) (λ _ _=>False) s₁) (λ _ _=>False) s₁) (λ _ _=>False) s)(n:Nat)(h:I n s):codeAny (model prog w) A (.compLoop (.ListComp elt gens scope pos) d it acc env) R s:=by
 refine codeAny_loop rfl I (λ n s hI=>?_) n h;refine wpAny_noted ?_;rw[hT];refine Aa (AQ (Aa (As (turn n s hI) (λ r s₁ h₁=>?_) λ _ _ h'=>h'.elim)))
 induction r with
 | none=>exact Ae h₁
 | some v=>
  refine Aa (As h₁ (λ _ s₁' h₁'=>?_) λ _ _ h'=>h'.elim);refine Aa (As h₁' (λ _ s₂ h₂=>Aa (As h₂ (λ _ s₃ h₃=>?_) λ _ _ h'=>h'.elim)) λ _ _ h'=>h'.elim);exact Ae ⟨rfl,h₃⟩
section
variable {W:Wd}{sh:Lg}{env:Env}{A:AL}{R:Result->Ac->Prop}{it:Addr}{target:Expr}{elt:Expr}{gens:List Comprehension}{scope:Scope}{pos p:Pos}{d:Nat}{acc:Value}{body:Sem Unit}
theorem aEH{α:Type}{P:α->Value->Prop}(hA:Aok 7 A)(hT:compTurn (.ListComp elt gens scope pos) d (.ref it) acc env=(standAt p >>= λ _=>pyNext (.ref it) >>= λ r=>match r with
   | none=>pure (.done .next)
   | some v=>letOwnedTupleGo target (.ref it) v >>= λ _=>assign target env v >>= λ _=>body >>= λ _=>again (.compLoop (.ListComp elt gens scope pos) d (.ref it) acc env)))(J:List α->Loc->Lg->Gens->Prop)(turn:∀ x v rest tl tg loc nw G s,P x v->Sta W (G++tg) env loc (nw++(sh++tl)) s->J (x::rest) loc nw G-> Ad W.M A (assign target env v) (λ _ s₂=>Ad W.M A body (λ _ s₃=>∃ loc' nw' G',Sta W (G'++tg) env loc' (nw'++(sh++tl)) s₃/\J rest loc' nw' G') (λ _ _=>False) s₂) (λ _ _=>False) s)(fin:∀ loc nw G s,Sta W G env loc (nw++sh) s->J [] loc nw G->R (.ok .next) s){vs:List α}{own:Lg}{og G:Gens}{loc:Loc}{nw:Lg}{s:Ac}(S:Sta W (G++og) env loc (nw++(sh++own)) s)(hy:YdR W sh it P vs own og)(hJ:J vs loc nw G):codeAny W.M A (.compLoop (.ListComp elt gens scope pos) d (.ref it) acc env) R s:=by
 refine kT hT (λ n s=>∃ vs own og G loc nw,vs.length=n/\Sta W (G++og) env loc (nw++(sh++own)) s/\YdR W sh it P vs own og/\J vs loc nw G) (λ n s hI=>?_) vs.length ⟨vs,own,og,G,loc,nw,rfl,S,hy,hJ⟩;obtain⟨vs,own,og,G,loc,hI⟩:=hI;obtain⟨nw,hn,S,hy,hJ⟩:=hI;cases vs with
 | nil=>exact hy.2 A ((env.locals,aL loc)::nw) G s _ _ hA S.to0 λ s' S'=>fin loc nw G s' (St0.toSta S' S.eok) hJ
 | cons x rest=>
  refine hy.2 A ((env.locals,aL loc)::nw) G s _ _ hA S.to0 λ v own' og' s' hpv S' hy'=>?_;have S1:Sta W (G++og') env loc (nw++(sh++own')) s':=St0.toSta S' S.eok;have ht:Typ sh it own':=by cases rest<;>exact hy'.1
  obtain⟨c,hc,hp⟩:=ht;obtain⟨o,ho,hco⟩:=S1.get (a:=it) (c:=c) (Af _ hc);refine zM ho (hp o hco) ?_;refine As (turn x v rest own' og' loc nw G s' hpv S1 hJ) (λ _ s₂ h₂=>As h₂ (λ f s₃ h₃=>?_) λ _ _ h=>h) λ _ _ h=>h;obtain⟨loc',nw',G',S3,hJ'⟩:=h₃;exact⟨rest.length,by rw[←hn];simp,rest,own',og',G',loc',nw',rfl,S3,hy',hJ'⟩
theorem eW{c:Cell}{s:Ac}{g:Comprehension}(hg:gens[d]?=some g)(ha:g.is_async=0)(hs:rN W it c)(m:∃ o,s.heap.get? it=some o/\c o)(h:codeAny W.M A (.compLoop (.ListComp elt gens scope pos) d (.ref it) acc env) R s):codeAny W.M A (.compStart (.ListComp elt gens scope pos) d (.ref it) acc env) R s:=by
 obtain⟨o,ho,hc⟩:=m;refine codeAny_of_tree ?_;refine wpAny_notedAt ?_;have e:(clausesOf (.ListComp elt gens scope pos))[d]?=some g:=hg;unfold compStart;rw[e];rw[Option.elim_some,ha];show Ad _ _ (ask >>= _) _ _ s;refine Aa (wpAny_askSetting (wpAny_ite ?_))
 split
 ·exact Ae (And.intro rfl h)
 ·exact Aa (wpAny_rule (Aa (AQ (Aa (hs A _ _ _ o ho hc (Ae (And.intro rfl h)))))))
end
noncomputable def eN(sc:Scope)(ks:List Str):Bool:=sc.kind==.function&&(sc.names.all λ x=>x.2 != .cell)&&(sc.names.all λ x=>x.2 != .local||sc.names.lookup x.1==some .local)&&(ks.all λ x=>sc.names.lookup x==some .local&&!(x==("__debug__":Str)))&&decide ks.Nodup
theorem fK{sc:Scope}{ks:List Str}(hk:eN sc ks=true){P:Prop}(k:sc.kind=.function->(∀ x∈sc.names,x.2≠.cell)->(∀ x∈sc.names,x.2≠.local\/sc.names.lookup x.1=some .local)->(∀ x∈ks,sc.names.lookup x=some .local/\(x==("__debug__":Str))=false)->ks.Nodup->P):P:=by
 simp only[eN,AI,beq_iff_eq,Bs,Bq,bne_iff_ne,decide_eq_true_eq,Bool.or_eq_true]at hk;exact k hk.1.1.1.1 hk.1.1.1.2 hk.1.1.2 hk.1.2 hk.2
noncomputable def CompEnd(W:Wd)(env e2:Env)(loc:Loc)(P:Ac->Prop)(r:Result)(s:Ac):Prop:=
 ∃ f loc' nw' G',r=.ok f/\Sta W G' e2 loc' ((env.locals,aL loc)::nw') s/\∀ s₃,Sta W G' env loc nw' s₃->P s₃
theorem CompEnd.mk{W:Wd}{env e2:Env}{loc loc':Loc}{P:Ac->Prop}{s:Ac}{G':Gens}{nw':Lg}(S:Sta W G' e2 loc' ((env.locals,aL loc)::nw') s)(k:∀ s₃,Sta W G' env loc nw' s₃->P s₃):CompEnd W env e2 loc P (.ok .next) s:=⟨.next,loc',nw',G',rfl,S,k⟩
noncomputable def CompK(W:Wd)(A:AL)(env:Env)(e:Expr)(scope:Scope)(cl:List (Str×Addr))(ks:List Str)(Q:Value->Ac->Prop)(it:Value)(s:Ac):Prop:=
 ∃ G loc nw,Sta W G env loc nw s/\∀ acc C s',EvO (compEnvC scope cl C env) ks->Sta W G (compEnvC scope cl C env) (ks.map λ k=>(k,none)) ((acc,aA [])::(env.locals,aL loc)::nw) s'->
  codeAny W.M A (.compStart e 0 it (.ref acc) (compEnvC scope cl C env)) (CompEnd W env (compEnvC scope cl C env) loc (Q (.ref acc))) s'
theorem CompK.mk{e:Expr}{scope:Scope}{cl:List (Str×Addr)}{ks:List Str}{Q:Value->Ac->Prop}{it:Value}(S:Sta W G env loc nw s)(k:∀ acc C s',EvO (compEnvC scope cl C env) ks->Sta W G (compEnvC scope cl C env) (ks.map λ k=>(k,none)) ((acc,aA [])::(env.locals,aL loc)::nw) s'-> codeAny W.M A (.compStart e 0 it (.ref acc) (compEnvC scope cl C env)) (CompEnd W env (compEnvC scope cl C env) loc (Q (.ref acc))) s'):CompK W A env e scope cl ks Q it s:=⟨G,loc,nw,S,k⟩
theorem nM{elt target iter:Expr}{gens:List Comprehension}{scope:Scope}{pos:Pos}{cl:List (Str×Addr)}{Q:Value->Ac->Prop}(ks:List Str)(hclos:closureFor scope env=pure cl)(hk:eN scope ks=true)(he:env.globals=AS)(hb:env.builtins=builtinsNs)(h:Ad W.M A (eval iter env) (λ x s₁=>Ad W.M A (pyIter x) (λ it s₂=>CompK W A env (.ListComp elt (⟨target,iter,[],0⟩::gens) scope pos) scope cl ks Q it s₂) E s₁) E s)(hs:∀ x,foldedSetIterable iter env x=pure x:=by intro _;rfl):Ad W.M A (eval (.ListComp elt (⟨target,iter,[],0⟩::gens) scope pos) env) Q E s:=by
 refine fK hk ?_;clear hk;intro hkind hcell hnames hks hnd;refine wpAny_comprehension_free (use:=none) (cl:=cl) rfl hs hclos hkind (λ x hx hl=>(hnames x hx).resolve_left λ q=>q hl) (As h (λ xv s₁ h₁=>As h₁ (λ it s₂ h₂=>?_) λ _ _ e=>e) λ _ _ e=>e);obtain⟨G,loc,nw,S,kk⟩:=h₂;refine S.newList (by simp) λ acc s₃ S₃=>?_;refine wpAny_newFunctionEnv hcell (by intro y hy;simp at hy) (λ h₁ hns hsb=>?_) hkind;have hkp:∀ b o,s₃.heap.get? b=some o->h₁.get? b=some o:=λ b o e=>hsb.extBut b o (BA (Heap.lt_size e)) (Heap.get?_push_of_some _ e);have D:Led W.B ((s₃.heap.objs.size,aL (ks.map λ k=>(k,none)))::(env.locals,aL loc)::(acc,aA [])::nw) h₁:=by
  obtain⟨o,es,ep,ho',hd,hsk,hf⟩:=hns;refine S₃.led.cons_new hkp S₃.led.size_ne S₃.led.size_new ho' ⟨by rw[AW];simpa[Function.comp_def]using hnd,es,ep,hd,hsk,λ x=>?_⟩;rw[hf x,jR];rfl
 have ek:(ks.map λ k=>((k,none):Str×Option Value)).map Prod.fst=ks:=by rw[AW];simp[Function.comp_def]
 have eok:EvO (compEnvC scope cl s₃.heap.objs.size env) ks:=⟨hkind,he,hb,λ x hx=>lookup_relabel_local (hks x hx).1,λ x hx=>(hks x hx).2,hnd⟩
 refine codeAny_mono (kk acc s₃.heap.objs.size { s₃ with heap:=h₁,toks:=s₃.toks+0 } eok ⟨S₃.ok,by rw[ek];exact eok,D.perm (List.Perm.cons _ (List.Perm.swap ..)),S₃.bare,S₃.os,S₃.gens,S₃.gnd⟩) λ r s'' h''=>?_;obtain⟨f,loc',nw',G',rfl,S',hQ⟩:=h'';refine⟨_,S'.ns,λ h' hs'=>hQ _ ⟨S'.ok,S.eok,?_,S'.bare,S'.os,S'.gens,S'.gnd⟩⟩;have:=Led.dropBack (nw:=[]) (h':=h') S'.led λ b o hb e=>(hs'.2 b hb).trans e;exact this
noncomputable def mF(qual:Str):Cell:=λ o=>∃ vs t,o.data=.fields vs/\vs[1]?=some (.str qual t)
noncomputable def kB(ps:List Value):Cell:=λ o=>o=tabObj ps.toArray
noncomputable def oJ(qual:Str)(params:Arguments)(body:Expr)(scope:Scope)(clos:List (Str×Addr))(c':Addr):Cell:=λ o=>∃ pm ctv,o=kla_obj "<lambda>" qual params body scope clos pm c' ctv
noncomputable def aP(P:Addr)(pos:Pos)(qual:Str)(c?:Option Addr):Lg:=match c? with
 | none=>[(P,kB [])]
 | some c'=>[(P,kB [rawInt pos.line,rawInt pos.col,.ref c']),(c',mF qual)]
noncomputable def gS(names:List (Str×NameKind)):List Str:=(names.filter λ p=>p.2==.free).map Prod.fst
theorem vW{env:Env}(ca:Str->Addr)(f:Str×NameKind->List (Str×Addr)->Sem (ForInStep (List (Str×Addr))))(hf:∀ x cs,f x cs=if x.2==.free then(cellOf env x.1 >>= λ c=>pure (.yield ((x.1,c)::cs)))else pure (.yield cs)):∀(names:List (Str×NameKind)) (acc:List (Str×Addr)),(∀ x∈gS names,env.cells.lookup x=some (ca x))->
  forIn names acc f=(pure (((gS names).map λ x=>(x,ca x)).reverse++acc):Sem _):=by
 intro l0
 induction l0 with
 | nil=>
  intro acc _;exact rfl
 | cons p0 r ih=>
  obtain⟨n,k⟩:=p0;intro acc h;rw[BD,hf];cases hk:k==.free with
  | true=>
   have e:gS ((n,k)::r)=n::gS r:=by simp[gS,hk]
   have hc:cellOf env n=pure (ca n):=by unfold cellOf;rw[h n (by rw[e];exact .head _)]
   simp only[if_true,hc,pure_bind]
   rw[ih _ λ x hx=>h x (by rw[e];exact .tail _ hx),e];simp
  | false=>
   have e:gS ((n,k)::r)=gS r:=by simp[gS,hk]
   simp only[Bool.false_eq_true,if_false,pure_bind]
   rw[ih _ λ x hx=>h x (by rw[e];exact hx),e]
theorem vX{scope:Scope}{env:Env}(ca:Str->Addr)(h:∀ x∈gS scope.names,env.cells.lookup x=some (ca x)):closureFor scope env=pure (((gS scope.names).map λ x=>(x,ca x)).reverse):=by
 dsimp only[closureFor]
 rw[vW ca _ (λ x cs=>by obtain⟨n,k⟩:=x;cases hk:k==NameKind.free<;>simp) _ _ h];simp
theorem lK{scope:Scope}{env:Env}{x:Str}{c:Addr}(h:gS scope.names=[x])(hc:ClO env .cell x c):closureFor scope env=pure [(x,c)]:=by
 rw[vX (λ _=>c) (by rw[h];intro y hy;rw[AA.mp hy];exact hc.at_),h];rfl
theorem Sta.bmAt(S:Sta W G env loc nw s){P:Addr}{c:Cell}(m:(P,c)∈nw):∃ mg,s.heap.Ns AS mg/\AS≠P/\s.heap.BuiltinsAt mg P:=by
 obtain⟨mg,bm,ob,hg,h1,h2,q⟩:=S.ok.bm;obtain⟨h3,h4,h5,h6,h7⟩:=q;have hB:=(S.led.own _ (.tail _ m)).1;refine⟨mg,hg.keeps S.led.keep,λ q=>?_,bm,ob,h1,h2,h3,λ q=>?_,S.led.keep _ _ h4,h5,h6,h7⟩
 ·obtain⟨o,es,ep,e,_⟩:=hg;rw[q]at e;rw[hB]at e;cases e
 ·rw[q]at h4;rw[hB]at h4;cases h4
theorem Sta.lambda{params:Arguments}{body:Expr}{scope:Scope}{pos:Pos}{clos:List (Str×Addr)}{P c:Addr}{c?:Option Addr}{Q:Value->Ac->Prop}(S:Sta W G env loc (aP P pos (env.qual++"<lambda>") c?++nw) s)(hdef:defaultsOf params env=([],[]))(hcl:closureFor scope env=pure clos)(hcode:env.code=.ref c)(C:CodeHd W.B c P)(h:∀ f c' s',Sta W G env loc ((f,oJ (env.qual++"<lambda>") params body scope clos c')::(aP P pos (env.qual++"<lambda>") (some c')++nw)) s'->Q (.ref f) s'):Ad W.M A (eval (.Lambda params body scope pos) env) Q E s:=by
 refine kla_eval hdef ?_;cases c? with
 | none=>
  have m:(P,kB [])∈aP P pos (env.qual++"<lambda>") none++nw:=.head _;obtain⟨mg,hg,hgP,hb⟩:=S.bmAt m;obtain⟨o,hP,rfl⟩:=S.get m;refine kla_makeFunction hcl S.eok.glob hg hcode (C.keeps S.led.keep) hP trivial rfl hgP hb λ c' ctv h' tk hx hge hlt hrec hP'=>?_;obtain⟨c2,oc,vs,t,e,hc,hd,hv⟩:=hrec;cases e;refine h _ c' _ ?_;have D:=S.led;have hne:∀ p∈((env.locals,aL loc)::(aP P pos (env.qual++"<lambda>") none++nw)),p.1≠c':=λ p hp q=>by
   obtain⟨o2,ho2,_⟩:=(D.own p hp).2;have:=Heap.lt_size ho2;rw[q]at this;exact absurd hge (Nat.not_le.mpr this)
  have D1:Led W.B ((env.locals,aL loc)::(P,kB [rawInt pos.line,rawInt pos.col,.ref c'])::nw) h':=by
   refine D.set (a:=P) (c:=kB []) (.tail .head) (λ b o hb e=>hx b o hb e) hP' ?_;show tabObj _=tabObj _
   rfl
  have D2:Led W.B ((c',mF (env.qual++"<lambda>"))::(env.locals,aL loc)::(P,kB [rawInt pos.line,rawInt pos.col,.ref c'])::nw) h':=by
   refine D1.cons_new (λ _ _ e=>e) (λ q=>?_) ?_ hc ⟨vs,t,hd,hv⟩
   ·obtain⟨p,hp,e⟩:=Aj.mp q;rcases Ax.mp hp with rfl | hp
    ·exact hne _ (.head _) e
    rcases Ax.mp hp with rfl | hp
    ·exact hne (P,kB []) (.tail _ (.head _)) e
    ·exact hne p (.tail _ (.tail _ hp)) e
   ·cases q:W.B.get? c' with
    | none=>rfl
    | some o2=>exact absurd (Heap.lt_size (D.keep _ _ q)) (Nat.not_lt.mpr hge)
  refine⟨S.ok,S.eok,(D2.new (c:=oJ (env.qual++"<lambda>") params body scope clos c') (o:=kla_obj "<lambda>" (env.qual++"<lambda>") params body scope clos ((mg "__name__").getD .none) c' ctv) rfl ⟨_,_,rfl⟩).perm ?_,S.bare,S.os,S.gens,S.gnd⟩;refine(List.Perm.cons _ (List.Perm.swap ..)).trans ((List.Perm.swap ..).trans (List.Perm.cons _ (List.Perm.cons _ (List.Perm.swap ..))))
 | some c'=>
  obtain⟨mg,hg,hgP,hb⟩:=S.bmAt (.head _);obtain⟨o,hP,rfl⟩:=S.get (.head _);refine kla_makeFunctionHit (cv:=.ref c') hcl S.eok.glob hg hcode (C.keeps S.led.keep) hP ⟨⟩ (by simp[codeAmong,rawInt]) hb λ ctv h' tk hk _=>?_;refine h _ c' _ ?_;exact(S.grow hk tk).new (c:=oJ (env.qual++"<lambda>") params body scope clos c') rfl ⟨_,_,rfl⟩ tk
theorem Sta.call_lam{qual:Str}{params:Arguments}{body:Expr}{scope:Scope}{clos:List (Str×Addr)}{f c':Addr}{Q:Value->Ac->Prop}{pos:List Value}{binds:List (Str×Value)}(S:Sta W G env loc nw s)(m:(f,oJ qual params body scope clos c')∈nw)(mc:(c',mF qual)∈nw)(hroom:A.depth<Bj)(hbind:∀ pm ctv,bindArgs (kla_fn "<lambda>" qual params body scope clos pm (.ref c') ctv) ⟨pos,[]⟩=pure binds)(hk:eB scope (binds.map Prod.fst)=true)(h:∀ L s',Sta W G (envX qual scope L f (.ref c') clos) (aW binds []) ((env.locals,aL loc)::nw) s'-> Ad W.M (A.deeper (envX qual scope L f (.ref c') clos)) (eval body (envX qual scope L f (.ref c') clos)) Q (λ _ _=>False) s'):Ad W.M A (call (.ref f) pos) Q E s:=by
 refine gQ hk ?_;clear hk;intro hkind hco hgen hcell hks hnd;have hks2:((aW binds []).map Prod.fst)=binds.map Prod.fst:=by
  simp[aW,AW,Function.comp_def]
 obtain⟨o,ho,q0⟩:=S.get m;obtain⟨pm,ctv,rfl⟩:=q0;obtain⟨oc,hoc,q0⟩:=S.get mc;obtain⟨vs,t,hd,hv⟩:=q0;refine wpAny_call (kla_callFunE hroom ho rfl hco hgen rfl ⟨c',oc,vs,t,rfl,hoc,hd,hv⟩ ?_);rw[hbind];refine Ae (wpAny_newFunctionEnv hcell (λ x hx=>(hks x.1 (Aj.mpr ⟨x,hx,rfl⟩)).1) (λ h₁ hns hsb=>?_) hkind);have hkp:∀ b o,s.heap.get? b=some o->h₁.get? b=some o:=λ b o e=>hsb.extBut b o (BA (Heap.lt_size e)) (Heap.get?_push_of_some _ e);refine⟨S.nolimit.keeps hkp,kla_codeExpr ?_⟩;have D:Led W.B ((s.heap.objs.size,aL (aW binds []))::(env.locals,aL loc)::nw) h₁:=by
  obtain⟨o,es,ep,ho',hd,hsk,hf⟩:=hns;refine S.led.cons_new hkp S.led.size_ne S.led.size_new ho' ⟨by rw[hks2];exact hnd,es,ep,hd,hsk,λ x=>?_⟩;rw[hf x,fS _ _ hnd]
 have S':Sta W G (envX qual scope s.heap.objs.size f (.ref c') clos) (aW binds []) ((env.locals,aL loc)::nw) { s with heap:=h₁,toks:=s.toks+binds.length }:=
  ⟨S.ok,by rw[hks2];exact⟨hkind,rfl,rfl,λ x hx=>(hks x hx).1,λ x hx=>(hks x hx).2,hnd⟩,D,S.bare,S.os,S.gens,S.gnd⟩
 exact As (h _ _ S') (λ fl s'' q=>q) (λ _ _ q=>q.elim)
theorem jH{W:Wd}{it l:Addr}{i:Nat}:rN W it (bG l i):=λ A s Q E o ho hc h=>wpAny_pyIter_listiter ⟨o,ho,hc.1,hc.2⟩ h
theorem Sta.iterList{l:Addr}{xs:List Value}{Q:Value->Ac->Prop}(S:Sta W G env loc nw s)(m:(l,aA xs)∈nw)(h:∀ it s',Sta W G env loc ((it,bG l 0)::nw) s'->Q (.ref it) s'):Ad W.M A (pyIter (.ref l)) Q E s:=
 wpAny_pyIter_list (S.isList m) (h _ _ (S.new (c:=bG l 0) rfl ⟨rfl,rfl⟩ s.toks))
theorem Sta.reversed{l:Addr}{xs:List Value}{Q:Value->Ac->Prop}(S:Sta W G env loc nw s)(m:(l,aA xs)∈nw)(h:∀ it s',Sta W G env loc ((it,kX l ((xs.length:Int)-1))::nw) s'->Q (.ref it) s'):Ad W.M A (call (.type "reversed") [.ref l]) Q E s:=
 call_reversed_list (S.isList m) (h _ _ (S.new (c:=kX l ((xs.length:Int)-1)) rfl ⟨rfl,by simp[revObj]⟩ s.toks))
theorem Sta.iterRev{it l:Addr}{i:Int}{Q:Value->Ac->Prop}(S:Sta W G env loc nw s)(m:(it,kX l i)∈nw)(h:Q (.ref it) s):Ad W.M A (pyIter (.ref it)) Q E s:=by
 obtain⟨o,ho,hc,hd⟩:=S.get m;exact wpAny_pyIter_revIter ⟨o,ho,hc,hd⟩ h
theorem Sta.item{l:Addr}{xs:List Value}{k:Int}{t:Tok}{v:Value}{Q:Value->Ac->Prop}(S:Sta W G env loc nw s)(m:(l,aA xs)∈nw)(h0:0<=k)(h1:k<1000000)(hx:xs[k.toNat]?=some v)(h:Q v s):Ad W.M A (getItem (.ref l) (.int k t)) Q E s:=wpAny_getItem_list (S.isList m) h0 (by walk_at "o") (by simpa using hx) h
theorem Sta.setItem{l:Addr}{xs:List Value}{k:Int}{t:Tok}{v:Value}{Q:Unit->Ac->Prop}(S:Sta W G env loc nw s)(U:Upd l (aA xs) (aA (xs.set k.toNat v)) nw nw')(h0:0<=k)(h1:k<1000000)(hx:k.toNat<xs.length)(h:∀ s',Sta W G env loc nw' s'->Q () s'):Ad W.M A (PySem.setItem (.ref l) (.int k t) v) Q E s:=by
 obtain⟨n,hl⟩:=S.isL U.mem;have hT:s.TypeIs (.ref l) "list":=⟨_,hl,rfl⟩
 have hj:k.toNat<xs.toArray.size:=by simpa using hx
 have hS:=h _ (S.setL hl (·.setIfInBounds k.toNat v) (by simp) U s.toks);have hfit:=fitsIndex_of h0 (by walk_at "o");clear h1 h hx;refine AB (Aa (wpAny_sequenceKey hT (by decide) ?_));refine Aa (wpAny_callSpecial?_slot (name:=Str.ofString "__setitem__") hT F.slot_list_setitem (wpAny_call_entry F.slot_list_setitem hT F.entry_list_setitem ?_ (F.args_list_setitem_3 _ _ _)));show Ad _ _ (Builtin.List.listSubscript? (.int k t) >>= _) _ _ s;refine Aa (wpAny_listSubscript_int hfit ?_);clear hfit;obtain⟨j,rfl⟩:=Int.eq_ofNat_of_zero_le h0;have hj:j<xs.toArray.size:=hj;refine Aa (Aa (wpAny_seqItemAt hl rfl (Ae ?_)));rw[Array.getElem?_eq_getElem hj];show Ad _ _ (setSeqItemAt l j v >>= _) _ _ s;refine Aa (wpAny_setSeqItemAt hl rfl ?_);exact Ae ⟨.none,rfl,Ae hS⟩
theorem Sta.sub_list{l:Addr}{xs:List Value}{k:Int}{t:Tok}{v:Value}{Q:Value->Ac->Prop}(S:Sta W G env loc nw s)(m:(l,aA xs)∈nw)(h0:0<=k)(h1:k<1000000)(hx:xs[k.toNat]?=some v)(h:Q v s):SubscriptOn W.M A (.ref l) (.int k t) Q E s:=⟨"list",_,F.slot_list_getitem.lookup,(S.isList m).typeIs,S.item m h0 h1 hx h⟩
theorem oZ{value slice:Expr}{pos:Pos}{Q:Value->Ac->Prop}(h:Ad W.M A (eval value env) (λ o s₁=>Ad W.M A (eval slice env) (λ i s₂=>SubscriptOn W.M A o i Q E s₂) E s₁) E s)(he:∀ o i,subscripted slice false o i=operate [o,i] (getItem o i)):Ad W.M A (eval (.Subscript value slice pos) env) Q E s:=by
 refine Aa (As h (λ o s₁ h₁=>Aa (AB (As h₁ (λ i s₂ h₂=>Aa (AQ ?_)) λ _ _ x=>x))) λ _ _ x=>x);obtain⟨T,id,hl,hT,hg⟩:=h₂;refine Aa ?_;refine Aa (wpAny_specialOf hT hl ?_);have fin:Ad W.M A (subscripted slice false o i) (λ r s₃=>Ad W.M A (letTemporaryGo value o r >>= λ _=>pure r) Q E s₃) E s₂:=by
  rw[he];exact wpAny_operating (As hg (λ r s₃ h₃=>Aa (wpAny_letTemporaryGo (Ae h₃))) λ _ _ x=>x)
 first
  | exact Ae (Aa fin)
  | exact Aa (Ae (Aa fin))
  | exact Aa fin
theorem Sta.fdiv{a b:Int}{t u:Tok}{Q:Value->Ac->Prop}(S:Sta W G env loc nw s)(hb:b≠0)(hp:b.natAbs<1073741824)(h:∀ t s',Sta W G env loc nw s'->Q (.int (a.fdiv b) t) s'):Ad W.M A (binaryOp .FloorDiv (.int a t) (.int b u)) Q E s:=
 floordiv_int hb (h _ _ (S.toks _)) (.inl (PyProof.noPylong_small hp))
theorem Sta.iadd{a b:Int}{t u:Tok}{Q:Value->Ac->Prop}(S:Sta W G env loc nw s)(h:∀ t s',Sta W G env loc nw s'->Q (.int (a+b) t) s'):Ad W.M A (inplaceOp .Add (.int a t) (.int b u)) Q E s:=
 PyProof.Rows.iadd_int (h _ _ (S.toks _))
theorem Sta.isTup{a:Addr}{xs:List Value}(S:Sta W G env loc nw s)(m:(a,aJ xs)∈nw):IsTup s.heap a xs.toArray:=by
 obtain⟨o,ho,q0⟩:=S.get m;obtain⟨n,rfl⟩:=q0;exact⟨_,ho,rfl,n,rfl⟩
theorem Sta.unpackI{a:Addr}{xs:List Value}{n:Nat}{Q:List Value->Ac->Prop}(S:Sta W G env loc nw s)(hh:A.handled=none)(m:(a,aJ xs)∈nw)(hn:n=xs.length)(h:∀ s',Sta W G env loc nw s'->Q xs s'):Ad W.M A (unpackItems (.ref a) n none) Q E s:=by
 subst hn;have e:xs.length=xs.toArray.size:=rfl;exact unpackItems_tuple hh (S.isTup m) λ h' he=>h _ (S.grow (λ b o e=>he b o (BA (Heap.lt_size e)) e) s.toks)
theorem Sta.unpackT{elts:List Expr}{x1}{pos:Pos}{a:Addr}{xs:List Value}{Q:Unit->Ac->Prop}(S:Sta W G env loc nw s)(hh:A.handled=none)(m:(a,aJ xs)∈nw)(hn:(assignEach elts env).length=xs.length)(hstar:(assignEach elts env).findIdx? (·.1)=none)(h:∀ s',Sta W G env loc nw s'->Ad W.M A (assignInOrder ((assignEach elts env).map (·.2)) xs) Q E s'):Ad W.M A (assign (.Tuple elts x1 pos) env (.ref a)) Q E s:=
 assign_Tuple_tuple hh (S.isTup m) (by simpa using hn) hstar λ h' he=>h _ (S.grow (λ b o e=>he b o (BA (Heap.lt_size e)) e) s.toks)
theorem aDk{pos:Pos}{f:Addr}{first:List Value}{e:Expr}{rest:List Expr}{Q:Value->Ac->Prop}(hk:keepIn W.K (.ref f)=true)(h:Ad W.M A (spliced (backTo pos (Ap (e::rest) env))) (λ vs s₁=>W.K.In s₁.heap/\Ad W.M A (call (.ref f) (first++vs)) Q E s₁) E s)(he:Ap (e::rest) env=(false,eval e env)::Ap rest env)(hplain:(backTo pos (Ap rest env)).any (·.1)=false):Ad W.M A (callWith pos (.ref f) first (backTo pos (Ap (e::rest) env)) []) Q E s:=by
 rw[he]at h ⊢;refine callWith_of (P:=λ h=>W.K.In h) (by show(false||(backTo pos (Ap rest env)).any (·.1)||false)=false;rw[hplain];rfl) (λ h X=>keeps_K hk h X) (Calls.evalArgs_plain h)
theorem aEL{pos:Pos}{f:Addr}{first:List Value}{Q:Value->Ac->Prop}(hk:keepIn W.K (.ref f)=true)(X:W.K.In s.heap)(h:Ad W.M A (call (.ref f) first) Q E s):Ad W.M A (callWith pos (.ref f) first (backTo pos (Ap [] env)) []) Q E s:=
 callWith_of (P:=λ h=>W.K.In h) rfl (λ h X=>keeps_K hk h X) (PySem.evalArgs_none ⟨X,by rw[Am];exact h⟩)
theorem nL:typeLookup (.type "list") "append"=pure (some (.builtin "list.append")):=by rw[typeLookup_type,Bi];kernel_rfl
theorem pM:typeLookup (.type "method_descriptor") "__get__"=pure (some (.builtin "method_descriptor.__get__")):=by rw[typeLookup_type,Bi];kernel_rfl
theorem yK:typeLookup (.type "method_descriptor") "__set__"=pure none:=by rw[typeLookup_type,Bi];kernel_rfl
theorem yL:typeLookup (.type "method_descriptor") "__delete__"=pure none:=by rw[typeLookup_type,Bi];kernel_rfl
theorem gY:typeOf (.builtin "list.append")=pure (.type "method_descriptor"):=by show builtinType _=_;rw[builtinType_eq_fast];kernel_rfl
theorem sB:Slot "method_descriptor" "__get__" "method_descriptor.__get__":=
 Slot.of pM (owner:="method_descriptor") (n:="__get__") (by decide +kernel) (by decide +kernel) (by decide +kernel) (.inl (by decide +kernel)) (by rw[isSubtype_type];kernel_rfl)
theorem rG:entryFor table "method_descriptor.__get__"=some Builtin.«method_descriptor.__get__»:=entryFor_of_tree (by kernel_rfl)
theorem tZ(a b c:Value):argsOk "method_descriptor.__get__" ⟨[a,b,c],[]⟩:=by unfold argsOk;kernel_rfl
theorem ty_ga:typeOf (.builtin "list.__getattribute__")=pure (.type "wrapper_descriptor"):=by show builtinType _=_;rw[builtinType_eq_fast];kernel_rfl
noncomputable def dQ(id:String)(self:Value):Cell:=λ o=>o={ cls:=.type "builtin_function_or_method",data:=.fields #[.builtin id,self] }
theorem nU{prog:Program}{w:World}{A:AL}{E:Value->Ac->Prop}{h:Heap}{g:Array GenState}{d:Drawn}{t:Nat}{os:OsState}{a:Addr}{xs:List Value}{n:Nat}{Q:Value->Ac->Prop}(hx:h.get? a=some { cls:=.type "list",data:=.seq xs.toArray n })(hq:∀ t,Q (.ref h.objs.size) ⟨h.push { cls:=.type "builtin_function_or_method",data:=.fields #[.builtin "list.append",.ref a] },g,d,t,os⟩):Ad (model prog w) A (getAttr (.ref a) "append" true) Q E ⟨h,g,d,t,os⟩:=by
 have hT:∀ t,(⟨h,g,d,t,os⟩:Ac).TypeIs (.ref a) "list":=λ _=>⟨_,hx,rfl⟩
 refine Aa (wpAny_mkText ?_);refine AB (Aa (wpAny_typeOf (hT _) ?_));refine Aa (Bw F.slot_list_getattribute.lookup ?_);refine Aa (Bw (a:=none) rfl ?_);refine Aa (BH (AB ?_));show Ad _ _ (boundAndCalled _ _ _) _ _ _;refine Aa (Bw (a:=(.builtin "list.__getattribute__",[.ref a])) (by unfold bindSpecial;rw[ty_ga];rfl) ?_);refine wpAny_call_entry F.slot_list_getattribute (hT _) F.entry_list_ga ?_ (F.args_list_getattribute_2 _ _);have L1:Looks (model prog w) h (typeOf (.ref a)) (.type "list"):=(Looks.ld hx).andThen .now;have L2:Looks (model prog w) h (typeLookup (.type "list") "append") (some (.builtin "list.append")):=Looks.of_pure nL;have L3:Looks (model prog w) h (specialOf (.builtin "list.append") "__get__") (some (.builtin "method_descriptor.__get__")):=(Looks.of_pure gY).andThen (Looks.of_pure pM);have L4:Looks (model prog w) h (specialOf (.builtin "list.append") "__set__") none:=(Looks.of_pure gY).andThen (Looks.of_pure yK);have L5:Looks (model prog w) h (specialOf (.builtin "list.append") "__delete__") none:=(Looks.of_pure gY).andThen (Looks.of_pure yL);dsimp only
 have hB:∀ t,(⟨h,g,d,t,os⟩:Ac).TypeIs (.builtin "list.append") "method_descriptor":=λ _=>gY
 repeat (first | (with_reducible refine wpAny_call_entry sB (hB _) rG ?_ (tZ _ _ _)) | lk)
 refine⟨_,rfl,Ae ⟨_,rfl,?_⟩⟩;rw[handedOut_of rfl];exact Ae (hq _)
theorem Sta.getAppend{a:Addr}{xs:List Value}{Q:Value->Ac->Prop}(S:Sta W G env loc nw s)(m:(a,aA xs)∈nw)(h:∀ q s',Sta W G env loc ((q,dQ "list.append" (.ref a))::nw) s'->Q (.ref q) s'):Ad W.M A (getAttr (.ref a) "append" true) Q E s:=by
 obtain⟨n,hl⟩:=S.isL m;exact nU hl λ t=>h _ _ (S.new (c:=dQ "list.append" (.ref a)) rfl rfl t)
theorem oM{value:Expr}{attr:Str}{pos:Pos}{Q:Value->Ac->Prop}(h:Ad W.M A (eval value env) (λ o s₁=>Ad W.M A (getAttr o attr true) Q E s₁) E s)(hb:attributeBase value attr env (eval value env)=eval value env):Ad W.M A (eval (.Attribute value attr pos) env) Q E s:=by
 rw[arm_eval_Attribute,hb];exact Aa (As h (λ o s₁ h₁=>Aa (AQ (Aa (AB (As h₁ (λ r s₂ h₂=>Aa (wpAny_letTemporaryGo (Ae h₂))) λ _ _ x=>x))))) λ _ _ x=>x)
theorem tY(names:List Str)(hn:names.Nodup):aN (names.map λ k=>(k,none)) emptyDict:=by
 refine⟨by rw[AW];simpa[Function.comp_def]using hn,rfl,#[],0,rfl,λ e he=>by simp at he,λ x=>by rw[jR];rfl,?_⟩;unfold cnt
 induction names with
 | nil=>rfl
 | cons k r ih=>simpa using ih (by simp at hn;exact hn.2)
theorem Sta.make{C fI:Addr}(names:List Str){rest:List Value}{kw:List (Str×Value)}{Q:Value->Ac->Prop}(S:Sta W G env loc nw s)(hn:names.Nodup)(hm:makesIn W.K C=true)(hi:findIn W.K (.ref C) "__init__"=some (some (.ref fI)))(hf:typeIn W.K (.ref fI)=some (.type "function"))(h:∀ x dx s',Sta W G env loc ((x,bD C dx)::(dx,aN (names.map λ k=>(k,none)))::nw) s'-> codeAny W.M (A.under (.builtin "type.__call__" ⟨.ref C::rest,kw⟩)) (.call (.ref fI) ⟨.ref x::rest,kw⟩) (λ r s''=>r=.ok (.ret .none)/\Q (.ref x) s'') s'):Ad W.M A (call (.ref C) rest kw) Q E s:=by
 have K0:=S.kin;have S1:=S.new (c:=aN (names.map λ k=>(k,none))) (o:=emptyDict) rfl (tY names hn) s.toks;have S2:=S1.new (c:=bD C s.heap.objs.size) (o:=instObj C s.heap.objs.size) rfl rfl s.toks;refine wpAny_call ?_;obtain⟨hh,g,d,t,os⟩:=s;refine make_core (makes_of K0 hm) (looks_findIn K0 hi) (λ self=>bind_fn K0 self hf) (.inl rfl) ?_;have e:(hh.push emptyDict).objs.size=hh.objs.size+1:=Heap.size_push ..;have:=h _ _ _ S2;dsimp only at this;rw[e]at this;refine codeAny_mono this λ r s'' q=>?_;obtain⟨rfl,q⟩:=q;exact⟨rfl,q⟩
theorem aBe{k:Nat}{C:Addr}{rest:List Value}{kw:List (Str×Value)}(hA:Aok (k+1) A):Aok k (A.under (.builtin "type.__call__" ⟨.ref C::rest,kw⟩)):=by
 have hw:(Code.builtin "type.__call__" ⟨.ref C::rest,kw⟩).weight=1:=by rfl
 have hu:(Code.builtin "type.__call__" ⟨.ref C::rest,kw⟩).cUnits=1:=by rfl
 refine⟨hA.handled,?_,?_⟩
 ·have:=hA.depth;unfold Around.under;show A.depth+1+k<_;walk_at "o"
 ·have:=hA.units;unfold Around.under;show A.units+1+8*k<_;walk_at "o"
theorem aCo{A:AL}{s:Ac}{l b:Addr}{xs ys:List Value}(hl:s.heap.IsList l xs.toArray)(hb:s.heap.IsList b ys.toArray)(hz:xs.length=ys.length)(hu:A.units<cLine)(he:∀ j (h1:j<xs.length) (h2:j<ys.length),EqAt A.in1 s xs[j] ys[j] true):RcAt A s (.ref l) (.ref b) true:=by
 have:=RcAt.lists (e:=λ _=>true) hl hb (by simpa using hz) hu (λ j h1 h2=>by simpa using he j (by simpa using h1) (by simpa using h2));have e:(Bg xs.toArray.size).all (λ _=>true)=true:=by simp
 rwa[e]at this
noncomputable def jE(d:Addr):Cell:=λ o=>o={ cls:=.type "dict_items",data:=.fields #[.ref d] }
theorem Sta.eqOp{l b:Addr}{Q:Value->Ac->Prop}(_S:Sta W G env loc nw s)(h:RcAt A s (.ref l) (.ref b) true)(hq:Q (.bool true) s):Ad W.M A (compareOp .Eq (.ref l) (.ref b)) Q E s:=h _ _ _ _ hq
theorem gE{P:Program}{w:World}{h h':Heap}{d:Addr}{kvs:List (Str×Value)}{ep:Nat}(x:h.DictAt (PySem.strKind P w) d kvs ep)(k:∀ b o,h.get? b=some o->h'.get? b=some o):h'.DictAt (PySem.strKind P w) d kvs ep:=
 let⟨o,es,e,r⟩:=x;⟨o,es,k _ _ e,r⟩
theorem Sta.items{d:Addr}{kvs:List (Str×Value)}{ep:Nat}{Q:Value->Ac->Prop}(S:Sta W G env loc nw s)(hm:W.B.DictAt (PySem.strKind W.prog W.w) d kvs ep)(hd:(d==sysModules)=false)(h:∀ r s',Sta W G env loc ((r,jE d)::nw) s'->Q (.ref r) s'):Ad W.M A (call (.builtin "dict.items") [.ref d]) Q E s:=by
 have hD:=gE hm S.led.keep;have hO:s.heap.DictOf (PySem.strKind W.prog W.w) d kvs:=by
  obtain⟨o,es,e,a,b,c⟩:=hD;exact⟨o,es,ep,e,a,b,c⟩
 exact call_meetsIn PySem.F.slot_dict_items hO.typeIs PySem.F.entry_dict_items (PySem.F.args_dict_items_1 _) (meets_dict_items (PySem.strKind W.prog W.w) d hd) ⟨⟨kvs,hO⟩,h _ _ (S.new (c:=jE d) rfl rfl s.toks)⟩
theorem Sta.getM_dict{name:Str}{d:Addr}{kvs:List (Str×Value)}{ep:Nat}{Q:Value×List Value->Ac->Prop}{id:String}(S:Sta W G env loc nw s)(hm:W.B.DictAt (PySem.strKind W.prog W.w) d kvs ep)(slot:Slot "dict" name id)(hty:typeOf (.builtin id)=pure (.type "method_descriptor"))(h:Q (.builtin id,[.ref d]) s):GetM W.M A E name (.ref d) Q s:=by
 obtain⟨o,es,e,a,b,c⟩:=gE hm S.led.keep;exact cT F.plainAttrs_dict slot hty ⟨_,e,a.1⟩ (λ b e'=>by cases e';exact⟨_,e,a.2.1⟩) h
theorem fE{o:Expr}{attr:Str}{pos':Pos}{value:Expr}{pos:Pos}{Q:Flow->Ac->Prop}(h:Ad W.M A (eval value env) (λ v s₁=>Ad W.M A (eval o env) (λ ov s₂=>Ad W.M A (setAttr ov attr v) (λ _=>Q .next) E s₂) E s₁) E s)(hs:swapsWith value (some (.Attribute o attr pos')) pos.line env=pure false):Ad W.M A (exec (.Assign [.Attribute o attr pos'] value pos) env) Q E s:=plainObj_wpAny_Assign_Attribute h hs
theorem dK{P R:Prop}(h:P):(if true=true then P else R):=by rw[if_pos rfl];exact h
theorem cP{P R:Prop}(h:R):(if false=true then P else R):=by rw[if_neg (by decide)];exact h
theorem aEo{P R:Prop}(h:P):(if(!false)=true then P else R):=by rw[if_pos (by decide)];exact h
theorem aEn{P R:Prop}(h:R):(if(!true)=true then P else R):=by rw[if_neg (by decide)];exact h
theorem Sta.dict0{pos:Pos}{Q:Value->Ac->Prop}{M:Model}(S:Sta W G env loc nw s)(h:∀ a s',Sta W G env loc ((a,bU { cls:=.type "dict",data:=.dict #[] })::nw) s'->Q (.ref a) s'):Ad M A (eval (.Dict [] [] pos) env) Q E s:=
 wpAny_Dict_empty (h _ _ (S.new (c:=bU { cls:=.type "dict",data:=.dict #[] }) rfl rfl s.toks))
theorem cR{M:Model}{pos:Pos}{id:String}{self:Value}{e:Expr}{rest:List Expr}{Q:Value->Ac->Prop}(h:Ad M A (spliced (backTo pos (Ap (e::rest) env))) (λ vs s₁=>Ad M A (call (.builtin id) (self::vs)) Q E s₁) E s)(he:Ap (e::rest) env=(false,eval e env)::Ap rest env)(hplain:(backTo pos (Ap rest env)).any (·.1)=false):Ad M A (callWith pos (.builtin id) [self] (backTo pos (Ap (e::rest) env)) (backToKw pos (keywordEach [] env))) Q E s:=tS h he hplain
theorem xC{pos:Pos}{f:Addr}{e:Expr}{rest:List Expr}{Q:Value->Ac->Prop}(hk:keepIn W.K (.ref f)=true)(h:Ad W.M A (spliced (backTo pos (Ap (e::rest) env))) (λ vs s₁=>W.K.In s₁.heap/\Ad W.M A (call (.ref f) vs) Q E s₁) E s)(he:Ap (e::rest) env=(false,eval e env)::Ap rest env)(hplain:(backTo pos (Ap rest env)).any (·.1)=false):Ad W.M A (callWith pos (.ref f) [] (backTo pos (Ap (e::rest) env)) []) Q E s:=aDk (first:=[]) hk h he hplain
theorem xB{pos:Pos}{f:Addr}{self:Value}{e:Expr}{rest:List Expr}{Q:Value->Ac->Prop}(hk:keepIn W.K (.ref f)=true)(h:Ad W.M A (spliced (backTo pos (Ap (e::rest) env))) (λ vs s₁=>W.K.In s₁.heap/\Ad W.M A (call (.ref f) (self::vs)) Q E s₁) E s)(he:Ap (e::rest) env=(false,eval e env)::Ap rest env)(hplain:(backTo pos (Ap rest env)).any (·.1)=false):Ad W.M A (callWith pos (.ref f) [self] (backTo pos (Ap (e::rest) env)) (backToKw pos (keywordEach [] env))) Q E s:=aDk (first:=[self]) hk h he hplain
inductive Pull {α:Type} (p:α):List α->List α->Prop
 | head {r}:Pull p (p::r) r
 | tail {q r r'}:Pull p r r'->Pull p (q::r) (q::r')
theorem Pull.perm{α:Type}{p:α}{l l':List α}(h:Pull p l l'):l.Perm (p::l'):=by
 induction h with
 | head=>exact List.Perm.refl _
 | tail h ih=>exact(List.Perm.cons _ ih).trans (List.Perm.swap ..)
noncomputable def Sel(L L2:Lg):Prop:=∃ rest,L.Perm (L2++rest)
theorem Sel.refl(L:Lg):Sel L L:=⟨[],by rw[Am]⟩
theorem Sel.drop{q:Addr×Cell}{L L2:Lg}(h:Sel L L2):Sel (q::L) L2:=by
 obtain⟨r,h⟩:=h;exact⟨q::r,(List.Perm.cons _ h).trans AM.symm⟩
theorem Sel.cons{p:Addr×Cell}{L L' L2:Lg}(hp:Pull p L L')(h:Sel L' L2):Sel L (p::L2):=by
 obtain⟨r,h⟩:=h;exact⟨r,hp.perm.trans (List.Perm.cons _ h)⟩
theorem Sel.of_perm{L L2:Lg}(h:L.Perm L2):Sel L L2:=⟨[],by rw[Am];exact h⟩
theorem Sel.trans{L L2 L3:Lg}(h:Sel L L2)(k:Sel L2 L3):Sel L L3:=by
 obtain⟨r,h⟩:=h;obtain⟨r',k⟩:=k;exact⟨r'++r,h.trans ((List.Perm.append_right r k).trans (by rw[Ah]))⟩
theorem Sta.sel{W:Wd}{G:Gens}{env:Env}{loc:Loc}{nw nw':Lg}{s:Ac}(S:Sta W G env loc nw s)(h:Sel nw nw'):Sta W G env loc nw' s:=by
 obtain⟨r,h⟩:=h;exact(S.perm h).sub (A7 _ _)
theorem dL{b:Bool}{P R:Prop}(h1:b=true->P)(h2:b=false->R):(if b=true then P else R):=by
 induction b with
 | true=>exact h1 rfl
 | false=>exact h2 rfl
theorem IntsAre.snoc{vs:List Value}{ns:List Int}(h:IntsAre vs ns)(n:Int)(t:Tok):IntsAre (vs++[.int n t]) (ns++[n]):=by
 induction h with
 | nil=>exact .cons n t .nil
 | cons m u h ih=>exact .cons m u ih
theorem IntsAre.unsnoc{vs:List Value}{ns:List Int}{n:Int}(h:IntsAre vs (ns++[n])):∃ vs' t,vs=vs'++[.int n t]/\IntsAre vs' ns:=by
 induction ns generalizing vs with
 | nil=>cases h with | cons n t h=>cases h;exact⟨[],t,rfl,.nil⟩
 | cons m r ih=>
  cases h with
  | cons m u h=>
   obtain⟨vs',t,e,k⟩:=ih h;exact⟨.int m u::vs',t,by rw[e];rfl,.cons m u k⟩
theorem IntsAre.length'{vs:List Value}{ns:List Int}(h:IntsAre vs ns):vs.length=ns.length:=by
 induction h with
 | nil=>rfl
 | cons m u h ih=>rw [AG,AG,ih]
theorem IntsAre.getAt{vs:List Value}{ns:List Int}(h:IntsAre vs ns):∀(k:Nat) (h:k<ns.length),∃ t,vs[k]?=some (.int ns[k] t):=by
 induction h with
 | nil=>intro k h;cases h
 | cons n t h ih=>
  intro k hk
  induction k with
  | zero=>exact⟨t,rfl⟩
  | succ k=>
   obtain⟨u,e⟩:=ih k (by simpa using hk);exact⟨u,by simpa using e⟩
theorem IntsAre.setAt{vs:List Value}{ns:List Int}(h:IntsAre vs ns):∀(k:Nat) (n:Int) (t:Tok),IntsAre (vs.set k (.int n t)) (ns.set k n):=by
 induction h with
 | nil=>intro k n t;exact .nil
 | cons m u h ih=>
  intro k n t
  induction k with
  | zero=>exact .cons n t h
  | succ k=>exact .cons m u (ih k n t)
theorem St0.kin(S:St0 W G nw s):W.K.In s.heap:=S.ok.kin.keeps S.led.keep
theorem St0.nolimit(S:St0 W G nw s):s.heap.NoLimit:=S.ok.nolimit.keeps S.led.keep
theorem St0.code_def{R:Result->Ac->Prop}{f:Addr}{name qual:Str}{st:Stmt}{dV kV doc pm cdv ct oc:Value}{an od:Option Addr}{osl:Array (Option Value)}{args:Args}{binds:List (Str×Value)}(rest:List Str)(S:St0 W G nw s)(hroom:A.depth<Bj)(ho:W.K.lookup f=some ⟨oc,od,.func (fnOf name qual (dY st) (aE st) (aD st) dV kV doc pm an cdv ct),osl⟩)(hcd:codeIn W.K cdv qual=true)(hbind:BindsTo s (fnOf name qual (dY st) (aE st) (aD st) dV kV doc pm an cdv ct) args binds)(hk:eB (aD st) (binds.map Prod.fst++rest)=true)(h:∀ L s',Sta W G (envOf qual (aD st) L f cdv) (aW binds rest) nw s'->
   Ad W.M (A.deeper (envOf qual (aD st) L f cdv)) (execs (aE st) (envOf qual (aD st) L f cdv)) (λ fl s''=>R (.ok (.ret (match fl with | .ret v=>v | _=>.none))) s'') (λ _ _=>False) s'):codeAny W.M A (.call (.ref f) args) R s:=by
 refine gQ hk ?_;clear hk;intro hkind hco hgen hcell hks hnd;have hks2:((aW binds rest).map Prod.fst)=binds.map Prod.fst++rest:=by
  simp[aW,AW,Function.comp_def]
 refine(codeAny_call_def (fd:=fnOf name qual (dY st) (aE st) (aD st) dV kV doc pm an cdv ct) (body:=aE st) (binds:=binds) hroom (S.kin _ _ ho) rfl S.nolimit (codeRec_of S.kin hcd) rfl hbind hcell
  (λ x hx=>(hks x.1 (Ak _ (Aj.mpr ⟨x,hx,rfl⟩))).1) (λ h₁ hns hkp=>?_) hco hgen hkind)
 have D:Led W.B ((s.heap.objs.size,aL (aW binds rest))::nw) h₁:=by
  obtain⟨o,es,ep,ho',hd,hsk,hf⟩:=hns;refine S.led.cons_new hkp S.led.size_ne S.led.size_new ho' ⟨by rw[hks2];exact hnd,es,ep,hd,hsk,λ x=>?_⟩;rw[hf x,fS _ _ (hnd.sublist (A7 _ _))]
 have S':Sta W G (envOf qual (aD st) s.heap.objs.size f cdv) (aW binds rest) nw { s with heap:=h₁,toks:=s.toks+binds.length }:=
  ⟨S.ok,by rw[hks2];exact⟨hkind,rfl,rfl,λ x hx=>(hks x hx).1,λ x hx=>(hks x hx).2,hnd⟩,D,S.bare,S.os,S.gens,S.gnd⟩
 exact As (h _ _ S') (λ fl s'' q=>q) (λ _ _ q=>q.elim)
theorem St0.code{R:Result->Ac->Prop}{f:Addr}{qual:Str}{st:Stmt}{dV kV cdv:Value}{pos:List Value}{kw:List (Str×Value)}{binds:List (Str×Value)}(rest:List Str)(S:St0 W G nw s)(hf:Fn W.K f st qual dV kV cdv)(hroom:A.depth<Bj)(hbind:oL s st qual dV kV cdv ⟨pos,kw⟩ binds)(hk:eB (aD st) (binds.map Prod.fst++rest)=true)(h:∀ L s',Sta W G (envOf qual (aD st) L f cdv) (aW binds rest) nw s'->
   Ad W.M (A.deeper (envOf qual (aD st) L f cdv)) (execs (aE st) (envOf qual (aD st) L f cdv)) (λ fl s''=>R (.ok (.ret (match fl with | .ret v=>v | _=>.none))) s'') (λ _ _=>False) s'):codeAny W.M A (.call (.ref f) ⟨pos,kw⟩) R s:=by
 refine yG hf.at_ ?_;intro name doc pm ct oc an od osl ho;exact S.code_def (args:=⟨pos,kw⟩) rest hroom ho hf.code (hbind _ _ _ _ _) hk h
theorem kn_postG{M:Model}{A:AL}{cd:Code}{s s₁:Ac}{cw:ClaimW}{cl:Str->Option Addr}{mean:ExcName->Option Value}{args:List WData}{tabs:List (Addr×Addr)}(hT:TabsAt tabs s₁.heap)(hr:∀ x,cw.raises args x=false)(hp:cw.post args (.bool true) args=true)(h:codeAny M A cd (λ r s'=>r=.ok (.ret (.bool true))/\(∀ b o,(ghostOf s₁.heap tabs).get? b=some o->s'.heap.get? b=some o)/\s'.os=s₁.os/\AllBare s'.gens/\GrownAll tabs s'.heap) s):codeAny M A cd (GoodWG cw cl mean args s₁) s:=
 codeAny_mono h λ r s' ⟨hr1,hk,hos,hg,hgr⟩=>by
  have grown:∀ b o,b∈tabs.map (·.2)->s₁.heap.get? b=some o->isCodeTable s₁.heap b/\o=tabObj #[]/\∃ ps,s'.heap.get? b=some (tabObj ps):=λ b o hb e=>by
   obtain⟨q,hq,rfl⟩:=Aj.mp hb;have e2:=(hT q hq).2;rw[e]at e2;exact⟨((hT q hq).1.tab (hT q hq).2).isCodeTable,Option.some.inj e2,hgr.get q hq⟩
  refine⟨.inl ⟨_,_,[],hr1,hr,ReadsW.bool true,hp,λ _=>⟨List.nodup_nil,λ _ hm=>(nomatch hm)⟩⟩,⟨λ b o e=>?_,λ b o e=>?_⟩,hos,hg⟩
  ·by_cases hb:b∈tabs.map (·.2)
   ·obtain⟨ht,rfl,q0⟩:=grown b o hb e;obtain⟨ps,hP⟩:=q0;exact .inr (.inl ⟨ht,rfl,#[],ps,rfl,by rw[Array.empty_append];exact hP⟩)
   ·exact .inl ((λ b o hb e=>hk b o (ghost_ne e hb)) b o hb e)
  ·by_cases hb:b∈tabs.map (·.2)
   ·obtain⟨_,_,q0⟩:=grown b o hb e;obtain⟨ps,hP⟩:=q0;exact⟨_,hP⟩
   ·exact⟨o,(λ b o hb e=>hk b o (ghost_ne e hb)) b o hb e⟩
noncomputable def tabLed(tabs:List (Addr×Addr)):Lg:=tabs.map λ q=>(q.2,kB [])
theorem sta0_of{W:Wd}{p:Program}{loose:List Str}{mean:ExcName->Option Value}{mg mb:Str->Option Value}{s₁:Ac}{tabs:List (Addr×Addr)}(hT:TabsAt tabs s₁.heap)(hn:(tabs.map (·.2)).Nodup)(X:W.K.In s₁.heap)(hK:noTabs W.K=true)(T:Top p loose mean mg mb s₁.heap)(hg:s₁.gens=#[])(hB:W.B=ghostOf s₁.heap tabs)(ho:W.os=s₁.os):St0 W [] (tabLed tabs) s₁:=by
 refine⟨⟨?_,?_⟩,⟨?_,?_,?_⟩,.of_eq hg,ho.symm,λ _ h=>by simp at h,List.nodup_nil⟩
 ·rw[hB];exact ghost_K hT X hK
 ·rw[hB];exact⟨_,_,_,_,ghost_top hT T⟩
 ·intro b o e;rw[hB]at e;exact of_hideAll _ e
 ·intro q hq;obtain⟨r,hr,rfl⟩:=Aj.mp hq;exact⟨by rw[hB];exact hideAll_none _ (List.mem_map_of_mem hr),_,(hT r hr).2,rfl⟩
 ·simpa[tabLed,AW,Function.comp_def]using hn
noncomputable def aR(K:Frag)(f:Addr):FuncData:=match K.lookup f with
 | some ⟨_,_,.func fd,_⟩=>fd
 | _=>default
noncomputable def bC(K:Frag)(f:Addr):Obj:=(K.lookup f).getD default
noncomputable def sfN:List Str:=["_write","_data","_with_comments","_strip_text","_exclude_attrs","_exclude_tags","_rewrite_prefixes","_qname_aware_tags","_find_qname_aware_attrs","_declared_ns_stack","_ns_stack","_prefix_map","_preserve_space","_pending_start","_root_seen","_root_done","_ignored_depth"]
theorem aCK:bootBuiltins "list"=some (.type "list"):=by kernel_rfl
theorem kU:bootBuiltins "len"=some (.builtin "len"):=by kernel_rfl
theorem aEM:bootBuiltins "sum"=some (.builtin "sum"):=by kernel_rfl
theorem rL:bootBuiltins "set"=some (.type "set"):=by kernel_rfl
theorem pV:bootBuiltins "sorted"=some (.builtin "sorted"):=by kernel_rfl
noncomputable abbrev pp:Program:=PySem.Challenge.pw_dn0284_02
noncomputable abbrev KK(P:Params):Frag:=hd.heap_1 P
structure IsC (W:Wd):Prop where
 k:W.K=KK W.w.params
noncomputable def stC:Stmt:=dF pp 6
noncomputable def wI:Stmt:=dF pp 7
theorem aCb(P:Params):Fn (KK P) 154 wI "_escape_cdata_c14n" .none .none (.ref 153):=
 ⟨⟨(aR (KK P) 154).name,(aR (KK P) 154).doc,(aR (KK P) 154).pyModule,(aR (KK P) 154).closureTuple,(bC (KK P) 154).cls,(aR (KK P) 154).annotations,(bC (KK P) 154).dict,(bC (KK P) 154).slots,by kernel_rfl⟩,by kernel_rfl⟩
theorem IsC.f_escC{W:Wd}(I:IsC W):Fn W.K 154 wI "_escape_cdata_c14n" .none .none (.ref 153):=by rw[I.k];exact aCb _
theorem IsC.g_escC{W:Wd}(I:IsC W):nsIn W.K AS "_escape_cdata_c14n"=some (some (.ref 154)):=by rw[I.k];kernel_rfl
noncomputable def wJ:Stmt:=dF pp 8
theorem aCc(P:Params):Fn (KK P) 161 wJ "_escape_attrib_c14n" .none .none (.ref 160):=
 ⟨⟨(aR (KK P) 161).name,(aR (KK P) 161).doc,(aR (KK P) 161).pyModule,(aR (KK P) 161).closureTuple,(bC (KK P) 161).cls,(aR (KK P) 161).annotations,(bC (KK P) 161).dict,(bC (KK P) 161).slots,by kernel_rfl⟩,by kernel_rfl⟩
theorem IsC.f_escA{W:Wd}(I:IsC W):Fn W.K 161 wJ "_escape_attrib_c14n" .none .none (.ref 160):=by rw[I.k];exact aCc _
theorem IsC.g_escA{W:Wd}(I:IsC W):nsIn W.K AS "_escape_attrib_c14n"=some (some (.ref 161)):=by rw[I.k];kernel_rfl
noncomputable def cV:Stmt:=dF pp 17
theorem aEu(P:Params):Fn (KK P) 211 cV "law" .none .none (.ref 210):=
 ⟨⟨(aR (KK P) 211).name,(aR (KK P) 211).doc,(aR (KK P) 211).pyModule,(aR (KK P) 211).closureTuple,(bC (KK P) 211).cls,(aR (KK P) 211).annotations,(bC (KK P) 211).dict,(bC (KK P) 211).slots,by kernel_rfl⟩,by kernel_rfl⟩
theorem IsC.f_law{W:Wd}(I:IsC W):Fn W.K 211 cV "law" .none .none (.ref 210):=by rw[I.k];exact aEu _
noncomputable def cS:Stmt:=dF pp 10
theorem rB(P:Params):Fn (KK P) 166 cS "_law_spelled" .none .none (.ref 165):=
 ⟨⟨(aR (KK P) 166).name,(aR (KK P) 166).doc,(aR (KK P) 166).pyModule,(aR (KK P) 166).closureTuple,(bC (KK P) 166).cls,(aR (KK P) 166).annotations,(bC (KK P) 166).dict,(bC (KK P) 166).slots,by kernel_rfl⟩,by kernel_rfl⟩
theorem IsC.f_l_spelled{W:Wd}(I:IsC W):Fn W.K 166 cS "_law_spelled" .none .none (.ref 165):=by rw[I.k];exact rB _
theorem IsC.g_l_spelled{W:Wd}(I:IsC W):nsIn W.K AS "_law_spelled"=some (some (.ref 166)):=by rw[I.k];kernel_rfl
noncomputable def bV:Stmt:=dF pp 15
theorem vQ(P:Params):Fn (KK P) 199 bV "_law_calls" .none .none (.ref 198):=
 ⟨⟨(aR (KK P) 199).name,(aR (KK P) 199).doc,(aR (KK P) 199).pyModule,(aR (KK P) 199).closureTuple,(bC (KK P) 199).cls,(aR (KK P) 199).annotations,(bC (KK P) 199).dict,(bC (KK P) 199).slots,by kernel_rfl⟩,by kernel_rfl⟩
theorem IsC.f_l_calls{W:Wd}(I:IsC W):Fn W.K 199 bV "_law_calls" .none .none (.ref 198):=by rw[I.k];exact vQ _
theorem IsC.g_l_calls{W:Wd}(I:IsC W):nsIn W.K AS "_law_calls"=some (some (.ref 199)):=by rw[I.k];kernel_rfl
noncomputable def kF:Stmt:=dF pp 16
theorem yR(P:Params):Fn (KK P) 206 kF "_law_tell" .none .none (.ref 205):=
 ⟨⟨(aR (KK P) 206).name,(aR (KK P) 206).doc,(aR (KK P) 206).pyModule,(aR (KK P) 206).closureTuple,(bC (KK P) 206).cls,(aR (KK P) 206).annotations,(bC (KK P) 206).dict,(bC (KK P) 206).slots,by kernel_rfl⟩,by kernel_rfl⟩
theorem IsC.f_l_tell{W:Wd}(I:IsC W):Fn W.K 206 kF "_law_tell" .none .none (.ref 205):=by rw[I.k];exact yR _
theorem IsC.g_l_tell{W:Wd}(I:IsC W):nsIn W.K AS "_law_tell"=some (some (.ref 206)):=by rw[I.k];kernel_rfl
noncomputable def fP:Stmt:=dF pp 11
theorem yQ(P:Params):Fn (KK P) 173 fP "_law_text" .none .none (.ref 172):=
 ⟨⟨(aR (KK P) 173).name,(aR (KK P) 173).doc,(aR (KK P) 173).pyModule,(aR (KK P) 173).closureTuple,(bC (KK P) 173).cls,(aR (KK P) 173).annotations,(bC (KK P) 173).dict,(bC (KK P) 173).slots,by kernel_rfl⟩,by kernel_rfl⟩
theorem IsC.f_l_text{W:Wd}(I:IsC W):Fn W.K 173 fP "_law_text" .none .none (.ref 172):=by rw[I.k];exact yQ _
theorem IsC.g_l_text{W:Wd}(I:IsC W):nsIn W.K AS "_law_text"=some (some (.ref 173)):=by rw[I.k];kernel_rfl
noncomputable def iO:Stmt:=dF pp 12
theorem vP(P:Params):Fn (KK P) 180 iO "_law_order" .none .none (.ref 179):=
 ⟨⟨(aR (KK P) 180).name,(aR (KK P) 180).doc,(aR (KK P) 180).pyModule,(aR (KK P) 180).closureTuple,(bC (KK P) 180).cls,(aR (KK P) 180).annotations,(bC (KK P) 180).dict,(bC (KK P) 180).slots,by kernel_rfl⟩,by kernel_rfl⟩
theorem IsC.f_l_order{W:Wd}(I:IsC W):Fn W.K 180 iO "_law_order" .none .none (.ref 179):=by rw[I.k];exact vP _
theorem IsC.g_l_order{W:Wd}(I:IsC W):nsIn W.K AS "_law_order"=some (some (.ref 180)):=by rw[I.k];kernel_rfl
noncomputable def eP:Stmt:=dF pp 13
theorem vO(P:Params):Fn (KK P) 187 eP "_law_start" .none .none (.ref 186):=
 ⟨⟨(aR (KK P) 187).name,(aR (KK P) 187).doc,(aR (KK P) 187).pyModule,(aR (KK P) 187).closureTuple,(bC (KK P) 187).cls,(aR (KK P) 187).annotations,(bC (KK P) 187).dict,(bC (KK P) 187).slots,by kernel_rfl⟩,by kernel_rfl⟩
theorem IsC.f_l_start{W:Wd}(I:IsC W):Fn W.K 187 eP "_law_start" .none .none (.ref 186):=by rw[I.k];exact vO _
theorem IsC.g_l_start{W:Wd}(I:IsC W):nsIn W.K AS "_law_start"=some (some (.ref 187)):=by rw[I.k];kernel_rfl
noncomputable def gB:Stmt:=dF pp 14
theorem rC(P:Params):Fn (KK P) 194 gB "_law_outside" .none .none (.ref 193):=
 ⟨⟨(aR (KK P) 194).name,(aR (KK P) 194).doc,(aR (KK P) 194).pyModule,(aR (KK P) 194).closureTuple,(bC (KK P) 194).cls,(aR (KK P) 194).annotations,(bC (KK P) 194).dict,(bC (KK P) 194).slots,by kernel_rfl⟩,by kernel_rfl⟩
theorem IsC.f_l_outside{W:Wd}(I:IsC W):Fn W.K 194 gB "_law_outside" .none .none (.ref 193):=by rw[I.k];exact rC _
theorem IsC.g_l_outside{W:Wd}(I:IsC W):nsIn W.K AS "_law_outside"=some (some (.ref 194)):=by rw[I.k];kernel_rfl
noncomputable def mB:Stmt:=cZ stC 0
theorem aCa(P:Params):Fn (KK P) 60 mB "C14NWriterTarget.__init__" .none (.ref 53) (.ref 59):=
 ⟨⟨(aR (KK P) 60).name,(aR (KK P) 60).doc,(aR (KK P) 60).pyModule,(aR (KK P) 60).closureTuple,(bC (KK P) 60).cls,(aR (KK P) 60).annotations,(bC (KK P) 60).dict,(bC (KK P) 60).slots,by kernel_rfl⟩,by kernel_rfl⟩
theorem IsC.f_init{W:Wd}(I:IsC W):Fn W.K 60 mB "C14NWriterTarget.__init__" .none (.ref 53) (.ref 59):=by rw[I.k];exact aCa _
noncomputable def mA:Stmt:=cZ stC 1
theorem aB9(P:Params):Fn (KK P) 68 mA "C14NWriterTarget._iter_namespaces" (.ref 61) .none (.ref 67):=
 ⟨⟨(aR (KK P) 68).name,(aR (KK P) 68).doc,(aR (KK P) 68).pyModule,(aR (KK P) 68).closureTuple,(bC (KK P) 68).cls,(aR (KK P) 68).annotations,(bC (KK P) 68).dict,(bC (KK P) 68).slots,by kernel_rfl⟩,by kernel_rfl⟩
theorem IsC.f_iter{W:Wd}(I:IsC W):Fn W.K 68 mA "C14NWriterTarget._iter_namespaces" (.ref 61) .none (.ref 67):=by rw[I.k];exact aB9 _
noncomputable def gA:Stmt:=cZ stC 2
theorem vN(P:Params):Fn (KK P) 75 gA "C14NWriterTarget._resolve_prefix_name" .none .none (.ref 74):=
 ⟨⟨(aR (KK P) 75).name,(aR (KK P) 75).doc,(aR (KK P) 75).pyModule,(aR (KK P) 75).closureTuple,(bC (KK P) 75).cls,(aR (KK P) 75).annotations,(bC (KK P) 75).dict,(bC (KK P) 75).slots,by kernel_rfl⟩,by kernel_rfl⟩
theorem IsC.f_resolve{W:Wd}(I:IsC W):Fn W.K 75 gA "C14NWriterTarget._resolve_prefix_name" .none .none (.ref 74):=by rw[I.k];exact vN _
noncomputable def cB:Stmt:=cZ stC 3
theorem aAZ(P:Params):Fn (KK P) 83 cB "C14NWriterTarget._qname" (.ref 76) .none (.ref 82):=
 ⟨⟨(aR (KK P) 83).name,(aR (KK P) 83).doc,(aR (KK P) 83).pyModule,(aR (KK P) 83).closureTuple,(bC (KK P) 83).cls,(aR (KK P) 83).annotations,(bC (KK P) 83).dict,(bC (KK P) 83).slots,by kernel_rfl⟩,by kernel_rfl⟩
theorem IsC.f_qname{W:Wd}(I:IsC W):Fn W.K 83 cB "C14NWriterTarget._qname" (.ref 76) .none (.ref 82):=by rw[I.k];exact aAZ _
noncomputable def wK:Stmt:=cZ stC 4
theorem aCd(P:Params):Fn (KK P) 90 wK "C14NWriterTarget.data" .none .none (.ref 89):=
 ⟨⟨(aR (KK P) 90).name,(aR (KK P) 90).doc,(aR (KK P) 90).pyModule,(aR (KK P) 90).closureTuple,(bC (KK P) 90).cls,(aR (KK P) 90).annotations,(bC (KK P) 90).dict,(bC (KK P) 90).slots,by kernel_rfl⟩,by kernel_rfl⟩
theorem IsC.f_data{W:Wd}(I:IsC W):Fn W.K 90 wK "C14NWriterTarget.data" .none .none (.ref 89):=by rw[I.k];exact aCd _
noncomputable def bN:Stmt:=cZ stC 5
theorem aA0(P:Params):Fn (KK P) 99 bN "C14NWriterTarget._flush" (.ref 92) .none (.ref 98):=
 ⟨⟨(aR (KK P) 99).name,(aR (KK P) 99).doc,(aR (KK P) 99).pyModule,(aR (KK P) 99).closureTuple,(bC (KK P) 99).cls,(aR (KK P) 99).annotations,(bC (KK P) 99).dict,(bC (KK P) 99).slots,by kernel_rfl⟩,by kernel_rfl⟩
theorem IsC.f_flush{W:Wd}(I:IsC W):Fn W.K 99 bN "C14NWriterTarget._flush" (.ref 92) .none (.ref 98):=by rw[I.k];exact aA0 _
noncomputable def fZ:Stmt:=cZ stC 6
theorem vM(P:Params):Fn (KK P) 106 fZ "C14NWriterTarget.start_ns" .none .none (.ref 105):=
 ⟨⟨(aR (KK P) 106).name,(aR (KK P) 106).doc,(aR (KK P) 106).pyModule,(aR (KK P) 106).closureTuple,(bC (KK P) 106).cls,(aR (KK P) 106).annotations,(bC (KK P) 106).dict,(bC (KK P) 106).slots,by kernel_rfl⟩,by kernel_rfl⟩
theorem IsC.f_startNs{W:Wd}(I:IsC W):Fn W.K 106 fZ "C14NWriterTarget.start_ns" .none .none (.ref 105):=by rw[I.k];exact vM _
noncomputable def dG:Stmt:=cZ stC 7
theorem aAY(P:Params):Fn (KK P) 113 dG "C14NWriterTarget.start" .none .none (.ref 112):=
 ⟨⟨(aR (KK P) 113).name,(aR (KK P) 113).doc,(aR (KK P) 113).pyModule,(aR (KK P) 113).closureTuple,(bC (KK P) 113).cls,(aR (KK P) 113).annotations,(bC (KK P) 113).dict,(bC (KK P) 113).slots,by kernel_rfl⟩,by kernel_rfl⟩
theorem IsC.f_start{W:Wd}(I:IsC W):Fn W.K 113 dG "C14NWriterTarget.start" .none .none (.ref 112):=by rw[I.k];exact aAY _
noncomputable def aQ:Stmt:=cZ stC 8
theorem yP(P:Params):Fn (KK P) 119 aQ "C14NWriterTarget._start" (.ref 114) .none (.ref 118):=
 ⟨⟨(aR (KK P) 119).name,(aR (KK P) 119).doc,(aR (KK P) 119).pyModule,(aR (KK P) 119).closureTuple,(bC (KK P) 119).cls,(aR (KK P) 119).annotations,(bC (KK P) 119).dict,(bC (KK P) 119).slots,by kernel_rfl⟩,by kernel_rfl⟩
theorem IsC.f_start1{W:Wd}(I:IsC W):Fn W.K 119 aQ "C14NWriterTarget._start" (.ref 114) .none (.ref 118):=by rw[I.k];exact yP _
noncomputable def qC:Stmt:=cZ stC 9
theorem aEv(P:Params):Fn (KK P) 126 qC "C14NWriterTarget.end" .none .none (.ref 125):=
 ⟨⟨(aR (KK P) 126).name,(aR (KK P) 126).doc,(aR (KK P) 126).pyModule,(aR (KK P) 126).closureTuple,(bC (KK P) 126).cls,(aR (KK P) 126).annotations,(bC (KK P) 126).dict,(bC (KK P) 126).slots,by kernel_rfl⟩,by kernel_rfl⟩
theorem IsC.f_end{W:Wd}(I:IsC W):Fn W.K 126 qC "C14NWriterTarget.end" .none .none (.ref 125):=by rw[I.k];exact aEv _
noncomputable def eQ:Stmt:=cZ stC 10
theorem vR(P:Params):Fn (KK P) 133 eQ "C14NWriterTarget.comment" .none .none (.ref 132):=
 ⟨⟨(aR (KK P) 133).name,(aR (KK P) 133).doc,(aR (KK P) 133).pyModule,(aR (KK P) 133).closureTuple,(bC (KK P) 133).cls,(aR (KK P) 133).annotations,(bC (KK P) 133).dict,(bC (KK P) 133).slots,by kernel_rfl⟩,by kernel_rfl⟩
theorem IsC.f_comment{W:Wd}(I:IsC W):Fn W.K 133 eQ "C14NWriterTarget.comment" .none .none (.ref 132):=by rw[I.k];exact vR _
noncomputable def rW:Stmt:=cZ stC 11
theorem fn_pi(P:Params):Fn (KK P) 140 rW "C14NWriterTarget.pi" .none .none (.ref 139):=
 ⟨⟨(aR (KK P) 140).name,(aR (KK P) 140).doc,(aR (KK P) 140).pyModule,(aR (KK P) 140).closureTuple,(bC (KK P) 140).cls,(aR (KK P) 140).annotations,(bC (KK P) 140).dict,(bC (KK P) 140).slots,by kernel_rfl⟩,by kernel_rfl⟩
theorem IsC.f_pi{W:Wd}(I:IsC W):Fn W.K 140 rW "C14NWriterTarget.pi" .none .none (.ref 139):=by rw[I.k];exact fn_pi _
theorem IsC.g_cls{W:Wd}(I:IsC W):nsIn W.K AS "C14NWriterTarget"=some (some (.ref 143)):=by rw[I.k];kernel_rfl
theorem IsC.g_map{W:Wd}(I:IsC W):nsIn W.K AS "_namespace_map"=some (some (.ref 37)):=by rw[I.k];kernel_rfl
theorem IsC.g_looks{W:Wd}(I:IsC W):nsIn W.K AS "_looks_like_prefix_name"=some (some (.ref 45)):=by rw[I.k];kernel_rfl
theorem IsC.b_list{W:Wd}(I:IsC W):nsIn W.K AS "list"=some none:=by rw[I.k];kernel_rfl
theorem IsC.b_len{W:Wd}(I:IsC W):nsIn W.K AS "len"=some none:=by rw[I.k];kernel_rfl
theorem IsC.b_sum{W:Wd}(I:IsC W):nsIn W.K AS "sum"=some none:=by rw[I.k];kernel_rfl
theorem IsC.b_set{W:Wd}(I:IsC W):nsIn W.K AS "set"=some none:=by rw[I.k];kernel_rfl
theorem IsC.b_sorted{W:Wd}(I:IsC W):nsIn W.K AS "sorted"=some none:=by rw[I.k];kernel_rfl
theorem cl_C(P:Params):Cl (KK P) 143 sfN where
 ga:=by kernel_rfl
 gh:=by kernel_rfl
 sa:=by kernel_rfl
 plain:=by kernel_rfl
 dict:=by kernel_rfl
 own:=by
  intro n hn;simp only[sfN,Ax,Bx,or_false]at hn;rcases hn with rfl | rfl | rfl | rfl | rfl | rfl | rfl | rfl | rfl | rfl | rfl | rfl | rfl | rfl | rfl | rfl | rfl<;>kernel_rfl
theorem IsC.cl{W:Wd}(I:IsC W):Cl W.K 143 sfN:=by rw[I.k];exact cl_C _
noncomputable def dR(f:Nat->List Nat)(x:Str):Str:=⟨(x.cps.toList.flatMap f).toArray⟩
theorem Str.ext'{a b:Str}(h:a.cps.toList=b.cps.toList):a=b:=by
 obtain⟨⟨a⟩⟩:=a;obtain⟨⟨b⟩⟩:=b;cases h;rfl
theorem yI(f:Nat->List Nat)(x:Str):(dR f x).cps.toList=x.cps.toList.flatMap f:=rfl
theorem sR(f:Nat->List Nat)(a b:Str):dR f (a++b)=dR f a++dR f b:=by
 apply Str.ext';simp[dR,Str.cps_append]
theorem pK(f g:Nat->List Nat)(x:Str):dR f (dR g x)=dR (λ c=>(g c).flatMap f) x:=by
 apply Str.ext';simp[dR,List.flatMap_assoc]
theorem qR(x:Str):dR (λ c=>[c]) x=x:=by
 apply Str.ext';simp[dR]
theorem nX{α β:Type}(f:α->List β)(k:Nat)(h:∀ c,(f c).length<=k):∀ l:List α,(l.flatMap f).length<=k*l.length
 | []=>by simp
 | c::r=>by
  have h1:=nX f k h r;have h2:=h c;rw[List.flatMap_cons,Ag,AG];walk_at "o"
theorem Str.len_list(x:Str):x.length=x.cps.toList.length:=by simp[Str.length]
theorem nE(f:Nat->List Nat)(k:Nat)(h:∀ c,(f c).length<=k)(x:Str):(dR f x).length<=k*x.length:=by
 rw[Str.len_list,Str.len_list,yI];exact nX f k h _
noncomputable def r1(c:Nat)(z:List Nat)(k:Nat):List Nat:=if k=c then z else[k]
theorem jJ(c:Nat)(z:List Nat):∀ l:List Nat,c∉l->l.flatMap (r1 c z)=l
 | [],_=>rfl
 | k::r,h=>by
  have h1:¬k=c:=λ e=>h (e▸List.mem_cons_self ..);have h2:c∉r:=λ m=>h (BE _ m);rw[List.flatMap_cons,jJ c z r h2];simp[r1,h1]
theorem wN(c:Nat)(z:Str):∀ parts:List Str,(∀ p∈parts,c∉p.cps.toList)->(Str.join ⟨#[c]⟩ parts).cps.toList.flatMap (r1 c z.cps.toList)=(Str.join z parts).cps.toList
 | [],_=>rfl
 | [p],h=>jJ c _ _ (h p (AA.mpr rfl))
 | p::q::r,h=>by
  have ih:=wN c z (q::r) λ a ha=>h a (BE _ ha);show(p++⟨#[c]⟩++Str.join ⟨#[c]⟩ (q::r)).cps.toList.flatMap _=(p++z++Str.join z (q::r)).cps.toList;simp only[Str.cps_append,Array.toList_append,List.flatMap_append]
  rw[ih,jJ c _ _ (h p (List.mem_cons_self ..))];simp[r1]
theorem uQ(x z:Str)(c:Nat):Txt.replace x ⟨#[c]⟩ z=dR (r1 c z.cps.toList) x:=by
 apply Str.ext';rw[StrLaws.replace_one,←wN c z _ (StrLaws.split_free x c),StrLaws.join_split]
 rfl
theorem yJ{x:Str}{c:Nat}{z:List Nat}(h:c∉x.cps.toList):dR (r1 c z) x=x:=Str.ext' (jJ c z _ h)
noncomputable def fC(c:Nat):List Nat:=if c=38 then[38,97,109,112,59]else if c=60 then[38,108,116,59]else if c=62 then[38,103,116,59]else if c=13 then[38,35,120,68,59]else[c]
noncomputable def fA(c:Nat):List Nat:=if c=38 then[38,97,109,112,59]else if c=60 then[38,108,116,59]else if c=34 then[38,113,117,111,116,59]else if c=9 then[38,35,120,57,59]else if c=10 then[38,35,120,65,59]else if c=13 then[38,35,120,68,59]else[c]
noncomputable def dS(x:Str):Str:=dR fC x
noncomputable def aCn(x:Str):Str:=dR fA x
noncomputable def ch:List (Nat×List Nat)->Nat->List Nat
 | [],c=>[c]
 | p::rs,c=>if c=p.1 then p.2 else ch rs c
theorem wA(c:Nat):∀ rs:List (Nat×List Nat),rs.all (λ p=>Bo p.2.length 6)=true->(ch rs c).length<=6:=by
 intro rs
 induction rs with
 | nil=>intro _;exact Ar rfl
 | cons p rs ih=>
  intro h;have h:=Bool.and_eq_true_iff.mp h
  by_cases e:c=p.1
  ·exact Al (Bf (congrArg A8 (if_pos e))) (Ar h.1)
  ·exact Al (Bf (congrArg A8 (if_neg e))) (ih h.2)
theorem aCx(k:Nat)(z:List Nat)(c:Nat):∀ rs:List (Nat×List Nat),rs.all (λ p=>!p.2.contains k)=true->(ch rs c).flatMap (r1 k z)=ch (rs++[(k,z)]) c:=by
 intro rs
 induction rs with
 | nil=>intro _;exact Am _
 | cons p rs ih=>
  intro h;have h:=Bool.and_eq_true_iff.mp h
  by_cases e:c=p.1
  ·refine(congrArg (List.flatMap (r1 k z)) (if_pos e:ch (p::rs) c=p.2)).trans (Eq.trans (jJ k z _ λ m=>?_) (if_pos e).symm);exact AY (((congrArg not (List.contains_iff_mem.mpr m)).symm.trans h.1))
  ·exact(congrArg (List.flatMap (r1 k z)) (if_neg e:ch (p::rs) c=ch rs c)).trans ((ih h.2).trans (if_neg e).symm)
theorem aBY{rs:List (Nat×List Nat)}{k:Nat}{z:List Nat}(h:rs.all (λ p=>!p.2.contains k)=true)(x:Str):dR (r1 k z) (dR (ch rs) x)=dR (ch (rs++[(k,z)])) x:=
 (pK _ _ x).trans (congrArg (dR · x) (funext λ c=>aCx k z c rs h))
theorem aEz(c:Nat):(fC c).length<=6:=wA c [(38,[38,97,109,112,59]),(60,[38,108,116,59]),(62,[38,103,116,59]),(13,[38,35,120,68,59])] rfl
theorem aEA(c:Nat):(fA c).length<=6:=wA c [(38,[38,97,109,112,59]),(60,[38,108,116,59]),(34,[38,113,117,111,116,59]),(9,[38,35,120,57,59]),(10,[38,35,120,65,59]),(13,[38,35,120,68,59])] rfl
noncomputable def txL:Nat:=300000
theorem Sta.strT{x:Str}{k:Nat}{pos:Pos}{Q:Value->Ac->Prop}{M:Model}(S:Sta W G env loc nw s)(h:∀ s',Sta W G env loc nw s'->s'.toks=s.toks+1->Q (.str x s.toks) s'):Ad M A (eval (.Constant (.str x) k pos) env) Q E s:=
 wpAny_Constant_str (h _ (S.toks _) rfl)
theorem Sta.replace_{x z:Str}{c:Nat}{y:Str}{t u v:Tok}{Q:Value->Ac->Prop}(S:Sta W G env loc nw s)(hy:y=⟨#[c]⟩)(hu:u≠0)(hv:v≠0)(huv:u≠v)(hyz:(y==z)=false)(hx:x.length<=6*txL)(hz:z.length<=6)(h:∀ t' s',Sta W G env loc nw s'->Q (.str (dR (r1 c z.cps.toList) x) t') s'):Ad W.M A (call (.builtin "str.replace") [.str x t,.str y u,.str z v]) Q E s:=by
 subst hy;refine SC.replace hu hv huv hyz ?_ λ t' k=>?_
 ·have h1:(x.length+1)*z.length<=(x.length+1)*6:=Bm _ hz;unfold txL at hx;walk_at "o"
 ·rw[uQ];exact h _ _ (S.toks k)
theorem Sta.inStr{x y:Str}{c:Nat}{t u:Tok}{Q:Value->Ac->Prop}(hy:y=⟨#[c]⟩)(h1:c∈x.cps.toList->Q (.bool true) s)(h2:c∉x.cps.toList->Q (.bool false) s):Ad W.M A (compareOp .In (.str y u) (.str x t)) Q E s:=by
 subst hy;refine PyProof.Rows.in_str ?_;rw[StrLaws.found_one]
 by_cases h:c∈x.cps.toList
 ·rw[decide_eq_true h];exact h1 h
 ·rw[decide_eq_false h];exact h2 h
inductive TxA:List Value->List Str->Prop
 | nil:TxA [] []
 | cons {vs ss} (x:Str) (t:Tok):TxA vs ss->TxA (.str x t::vs) (x::ss)
theorem TxA.snoc{vs:List Value}{ss:List Str}(h:TxA vs ss)(x:Str)(t:Tok):TxA (vs++[.str x t]) (ss++[x]):=by
 induction h with
 | nil=>exact .cons x t .nil
 | cons y u h ih=>exact .cons y u ih
theorem TxA.length{vs:List Value}{ss:List Str}(h:TxA vs ss):vs.length=ss.length:=by
 induction h with
 | nil=>rfl
 | cons y u h ih=>rw [AG,AG,ih]
theorem TxA.values{vs:List Value}{ss:List Str}(h:TxA vs ss):∃ l:List (Str×Tok),vs=strValues l/\l.map (·.1)=ss:=by
 induction h with
 | nil=>exact⟨[],rfl,rfl⟩
 | cons x t h ih=>
  obtain⟨l,e1,e2⟩:=ih;exact⟨(x,t)::l,by rw[e1];rfl,by rw[←e2];rfl⟩
theorem TxA.drop{vs:List Value}{ss:List Str}(h:TxA vs ss):∀ k,TxA (vs.drop k) (ss.drop k):=by
 induction h with
 | nil=>intro k;rw[List.drop_nil,List.drop_nil];exact .nil
 | cons y u h ih=>
  intro k
  induction k with
  | zero=>exact .cons y u h
  | succ k=>exact ih k
noncomputable def aB(ss:List Str):Cell:=λ o=>∃ vs,TxA vs ss/\aA vs o
noncomputable def cat:List Str->Str
 | []=>Str.empty
 | x::r=>x++cat r
theorem bS:∀ a b:List Str,cat (a++b)=cat a++cat b:=by
 intro l0
 induction l0 with
 | nil=>
  intro b;exact(Str.empty_append _).symm
 | cons x r ih=>
  intro b;show x++cat (r++b)=x++cat r++cat b;rw[ih b,Str.append_assoc]
theorem oF:∀ l:List Str,Txt.join Str.empty l=cat l
 | []=>rfl
 | [x]=>by
  show x=x++Str.empty;rw[Str.append_empty]
 | x::y::r=>by
  have ih:=oF (y::r);unfold Txt.join at ih ⊢;rw[StrLaws.glued_eq_join]at ih ⊢;show x++Str.empty++Str.join Str.empty (y::r)=x++cat (y::r);rw[ih,Str.append_empty]
theorem rK:∀ l:List Str,(cat l).length=(l.map (·.length)).sum:=by
 intro l0
 induction l0 with
 | nil=>
  exact rfl
 | cons x r ih=>
  show(x++cat r).length=_;rw[Str.length_append,ih];simp
theorem nR{l:List Str}(h:(cat l).length<=16777216):JoinOk Str.empty l=true:=by
 unfold JoinOk;rw[StrLaws.joinTotal,←rK];have e:Str.empty.length=0:=rfl;rw[e,Nat.mul_zero,Nat.add_zero];have hh:Builtin.Str.tooLong (cat l).length=false:=by
  unfold Builtin.Str.tooLong AC;exact decide_eq_false (by walk_at "o")
 rw[hh];rfl
theorem Upd.via2{a:Addr}{c c':Cell}{l l':Lg}(h:Upd a c c' l l'):∀ c1,∃ l1,Upd a c c1 l l1/\Upd a c1 c' l1 l':=by
 induction h with
 | head=>exact λ c1=>⟨_,.head,.head⟩
 | tail h ih=>
  intro c1;obtain⟨l1,h1,h2⟩:=ih c1;exact⟨_,.tail h1,.tail h2⟩
theorem Sta.tell{a:Addr}{c c':Cell}(S:Sta W G env loc nw s)(U:Upd a c c' nw nw')(h:∀ o,s.heap.get? a=some o->c o->c' o):Sta W G env loc nw' s:=by
 obtain⟨o,ho,hc⟩:=S.get U.mem;exact S.set U (λ b o _ e=>e) ho (h o ho hc) s.toks
theorem Sta.openT{a:Addr}{ss:List Str}{c':Cell}(S:Sta W G env loc nw s)(U:Upd a (aB ss) c' nw nw'):∃ vs nw1,TxA vs ss/\Upd a (aB ss) (aA vs) nw nw1/\Upd a (aA vs) c' nw1 nw'/\Sta W G env loc nw1 s:=by
 obtain⟨o,ho,q0⟩:=S.get U.mem;obtain⟨vs,ht,hl⟩:=q0;obtain⟨nw1,U1,U2⟩:=U.via2 (aA vs);exact⟨vs,nw1,ht,U1,U2,S.tell U1 λ o' ho' _=>by rw[ho]at ho';cases ho';exact hl⟩
theorem Sta.txts{a:Addr}{ss:List Str}(S:Sta W G env loc nw s)(m:(a,aB ss)∈nw):∃ vs,TxA vs ss/\s.heap.IsList a vs.toArray:=by
 obtain⟨o,ho,q0⟩:=S.get m;obtain⟨vs,ht,q0⟩:=q0;obtain⟨n,rfl⟩:=q0;exact⟨vs,ht,_,ho,rfl,n,rfl⟩
theorem Sta.appendT{a:Addr}{ss:List Str}{x:Str}{t:Tok}{Q:Value->Ac->Prop}(S:Sta W G env loc nw s)(U:Upd a (aB ss) (aB (ss++[x])) nw nw')(hz:ss.length<=AC)(h:∀ s',Sta W G env loc nw' s'->Q .none s'):Ad W.M A (call (.builtin "list.append") [.ref a,.str x t]) Q E s:=by
 obtain⟨vs,nw1,ht,U1,U2,S1⟩:=S.openT U;obtain⟨nw2,U3,U4⟩:=U2.via2 (aA (vs++[.str x t]));exact S1.append U3 (by rw[ht.length];exact hz) λ s' S2=>h _ (S2.tell U4 λ o _ ho=>⟨_,ht.snoc x t,ho⟩)
theorem Sta.joinT{a:Addr}{ss:List Str}{x:Str}{t:Tok}{Q:Value->Ac->Prop}(S:Sta W G env loc nw s)(m:(a,aB ss)∈nw)(hx:x=Str.empty)(hz:(cat ss).length<=16777216)(h:∀ t' s',Sta W G env loc nw s'->Q (.str (cat ss) t') s'):Ad W.M A (call (.builtin "str.join") [.str x t,.ref a]) Q E s:=by
 subst hx;obtain⟨vs,ht,hl⟩:=S.txts m;obtain⟨l,e1,e2⟩:=ht.values;rw[e1]at hl;refine SC.join hl e2 (nR hz) λ t' k=>?_;rw[oF];exact h _ _ (S.toks k)
theorem jC{p:Addr}{id:String}{self:Value}{pos:List Value}{R:Result->Ac->Prop}{b:Builtin}(hq:plainId id=true)(hb:entryFor table id=some b)(ho:s.heap.get? p=some { cls:=.type "builtin_function_or_method",data:=.fields #[.builtin id,self] })(hc:∀(A':AL) (Q':Unit->Ac->Prop) (E':Value->Ac->Prop),Q' () s->Ad W.M A' (checkBoundCall id ⟨self::pos,[]⟩) Q' E' s)(h:Ad W.M A.in1 (b ⟨self::pos,[]⟩)
   (λ fin s'=>match fin with | .done f=>R (.ok f) s' | .again c'=>c'.quiet=true/\codeAny W.M A c' R s') (λ e s'=>R (.error e) s') s):codeAny W.M A (.call (.ref p) ⟨pos,[]⟩) R s:=by
 obtain⟨hh,g,dr,t,os⟩:=s;refine codeAny_of_tree ?_;dsimp only at ho;refine nd_load ho ?_;show Ad _ _ (checkBoundCall id ⟨self::pos,[]⟩ >>= λ _=>again (Code.builtin id ⟨self::pos,[]⟩)) _ _ _;refine Aa (hc _ _ _ ?_);refine Ae ⟨plainId_quiet hq _,codeAny_builtin hb ?_⟩;rw[Around.under_plainId hq];exact h
theorem rJ{a:Addr}{v:Value}{h:Heap}{g:Array GenState}{d:Drawn}{t:Nat}{os:OsState}{xs:List Value}{n:Nat}(hx:h.get? a=some { cls:=.type "list",data:=.seq xs.toArray n })(A':AL)(Q':Unit->Ac->Prop)(E':Value->Ac->Prop)(hq:Q' () ⟨h,g,d,t,os⟩):Ad W.M A' (checkBoundCall "list.append" ⟨[.ref a,v],[]⟩) Q' E' ⟨h,g,d,t,os⟩:=by
 have hT:(⟨h,g,d,t,os⟩:Ac).TypeIs (.ref a) "list":=⟨_,hx,rfl⟩
 have f1:Manifest.signature? "list.append"=some ⟨.oneArg,"list.append","append",.self,[⟨"object",.posOnly,true⟩]⟩:=by kernel_rfl
 have f2:builtinKind "list.append"=some .method:=by kernel_rfl
 have f3:isSubtype (.type "list") (.type "module")=pure false:=by rw[isSubtype_type];kernel_rfl
 have f4:Manifest.varargsMethods.contains "list.append"=false:=by decide +kernel
 unfold checkBoundCall;refine Aa (wpAny_isInstance hT f3 ?_);refine Aa ?_;unfold isType
 repeat lk
 exact hq
noncomputable def VV(a1 a2 a3 a4 a5 a6 a7 a8 a9 a10 a11 a12 a13 a14 a15 a16 a17:Value):Loc:=[("_write",some a1),("_data",some a2),("_with_comments",some a3),("_strip_text",some a4),("_exclude_attrs",some a5),("_exclude_tags",some a6),("_rewrite_prefixes",some a7),("_qname_aware_tags",some a8),("_find_qname_aware_attrs",some a9),("_declared_ns_stack",some a10),("_ns_stack",some a11),("_prefix_map",some a12),("_preserve_space",some a13),("_pending_start",some a14),("_root_seen",some a15),("_root_done",some a16),("_ignored_depth",some a17)]
theorem VV.keys{a1 a2 a3 a4 a5 a6 a7 a8 a9 a10 a11 a12 a13 a14 a15 a16 a17:Value}:(VV a1 a2 a3 a4 a5 a6 a7 a8 a9 a10 a11 a12 a13 a14 a15 a16 a17).map Prod.fst=sfN:=rfl
theorem aB0{a1 a2 a3 a4 a5 a6 a7 a8 a9 a10 a11 a12 a13 a14 a15 a16 a17:Value}:(("_write":Str),some a1)∈VV a1 a2 a3 a4 a5 a6 a7 a8 a9 a10 a11 a12 a13 a14 a15 a16 a17:=(.head _)
theorem aEi{a1 a2 a3 a4 a5 a6 a7 a8 a9 a10 a11 a12 a13 a14 a15 a16 a17:Value}:(("_data":Str),some a2)∈VV a1 a2 a3 a4 a5 a6 a7 a8 a9 a10 a11 a12 a13 a14 a15 a16 a17:=(.tail _ (.head _))
theorem lS{a1 a2 a3 a4 a5 a6 a7 a8 a9 a10 a11 a12 a13 a14 a15 a16 a17:Value}:(("_with_comments":Str),some a3)∈VV a1 a2 a3 a4 a5 a6 a7 a8 a9 a10 a11 a12 a13 a14 a15 a16 a17:=(.tail _ (.tail _ (.head _)))
theorem qS{a1 a2 a3 a4 a5 a6 a7 a8 a9 a10 a11 a12 a13 a14 a15 a16 a17:Value}:(("_strip_text":Str),some a4)∈VV a1 a2 a3 a4 a5 a6 a7 a8 a9 a10 a11 a12 a13 a14 a15 a16 a17:=(.tail _ (.tail _ (.tail _ (.head _))))
theorem lV{a1 a2 a3 a4 a5 a6 a7 a8 a9 a10 a11 a12 a13 a14 a15 a16 a17:Value}:(("_exclude_attrs":Str),some a5)∈VV a1 a2 a3 a4 a5 a6 a7 a8 a9 a10 a11 a12 a13 a14 a15 a16 a17:=(.tail _ (.tail _ (.tail _ (.tail _ (.head _)))))
theorem nF{a1 a2 a3 a4 a5 a6 a7 a8 a9 a10 a11 a12 a13 a14 a15 a16 a17:Value}:(("_exclude_tags":Str),some a6)∈VV a1 a2 a3 a4 a5 a6 a7 a8 a9 a10 a11 a12 a13 a14 a15 a16 a17:=(.tail _ (.tail _ (.tail _ (.tail _ (.tail _ (.head _))))))
theorem iS{a1 a2 a3 a4 a5 a6 a7 a8 a9 a10 a11 a12 a13 a14 a15 a16 a17:Value}:(("_rewrite_prefixes":Str),some a7)∈VV a1 a2 a3 a4 a5 a6 a7 a8 a9 a10 a11 a12 a13 a14 a15 a16 a17:=(.tail _ (.tail _ (.tail _ (.tail _ (.tail _ (.tail _ (.head _)))))))
theorem iT{a1 a2 a3 a4 a5 a6 a7 a8 a9 a10 a11 a12 a13 a14 a15 a16 a17:Value}:(("_qname_aware_tags":Str),some a8)∈VV a1 a2 a3 a4 a5 a6 a7 a8 a9 a10 a11 a12 a13 a14 a15 a16 a17:=(.tail _ (.tail _ (.tail _ (.tail _ (.tail _ (.tail _ (.tail _ (.head _))))))))
theorem fJ{a1 a2 a3 a4 a5 a6 a7 a8 a9 a10 a11 a12 a13 a14 a15 a16 a17:Value}:(("_find_qname_aware_attrs":Str),some a9)∈VV a1 a2 a3 a4 a5 a6 a7 a8 a9 a10 a11 a12 a13 a14 a15 a16 a17:=(.tail _ (.tail _ (.tail _ (.tail _ (.tail _ (.tail _ (.tail _ (.tail _ (.head _)))))))))
theorem iC{a1 a2 a3 a4 a5 a6 a7 a8 a9 a10 a11 a12 a13 a14 a15 a16 a17:Value}:(("_declared_ns_stack":Str),some a10)∈VV a1 a2 a3 a4 a5 a6 a7 a8 a9 a10 a11 a12 a13 a14 a15 a16 a17:=(.tail _ (.tail _ (.tail _ (.tail _ (.tail _ (.tail _ (.tail _ (.tail _ (.tail _ (.head _))))))))))
theorem vD{a1 a2 a3 a4 a5 a6 a7 a8 a9 a10 a11 a12 a13 a14 a15 a16 a17:Value}:(("_ns_stack":Str),some a11)∈VV a1 a2 a3 a4 a5 a6 a7 a8 a9 a10 a11 a12 a13 a14 a15 a16 a17:=(.tail _ (.tail _ (.tail _ (.tail _ (.tail _ (.tail _ (.tail _ (.tail _ (.tail _ (.tail _ (.head _)))))))))))
theorem qT{a1 a2 a3 a4 a5 a6 a7 a8 a9 a10 a11 a12 a13 a14 a15 a16 a17:Value}:(("_prefix_map":Str),some a12)∈VV a1 a2 a3 a4 a5 a6 a7 a8 a9 a10 a11 a12 a13 a14 a15 a16 a17:=(.tail _ (.tail _ (.tail _ (.tail _ (.tail _ (.tail _ (.tail _ (.tail _ (.tail _ (.tail _ (.tail _ (.head _))))))))))))
theorem kH{a1 a2 a3 a4 a5 a6 a7 a8 a9 a10 a11 a12 a13 a14 a15 a16 a17:Value}:(("_preserve_space":Str),some a13)∈VV a1 a2 a3 a4 a5 a6 a7 a8 a9 a10 a11 a12 a13 a14 a15 a16 a17:=(.tail _ (.tail _ (.tail _ (.tail _ (.tail _ (.tail _ (.tail _ (.tail _ (.tail _ (.tail _ (.tail _ (.tail _ (.head _)))))))))))))
theorem lT{a1 a2 a3 a4 a5 a6 a7 a8 a9 a10 a11 a12 a13 a14 a15 a16 a17:Value}:(("_pending_start":Str),some a14)∈VV a1 a2 a3 a4 a5 a6 a7 a8 a9 a10 a11 a12 a13 a14 a15 a16 a17:=(.tail _ (.tail _ (.tail _ (.tail _ (.tail _ (.tail _ (.tail _ (.tail _ (.tail _ (.tail _ (.tail _ (.tail _ (.tail _ (.head _))))))))))))))
theorem sT{a1 a2 a3 a4 a5 a6 a7 a8 a9 a10 a11 a12 a13 a14 a15 a16 a17:Value}:(("_root_seen":Str),some a15)∈VV a1 a2 a3 a4 a5 a6 a7 a8 a9 a10 a11 a12 a13 a14 a15 a16 a17:=(.tail _ (.tail _ (.tail _ (.tail _ (.tail _ (.tail _ (.tail _ (.tail _ (.tail _ (.tail _ (.tail _ (.tail _ (.tail _ (.tail _ (.head _)))))))))))))))
theorem sU{a1 a2 a3 a4 a5 a6 a7 a8 a9 a10 a11 a12 a13 a14 a15 a16 a17:Value}:(("_root_done":Str),some a16)∈VV a1 a2 a3 a4 a5 a6 a7 a8 a9 a10 a11 a12 a13 a14 a15 a16 a17:=(.tail _ (.tail _ (.tail _ (.tail _ (.tail _ (.tail _ (.tail _ (.tail _ (.tail _ (.tail _ (.tail _ (.tail _ (.tail _ (.tail _ (.tail _ (.head _))))))))))))))))
theorem lU{a1 a2 a3 a4 a5 a6 a7 a8 a9 a10 a11 a12 a13 a14 a15 a16 a17:Value}:(("_ignored_depth":Str),some a17)∈VV a1 a2 a3 a4 a5 a6 a7 a8 a9 a10 a11 a12 a13 a14 a15 a16 a17:=(.tail _ (.tail _ (.tail _ (.tail _ (.tail _ (.tail _ (.tail _ (.tail _ (.tail _ (.tail _ (.tail _ (.tail _ (.tail _ (.tail _ (.tail _ (.tail _ (.head _)))))))))))))))))
theorem aBR{a1 a2 a3 a4 a5 a6 a7 a8 a9 a10 a11 a12 a13 a14 a15 a16 a17 v:Value}:Put "_write" (some v) (VV a1 a2 a3 a4 a5 a6 a7 a8 a9 a10 a11 a12 a13 a14 a15 a16 a17) (VV v a2 a3 a4 a5 a6 a7 a8 a9 a10 a11 a12 a13 a14 a15 a16 a17):=.head
theorem aD9{a1 a2 a3 a4 a5 a6 a7 a8 a9 a10 a11 a12 a13 a14 a15 a16 a17 v:Value}:Put "_data" (some v) (VV a1 a2 a3 a4 a5 a6 a7 a8 a9 a10 a11 a12 a13 a14 a15 a16 a17) (VV a1 v a3 a4 a5 a6 a7 a8 a9 a10 a11 a12 a13 a14 a15 a16 a17):=(.tail .head)
theorem lO{a1 a2 a3 a4 a5 a6 a7 a8 a9 a10 a11 a12 a13 a14 a15 a16 a17 v:Value}:Put "_with_comments" (some v) (VV a1 a2 a3 a4 a5 a6 a7 a8 a9 a10 a11 a12 a13 a14 a15 a16 a17) (VV a1 a2 v a4 a5 a6 a7 a8 a9 a10 a11 a12 a13 a14 a15 a16 a17):=(.tail (.tail .head))
theorem qN{a1 a2 a3 a4 a5 a6 a7 a8 a9 a10 a11 a12 a13 a14 a15 a16 a17 v:Value}:Put "_strip_text" (some v) (VV a1 a2 a3 a4 a5 a6 a7 a8 a9 a10 a11 a12 a13 a14 a15 a16 a17) (VV a1 a2 a3 v a5 a6 a7 a8 a9 a10 a11 a12 a13 a14 a15 a16 a17):=(.tail (.tail (.tail .head)))
theorem lR{a1 a2 a3 a4 a5 a6 a7 a8 a9 a10 a11 a12 a13 a14 a15 a16 a17 v:Value}:Put "_exclude_attrs" (some v) (VV a1 a2 a3 a4 a5 a6 a7 a8 a9 a10 a11 a12 a13 a14 a15 a16 a17) (VV a1 a2 a3 a4 v a6 a7 a8 a9 a10 a11 a12 a13 a14 a15 a16 a17):=(.tail (.tail (.tail (.tail .head))))
theorem nA{a1 a2 a3 a4 a5 a6 a7 a8 a9 a10 a11 a12 a13 a14 a15 a16 a17 v:Value}:Put "_exclude_tags" (some v) (VV a1 a2 a3 a4 a5 a6 a7 a8 a9 a10 a11 a12 a13 a14 a15 a16 a17) (VV a1 a2 a3 a4 a5 v a7 a8 a9 a10 a11 a12 a13 a14 a15 a16 a17):=(.tail (.tail (.tail (.tail (.tail .head)))))
theorem iP{a1 a2 a3 a4 a5 a6 a7 a8 a9 a10 a11 a12 a13 a14 a15 a16 a17 v:Value}:Put "_rewrite_prefixes" (some v) (VV a1 a2 a3 a4 a5 a6 a7 a8 a9 a10 a11 a12 a13 a14 a15 a16 a17) (VV a1 a2 a3 a4 a5 a6 v a8 a9 a10 a11 a12 a13 a14 a15 a16 a17):=(.tail (.tail (.tail (.tail (.tail (.tail .head))))))
theorem iQ{a1 a2 a3 a4 a5 a6 a7 a8 a9 a10 a11 a12 a13 a14 a15 a16 a17 v:Value}:Put "_qname_aware_tags" (some v) (VV a1 a2 a3 a4 a5 a6 a7 a8 a9 a10 a11 a12 a13 a14 a15 a16 a17) (VV a1 a2 a3 a4 a5 a6 a7 v a9 a10 a11 a12 a13 a14 a15 a16 a17):=(.tail (.tail (.tail (.tail (.tail (.tail (.tail .head)))))))
theorem fH{a1 a2 a3 a4 a5 a6 a7 a8 a9 a10 a11 a12 a13 a14 a15 a16 a17 v:Value}:Put "_find_qname_aware_attrs" (some v) (VV a1 a2 a3 a4 a5 a6 a7 a8 a9 a10 a11 a12 a13 a14 a15 a16 a17) (VV a1 a2 a3 a4 a5 a6 a7 a8 v a10 a11 a12 a13 a14 a15 a16 a17):=(.tail (.tail (.tail (.tail (.tail (.tail (.tail (.tail .head))))))))
theorem iA{a1 a2 a3 a4 a5 a6 a7 a8 a9 a10 a11 a12 a13 a14 a15 a16 a17 v:Value}:Put "_declared_ns_stack" (some v) (VV a1 a2 a3 a4 a5 a6 a7 a8 a9 a10 a11 a12 a13 a14 a15 a16 a17) (VV a1 a2 a3 a4 a5 a6 a7 a8 a9 v a11 a12 a13 a14 a15 a16 a17):=(.tail (.tail (.tail (.tail (.tail (.tail (.tail (.tail (.tail .head)))))))))
theorem uV{a1 a2 a3 a4 a5 a6 a7 a8 a9 a10 a11 a12 a13 a14 a15 a16 a17 v:Value}:Put "_ns_stack" (some v) (VV a1 a2 a3 a4 a5 a6 a7 a8 a9 a10 a11 a12 a13 a14 a15 a16 a17) (VV a1 a2 a3 a4 a5 a6 a7 a8 a9 a10 v a12 a13 a14 a15 a16 a17):=(.tail (.tail (.tail (.tail (.tail (.tail (.tail (.tail (.tail (.tail .head))))))))))
theorem qO{a1 a2 a3 a4 a5 a6 a7 a8 a9 a10 a11 a12 a13 a14 a15 a16 a17 v:Value}:Put "_prefix_map" (some v) (VV a1 a2 a3 a4 a5 a6 a7 a8 a9 a10 a11 a12 a13 a14 a15 a16 a17) (VV a1 a2 a3 a4 a5 a6 a7 a8 a9 a10 a11 v a13 a14 a15 a16 a17):=(.tail (.tail (.tail (.tail (.tail (.tail (.tail (.tail (.tail (.tail (.tail .head)))))))))))
theorem kG{a1 a2 a3 a4 a5 a6 a7 a8 a9 a10 a11 a12 a13 a14 a15 a16 a17 v:Value}:Put "_preserve_space" (some v) (VV a1 a2 a3 a4 a5 a6 a7 a8 a9 a10 a11 a12 a13 a14 a15 a16 a17) (VV a1 a2 a3 a4 a5 a6 a7 a8 a9 a10 a11 a12 v a14 a15 a16 a17):=(.tail (.tail (.tail (.tail (.tail (.tail (.tail (.tail (.tail (.tail (.tail (.tail .head))))))))))))
theorem lP{a1 a2 a3 a4 a5 a6 a7 a8 a9 a10 a11 a12 a13 a14 a15 a16 a17 v:Value}:Put "_pending_start" (some v) (VV a1 a2 a3 a4 a5 a6 a7 a8 a9 a10 a11 a12 a13 a14 a15 a16 a17) (VV a1 a2 a3 a4 a5 a6 a7 a8 a9 a10 a11 a12 a13 v a15 a16 a17):=(.tail (.tail (.tail (.tail (.tail (.tail (.tail (.tail (.tail (.tail (.tail (.tail (.tail .head)))))))))))))
theorem sL{a1 a2 a3 a4 a5 a6 a7 a8 a9 a10 a11 a12 a13 a14 a15 a16 a17 v:Value}:Put "_root_seen" (some v) (VV a1 a2 a3 a4 a5 a6 a7 a8 a9 a10 a11 a12 a13 a14 a15 a16 a17) (VV a1 a2 a3 a4 a5 a6 a7 a8 a9 a10 a11 a12 a13 a14 v a16 a17):=(.tail (.tail (.tail (.tail (.tail (.tail (.tail (.tail (.tail (.tail (.tail (.tail (.tail (.tail .head))))))))))))))
theorem sM{a1 a2 a3 a4 a5 a6 a7 a8 a9 a10 a11 a12 a13 a14 a15 a16 a17 v:Value}:Put "_root_done" (some v) (VV a1 a2 a3 a4 a5 a6 a7 a8 a9 a10 a11 a12 a13 a14 a15 a16 a17) (VV a1 a2 a3 a4 a5 a6 a7 a8 a9 a10 a11 a12 a13 a14 a15 v a17):=(.tail (.tail (.tail (.tail (.tail (.tail (.tail (.tail (.tail (.tail (.tail (.tail (.tail (.tail (.tail .head)))))))))))))))
theorem lQ{a1 a2 a3 a4 a5 a6 a7 a8 a9 a10 a11 a12 a13 a14 a15 a16 a17 v:Value}:Put "_ignored_depth" (some v) (VV a1 a2 a3 a4 a5 a6 a7 a8 a9 a10 a11 a12 a13 a14 a15 a16 a17) (VV a1 a2 a3 a4 a5 a6 a7 a8 a9 a10 a11 a12 a13 a14 a15 a16 v):=(.tail (.tail (.tail (.tail (.tail (.tail (.tail (.tail (.tail (.tail (.tail (.tail (.tail (.tail (.tail (.tail .head))))))))))))))))
inductive Mid (L L':Lg):Lg->Lg->Prop
 | head {N}:Mid L L' (L++N) (L'++N)
 | tail {p r r'}:Mid L L' r r'->Mid L L' (p::r) (p::r')
 | app {P r r'}:Mid L L' r r'->Mid L L' (P++r) (P++r')
theorem Mid.perm{L L' nw nw':Lg}(h:Mid L L' nw nw'):∃ N,nw.Perm (L++N)/\nw'.Perm (L'++N):=by
 induction h with
 | @head N=>exact⟨N,.refl _,.refl _⟩
 | @tail p r r' h ih=>
  obtain⟨N,h1,h2⟩:=ih;exact⟨p::N,(List.Perm.cons _ h1).trans AM.symm,(List.Perm.cons _ h2).trans AM.symm⟩
 | @app P r r' h ih=>
  obtain⟨N,h1,h2⟩:=ih;have e:∀ L:Lg,List.Perm (P++(L++N)) (L++(P++N)):=λ L=>by
   rw[←Ah,←Ah];exact List.Perm.append_right _ AT
  exact⟨P++N,(List.Perm.append_left P h1).trans (e _),(List.Perm.append_left P h2).trans (e _)⟩
structure Sink (W:Wd) where
 σ:Type
 q:Addr
 L:σ->Lg
 push:σ->Str->σ
 room:σ->Nat->Prop
 less:∀{st:σ} {n:Nat},room st (n+1)->room st n
 step:∀{st:σ} {n:Nat} (x:Str),room st (n+1)->room (push st x) n
 call:∀{G:Gens} {env:Env} {loc:Loc} {N:Lg} {s:Ac} {A:AL} {E:Value->Ac->Prop} {x:Str} {t:Tok} {st:σ} {Q:Value->Ac->Prop},Aok 3 A->room st 1->Sta W G env loc (L st++N) s->
  (∀ s',Sta W G env loc (L (push st x)++N) s'->Q .none s')->Ad W.M A (PySem.call (.ref q) [.str x t]) Q E s
 keep:∀{N:Lg} {h:Heap} {st:σ},W.K.In h->Led W.B (L st++N) h->∃ k,(k=Keeper.frame\/k=Keeper.machine\/k=Keeper.boundFrame)/\Looks W.M h (keeperOf (.ref q)) k
noncomputable def Sink.pushes{W:Wd}(K:Sink W)(st:K.σ)(xs:List Str):K.σ:=xs.foldl K.push st
theorem Sink.pushes_append{W:Wd}(K:Sink W)(st:K.σ)(a b:List Str):K.pushes st (a++b)=K.pushes (K.pushes st a) b:=List.foldl_append
section
variable {C x dx:Addr}{vals vals':Loc}
theorem Sta.getF{name:Str}{v:Value}{expr:Bool}{Q:Value->Ac->Prop}(S:Sta W G env loc nw s)(c:Cl W.K C sfN)(mx:(x,bD C dx)∈nw)(md:(dx,aN vals)∈nw)(hk:vals.map Prod.fst=sfN)(hv:(name,some v)∈vals)(hh:handedIn v=true)(h:∀ s',Sta W G env loc nw s'->Q v s'):Ad W.M A (getAttr (.ref x) name expr) Q E s:=S.getattr c mx md hk hv hh h
theorem Sta.getM_val{name:Str}{v:Value}{Q:Value×List Value->Ac->Prop}(S:Sta W G env loc nw s)(c:Cl W.K C sfN)(mx:(x,bD C dx)∈nw)(md:(dx,aN vals)∈nw)(hk:vals.map Prod.fst=sfN)(hv:(name,some v)∈vals)(hh:handedIn v=true)(h:∀ s',Sta W G env loc nw s'->Q (v,[]) s'):GetM W.M A E name (.ref x) Q s:=λ pl=>by
 obtain⟨od,I,nd,_,q⟩:=S.inst mx md;obtain⟨es,ep,hd,hsk,hl,_⟩:=q;have hn:findIn W.K (.ref C) name=some none:=c.own _ (by rw[←hk];exact Aj.mpr ⟨_,hv,rfl⟩);exact method_usual S.kin I c.ga c.gh hn rfl (S.getattr c mx md hk hv hh h)
theorem Sta.sink{K:Sink W}{st:K.σ}{y:Str}{t:Tok}{Q:Value->Ac->Prop}(S:Sta W G env loc nw s)(hA:Aok 3 A)(hr:K.room st 1)(M:Mid (K.L st) (K.L (K.push st y)) nw nw')(h:∀ s',Sta W G env loc nw' s'->Q .none s'):Ad W.M A (call (.ref K.q) [.str y t]) Q E s:=by
 obtain⟨N,h1,h2⟩:=M.perm;exact K.call hA hr (S.perm h1) λ s' S'=>h _ (S'.perm h2.symm)
theorem aCI{K:Sink W}{pos:Pos}{e:Expr}{rest:List Expr}{Q:Value->Ac->Prop}(h:Ad W.M A (spliced (backTo pos (Ap (e::rest) env))) (λ vs s₁=>(∃ N st,W.K.In s₁.heap/\Led W.B (K.L st++N) s₁.heap)/\Ad W.M A (call (.ref K.q) vs) Q E s₁) E s)(he:Ap (e::rest) env=(false,eval e env)::Ap rest env)(hplain:(backTo pos (Ap rest env)).any (·.1)=false):Ad W.M A (callWith pos (.ref K.q) [] (backTo pos (Ap (e::rest) env)) (backToKw pos (keywordEach [] env))) Q E s:=by
 rw[he]at h ⊢;refine callWith_of (P:=λ h=>∃ N st,W.K.In h/\Led W.B (K.L st++N) h) (first:=[]) (by show(false||(backTo pos (Ap rest env)).any (·.1)||false)=false;rw[hplain];rfl) (λ h X=>?_) (Calls.evalArgs_plain h);obtain⟨N,st,X,D⟩:=X;exact K.keep X D
theorem Sta.sinkLed{K:Sink W}{st:K.σ}{L':Lg}(S:Sta W G env loc nw s)(M:Mid (K.L st) L' nw nw'):∃ N st,W.K.In s.heap/\Led W.B (K.L st++N) s.heap:=by
 obtain⟨N,h1,_⟩:=M.perm;exact⟨N,st,S.kin,(S.perm h1).led.tail⟩
theorem lF{M:Model}{h:Heap}{q:Addr}{id:String}{self:Value}(ho:h.get? q=some { cls:=.type "builtin_function_or_method",data:=.fields #[.builtin id,self] }):Looks M h (keeperOf (.ref q)) .machine:=
 (Looks.ld (part:=none) ho).andThen .now
end
noncomputable def bR(W:Wd)(q out:Addr):Sink W where
 σ:=List Str
 q:=q
 L:=λ ss=>[(q,dQ "list.append" (.ref out)),(out,aB ss)]
 push:=λ ss x=>ss++[x]
 room:=λ ss n=>ss.length+n<=16000000
 less:=λ h=>by walk_at "o"
 step:=λ x h=>by rw[Ag,AJ];walk_at "o"
 call:=by
  intro G env loc N s A E x t st Q hA hr S h;obtain⟨o,ho,rfl⟩:=S.get (.head _);have U:Upd out (aB st) (aB (st++[x])) ([(q,dQ "list.append" (.ref out)),(out,aB st)]++N) ([(q,dQ "list.append" (.ref out)),(out,aB (st++[x]))]++N):=.tail .head;obtain⟨vs,nw1,ht,U1,U2,S1⟩:=S.openT U;obtain⟨nw2,U3,U4⟩:=U2.via2 (aA (vs++[.str x t]));obtain⟨n,hl⟩:=S1.isL U3.mem;have hz:vs.length<=AC:=by rw[ht.length,Aw];exact Al (AU _ 1) (Al hr (by decide))
  refine wpAny_call (jC (W:=W) F.slot_list_append.plain F.entry_list_append ho (λ A' Q' E' hq=>rJ hl A' Q' E' hq) ?_);refine list_append out vs.toArray n (.str x t) (by simpa using hz) W.prog W.w A (wants Q E) s ⟨hl,?_⟩;exact h _ ((S1.setL hl _ (by simp) U3 _).tell U4 λ o _ ho=>⟨_,ht.snoc x t,ho⟩)
 keep:=by
  intro N h st X D;obtain⟨o,ho,rfl⟩:=D.get (.head _);exact⟨.machine,.inr (.inl rfl),lF ho⟩
end Mine
variable {N:Mine.Lg}
namespace Mine
theorem vV{prog:Program}{w:World}{A:AL}{E:Value->Ac->Prop}{h:Heap}{g:Array GenState}{d:Drawn}{t:Nat}{os:OsState}{a sl:Addr}{xs:List Value}{n:Nat}{Q:Fin->Ac->Prop}(hx:h.get? a=some { cls:=.type "list",data:=.seq xs.toArray n })(hs:h.get? sl=some { cls:=.type "slice",data:=.fields #[.none,.none,.none] })(hz:xs.length<=AC)(hq:∀ f:Array Value->Array Value,f xs.toArray=#[]->Q (.done (.ret .none)) ⟨h.update a (Obj.mapSeq f),g,d,t,os⟩):Ad (model prog w) A (Builtin.«list.__delitem__» ⟨[.ref a,.ref sl],[]⟩) Q E ⟨h,g,d,t,os⟩:=by
 unfold Builtin.«list.__delitem__»
 repeat lk
 refine wpAny_update hx ?_;have hf:∀(sel:Nat->Bool),(∀ k,k<xs.length->sel k=true)->(λ ys:Array Value=>(ys.toList.zipIdx.filterMap λ x=>if sel x.2=true then none else some x.1).toArray) xs.toArray=#[]:=by
  intro sel h;show(xs.zipIdx.filterMap λ x=>if sel x.2=true then none else some x.1).toArray=#[];rw[List.filterMap_eq_nil_iff.mpr];intro x hx;have:=(List.mem_zipIdx hx).2.1;rw[if_pos (h _ (by walk_at "o"))]
 have hs1:∀ k,k<xs.length->(if(1:Int)>0 then decide ((if(1:Int)>0 then 0 else(xs.toArray.size:Int)-1)<=(k:Int))&&decide ((k:Int)<(if(1:Int)>0 then(xs.toArray.size:Int)else -1))&&(((k:Int)-(if(1:Int)>0 then 0 else(xs.toArray.size:Int)-1))%1==0)
   else false)=true:=by
  intro k hk;simp;walk_at "o"
 have e:=hf _ hs1;refine wpAny_lookBehind (IsL.update hx _) ?_ ?_
 ·refine pastItsLine_seq ?_;refine Al (List.length_filterMap_le _ _) ?_;rw[List.length_zipIdx];show xs.length<=AC+1;walk_at "o"
 refine Aa (wpAny_letGo ?_);refine Ae ?_;exact hq _ e
noncomputable def DelK(W:Wd)(env:Env)(Q:Unit->Ac->Prop)(o:Value)(s:Ac):Prop:=
 ∃ G loc nw nw' l ss,Sta W G env loc nw s/\o=.ref l/\Upd l (aB ss) (aB []) nw nw'/\ss.length<=AC/\∀ s',Sta W G env loc nw' s'->Q () s'
theorem vU{value:Expr}{p pos:Pos}{Q:Unit->Ac->Prop}(h:Ad W.M A (eval value env) (λ o s₁=>DelK W env Q o s₁) E s):Ad W.M A (delete (.Subscript value (.Slice none none none p) pos) env) Q E s:=by
 show Ad _ _ (do
  let ov ← eval value env
  let iv ← holding [ov] (eval (.Slice none none none p) env)
  standAt pos
  holding [ov,iv] (delItem ov iv)
  release [ov,iv] []) _ _ _
 refine Aa (As h (λ o s₁ h₁=>?_) λ _ _ e=>e);obtain⟨G,loc,nw,nw',l,h₁⟩:=h₁;obtain⟨ss,S,rfl,U,hz,q⟩:=h₁;refine Aa (AB ?_);refine wpAny_Slice ?_;refine Ae (Ae (Ae ?_));have S1:=S.new (c:=bU { cls:=.type "slice",data:=.fields #[.none,.none,.none] }) rfl rfl s₁.toks;refine Aa (AQ (Aa (AB ?_)));obtain⟨vs,nw1,ht,U1,U2,S2⟩:=S1.openT (.tail U);obtain⟨nw2,U3,U4⟩:=U2.via2 (aA []);obtain⟨n,hl⟩:=S2.isL U3.mem;obtain⟨o,ho,rfl⟩:=S1.get (.head _);refine wpAny_delItem_slot ⟨_,hl,rfl⟩ (by decide) F.slot_list_delitem ?_;refine wpAny_call (codeAny_call_builtin F.slot_list_delitem.plain F.entry_list_delitem (F.slot_list_delitem.check _ _ _ _ _ _ _ _ ⟨_,hl,rfl⟩ (F.args_list_delitem_2 _ _) ?_));refine vV hl ho (by rw[ht.length];exact hz) λ f hf=>?_;refine wpAny_release (q _ ?_);exact((S2.setL hl f hf U3 _).tell U4 λ o _ ho=>⟨_,.nil,ho⟩).sub (AZ _ _)
theorem vY{x:Str}{t0:Tok}{v:Value}(A':AL)(Q':Unit->Ac->Prop)(E':Value->Ac->Prop)(hq:Q' () s):Ad W.M A' (checkBoundCall "str.join" ⟨[.str x t0,v],[]⟩) Q' E' s:=by
 obtain⟨h,g,d,t,os⟩:=s;have hT:(⟨h,g,d,t,os⟩:Ac).TypeIs (.str x t0) "str":=typeIs_str _ _ _;have f1:Manifest.signature? "str.join"=some ⟨.oneArg,"str.join","join",.self,[⟨"iterable",.posOnly,true⟩]⟩:=by kernel_rfl
 have f2:builtinKind "str.join"=some .method:=by kernel_rfl
 have f3:isSubtype (.type "str") (.type "module")=pure false:=by rw[isSubtype_type];kernel_rfl
 have f4:Manifest.varargsMethods.contains "str.join"=false:=by decide +kernel
 unfold checkBoundCall;refine Aa (wpAny_isInstance hT f3 ?_);refine Aa ?_;unfold isType
 repeat lk
 first | exact hq | exact Bw (f5 _ rfl) hq
theorem Sta.joinB{p a:Addr}{ss:List Str}{x:Str}{t0:Tok}{Q:Value->Ac->Prop}(S:Sta W G env loc nw s)(ho:W.K.lookup p=some { cls:=.type "builtin_function_or_method",data:=.fields #[.builtin "str.join",.str x t0] })(m:(a,aB ss)∈nw)(hx:x=Str.empty)(hz:(cat ss).length<=16777216)(h:∀ t' s',Sta W G env loc nw s'->Q (.str (cat ss) t') s'):Ad W.M A (call (.ref p) [.ref a]) Q E s:=by
 subst hx;obtain⟨vs,ht,hl⟩:=S.txts m;obtain⟨l,e1,e2⟩:=ht.values;rw[e1]at hl;have hok:=nR hz;rw[←e2]at hok;unfold JoinOk at hok;rw[Bs]at hok;refine wpAny_call (jC (W:=W) F.slot_str_join.plain F.entry_str_join (S.kin _ _ ho) (λ A' Q' E' hq=>vY A' Q' E' hq) ?_);refine meets_str_join_list Str.empty t0 a l hok W.prog W.w A (wants Q E) s ⟨hl,post_join l ⟨joinFit_length hok,λ t' k=>?_⟩⟩;rw[e2,oF];exact h _ _ (S.toks k)
theorem xE{pos:Pos}{p:Addr}{id:String}{self:Value}{e:Expr}{rest:List Expr}{Q:Value->Ac->Prop}(ho:W.K.lookup p=some { cls:=.type "builtin_function_or_method",data:=.fields #[.builtin id,self] })(h:Ad W.M A (spliced (backTo pos (Ap (e::rest) env))) (λ vs s₁=>W.K.In s₁.heap/\Ad W.M A (call (.ref p) vs) Q E s₁) E s)(he:Ap (e::rest) env=(false,eval e env)::Ap rest env)(hplain:(backTo pos (Ap rest env)).any (·.1)=false):Ad W.M A (callWith pos (.ref p) [] (backTo pos (Ap (e::rest) env)) []) Q E s:=by
 rw[he]at h ⊢;exact callWith_of (P:=λ h=>W.K.In h) (first:=[]) (by show(false||(backTo pos (Ap rest env)).any (·.1)||false)=false;rw[hplain];rfl) (λ h X=>⟨.machine,.inr (.inl rfl),lF (X _ _ ho)⟩) (Calls.evalArgs_plain h)
theorem aAO{M:Model}{Q:Value->Ac->Prop}(h:Q (.bool false) s):Ad M A (compareOp .IsNot .none .none) Q E s:=wpAny_isNot_plain rfl h
theorem tB{M:Model}{a:Addr}{Q:Value->Ac->Prop}(h:Q (.bool true) s):Ad M A (compareOp .IsNot (.ref a) .none) Q E s:=wpAny_isNot_plain rfl h
theorem aAN{M:Model}{x:Str}{t:Tok}{Q:Value->Ac->Prop}(h:Q (.bool true) s):Ad M A (compareOp .IsNot (.str x t) .none) Q E s:=wpAny_isNot_plain rfl h
theorem is_nn{M:Model}{Q:Value->Ac->Prop}(h:Q (.bool true) s):Ad M A (compareOp .Is .none .none) Q E s:=wpAny_is_plain rfl h
theorem is_sn{M:Model}{x:Str}{t:Tok}{Q:Value->Ac->Prop}(h:Q (.bool false) s):Ad M A (compareOp .Is (.str x t) .none) Q E s:=wpAny_is_plain rfl h
theorem cL{x:Str}{t:Tok}{Q:Bool->Ac->Prop}(S:Sta W G env loc nw s)(hz:x.length<=16777216)(h1:x.length=0->∀ s',Sta W G env loc nw s'->Q false s')(h2:x.length≠0->∀ s',Sta W G env loc nw s'->Q true s'):Ad W.M A (truthy (.str x t)) Q E s:=by
 refine SBL.truthy (by walk_at "o") ?_
 by_cases e:x.length=0
 ·have e2:((x.length:Int) != 0)=false:=by rw[e];rfl
  rw[e2];exact h1 e _ (S.toks _)
 ·have e2:((x.length:Int) != 0)=true:=bne_iff_ne.mpr (by walk_at "o");rw[e2];exact h2 e _ (S.toks _)
theorem Sta.getM_txts{name:Str}{a:Addr}{ss:List Str}{Q:Value×List Value->Ac->Prop}{id:String}(S:Sta W G env loc nw s)(m:(a,aB ss)∈nw)(slot:Slot "list" name id)(hty:typeOf (.builtin id)=pure (.type "method_descriptor"))(h:Q (.builtin id,[.ref a]) s):GetM W.M A E name (.ref a) Q s:=by
 obtain⟨o,ho,q0⟩:=S.get m;obtain⟨vs,ht,q0⟩:=q0;obtain⟨n,rfl⟩:=q0;exact cT F.plainAttrs_list slot hty ⟨_,ho,rfl⟩ (λ b e=>by cases e;exact⟨_,ho,rfl⟩) h
theorem Sta.truthyT{a:Addr}{ss:List Str}{Q:Bool->Ac->Prop}(S:Sta W G env loc nw s)(m:(a,aB ss)∈nw)(hz:ss.length<=AC)(h:∀ s',Sta W G env loc nw s'->Q (!ss.isEmpty) s'):Ad W.M A (truthy (.ref a)) Q E s:=by
 obtain⟨vs,ht,hl⟩:=S.txts m;have e:vs.isEmpty=ss.isEmpty:=by cases ht<;>rfl
 refine wpAny_truthy_list hl ?_ ?_
 ·rw[Aw]at hz;rw[AK,ht.length];walk_at "o"
 ·have:=h _ (S.toks (s.toks+1+1));rw[←e]at this;simpa using this
theorem gU{M:Model}{A:AL}{E:Value->Ac->Prop}{s:Ac}{env:Env}{l:List Stmt}{n:Nat}{st:Stmt}{Q:Flow->Ac->Prop}(h:l[n]?=some st)(k:Ad M A (exec st env) (λ f s₁=>match f with | .next=>Ad M A (execs (l.drop (n+1)) env) Q E s₁ | f=>Q f s₁) E s):Ad M A (execs (l.drop n) env) Q E s:=by
 obtain⟨hn,e⟩:=List.getElem?_eq_some_iff.mp h;rw[Ba hn,e];exact AH k
theorem pS{M:Model}{A:AL}{E:Value->Ac->Prop}{s:Ac}{env:Env}{l:List Stmt}{n:Nat}{st:Stmt}{Q:Flow->Ac->Prop}(h:l[n]?=some st)(k:∀ K:Flow->Ac->Prop,(∀ s',Ad M A (execs (l.drop (n+1)) env) Q E s'->K .next s')->(∀ v s',Q (.ret v) s'->K (.ret v) s')->Ad M A (exec st env) K E s):Ad M A (execs (l.drop n) env) Q E s:=
 gU h (k _ (λ _ h=>h) λ _ _ h=>h)
theorem tI{M:Model}{A:AL}{E:Value->Ac->Prop}{s:Ac}{env:Env}{l:List Stmt}{st:Stmt}{Q:Flow->Ac->Prop}(k:∀ K:Flow->Ac->Prop,(∀ s',Ad M A (execs l env) Q E s'->K .next s')->(∀ v s',Q (.ret v) s'->K (.ret v) s')->Ad M A (exec st env) K E s):Ad M A (execs (st::l) env) Q E s:=
 AH (k _ (λ _ h=>h) λ _ _ h=>h)
theorem dD{M:Model}{A:AL}{E:Value->Ac->Prop}{s:Ac}{env:Env}{l:List Stmt}{n:Nat}{Q:Flow->Ac->Prop}(h:l.length<=n)(k:Q .next s):Ad M A (execs (l.drop n) env) Q E s:=by
 rw[Bu h];exact AR k
theorem aM{M:Model}{A:AL}{E:Value->Ac->Prop}{s:Ac}{env:Env}{l:List Stmt}{Q:Flow->Ac->Prop}(k:Ad M A (execs (l.drop 0) env) Q E s):Ad M A (execs l env) Q E s:=k
noncomputable def SliceSK(W:Wd)(env:Env)(Q:Value->Ac->Prop)(o vl vu:Value)(s:Ac):Prop:=
 ∃ G loc nw x t lo hi,Sta W G env loc nw s/\o=.str x t/\x.length<=AC/\IsPart vl lo/\IsPart vu hi/\∀ t' s',Sta W G env loc nw s'->Q (.str (Txt.slice x lo hi) t') s'
noncomputable def aS(W:Wd)(S:Str->Bool)(n:Nat):Cell:=λ o=>o.SetObjOf (PySem.strKind W.prog W.w) S n
theorem mZ{v:Value}{o:Option Int}(h:IsPart v o):∃ l:Option (Int×Tok),v=partValue l/\l.map (·.1)=o:=by
 induction h with
 | none=>exact⟨none,rfl,rfl⟩
 | int i t=>exact⟨some (i,t),rfl,rfl⟩
theorem wL{value:Expr}{lower upper:Option Expr}{p pos:Pos}{Q:Value->Ac->Prop}(h:Ad W.M A (eval value env) (λ o s₁=>Ad W.M A (evalPart lower env) (λ vl s₂=>Ad W.M A (evalPart upper env) (λ vu s₃=>SliceSK W env Q o vl vu s₃) E s₂) E s₁) E s)(ht:∀ o r,letTemporaryGo value o r=pure ():=by intro _ _;rfl):Ad W.M A (eval (.Subscript value (.Slice lower upper none p) pos) env) Q E s:=by
 refine wpAny_Subscript_str_slice (As h (λ o s₁ h₁=>As h₁ (λ vl s₂ h₂=>As h₂ (λ vu s₃ h₃=>?_) λ _ _ e=>e) λ _ _ e=>e) λ _ _ e=>e) ht;obtain⟨G,loc,nw,x,t,h₃⟩:=h₃;obtain⟨lo,hi,S,rfl,hz,h₃⟩:=h₃;obtain⟨pl,pu,q⟩:=h₃;obtain⟨l,e1,e2⟩:=mZ pl;obtain⟨u,e3,e4⟩:=mZ pu;refine⟨x,t,l,u,rfl,e1,e3,?_⟩;have k:∀ t' k,Q (.str (Txt.slice x (l.map (·.1)) (u.map (·.1))) t') { s₃ with heap:=s₃.heap.push { cls:=.type "slice",data:=.fields #[vl,vu,.none] },toks:=k }:=λ t' k=>by
  rw[e2,e4];exact q _ _ (S.grow (λ _ _ e=>Heap.get?_push_of_some _ e) k)
 exact post_val_or_str ⟨Al (Txt.slice_le x _ _) hz,λ t' j=>k t' j⟩
theorem rF{x y:Str}{t u:Tok}{Q:Value->Ac->Prop}(h1:x=y->Q (.bool true) s)(h2:x≠y->Q (.bool false) s):Ad W.M A (compareOp .Eq (.str x t) (.str y u)) Q E s:=by
 refine PyProof.Rows.eq_str ?_
 by_cases e:x=y
 ·have:(x.cps.toList==y.cps.toList)=true:=by rw[e];simp
  first | (rw[this];exact h1 e) | (have e2:(x==y)=true:=(by rw[e];simp);rw[e2];exact h1 e)
 ·have:(x.cps.toList==y.cps.toList)=false:=by
   rw[beq_eq_false_iff_ne];exact λ q=>e (Str.ext' q)
  first | (rw[this];exact h2 e) | (have e2:(x==y)=false:=(by rw[beq_eq_false_iff_ne];exact e);rw[e2];exact h2 e)
theorem Sta.newSet{Q:Value->Ac->Prop}(S:Sta W G env loc nw s)(h:∀ a s',Sta W G env loc ((a,aS W (λ _=>false) 0)::nw) s'->Q (.ref a) s'):Ad W.M A (call (.type "set") []) Q E s:=
 call_set_0 λ led=>h _ _ (S.new (c:=aS W (λ _=>false) 0) rfl (setObjOf_fresh led) s.toks)
theorem Sta.setAt{a:Addr}{T:Str->Bool}{n:Nat}(S:Sta W G env loc nw s)(m:(a,aS W T n)∈nw)(hn:n<Bt):s.heap.SetOf (PySem.strKind W.prog W.w) a T n:=by
 obtain⟨o,ho,hc⟩:=S.get m;exact hc.setOf ho hn
theorem Sta.getM_add{a:Addr}{T:Str->Bool}{n:Nat}{Q:Value×List Value->Ac->Prop}(S:Sta W G env loc nw s)(m:(a,aS W T n)∈nw)(hn:n<Bt)(h:Q (.builtin "set.add",[.ref a]) s):GetM W.M A E "add" (.ref a) Q s:=λ _=>
 getMethod_set_add (S.setAt m hn) h
theorem Sta.setAdd{a:Addr}{T:Str->Bool}{n:Nat}{x:Str}{t:Tok}{Q:Value->Ac->Prop}(S:Sta W G env loc nw s)(U:Upd a (aS W T n) (aS W (λ k=>T k||decide (k=x)) (if T x then n else n+1)) nw nw')(hn:n+1<Bt)(h:∀ s',Sta W G env loc nw' s'->Q .none s'):Ad W.M A (call (.builtin "set.add") [.ref a,.str x t]) Q E s:=by
 refine call_set_add (k:=x) (by simp[PySem.strKind,Value.isStrOf]) rfl (S.setAt U.mem (by walk_at "o")) hn λ h' hsb hS=>?_;obtain⟨o,ho,hc⟩:=hS.objOf;exact h _ (S.set U (λ b o hb e=>(hsb.2 b hb).trans e) ho hc _)
theorem Sta.notInSet{a:Addr}{T:Str->Bool}{n:Nat}{x:Str}{t:Tok}{Q:Value->Ac->Prop}(S:Sta W G env loc nw s)(m:(a,aS W T n)∈nw)(hn:n<Bt)(h:∀ s',Sta W G env loc nw s'->Q (.bool (!T x)) s'):Ad W.M A (compareOp .NotIn (.str x t) (.ref a)) Q E s:=
 wpAny_notInSet_of (k:=x) (by simp[PySem.strKind,Value.isStrOf]) rfl (S.setAt m hn) (h _ (S.toks _))
theorem Sta.inSet{a:Addr}{T:Str->Bool}{n:Nat}{x:Str}{t:Tok}{Q:Value->Ac->Prop}(S:Sta W G env loc nw s)(m:(a,aS W T n)∈nw)(hn:n<Bt)(h:∀ s',Sta W G env loc nw s'->Q (.bool (T x)) s'):Ad W.M A (compareOp .In (.str x t) (.ref a)) Q E s:=
 wpAny_inSet_of (k:=x) (by simp[PySem.strKind,Value.isStrOf]) rfl (S.setAt m hn) (h _ (S.toks _))
noncomputable def IsD(W:Wd)(d:Addr)(kvs:List (Str×Value)):Cell:=λ o=>d≠sysModules/\o.IsDictOf (PySem.strKind W.prog W.w) kvs
theorem Sta.size_mods(S:Sta W G env loc nw s):s.heap.objs.size≠sysModules:=by
 obtain⟨mg,o,es,ep,hg,_⟩:=S.ok.g;have h1:=Heap.lt_size (S.led.keep _ _ hg);have h2:sysModules<AS:=by decide
 exact λ e=>by
  have:AS<sysModules:=e▸h1;exact absurd (Nat.lt_trans h2 this) (BG _)
theorem kK{d:Addr}(h:d≠sysModules):IsD W d [] { cls:=.type "dict",data:=.dict #[] }:=by
 exact⟨h,#[],0,⟨rfl,rfl,rfl⟩,rfl,λ e he=>by simp at he,.nil,List.nodup_nil⟩
theorem Sta.newDict{Q:Value->Ac->Prop}{M:Model}(S:Sta W G env loc nw s)(h:∀ a s',Sta W G env loc ((a,IsD W a [])::nw) s'->Q (.ref a) s'):Ad M A newDict Q E s:=
 wpAny_newObj_type (h _ _ (S.new (c:=IsD W s.heap.objs.size []) rfl (kK S.size_mods) s.toks))
theorem Sta.dictD0{pos:Pos}{Q:Value->Ac->Prop}{M:Model}(S:Sta W G env loc nw s)(h:∀ a s',Sta W G env loc ((a,IsD W a [])::nw) s'->Q (.ref a) s'):Ad M A (eval (.Dict [] [] pos) env) Q E s:=
 wpAny_Dict_empty (h _ _ (S.new (c:=IsD W s.heap.objs.size []) rfl (kK S.size_mods) s.toks))
theorem Sta.dictAt{d:Addr}{kvs:List (Str×Value)}(S:Sta W G env loc nw s)(m:(d,IsD W d kvs)∈nw):s.heap.DictOf (PySem.strKind W.prog W.w) d kvs/\(d==sysModules)=false:=by
 obtain⟨o,ho,hne,hd⟩:=S.get m;exact⟨Heap.dictOf_iff.mpr ⟨o,ho,hd⟩,by rw[beq_eq_false_iff_ne];exact hne⟩
theorem Sta.dictSet{d:Addr}{kvs:List (Str×Value)}{x:Str}{t:Tok}{v:Value}{Q:Unit->Ac->Prop}(S:Sta W G env loc nw s)(U:Upd d (IsD W d kvs) (IsD W d (stored kvs x v)) nw nw')(hz:kvs.length+1<=AC)(h:∀ s',Sta W G env loc nw' s'->Q () s'):Ad W.M A (dictSet d (.str x t) v) Q E s:=by
 obtain⟨hd,hn⟩:=S.dictAt U.mem;refine wpAny_dictSet_pairs (strKind_is _ _ x t) hd (λ h' hm hs=>?_) ?_
 ·obtain⟨o,ho,hdo⟩:=Heap.dictOf_iff.mp hm;exact h _ (S.set U (λ b o hb e=>(hs.2 b hb).trans e) ho ⟨by simpa using hn,hdo⟩ _)
 ·walk_at "o"
theorem jW{prog:Program}{w:World}{A:AL}{s:Ac}{R:Result->Ac->Prop}{kx vx:Expr}{gens:List Comprehension}{scope:Scope}{pos p:Pos}{d:Nat}{target:Expr}{it acc:Value}{env:Env}{body:Sem Unit}(hT:compTurn (.DictComp kx vx gens scope pos) d it acc env=(standAt p >>= λ _=>pyNext it >>= λ r=>match r with
   | none=>pure (.done .next)
   | some v=>letOwnedTupleGo target it v >>= λ _=>assign target env v >>= λ _=>body >>= λ _=>again (.compLoop (.DictComp kx vx gens scope pos) d it acc env)))(I:Nat->Ac->Prop)(turn:∀ n s,I n s->Ad (model prog w) A (pyNext it) (λ r s₁=>match r with
   | none=>R (.ok .next) s₁
   | some v=>Ad (model prog w) A (letOwnedTupleGo target it v) (λ _ s₁=>Ad (model prog w) A (assign target env v) (λ _ s₂=>Ad (model prog w) A body (λ _ s₃=>∃ m,m<n/\I m s₃)
     (λ _ _=>False) s₂) (λ _ _=>False) s₁) (λ _ _=>False) s₁) (λ _ _=>False) s)(n:Nat)(h:I n s):codeAny (model prog w) A (.compLoop (.DictComp kx vx gens scope pos) d it acc env) R s:=by
 refine codeAny_loop rfl I (λ n s hI=>?_) n h;refine wpAny_noted ?_;rw[hT];refine Aa (AQ (Aa (As (turn n s hI) (λ r s₁ h₁=>?_) λ _ _ h'=>h'.elim)))
 induction r with
 | none=>exact Ae h₁
 | some v=>
  refine Aa (As h₁ (λ _ s₁' h₁'=>?_) λ _ _ h'=>h'.elim);refine Aa (As h₁' (λ _ s₂ h₂=>Aa (As h₂ (λ _ s₃ h₃=>?_) λ _ _ h'=>h'.elim)) λ _ _ h'=>h'.elim);exact Ae ⟨rfl,h₃⟩
section
variable {W:Wd}{sh:Lg}{env:Env}{A:AL}{R:Result->Ac->Prop}{it:Addr}{target:Expr}{kx vx:Expr}{gens:List Comprehension}{scope:Scope}{pos p:Pos}{d:Nat}{acc:Value}{body:Sem Unit}
theorem aCw{α:Type}{P:α->Value->Prop}(hA:Aok 7 A)(hT:compTurn (.DictComp kx vx gens scope pos) d (.ref it) acc env=(standAt p >>= λ _=>pyNext (.ref it) >>= λ r=>match r with
   | none=>pure (.done .next)
   | some v=>letOwnedTupleGo target (.ref it) v >>= λ _=>assign target env v >>= λ _=>body >>= λ _=>again (.compLoop (.DictComp kx vx gens scope pos) d (.ref it) acc env)))(J:List α->Loc->Lg->Gens->Prop)(turn:∀ x v rest tl tg loc nw G s,P x v->Sta W (G++tg) env loc (nw++(sh++tl)) s->J (x::rest) loc nw G-> Ad W.M A (assign target env v) (λ _ s₂=>Ad W.M A body (λ _ s₃=>∃ loc' nw' G',Sta W (G'++tg) env loc' (nw'++(sh++tl)) s₃/\J rest loc' nw' G') (λ _ _=>False) s₂) (λ _ _=>False) s)(fin:∀ loc nw G s,Sta W G env loc (nw++sh) s->J [] loc nw G->R (.ok .next) s){vs:List α}{own:Lg}{og G:Gens}{loc:Loc}{nw:Lg}{s:Ac}(S:Sta W (G++og) env loc (nw++(sh++own)) s)(hy:YdR W sh it P vs own og)(hJ:J vs loc nw G):codeAny W.M A (.compLoop (.DictComp kx vx gens scope pos) d (.ref it) acc env) R s:=by
 refine jW hT (λ n s=>∃ vs own og G loc nw,vs.length=n/\Sta W (G++og) env loc (nw++(sh++own)) s/\YdR W sh it P vs own og/\J vs loc nw G) (λ n s hI=>?_) vs.length ⟨vs,own,og,G,loc,nw,rfl,S,hy,hJ⟩;obtain⟨vs,own,og,G,loc,hI⟩:=hI;obtain⟨nw,hn,S,hy,hJ⟩:=hI;cases vs with
 | nil=>exact hy.2 A ((env.locals,aL loc)::nw) G s _ _ hA S.to0 λ s' S'=>fin loc nw G s' (St0.toSta S' S.eok) hJ
 | cons x rest=>
  refine hy.2 A ((env.locals,aL loc)::nw) G s _ _ hA S.to0 λ v own' og' s' hpv S' hy'=>?_;have S1:Sta W (G++og') env loc (nw++(sh++own')) s':=St0.toSta S' S.eok;have ht:Typ sh it own':=by cases rest<;>exact hy'.1
  obtain⟨c,hc,hp⟩:=ht;obtain⟨o,ho,hco⟩:=S1.get (a:=it) (c:=c) (Af _ hc);refine zM ho (hp o hco) ?_;refine As (turn x v rest own' og' loc nw G s' hpv S1 hJ) (λ _ s₂ h₂=>As h₂ (λ f s₃ h₃=>?_) λ _ _ h=>h) λ _ _ h=>h;obtain⟨loc',nw',G',S3,hJ'⟩:=h₃;exact⟨rest.length,by rw[←hn];simp,rest,own',og',G',loc',nw',rfl,S3,hy',hJ'⟩
theorem tO{c:Cell}{s:Ac}{g:Comprehension}(hg:gens[d]?=some g)(ha:g.is_async=0)(hs:rN W it c)(m:∃ o,s.heap.get? it=some o/\c o)(h:codeAny W.M A (.compLoop (.DictComp kx vx gens scope pos) d (.ref it) acc env) R s):codeAny W.M A (.compStart (.DictComp kx vx gens scope pos) d (.ref it) acc env) R s:=by
 obtain⟨o,ho,hc⟩:=m;refine codeAny_of_tree ?_;refine wpAny_notedAt ?_;have e:(clausesOf (.DictComp kx vx gens scope pos))[d]?=some g:=hg;unfold compStart;rw[e];rw[Option.elim_some,ha];show Ad _ _ (ask >>= _) _ _ s;refine Aa (wpAny_askSetting (wpAny_ite ?_))
 split
 ·exact Ae (And.intro rfl h)
 ·exact Aa (wpAny_rule (Aa (AQ (Aa (hs A _ _ _ o ho hc (Ae (And.intro rfl h)))))))
end
noncomputable def SetL(W:Wd)(o:Obj)(ss:List Str):Prop:=
 o.ExactSet/\∃ es ep t,o.data=.set es ep t/\ElemsOf (PySem.strKind W.prog W.w) es.toList/\(∃ ss',TxA (es.toList.map (·.2)) ss'/\ss'.Perm ss)/\t.fits es.size=true∧
  (t.led=true\/W.w.params.followText "set-order"=true)/\(es.size≠0->t.plain=false)/\(es.size<=1->t.mask=7/\t.dummies=#[])
noncomputable def bZ(W:Wd)(ss:List Str):Cell:=λ o=>SetL W o ss
theorem TxA.perm{vs vs':List Value}(p:vs'.Perm vs):∀{ss:List Str},TxA vs ss->∃ ss',TxA vs' ss'/\ss'.Perm ss:=by
 induction p with
 | nil=>intro ss h;exact⟨ss,h,.refl _⟩
 | cons x p ih=>
  intro ss h;cases h with
  | cons y t h=>
   obtain⟨ss',h1,h2⟩:=ih h;exact⟨y::ss',.cons y t h1,h2.cons _⟩
 | swap x y l=>
  intro ss h;cases h with
  | cons a t h=>cases h with
   | cons b u h=>exact⟨_,.cons _ _ (.cons _ _ h),.swap ..⟩
 | trans p q ih1 ih2=>
  intro ss h;obtain⟨s1,a1,b1⟩:=ih2 h;obtain⟨s2,a2,b2⟩:=ih1 a1;exact⟨s2,a2,b2.trans b1⟩
theorem oU(t:SetTable)(n:Nat):(t.orStandIn n).led=t.led:=by unfold SetTable.orStandIn;split<;>rfl
theorem vF(t:SetTable)(es:Array (Int×Value))(h:Int)(x:Value):(layNew t es h x).2.1.led=t.led:=by
 unfold layNew
 split
 ·exact oU _ _
 ·rfl
theorem qJ(t:SetTable)(es:Array (Int×Value))(w:Nat):(relayAll t es w).2.1.led=t.led:=by
 unfold relayAll
 split
 ·rename_i t' order e;dsimp only
  split
  ·unfold SetTable.relaid SetTable.laid at e;simp only[bind,Option.bind]at e
   split at e
   ·injection e
   ·injection e with e;injection e with e1 e2;rw[←e1]
  ·rfl
 ·rfl
theorem mW(t:SetTable)(es:Array (Int×Value))(w:Nat)(hp:t.plain=false):(relayAll t es w).2.1.plain=false:=by
 unfold relayAll
 split
 ·rename_i t' order e;dsimp only
  split
  ·unfold SetTable.relaid SetTable.laid at e;simp only[bind,Option.bind]at e
   split at e
   ·injection e
   ·injection e with e;injection e with e1 e2;rw[←e1];exact hp
  ·rfl
 ·rfl
theorem qV{t:SetTable}(hm:t.mask=7)(hp:t.place.size=0)(hd:t.dummies=#[])(es:Array (Int×Value))(he:es.size=0)(h:Int)(x:Value):(layNew t es h x).2.1.mask=7/\(layNew t es h x).2.1.dummies=#[]/\(layNew t es h x).2.1.place.size=1/\(layNew t es h x).1.size=1:=by
 have hp0:t.place=#[]:=Array.size_eq_zero_iff.mp hp;have he0:es=#[]:=Array.size_eq_zero_iff.mp he;subst he0;obtain⟨mask,place,dummies,finger,led,moves,plain⟩:=t;dsimp only at hm hp0 hd;subst hm hp0 hd;have hs:∀ j,SetTable.slot ⟨7,#[],#[],finger,led,moves,plain⟩ j=.empty:=by
  exact λ j=>rfl
 have hf:SetTable.freeSlot ⟨7,#[],#[],finger,led,moves,plain⟩ h=some ((SetTable.probeStart ⟨7,#[],#[],finger,led,moves,plain⟩ h).j,false):=by
  have key:∀(f:Nat->Int) (p:SetTable.Probe),SetTable.probe.go ⟨7,#[],#[],finger,led,moves,plain⟩ f h (219+1) p=some (.empty p.j p.dummy):=by
   exact λ f p=>rfl
  rfl
 unfold layNew;rw[hf];dsimp only
 have hq:(SetTable.put ⟨7,#[],#[],finger,led,moves,plain⟩ (SetTable.probeStart ⟨7,#[],#[],finger,led,moves,plain⟩ h).j)=(⟨7,#[(SetTable.probeStart ⟨7,#[],#[],finger,led,moves,plain⟩ h).j],#[],finger,led,moves,plain⟩,0):=by
  rfl
 rw[hq];dsimp only
 have hi:(SetTable.insertAt (#[]:Array (Int×Value)) 0 (h,x)).size=1:=rfl;have ho:SetTable.orStandIn ⟨7,#[(SetTable.probeStart ⟨7,#[],#[],finger,led,moves,plain⟩ h).j],#[],finger,led,moves,plain⟩ 1=⟨7,#[(SetTable.probeStart ⟨7,#[],#[],finger,led,moves,plain⟩ h).j],#[],finger,led,moves,plain⟩:=by
  unfold SetTable.orStandIn
  rfl
 exact⟨rfl,rfl,rfl,rfl⟩
theorem aAP{x y:Str}{t:Tok}(h:(PySem.strKind W.prog W.w).is x (.str y t)=true):x=y:=by
 have:Value.isStrOf x (.str y t)=true:=h;simp[Value.isStrOf]at this
 first | exact this | exact this.symm
theorem TxA.mem{vs:List Value}{ss:List Str}(h:TxA vs ss){v:Value}(hv:v∈vs):∃ x t,v=.str x t/\x∈ss:=by
 induction h with
 | nil=>cases hv
 | cons x t h ih=>
  rcases Ax.mp hv with rfl | hv
  ·exact⟨x,t,rfl,.head _⟩
  ·obtain⟨y,u,e,m⟩:=ih hv;exact⟨y,u,e,.tail _ m⟩
theorem mU{a:Addr}{o:Obj}{es:Array (Int×Value)}{ep:Nat}{t:SetTable}{h:Heap}(ho:h.get? a=some o)(hex:o.ExactSet)(hd:o.data=.set es ep t)(es':Array (Int×Value))(t':SetTable):∃ o',(h.update a (Obj.putSet es' t')).get? a=some o'/\o'.ExactSet/\o'.data=.set es' (ep+1) t':=by
 obtain⟨c,di,dt,sl⟩:=o;dsimp only at hd;subst hd;exact⟨_,Heap.get?_update_self _ ho rfl,hex,rfl⟩
theorem aCR{g:Bool->Sem Unit}(hg:∀(b:Bool) (s₁:Ac) (Q':Unit->Ac->Prop),Q' () s₁->Ad W.M A (g b) Q' E s₁){a:Addr}{o:Obj}{es:Array (Int×Value)}{ep:Nat}{t:SetTable}(ho:s.heap.get? a=some o)(hex:o.ExactSet)(hd:o.data=.set es ep t){es1:Array (Int×Value)}{t2:SetTable}(hb1:es1.size<Bt)(hf2:t2.fits es1.size=true)(hp2:t2.plain=false){wasDummy:Bool}{R:Option Bool->Ac->Prop}(h:∀ h' o' es2 ep2 t3,Heap.SameBut a s.heap h'->h'.get? a=some o'->o'.ExactSet->o'.data=.set es2 ep2 t3->es2.toList.Perm es1.toList->t3.fits es2.size=true->t3.led=t2.led->t3.plain=false->(t2.tooFull=false->t3=t2)->R (some true) { s with heap:=h' }):Ad W.M A (do
    storeSet a es1 t2
    if(!wasDummy&&t2.tooFull)=true then do
      g (relayAll t2 es1 (SetTable.grown es1.size)).2.2
      storeSet a (relayAll t2 es1 (SetTable.grown es1.size)).1 (relayAll t2 es1 (SetTable.grown es1.size)).2.1
      pure (some true)
     else pure (some true)) R E s:=by
 refine Aa (wpAny_storeSet_of ho hd ?_ (fits_of_scanBound hb1));obtain⟨o1,ho1,hex1,hd1⟩:=mU ho hex hd es1 t2
 split
 ·rename_i hfull;have hp:=relayAll_perm t2 es1 (SetTable.grown es1.size);have hfr:=relayAll_fits t2 es1 (SetTable.grown es1.size);have hlr:=qJ t2 es1 (SetTable.grown es1.size);have hpr:=mW t2 es1 (SetTable.grown es1.size) hp2;generalize hRl:relayAll t2 es1 (SetTable.grown es1.size)=Rl at hp hfr hlr hpr ⊢;obtain⟨es2,t3,gave2⟩:=Rl;have hsz:es2.size=es1.size:=by rw[←AX,hp.length_eq,AX]
  refine Aa (hg _ _ _ ?_);refine Aa (wpAny_storeSet_of ho1 hd1 ?_ (fits_of_scanBound (by rw[hsz];exact hb1)));obtain⟨o2,ho2,hex2,hd2⟩:=mU ho1 hex1 hd1 es2 t3;exact Ae (h _ o2 es2 _ t3 ((Heap.SameBut.update s.heap a (Obj.putSet es1 t2)).trans (Heap.SameBut.update _ a _)) ho2 hex2 hd2 hp hfr hlr hpr λ q=>by rw[q]at hfull;simp at hfull)
 ·exact Ae (h _ o1 es1 _ t2 (Heap.SameBut.update s.heap a (Obj.putSet es1 t2)) ho1 hex1 hd1 (.refl _) hf2 rfl hp2 λ _=>rfl)
theorem Sta.addL{a:Addr}{ss:List Str}{x:Str}{t:Tok}{Q:Bool->Ac->Prop}(S:Sta W G env loc nw s)(U:Upd a (bZ W ss) (bZ W (ss++[x])) nw nw')(hx:x∉ss)(hn:ss.length+1<Bt)(h:∀ s',Sta W G env loc nw' s'->Q true s'):Ad W.M A (setAddHashed a (.str x t) ((PySem.strKind W.prog W.w).hash x)) Q E s:=by
 obtain⟨o,ho,q⟩:=S.get U.mem;obtain⟨hex,q⟩:=q;obtain⟨es,ep,tb,hd,hel,q⟩:=q;obtain⟨hss,hf,hled,hpl,hsm⟩:=q;obtain⟨ss',htx,hpm⟩:=hss;have hlen:es.size=ss.length:=by
  have:=htx.length;rw[Ai,AX]at this;rw[this,hpm.length_eq]
 refine AB (Aa (wpAny_setState_of ho hd hf ?_));dsimp only
 rw[byScan_of (knd:=PySem.strKind W.prog W.w) rfl (by walk_at "o") hel];refine Aa ?_;refine Aa (wpAny_rule ?_);refine Aa (wpAny_setScan_of (strKind_is W.prog W.w x t) ho hd hf hel ?_);have hr:List.findIdx? (λ e=>(PySem.strKind W.prog W.w).is x e.2) es.toList=none:=by
  rw[List.findIdx?_eq_none_iff];intro e he;cases q:(PySem.strKind W.prog W.w).is x e.2 with
  | false=>rfl
  | true=>
   obtain⟨y,u,e1,m⟩:=htx.mem (Aj.mpr ⟨e,he,rfl⟩);rw[e1]at q;exact absurd (hpm.mem_iff.mp (aAP q▸m)) hx
 rw[hr];have hgw:∀(b:Bool) {s₁:Ac} {Q':Unit->Ac->Prop},Q' () s₁->Ad W.M A (match b with | true=>rule "set.scan.the-table-gave-way" | false=>pure ()) Q' E s₁:=
  λ b s₁ Q' hq=>by cases b<;>first | exact Ae hq | exact wpAny_rule hq
 have hperm:=layNew_perm tb es ((PySem.strKind W.prog W.w).hash x) (.str x t);have hfits:=layNew_fits tb es ((PySem.strKind W.prog W.w).hash x) (.str x t);have hleds:=vF tb es ((PySem.strKind W.prog W.w).hash x) (.str x t);have hfirst:es.size=0->_:=λ q=>qV (hsm (by walk_at "o")).1 (by have:=hf;simp only[SetTable.fits,AI,beq_iff_eq]at this;walk_at "o") (hsm (by walk_at "o")).2 es q ((PySem.strKind W.prog W.w).hash x) (.str x t);generalize hL:layNew tb es ((PySem.strKind W.prog W.w).hash x) (.str x t)=L at hperm hfits hleds hfirst ⊢;obtain⟨es1,t1,wasDummy,gave⟩:=L;dsimp only at hperm hfits hleds hfirst ⊢;rw[Array.toList_push]at hperm;have hel1:ElemsOf (PySem.strKind W.prog W.w) es1.toList:=(hel.push (strKind_is W.prog W.w x t) rfl).perm hperm;have hb1':es1.size<Bt:=by rw[←AX,hperm.length_eq,Ag,AX];simpa[hlen]using hn
 refine Aa (hgw _ ?_);have fin:∀ h' o' es2 ep2 t3,Heap.SameBut a s.heap h'->h'.get? a=some o'->o'.ExactSet->o'.data=.set es2 ep2 t3->es2.toList.Perm es1.toList->t3.fits es2.size=true->t3.led=t1.led->t3.plain=false->(t1.tooFull=false->t3.mask=t1.mask/\t3.dummies=t1.dummies)->Q true { s with heap:=h' }:=by
  intro h' o' es2 ep2 t3 hsb ho' hex' hd' hp hf' hl' hpl' hsame;refine h _ (S.set U (λ b o hb e=>(hsb.2 b hb).trans e) ho' ⟨hex',es2,ep2,t3,hd',hel1.perm hp,?_,hf',?_,λ _=>hpl',λ q=>?_⟩ s.toks)
  ·have h1:TxA ((es.toList++[((PySem.strKind W.prog W.w).hash x,Value.str x t)]).map (·.2)) (ss'++[x]):=by
    rw[Aq];exact htx.snoc x t
   obtain⟨s2,a2,b2⟩:=TxA.perm ((hp.trans hperm).map (·.2)) h1;exact⟨s2,a2,b2.trans (hpm.append_right _)⟩
  ·rw[hl',hleds];exact hled
  ·have e1:es2.size=es.size+1:=by rw[←AX,hp.length_eq,hperm.length_eq,Ag,AX];rfl
   obtain⟨m1,d1,p1,z1⟩:=hfirst (by walk_at "o");have hfull:t1.tooFull=false:=by
    unfold SetTable.tooFull SetTable.fill;rw[p1,d1,m1];rfl
   obtain⟨q1,q2⟩:=hsame hfull;exact⟨q1.trans m1,q2.trans d1⟩
 split
 ·refine Aa ?_;refine Ae ?_;refine aCR ?_ ho hex hd hb1' ?_ ?_ ?_
  ·intro b s₁ Q' hq;cases b<;>first | exact Ae hq | exact wpAny_rule hq
  ·split
   ·exact hfits
   ·exact SetTable.fits_plain_off hfits
  ·rfl
  ·intro h' o' es2 ep2 t3 hsb ho' hex' hd' hp hf' hl' hpl' hsame;exact Ae (fin h' o' es2 ep2 t3 hsb ho' hex' hd' hp hf' hl' hpl' λ q=>by rw[hsame q];exact⟨rfl,rfl⟩)
 ·rename_i hpf;refine Aa (Ae ?_);refine aCR ?_ ho hex hd hb1' hfits (by simpa using hpf) ?_
  ·intro b s₁ Q' hq;cases b<;>first | exact Ae hq | exact wpAny_rule hq
  ·intro h' o' es2 ep2 t3 hsb ho' hex' hd' hp hf' hl' hpl' hsame;exact Ae (fin h' o' es2 ep2 t3 hsb ho' hex' hd' hp hf' hl' hpl' λ q=>by rw[hsame q];exact⟨rfl,rfl⟩)
noncomputable def rO(W:Wd)(d:Addr)(kvs:List (Str×Value))(ep:Nat):Cell:=λ o=>d≠sysModules/\∃ es,o.ExactDict/\o.data=.dict es ep/\KeysOf (PySem.strKind W.prog W.w) es/\Pairs (PySem.strKind W.prog W.w) es.toList kvs/\(kvs.map (·.1)).Nodup
theorem iJ:isSubtype (.type "dict") (.type "frozenset")=pure false:=by rw[isSubtype_type];kernel_rfl
theorem Sta.dictE{d:Addr}{kvs:List (Str×Value)}{ep:Nat}(S:Sta W G env loc nw s)(m:(d,rO W d kvs ep)∈nw):s.heap.DictAt (PySem.strKind W.prog W.w) d kvs ep/\(d==sysModules)=false:=by
 obtain⟨o,ho,hne,q0⟩:=S.get m;obtain⟨es,r⟩:=q0;exact⟨⟨o,es,ho,r⟩,by rw[beq_eq_false_iff_ne];exact hne⟩
theorem aAQ{d:Addr}{kvs:List (Str×Value)}{ep:Nat}{o:Obj}(h:rO W d kvs ep o):IsD W d kvs o:=by
 obtain⟨hne,q0⟩:=h;obtain⟨es,r⟩:=q0;exact⟨hne,es,ep,r⟩
theorem Sta.addT{a:Addr}{ss:List Str}{x:Str}{t:Tok}{Q:Bool->Ac->Prop}(S:Sta W G env loc nw s)(U:Upd a (bZ W ss) (bZ W (ss++[x])) nw nw')(hx:x∉ss)(hn:ss.length+1<Bt)(h:∀ s',Sta W G env loc nw' s'->Q true s'):Ad W.M A (PySem.setAdd a (.str x t)) Q E s:=by
 unfold PySem.setAdd;refine AB (Aa ((PySem.strKind W.prog W.w).pyHash (strKind_is _ _ x t) ?_));exact(S.toks _).addL U hx hn h
theorem Pull.mem'{α:Type}{p:α}{l l':List α}(h:Pull p l l'):p∈l:=by
 induction h with
 | head=>exact .head _
 | tail h ih=>exact .tail _ ih
theorem Sta.lost{it:Addr}{c:Cell}{N:Lg}{h':Heap}(S:Sta W G env loc nw s)(p:Pull (it,c) nw N)(hx:Heap.ExtBut it s.heap h'):Sta W G env loc N { s with heap:=h' }:=by
 have hB:=(S.led.own _ (.tail _ p.mem')).1;have D:=S.led.perm ((p.perm.cons _).trans (List.Perm.swap ..));have nd:=D.nodup;rw[An,AP]at nd;refine⟨S.ok,S.eok,⟨λ b o e=>hx b o (λ q=>by rw[q,hB]at e;cases e) (S.led.keep b o e),λ q hq=>?_,nd.2⟩,S.bare,S.os,S.gens,S.gnd⟩;obtain⟨h1,q0⟩:=D.own q (.tail _ hq);obtain⟨o,ho,hc⟩:=q0;exact⟨h1,o,hx _ _ (λ e=>nd.1 (Aj.mpr ⟨q,hq,e⟩)) ho,hc⟩
noncomputable def aER(d:Addr)(i n ep:Nat):Cell:=λ o=>o.cls=.type "dict_keyiterator"/\o.data=.fields #[.ref d,.int i 0,.int n 0,.int ep 0]
theorem Sta.keysLoop{a d it:Addr}{kvs:List (Str×Value)}{ep:Nat}{R:Result->Ac->Prop}(hA:Aok 2 A):∀(m i:Nat),kvs.length-i=m->i<=kvs.length->∀{ss:List Str} {N:Lg} {s:Ac},
  Sta W G env loc ((a,bZ W ss)::(it,aER d i kvs.length ep)::(d,rO W d kvs ep)::N) s->(∀ x∈(kvs.drop i).map (·.1),x∉ss)->(kvs.map (·.1)).Nodup->ss.length+(kvs.length-i)+1<Bt->
  (∀ s',Sta W G env loc ((a,bZ W (ss++(kvs.drop i).map (·.1)))::(d,rO W d kvs ep)::N) s'->R (.ok (.ret .none)) s')->
  codeAny W.M A (.builtin "set.update.loop" ⟨[.ref a,.ref it],[]⟩) R s:=by
 intro m
 induction m with
 | zero=>
  intro i hm hi ss N s S hx hnd hb k;obtain⟨o,ho,hc⟩:=S.get (.tail _ (.head _));have hD:=(S.dictE (.tail _ (.tail _ (.head _)))).1;have e0:kvs.drop i=[]:=Bu (by walk_at "o");refine codeAny_builtin F.entry_set_update_loop ?_;refine Aa (wpAny_pyNext_dict_end hA.handled ⟨o,ho,hc.1,hc.2⟩ hD (List.getElem?_eq_none (by walk_at "o")) λ h' hx'=>?_);rw[e0]at k;simp only[AF,Am]at k;exact Ae (k _ (S.lost (.tail .head) hx'))
 | succ m ih=>
  intro i hm hi ss N s S hx hnd hb k;obtain⟨o,ho,hc⟩:=S.get (.tail _ (.head _));have hlt:i<kvs.length:=by walk_at "o"
  refine codeAny_builtin F.entry_set_update_loop ?_;show Ad _ A.in1 (pyNext (.ref it) >>= _) _ _ s;refine Aa (wpAny_pyNext_dict_item (k:=kvs[i].1) (v:=kvs[i].2) ⟨o,ho,hc.1,hc.2⟩ ((S.dictE (.tail _ (.tail _ (.head _)))).1) (List.getElem?_eq_getElem hlt) λ key h' hkey hit hsb=>?_);obtain⟨tk,rfl⟩:=Value.isStrOf_shape hkey;obtain⟨o',ho',hc1,hc2⟩:=hit;have S1:Sta W G env loc ((a,bZ W ss)::(it,aER d (i+1) kvs.length ep)::(d,rO W d kvs ep)::N) { s with heap:=h' }:=S.set (.tail .head) (λ b o hb e=>(hsb.2 b hb).trans e) ho' ⟨hc1,hc2⟩ s.toks;rw[(Ba hlt),An]at hx k;refine Aa (AB (S1.addT .head (hx _ (.head _)) (by walk_at "o") λ s2 S2=>?_));refine Ae ⟨plainId_quiet F.plain_set_update_loop _,?_⟩;refine ih (i+1) (by walk_at "o") hlt S2 (λ x hx' hm'=>?_) hnd (by rw[Ag,AJ];walk_at "o") λ s3 S3=>?_
  ·rcases AD.mp hm' with q | q
   ·exact hx x (.tail _ hx') q
   ·rw[AA]at q;subst q;have nd2:((kvs.drop i).map (·.1)).Nodup:=hnd.sublist ((List.drop_sublist i kvs).map _);rw[(Ba hlt),An,AP]at nd2;exact nd2.1 hx'
  ·refine k _ ?_;simpa using S3
theorem Pairs.at'{es:List DictEntry}{kvs:List (Str×Value)}(h:Pairs (PySem.strKind W.prog W.w) es kvs):∀(i:Nat) (hi:i<kvs.length),∃ e,es[i]?=some e/\(PySem.strKind W.prog W.w).is kvs[i].1 e.key=true/\e.val=kvs[i].2:=by
 induction h with
 | nil=>intro i hi;simp at hi
 | @cons e kv es kvs h1 h2 h3 ih=>
  intro i hi
  induction i with
  | zero=>exact⟨e,rfl,h1,h2⟩
  | succ i=>simpa using ih i (by simpa using hi)
theorem oO{t:SetTable}{n:Nat}(hm:t.mask=7)(hd:t.dummies=#[])(hp:t.place.size+n<=4):t.roomFor n=none:=by
 unfold SetTable.roomFor SetTable.fill;rw[hd,if_neg];simp;walk_at "o"
theorem kO{n:Nat}{β:Type}(b:β)(f:Nat->β->Sem (ForInStep β)):(forIn [0:n] b f:Sem β)=forIn (Bk 0 n) b f:=by
 simp
theorem Sta.starGo{a d:Addr}{kvs:List (Str×Value)}{ep:Nat}{Q:Unit->Ac->Prop}(f:Nat->Unit->Sem (ForInStep Unit))(hf:∀ i u,f i u=(do
   let some e:=(← dictEntries d)[i]? | unsupported "dict.changed-during-merge"
   holding [e.key] (do let _ ← setAddHashed a e.key e.hash)
   if(← dictEpoch d) != ep then unsupported "dict.changed-during-merge"
   pure (.yield ()))):∀(m i:Nat),kvs.length-i=m->i<=kvs.length->∀{ss:List Str} {N:Lg} {s:Ac},
  Sta W G env loc ((a,bZ W ss)::(d,rO W d kvs ep)::N) s->(∀ x∈(kvs.drop i).map (·.1),x∉ss)->(kvs.map (·.1)).Nodup->ss.length+(kvs.length-i)+1<Bt->
  (∀ s',Sta W G env loc ((a,bZ W (ss++(kvs.drop i).map (·.1)))::(d,rO W d kvs ep)::N) s'->Q () s')->
  Ad W.M A (forIn (Bk i m) () f) Q E s:=by
 intro m
 induction m with
 | zero=>
  intro i hm hi ss N s S hx hnd hb k;have e0:kvs.drop i=[]:=Bu (by walk_at "o");rw[e0]at k;simp only[AF,Am]at k;exact Ae (k _ S)
 | succ m ih=>
  intro i hm hi ss N s S hx hnd hb k;obtain⟨o,ho,q⟩:=S.get (.tail _ (.head _));obtain⟨hne,q⟩:=q;obtain⟨es,hex,hd,hk,hp,hn⟩:=q;have hlt:i<kvs.length:=by walk_at "o"
  have hle:=hp.length;rw[AX]at hle;have e0:kvs.drop i=kvs[i]::kvs.drop (i+1):=Ba hlt;rw[List.range'_succ,BD,hf];obtain⟨e,he,hkey,hval⟩:=Pairs.at' hp i hlt;have he2:es[i]?=some e:=by rw[←Array.getElem?_toList];exact he
  obtain⟨k0,hk0,hh0⟩:=hk e (Array.mem_toList_iff.mp (Ao he));obtain⟨tk,hkk⟩:=Value.isStrOf_shape hkey;have hke:k0=kvs[i].1:=(PySem.strKind W.prog W.w).inj _ _ _ hk0 hkey;subst hke;refine Aa (Aa (wpAny_dictEntries ho hd ?_));rw[he2];rw[e0,An]at hx k;refine Aa (AB ?_);rw[hkk,hh0];refine Aa (S.addL .head (hx _ (.head _)) (by walk_at "o") λ s2 S2=>Ae ?_);obtain⟨o2,q0⟩:=S2.get (.tail _ (.head _));obtain⟨ho2,_,es2,hex2,hd2,_⟩:=q0;refine Aa (wpAny_dictEpoch ho2 hd2 ?_);have ee:(ep != ep)=false:=by simp
  rw[ee];refine Ae ?_;refine ih (i+1) (by walk_at "o") hlt S2 (λ x hx' hm'=>?_) hnd (by rw[Ag,AJ];walk_at "o") λ s3 S3=>?_
  ·rcases AD.mp hm' with q | q
   ·exact hx x (.tail _ hx') q
   ·rw[AA]at q;subst q;have nd2:((kvs.drop i).map (·.1)).Nodup:=hnd.sublist ((List.drop_sublist i kvs).map _);rw[e0,An,AP]at nd2;exact nd2.1 hx'
  ·refine k _ ?_;simpa using S3
theorem Sta.star{a d:Addr}{kvs:List (Str×Value)}{x:Str}{N:Lg}{Q:Unit->Ac->Prop}(S:Sta W G env loc ((a,bZ W [x])::(d,IsD W d kvs)::N) s)(hA:Aok 3 A)(hx:x∉kvs.map (·.1))(hz:kvs.length<=3)(k:∀ s',Sta W G env loc ((a,bZ W (x::kvs.map (·.1)))::(d,IsD W d kvs)::N) s'->Q () s'):Ad W.M A (setDisplayStar a (.ref d)) Q E s:=by
 obtain⟨o,ho,q⟩:=S.get (.tail _ (.head _));obtain⟨hne,q⟩:=q;obtain⟨es0,ep0,hex0,hd0,hk0,hp0,hnd⟩:=q;have hT:s.TypeIs (.ref d) "dict":=⟨o,ho,hex0.1⟩
 have S1:Sta W G env loc ((a,bZ W [x])::(d,rO W d kvs ep0)::N) s:=S.tell (.tail .head) λ o' ho' _=>by rw[ho]at ho';cases ho';exact⟨hne,es0,hex0,hd0,hk0,hp0,hnd⟩
 have back:∀ s',Sta W G env loc ((a,bZ W (x::kvs.map (·.1)))::(d,rO W d kvs ep0)::N) s'->Q () s':=λ s' S'=>k _ (S'.tell (.tail .head) λ o _ h=>aAQ h);have hxs:∀ y∈(kvs.drop 0).map (·.1),y∉[x]:=λ y hy q=>by
  rw[AA]at q;subst q;exact hx (by simpa using hy)
 have hb:[x].length+(kvs.length-0)+1<Bt:=by
  simp;walk_at "o"
 refine Aa (wpAny_isInstance hT F.sub_dict_set ?_);refine Aa (wpAny_isInstance hT iJ ?_);refine Aa (wpAny_askSetting ?_);have hmods:(d==sysModules)=false:=by rw[beq_eq_false_iff_ne];exact hne
 have byIter:Ad W.M A (do
   let it ← pyIter (.ref d)
   let _ ← runValue (Code.builtin "set.update.loop" ⟨[.ref a,it],[]⟩)
   pure ()) Q E s:=by
  have hD:=(S1.dictE (.tail _ (.head _))).1;refine Aa (wpAny_pyIter_dict hmods hD ?_);have S2:=S1.new (c:=aER d 0 kvs.length ep0) (o:={ cls:=.type "dict_keyiterator",data:=.fields #[.ref d,.int 0 0,.int kvs.length 0,.int ep0 0] }) rfl ⟨rfl,rfl⟩ s.toks;refine Aa (wpAny_runValue ?_);refine Sta.keysLoop (a:=a) (d:=d) (it:=s.heap.objs.size) (kvs:=kvs) (ep:=ep0) (hA.le (by first | decide | walk_at "o")) kvs.length 0 (by walk_at "o") (by walk_at "o") (S2.perm (List.Perm.swap ..)) hxs hnd hb λ s' S'=>?_;exact Ae (back _ (by simpa using S'))
 cases hby:(Setting.mk W.M.prog W.M.w.params).params.followText "set-display-star-reads-storage" with
 | true=>
  exact byIter
 | false=>
  refine Aa (wpAny_typeOf hT ?_);have e1:(Value.type "dict"==Value.type "dict")=true:=by decide
  refine Aa (wpAny_rule ?_);rw[hmods];refine Aa (wpAny_dictEpoch ho hd0 ?_);refine Aa (wpAny_dictEntries ho hd0 ?_);have hle:=hp0.length;rw[AX]at hle;obtain⟨oa,hoa,q⟩:=S1.get (.head _);obtain⟨hexa,q⟩:=q;obtain⟨esa,epa,ta,hda,hela,q⟩:=q;obtain⟨hss,hfa,_,_,hsma⟩:=q;obtain⟨ssa,htxa,hpma⟩:=hss;have hsz:esa.size=1:=by
   have:=htxa.length;rw[Ai,AX]at this;rw[this,hpma.length_eq];rfl
  have hroom:Ad W.M A (setRoomFor a es0.size) (λ _ s'=>s'=s) E s:=by
   unfold setRoomFor;refine Aa (wpAny_setState_of hoa hda hfa ?_);have hpl:ta.place.size=1:=by
    have:=hfa;simp only[SetTable.fits,AI,beq_iff_eq]at this;walk_at "o"
   rw[oO (hsma (by walk_at "o")).1 (hsma (by walk_at "o")).2 (by walk_at "o")];exact Ae rfl
  refine Aa (As hroom (λ _ s' e=>?_) λ _ _ e=>e);subst e;refine Aa ?_;rw[hle];rw[kO];refine Sta.starGo (ep:=ep0) _ (λ i u=>?_) kvs.length 0 (by walk_at "o") (by walk_at "o") S1 hxs hnd hb λ s' S'=>Ae (back _ (by simpa using S'))
  rfl
theorem vJ(led:Bool)(hl:led=true\/W.w.params.followText "set-order"=true):bZ W [] { cls:=.type "set",dict:=none,data:=.set #[] 0 (.fresh 0 0 led) }:=
 ⟨⟨rfl,rfl,rfl⟩,#[],0,_,rfl,λ e he=>by simp at he,⟨[],.nil,.refl _⟩,by rfl,hl,λ h=>absurd rfl h,λ _=>⟨rfl,rfl⟩⟩
theorem Sta.newSL{Q:Value->Ac->Prop}(S:Sta W G env loc nw s)(h:∀ a s',Sta W G env loc ((a,bZ W [])::nw) s'->Q (.ref a) s'):Ad W.M A (PySem.newSet (.type "set")) Q E s:=by
 refine Aa (Aa (wpAny_askSetting (Ae ?_)));dsimp only
 refine Aa (wpAny_alloc (Ae (h _ _ (S.new (c:=bZ W []) rfl (vJ _ ?_) s.toks))));cases q:W.w.params.followText "set-order" with
 | true=>exact .inr rfl
 | false=>exact .inl (by show(!W.w.params.followText "set-order")=true;rw[q];rfl)
theorem Sta.setDisp{n1 n2:Str}{p1 p2 p3 pos:Pos}{x:Str}{t:Tok}{d c:Addr}{oc:Obj}{vs:Array Value}{kvs:List (Str×Value)}{Q:Value->Ac->Prop}(S:Sta W G env loc nw s)(hA:Aok 3 A)(h1:(n1,some (.str x t))∈loc)(h2:(n2,some (.ref d))∈loc)(hc:env.code=.ref c)(hoc:W.K.lookup c=some oc)(hdc:oc.data=.fields vs)(hfl:∃ f tf,vs.getD 18 .none=.str f tf){N:Lg}(hd:Pull (d,IsD W d kvs) nw N)(hx:x∉kvs.map (·.1))(hz:kvs.length<=3)(h:∀ a s',Sta W G env loc ((a,bZ W (x::kvs.map (·.1)))::(d,IsD W d kvs)::N) s'->Q (.ref a) s'):Ad W.M A (eval (.Set [.Name n1 p1,.Starred (.Name n2 p2) p3] 0 pos) env) Q E s:=by
 refine Aa (AQ ?_);obtain⟨f,tf,hf⟩:=hfl;have hcode:(env.code==.none)=false:=by rw[hc];rfl
 unfold inMainModule;rw[hc];refine Aa (Aa (wpAny_fieldsOf (S.kin _ _ hoc) hdc ?_));rw[hf];refine Aa (wpAny_askSetting (Ae ?_));have e1:displayRoad 0 [.Name n1 p1,.Starred (.Name n2 p2) p3]=.oneByOne:=rfl;have e2:Ap [.Name n1 p1,.Starred (.Name n2 p2) p3] env=[(false,eval (.Name n1 p1) env),(true,eval (.Name n2 p2) env)]:=rfl;rw[e1,e2];unfold setDisplay;have e3:(DisplayRoad.oneByOne==DisplayRoad.constants)=false:=rfl;have e4:(DisplayRoad.oneByOne==DisplayRoad.unsure)=false:=rfl;refine Aa (S.newSL λ a s1 S1=>?_);have e5:(if(List.map (λ x:Bool×Sem Value=>(x.1,do let v ← x.2;standAt pos;pure v)) [(false,eval (.Name n1 p1) env),(true,eval (.Name n2 p2) env)]).length>30 then 0 else
   (List.findIdx? (λ x=>x.1) (List.map (λ x:Bool×Sem Value=>(x.1,do let v ← x.2;standAt pos;pure v)) [(false,eval (.Name n1 p1) env),(true,eval (.Name n2 p2) env)])).getD
    (List.map (λ x:Bool×Sem Value=>(x.1,do let v ← x.2;standAt pos;pure v)) [(false,eval (.Name n1 p1) env),(true,eval (.Name n2 p2) env)]).length)=1:=rfl
 rw[e5];simp only[An,AF,List.take_succ_cons,List.take_zero,List.drop_succ_cons,List.drop_zero]
 refine Aa (AB ?_);refine Aa (wpAny_evalAll_cons ?_);refine Aa (S1.local_ h1 (Aa (AQ (Ae ?_))));refine wpAny_evalAll_nil ?_;refine Aa (AB ?_);rw[BD];refine Aa (Aa (Aa (S1.addT (ss:=[]) .head (by simp) (by decide) λ s2 S2=>Ae ?_)));dsimp only
 refine Ae ?_;refine Ae ?_;rw[BD];refine Aa (Aa (Aa (Aa (S2.local_ h2 (Aa (AQ (Ae ?_)))))));refine Aa (AB ?_);refine Sta.star (a:=a) (kvs:=kvs) (x:=x) (N:=N) (S2.perm (hd.perm.cons _)) hA hx hz λ s3 S3=>?_;refine Ae ?_;dsimp only
 refine Ae (Ae (Ae (h _ _ S3)))
theorem jB{α:Type}:∀{l:List α} {i:Nat} (h:i<l.length),(l[i]::l.eraseIdx i).Perm l
 | x::l,0,_=>by simp
 | x::l,i+1,h=>by
  have:=jB (l:=l) (i:=i) (by simpa using h);exact(List.Perm.swap ..).trans (this.cons _)
theorem pY{M:Model}{src:Source}{n:Nat}{Q:Nat->Ac->Prop}(hn:n≠0)(h:∀ i d,i<n->Q i { s with drawn:=d }):Ad M A (choose src n) Q E s:=
 λ _ _ _=>⟨hn,h _ _ (Nat.mod_lt _ (by walk_at "o"))⟩
theorem Sta.drawn(S:Sta W G env loc nw s)(d:Drawn):Sta W G env loc nw { s with drawn:=d }:=⟨S.ok,S.eok,S.led,S.bare,S.os,S.gens,S.gnd⟩
theorem Sta.drawOrder{α:Type}{M:Model}(n:Nat):∀(xs:List α) {Q:List α->Ac->Prop} {s:Ac},xs.length=n->Sta W G env loc nw s->(∀ ys s',ys.Perm xs->Sta W G env loc nw s'->Q ys s')->Ad M A (PySem.drawOrder n xs) Q E s:=by
 induction n with
 | zero=>
  intro xs Q s hn S h;have:xs=[]:=Bz.mp hn;subst this;exact Ae (h [] _ (.refl _) S)
 | succ n ih=>
  intro xs Q s hn S h
  induction xs with
  | nil=>exact absurd hn (by simp)
  | cons x xs=>
   refine Aa (pY (by simp) λ i d hi=>?_);rw[List.getElem?_eq_getElem hi];dsimp only
   refine Aa (ih ((x::xs).eraseIdx i) (by rw[List.length_eraseIdx_of_lt hi,hn];rfl) (S.drawn d) λ ys s' hp S'=>?_);refine Ae (h _ _ ?_ S');exact(hp.cons _).trans (jB hi)
theorem wP{α:Type}(next:Nat->Nat):∀(fuel k:Nat) (left:List α) (out:Array α),left.length=fuel->(pickOrder.go next fuel k left out).toList.Perm (out.toList++left)
 | 0,k,left,out,h=>by
  have:left=[]:=Bz.mp h;subst this;show out.toList.Perm (out.toList++[]);rw[Am]
 | fuel+1,k,left,out,h=>by
  have hlt:next k%left.length<left.length:=Nat.mod_lt _ (by walk_at "o");have e:pickOrder.go next (fuel+1) k left out=pickOrder.go next fuel (k+1) (left.eraseIdx (next k%left.length)) (out.push left[next k%left.length]):=by
   show(match left[next k%left.length]? with | some x=>pickOrder.go next fuel (k+1) (left.eraseIdx (next k%left.length)) (out.push x) | none=>out)=_;rw[List.getElem?_eq_getElem hlt]
  rw[e];refine(wP next fuel (k+1) _ _ (by rw[List.length_eraseIdx_of_lt hlt,h];rfl)).trans ?_;rw[Array.toList_push,Ah];exact List.Perm.append_left _ (jB hlt)
theorem yD{α:Type}(next:Nat->Nat)(xs:Array α):(pickOrder next xs).toList.Perm xs.toList:=by
 unfold pickOrder;simpa using wP next xs.size 0 xs.toList #[] rfl
theorem sY:typeLookup (.type "set") "__iter__"=pure (some (.builtin "set.__iter__")):=by rw[typeLookup_type,Bi];kernel_rfl
theorem iV:typeLookup (.type "set_iterator") "__next__"=pure (some (.builtin "set_iterator.__next__")):=by rw[typeLookup_type,Bi];kernel_rfl
theorem iF:Slot "set" "__iter__" "set.__iter__":=
 Slot.of sY (owner:="set") (n:="__iter__") (by decide +kernel) (by decide +kernel) (by decide +kernel) (.inl (by decide +kernel)) (by rw[isSubtype_type];kernel_rfl)
theorem bT:Slot "set_iterator" "__next__" "set_iterator.__next__":=
 Slot.of iV (owner:="set_iterator") (n:="__next__") (by decide +kernel) (by decide +kernel) (by decide +kernel) (.inl (by decide +kernel)) (by rw[isSubtype_type];kernel_rfl)
theorem oA:entryFor table "set.__iter__"=some Builtin.«frozenset.__iter__»:=entryFor_alias (id':="frozenset.__iter__") (by kernel_rfl) rfl (by decide +kernel) (by kernel_rfl)
theorem eC:entryFor table "set_iterator.__next__"=some Builtin.«set_iterator.__next__»:=entryFor_of_tree (by kernel_rfl)
theorem oY(a:Value):argsOk "set.__iter__" ⟨[a],[]⟩:=by unfold argsOk;kernel_rfl
theorem eM(a:Value):argsOk "set_iterator.__next__" ⟨[a],[]⟩:=by unfold argsOk;kernel_rfl
noncomputable def fV(first:Value)(i:Nat)(a:Addr)(n ep:Nat):Cell:=λ o=>o.cls=.type "set_iterator"/\o.data=.fields #[first,.int i 0,.ref a,.int n 0,.int ep 0]
theorem tA{a:Addr}{o:Obj}{es:Array (Int×Value)}{ep:Nat}{tb:SetTable}{Q:PySem.Fin->Ac->Prop}(S:Sta W G env loc nw s)(ma:(a,bU o)∈nw)(hex:o.ExactSet)(hd:o.data=.set es ep tb)(hf:tb.fits es.size=true)(hz:es.size<=4000)(h1:W.w.params.followText "set-order"=true\/tb.plain=true\/es.size<=1->∀ it s',Sta W G env loc ((it,fV (rawInt 0) 0 a es.size ep)::nw) s'->Q (.done (.ret (.ref it))) s')(h2:W.w.params.followText "set-order"=false->tb.plain=false->1<es.size->∀(ps:List Nat) it tp s',ps.Perm (Bg es.size)->Sta W G env loc ((it,fV (.ref tp) 0 a es.size ep)::(tp,aJ (ps.map λ(i:Nat)=>rawInt i))::nw) s'->Q (.done (.ret (.ref it))) s'):Ad W.M A (Builtin.«frozenset.__iter__» ⟨[.ref a],[]⟩) Q E s:=by
 unfold Builtin.«frozenset.__iter__»;have ho:s.heap.get? a=some o:=by
  obtain⟨o',ho',rfl⟩:=S.get ma;exact ho'
 obtain⟨h,g,d,t,os⟩:=s
 repeat lk
 rw[hd];dsimp only
 have hcond:(tb.place.size != es.size||decide (tb.fill>tb.mask))=false:=by
  have:=hf;rw[SetTable.fits,AI,beq_iff_eq,decide_eq_true_eq]at this;rw[this.1];rw[bne_self_eq_false];exact decide_eq_false (by walk_at "o")
 rw[hcond];refine Ae (Ae (Ae ?_));dsimp only
 have hdr:Ad W.M A (setDrawn a) (λ b s'=>s'=⟨h,g,d,t,os⟩/\b=(!W.w.params.followText "set-order"&&(!tb.plain&&decide (es.size>1)))) E ⟨h,g,d,t,os⟩:=by
  refine Aa (wpAny_setState_of ho hd hf ?_);exact Aa (Aa (wpAny_askSetting (Ae (Ae ⟨rfl,rfl⟩))))
 refine Aa (As hdr (λ b s' q=>?_) λ _ _ e=>e);obtain⟨rfl,hb⟩:=q
 induction b with
 | true=>
  have hb':=hb.symm;simp only[AI,Bs,decide_eq_true_eq]at hb';refine Aa ((S).drawOrder es.size (Bg es.size) (by simp) λ ps s1 hp S1=>?_);refine Aa (S1.newTuple (by rw[Ai,hp.length_eq,List.length_range,Aw];walk_at "o") λ tp s2 S2=>?_);obtain⟨o2,ho2,rfl⟩:=S2.get (.tail _ ma);refine Aa (wpAny_setEpoch_of ho2 hd hf ?_);refine Aa (wpAny_newObj_type ?_);exact Ae (h2 hb'.1 hb'.2.1 hb'.2.2 ps _ tp _ hp (S2.new (c:=fV (.ref tp) 0 a es.size ep) rfl ⟨rfl,rfl⟩ s2.toks))
 | false=>
  refine Aa (Ae ?_);refine Aa (wpAny_setEpoch_of ho hd hf ?_);refine Aa (wpAny_newObj_type ?_);refine Ae (h1 ?_ _ _ ((S).new (c:=fV (rawInt 0) 0 a es.size ep) rfl ⟨rfl,rfl⟩ t));have hb':=hb.symm;rcases q1:W.w.params.followText "set-order" with _ | _
  ·rw[q1]at hb';rcases q2:tb.plain with _ | _
   ·rw[q2]at hb';simp at hb';exact .inr (.inr (by walk_at "o"))
   ·exact .inr (.inl rfl)
  ·exact .inl rfl
theorem St0.get{a:Addr}{c:Cell}(S:St0 W G nw s)(m:(a,c)∈nw):∃ o,s.heap.get? a=some o/\c o:=S.led.get m
theorem St0.set{a:Addr}{c c':Cell}{o:Obj}{h':Heap}(S:St0 W G nw s)(U:Upd a c c' nw nw')(hs:∀ b o,b≠a->s.heap.get? b=some o->h'.get? b=some o)(ho:h'.get? a=some o)(hc:c' o)(t:Nat):St0 W G nw' { s with heap:=h',toks:=t }:=
 ⟨S.ok,S.led.set U hs ho hc,S.bare,S.os,S.gens,S.gnd⟩
theorem St0.lost{it:Addr}{c:Cell}{N:Lg}{h':Heap}(S:St0 W G nw s)(p:Pull (it,c) nw N)(hx:Heap.ExtBut it s.heap h'):St0 W G N { s with heap:=h' }:=by
 have D:=S.led.perm p.perm;have hB:=(D.own _ (.head _)).1;have nd:=D.nodup;rw[An,AP]at nd;refine⟨S.ok,⟨λ b o e=>hx b o (λ q=>by rw[q,hB]at e;cases e) (S.led.keep b o e),λ q hq=>?_,nd.2⟩,S.bare,S.os,S.gens,S.gnd⟩;obtain⟨h1,q0⟩:=D.own q (.tail _ hq);obtain⟨o,ho,hc⟩:=q0;exact⟨h1,o,hx _ _ (λ e=>nd.1 (Aj.mpr ⟨q,hq,e⟩)) ho,hc⟩
theorem pC{Q:Option Value->Ac->Prop}{h':Heap}{g:Array GenState}{d:Drawn}{tk:Nat}{os:OsState}(hh:A.handled=none)(hQ:∀ h2,(∀ b o,h'.get? b=some o->h2.get? b=some o)->Q none ⟨h2,g,d,tk,os⟩){R:PySem.Fin->Ac->Prop}:Ad W.M A.in1 (newExc (.type "StopIteration") [] >>= λ e=>(raiseNew e:Sem PySem.Fin)) R
   (λ e s'=>Ad W.M A (do if ← isInstance e (.type "StopIteration")then pure none else throw e) Q E s') ⟨h',g,d,tk,os⟩:=by
 refine Aa ?_;refine Aa (wpAny_newObj_type ?_ (by size_fits));refine Aa (m:=firstArgMember _ _) (Bw (a:=Value.none) (by first | rfl | (simp only[firstArgMember];rfl)) ?_);refine wpAny_newObj_type ?_ (by size_fits);refine Aa (wpAny_handled ?_);rw[show A.in1.handled=none from hh];refine Aa (Ae (wpAny_throw ?_));refine Aa (wpAny_isInstance (T:="StopIteration") (b:=true) ⟨_,Heap.get?_push_size _ rfl,rfl⟩ isSubtype_stop ?_);exact Ae (hQ _ λ b o e=>Heap.get?_push_of_some _ (Heap.get?_push_of_some _ e))
theorem St0.field{it a:Addr}{first first':Value}{i i' n ep:Nat}{oi:Obj}(S:St0 W G nw s)(U:Upd it (fV first i a n ep) (fV first' i' a n ep) nw nw')(hoi:s.heap.get? it=some oi)(hc:oi.cls=.type "set_iterator")(hdi:oi.data=.fields #[first,.int i 0,.ref a,.int n 0,.int ep 0])(f:Array Value->Array Value)(hf:f #[first,.int i 0,.ref a,.int n 0,.int ep 0]=#[first',.int i' 0,.ref a,.int n 0,.int ep 0]):St0 W G nw' { s with heap:=s.heap.update it (Obj.mapFields f) }:=
 S.set U (λ b o hb e=>((Heap.SameBut.update s.heap it _).2 b hb).trans e) (Heap.get?_update_self _ hoi (Obj.isFreed_of_fields (Obj.data_mapFields hdi _))) ⟨(Obj.cls_mapFields ..).trans hc,by rw[Obj.data_mapFields hdi,hf]⟩ s.toks
theorem vA{it a tp:Addr}{i:Nat}{ps:List Nat}{o:Obj}{es:Array (Int×Value)}{ep:Nat}{tb:SetTable}{Q:Option Value->Ac->Prop}(S:St0 W G nw s)(U:Upd it (fV (.ref tp) i a es.size ep) (fV (.ref tp) (i+1) a es.size ep) nw nw')(mt:(tp,aJ (ps.map λ(i:Nat)=>rawInt i))∈nw)(ma:(a,bU o)∈nw)(hd:o.data=.set es ep tb)(hf:tb.fits es.size=true)(hi:i<ps.length)(hp:ps[i]<es.size)(h:∀ s',St0 W G nw' s'->Q (some es[ps[i]].2) s'):Ad W.M A (pyNext (.ref it)) Q E s:=by
 obtain⟨oi,hoi,hc,hdi⟩:=S.get U.mem;obtain⟨o',ho',rfl⟩:=S.get ma;obtain⟨ot,hot,q0⟩:=S.get mt;obtain⟨nt,rfl⟩:=q0;have hT:s.TypeIs (.ref it) "set_iterator":=⟨oi,hoi,hc⟩
 unfold pyNext;refine Aa (BH (wpAny_callSpecial?_slot (name:=Str.ofString "__next__") hT bT (wpAny_call_entry bT hT eC ?_ (eM _))));refine Aa (Ae ?_);refine Aa (wpAny_fieldsOf hoi hdi ?_);dsimp only
 refine Aa (wpAny_setEntries_of ho' hd hf ?_);have e1:((es.size:Int) != (es.size:Int))=false:=by simp
 rw[e1];refine Aa (wpAny_seqItems hot rfl ?_);dsimp only
 have e2:((ps.map λ(i:Nat)=>rawInt i).toArray)[(i:Int).toNat]?=some (.int ps[i] 0):=by
  simp[hi,rawInt]
 rw[e2];unfold setNextDrawn;refine Aa (Aa (wpAny_setState_of ho' hd hf ?_));have e3:(ep != (ep:Int).toNat)=false:=by simp
 dsimp only
 rw[e3];have e4:es[(ps[i]:Int).toNat]?=some es[ps[i]]:=by
  rw[BM];exact Array.getElem?_eq_getElem hp
 rw[e4];refine Ae ?_;refine Aa (wpAny_setField hoi hdi (by simp) ?_);refine Ae ⟨_,rfl,Ae (h _ ?_)⟩;refine S.field U hoi hc hdi _ ?_
 rfl
theorem yZ{it a tp:Addr}{i:Nat}{ps:List Nat}{o:Obj}{es:Array (Int×Value)}{ep:Nat}{tb:SetTable}{N:Lg}{Q:Option Value->Ac->Prop}(S:St0 W G nw s)(hh:A.handled=none)(P:Pull (it,fV (.ref tp) i a es.size ep) nw N)(mt:(tp,aJ (ps.map λ(i:Nat)=>rawInt i))∈nw)(ma:(a,bU o)∈nw)(hd:o.data=.set es ep tb)(hf:tb.fits es.size=true)(hi:ps.length<=i)(h:∀ s',St0 W G N s'->Q none s'):Ad W.M A (pyNext (.ref it)) Q E s:=by
 obtain⟨oi,hoi,hc,hdi⟩:=S.get P.mem';obtain⟨o',ho',rfl⟩:=S.get ma;have hT:s.TypeIs (.ref it) "set_iterator":=⟨oi,hoi,hc⟩
 unfold pyNext;refine Aa (BH (wpAny_callSpecial?_slot (name:=Str.ofString "__next__") hT bT (wpAny_call_entry bT hT eC ?_ (eM _))));refine Aa (Ae ?_);dsimp only
 refine Aa (wpAny_fieldsOf hoi hdi ?_);dsimp only
 refine Aa (wpAny_setEntries_of ho' hd hf ?_);have e1:((es.size:Int) != (es.size:Int))=false:=by simp
 rw[e1];obtain⟨ot,hot,q0⟩:=S.get mt;obtain⟨nt,rfl⟩:=q0;refine Aa (wpAny_seqItems hot rfl ?_);dsimp only
 have e2:((ps.map λ(i:Nat)=>rawInt i).toArray)[(i:Int).toNat]?=none:=by
  simp[hi]
 rw[e2];dsimp only
 refine Aa (wpAny_setField hoi hdi (by simp) ?_);have h2:=Heap.get?_update_self (Obj.mapFields (·.setIfInBounds 0 (rawInt 0))) hoi (Obj.isFreed_of_fields (Obj.data_mapFields hdi _));refine Aa (wpAny_setField h2 (Obj.data_mapFields hdi _) (by simp) ?_);refine pC hh λ h3 hk=>h _ (S.lost P λ b o hb e=>hk b o ?_);exact((Heap.SameBut.update _ it _).2 b hb).trans (((Heap.SameBut.update s.heap it _).2 b hb).trans e)
noncomputable def kW(W:Wd)(a:Addr)(es:Array (Int×Value))(ep:Nat)(tb:SetTable)(slot given:Nat)(r:Option (Value×Nat)):Prop:=∀ A (s:Ac) o,s.heap.get? a=some o->o.data=.set es ep tb->tb.fits es.size=true->∀(E:Value->Ac->Prop),
 Ad W.M A (setNext a slot given ep) (λ q s'=>s'=s/\q=r) E s
theorem aBW{it a:Addr}{o:Obj}{es:Array (Int×Value)}{ep:Nat}{tb:SetTable}{Q:Option Value->Ac->Prop}{slot slot' i:Nat}{v:Value}(S:St0 W G nw s)(hn:kW W a es ep tb slot i (some (v,slot')))(U:Upd it (fV (rawInt slot) i a es.size ep) (fV (rawInt slot') (i+1) a es.size ep) nw nw')(ma:(a,bU o)∈nw)(hd:o.data=.set es ep tb)(hf:tb.fits es.size=true)(h:∀ s',St0 W G nw' s'->Q (some v) s'):Ad W.M A (pyNext (.ref it)) Q E s:=by
 obtain⟨oi,hoi,hc,hdi⟩:=S.get U.mem;obtain⟨o',ho',rfl⟩:=S.get ma;have hT:s.TypeIs (.ref it) "set_iterator":=⟨oi,hoi,hc⟩
 unfold pyNext;refine Aa (BH (wpAny_callSpecial?_slot (name:=Str.ofString "__next__") hT bT (wpAny_call_entry bT hT eC ?_ (eM _))));refine Aa (Ae ?_);dsimp only
 refine Aa (wpAny_fieldsOf hoi hdi ?_);refine Aa (wpAny_setEntries_of ho' hd hf ?_);have e1:((es.size:Int) != (es.size:Int))=false:=by simp
 rw[e1];refine Aa (As (hn _ s _ ho' hd hf _) (λ q s' e=>?_) λ _ _ e=>e);obtain⟨rfl,rfl⟩:=e;refine Aa (wpAny_setField hoi hdi (by simp) ?_);have h2:=Heap.get?_update_self (Obj.mapFields (·.setIfInBounds 0 (rawInt slot'))) hoi (Obj.isFreed_of_fields (Obj.data_mapFields hdi _));refine Aa (wpAny_setField h2 (Obj.data_mapFields hdi _) (by simp) ?_);refine Ae ⟨_,rfl,Ae (h _ ?_)⟩;obtain⟨nw1,U1,U2⟩:=U.via2 (fV (rawInt slot') i a es.size ep);have S1:=S.field U1 hoi hc hdi (·.setIfInBounds 0 (rawInt slot')) rfl;have S2:=S1.field U2 h2 ((Obj.cls_mapFields ..).trans hc) (by rw[Obj.data_mapFields hdi];simp) (·.setIfInBounds 1 (rawInt ((i:Int)+1))) rfl;exact S2
theorem aED{it a:Addr}{o:Obj}{es:Array (Int×Value)}{ep:Nat}{tb:SetTable}{Q:Option Value->Ac->Prop}{slot i:Nat}{N:Lg}(S:St0 W G nw s)(hh:A.handled=none)(hn:kW W a es ep tb slot i none)(P:Pull (it,fV (rawInt slot) i a es.size ep) nw N)(ma:(a,bU o)∈nw)(hd:o.data=.set es ep tb)(hf:tb.fits es.size=true)(h:∀ s',St0 W G N s'->Q none s'):Ad W.M A (pyNext (.ref it)) Q E s:=by
 obtain⟨oi,hoi,hc,hdi⟩:=S.get P.mem';obtain⟨o',ho',rfl⟩:=S.get ma;have hT:s.TypeIs (.ref it) "set_iterator":=⟨oi,hoi,hc⟩
 unfold pyNext;refine Aa (BH (wpAny_callSpecial?_slot (name:=Str.ofString "__next__") hT bT (wpAny_call_entry bT hT eC ?_ (eM _))));unfold Builtin.«set_iterator.__next__»;refine Aa (Ae ?_);dsimp only
 refine Aa (wpAny_fieldsOf hoi hdi ?_);dsimp only
 refine Aa (wpAny_setEntries_of ho' hd hf ?_);have e1:((es.size:Int) != (es.size:Int))=false:=by simp
 rw[e1];refine Aa (As (hn _ s _ ho' hd hf _) (λ q s' e=>?_) λ _ _ e=>e);obtain⟨rfl,rfl⟩:=e;dsimp only
 refine Aa (wpAny_setField hoi hdi (by simp) ?_);refine pC hh λ h3 hk=>h _ (S.lost P λ b o hb e=>hk b o ?_);exact((Heap.SameBut.update _ it _).2 b hb).trans e
theorem gN{a:Addr}{es:Array (Int×Value)}{ep:Nat}{tb:SetTable}{slot given:Nat}(hby:W.w.params.followText "set-order"=false)(hled:tb.led=true)(h1:es.size<=1):kW W a es ep tb slot given (match es[SetTable.below tb.place slot]?,tb.place[SetTable.below tb.place slot]? with | some (_,x),some j=>some (x,j+1) | _,_=>none):=by
 intro A s o ho hd hf E;unfold setNext setsByText;refine Aa (wpAny_setState_of ho hd hf ?_);refine Aa (Aa (wpAny_askSetting (Ae ?_)));have q:((Setting.mk W.M.prog W.M.w.params).params.followText "set-order")=false:=hby;rw[q];dsimp only
 rw[if_neg Bool.false_ne_true];rw[if_neg]
 rotate_left
 ·show ¬((!tb.plain&&decide (es.size>1))=true);rw[decide_eq_false (by walk_at "o")];simp
 show Ad _ _ ((if(!tb.led&&!es.isEmpty)=true then(unsupported "set:maker-not-led":Sem Unit)else pure ()) >>= _) _ _ _;rw[if_neg (by rw[hled];simp)];exact Aa (Ae (Ae ⟨rfl,rfl⟩))
theorem lD{a:Addr}{es:Array (Int×Value)}{ep:Nat}{tb:SetTable}{slot given:Nat}(hby:W.w.params.followText "set-order"=true):kW W a es ep tb slot given (((pickOrder (W.w.params.setOrder a ep) es)[given]?).map λ e=>(e.2,slot)):=by
 intro A s o ho hd hf E;unfold setNext setsByText;refine Aa (wpAny_setState_of ho hd hf ?_);refine Aa (Aa (wpAny_askSetting (Ae ?_)));have q:((Setting.mk W.M.prog W.M.w.params).params.followText "set-order")=true:=hby;rw[q];dsimp only
 have e1:(ep != ep)=false:=by simp
 rw[e1];unfold setWalk setsByText;refine Aa (Aa (wpAny_setState_of ho hd hf ?_));refine Aa (Aa (wpAny_askSetting (Ae ?_)));rw[q];exact Aa (wpAny_askSetting (Ae (Ae ⟨rfl,rfl⟩)))
theorem bel1{j k:Nat}:SetTable.below #[j] k=if j<k then 1 else 0:=by kernel_rfl
theorem sK{α:Type}(p:α):∀(L R:List α),Pull p (L++p::R) (L++R):=by
 intro l0
 induction l0 with
 | nil=>
  intro _;exact .head
 | cons _ L ih=>
  intro R;exact .tail (ih R)
theorem wD{a:Addr}{c c':Cell}:∀(L R:Lg),Upd a c c' (L++(a,c)::R) (L++(a,c')::R):=by
 intro l0
 induction l0 with
 | nil=>
  intro _;exact .head
 | cons _ L ih=>
  intro R;exact .tail (ih R)
theorem St0.sub{W:Wd}{G:Gens}{nw nw':Lg}{s:Ac}(S:St0 W G nw s)(h:List.Sublist nw' nw):St0 W G nw' s:=⟨S.ok,S.led.sub h,S.bare,S.os,S.gens,S.gnd⟩
theorem jM{first:Value}{i:Nat}{a:Addr}{n ep:Nat}:∀ o,fV first i a n ep o->cY o=true:=λ o h=>by unfold cY;rw[h.1];decide
section
variable {W:Wd}{sh:Lg}{it a tp:Addr}{o:Obj}{es:Array (Int×Value)}{ep:Nat}{tb:SetTable}
theorem pW{ps:List Nat}(ma:(a,bU o)∈sh)(hd:o.data=.set es ep tb)(hf:tb.fits es.size=true)(hps:∀ j∈ps,j<es.size):∀(m i:Nat),ps.length-i=m->i<=ps.length->
  cE W sh it ((ps.drop i).map λ j=>(es.getD j (0,.none)).2) [(it,fV (.ref tp) i a es.size ep),(tp,aJ (ps.map λ(i:Nat)=>rawInt i))] []:=by
 intro m
 induction m with
 | zero=>
  intro i hm hi;have e0:ps.drop i=[]:=Bu (by walk_at "o");rw[e0];refine⟨⟨_,Af _ (.head _),jM⟩,λ A R GR s Q E hA S hQ=>?_⟩;rw[Am]at S;rw[←Ah]at S;refine yZ S hA.handled (sK _ (R++sh) _) (ps:=ps) (by simp) (by simp[ma]) hd hf (by walk_at "o") λ s' S'=>hQ _ ?_;exact S'.sub (A7 _ _)
 | succ m ih=>
  intro i hm hi;have hlt:i<ps.length:=by walk_at "o"
  have hj:=hps _ (Bd hlt);rw[(Ba hlt)];refine⟨⟨_,Af _ (.head _),jM⟩,λ A R GR s Q E hA S hQ=>?_⟩;rw[Am]at S;rw[←Ah]at S;refine vA S (wD (R++sh) _) (ps:=ps) (by simp) (by simp[ma]) hd hf hlt hj λ s' S'=>?_;have e1:es[ps[i]].2=(es.getD ps[i] (0,.none)).2:=by simp[Array.getD,hj]
  rw[e1];refine hQ [(it,fV (.ref tp) (i+1) a es.size ep),(tp,aJ (ps.map λ(i:Nat)=>rawInt i))] [] _ ?_ (ih (i+1) (by walk_at "o") hlt);rw[Am,←Ah];exact S'
theorem kC{slots:List Nat}{vs:List Value}(ma:(a,bU o)∈sh)(hd:o.data=.set es ep tb)(hf:tb.fits es.size=true)(hl:slots.length=vs.length+1)(hn:∀ i (h:i<vs.length),kW W a es ep tb (slots[i]'(by walk_at "o")) i (some (vs[i],slots[i+1]'(by walk_at "o"))))(he:kW W a es ep tb (slots[vs.length]'(by walk_at "o")) vs.length none):∀(m i:Nat) (hm:vs.length-i=m) (hi:i<=vs.length),
  cE W sh it (vs.drop i) [(it,fV (rawInt (slots[i]'(by walk_at "o"):Nat)) i a es.size ep)] []:=by
 intro m
 induction m with
 | zero=>
  intro i hm hi;have hi2:i=vs.length:=by walk_at "o"
  subst hi2;rw[List.drop_length];refine⟨⟨_,Af _ (.head _),jM⟩,λ A R GR s Q E hA S hQ=>?_⟩;rw[←Ah]at S;refine aED S hA.handled he (sK _ (R++sh) _) (by simp[ma]) hd hf λ s' S'=>hQ _ ?_;simpa using S'
 | succ m ih=>
  intro i hm hi;have hlt:i<vs.length:=by walk_at "o"
  have e0:vs.drop i=vs[i]::vs.drop (i+1):=Ba hlt;rw[e0];refine⟨⟨_,Af _ (.head _),jM⟩,λ A R GR s Q E hA S hQ=>?_⟩;rw[Am]at S;rw[←Ah]at S;refine aBW S (hn i hlt) (wD (R++sh) _) (by simp[ma]) hd hf λ s' S'=>?_;refine hQ [(it,fV (rawInt (slots[i+1]'(by walk_at "o"):Nat)) (i+1) a es.size ep)] [] _ ?_ (ih (i+1) (by walk_at "o") hlt);rw[Am,←Ah];exact S'
theorem TxA.get{vs:List Value}{ss:List Str}(h:TxA vs ss):∀(ps:List Nat),(∀ j∈ps,j<vs.length)->TxA (ps.map λ j=>vs.getD j .none) (ps.map λ j=>ss.getD j Str.empty):=by
 intro l0
 induction l0 with
 | nil=>
  intro _;exact .nil
 | cons j ps ih=>
  intro hp;have ih:=ih λ k hk=>hp k (.tail _ hk);have hj:=hp j (.head _);have key:∀{vs:List Value} {ss:List Str},TxA vs ss->∀ j,j<vs.length->∃ t,vs.getD j .none=.str (ss.getD j Str.empty) t:=by
   intro vs ss h
   induction h with
   | nil=>intro j hj;simp at hj
   | cons x t h ih=>
    intro j hj
    induction j with
    | zero=>exact⟨t,rfl⟩
    | succ j=>simpa using ih j (by simpa using hj)
  obtain⟨t,e⟩:=key h j hj;rw[An,e];exact .cons _ t ih
theorem lX{α:Type}(d:α)(l:List α):((Bg l.length).map λ j=>l.getD j d)=l:=by
 apply List.ext_getElem
 ·simp
 ·intro i h1 h2;simp at h1;simp[h1]
end
theorem Sta.iterSet{a:Addr}{ss:List Str}{Q:Value->Ac->Prop}(S:Sta W G env loc ((a,bZ W ss)::N) s)(hz:ss.length<=4000)(h:∀ it vs ss' own o s',TxA vs ss'->ss'.Perm ss->bZ W ss o->Sta W G env loc (own++((a,bU o)::N)) s'->cE W [(a,bU o)] it vs own []->Q (.ref it) s'):Ad W.M A (pyIter (.ref a)) Q E s:=by
 obtain⟨o,ho,hsl⟩:=S.get (.head _);have S1:Sta W G env loc ((a,bU o)::N) s:=S.tell .head λ o' ho' _=>by rw[ho]at ho';cases ho';rfl
 have hsl0:bZ W ss o:=hsl;obtain⟨hex,q⟩:=hsl;obtain⟨es,ep,tb,hd,hel,q⟩:=q;obtain⟨hss,hf,hled,hpl,hsm⟩:=q;obtain⟨ss',htx,hpm⟩:=hss;have hT:s.TypeIs (.ref a) "set":=⟨o,ho,hex.1⟩
 have hlen:es.size=ss.length:=by
  have:=htx.length;rw[Ai,AX]at this;rw[this,hpm.length_eq]
 have hpsz:tb.place.size=es.size:=by
  have:=hf;simp only[SetTable.fits,AI,beq_iff_eq]at this;exact this.1
 refine wpAny_pyIter_slot hT iF (wpAny_call_entry iF hT oA ?_ (oY _));refine tA S1 (.head _) hex hd hf (by walk_at "o") (λ hc it s' S'=>?_) (λ hby hp hgt ps it tp s' hperm S'=>?_)
 ·obtain⟨oi,hoi,hci,_⟩:=S'.get (.head _);refine⟨_,rfl,"set_iterator",_,⟨oi,hoi,hci⟩,iV,?_⟩;cases hby:W.w.params.followText "set-order" with
  | true=>
   have hpp:=yD (W.w.params.setOrder a ep) es;obtain⟨s2,a2,b2⟩:=TxA.perm (hpp.map (·.2)) htx;refine h it _ s2 [(it,fV (rawInt 0) 0 a es.size ep)] o s' a2 (b2.trans hpm) hsl0 S' ?_;have hpz:(pickOrder (W.w.params.setOrder a ep) es).size=es.size:=by rw[←AX,hpp.length_eq,AX]
   have Y:=kC (W:=W) (sh:=[(a,bU o)]) (it:=it) (a:=a) (o:=o) (es:=es) (ep:=ep) (tb:=tb) (slots:=List.replicate (es.size+1) 0) (vs:=(pickOrder (W.w.params.setOrder a ep) es).toList.map (·.2)) (.head _) hd hf (by simp[hpz]) ?_ ?_ _ 0 rfl (by walk_at "o")
   ·simpa using Y
   ·intro i hi;simp only[Ai,AX]at hi;have:=lD (W:=W) (a:=a) (es:=es) (ep:=ep) (tb:=tb) (slot:=0) (given:=i) hby;rw[Array.getElem?_eq_getElem hi]at this;simpa using this
   ·have:=lD (W:=W) (a:=a) (es:=es) (ep:=ep) (tb:=tb) (slot:=0) (given:=(pickOrder (W.w.params.setOrder a ep) es).size) hby;rw[Array.getElem?_eq_none (AN _)]at this;simpa using this
  | false=>
   have hl2:tb.led=true:=hled.resolve_right (by rw[hby];decide);have hle:es.size<=1:=by
    rcases hc with q | q | q
    ·rw[hby]at q;cases q
    ·by_cases z:es.size=0
     ·walk_at "o"
     ·rw[hpl z]at q;cases q
    ·exact q
   refine h it _ ss' [(it,fV (rawInt 0) 0 a es.size ep)] o s' htx hpm hsl0 S' ?_
   by_cases z:es.size=0
   ·have e1:es=#[]:=Array.size_eq_zero_iff.mp z;have Y:=kC (W:=W) (sh:=[(a,bU o)]) (it:=it) (a:=a) (o:=o) (es:=es) (ep:=ep) (tb:=tb) (slots:=[0]) (vs:=[]) (.head _) hd hf rfl (λ i hi=>by simp at hi) ?_ _ 0 rfl (by walk_at "o")
    ·subst e1;simpa using Y
    ·have:=gN (W:=W) (a:=a) (es:=es) (ep:=ep) (tb:=tb) (slot:=0) (given:=0) hby hl2 hle;have e2:es[SetTable.below tb.place 0]?=none:=Array.getElem?_eq_none (by walk_at "o");rw[e2]at this;exact this
   ·have hz1:es.size=1:=by walk_at "o"
    obtain⟨j,hj⟩:∃ j,tb.place=#[j]:=Array.size_eq_one_iff.mp (by walk_at "o");obtain⟨e,he⟩:∃ e,es=#[e]:=Array.size_eq_one_iff.mp hz1;have b0:SetTable.below tb.place 0=0:=hj▸bel1.trans (if_neg (Nat.not_lt_zero j));have b1:SetTable.below tb.place (j+1)=1:=hj▸bel1.trans (if_pos (Nat.lt_succ_self j));have Y:=kC (W:=W) (sh:=[(a,bU o)]) (it:=it) (a:=a) (o:=o) (es:=es) (ep:=ep) (tb:=tb) (slots:=[0,j+1]) (vs:=[e.2]) (.head _) hd hf rfl (λ i hi=>?_) ?_ _ 0 rfl (by walk_at "o")
    ·subst he;exact Y
    ·have hi0:i=0:=by simpa using hi
     subst hi0;have:=gN (W:=W) (a:=a) (es:=es) (ep:=ep) (tb:=tb) (slot:=0) (given:=0) hby hl2 hle;rw[b0,hj,he]at this;rw[he];exact this
    ·have:=gN (W:=W) (a:=a) (es:=es) (ep:=ep) (tb:=tb) (slot:=j+1) (given:=1) hby hl2 hle;rw[b1]at this;have e2:es[1]?=none:=Array.getElem?_eq_none (by walk_at "o");rw[e2]at this;exact this
 ·obtain⟨oi,hoi,hci,_⟩:=S'.get (.head _);refine⟨_,rfl,"set_iterator",_,⟨oi,hoi,hci⟩,iV,?_⟩;have hps:∀ j∈ps,j<es.size:=λ j hj=>by simpa using hperm.mem_iff.mp hj
  have Y:=pW (W:=W) (sh:=[(a,bU o)]) (it:=it) (a:=a) (tp:=tp) (o:=o) (es:=es) (ep:=ep) (tb:=tb) (ps:=ps) (.head _) hd hf hps ps.length 0 (by walk_at "o") (by walk_at "o");have hpl2:∀ j∈ps,j<(es.toList.map (·.2)).length:=λ j hj=>by simpa using hps j hj
  have ht:=TxA.get htx ps hpl2;have e1:(ps.map λ j=>(es.toList.map (·.2)).getD j .none)=ps.map λ j=>(es.getD j (0,.none)).2:=by
   apply List.map_congr_left;intro j hj;have:=hps j hj;simp[Array.getD,this,List.getD]
  rw[e1]at ht;refine h it _ _ _ o s' ht ?_ hsl0 S' Y;have hl':ss'.length=es.size:=by
   have:=htx.length;rw[Ai,AX]at this;exact this.symm
  have p1:=hperm.map λ j=>ss'.getD j Str.empty;rw[←hl',lX]at p1;exact p1.trans hpm
theorem vE:typeLookup (.type "set") "__len__"=pure (some (.builtin "set.__len__")):=by rw[typeLookup_type,Bi];kernel_rfl
theorem St0.perm{W:Wd}{G:Gens}{nw nw':Lg}{s:Ac}(S:St0 W G nw s)(h:List.Perm nw nw'):St0 W G nw' s:=⟨S.ok,S.led.perm h,S.bare,S.os,S.gens,S.gnd⟩
theorem aD5{α:Type}(e a t:α)(own N:List α):List.Perm (e::(own++(a::t::N))) (t::((e::N)++([a]++own))):=by
 have h1:List.Perm (e::(own++(a::t::N))) (e::((a::t::N)++own)):=AT.cons _;have h2:List.Perm (e::((a::t::N)++own)) (t::e::a::(N++own)):=((List.Perm.swap ..).cons _).trans (List.Perm.swap ..);exact h1.trans (h2.trans ((AM.symm.cons _).cons _))
theorem aAT{a:Addr}{Q:Bool->Ac->Prop}(hT:s.TypeIs (.ref a) "set")(h:Q false s):Ad W.M A (Builtin.List.listLengthHint (.ref a)) Q E s:=by
 obtain⟨o,ho,hc⟩:=hT;obtain⟨hp,g,d,t,os⟩:=s;have hT:(⟨hp,g,d,t,os⟩:Ac).TypeIs (.ref a) "set":=⟨o,ho,hc⟩
 refine Aa (wpAny_specialOf hT vE ?_);dsimp only
 rw[show splitId "set.__len__"=some ("set","__len__")from by decide +kernel];dsimp only
 refine Aa (wpAny_isInstance (b:=true) hT (by rw[isSubtype_type];kernel_rfl) ?_);rw[if_neg (by decide)];rw[if_pos]
 rotate_left
 ·decide +kernel
 exact Aa (wpAny_typeOf hT (Ae h))
theorem Sta.collectSet{a:Addr}{ss:List Str}{Q:List Value->Ac->Prop}(S:Sta W G env loc ((a,bZ W ss)::N) s)(hA:Aok 9 A)(hz:ss.length<=4000)(h:∀ vs ss' s',TxA vs ss'->ss'.Perm ss->Sta W G env loc ((a,bZ W ss)::N) s'->Q vs s'):Ad W.M A (collect (.ref a)) Q E s:=by
 unfold collect;refine Aa (wpAny_runValue (codeAny_builtin F.entry_proto_collect ?_));show Ad _ A.in1 (PySem.newList [] >>= λ l=>again (.builtin "list.__iadd__" ⟨[l,.ref a],[]⟩)) _ _ s;refine Aa (S.newList (by simp) λ T s1 S1=>?_);refine Ae ⟨plainId_quiet F.plain_list_iadd _,codeAny_builtin F.entry_list_iadd ?_⟩;show Ad _ A.in1 (Builtin.List.listExtendWith (.ref T) (.ref a) (.ref T)) _ _ _;obtain⟨oa,hoa,hsl⟩:=S1.get (.tail _ (.head _));have hT1:s1.TypeIs (.ref a) "set":=⟨oa,hoa,hsl.1.1⟩
 have hne:T≠a:=λ e=>by
  have nd:=S1.led.nodup;simp only[An,AP,Ax]at nd;exact nd.2.1 (.inl e)
 refine Aa (wpAny_typeOf hT1 ?_);have h1:Builtin.List.listSameRef (.ref T) (.ref a)=false:=by simp[Builtin.List.listSameRef,hne]
 have h2:(Value.type "set"==Value.type "list")=false:=by decide
 have h3:(Value.type "set"==Value.type "tuple")=false:=by decide
 rw[h1,h2,h3];rw[if_neg (by decide)];refine Aa ((S1.perm (List.Perm.swap ..)).iterSet hz λ it vs ss' own o s2 ht hpm hslo S2 hy=>?_);obtain⟨o2,ho2,e2⟩:=S2.get (Af _ (.head _));rw[e2]at ho2;refine Aa (AB (aAT ⟨_,ho2,hslo.1.1⟩ ?_));have hres:((false||(["set","frozenset","dict","dict_keys","dict_values","dict_items"]:List String).any (Value.type "set"==.type ·))=true):=by decide
 show Ad _ A.in1 ((if(false||(["set","frozenset","dict","dict_keys","dict_values","dict_items"]:List String).any (Value.type "set"==.type ·))=true then(rule "list.extend.makes-room" >>= λ _=>Builtin.List.listTouch (.ref T) >>= λ _=>again (.builtin "list.extend.loop" ⟨[.ref T,.ref it,.ref T],[]⟩))else again (.builtin "list.extend.loop" ⟨[.ref T,.ref it,.ref T],[]⟩))) _ _ _;refine Aa (wpAny_rule ?_);refine Aa ?_;have S0:St0 W (G++[]) ((T,aA [])::(((env.locals,aL loc)::N)++([(a,bU o)]++own))) s2:=by
  rw[Am];exact S2.to0.perm (aD5 _ _ _ _ _)
 obtain⟨n,hl⟩:=S0.isL (.head _);refine Aa (wpAny_updateSeq hl rfl ?_ (by simp) (by simp));have S3:=S0.setL (ys:=[.none]) hl (·.push Value.none) rfl;obtain⟨n1,hl1⟩:=S3.isL (.head _);refine wpAny_updateSeq hl1 rfl ?_ (by simp[Aw]) (by simp);have S4:=S3.setL (ys:=[]) hl1 (·.pop) rfl;have hvz:vs.length<=AC:=by rw[ht.length,hpm.length_eq,Aw];walk_at "o"
 refine Ae ⟨plainId_quiet F.plain_extend_loop _,oW vs own [] [] A _ (hA.le (by first | decide | walk_at "o")) hy (by simpa using hvz) S4 λ s5 S5=>?_⟩;obtain⟨n5,hl5⟩:=S5.isL (.head _);refine Aa (wpAny_load hl5 ?_);refine Ae (h vs ss' s5 ht hpm ?_);have S6:St0 W G ((env.locals,aL loc)::(a,bU o)::N) s5:=(S5.sub (AZ _ _)).perm (by
  exact(AT (l₁:=N) (l₂:=[_])).cons _)
 exact(St0.toSta S6 S.eok).tell .head λ o _ e=>by rw[e];exact hslo
noncomputable def nJ:List Str->List Str->Bool
 | [],[]=>false
 | [],_::_=>true
 | _::_,[]=>false
 | x::xs,y::ys=>if x=y then nJ xs ys else decide (x.cps.toList<y.cps.toList)
theorem gZ{x y:Str}{xs ys:List Str}:nJ (x::xs) (y::ys)=if x=y then nJ xs ys else decide (x.cps.toList<y.cps.toList):=rfl
theorem TxA.at'{vs:List Value}{ss:List Str}(h:TxA vs ss):∀(i:Nat) (h:i<ss.length),∃ t,vs[i]?=some (.str ss[i] t):=by
 induction h with
 | nil=>intro k h;cases h
 | cons n t h ih=>
  intro k hk
  induction k with
  | zero=>exact⟨t,rfl⟩
  | succ k=>
   obtain⟨u,e⟩:=ih k (by simpa using hk);exact⟨u,by simpa using e⟩
theorem nZ{A:AL}{s:Ac}{x y:Str}{t u:Tok}:EqAt A s (.str x t) (.str y u) (decide (x=y)):=by
 have h:EqAt A s (.str x t) (.str y u) _:=EqAt.str_str x t y u;have e:(x==y)=decide (x=y):=by
  by_cases q:x=y
  ·subst q;simp
  ·rw[decide_eq_false q];exact beq_eq_false_iff_ne.mpr q
 first | exact e▸h | (rw[←e];exact h) | simpa using h
open PySem.AutoSeq1 (wpAny_loadPart')
open PySem.MeetsSeq PySem.MeetsSeq2 PySem.MeetsSeq3 PySem.SeqRoads2
theorem xY{prog:Program}{w:World}{A:AL}{E:Value->Ac->Prop}{s:Ac}{x y:Str}{t u:Tok}{Q:Value->Ac->Prop}(h:Q (.bool (decide (x.cps.toList<y.cps.toList))) s):Ad (model prog w) A (richCompare .Lt (.str x t) (.str y u)) Q E s:=
 PyProof.Rows.lt_str h
theorem aB2(l b:Addr)(vs vs2:List Value)(n n2:Nat)(ss ss2:List Str)(h1:TxA vs ss)(h2:TxA vs2 ss2)(k:Nat):∀ i:Nat,ss.length-i=k->i<=ss.length->i<=ss2.length->Meets (Builtin.«list.__eq__.loop» ⟨[.ref l,.ref b,rawInt i,rawInt 0],[]⟩)
   (λ _ R s=>s.heap.get? l=some { cls:=.type "list",data:=.seq vs.toArray n }/\s.heap.get? b=some { cls:=.type "list",data:=.seq vs2.toArray n2 }∧
    R (.ok (.ret (.bool (nJ (ss.drop i) (ss2.drop i))))) s):=by
 induction k with
 | zero=>
  intro i hk hi hi2 prog w A R s h;obtain⟨hp,g,d,tk,os⟩:=s;obtain⟨hl,hb,h⟩:=h
  wp_walk using wpAny_loadPart' hl,wpAny_loadPart' hb
  have e1:vs.toArray[((i:Nat):Int).toNat]?=none:=by
   simp[h1.length];walk_at "o"
  rw[e1]
  wp_walk using wpAny_loadPart' hl,wpAny_loadPart' hb
  show R (.ok (.ret (.bool (decide (vs.toArray.size<vs2.toArray.size))))) _;rw[AK,AK,h1.length,h2.length];have e2:ss.drop i=[]:=Bu (by walk_at "o");rw[e2]at h;have e3:nJ [] (ss2.drop i)=decide (ss.length<ss2.length):=by
   by_cases q:i<ss2.length
   ·rw[Ba q];have:ss.length<ss2.length:=by walk_at "o"
    exact(decide_eq_true this).symm
   ·rw[Bu (by walk_at "o")];have:¬ss.length<ss2.length:=by walk_at "o"
    exact(decide_eq_false this).symm
  rw[←e3];exact h
 | succ k ih=>
  intro i hk hi hi2 prog w A R s h;obtain⟨hp,g,d,tk,os⟩:=s;obtain⟨hl,hb,h⟩:=h;have hlt:i<ss.length:=by walk_at "o"
  obtain⟨t,et⟩:=h1.at' i hlt;have e1:vs.toArray[((i:Nat):Int).toNat]?=some (.str ss[i] t):=by simpa using et
  by_cases hlt2:i<ss2.length
  ·obtain⟨u,eu⟩:=h2.at' i hlt2;have e2:vs2.toArray[((i:Nat):Int).toNat]?=some (.str ss2[i] u):=by simpa using eu
   wp_walk using wpAny_loadPart' hl,wpAny_loadPart' hb
   rw[e1,e2];refine Aa (nZ prog w _ _ ?_);rw[Ba hlt,Ba hlt2]at h;have hc:((i:Int)+1)=((i+1:Nat):Int):=by push_cast;rfl
   by_cases q:ss[i]=ss2[i]
   ·rw[decide_eq_true q]
    wp_walk
    rw[hc];refine⟨plainId_quiet plain_eq_loop _,codeAny_builtin entry_eq_loop ?_⟩;rw[Around.under_plainId plain_eq_loop _];refine ih (i+1) (by walk_at "o") (by walk_at "o") (by walk_at "o") prog w A R _ ⟨hl,hb,?_⟩;rw[gZ,if_pos q]at h;exact h
   ·rw[decide_eq_false q]
    wp_walk using wpAny_loadPart' hl,wpAny_loadPart' hb
    rw[e1,e2];rw[gZ,if_neg q]at h;refine Aa (xY ?_);exact Ae h
  ·have e2:vs2.toArray[((i:Nat):Int).toNat]?=none:=by simp[h2.length];walk_at "o"
   wp_walk using wpAny_loadPart' hl,wpAny_loadPart' hb
   rw[e1,e2]
   wp_walk using wpAny_loadPart' hl,wpAny_loadPart' hb
   show R (.ok (.ret (.bool (decide (vs.toArray.size<vs2.toArray.size))))) _;rw[AK,AK,h1.length,h2.length];rw[Ba hlt,Bu (BP hlt2)]at h;have:¬ss.length<ss2.length:=by walk_at "o"
   rw[decide_eq_false this];exact h
theorem aB4(l b:Addr)(vs vs2:List Value)(n n2:Nat)(ss ss2:List Str)(h1:TxA vs ss)(h2:TxA vs2 ss2):Meets (Builtin.«list.__lt__» ⟨[.ref l,.ref b],[]⟩)
   (λ _ R s=>s.heap.get? l=some { cls:=.type "list",data:=.seq vs.toArray n }/\s.heap.get? b=some { cls:=.type "list",data:=.seq vs2.toArray n2 }∧
    R (.ok (.ret (.bool (nJ ss ss2)))) s):=by
 intro prog w A R s h;obtain⟨hp,g,d,tk,os⟩:=s;obtain⟨hl,hb,h⟩:=h;have f3:=AutoSeq1.sub_list_list
 wp_walk using wpAny_loadPart' hl,wpAny_loadPart' hb
 refine⟨plainId_quiet plain_eq_loop _,codeAny_builtin entry_eq_loop ?_⟩;rw[Around.under_plainId plain_eq_loop _];exact aB2 l b vs vs2 n n2 ss ss2 h1 h2 _ 0 rfl (AE _) (AE _) prog w A R _ ⟨hl,hb,by simpa using h⟩
theorem sC:Slot "list" "__lt__" "list.__lt__":=F.slot_list_lt
theorem aEk{prog:Program}{w:World}{A:AL}{E:Value->Ac->Prop}{s:Ac}{l b:Addr}{vs vs2:List Value}{n n2:Nat}{ss ss2:List Str}{Q:Bool->Ac->Prop}(hu:A.units<cLine)(h1:TxA vs ss)(h2:TxA vs2 ss2)(hl:s.heap.get? l=some { cls:=.type "list",data:=.seq vs.toArray n })(hb:s.heap.get? b=some { cls:=.type "list",data:=.seq vs2.toArray n2 })(h:Q (nJ ss ss2) s):Ad (model prog w) A (keyLt' oneType' (.ref l) (.ref b)) Q E s:=by
 rw[keyLt'_oneType,oneLt'_eq];rw[if_pos rfl];refine Aa (wpAny_cRoomFor hu ?_);refine Aa (wpAny_callSpecialIfBound?_slot ⟨_,hl,rfl⟩ sC (call_meets sC ⟨_,hl,rfl⟩ F.entry_list_lt (F.args_list_lt_2 _ _) (aB4 l b vs vs2 n n2 ss ss2 h1 h2) ⟨hl,hb,?_⟩));exact wpAny_truthy_bool h
noncomputable def KAll(n:Nat){α:Type}(P:α->Prop):KasT α->Prop
 | .ret a=>P a
 | .ask i j k=>i<n/\j<n/\∀ b,KAll n P (k b)
theorem KAll.mono{n:Nat}{α:Type}{P P':α->Prop}(h:∀ a,P a->P' a):∀{t:KasT α},KAll n P t->KAll n P' t
 | .ret a,x=>h a x
 | .ask _ _ _,x=>⟨x.1,x.2.1,λ b=>KAll.mono h (x.2.2 b)⟩
theorem KAll.bind{n:Nat}{α β:Type}{P:α->Prop}{P':β->Prop}{f:α->KasT β}(h:∀ a,P a->KAll n P' (f a)):∀{t:KasT α},KAll n P t->KAll n P' (t.bind f)
 | .ret a,x=>h a x
 | .ask _ _ _,x=>⟨x.1,x.2.1,λ b=>KAll.bind h (x.2.2 b)⟩
theorem KAll.wp{n:Nat}{α:Type}{P:α->Prop}{cmp:Nat->Nat->(Bool->Ac->Prop)->Ac->Prop}{s:Ac}(hc:∀ i j,i<n->j<n->∃ b,∀ C:Bool->Ac->Prop,C b s->cmp i j C s){Q:α->Ac->Prop}(hQ:∀ a,P a->Q a s):∀{t:KasT α},KAll n P t->t.kasWp cmp Q s
 | .ret a,x=>hQ a x
 | .ask i j k,x=>by
  obtain⟨b,hb⟩:=hc i j x.1 x.2.1;exact hb _ (KAll.wp hc hQ (x.2.2 b))
noncomputable def Ok(n:Nat)(p:Array Nat):Prop:=p.toList.Perm (Bg n)
theorem Ok.lt{n:Nat}{p:Array Nat}(h:Ok n p)(hn:0<n)(i:Nat):p.getD i 0<n:=by
 by_cases q:i<p.size
 ·have e:p.getD i 0=p[i]:=by simp[Array.getD,q]
  have:p[i]∈p.toList:=Array.mem_toList_iff.mpr (Array.getElem_mem q);have:=h.mem_iff.mp this;rw[e];simpa using this
 ·have e:p.getD i 0=0:=by simp[Array.getD,q]
  walk_at "o"
section
variable {n:Nat}{p:Array Nat}
end
noncomputable def jT(kp:Str->List Str):List Addr->List Str->Lg
 | k::ks,x::xs=>(k,aB (kp x))::jT kp ks xs
 | _,_=>[]
theorem pO(kp:Str->List Str)(k:Addr)(x:Str):∀(ks:List Addr) (xs:List Str),ks.length=xs.length->jT kp (ks++[k]) (xs++[x])=jT kp ks xs++[(k,aB (kp x))]
 | [],[],_=>rfl
 | [],_::_,h=>by simp at h
 | _::_,[],h=>by simp at h
 | _::ks,_::xs,h=>by
  show _::jT kp (ks++[k]) (xs++[x])=_;rw[pO kp k x ks xs (by simpa using h)];rfl
theorem nQ(kp:Str->List Str):∀(ks:List Addr) (xs:List Str) (i:Nat) (h1:i<ks.length) (h2:i<xs.length),(ks[i],aB (kp xs[i]))∈jT kp ks xs
 | k::ks,x::xs,0,_,_=>.head _
 | k::ks,x::xs,i+1,h1,h2=>.tail _ (nQ kp ks xs i (by simpa using h1) (by simpa using h2))
theorem TxA.pick{vs:List Value}{ss:List Str}(h:TxA vs ss)(p:List Nat)(hp:∀ i∈p,i<ss.length):TxA (p.map λ i=>vs.getD i .none) (p.map λ i=>ss.getD i Str.empty):=
 TxA.get h p λ j hj=>by rw[h.length];exact hp j hj
noncomputable def eA(f:Addr)(self:Value):Cell:=λ o=>o=methodObj (.ref f) self
theorem eO:∀ l:List (Str×Tok),TxA (strValues l) (l.map (·.1))
 | []=>.nil
 | (x,t)::r=>.cons x t (eO r)
open PySem.Builtin.Str in
theorem Sta.splitMax{x y:Str}{k:Int}{t u v:Tok}{Q:Value->Ac->Prop}(S:Sta W G env loc nw s)(hy:(y.length==0)=false)(hk:(decide (k < -(2 ^ 63:Int))||decide (k≥2 ^ 63))=false)(hsz:x.length<=1000000)(h:∀ a s',Sta W G env loc ((a,aB (Txt.splitMax x y k))::nw) s'->Q (.ref a) s'):Ad W.M A (call (.builtin "str.split") [.str x t,.str y u,.int k v]) Q E s:=by
 have hn:(partsBetween x (occurrences x y 0 x.length (limitOf x k)) y.length).length<=AC:=by
  have e1:=StrLaws.occ_length_le_len x y 0 x.length (limitOf x k);rw[length_partsBetween,Aw];walk_at "o"
 have h':∀(l:List (Str×Tok)) tk,l.map (·.1)=Txt.splitMax x y k->Q (.ref s.heap.objs.size) { s with heap:=s.heap.push { cls:=.type "list",data:=.seq (strValues l).toArray },toks:=tk }:=λ l tk e=>
  h _ _ (S.new (c:=aB (Txt.splitMax x y k)) rfl ⟨strValues l,by rw[←e];exact eO l,0,rfl⟩ tk)
 cases h1:(decide (x.length<y.length)||decide (strKind x<strKind y))
 ·cases hf:(occurrences x y 0 x.length (limitOf x k)).isEmpty
  ·refine call_meets F.slot_str_split (typeIs_str _ _ _) F.entry_str_split (F.args_str_split_3 _ _ _) (meets_str_split_sep_max x y k t u v hk h1 hy hf (by walk_at "osz") hn) ?_;show wants Q E _ { s with toks:=_,heap:=s.heap.push { cls:=.type "list",data:=.seq (strsFrom s.toks (partsBetween x (occurrences x y 0 x.length (limitOf x k)) y.length)).toArray } };rw[strsFrom_eq];exact h' (numbered s.toks _) _ ((numbered_texts _ _).trans ((if_neg (ne_true_of_eq_false h1)).trans (if_neg (ne_true_of_eq_false hf))).symm)
  ·exact call_meets F.slot_str_split (typeIs_str _ _ _) F.entry_str_split (F.args_str_split_3 _ _ _) (meets_str_split_max_not_found x y k t u v hk h1 hy hf) (h' [(x,t)] s.toks ((if_neg (ne_true_of_eq_false h1)).trans (if_pos hf)).symm)
 ·exact call_meets F.slot_str_split (typeIs_str _ _ _) F.entry_str_split (F.args_str_split_3 _ _ _) (meets_str_split_max_cannot_occur x y k t u v hk h1) (h' [(x,t)] s.toks (if_pos h1).symm)
theorem Sta.getBound{name:Str}{C x d f:Addr}{names:List Str}{vals:Loc}{expr:Bool}{Q:Value->Ac->Prop}(S:Sta W G env loc nw s)(c:Cl W.K C names)(mx:(x,bD C d)∈nw)(md:(d,aN vals)∈nw)(hk:vals.map Prod.fst=names)(hn:name∉names)(hf:findIn W.K (.ref C) name=some (some (.ref f)))(ht:typeIn W.K (.ref f)=some (.type "function"))(hg:specialIn W.K (.ref f) "__get__"=some (some (.builtin "function.__get__")))(htk:takesIn W.K (.ref f)=some false)(hcp:copiedNames.contains name=false)(h:∀ q s',Sta W G env loc ((q,eA f (.ref x))::nw) s'->Q (.ref q) s'):Ad W.M A (getAttr (.ref x) name expr) Q E s:=by
 obtain⟨od,I,nd,_,q⟩:=S.inst mx md;obtain⟨es,ep,hd,hsk,hl,_⟩:=q;have hno:lk vals name=none:=by
  unfold lk;rw[Bn.mpr]
  ·rfl
  ·intro p hp;rw[bne_iff_ne];exact λ e=>hn (by rw[←hk,e];exact Aj.mpr ⟨p,hp,rfl⟩)
 refine get_bind S.kin I c.ga (findObj_fn c.dict hf hg htk hcp (by rw[kJ hd hsk ((hl name).trans hno)])) c.gh ?_;refine wpAny_call (fn_get (s:={ s with toks:=s.toks+1 }) S.kin ht (handed_on rfl ?_));exact h _ _ (S.new (c:=eA f (.ref x)) rfl rfl _)
theorem Sta.callMeth{q f:Addr}{self:Value}{pos:List Value}{kw:List (Str×Value)}{Q:Value->Ac->Prop}(S:Sta W G env loc nw s)(m:(q,eA f self)∈nw)(h:codeAny W.M A (.call (.ref f) ⟨self::pos,kw⟩) (λ r s'=>match r with | .ok (.ret v)=>Q v s' | .ok _=>False | .error e=>E e s') s):Ad W.M A (call (.ref q) pos kw) Q E s:=by
 obtain⟨o,ho,rfl⟩:=S.get m;exact wpAny_call (method_call ho h)
theorem aCH{pos:Pos}{q f:Addr}{self:Value}{e:Expr}{rest:List Expr}{Q:Value->Ac->Prop}(hf:fnIn W.K f=true)(h:Ad W.M A (spliced (backTo pos (Ap (e::rest) env))) (λ vs s₁=>MethP W.K q f self s₁.heap/\Ad W.M A (call (.ref q) vs) Q E s₁) E s)(he:Ap (e::rest) env=(false,eval e env)::Ap rest env)(hplain:(backTo pos (Ap rest env)).any (·.1)=false):Ad W.M A (callWith pos (.ref q) [] (backTo pos (Ap (e::rest) env)) []) Q E s:=by
 rw[he]at h ⊢;exact callWith_of (P:=λ h=>MethP W.K q f self h) (first:=[]) (by show(false||(backTo pos (Ap rest env)).any (·.1)||false)=false;rw[hplain];rfl) (keeps_M hf) (Calls.evalArgs_plain h)
theorem Sta.methP{q f:Addr}{self:Value}(S:Sta W G env loc nw s)(m:(q,eA f self)∈nw):MethP W.K q f self s.heap:=by
 obtain⟨o,ho,rfl⟩:=S.get m;exact⟨ho,S.kin⟩
noncomputable def JP(M:Model)(A:AL)(E:Value->Ac->Prop)(out:Str)(rest:List (Sem Value))(Q:Value->Ac->Prop):Value->Ac->Prop:=λ v s=>∃ y t,v=.str y t/\(out++y).length<=AC/\Ad M A (joinParts (out++y) rest) Q E s
section
variable {M:Model}{A:AL}{E:Value->Ac->Prop}{s:Ac}{env:Env}
theorem JP.mk{out y:Str}{t:Tok}{rest:List (Sem Value)}{Q:Value->Ac->Prop}(hz:(out++y).length<=AC)(h:Ad M A (joinParts (out++y) rest) Q E s):JP M A E out rest Q (.str y t) s:=⟨y,t,rfl,hz,h⟩
theorem joinP{out:Str}{v:Expr}{rest:List Expr}{Q:Value->Ac->Prop}(h:Ad M A (eval v env) (JP M A E out (evalEach rest env) Q) E s):Ad M A (joinParts out (evalEach (v::rest) env)) Q E s:=by
 refine joinParts_cons (x:=eval v env) (rest:=evalEach rest env) (As h (λ v s₁ h₁=>?_) λ _ _ e=>e);obtain⟨y,t,rfl,hz,h₁⟩:=h₁;exact⟨hz,h₁⟩
theorem aEm{v₁ v₂:Expr}{rest:List Expr}{pos:Pos}{Q:Value->Ac->Prop}(h:Ad M A (joinParts Str.empty (evalEach (v₁::v₂::rest) env)) Q E s):Ad M A (eval (.JoinedStr (v₁::v₂::rest) pos) env) Q E s:=h
end
theorem Sta.joinEnd{M:Model}{out:Str}{Q:Value->Ac->Prop}(S:Sta W G env loc nw s)(hz:out.length<=AC)(h:∀ t s',Sta W G env loc nw s'->Q (.str out t) s'):Ad M A (joinParts out (evalEach [] env)) Q E s:=
 joinParts_nil (h _ _ (S.toks _)) hz
theorem Sta.fmtS{M:Model}{x:Str}{t:Tok}{Q:Value->Ac->Prop}(S:Sta W G env loc nw s)(hz:x.length<=AC)(h:∀ t' s',Sta W G env loc nw s'->Q (.str x t') s'):Ad M A (formatField (.str x t) Str.empty) Q E s:=
 formatField_str (λ t' tk=>h t' _ (S.toks tk)) hz
theorem Sta.truthyD{d:Addr}{kvs:List (Str×Value)}{Q:Bool->Ac->Prop}(S:Sta W G env loc nw s)(m:(d,IsD W d kvs)∈nw)(hz:kvs.length<=1000000)(h:∀ s',Sta W G env loc nw s'->Q (!kvs.isEmpty) s'):Ad W.M A (truthy (.ref d)) Q E s:=by
 obtain⟨hd,hn⟩:=S.dictAt m;exact wpAny_truthy_dict hn hd (by walk_at "o") (h _ (S.toks _))
theorem Sta.getM_D{name:Str}{d:Addr}{kvs:List (Str×Value)}{Q:Value×List Value->Ac->Prop}{id:String}(S:Sta W G env loc nw s)(m:(d,IsD W d kvs)∈nw)(slot:Slot "dict" name id)(hty:typeOf (.builtin id)=pure (.type "method_descriptor"))(h:Q (.builtin id,[.ref d]) s):GetM W.M A E name (.ref d) Q s:=by
 obtain⟨hd,hn⟩:=S.dictAt m;exact cT F.plainAttrs_dict slot hty hd.typeIs hd.mapOf.noDict h
theorem Sta.dictGet{d:Addr}{kvs:List (Str×Value)}{x:Str}{t:Tok}{Q:Value->Ac->Prop}(S:Sta W G env loc nw s)(m:(d,IsD W d kvs)∈nw)(h:∀ s',Sta W G env loc nw s'->Q ((valueAt kvs x).getD .none) s'):Ad W.M A (call (.builtin "dict.get") [.ref d,.str x t]) Q E s:=by
 obtain⟨hd,hn⟩:=S.dictAt m;exact call_meetsIn F.slot_dict_get hd.typeIs F.entry_dict_get (F.args_dict_get_2 _ _) (meets_dict_get (PySem.strKind W.prog W.w) d (strKind_is _ _ x t) hn) ⟨_,hd.mapOf,h _ (S.toks _)⟩
theorem Sta.subD{d:Addr}{kvs:List (Str×Value)}{x:Str}{t:Tok}{v:Value}{Q:Value->Ac->Prop}(S:Sta W G env loc nw s)(m:(d,IsD W d kvs)∈nw)(hv:valueAt kvs x=some v)(h:∀ s',Sta W G env loc nw s'->Q v s'):SubscriptOn W.M A (.ref d) (.str x t) Q E s:=by
 obtain⟨hd,hn⟩:=S.dictAt m;exact⟨"dict",_,slot_dict_getitem.lookup,hd.typeIs,wpAny_getItem_of (strKind_is _ _ x t) hd.mapOf hv (h _ (S.toks _))⟩
theorem Sta.inD{d:Addr}{kvs:List (Str×Value)}{x:Str}{t:Tok}{Q:Value->Ac->Prop}(S:Sta W G env loc nw s)(m:(d,IsD W d kvs)∈nw)(h:∀ s',Sta W G env loc nw s'->Q (.bool (valueAt kvs x).isSome) s'):Ad W.M A (compareOp .In (.str x t) (.ref d)) Q E s:=by
 obtain⟨hd,hn⟩:=S.dictAt m;exact wpAny_in_of (strKind_is _ _ x t) hn hd.mapOf (h _ (S.toks _))
theorem Sta.itemsD{d:Addr}{kvs:List (Str×Value)}{Q:Value->Ac->Prop}(S:Sta W G env loc nw s)(m:(d,IsD W d kvs)∈nw)(h:∀ r s',Sta W G env loc ((r,jE d)::nw) s'->Q (.ref r) s'):Ad W.M A (call (.builtin "dict.items") [.ref d]) Q E s:=by
 obtain⟨hd,hn⟩:=S.dictAt m;exact call_meetsIn PySem.F.slot_dict_items hd.typeIs PySem.F.entry_dict_items (PySem.F.args_dict_items_1 _) (meets_dict_items (PySem.strKind W.prog W.w) d hn) ⟨⟨kvs,hd⟩,h _ _ (S.new (c:=jE d) rfl rfl s.toks)⟩
theorem oB(kx vx target iter:Expr)(scope:Scope)(pos:Pos)(it:Value)(D:Addr)(env:Env):compTurn (.DictComp kx vx [⟨target,iter,[],0⟩] scope pos) 0 it (.ref D) env=(standAt iter.pos >>= λ _=>pyNext it >>= λ r=>match r with
   | none=>pure (.done .next)
   | some v=>letOwnedTupleGo target it v >>= λ _=>assign target env v >>= λ _=>
    (eval kx env >>= λ kv=>holding [kv] (eval vx env) >>= λ vv=>standAt { kx.pos with endLine:=vx.pos.endLine,endCol:=vx.pos.endCol } >>= λ _=>holding [kv,vv] (dictSet D kv vv)) >>= λ _=>
     again (.compLoop (.DictComp kx vx [⟨target,iter,[],0⟩] scope pos) 0 it (.ref D) env)):=by rfl
theorem xL{M:Model}{A:AL}{E:Value->Ac->Prop}{s:Ac}{env:Env}{func:Expr}{args:List Expr}{kws:List Keyword}{pos:Pos}{Q:Value->Ac->Prop}(h:Ad M A (eval func env) (λ f s₁=>Ad M A (callWith pos f [] (backTo pos (Ap args env)) (backToKw pos (keywordEach kws env))) Q E s₁) E s)(he:eval (.Call func args kws pos) env=(do callWith pos (← eval func env) [] (backTo pos (Ap args env)) (backToKw pos (keywordEach kws env)))):Ad M A (eval (.Call func args kws pos) env) Q E s:=by
 rw[he];exact Aa h
theorem Sta.neg{a:Int}{t:Tok}{Q:Value->Ac->Prop}(S:Sta W G env loc nw s)(h:∀ t s',Sta W G env loc nw s'->Q (.int (-a) t) s'):Ad W.M A (unaryOp .USub (.int a t)) Q E s:=
 PyProof.Rows.neg_int (h _ _ (S.toks _))
theorem Sta.addS{x y:Str}{t u:Tok}{Q:Value->Ac->Prop}(S:Sta W G env loc nw s)(hz:x.length+y.length<=AC)(h:∀ t s',Sta W G env loc nw s'->Q (.str (x++y) t) s'):Ad W.M A (binaryOp .Add (.str x t) (.str y u)) Q E s:=
 PyProof.Rows.add_str (λ t' tk=>h t' _ (S.toks tk)) hz
theorem Sta.sub_last{l:Addr}{xs:List Value}{t:Tok}{v:Value}{Q:Value->Ac->Prop}(S:Sta W G env loc nw s)(m:(l,aA xs)∈nw)(hx:xs.getLast?=some v)(h:Q v s):SubscriptOn W.M A (.ref l) (.int (-1) t) Q E s:=by
 have hne:xs≠[]:=λ e=>by subst e;simp at hx
 have hlen:0<xs.length:=Br.mpr hne;refine⟨"list",_,F.slot_list_getitem.lookup,(S.isList m).typeIs,wpAny_getItem_list_neg (S.isList m) (by walk_at "o") (by simp;walk_at "o") (by walk_at "o") ?_ h⟩;rw[AK];have e:((-1:Int)+(xs.length:Int)).toNat=xs.length-1:=by walk_at "o"
 rw[e,List.getElem?_toArray,←List.getLast?_eq_getElem?];exact hx
theorem Sta.sub_tuple{l:Addr}{xs:List Value}{k:Int}{t:Tok}{j:Nat}{v:Value}{Q:Value->Ac->Prop}(S:Sta W G env loc nw s)(m:(l,aJ xs)∈nw)(hk:k=(j:Int))(hj:j<1000000)(hx:xs[j]?=some v)(h:Q v s):SubscriptOn W.M A (.ref l) (.int k t) Q E s:=by
 subst hk;have hlt:j<xs.length:=(List.getElem?_eq_some_iff.mp hx).1;refine⟨"tuple",_,F.slot_tuple_getitem.lookup,(S.isTup m).typeIs,PyProof.Rows.getItem_tuple (j:=j) (S.isTup m) (by walk_at "o") (by walk_at "o") ?_ (by simpa using hx) h⟩;rw[AK];exact aDK hlt
theorem Sta.iterT{l:Addr}{ss:List Str}{Q:Value->Ac->Prop}(S:Sta W G env loc nw s){N:Lg}(P:Pull (l,aB ss) nw N)(h:∀ it vs s',TxA vs ss->Sta W G env loc ((it,bG l 0)::(l,aA vs)::N) s'->Q (.ref it) s'):Ad W.M A (pyIter (.ref l)) Q E s:=by
 have S1:=S.perm P.perm;obtain⟨vs,nw1,ht,U1,U2,S2⟩:=S1.openT (c':=aB ss) .head;cases U1 with
 | head=>exact S2.iterL (.head _) λ it s' S'=>h it vs s' ht S'
 | tail U=>exact absurd S1.led.nodup (by
   have m:=U.mem;simp only[An,AP]
   exact λ q=>q.2.1 (Aj.mpr ⟨_,m,rfl⟩))
theorem iL{kvs:List (Str×Value)}{x:Str}{v:Value}(h:x∉kvs.map (·.1)):stored kvs x v=kvs++[(x,v)]:=by
 unfold stored;rw[if_neg];intro q;obtain⟨p,hp,e⟩:=List.any_eq_true.mp q;exact h (Aj.mpr ⟨p,hp,of_decide_eq_true e⟩)
theorem pZ{kvs:List (Str×Value)}{x:Str}(h:x∉kvs.map (·.1)):valueAt kvs x=none:=by
 unfold valueAt;rw[List.find?_eq_none.mpr]
 ·rfl
 ·intro p hp q;exact h (Aj.mpr ⟨p,hp,of_decide_eq_true q⟩)
theorem tN{G':Gens}{cenv:Env}{loc2 locC:Loc}{nw':Lg}{s'':Ac}{y:Str}{py:Pos}{acc:Addr}{Q:Flow->Ac->Prop}(he:EvO env (loc.map Prod.fst))(S':Sta W G' cenv locC ((env.locals,aL loc)::nw') s'')(hp:Put y (some (.ref acc)) loc loc2)(hQ:∀ s₃,Sta W G' env loc2 nw' s₃->Q .next s₃):Ad W.M A (assign (.Name y py) env (.ref acc)) (λ _ s''=>∃ m,s''.heap.Ns cenv.locals m/\∀ h',Heap.SameBut cenv.locals s''.heap h'->Q .next { s'' with heap:=h' }) E s'':=by
 have S1:Sta W G' env loc ((cenv.locals,aL locC)::nw') s'':=⟨S'.ok,he,S'.led.perm (List.Perm.swap ..),S'.bare,S'.os,S'.gens,S'.gnd⟩
 refine wpAny_assign_Name (S1.store hp λ s3 S3=>?_);obtain⟨o,ho,_,q0⟩:=S3.get (.head _);obtain⟨es,ep,hd,hk,hf⟩:=q0;refine⟨_,⟨o,es,ep,ho,hd,hk,hf⟩,λ h' hs'=>hQ _ ⟨S3.ok,S3.eok,?_,S3.bare,S3.os,S3.gens,S3.gnd⟩⟩;have:=Led.dropBack (nw:=[(env.locals,aL loc2)]) (a:=cenv.locals) (post:=nw') (h':=h') S3.led λ b o hb e=>(hs'.2 b hb).trans e;exact this
noncomputable def CompEndA(W:Wd)(env e2:Env)(loc:Loc)(y:Str)(v:Value)(P:Ac->Prop)(r:Result)(s:Ac):Prop:=
 ∃ f loc' loc2 nw' G',r=.ok f/\Sta W G' e2 loc' ((env.locals,aL loc)::nw') s/\Put y (some v) loc loc2/\∀ s₃,Sta W G' env loc2 nw' s₃->P s₃
theorem CompEndA.mk{W:Wd}{env e2:Env}{loc loc' loc2:Loc}{y:Str}{v:Value}{P:Ac->Prop}{s:Ac}{G':Gens}{nw':Lg}(S:Sta W G' e2 loc' ((env.locals,aL loc)::nw') s)(hp:Put y (some v) loc loc2)(k:∀ s₃,Sta W G' env loc2 nw' s₃->P s₃):CompEndA W env e2 loc y v P (.ok .next) s:=⟨.next,loc',loc2,nw',G',rfl,S,hp,k⟩
noncomputable def aCM(W:Wd)(A:AL)(env:Env)(e:Expr)(scope:Scope)(cl:List (Str×Addr))(ks:List Str)(y:Str)(Q:Flow->Ac->Prop)(it:Value)(s:Ac):Prop:=
 ∃ G loc nw,Sta W G env loc nw s/\∀ acc C s',EvO (compEnvC scope cl C env) ks->Sta W G (compEnvC scope cl C env) (ks.map λ k=>(k,none)) ((acc,IsD W acc [])::(env.locals,aL loc)::nw) s'->
  codeAny W.M A (.compStart e 0 it (.ref acc) (compEnvC scope cl C env)) (CompEndA W env (compEnvC scope cl C env) loc y (.ref acc) (Q .next)) s'
theorem oH{kx vx target iter:Expr}{gens:List Comprehension}{scope:Scope}{pos py spos:Pos}{y:Str}{cl:List (Str×Addr)}{Q:Flow->Ac->Prop}(ks:List Str)(hsw:swapsWith (.DictComp kx vx (⟨target,iter,[],0⟩::gens) scope pos) (some (.Name y py)) spos.line env=pure true)(hclos:closureFor scope env=pure cl)(hk:eN scope ks=true)(he:env.globals=AS)(hb:env.builtins=builtinsNs)(h:Ad W.M A (eval iter env) (λ x s₁=>Ad W.M A (pyIter x) (λ it s₂=>aCM W A env (.DictComp kx vx (⟨target,iter,[],0⟩::gens) scope pos) scope cl ks y Q it s₂) E s₁) E s)(hs:∀ x,foldedSetIterable iter env x=pure x:=by intro _;rfl):Ad W.M A (exec (.Assign [.Name y py] (.DictComp kx vx (⟨target,iter,[],0⟩::gens) scope pos) spos) env) Q E s:=by
 refine fK hk ?_;clear hk;intro hkind hcell hnames hks hnd;rw[exec_Assign_Name_used _ _ _ _ hsw];refine Aa (AQ (Aa ?_));show Ad _ A (do let _ ← comprehension (.DictComp kx vx (⟨target,iter,[],0⟩::gens) scope pos) scope env _ newDict false (eval iter env) (some (assign (.Name y py) env))) _ _ s;refine Aa (As (wpAny_comprehension_free (use:=some (assign (.Name y py) env)) (Q:=λ _ s'=>Q .next s') (cl:=cl) rfl hs hclos hkind (λ x hx hl=>(hnames x hx).resolve_left λ q=>q hl) (As h (λ xv s₁ h₁=>As h₁ (λ it s₂ h₂=>?_) λ _ _ e=>e) λ _ _ e=>e)) (λ _ s' hq=>Ae (Ae hq)) λ _ _ e=>e);obtain⟨G,loc,nw,S,kk⟩:=h₂;refine S.newDict λ acc s₃ S₃=>?_;refine wpAny_newFunctionEnv hcell (by intro y hy;simp at hy) (λ h₁ hns hsb=>?_) hkind;have hkp:∀ b o,s₃.heap.get? b=some o->h₁.get? b=some o:=λ b o e=>hsb.extBut b o (BA (Heap.lt_size e)) (Heap.get?_push_of_some _ e);have D:Led W.B ((s₃.heap.objs.size,aL (ks.map λ k=>(k,none)))::(env.locals,aL loc)::(acc,IsD W acc [])::nw) h₁:=by
  obtain⟨o,es,ep,ho',hd,hsk,hf⟩:=hns;refine S₃.led.cons_new hkp S₃.led.size_ne S₃.led.size_new ho' ⟨by rw[AW];simpa[Function.comp_def]using hnd,es,ep,hd,hsk,λ x=>?_⟩;rw[hf x,jR];rfl
 have ek:(ks.map λ k=>((k,none):Str×Option Value)).map Prod.fst=ks:=by rw[AW];simp[Function.comp_def]
 have eok:EvO (compEnvC scope cl s₃.heap.objs.size env) ks:=⟨hkind,he,hb,λ x hx=>lookup_relabel_local (hks x hx).1,λ x hx=>(hks x hx).2,hnd⟩
 refine codeAny_mono (kk acc s₃.heap.objs.size { s₃ with heap:=h₁,toks:=s₃.toks+0 } eok ⟨S₃.ok,by rw[ek];exact eok,D.perm (List.Perm.cons _ (List.Perm.swap ..)),S₃.bare,S₃.os,S₃.gens,S₃.gnd⟩) λ r s'' h''=>?_;obtain⟨f,loc',loc2,nw',G',h''⟩:=h'';obtain⟨rfl,S',hp,hQ⟩:=h'';exact tN (cenv:=compEnvC scope cl s₃.heap.objs.size env) S.eok S' hp hQ
noncomputable def aES(W:Wd)(A:AL)(env:Env)(e:Expr)(scope:Scope)(cl:List (Str×Addr))(ks:List Str)(y:Str)(Q:Flow->Ac->Prop)(it:Value)(s:Ac):Prop:=
 ∃ G loc nw,Sta W G env loc nw s/\∀ acc C s',EvO (compEnvC scope cl C env) ks->Sta W G (compEnvC scope cl C env) (ks.map λ k=>(k,none)) ((acc,aA [])::(env.locals,aL loc)::nw) s'->
  codeAny W.M A (.compStart e 0 it (.ref acc) (compEnvC scope cl C env)) (CompEndA W env (compEnvC scope cl C env) loc y (.ref acc) (Q .next)) s'
theorem gX{elt target iter:Expr}{gens:List Comprehension}{scope:Scope}{pos py spos:Pos}{y:Str}{cl:List (Str×Addr)}{ifs:List Expr}{Q:Flow->Ac->Prop}(ks:List Str)(hsw:swapsWith (.ListComp elt (⟨target,iter,ifs,0⟩::gens) scope pos) (some (.Name y py)) spos.line env=pure true)(hclos:closureFor scope env=pure cl)(hk:eN scope ks=true)(he:env.globals=AS)(hb:env.builtins=builtinsNs)(h:Ad W.M A (eval iter env) (λ x s₁=>Ad W.M A (pyIter x) (λ it s₂=>aES W A env (.ListComp elt (⟨target,iter,ifs,0⟩::gens) scope pos) scope cl ks y Q it s₂) E s₁) E s)(hs:∀ x,foldedSetIterable iter env x=pure x:=by intro _;rfl):Ad W.M A (exec (.Assign [.Name y py] (.ListComp elt (⟨target,iter,ifs,0⟩::gens) scope pos) spos) env) Q E s:=by
 refine fK hk ?_;clear hk;intro hkind hcell hnames hks hnd;rw[exec_Assign_Name_used _ _ _ _ hsw];refine Aa (AQ (Aa ?_));show Ad _ A (do let _ ← comprehension (.ListComp elt (⟨target,iter,ifs,0⟩::gens) scope pos) scope env _ (newList []) false (eval iter env) (some (assign (.Name y py) env))) _ _ s;refine Aa (As (wpAny_comprehension_free (use:=some (assign (.Name y py) env)) (Q:=λ _ s'=>Q .next s') (cl:=cl) rfl hs hclos hkind (λ x hx hl=>(hnames x hx).resolve_left λ q=>q hl) (As h (λ xv s₁ h₁=>As h₁ (λ it s₂ h₂=>?_) λ _ _ e=>e) λ _ _ e=>e)) (λ _ s' hq=>Ae (Ae hq)) λ _ _ e=>e);obtain⟨G,loc,nw,S,kk⟩:=h₂;refine S.newList (by simp) λ acc s₃ S₃=>?_;refine wpAny_newFunctionEnv hcell (by intro y hy;simp at hy) (λ h₁ hns hsb=>?_) hkind;have hkp:∀ b o,s₃.heap.get? b=some o->h₁.get? b=some o:=λ b o e=>hsb.extBut b o (BA (Heap.lt_size e)) (Heap.get?_push_of_some _ e);have D:Led W.B ((s₃.heap.objs.size,aL (ks.map λ k=>(k,none)))::(env.locals,aL loc)::(acc,aA [])::nw) h₁:=by
  obtain⟨o,es,ep,ho',hd,hsk,hf⟩:=hns;refine S₃.led.cons_new hkp S₃.led.size_ne S₃.led.size_new ho' ⟨by rw[AW];simpa[Function.comp_def]using hnd,es,ep,hd,hsk,λ x=>?_⟩;rw[hf x,jR];rfl
 have ek:(ks.map λ k=>((k,none):Str×Option Value)).map Prod.fst=ks:=by rw[AW];simp[Function.comp_def]
 have eok:EvO (compEnvC scope cl s₃.heap.objs.size env) ks:=⟨hkind,he,hb,λ x hx=>lookup_relabel_local (hks x hx).1,λ x hx=>(hks x hx).2,hnd⟩
 refine codeAny_mono (kk acc s₃.heap.objs.size { s₃ with heap:=h₁,toks:=s₃.toks+0 } eok ⟨S₃.ok,by rw[ek];exact eok,D.perm (List.Perm.cons _ (List.Perm.swap ..)),S₃.bare,S₃.os,S₃.gens,S₃.gnd⟩) λ r s'' h''=>?_;obtain⟨f,loc',loc2,nw',G',h''⟩:=h'';obtain⟨rfl,S',hp,hQ⟩:=h'';exact tN (cenv:=compEnvC scope cl s₃.heap.objs.size env) S.eok S' hp hQ
theorem Sta.isub{a b:Int}{t u:Tok}{Q:Value->Ac->Prop}(S:Sta W G env loc nw s)(h:∀ t s',Sta W G env loc nw s'->Q (.int (a-b) t) s'):Ad W.M A (inplaceOp .Sub (.int a t) (.int b u)) Q E s:=
 PyProof.Rows.isub_int (h _ _ (S.toks _))
noncomputable def sE(T:Str->Bool):List Str->(Str->Bool)
 | []=>T
 | x::r=>sE (λ k=>T k||decide (k=x)) r
noncomputable def xX(T:Str->Bool)(n:Nat):List Str->Nat
 | []=>n
 | x::r=>xX (λ k=>T k||decide (k=x)) (if T x then n else n+1) r
section
variable {W:Wd}{sh:Lg}{I:Addr}{E:Value->Ac->Prop}
theorem uO{S:Addr}{Rr:Result->Ac->Prop}{R:Lg}{GR:Gens}:∀(vs:List Value) (ss:List Str) (T:Str->Bool) (n:Nat) (own:Lg) (og:Gens) (A:AL) (s:Ac),TxA vs ss->Aok 8 A->cE W sh I vs own og->n+ss.length+1<Bt->
  St0 W (GR++og) (((S,aS W T n)::R)++(sh++own)) s->(∀ s',St0 W GR (((S,aS W (sE T ss) (xX T n ss))::R)++sh) s'->Rr (.ok (.ret .none)) s')->codeAny W.M A (.builtin "set.update.loop" ⟨[.ref S,.ref I],[]⟩) Rr s:=by
 intro vs ss T n own og A s ht
 induction ht generalizing T n own og s with
 | nil=>
  intro hA hy hz St hR;refine codeAny_builtin PyProof.Rows.F.entry_set_update_loop ?_;rw[Around.under_plainId PyProof.Rows.F.plain_set_update_loop _];show Ad _ A.in1 (pyNext (.ref I) >>= _) _ _ s;exact Aa (hy.2 A.in1 _ GR s _ _ (Aok.in1 hA) St λ s' S'=>Ae (hR s' S'))
 | cons x t ht ih=>
  intro hA hy hz St hR;refine codeAny_builtin PyProof.Rows.F.entry_set_update_loop ?_;rw[Around.under_plainId PyProof.Rows.F.plain_set_update_loop _];show Ad _ A.in1 (pyNext (.ref I) >>= _) _ _ s;refine Aa (hy.2 A.in1 _ GR s _ _ (Aok.in1 hA) St λ own' og' s' S' hy'=>?_);show Ad _ A.in1 (holding [Value.str x t] (setAdd S (.str x t)) >>= _) _ _ s';refine Aa (AB ?_);unfold setAdd;refine AB ?_;refine Aa ((PySem.strKind W.prog W.w).pyHash (k:=x) (strKind_is _ _ _ _) ?_);rw[AG]at hz;have S'':St0 W (GR++og') ((S,aS W T n)::(R++(sh++own'))) s':=S';obtain⟨o,ho,hc⟩:=S''.get (.head _);refine wpAny_setAddHashed_of (knd:=PySem.strKind W.prog W.w) (s:={ s' with toks:=s'.toks+1 }) (k:=x) (by simp[PySem.strKind,Value.isStrOf]) rfl (hc.setOf ho (by walk_at "o")) (by walk_at "o") λ h' hsb hS2=>?_;obtain⟨o2,ho2,hc2⟩:=hS2.objOf;have S3:=S''.set (nw':=(S,aS W (λ k=>T k||decide (k=x)) (if T x then n else n+1))::(R++(sh++own'))) .head (λ b o hb e=>(hsb.2 b hb).trans e) ho2 hc2 (s'.toks+1);refine Ae ⟨plainId_quiet PyProof.Rows.F.plain_set_update_loop _,ih _ _ own' og' _ hA hy' (by split<;>walk_at "o") S3 hR⟩
end
theorem Sta.setOfList{l:Addr}{vs:List Value}{ss:List Str}{Q:Value->Ac->Prop}(S:Sta W G env loc ((l,aA vs)::N) s)(hA:Aok 14 A)(ht:TxA vs ss)(hb:ss.length+1<Bt)(h:∀ a s',Sta W G env loc ((a,aS W (sE (λ _=>false) ss) (xX (λ _=>false) 0 ss))::(l,aA vs)::N) s'->Q (.ref a) s'):Ad W.M A (call (.type "set") [.ref l]) Q E s:=by
 obtain⟨c,tl,hmro⟩:=F.called_set.mro;have hmade:=F.called_set.made;have hsub:=F.called_set.sub;refine wpAny_call (codeAny_of_tree ?_);show Ad _ _ (callAny (.type "set") _) _ _ _;refine Ae ⟨Code.quiet_builtin _ (by decide +kernel),codeAny_builtin F.entry_type_call ?_⟩;rw[Around.under_plain (weight_type_call_type "set" [.ref l] []) rfl];have h1:=F.called_set.notType;have h2:=F.called_set.canCreate;have hct:=PySem.F.typeCall_set_1 (.ref l)
 repeat (any_goals (first | assumption | wp_step))
 refine codeAny_mono (code_set_new_1 (.ref l) (E:=E) (Q₁:=λ obj s₁=>∃ led:Bool,obj=.ref s.heap.objs.size/\s₁={ s with heap:=s.heap.push { cls:=.type "set",dict:=none,data:=.set #[] 0 (.fresh 0 0 led) } }) λ led=>⟨led,rfl,rfl⟩) λ r s₁ hr=>?_
 induction r with
 | error e=>exact hr
 | ok fl=>
  induction fl with
  | ret obj=>
   obtain⟨led,rfl,rfl⟩:=hr;have S1:=S.new (c:=aS W (λ _=>false) 0) (o:={ cls:=.type "set",dict:=none,data:=.set #[] 0 (.fresh 0 0 led) }) rfl (setObjOf_fresh led) s.toks;have hS:(s.heap.push { cls:=.type "set",dict:=none,data:=.set #[] 0 (.fresh 0 0 led) }).get? s.heap.objs.size=some { cls:=.type "set",dict:=none,data:=.set #[] 0 (.fresh 0 0 led) }:=Heap.get?_push_size _ rfl;have hT:Shared.TypeIs { s with heap:=s.heap.push { cls:=.type "set",dict:=none,data:=.set #[] 0 (.fresh 0 0 led) } } (.ref s.heap.objs.size) "set":=⟨_,hS,rfl⟩
   have hli:=F.called_set.init.lookup;have hbi:=F.called_set.init.bind (.ref s.heap.objs.size)
   repeat (any_goals (first | assumption | wp_step))
   refine codeAny_mono (codeAny_call_builtin (R:=wants (λ r s₂=>r=.none/\Sta W G env loc ((s.heap.objs.size,aS W (sE (λ _=>false) ss) (xX (λ _=>false) 0 ss))::(l,aA vs)::N) s₂) E) F.called_set.init.plain F.entry_set_init (check_set_init_1 hT ?_)) λ r₂ s₂ hr₂=>?_
   ·obtain⟨nl,hol'⟩:=S1.isL (a:=l) (.tail _ (.head _));have hol':(s.heap.push { cls:=.type "set",dict:=none,data:=.set #[] 0 (.fresh 0 0 led) }).get? l=some { cls:=.type "list",dict:=none,data:=.seq vs.toArray nl,slots:=#[] }:=hol';have hsls:=F.sub_list_set;have hslf:=F.sub_list_frozenset;have hne:(Value.type "list"==Value.type "dict")=false:=by decide
    unfold Builtin.«set.__init__» noKeywords Builtin.Frozenset.updateFrom;generalize hPI:pyIter=PI
    wp_walk
    subst hPI;refine S1.iterL (.tail _ (.head _)) λ it s3 S3=>?_;refine Aa (wpAny_runValue ?_);have Y:LY W [(l,aA vs)] it vs [(it,bG l 0)]:=dJ (own₀:=[]) (by simp) _ 0 rfl;have S4:St0 W (G++[]) (((s.heap.objs.size,aS W (λ _=>false) 0)::((env.locals,aL loc)::N))++([(l,aA vs)]++[(it,bG l 0)])) s3:=by
     rw[Am];refine S3.to0.perm ?_;show List.Perm ((env.locals,aL loc)::(it,bG l 0)::(s.heap.objs.size,aS W (λ _=>false) 0)::(l,aA vs)::N) ((s.heap.objs.size,aS W (λ _=>false) 0)::(env.locals,aL loc)::(N++[(l,aA vs),(it,bG l 0)]));exact(AM (l₁:=[_,_])).trans ((((List.Perm.swap _ _ _).trans (AT (l₁:=[_,_]) (l₂:=N))).cons _).cons _)
    refine uO (sh:=[(l,aA vs)]) (I:=it) vs ss _ _ [(it,bG l 0)] [] _ s3 ht ?hAA Y.yields (by walk_at "o") S4 λ s5 S5=>?_
    case hAA=>exact((hA.le (j:=10) (by walk_at "o")).in1:Aok 9 _).in1
    refine Ae ?_;show Ad _ _ (ret Value.none) _ _ _;refine Ae ⟨rfl,?_⟩;refine St0.toSta (S5.perm ?_) S.eok;show List.Perm ((s.heap.objs.size,_)::(env.locals,aL loc)::(N++[(l,aA vs)])) ((env.locals,aL loc)::(s.heap.objs.size,_)::(l,aA vs)::N);exact(List.Perm.swap ..).trans ((AT (l₁:=N) (l₂:=[(l,aA vs)])).cons _ |>.cons _)
   ·cases r₂ with
    | error e=>exact hr₂
    | ok fl₂=>
     cases fl₂ with
     | ret r=>
      obtain⟨rfl,S5⟩:=hr₂
      repeat (any_goals (first | assumption | wp_step))
      exact h _ _ S5
     | _=>exact hr₂.elim
  | _=>exact hr.elim
noncomputable def dB(ty:String)(x:Str)(t:Tok)(i:Nat):Cell:=λ o=>o.cls=.type ty/\o.data=.fields #[.str x t,.int i 0]
noncomputable def xH(ty:String):Prop:=ty="str_ascii_iterator"\/ty="str_iterator"
theorem pF{ty:String}(h:xH ty){x:Str}{t:Tok}{i:Nat}:∀ o,dB ty x t i o->cY o=true:=λ o ho=>by
 unfold cY;rw[ho.1];rcases h with rfl | rfl<;>decide
theorem uA{W:Wd}{sh:Lg}{it:Addr}{ty:String}(hty:xH ty){x:Str}{t:Tok}:∀(cs:List Nat) (i:Nat),x.cps.toList.drop i=cs->YdR W sh it (λ(c:Nat) v=>∃ u,v=.str ⟨#[c]⟩ u) cs [(it,dB ty x t i)] []:=by
 intro l0
 induction l0 with
 | nil=>
  intro i e;exact⟨⟨dB ty x t i,by simp,pF hty⟩,λ A R GR s Q E hA S hQ=>by
  have D0:Led W.B ((R++sh)++((it,dB ty x t i)::[])) s.heap:=by rw[Ah];exact S.led
  obtain⟨o,ho,hc,hd⟩:=D0.get (a:=it) (c:=dB ty x t i) (by simp);have hx:x.cps[i]?=none:=by
   rw[←Array.getElem?_toList,List.getElem?_eq_none_iff];exact List.drop_eq_nil_iff.mp e
  have fin:∀ h',Heap.ExtBut it s.heap h'->Q none { s with heap:=h' }:=λ h' hx=>hQ _ ⟨S.ok,(D0.dropBack λ b o hb e=>hx b o hb e).sub (A7 _ _),S.bare,S.os,λ p hp=>S.gens p (by simpa using hp),by simpa using S.gnd⟩;rcases hty with rfl | rfl
  ·exact wpAny_pyNext_ascii_end hA.handled ⟨o,ho,hc,hd⟩ hx fin
  ·exact wpAny_pyNext_wide_end hA.handled ⟨o,ho,hc,hd⟩ hx fin⟩
 | cons c cs ih=>
  intro i e;refine⟨⟨dB ty x t i,by simp,pF hty⟩,?_⟩;intro A R GR s Q E hA S hQ;have D0:Led W.B ((R++sh)++((it,dB ty x t i)::[])) s.heap:=by rw[Ah];exact S.led
  obtain⟨o,ho,hc,hd⟩:=D0.get (a:=it) (c:=dB ty x t i) (by simp);have hx:x.cps[i]?=some c:=by
   have:=congrArg List.head? e;simpa[List.head?_drop]using this
  have e':x.cps.toList.drop (i+1)=cs:=by
   have:=congrArg List.tail e;simpa[List.tail_drop]using this
  have go:∀ h',h'.IsStrIter it ty x t (i+1)->Heap.SameBut it s.heap h'->Q (some (.str ⟨#[c]⟩ s.toks)) { s with heap:=h',toks:=s.toks+1 }:=λ h' hit hs=>by
   obtain⟨o',ho',hc',hd'⟩:=hit;have D1:=D0.back (c':=dB ty x t (i+1)) (λ b o hb e=>(hs.2 b hb).trans e) ho' ⟨hc',hd'⟩;rw[Ah]at D1;exact hQ _ _ [] _ ⟨_,rfl⟩ ⟨S.ok,D1,S.bare,S.os,S.gens,S.gnd⟩ (ih (i+1) e')
  rcases hty with rfl | rfl
  ·exact wpAny_pyNext_ascii_item ⟨o,ho,hc,hd⟩ hx go
  ·exact wpAny_pyNext_wide_item ⟨o,ho,hc,hd⟩ hx go
theorem aAf{W:Wd}{it:Addr}{ty:String}(hty:xH ty){x:Str}{t:Tok}{i:Nat}:rN W it (dB ty x t i):=λ A s Q E o ho hc h=>by
 rcases hty with rfl | rfl
 ·exact wpAny_pyIter_striter_ascii ⟨o,ho,hc.1,hc.2⟩ h
 ·exact wpAny_pyIter_striter_wide ⟨o,ho,hc.1,hc.2⟩ h
section
variable {W:Wd}{sh:Lg}{env:Env}{A:AL}{R:Result->Ac->Prop}{it:Addr}{elt target iter c:Expr}{scope:Scope}{pos:Pos}{acc:Value}
end
theorem Sta.iterStr{x:Str}{t:Tok}{Q:Value->Ac->Prop}(S:Sta W G env loc nw s)(h:∀ it ty s',xH ty->Sta W G env loc ((it,dB ty x t 0)::nw) s'->Q (.ref it) s'):Ad W.M A (pyIter (.str x t)) Q E s:=by
 cases ha:x.cps.all (·<128)
 ·exact wpAny_pyIter_wide ha (h _ _ _ (.inr rfl) (S.new (c:=dB "str_iterator" x t 0) rfl ⟨rfl,rfl⟩ s.toks))
 ·exact wpAny_pyIter_ascii ha (h _ _ _ (.inl rfl) (S.new (c:=dB "str_ascii_iterator" x t 0) rfl ⟨rfl,rfl⟩ s.toks))
theorem Sta.extendL{l b:Addr}{xs ys:List Value}{Q:Value->Ac->Prop}(S:Sta W G env loc nw s)(U:Upd l (aA xs) (aA (xs++ys)) nw nw')(m2:(b,aA ys)∈nw)(hz:xs.length+ys.length<=AC)(h:∀ s',Sta W G env loc nw' s'->Q .none s'):Ad W.M A (call (.builtin "list.extend") [.ref l,.ref b]) Q E s:=by
 obtain⟨n1,h1⟩:=S.isL U.mem;obtain⟨n2,h2⟩:=S.isL m2;refine call_meets F.slot_list_extend ⟨_,h1,rfl⟩ F.entry_list_extend (F.args_list_extend_2 _ _) (AutoSeq1.list_extend_list_list_0 l xs.toArray n1 b ys.toArray n2 ?_ (by simp;walk_at "o") (by simp;walk_at "o")) ⟨h1,h2,h _ (S.setL h1 _ (by simp) U _)⟩;simp[Builtin.List.listTooLong];intro _;exact hz
theorem vB:∀(kvs acc:List (Str×Value)),((acc++kvs).map (·.1)).Nodup->merged acc kvs=acc++kvs:=by
 intro l0
 induction l0 with
 | nil=>
  intro acc _;simp[merged]
 | cons p0 r ih=>
  obtain⟨x,v⟩:=p0;intro acc h;have hx:x∉acc.map (·.1):=by
   rw[Aq,Be]at h;intro m;exact h.2.2 x m x (by simp) rfl
  have e:merged acc ((x,v)::r)=merged (stored acc x v) r:=by simp[merged]
  rw[e,iL hx,ih (acc++[(x,v)]) (by simpa using h)];simp
section
variable {M:Model}{A:AL}{E:Value->Ac->Prop}{s:Ac}{env:Env}{prog:Program}{w:World}
theorem yE{pos:Pos}{Q:List (Value×Value)->Ac->Prop}(h:Q [] s):Ad (model prog w) A (evalPairs (pairTrees [] [] env pos)) Q E s:=evalPairs_nil h
theorem uU{k v:Expr}{ks:List (Option Expr)}{vs:List Expr}{pos:Pos}{Q:List (Value×Value)->Ac->Prop}(h:Ad (model prog w) A (eval k env) (λ kv s₁=>Ad (model prog w) A (eval v env) (λ vv s₂=>Ad (model prog w) A (evalPairs (pairTrees ks vs env pos)) (λ r s₃=>Q ((kv,vv)::r) s₃) E s₂) E s₁) E s):Ad (model prog w) A (evalPairs (pairTrees (some k::ks) (v::vs) env pos)) Q E s:=by
 show Ad _ _ (evalPairs ((eval k env,do let x ← eval v env;standAt pos;pure x)::pairTrees ks vs env pos)) _ _ _;refine evalPairs_cons (As h (λ kv s₁ h₁=>?_) λ _ _ e=>e);exact Aa (As h₁ (λ vv s₂ h₂=>Aa (AQ (Ae h₂))) λ _ _ e=>e)
end
noncomputable def DLit(W:Wd)(env:Env)(Q:Value->Ac->Prop)(d:Addr)(vs:List (Value×Value))(s:Ac):Prop:=
 ∃ G loc nw nw' kvs,Sta W G env loc nw s/\Carries (PySem.strKind W.prog W.w) vs kvs/\(kvs.map (·.1)).Nodup/\kvs.length<=100/\Upd d (IsD W d []) (IsD W d kvs) nw nw'/\∀ s',Sta W G env loc nw' s'->Q (.ref d) s'
theorem Sta.dictLit{keys:List (Option Expr)}{values:List Expr}{pos:Pos}{Q:Value->Ac->Prop}(hall:keys.all (·.isSome)=true)(hl:keys.length=values.length)(h0:keys≠[])(hlen:keys.length<=15)(S:Sta W G env loc nw s)(h:∀ d s',Sta W G env loc ((d,IsD W d [])::nw) s'->Ad W.M A (evalPairs (pairTrees keys values env pos)) (λ vs s₁=>DLit W env Q d vs s₁) E s'):Ad W.M A (eval (.Dict keys values pos) env) Q E s:=by
 refine wpAny_Dict_any hall hl h0 hlen ?_;refine As (h _ _ (S.new (c:=IsD W s.heap.objs.size []) rfl (kK S.size_mods) s.toks)) (λ vs s₁ h₁=>?_) λ _ _ e=>e;obtain⟨G',loc',nw1,nw2,kvs,h₁⟩:=h₁;obtain⟨S1,hc,hnd,hk,U,k⟩:=h₁;obtain⟨hd,hn⟩:=S1.dictAt U.mem;refine wpAny_storeAll vs kvs [] s₁ _ hc hd (by rw[Aw];simp;walk_at "o") λ h' hm hs=>?_;rw[vB kvs [] (by simpa using hnd)]at hm;obtain⟨o,ho,hdo⟩:=Heap.dictOf_iff.mp hm;exact k _ (S1.set U (λ b o hb e=>(hs.2 b hb).trans e) ho ⟨by simpa using hn,by simpa using hdo⟩ _)
theorem DLit.mk{d:Addr}{vs:List (Value×Value)}{Q:Value->Ac->Prop}(kvs:List (Str×Value))(S:Sta W G env loc nw s)(hc:Carries (PySem.strKind W.prog W.w) vs kvs)(hnd:(kvs.map (·.1)).Nodup)(hk:kvs.length<=100)(U:Upd d (IsD W d []) (IsD W d kvs) nw nw')(h:∀ s',Sta W G env loc nw' s'->Q (.ref d) s'):DLit W env Q d vs s:=⟨_,_,_,_,kvs,S,hc,hnd,hk,U,h⟩
theorem yM:Str.empty.length=0:=rfl
section
variable {M:Model}{s:Ac}{A:AL}{E:Value->Ac->Prop}{x:Str}{t:Tok}{Q:Value×List Value->Ac->Prop}
theorem iZ(h:Q (.builtin "str.join",[.str x t]) s):GetM M A E "join" (.str x t) Q s:=gR (name:="join") (id:="str.join") F.slot_str_join F.type_str_join h
theorem lI(h:Q (.builtin "str.split",[.str x t]) s):GetM M A E "split" (.str x t) Q s:=gR (name:="split") (id:="str.split") F.slot_str_split F.type_str_split h
theorem oV(h:Q (.builtin "str.replace",[.str x t]) s):GetM M A E "replace" (.str x t) Q s:=gR (name:="replace") (id:="str.replace") F.slot_str_replace F.type_str_replace h
end
theorem eD{a:Addr}{c:Cell}:∀{l:Lg},(a,c)∈l->Upd a c c l l
 | p::l,h=>by
  by_cases e:p=(a,c)
  ·subst e;exact .head
  ·rcases Ax.mp h with h | h
   ·exact absurd h.symm e
   ·exact .tail (eD h)
theorem Upd.app{a:Addr}{c c':Cell}{l l':Lg}(h:Upd a c c' l l')(R:Lg):Upd a c c' (l++R) (l'++R):=by
 induction h with
 | head=>exact .head
 | tail h ih=>exact .tail ih
theorem TxA.unsnoc{vs:List Value}{ss:List Str}{x:Str}(h:TxA vs (ss++[x])):∃ vs' t,vs=vs'++[.str x t]/\TxA vs' ss:=by
 induction ss generalizing vs with
 | nil=>cases h with | cons n t h=>cases h;exact⟨[],t,rfl,.nil⟩
 | cons m r ih=>
  cases h with
  | cons m u h=>
   obtain⟨vs',t,e,k⟩:=ih h;exact⟨.str m u::vs',t,by rw[e];rfl,.cons m u k⟩
theorem TxA.at?{vs:List Value}{ss:List Str}(h:TxA vs ss){j:Nat}{x:Str}(hx:ss[j]?=some x):∃ t,vs[j]?=some (.str x t):=by
 obtain⟨hj,rfl⟩:=List.getElem?_eq_some_iff.mp hx;exact h.at' j hj
theorem TxA.set{vs:List Value}{ss:List Str}(h:TxA vs ss):∀(j:Nat) (x:Str) (t:Tok),TxA (vs.set j (.str x t)) (ss.set j x):=by
 induction h with
 | nil=>intro k n t;exact .nil
 | cons m u h ih=>
  intro k n t
  induction k with
  | zero=>exact .cons n t h
  | succ k=>exact .cons m u (ih k n t)
theorem Sta.lenT{a:Addr}{ss:List Str}{Q:Value->Ac->Prop}(S:Sta W G env loc nw s)(m:(a,aB ss)∈nw)(hz:ss.length<=AC)(h:∀ t s',Sta W G env loc nw s'->Q (.int ss.length t) s'):Ad W.M A (call (.builtin "len") [.ref a]) Q E s:=by
 obtain⟨vs,ht,hl⟩:=S.txts m;have hlen:=ht.length;have q:=h (s.toks+1) _ (S.toks (s.toks+1+1));refine len_list hl ?_ ?_
 ·rw[Aw]at hz;simp[hlen];walk_at "o"
 ·simpa[hlen]using q
theorem Sta.popT{a:Addr}{ss:List Str}{x:Str}{Q:Value->Ac->Prop}(S:Sta W G env loc nw s)(U:Upd a (aB (ss++[x])) (aB ss) nw nw')(hz:ss.length<AC)(h:∀ t s',Sta W G env loc nw' s'->Q (.str x t) s'):Ad W.M A (call (.builtin "list.pop") [.ref a]) Q E s:=by
 obtain⟨vs,nw1,ht,U1,U2,S1⟩:=S.openT U;obtain⟨vs',t,rfl,ht'⟩:=ht.unsnoc;obtain⟨nw2,U3,U4⟩:=U2.via2 (aA vs');exact S1.pop U3 (by rw[ht'.length];exact hz) λ s' S2=>h t _ (S2.tell U4 λ o _ ho=>⟨_,ht',ho⟩)
theorem Sta.subT{a:Addr}{ss:List Str}{k:Int}{j:Nat}{t:Tok}{x:Str}{Q:Value->Ac->Prop}(S:Sta W G env loc nw s)(m:(a,aB ss)∈nw)(hk:k=(j:Int))(hj:j<1000000)(hx:ss[j]?=some x)(h:∀ t,Q (.str x t) s):SubscriptOn W.M A (.ref a) (.int k t) Q E s:=by
 obtain⟨vs,nw1,ht,U1,U2,S1⟩:=S.openT (eD m);obtain⟨u,hu⟩:=ht.at? hx;exact S1.sub_list U2.mem (by walk_at "o") (by walk_at "o") (by rw[hk];simpa using hu) (h u)
theorem Sta.subT_last{a:Addr}{ss:List Str}{t:Tok}{x:Str}{Q:Value->Ac->Prop}(S:Sta W G env loc nw s)(m:(a,aB (ss++[x]))∈nw)(h:∀ t,Q (.str x t) s):SubscriptOn W.M A (.ref a) (.int (-1) t) Q E s:=by
 obtain⟨vs,nw1,ht,U1,U2,S1⟩:=S.openT (eD m);obtain⟨vs',u,rfl,ht'⟩:=ht.unsnoc;exact S1.sub_last U2.mem (by simp) (h u)
theorem sD{l:Addr}{ss:List Str}{k:Int}{j:Nat}{t:Tok}{Q:Value->Ac->Prop}(S:Sta W G env loc nw s)(m:(l,aB ss)∈nw)(hz:ss.length<=AC)(hk:k=(j:Int))(h:∀ a s',Sta W G env loc ((a,aB (ss.drop j))::nw) s'->Q (.ref a) s'):wC W env Q (.ref l) (.int k t) .none s:=by
 obtain⟨vs,nw1,ht,U1,U2,S1⟩:=S.openT (eD m);refine⟨G,loc,nw1,l,vs,some k,none,S1,rfl,U2.mem,by rw[ht.length];exact hz,.int _ _,.none,λ a s' S2=>?_⟩;rw[hk,mT]at S2;have S3:=S2.tell (.tail U2) λ o _ ho=>⟨_,ht,ho⟩
 exact h a s' (S3.tell .head λ o _ ho=>⟨_,ht.drop j,ho⟩)
noncomputable def Pl{α:Type}(p:α)(L L':List α):Prop:=L.Perm (p::L')
noncomputable def Ps{α:Type}(A L L':List α):Prop:=L.Perm (A++L')
section
variable {α:Type}{p q x:α}{A B C L L' L2 R r r':List α}
theorem oT:Pl p (p::r) r:=List.Perm.refl _
theorem cD(h:Pl p r r'):Pl p (q::r) (q::r'):=(List.Perm.cons q h).trans (List.Perm.swap ..)
theorem aBN(h:Pl p r r'):Pl p (A++r) (A++r'):=(List.Perm.append_left A h).trans AM
theorem pl_c(h:Pl p (x::(A++B)) L'):Pl p ((x::A)++B) L':=h
theorem pl_n(h:Pl p B L'):Pl p ([]++B) L':=h
theorem pl_s(h:Pl p (A++(B++C)) L'):Pl p ((A++B)++C) L':=by unfold Pl at h ⊢;rw[Ah];exact h
theorem aD0:Ps A (A++r) r:=List.Perm.refl _
theorem ps_e:Ps A A []:=by unfold Ps;rw[Am]
theorem qL(h:Ps A r r'):Ps A (q::r) (q::r'):=(List.Perm.cons q h).trans AM.symm
theorem aBM(h:Ps A r r'):Ps A (B++r) (B++r'):=by
 unfold Ps at h ⊢;refine(List.Perm.append_left B h).trans ?_;rw[←Ah,←Ah];exact List.Perm.append_right r' AT
theorem ps_c(h:Ps A (x::(C++B)) L'):Ps A ((x::C)++B) L':=h
theorem ps_n(h:Ps A B L'):Ps A ([]++B) L':=h
theorem ps_s(h:Ps L (A++(B++C)) L'):Ps L ((A++B)++C) L':=by unfold Ps at h ⊢;rw[Ah];exact h
theorem aD2(h:Pl p L L')(k:L'.Perm R):L.Perm (p::R):=h.trans (List.Perm.cons p k)
theorem aD1(h:Ps A L L')(k:L'.Perm R):L.Perm (A++R):=h.trans (List.Perm.append_left A k)
theorem oS(k:L.Perm R):(p::L).Perm (p::R):=List.Perm.cons p k
theorem aAv(k:L.Perm R):(A++L).Perm (A++R):=List.Perm.append_left A k
theorem aC5(k:(x::(A++B)).Perm R):((x::A)++B).Perm R:=k
theorem aC4(k:L.Perm (x::(A++B))):L.Perm ((x::A)++B):=k
theorem aC1(k:B.Perm R):([]++B).Perm R:=k
theorem aC0(k:L.Perm B):L.Perm ([]++B):=k
theorem aCZ(k:(A++(B++C)).Perm R):((A++B)++C).Perm R:=by rw[Ah];exact k
theorem aCY(k:L.Perm (A++(B++C))):L.Perm ((A++B)++C):=by rw[Ah];exact k
theorem aC3(k:A.Perm R):(A++[]).Perm R:=by rw[Am];exact k
theorem aC2(k:L.Perm A):L.Perm (A++[]):=by rw[Am];exact k
end
noncomputable def bM(ns:List Int):Cell:=λ o=>∃ vs,IntsAre vs ns/\aA vs o
theorem Sta.openI{a:Addr}{ns:List Int}{c':Cell}(S:Sta W G env loc nw s)(U:Upd a (bM ns) c' nw nw'):∃ vs nw1,IntsAre vs ns/\Upd a (bM ns) (aA vs) nw nw1/\Upd a (aA vs) c' nw1 nw'/\Sta W G env loc nw1 s:=by
 obtain⟨o,ho,q0⟩:=S.get U.mem;obtain⟨vs,ht,hc⟩:=q0;obtain⟨nw1,U1,U2⟩:=U.via2 (aA vs);exact⟨vs,nw1,ht,U1,U2,S.tell U1 λ o' ho' _=>by rw[ho]at ho';cases ho';exact hc⟩
theorem IntsAre.at?{vs:List Value}{ns:List Int}(h:IntsAre vs ns){j:Nat}{x:Int}(hx:ns[j]?=some x):∃ t,vs[j]?=some (.int x t):=by
 obtain⟨hj,rfl⟩:=List.getElem?_eq_some_iff.mp hx;exact Mine.IntsAre.getAt h j hj
theorem Sta.subI{a:Addr}{ns:List Int}{k:Int}{j:Nat}{t:Tok}{x:Int}{Q:Value->Ac->Prop}(S:Sta W G env loc nw s)(m:(a,bM ns)∈nw)(hk:k=(j:Int))(hj:j<1000000)(hx:ns[j]?=some x)(h:∀ t,Q (.int x t) s):SubscriptOn W.M A (.ref a) (.int k t) Q E s:=by
 obtain⟨vs,nw1,ht,U1,U2,S1⟩:=S.openI (eD m);obtain⟨u,hu⟩:=Mine.IntsAre.at? ht hx;exact S1.sub_list U2.mem (by walk_at "o") (by walk_at "o") (by rw[hk];simpa using hu) (h u)
end Mine
section
namespace Mine
theorem Sta.pl{W:Wd}{G:Gens}{env:Env}{loc:Loc}{nw nw':Lg}{s:Ac}{p:Addr×Cell}(S:Sta W G env loc nw s)(h:Pl p nw nw'):Sta W G env loc (p::nw') s:=S.perm h
theorem ClA.cons'{env:Env}{x:Str}{xs:List Str}:∀{cs:List Addr},ClA env (x::xs) cs->∃ c r,cs=c::r/\ClO env .cell x c/\ClA env xs r:=by
 intro cs h
 induction cs with
 | nil=>exact h.elim
 | cons c r=>exact⟨c,r,rfl,h.1,h.2⟩
theorem ClA.nil'{env:Env}{cs:List Addr}(h:ClA env [] cs):cs=[]:=by
 induction cs with
 | nil=>rfl
 | cons c r=>exact h.elim
theorem ClA.one{env:Env}{x:Str}{cs:List Addr}(h:ClA env [x] cs):∃ c,cs=[c]/\ClO env .cell x c:=by
 obtain⟨c,r,rfl,h1,h2⟩:=h.cons';rw[h2.nil'];exact⟨c,rfl,h1⟩
theorem ClA.two{env:Env}{x y:Str}{cs:List Addr}(h:ClA env [x,y] cs):∃ c d,cs=[c,d]/\ClO env .cell x c/\ClO env .cell y d:=by
 obtain⟨c,r,rfl,h1,h2⟩:=h.cons';obtain⟨d,rfl,h3⟩:=h2.one;exact⟨c,d,rfl,h1,h3⟩
theorem ClA.three{env:Env}{x y z:Str}{cs:List Addr}(h:ClA env [x,y,z] cs):∃ c d e,cs=[c,d,e]/\ClO env .cell x c/\ClO env .cell y d/\ClO env .cell z e:=by
 obtain⟨c,r,rfl,h1,h2⟩:=h.cons';obtain⟨d,e,rfl,h3,h4⟩:=h2.two;exact⟨c,d,e,rfl,h1,h3,h4⟩
section
variable {α:Type}
theorem mem1{a x0:α}{l:List α}:a∈x0::a::l:=(.tail _ (.head _))
theorem mem2{a x0 x1:α}{l:List α}:a∈x0::x1::a::l:=(.tail _ (.tail _ (.head _)))
theorem mem3{a x0 x1 x2:α}{l:List α}:a∈x0::x1::x2::a::l:=(.tail _ (.tail _ (.tail _ (.head _))))
theorem mem4{a x0 x1 x2 x3:α}{l:List α}:a∈x0::x1::x2::x3::a::l:=(.tail _ (.tail _ (.tail _ (.tail _ (.head _)))))
theorem mem5{a x0 x1 x2 x3 x4:α}{l:List α}:a∈x0::x1::x2::x3::x4::a::l:=(.tail _ (.tail _ (.tail _ (.tail _ (.tail _ (.head _))))))
theorem mem6{a x0 x1 x2 x3 x4 x5:α}{l:List α}:a∈x0::x1::x2::x3::x4::x5::a::l:=(.tail _ (.tail _ (.tail _ (.tail _ (.tail _ (.tail _ (.head _)))))))
theorem mem7{a x0 x1 x2 x3 x4 x5 x6:α}{l:List α}:a∈x0::x1::x2::x3::x4::x5::x6::a::l:=(.tail _ (.tail _ (.tail _ (.tail _ (.tail _ (.tail _ (.tail _ (.head _))))))))
theorem memS{a x0 x1 x2 x3 x4 x5 x6 x7:α}{l:List α}(h:a∈l):a∈x0::x1::x2::x3::x4::x5::x6::x7::l:=(.tail _ (.tail _ (.tail _ (.tail _ (.tail _ (.tail _ (.tail _ (.tail _ h))))))))
theorem pull1{p x0:α}{r:List α}:Pull p (x0::p::r) (x0::r):=(.tail .head)
theorem pull2{p x0 x1:α}{r:List α}:Pull p (x0::x1::p::r) (x0::x1::r):=(.tail (.tail .head))
theorem pull3{p x0 x1 x2:α}{r:List α}:Pull p (x0::x1::x2::p::r) (x0::x1::x2::r):=(.tail (.tail (.tail .head)))
theorem pull4{p x0 x1 x2 x3:α}{r:List α}:Pull p (x0::x1::x2::x3::p::r) (x0::x1::x2::x3::r):=(.tail (.tail (.tail (.tail .head))))
theorem pull5{p x0 x1 x2 x3 x4:α}{r:List α}:Pull p (x0::x1::x2::x3::x4::p::r) (x0::x1::x2::x3::x4::r):=(.tail (.tail (.tail (.tail (.tail .head)))))
theorem pull6{p x0 x1 x2 x3 x4 x5:α}{r:List α}:Pull p (x0::x1::x2::x3::x4::x5::p::r) (x0::x1::x2::x3::x4::x5::r):=(.tail (.tail (.tail (.tail (.tail (.tail .head))))))
theorem pull7{p x0 x1 x2 x3 x4 x5 x6:α}{r:List α}:Pull p (x0::x1::x2::x3::x4::x5::x6::p::r) (x0::x1::x2::x3::x4::x5::x6::r):=(.tail (.tail (.tail (.tail (.tail (.tail (.tail .head)))))))
theorem pullS{p x0 x1 x2 x3 x4 x5 x6 x7:α}{r r':List α}(h:Pull p r r'):Pull p (x0::x1::x2::x3::x4::x5::x6::x7::r) (x0::x1::x2::x3::x4::x5::x6::x7::r'):=(.tail (.tail (.tail (.tail (.tail (.tail (.tail (.tail h))))))))
theorem pl1{p x0:α}{r:List α}:Pl p (x0::p::r) (x0::r):=(cD oT)
theorem pl2{p x0 x1:α}{r:List α}:Pl p (x0::x1::p::r) (x0::x1::r):=(cD (cD oT))
theorem pl3{p x0 x1 x2:α}{r:List α}:Pl p (x0::x1::x2::p::r) (x0::x1::x2::r):=(cD (cD (cD oT)))
theorem pl4{p x0 x1 x2 x3:α}{r:List α}:Pl p (x0::x1::x2::x3::p::r) (x0::x1::x2::x3::r):=(cD (cD (cD (cD oT))))
theorem pl5{p x0 x1 x2 x3 x4:α}{r:List α}:Pl p (x0::x1::x2::x3::x4::p::r) (x0::x1::x2::x3::x4::r):=(cD (cD (cD (cD (cD oT)))))
theorem pl6{p x0 x1 x2 x3 x4 x5:α}{r:List α}:Pl p (x0::x1::x2::x3::x4::x5::p::r) (x0::x1::x2::x3::x4::x5::r):=(cD (cD (cD (cD (cD (cD oT))))))
theorem pl7{p x0 x1 x2 x3 x4 x5 x6:α}{r:List α}:Pl p (x0::x1::x2::x3::x4::x5::x6::p::r) (x0::x1::x2::x3::x4::x5::x6::r):=(cD (cD (cD (cD (cD (cD (cD oT)))))))
theorem plS{p x0 x1 x2 x3:α}{r r':List α}(h:Pl p r r'):Pl p (x0::x1::x2::x3::r) (x0::x1::x2::x3::r'):=(cD (cD (cD (cD h))))
end
theorem put1{x:Str}{u v:Option Value}{x0:Str×Option Value}{r:Loc}:Put x v (x0::(x,u)::r) (x0::(x,v)::r):=(.tail .head)
theorem put2{x:Str}{u v:Option Value}{x0 x1:Str×Option Value}{r:Loc}:Put x v (x0::x1::(x,u)::r) (x0::x1::(x,v)::r):=(.tail (.tail .head))
theorem put3{x:Str}{u v:Option Value}{x0 x1 x2:Str×Option Value}{r:Loc}:Put x v (x0::x1::x2::(x,u)::r) (x0::x1::x2::(x,v)::r):=(.tail (.tail (.tail .head)))
theorem put4{x:Str}{u v:Option Value}{x0 x1 x2 x3:Str×Option Value}{r:Loc}:Put x v (x0::x1::x2::x3::(x,u)::r) (x0::x1::x2::x3::(x,v)::r):=(.tail (.tail (.tail (.tail .head))))
theorem put5{x:Str}{u v:Option Value}{x0 x1 x2 x3 x4:Str×Option Value}{r:Loc}:Put x v (x0::x1::x2::x3::x4::(x,u)::r) (x0::x1::x2::x3::x4::(x,v)::r):=(.tail (.tail (.tail (.tail (.tail .head)))))
theorem put6{x:Str}{u v:Option Value}{x0 x1 x2 x3 x4 x5:Str×Option Value}{r:Loc}:Put x v (x0::x1::x2::x3::x4::x5::(x,u)::r) (x0::x1::x2::x3::x4::x5::(x,v)::r):=(.tail (.tail (.tail (.tail (.tail (.tail .head))))))
theorem put7{x:Str}{u v:Option Value}{x0 x1 x2 x3 x4 x5 x6:Str×Option Value}{r:Loc}:Put x v (x0::x1::x2::x3::x4::x5::x6::(x,u)::r) (x0::x1::x2::x3::x4::x5::x6::(x,v)::r):=(.tail (.tail (.tail (.tail (.tail (.tail (.tail .head)))))))
theorem putS{x:Str}{v:Option Value}{x0 x1 x2 x3 x4 x5 x6 x7:Str×Option Value}{r r':Loc}(h:Put x v r r'):Put x v (x0::x1::x2::x3::x4::x5::x6::x7::r) (x0::x1::x2::x3::x4::x5::x6::x7::r'):=(.tail (.tail (.tail (.tail (.tail (.tail (.tail (.tail h))))))))
theorem upd1{a:Addr}{c c':Cell}{x0:Addr×Cell}{r:Lg}:Upd a c c' (x0::(a,c)::r) (x0::(a,c')::r):=(.tail .head)
theorem upd2{a:Addr}{c c':Cell}{x0 x1:Addr×Cell}{r:Lg}:Upd a c c' (x0::x1::(a,c)::r) (x0::x1::(a,c')::r):=(.tail (.tail .head))
theorem upd3{a:Addr}{c c':Cell}{x0 x1 x2:Addr×Cell}{r:Lg}:Upd a c c' (x0::x1::x2::(a,c)::r) (x0::x1::x2::(a,c')::r):=(.tail (.tail (.tail .head)))
theorem upd4{a:Addr}{c c':Cell}{x0 x1 x2 x3:Addr×Cell}{r:Lg}:Upd a c c' (x0::x1::x2::x3::(a,c)::r) (x0::x1::x2::x3::(a,c')::r):=(.tail (.tail (.tail (.tail .head))))
theorem upd5{a:Addr}{c c':Cell}{x0 x1 x2 x3 x4:Addr×Cell}{r:Lg}:Upd a c c' (x0::x1::x2::x3::x4::(a,c)::r) (x0::x1::x2::x3::x4::(a,c')::r):=(.tail (.tail (.tail (.tail (.tail .head)))))
theorem upd6{a:Addr}{c c':Cell}{x0 x1 x2 x3 x4 x5:Addr×Cell}{r:Lg}:Upd a c c' (x0::x1::x2::x3::x4::x5::(a,c)::r) (x0::x1::x2::x3::x4::x5::(a,c')::r):=(.tail (.tail (.tail (.tail (.tail (.tail .head))))))
theorem upd7{a:Addr}{c c':Cell}{x0 x1 x2 x3 x4 x5 x6:Addr×Cell}{r:Lg}:Upd a c c' (x0::x1::x2::x3::x4::x5::x6::(a,c)::r) (x0::x1::x2::x3::x4::x5::x6::(a,c')::r):=(.tail (.tail (.tail (.tail (.tail (.tail (.tail .head)))))))
theorem updS{a:Addr}{c c':Cell}{x0 x1 x2 x3 x4 x5 x6 x7:Addr×Cell}{r r':Lg}(h:Upd a c c' r r'):Upd a c c' (x0::x1::x2::x3::x4::x5::x6::x7::r) (x0::x1::x2::x3::x4::x5::x6::x7::r'):=(.tail (.tail (.tail (.tail (.tail (.tail (.tail (.tail h))))))))
theorem midS{L L':Lg}{x0 x1 x2 x3:Addr×Cell}{r r':Lg}(h:Mid L L' r r'):Mid L L' (x0::x1::x2::x3::r) (x0::x1::x2::x3::r'):=(.tail (.tail (.tail (.tail h))))
theorem mem8{α:Type}{a x0 x1 x2 x3 x4 x5 x6 x7:α}{l:List α}:a∈x0::x1::x2::x3::x4::x5::x6::x7::a::l:=(.tail _ (.tail _ (.tail _ (.tail _ (.tail _ (.tail _ (.tail _ (.tail _ (.head _)))))))))
theorem mem9{α:Type}{a x0 x1 x2 x3 x4 x5 x6 x7 x8:α}{l:List α}:a∈x0::x1::x2::x3::x4::x5::x6::x7::x8::a::l:=(.tail _ (.tail _ (.tail _ (.tail _ (.tail _ (.tail _ (.tail _ (.tail _ (.tail _ (.head _))))))))))
theorem mem10{α:Type}{a x0 x1 x2 x3 x4 x5 x6 x7 x8 x9:α}{l:List α}:a∈x0::x1::x2::x3::x4::x5::x6::x7::x8::x9::a::l:=(.tail _ (.tail _ (.tail _ (.tail _ (.tail _ (.tail _ (.tail _ (.tail _ (.tail _ (.tail _ (.head _)))))))))))
theorem mem11{α:Type}{a x0 x1 x2 x3 x4 x5 x6 x7 x8 x9 x10:α}{l:List α}:a∈x0::x1::x2::x3::x4::x5::x6::x7::x8::x9::x10::a::l:=(.tail _ (.tail _ (.tail _ (.tail _ (.tail _ (.tail _ (.tail _ (.tail _ (.tail _ (.tail _ (.tail _ (.head _))))))))))))
theorem mem12{α:Type}{a x0 x1 x2 x3 x4 x5 x6 x7 x8 x9 x10 x11:α}{l:List α}:a∈x0::x1::x2::x3::x4::x5::x6::x7::x8::x9::x10::x11::a::l:=(.tail _ (.tail _ (.tail _ (.tail _ (.tail _ (.tail _ (.tail _ (.tail _ (.tail _ (.tail _ (.tail _ (.tail _ (.head _)))))))))))))
theorem mem13{α:Type}{a x0 x1 x2 x3 x4 x5 x6 x7 x8 x9 x10 x11 x12:α}{l:List α}:a∈x0::x1::x2::x3::x4::x5::x6::x7::x8::x9::x10::x11::x12::a::l:=(.tail _ (.tail _ (.tail _ (.tail _ (.tail _ (.tail _ (.tail _ (.tail _ (.tail _ (.tail _ (.tail _ (.tail _ (.tail _ (.head _))))))))))))))
theorem mem14{α:Type}{a x0 x1 x2 x3 x4 x5 x6 x7 x8 x9 x10 x11 x12 x13:α}{l:List α}:a∈x0::x1::x2::x3::x4::x5::x6::x7::x8::x9::x10::x11::x12::x13::a::l:=(.tail _ (.tail _ (.tail _ (.tail _ (.tail _ (.tail _ (.tail _ (.tail _ (.tail _ (.tail _ (.tail _ (.tail _ (.tail _ (.tail _ (.head _)))))))))))))))
theorem mem15{α:Type}{a x0 x1 x2 x3 x4 x5 x6 x7 x8 x9 x10 x11 x12 x13 x14:α}{l:List α}:a∈x0::x1::x2::x3::x4::x5::x6::x7::x8::x9::x10::x11::x12::x13::x14::a::l:=(.tail _ (.tail _ (.tail _ (.tail _ (.tail _ (.tail _ (.tail _ (.tail _ (.tail _ (.tail _ (.tail _ (.tail _ (.tail _ (.tail _ (.tail _ (.head _))))))))))))))))
theorem mem16{α:Type}{a x0 x1 x2 x3 x4 x5 x6 x7 x8 x9 x10 x11 x12 x13 x14 x15:α}{l:List α}:a∈x0::x1::x2::x3::x4::x5::x6::x7::x8::x9::x10::x11::x12::x13::x14::x15::a::l:=(.tail _ (.tail _ (.tail _ (.tail _ (.tail _ (.tail _ (.tail _ (.tail _ (.tail _ (.tail _ (.tail _ (.tail _ (.tail _ (.tail _ (.tail _ (.tail _ (.head _)))))))))))))))))
theorem mem17{α:Type}{a x0 x1 x2 x3 x4 x5 x6 x7 x8 x9 x10 x11 x12 x13 x14 x15 x16:α}{l:List α}:a∈x0::x1::x2::x3::x4::x5::x6::x7::x8::x9::x10::x11::x12::x13::x14::x15::x16::a::l:=(.tail _ (.tail _ (.tail _ (.tail _ (.tail _ (.tail _ (.tail _ (.tail _ (.tail _ (.tail _ (.tail _ (.tail _ (.tail _ (.tail _ (.tail _ (.tail _ (.tail _ (.head _))))))))))))))))))
theorem mem18{α:Type}{a x0 x1 x2 x3 x4 x5 x6 x7 x8 x9 x10 x11 x12 x13 x14 x15 x16 x17:α}{l:List α}:a∈x0::x1::x2::x3::x4::x5::x6::x7::x8::x9::x10::x11::x12::x13::x14::x15::x16::x17::a::l:=(.tail _ (.tail _ (.tail _ (.tail _ (.tail _ (.tail _ (.tail _ (.tail _ (.tail _ (.tail _ (.tail _ (.tail _ (.tail _ (.tail _ (.tail _ (.tail _ (.tail _ (.tail _ (.head _)))))))))))))))))))
theorem cJ{W:Wd}{G:Gens}{env:Env}{loc:Loc}{nw:Lg}{s:Ac}{P:Prop}(S:Sta W G env loc nw s)(k:let ℓ:=loc;let M:=nw;Sta W G env ℓ M s->P):P:=k S
end Mine
end
namespace Mine
theorem Sel.rest{L L2:Lg}(J:Lg)(h:L.Perm (L2++J)):Sel L L2:=⟨J,h⟩
theorem aEp{c:Bool}{P Q:Prop}(e:c=false)(h:Q):if c=true then P else Q:=by rw[if_neg (by rw[e];decide)];exact h
open PySem.Builtin.Str in
theorem Sta.find{x y:Str}{t u:Tok}{i:Nat}{Q:Value->Ac->Prop}(S:Sta W G env loc nw s)(hf:occurrences x y 0 x.length 1=[i])(h:∀ t s',Sta W G env loc nw s'->Q (.int (i:Int) t) s'):Ad W.M A (call (.builtin "str.find") [.str x t,.str y u]) Q E s:=by
 refine PySem.SC.find ?_;have e:Txt.find x y=(i:Int):=by unfold Txt.find;rw[hf]
 rw[e];exact h _ _ (S.toks _)
theorem rP{sh:Lg}{it:Addr}{vs:List Value}{ss:List Str}{own:Lg}{og:Gens}(h:TxA vs ss):cE W sh it vs own og->YdR W sh it (λ(x:Str) v=>∃ t,v=.str x t) ss own og:=by
 induction h generalizing own og with
 | nil=>exact λ H=>H
 | cons n t h ih=>exact λ H=>⟨H.1,λ A R GR s Q E hA S hQ=>H.2 A R GR s Q E hA S λ own' og' s' S' H'=>hQ _ own' og' s' ⟨t,rfl⟩ S' (ih H')⟩
noncomputable def KRun(n:Nat)(lt:Nat->Nat->Bool){α:Type}(P:α->Prop):KasT α->Prop
 | .ret a=>P a
 | .ask i j k=>i<n/\j<n/\KRun n lt P (k (lt i j))
theorem KRun.wp{n:Nat}{lt:Nat->Nat->Bool}{α:Type}{P:α->Prop}{cmp:Nat->Nat->(Bool->Ac->Prop)->Ac->Prop}{s:Ac}(hc:∀ i j,i<n->j<n->∀ C:Bool->Ac->Prop,C (lt i j) s->cmp i j C s){Q:α->Ac->Prop}(hQ:∀ a,P a->Q a s):∀{t:KasT α},KRun n lt P t->t.kasWp cmp Q s
 | .ret a,x=>hQ a x
 | .ask i j k,x=>hc i j x.1 x.2.1 _ (KRun.wp hc hQ x.2.2)
noncomputable def KRunB(n:Nat)(lt:Nat->Nat->Bool){α:Type}(P:α->Bool):KasT α->Bool
 | .ret a=>P a
 | .ask i j k=>decide (i<n)&&decide (j<n)&&KRunB n lt P (k (lt i j))
theorem KRunB.run{n:Nat}{lt lt':Nat->Nat->Bool}(hl:∀ i j,i<n->j<n->lt' i j=lt i j){α:Type}{P:α->Bool}:∀{t:KasT α},KRunB n lt P t=true->KRun n lt' (λ a=>P a=true) t
 | .ret a,x=>x
 | .ask i j k,x=>by
  have x:(decide (i<n)&&decide (j<n)&&KRunB n lt P (k (lt i j)))=true:=x;rw[AI,AI,decide_eq_true_eq,decide_eq_true_eq]at x;refine⟨x.1.1,x.1.2,?_⟩;rw[hl i j x.1.1 x.1.2];exact KRunB.run hl x.2
noncomputable def tabs(k:Nat):Nat->List (List Nat)
 | 0=>[[]]
 | n+1=>(tabs k n).flatMap λ l=>(Bg k).map λ x=>x::l
theorem zS(k:Nat):∀ l:List Nat,(∀ x∈l,x<k)->l∈tabs k l.length:=by
 intro l0
 induction l0 with
 | nil=>
  intro _;exact .head _
 | cons x l ih=>
  intro h;exact List.mem_flatMap.mpr ⟨l,ih λ y hy=>h y (.tail _ hy),Aj.mpr ⟨x,BC.mpr (h x (.head _)),rfl⟩⟩
noncomputable def okB(n:Nat)(lt:Nat->Nat->Bool)(p:Array Nat):Bool:=p.toList.isPerm (Bg n)&&(Bg n).all λ i=>(Bg n).all λ j=>!(decide (i<j)&&lt (p.getD j 0) (p.getD i 0))
noncomputable def mN(t:List Nat)(i j:Nat):Bool:=decide (t.getD i 0<t.getD j 0)
theorem aAc:([2,3,4].all λ n=>(tabs n n).all λ t=>KRunB n (mN t) (okB n (mN t)) (kas_sort n))=true:=by decide +kernel
theorem fN{p q:Nat->Bool}(h:∀ k,p k=true->q k=true){x:Nat}(hq:q x=true)(hp:p x=false):∀{l:List Nat},x∈l->l.countP p<l.countP q
 | y::l,m=>by
  have hle:l.countP p<=l.countP q:=List.countP_mono_left λ k _=>h k;rw[List.countP_cons,List.countP_cons];rcases Ax.mp m with rfl | m
  ·rw[hq,hp];simp;walk_at "o"
  ·have:=fN h hq hp m;have hy:(if p y=true then 1 else 0)<=(if q y=true then 1 else 0):=by
    by_cases e:p y=true
    ·rw[if_pos e,if_pos (h y e)];exact AN _
    ·rw[if_neg e];exact AE _
   walk_at "o"
structure Tot {β:Type} (lt:β->β->Bool):Prop where
 irr:∀ a,lt a a=false
 tr:∀ a b c,lt a b=true->lt b c=true->lt a c=true
 tot:∀ a b,lt a b=false->lt b a=false->a=b
theorem mS{β:Type}{lt:β->β->Bool}(T:Tot lt)(f:Nat->β){n:Nat}(h2:2<=n)(h4:n<=4):KRun n (λ i j=>lt (f i) (f j)) (λ p=>Ok n p/\∀ i j,i<j->j<n->lt (f (p.getD j 0)) (f (p.getD i 0))=false) (kas_sort n):=by
 let rk:Nat->Nat:=λ i=>(Bg n).countP λ k=>lt (f k) (f i)
 have hrk:∀ i j,i<n->j<n->lt (f i) (f j)=decide (rk i<rk j):=by
  intro i j hi hj;cases h:lt (f i) (f j)with
  | true=>
   refine(decide_eq_true ?_).symm;exact fN (p:=λ k=>lt (f k) (f i)) (q:=λ k=>lt (f k) (f j)) (λ k hk=>T.tr _ _ _ hk h) (x:=i) h (T.irr _) (BC.mpr hi)
  | false=>
   refine(decide_eq_false ?_).symm;have:rk j<=rk i:=List.countP_mono_left λ k _ hk=>by
    cases h':lt (f j) (f i)with
    | true=>exact T.tr _ _ _ hk h'
    | false=>rw [T.tot _ _ h h'];exact hk
   walk_at "o"
 have hlt:∀ i,i<n->rk i<n:=by
  intro i hi;have h1:rk i<(Bg n).countP λ _=>true:=fN (λ _ _=>rfl) (x:=i) rfl (T.irr _) (BC.mpr hi);simpa using h1
 let t:List Nat:=(Bg n).map rk
 have htl:t.length=n:=by simp[t]
 have hg:∀ i,i<n->t.getD i 0=rk i:=by
  intro i hi;simp[t,List.getD,hi]
 have hm:t∈tabs n n:=by
  have:=zS n t (λ x hx=>by
   obtain⟨i,hi,rfl⟩:=Aj.mp hx;exact hlt i (BC.mp hi))
  rwa[htl]at this
 have hr:KRunB n (mN t) (okB n (mN t)) (kas_sort n)=true:=by
  have h:=aAc;rw[Bq]at h;have hn:n∈[2,3,4]:=by
   simp only[Ax,Bx,or_false];walk_at "o"
  have h:=h n hn;rw[Bq]at h;exact h t hm
 have hl:∀ i j,i<n->j<n->lt (f i) (f j)=mN t i j:=by
  intro i j hi hj;unfold mN;rw[hg i hi,hg j hj];exact hrk i j hi hj
 have R:=KRunB.run hl hr;have key:∀ p:Array Nat,okB n (mN t) p=true->Ok n p/\∀ i j,i<j->j<n->lt (f (p.getD j 0)) (f (p.getD i 0))=false:=by
  intro p hp;unfold okB at hp;rw[AI]at hp;have hok:Ok n p:=List.isPerm_iff.mp hp.1;refine⟨hok,λ i j hij hj=>?_⟩;have h:=hp.2;rw[Bq]at h;have h:=h i (BC.mpr (by walk_at "o"));rw[Bq]at h;have h:=h j (BC.mpr hj);rw[decide_eq_true hij,Bool.true_and,Bs]at h;rw[hl _ _ (hok.lt (by walk_at "o") j) (hok.lt (by walk_at "o") i)];exact h
 have mono:∀{α:Type} {P P':α->Prop} (h:∀ a,P a->P' a) {t:KasT α},KRun n (λ i j=>lt (f i) (f j)) P t->KRun n (λ i j=>lt (f i) (f j)) P' t:=by
  intro α P P' h t
  induction t with
  | ret a=>exact h a
  | ask i j k ih=>exact λ x=>⟨x.1,x.2.1,ih _ x.2.2⟩
 exact mono key R
noncomputable def srt{β:Type}(lt:β->β->Bool):List β->List β
 | []=>[]
 | x::r=>ins lt x (srt lt r)
where
 ins (lt:β->β->Bool) (x:β):List β->List β
  | []=>[x]
  | y::r=>if lt y x=true then y::ins lt x r else x::y::r
theorem tD{β:Type}{lt:β->β->Bool}{x y:β}{r:List β}:srt.ins lt x (y::r)=if lt y x=true then y::srt.ins lt x r else x::y::r:=rfl
theorem tC{β:Type}{lt:β->β->Bool}(x:β):∀ l:List β,(srt.ins lt x l).Perm (x::l):=by
 intro l0
 induction l0 with
 | nil=>
  exact .refl _
 | cons y r ih=>
  rw[tD]
  split
  ·exact((ih).cons y).trans (.swap ..)
  ·exact .refl _
theorem bP{β:Type}{lt:β->β->Bool}:∀ l:List β,(srt lt l).Perm l:=by
 intro l0
 induction l0 with
 | nil=>
  exact .refl _
 | cons x r ih=>
  exact(tC x _).trans ((ih).cons x)
theorem aB5{β:Type}{lt:β->β->Bool}(T:Tot lt)(x:β):∀ l:List β,l.Pairwise (λ a b=>lt b a=false)->(srt.ins lt x l).Pairwise (λ a b=>lt b a=false):=by
 intro l0
 induction l0 with
 | nil=>
  intro _;exact List.pairwise_singleton _ _
 | cons y r ih=>
  intro h;rw[BS]at h;rw[tD]
  split
  ·rename_i hyx;rw[BS];refine⟨λ b hb=>?_,ih h.2⟩;rcases Ax.mp ((tC x r).mem_iff.mp hb)with rfl | hb
   ·cases e:lt b y with
    | false=>rfl
    | true=>have:=T.tr _ _ _ hyx e;rw[T.irr]at this;cases this
   ·exact h.1 b hb
  ·rename_i hyx;have hyx:lt y x=false:=by simpa using hyx
   rw[BS];refine⟨λ b hb=>?_,BS.mpr h⟩;rcases Ax.mp hb with rfl | hb
   ·exact hyx
   ·cases e:lt b x with
    | false=>rfl
    | true=>
     have h1:=h.1 b hb;cases e2:lt x y with
     | true=>have:=T.tr _ _ _ e e2;rw[this]at h1;cases h1
     | false=>rw [T.tot _ _ hyx e2]at h1;rw[h1]at e;cases e
theorem qE{β:Type}{lt:β->β->Bool}(T:Tot lt):∀ l:List β,(srt lt l).Pairwise (λ a b=>lt b a=false):=by
 intro l0
 induction l0 with
 | nil=>
  exact .nil
 | cons x r ih=>
  exact aB5 T x _ (ih)
theorem uY{β:Type}{lt:β->β->Bool}(T:Tot lt):∀{a b:List β},a.Perm b->a.Pairwise (λ x y=>lt y x=false)->b.Pairwise (λ x y=>lt y x=false)->a=b
 | [],b,h,_,_=>by rw[List.nil_perm.mp h]
 | x::a,[],h,_,_=>by have:=h.length_eq;simp at this
 | x::a,y::b,h,ha,hb=>by
  rw[BS]at ha hb;have e:x=y:=by
   have m1:x∈y::b:=h.mem_iff.mp (.head _);have m2:y∈x::a:=h.mem_iff.mpr (.head _);rcases Ax.mp m1 with e | m1
   ·exact e
   ·rcases Ax.mp m2 with e | m2
    ·exact e.symm
    ·exact T.tot _ _ (hb.1 x m1) (ha.1 y m2)
  subst e;rw[uY T ((List.perm_cons x).mp h) ha.2 hb.2]
theorem aDF{β:Type}{lt:β->β->Bool}(T:Tot lt){a b:List β}(h:a.Perm b)(ha:a.Pairwise (λ x y=>lt y x=false)):a=srt lt b:=
 uY T (h.trans (bP b).symm) ha (qE T b)
theorem xS{β:Type}{lt:β->β->Bool}(T:Tot lt){a b:List β}(h:a.Perm b):srt lt a=srt lt b:=uY T (((bP a).trans h).trans (bP b).symm) (qE T a) (qE T b)
theorem sA{β:Type}{lt:β->β->Bool}(T:Tot lt){l:List β}{d:β}{p:Array Nat}(hok:Ok l.length p)(ho:∀ i j,i<j->j<l.length->lt (l.getD (p.getD j 0) d) (l.getD (p.getD i 0) d)=false):(p.toList.map λ i=>l.getD i d)=srt lt l:=by
 refine aDF T ?_ ?_
 ·have q:List.Perm (p.toList.map λ i=>l.getD i d) ((Bg l.length).map λ i=>l.getD i d):=hok.map _;have e:(Bg l.length).map (λ i=>l.getD i d)=l:=by
   apply List.ext_getElem
   ·simp
   ·intro i h1 h2;simp at h1 ⊢;simp[h2]
  rwa[e]at q
 ·rw[List.pairwise_iff_getElem];intro i j hi hj hij;have hpl:p.toList.length=l.length:=by rw[hok.length_eq];simp
  rw[Ai]at hi hj;rw[List.getElem_map,List.getElem_map];have:=ho i j hij (by walk_at "o");have e1:p.getD j 0=p.toList[j]:=by
   have:j<p.size:=by simpa using hj
   simp[Array.getD,this]
  have e2:p.getD i 0=p.toList[i]:=by
   have:i<p.size:=by simpa using hi
   simp[Array.getD,this]
  rwa[e1,e2]at this
noncomputable def ltS(x y:Str):Bool:=decide (x.cps.toList<y.cps.toList)
theorem tot_str:Tot ltS where
 irr a:=decide_eq_false (List.lt_irrefl _)
 tr a b c h1 h2:=decide_eq_true (List.lt_trans (of_decide_eq_true h1) (of_decide_eq_true h2))
 tot a b h1 h2:=by
  have h1:=of_decide_eq_false h1;have h2:=of_decide_eq_false h2;exact Str.ext' (List.le_antisymm (List.not_lt.mp h2) (List.not_lt.mp h1))
theorem tot_ls:Tot nJ where
 irr a:=by
  induction a with
  | nil=>rfl
  | cons x r ih=>exact(if_pos rfl).trans ih
 tr a:=by
  induction a with
  | nil=>
   intro b c h1 h2;cases b with
   | nil=>exact h2
   | cons y r=>cases c with
    | nil=>cases h2
    | cons z r=>rfl
  | cons x a ih=>
   intro b c h1 h2;cases b with
   | nil=>cases h1
   | cons y b=>
    cases c with
    | nil=>cases h2
    | cons z c=>
     rw[gZ]at h1 h2 ⊢
     by_cases e1:x=y
     ·subst e1;rw[if_pos rfl]at h1
      by_cases e2:x=z
      ·subst e2;rw[if_pos rfl]at h2 ⊢;exact ih b c h1 h2
      ·rw[if_neg e2]at h2 ⊢;exact h2
     ·rw[if_neg e1]at h1
      by_cases e2:y=z
      ·subst e2;rw[if_neg e1];exact h1
      ·rw[if_neg e2]at h2;have h3:=tot_str.tr _ _ _ h1 h2;have e3:x≠z:=λ e=>by subst e;rw[tot_str.irr]at h3;cases h3
       rw[if_neg e3];exact h3
 tot a:=by
  induction a with
  | nil=>intro b h1 h2;cases b with
   | nil=>rfl
   | cons y b=>cases h1
  | cons x a ih=>
   intro b h1 h2
   induction b with
   | nil=>cases h2
   | cons y b=>
    rw[gZ]at h1 h2
    by_cases e:x=y
    ·subst e;rw[if_pos rfl]at h1 h2;rw[ih b h1 h2]
    ·rw[if_neg e]at h1;rw[if_neg (λ q=>e q.symm)]at h2;exact absurd (tot_str.tot _ _ h1 h2) e
theorem aDu{α γ:Type}[DecidableEq γ]{kp:α->γ}{l1:γ->γ->Bool}{l2:α->α->Bool}(T1:Tot l1)(T2:Tot l2):Tot (λ x y=>if kp x=kp y then l2 x y else l1 (kp x) (kp y)) where
 irr a:=by rw[if_pos rfl];exact T2.irr a
 tr a b c h1 h2:=by
  by_cases e1:kp a=kp b
  ·rw[if_pos e1]at h1
   by_cases e2:kp b=kp c
   ·rw[if_pos e2]at h2;rw[if_pos (e1.trans e2)];exact T2.tr _ _ _ h1 h2
   ·rw[if_neg e2]at h2;rw[e1,if_neg e2];exact h2
  ·rw[if_neg e1]at h1
   by_cases e2:kp b=kp c
   ·rw[←e2,if_neg e1];exact h1
   ·rw[if_neg e2]at h2;have h3:=T1.tr _ _ _ h1 h2;have e3:kp a≠kp c:=λ e=>by rw[e,T1.irr]at h3;cases h3
    rw[if_neg e3];exact h3
 tot a b h1 h2:=by
  by_cases e:kp a=kp b
  ·rw[if_pos e]at h1;rw[if_pos e.symm]at h2;exact T2.tot _ _ h1 h2
  ·rw[if_neg e]at h1;rw[if_neg (λ q=>e q.symm)]at h2;exact absurd (T1.tot _ _ h1 h2) e
noncomputable def lt2(x y:Str×Str):Bool:=if x.1=y.1 then ltS x.2 y.2 else ltS x.1 y.1
theorem tot_2:Tot lt2 where
 irr a:=by unfold lt2;rw[if_pos rfl];exact tot_str.irr _
 tr a b c h1 h2:=by
  unfold lt2 at h1 h2 ⊢
  by_cases e1:a.1=b.1
  ·rw[if_pos e1]at h1
   by_cases e2:b.1=c.1
   ·rw[if_pos e2]at h2;rw[if_pos (e1.trans e2)];exact tot_str.tr _ _ _ h1 h2
   ·rw[if_neg e2]at h2;rw[e1,if_neg e2];exact h2
  ·rw[if_neg e1]at h1
   by_cases e2:b.1=c.1
   ·rw[←e2,if_neg e1];exact h1
   ·rw[if_neg e2]at h2;have h3:=tot_str.tr _ _ _ h1 h2;have e3:a.1≠c.1:=λ e=>by rw[e,tot_str.irr]at h3;cases h3
    rw[if_neg e3];exact h3
 tot a b h1 h2:=by
  unfold lt2 at h1 h2
  by_cases e:a.1=b.1
  ·rw[if_pos e]at h1;rw[if_pos e.symm]at h2;exact Prod.ext e (tot_str.tot _ _ h1 h2)
  ·rw[if_neg e]at h1;rw[if_neg (λ q=>e q.symm)]at h2;exact absurd (tot_str.tot _ _ h1 h2) e
theorem KRun.congr{n:Nat}{lt lt':Nat->Nat->Bool}(hl:∀ i j,i<n->j<n->lt' i j=lt i j){α:Type}{P:α->Prop}:∀{t:KasT α},KRun n lt P t->KRun n lt' P t
 | .ret _,x=>x
 | .ask i j _,x=>⟨x.1,x.2.1,by rw[hl i j x.1 x.2.1];exact KRun.congr hl x.2.2⟩
noncomputable def ltK(kp:Str->List Str)(x y:Str):Bool:=if kp x=kp y then ltS x y else nJ (kp x) (kp y)
theorem aCP(kp:Str->List Str):Tot (ltK kp):=aDu tot_ls tot_str
theorem Sta.sortKeyG{l f:Addr}{vs:List Value}{ss:List Str}{kp:Str->List Str}{Rp:Array Nat->Prop}{Q:Value->Ac->Prop}(hok:∀ p,Rp p->Ok ss.length p)(hR:2<=ss.length->KRun ss.length (λ i j=>nJ (kp (ss.getD i Str.empty)) (kp (ss.getD j Str.empty))) Rp (kas_sort ss.length))(hR1:ss.length<2->Rp (Bg ss.length).toArray)(S:Sta W G env loc ((l,aA vs)::N) s)(ht:TxA vs ss)(hu:A.units+1<cLine)(h64:ss.length<64)(hkey:∀ x t L0 s (Q':Value->Ac->Prop),x∈ss->Sta W G env loc (L0++N) s->(∀ k s',Sta W G env loc ((k,aB (kp x))::(L0++N)) s'->Q' (.ref k) s')->Ad W.M A.in1 (call (.ref f) [.str x t]) Q' (λ _ _=>False) s)(h:∀ p s',Rp p->Sta W G env loc ((l,aB (p.toList.map λ i=>ss.getD i Str.empty))::N) s'->Q .none s'):Ad W.M A (call (.builtin "list.sort") [.ref l] [(Str.ofString "key",.ref f)]) Q E s:=by
 obtain⟨n,hl⟩:=S.isL (.head _);have hlen:=ht.length;refine wpAny_call_entry_kw PyProof.Rows.slot_list_sort ⟨_,hl,rfl⟩ PyProof.Rows.entry_list_sort ?_ (ksk_l1 _ _);rw[ksk_t1];unfold ksk_tree;refine Aa (listItems_at hl rfl ?_);refine Aa (listUpdate_at hl rfl ?_ (by rw[AK,Aw];walk_at "o") (AE _));have S1:=S.setL (ys:=[]) hl (λ _=>#[]) rfl .head s.toks;obtain⟨e1,hl1⟩:=S1.isL (.head _);replace S1:=S1.tell (nw':=(l,bU (seqObj "list" #[] e1))::N) .head λ o ho _=>by rw[hl1]at ho;cases ho;rfl
 refine Aa (seqEpoch_at hl1 rfl ?_);refine Aa (S1.newTuple (by rw[Aw];show vs.length<=_;walk_at "o") λ tp s2 S2=>?_);refine Aa (S2.newList (by simp) λ kS s3 S3=>?_);replace S3:=S3.sub (nw':=(kS,aA [])::(l,bU (seqObj "list" #[] e1))::N) ((AZ _ _).cons_cons _);refine AB ?_;refine Aa (wpAny_rule ?_);rw[←Array.forIn_toList];refine Aa (ksk_fold (I:=λ i s'=>∃ ks:List Addr,ks.length=i/\Sta W G env loc ((kS,aA (ks.map .ref))::(l,bU (seqObj "list" #[] e1))::(jT kp ks (ss.take i)++N)) s') vs 0 s3 ⟨[],rfl,S3⟩ (λ j x s' hx hI=>?_) (λ s' hI=>?_))
 ·obtain⟨ks,hks,S4⟩:=hI;rw[By]at hks S4;have hj:j<ss.length:=by
   rw[←hlen];exact(List.getElem?_eq_some_iff.mp hx).1
  obtain⟨t,ex⟩:=ht.at' j hj;replace ex:=(hx)▸ex;cases ex;refine Aa (BH (As (hkey ss[j] t ((kS,aA (ks.map .ref))::(l,bU (seqObj "list" #[] e1))::jT kp ks (ss.take j)) s' (λ v s''=>∃ k,v=.ref k/\Sta W G env loc ((k,aB (kp ss[j]))::((kS,aA (ks.map .ref))::(l,bU (seqObj "list" #[] e1))::(jT kp ks (ss.take j)++N))) s'') (Bd hj) S4 λ k s'' S5=>⟨k,rfl,S5⟩) (λ v s'' hv=>?_) λ _ _ hF=>hF.elim));obtain⟨k,rfl,S5⟩:=hv;obtain⟨n5,hl5⟩:=S5.isL (a:=kS) (.tail _ (.head _));refine Aa (listUpdate_at hl5 rfl ?_ (by rw[AK,Ai,Aw];walk_at "o") (by show((ks.map Value.ref).toArray.push _).size<=_;simp[Aw];walk_at "o"));have S6:=S5.setL (ys:=(ks++[k]).map Value.ref) hl5 (·.push (.ref k)) (by simp) (.tail .head) s''.toks;refine Ae ⟨rfl,ks++[k],by simp[hks],S6.perm ?_⟩;rw[By,List.take_add_one,List.getElem?_eq_getElem hj];show List.Perm ((k,aB (kp ss[j]))::(kS,_)::(l,_)::(jT kp ks (ss.take j)++N)) ((kS,_)::(l,_)::(jT kp (ks++[k]) (ss.take j++[ss[j]])++N));rw[pO kp k _ ks (ss.take j) (by rw[hks,List.length_take];walk_at "o"),Ah];exact(List.Perm.swap ..).trans (((List.Perm.swap ..).trans (AM.symm.cons _)).cons _)
 ·obtain⟨ks,hks,S4⟩:=hI;have etk:ss.take (0+vs.length)=ss:=List.take_of_length_le (by walk_at "o");rw[etk]at S4;obtain⟨n4,hl4⟩:=S4.isL (.head _);refine Aa (listItems_at hl4 rfl ?_);unfold ksk_end;simp only[Bool.false_eq_true,if_false]
  have hz:((ks.map Value.ref).toArray.zip vs.toArray).size=vs.length:=by simp[hks]
  -- what is behind the runs
  have hend:∀(st:SortSt) (p:List Nat) (s':Ac),Rp p.toArray->arrOf st=(p.map (kas_item ((ks.map Value.ref).toArray.zip vs.toArray))).toArray->failedOf st=none->
    Sta W G env loc ((kS,aA (ks.map .ref))::(l,bU (seqObj "list" #[] e1))::(jT kp ks ss++N)) s'->
    Ad W.M A.in1 (ksk_tail l false e1 (.ref kS) st) (λ fin s''=>∃ v,fin=.done (.ret v)/\Q v s'') E s':=by
   intro st p s' hRp harr hf S5;have hp:p.Perm (Bg vs.length):=by have:=hok _ hRp;unfold Ok at this;rw[hlen];simpa using this
   unfold ksk_tail;obtain⟨n5,hl5⟩:=S5.isL (.head _);refine Aa (listUpdate_at hl5 rfl ?_ (by rw[AK,Ai,Aw];walk_at "o") (AE _));have S6:=S5.setL (ys:=[]) hl5 (λ _=>#[]) rfl .head s'.toks;refine Aa (wpAny_letGo ?_);obtain⟨o6,ho6,e6⟩:=S6.get (a:=l) (.tail _ (.head _));subst e6;refine Aa (seqEpoch_at ho6 rfl ?_);have hsz:(arrOf st).size=vs.length:=by rw[harr];simp[hp.length_eq]
   refine Aa (listUpdate_at ho6 rfl ?_ (AE _) (by show((arrOf st).map _).size<=_;rw[Array.size_map,hsz,Aw];walk_at "o"));have hvs:(arrOf st).map (·.2)=(p.map λ i=>vs.getD i .none).toArray:=by
    rw[harr];simp only[List.map_toArray,AW]
    congr 1
    refine List.map_congr_left λ i hi=>?_;have hi2:i<vs.length:=by have:=hp.mem_iff.mp hi;simpa using this
    show(kas_item _ i).2=_;unfold kas_item;have h1:i<((ks.map Value.ref).toArray.zip vs.toArray).size:=by rw[hz];exact hi2
    simp[Array.getD,h1,hi2,hks]
   have S7:Sta W G env loc ((l,aA (p.map λ i=>vs.getD i .none))::N) { s' with heap:=(s'.heap.update kS (Obj.mapSeq λ _=>#[])).update l (Obj.mapSeq λ _=>(arrOf st).map (·.2)) }:=by
    have S6':=S6.tell (nw':=(kS,aA [])::(l,aA [])::(jT kp ks ss++N)) (.tail .head) λ o ho e=>⟨e1,e⟩
    obtain⟨n6,hl6⟩:=S6'.isL (a:=l) (.tail _ (.head _));have S7:=S6'.setL (ys:=p.map λ i=>vs.getD i .none) hl6 (λ _=>(arrOf st).map (·.2)) hvs (.tail .head) s'.toks;exact S7.sub (List.Sublist.cons _ ((List.sublist_append_right _ _).cons_cons _))
   rw[hf];rw[bne_self_eq_false,if_neg Bool.false_ne_true];have hpl:∀ i∈p,i<ss.length:=λ i hi=>by have:=hp.mem_iff.mp hi;rw[←hlen];simpa using this
   exact Ae ⟨_,rfl,h p.toArray _ hRp (S7.tell .head λ o ho e=>⟨_,by rw[List.toList_toArray];exact ht.pick p hpl,e⟩)⟩
  by_cases h2:vs.toArray.size<2
  ·rw[if_pos h2,if_pos h2];refine Aa (Ae ?_);refine Aa (Ae ?_);refine hend _ (Bg vs.length) s' (by rw[hlen];exact hR1 (by rw[AK]at h2;walk_at "o")) ?_ rfl S4;have e:=kas_range ((ks.map Value.ref).toArray.zip vs.toArray);rw[hz,List.map_toArray]at e;exact e.symm
  ·rw[if_neg h2,if_neg h2];rw[AK]at h2;refine Aa (kas_kind (T:=.type "list") (by rw[Ai];walk_at "o") (λ v hv=>?_) (by decide) (by decide) ?_)
   ·obtain⟨k,hk,rfl⟩:=Aj.mp hv;obtain⟨i,q0⟩:=BQ hk;obtain⟨hi,rfl⟩:=q0;have hm:(ks[i],aB (kp (ss[i]'(by walk_at "o"))))∈(kS,aA (ks.map .ref))::(l,bU (seqObj "list" #[] e1))::(jT kp ks ss++N):=.tail _ (.tail _ (Ak _ (nQ kp ks ss i hi (by walk_at "o"))));obtain⟨o,ho,q0⟩:=S4.get hm;obtain⟨vk,htk,q0⟩:=q0;obtain⟨nk,rfl⟩:=q0;exact(Looks.ld ho).andThen .now
   have est:SortSt.mk' oneType' ((ks.map Value.ref).toArray.zip vs.toArray) #[] 7 none=kas_st oneType' ((ks.map Value.ref).toArray.zip vs.toArray) (List.toArray (Bg vs.length)):=by
    have e:=kas_range ((ks.map Value.ref).toArray.zip vs.toArray);rw[hz]at e;show _=SortSt.mk' oneType' ((List.toArray (Bg vs.length)).map (kas_item ((ks.map Value.ref).toArray.zip vs.toArray))) #[] 7 none;rw[e]
   rw[est];have ask:(kas_sort vs.length).kasWp (kas_cmp W.prog W.w A.in1 oneType' ((ks.map Value.ref).toArray.zip vs.toArray)) (λ p s''=>Rp p/\s''=s') s':=by
    have hR':=hR (by walk_at "o");rw[←hlen]at hR';refine KRun.wp (n:=vs.length) (λ i j hi hj=>?_) (λ p hp=>⟨hp,rfl⟩) hR';have mem:∀ i,i<vs.length->∃ k vk nk,kas_item ((ks.map Value.ref).toArray.zip vs.toArray) i=(.ref k,vs.getD i .none)/\TxA vk (kp (ss.getD i Str.empty))/\s'.heap.get? k=some { cls:=.type "list",data:=.seq vk.toArray nk }:=by
     intro i hi;have hm:(ks[i],aB (kp (ss[i]'(by walk_at "o"))))∈(kS,aA (ks.map .ref))::(l,bU (seqObj "list" #[] e1))::(jT kp ks ss++N):=.tail _ (.tail _ (Ak _ (nQ kp ks ss i (by walk_at "o") (by walk_at "o"))));obtain⟨o,ho,q0⟩:=S4.get hm;obtain⟨vk,htk,q0⟩:=q0;obtain⟨nk,rfl⟩:=q0;have es:ss.getD i Str.empty=ss[i]'(by walk_at "o"):=by
      have:i<ss.length:=by walk_at "o"
      simp[this]
     rw[es];refine⟨ks[i],vk,nk,?_,htk,ho⟩;unfold kas_item;have h1:i<((ks.map Value.ref).toArray.zip vs.toArray).size:=by rw[hz];exact hi
     simp[Array.getD,h1,hi,hks]
    obtain⟨k1,v1,n1,q1,t1,o1⟩:=mem i hi;obtain⟨k2,v2,n2,q2,t2,o2⟩:=mem j hj;intro C hC;unfold kas_cmp;rw[q1,q2];exact aEk (by show A.units+1<cLine;exact hu) t1 t2 o1 o2 hC
   have run:=kas_runs (E:=E) (Q:=λ _ st' s''=>∃ p:Array Nat,Rp p/\arrOf st'=p.map (kas_item ((ks.map Value.ref).toArray.zip vs.toArray))/\failedOf st'=none/\s''=s') (by walk_at "o") (by walk_at "o") (λ p' st' s'' a1 a2 a3 a4=>⟨p',a4.1,a2,a3,a4.2⟩) ask;refine Aa (As run ?_ λ _ _ e=>e);intro x s'' hx;obtain⟨⟨⟩,st'⟩:=x;obtain⟨p,hp,har,hf,rfl⟩:=hx;refine hend st' p.toList s'' (by rw[Array.toArray_toList];exact hp) ?_ hf S4;rw[har];apply Array.ext';simp
theorem Sta.sortKeyS{l f:Addr}{vs:List Value}{ss:List Str}{kp:Str->List Str}{Q:Value->Ac->Prop}(S:Sta W G env loc ((l,aA vs)::N) s)(ht:TxA vs ss)(hu:A.units+1<cLine)(h4:ss.length<=4)(hinj:∀ x∈ss,∀ y∈ss,kp x=kp y->x=y)(hkey:∀ x t L0 s (Q':Value->Ac->Prop),x∈ss->Sta W G env loc (L0++N) s->(∀ k s',Sta W G env loc ((k,aB (kp x))::(L0++N)) s'->Q' (.ref k) s')->Ad W.M A.in1 (call (.ref f) [.str x t]) Q' (λ _ _=>False) s)(h:∀ s',Sta W G env loc ((l,aB (srt (ltK kp) ss))::N) s'->Q .none s'):Ad W.M A (call (.builtin "list.sort") [.ref l] [(Str.ofString "key",.ref f)]) Q E s:=by
 have T:=aCP kp;have hcon:∀ i j,i<ss.length->j<ss.length->nJ (kp (ss.getD i Str.empty)) (kp (ss.getD j Str.empty))=ltK kp (ss.getD i Str.empty) (ss.getD j Str.empty):=by
  intro i j hi hj;unfold ltK
  split
  ·rename_i e;have e2:ss.getD i Str.empty=ss.getD j Str.empty:=hinj _ (by simp[hi]) _ (by simp[hj]) e;rw[e2,tot_str.irr];exact tot_ls.irr _
  ·rfl
 refine Sta.sortKeyG (Rp:=λ p=>Ok ss.length p/\∀ i j,i<j->j<ss.length->ltK kp (ss.getD (p.getD j 0) Str.empty) (ss.getD (p.getD i 0) Str.empty)=false) (λ p hp=>hp.1) (λ h2=>?_) (λ h1=>⟨.refl _,λ i j hij hj=>by walk_at "o"⟩) S ht hu (by walk_at "o") hkey λ p s' hp S'=>?_
 ·exact KRun.congr hcon (mS T (λ i=>ss.getD i Str.empty) h2 h4)
 ·rw[sA T hp.1 hp.2]at S';exact h s' S'
theorem Sta.sortedSetS{a f:Addr}{ss:List Str}{kp:Str->List Str}{Q:Value->Ac->Prop}(S:Sta W G env loc ((a,bZ W ss)::N) s)(hA:Aok 12 A)(h4:ss.length<=4)(hinj:∀ x∈ss,∀ y∈ss,kp x=kp y->x=y)(hkey:∀ x t L0 s (Q':Value->Ac->Prop),x∈ss->Sta W G env loc (L0++((a,bZ W ss)::N)) s->(∀ k s',Sta W G env loc ((k,aB (kp x))::(L0++((a,bZ W ss)::N))) s'->Q' (.ref k) s')->Ad W.M A.in1.in1 (call (.ref f) [.str x t]) Q' (λ _ _=>False) s)(h:∀ l s',Sta W G env loc ((l,aB (srt (ltK kp) ss))::(a,bZ W ss)::N) s'->Q (.ref l) s'):Ad W.M A (call (.builtin "sorted") [.ref a] [(Str.ofString "key",.ref f)]) Q E s:=by
 refine call_function_entry_kw kind_sorted plain_sorted entry_sorted (ksk_s1 _ _) ?_;refine Aa (m:=checkCount "sorted" 1 1 _) (Ae ?_);have hA1:Aok 11 A.in1:=hA.in1;refine Aa (S.collectSet (hA1.le (by walk_at "o")) (by walk_at "o") λ vs ss' s1 ht hp S1=>?_);refine Aa (S1.newList (by rw[ht.length,hp.length_eq,Aw];walk_at "o") λ l s2 S2=>?_);refine Aa (AB ?_);refine S2.sortKeyS (kp:=kp) ht (by have:=hA1.units;walk_at "o") (by rw[hp.length_eq];exact h4) (λ x hx y hy=>hinj x (hp.mem_iff.mp hx) y (hp.mem_iff.mp hy)) (λ x t L0 s3 Q' hx S3 k=>hkey x t L0 s3 Q' (hp.mem_iff.mp hx) S3 k) λ s3 S3=>?_;rw[xS (aCP kp) hp]at S3;exact Ae ⟨_,rfl,h l s3 S3⟩
theorem rA{M:Model}{s:Ac}{A:AL}{E:Value->Ac->Prop}{x:Str}{t:Tok}{Q:Value×List Value->Ac->Prop}(h:Q (.builtin "str.rsplit",[.str x t]) s):GetM M A E "rsplit" (.str x t) Q s:=gR (name:="rsplit") (id:="str.rsplit") F.slot_str_rsplit F.type_str_rsplit h
open PySem.Builtin.Str in
theorem Sta.rsplitMax{x y:Str}{k:Int}{t u v:Tok}{Q:Value->Ac->Prop}(S:Sta W G env loc nw s)(hy:(y.length==0)=false)(hk:(decide (k < -(2 ^ 63:Int))||decide (k≥2 ^ 63))=false)(hsz:x.length<=1000000)(hn:(partsBetween x (occurrencesFromRight x y (limitOf x k)) y.length).length<=AC)(h:∀ a s',Sta W G env loc ((a,aB (Txt.rsplitMax x y k))::nw) s'->Q (.ref a) s'):Ad W.M A (call (.builtin "str.rsplit") [.str x t,.str y u,.int k v]) Q E s:=by
 have h':∀(l:List (Str×Tok)) tk,l.map (·.1)=Txt.rsplitMax x y k->Q (.ref s.heap.objs.size) { s with heap:=s.heap.push { cls:=.type "list",data:=.seq (strValues l).toArray },toks:=tk }:=λ l tk e=>
  h _ _ (S.new (c:=aB (Txt.rsplitMax x y k)) rfl ⟨strValues l,by rw[←e];exact eO l,0,rfl⟩ tk)
 cases h1:(decide (x.length<y.length)||decide (strKind x<strKind y))
 ·cases hf:(occurrencesFromRight x y (limitOf x k)).isEmpty
  ·refine call_meets F.slot_str_rsplit (typeIs_str _ _ _) F.entry_str_rsplit (F.args_str_rsplit_3 _ _ _) (meets_str_rsplit_sep_max x y k t u v hk h1 hy hf (by walk_at "osz") hn) ?_;show wants Q E _ { s with toks:=_,heap:=s.heap.push { cls:=.type "list",data:=.seq (strsFrom s.toks (partsBetween x (occurrencesFromRight x y (limitOf x k)) y.length)).toArray } };rw[strsFrom_eq];exact h' (numbered s.toks _) _ ((numbered_texts _ _).trans ((if_neg (ne_true_of_eq_false h1)).trans (if_neg (ne_true_of_eq_false hf))).symm)
  ·exact call_meets F.slot_str_rsplit (typeIs_str _ _ _) F.entry_str_rsplit (F.args_str_rsplit_3 _ _ _) (meets_str_rsplit_max_not_found x y k t u v hk h1 hy hf) (h' [(x,t)] s.toks ((if_neg (ne_true_of_eq_false h1)).trans (if_pos hf)).symm)
 ·exact call_meets F.slot_str_rsplit (typeIs_str _ _ _) F.entry_str_rsplit (F.args_str_rsplit_3 _ _ _) (meets_str_rsplit_max_cannot_occur x y k t u v hk h1) (h' [(x,t)] s.toks (if_pos h1).symm)
theorem Sta.fmtI{n:Nat}{t:Tok}{Q:Value->Ac->Prop}(S:Sta W G env loc nw s)(hn:n<=1000000)(h:∀ t' s',Sta W G env loc nw s'->Q (.str (toString (n:Int):String) t') s'):Ad W.M A (formatField (.int (n:Int) t) Str.empty) Q E s:=by
 refine wpAny_formatField_int ?_ (h _ _ (S.toks _));have h2:((n:Int).natAbs).log2<20\/20<=((n:Int).natAbs).log2:=by walk_at "o"
 rcases h2 with h2 | h2
 ·walk_at "o"
 ·rw[Int.natAbs_natCast]at h2 ⊢
  by_cases h0:n=0
  ·subst h0;decide
  ·have:=(Nat.le_log2 h0).mp h2;walk_at "o"
theorem aEF{W:Wd}{sh R:Lg}{it:Addr}{GR:Gens}:∀(vs:List Value) (own:Lg) (og:Gens) (A:AL) (s:Ac) (Q:List Value->Ac->Prop) (E:Value->Ac->Prop),Aok 7 A->cE W sh it vs own og->St0 W (GR++og) (R++(sh++own)) s->
  (∀ own' og' s',cE W sh it [] own' og'->St0 W (GR++og') (R++(sh++own')) s'->Q vs s')->Ad W.M A (draw (.ref it) vs.length) Q E s:=by
 intro l0
 induction l0 with
 | nil=>
  intro own og A s Q E _ hy S hQ;exact Ae (hQ own og s hy S)
 | cons v vs ih=>
  intro own og A s Q E hA hy S hQ;refine Aa (hy.2 A R GR s _ _ hA S λ own' og' s' S' hy'=>?_);exact Aa (AB (ih own' og' A s' _ E hA hy' S' λ own2 og2 s2 hy2 S2=>Ae (hQ own2 og2 s2 hy2 S2)))
theorem Sta.unpackLi{a:Addr}{xs:List Value}{n:Nat}{Q:List Value->Ac->Prop}(S:Sta W G env loc ((a,aA xs)::N) s)(hA:Aok 9 A)(hn:n=xs.length)(h:∀ s',Sta W G env loc ((a,aA xs)::N) s'->Q xs s'):Ad W.M A (unpackItems (.ref a) n none) Q E s:=by
 subst hn;refine Aa ?_
 ·unfold notIterableAtAll;refine Aa (wpAny_specialOf (S.isList (.head _)).typeIs F.slot_list_iter.lookup ?_);refine Ae ?_;refine Aa (AB (S.iterList (.head _) λ it s' S'=>?_));have hy:cE W [(a,aA xs)] it xs [(it,bG a 0)] []:=LY.yields (dJ (own₀:=[]) (by simp) xs 0 rfl);have S2:St0 W (G++[]) (((env.locals,aL loc)::N)++([(a,aA xs)]++[(it,bG a 0)])) s':=by
   rw[Am];refine(S'.perm (nw':=N++([(a,aA xs)]++[(it,bG a 0)])) ?_).to0;exact(List.Perm.swap ..).trans (AT (l₁:=[_,_]) (l₂:=N))
  refine Aa (AB (aEF xs _ [] _ s' _ _ (hA.le (by walk_at "o")) hy S2 λ own2 og2 s2 hy2 S3=>?_));rw[if_neg (BG _)];refine Aa (AB (hy2.2 _ _ _ _ _ _ (hA.le (by walk_at "o")) S3 λ s3 S4=>?_));rw[if_neg (by decide)];refine Ae (h s3 ((S4.toSta S.eok).perm ?_));exact AT
theorem Sta.unpackTx{elts:List Expr}{x1}{pos:Pos}{a:Addr}{ss:List Str}{Q:Unit->Ac->Prop}(S:Sta W G env loc nw s)(P:Pull (a,aB ss) nw N)(hA:Aok 9 A)(hn:(assignEach elts env).length=ss.length)(hstar:(assignEach elts env).findIdx? (·.1)=none)(h:∀ vs s',TxA vs ss->Sta W G env loc N s'->Ad W.M A (assignInOrder ((assignEach elts env).map (·.2)) vs) Q E s'):Ad W.M A (assign (.Tuple elts x1 pos) env (.ref a)) Q E s:=by
 have S1:=S.perm P.perm;obtain⟨o,ho,q0⟩:=S1.get (.head _);obtain⟨vs,ht,hl⟩:=q0;have S2:=S1.tell (c':=aA vs) .head λ o' ho' _=>by rw[ho]at ho';cases ho';exact hl
 rw[assign_Tuple];refine Aa (AQ ?_);unfold unpack;rw[hstar];refine Aa (AB (S2.unpackLi hA (by rw[hn,ht.length]) λ s' S3=>?_));exact h vs s' ht (S3.sub (AZ _ _))
theorem aBD{value:Expr}{lower upper:Option Expr}{p pos:Pos}{Q:Value->Ac->Prop}(h:Ad W.M A (eval value env) (λ o s₁=>Ad W.M A (evalPart lower env) (λ vl s₂=>Ad W.M A (evalPart upper env) (λ vu s₃=>wC W env Q o vl vu s₃) E s₂) E s₁) E s):Ad W.M A (eval (.Subscript value (.Slice lower upper none p) pos) env) Q E s:=by
 have key:∀{o:Value} {s₁:Ac},Ad W.M A (evalPart lower env) (λ vl s₂=>Ad W.M A (evalPart upper env) (λ vu s₃=>wC W env Q o vl vu s₃) E s₂) E s₁->
   Ad W.M A (eval (.Slice lower upper none p) env) (λ i s₂=>s₂.TypeIs o "list"/\Ad W.M A (getItem o i) Q E s₂) E s₁:=by
  intro o s₁ h₁;refine wpAny_Slice (As h₁ (λ vl s₂ h₂=>As h₂ (λ vu s₃ h₃=>?_) λ _ _ x=>x) λ _ _ x=>x);obtain⟨G,loc,nw,l,xs,h₃⟩:=h₃;obtain⟨lo,hi,S,rfl,m,h₃⟩:=h₃;obtain⟨hz,pl,pu,q⟩:=h₃;rw[evalPart_none];have hl:=S.isList m;refine Ae ⟨(hl.push _).typeIs,wpAny_getItem_list_slice (hl.push _) (Heap.IsSliceOf.new ..) pl pu .none (by simp) ?_ (by simpa using hz)⟩;have S1:=S.grow (h':=s₃.heap.push { cls:=.type "slice",data:=.fields #[vl,vu,.none] }) (λ _ _ e=>Heap.get?_push_of_some _ e) s₃.toks;exact q _ _ (S1.new (o:={ cls:=.type "list",data:=.seq (slicePick xs.toArray lo hi none) }) (c:=aA (slicePick xs.toArray lo hi none).toList) rfl ⟨0,rfl⟩ s₃.toks)
 rw[eval_Subscript];refine Aa (As h (λ o s₁ h₁=>Aa (AB (As (key h₁) (λ i s₂ h₂=>Aa (AQ ?_)) λ _ _ x=>x))) λ _ _ x=>x);refine Aa ?_;rw[getitemInPython_of_ne h₂.1.not_modules];refine Aa (wpAny_specialOf h₂.1 F.slot_list_getitem.lookup ?_);have fin:Ad W.M A (operate [i,o] (getItem o i)) (λ r s₃=>Ad W.M A (letTemporaryGo value o r >>= λ _=>pure r) Q E s₃) E s₂:=
  wpAny_operating (As h₂.2 (λ r s₃ h₃=>Aa (wpAny_letTemporaryGo (Ae h₃))) λ _ _ x=>x)
 first
  | exact Ae (Aa fin)
  | exact Aa (Ae (Aa fin))
  | exact Aa fin
noncomputable def kQ:Expr->Nat×List Expr×Option Str
 | .Starred _ _=>(1,[],none)
 | .Call _ l _ _=>(2,l,none)
 | .UnaryOp _ _ _=>(3,[],none)
 | .BoolOp _ _ _=>(4,[],none)
 | .IfExp _ _ _ _=>(5,[],none)
 | .Compare _ _ _ _=>(6,[],none)
 | .ListComp _ _ _ _=>(7,[],none)
 | .SetComp _ _ _ _=>(8,[],none)
 | .DictComp _ _ _ _ _=>(9,[],none)
 | .Tuple l _ _=>(0,l,none)
 | .Constant c _ _=>(0,[],match c with | .str x=>some x | _=>none)
 | _=>(0,[],none)
noncomputable def dX(e:Expr):Bool:=(kQ e).1 != 1
noncomputable def uZ(e:Expr):Bool:=(kQ e).1 != 2
noncomputable def aAD(e:Expr):Bool:=Bo (kQ e).1 2||Bo 7 (kQ e).1
noncomputable def jN(e:Expr):Bool:=Bo (kQ e).1 6
theorem eK{e:Expr}(h:dX e=true)(rest:List Expr)(env:Env):Ap (e::rest) env=(false,eval e env)::Ap rest env:=by
 cases e with
 | Starred _ _=>cases h
 | _=>rfl
theorem xG{o:Expr}(h:uZ o=true)(attr:Str)(env:Env)(w:Sem Value):attributeBase o attr env w=w:=by
 cases o with
 | Call _ _ _ _=>cases h
 | _=>rfl
theorem aBn{e:Expr}(h:aAD e=true)(env:Env)(whole:Sem Value):PySem.isTrue e env whole=(do let v ← whole;standAt e.pos;holding [v] (truthy v)):=by
 cases e with
 | UnaryOp _ _ _=>cases h
 | BoolOp _ _ _=>cases h
 | IfExp _ _ _ _=>cases h
 | Compare _ _ _ _=>cases h
 | _=>rfl
theorem qB{e:Expr}(h:jN e=true)(t:Option Expr)(l:Nat)(env:Env):swapsWith e t l env=pure false:=by
 cases e with
 | ListComp _ _ _ _=>cases h
 | SetComp _ _ _ _=>cases h
 | DictComp _ _ _ _ _=>cases h
 | _=>rfl
theorem jD{env:Env}{pos:Pos}:∀{l:List Expr},l.all dX=true->((backTo pos (Ap l env)).any λ x=>x.fst)=false
 | [],_=>rfl
 | e::r,h=>by
  rw[BI,AI]at h;rw[eK h.1];show(false||(backTo pos (Ap r env)).any λ x=>x.fst)=false;rw[jD h.2]
  rfl
section
variable (M:Model)(A:AL)(E:Value->Ac->Prop)(env:Env)
noncomputable abbrev KCw(pos:Pos)(args:List Expr)(kws:List Keyword)(Q:Value->Ac->Prop):Value×List Value->Ac->Prop:=λ p s₂=>Ad M A (callWith pos p.1 p.2 (backTo pos (Ap args env)) (backToKw pos (keywordEach kws env))) Q E s₂
noncomputable abbrev KGm(name:Str)(pos:Pos)(args:List Expr)(kws:List Keyword)(Q:Value->Ac->Prop):Value->Ac->Prop:=λ ov s₁=>GetM M A E name ov (KCw M A E env pos args kws Q) s₁
noncomputable abbrev KTr(Q:Bool->Ac->Prop):Value->Ac->Prop:=λ v s₁=>Ad M A (truthy v) Q E s₁
noncomputable abbrev aEQ(op:CmpOp)(v:Value)(Q:Value->Ac->Prop):Value->Ac->Prop:=λ b s₂=>Ad M A (compareOp op v b) Q E s₂
noncomputable abbrev KCpA(op:CmpOp)(r:Expr)(Q:Value->Ac->Prop):Value->Ac->Prop:=λ v s₁=>Ad M A (eval r env) (aEQ M A E op v Q) E s₁
noncomputable abbrev KBiB(op:Operator)(v:Value)(Q:Value->Ac->Prop):Value->Ac->Prop:=λ b s₂=>Ad M A (binaryOp op v b) Q E s₂
noncomputable abbrev KBiA(op:Operator)(r:Expr)(Q:Value->Ac->Prop):Value->Ac->Prop:=λ v s₁=>Ad M A (eval r env) (KBiB M A E op v Q) E s₁
noncomputable abbrev KAt(attr:Str)(Q:Value->Ac->Prop):Value->Ac->Prop:=λ o s₁=>Ad M A (getAttr o attr true) Q E s₁
noncomputable abbrev KNx(Q:Flow->Ac->Prop):Unit->Ac->Prop:=λ _=>Q .next
noncomputable abbrev KNv(Q:Flow->Ac->Prop):Value->Ac->Prop:=λ _=>Q .next
noncomputable abbrev KSt(name:Str)(Q:Flow->Ac->Prop):Value->Ac->Prop:=λ v s₁=>Ad M A (storeName env name v) (KNx Q) E s₁
noncomputable abbrev KSaB(attr:Str)(v:Value)(Q:Flow->Ac->Prop):Value->Ac->Prop:=λ ov s₂=>Ad M A (setAttr ov attr v) (KNx Q) E s₂
noncomputable abbrev KSaA(o:Expr)(attr:Str)(Q:Flow->Ac->Prop):Value->Ac->Prop:=λ v s₁=>Ad M A (eval o env) (KSaB M A E attr v Q) E s₁
noncomputable abbrev KCo(v:Value)(Q:List Value->Ac->Prop):List Value->Ac->Prop:=λ vs s₂=>Q (v::vs) s₂
noncomputable abbrev KAr(pos:Pos)(rest:List Expr)(Q:List Value->Ac->Prop):Value->Ac->Prop:=λ v s₁=>Ad M A (spliced (backTo pos (Ap rest env))) (KCo v Q) E s₁
noncomputable abbrev KCl(f:Value)(Q:Value->Ac->Prop):List Value->Ac->Prop:=λ vs s₁=>Ad M A (call f vs) Q E s₁
noncomputable abbrev KNl(Q:Value->Ac->Prop):List Value->Ac->Prop:=λ vs s₁=>Ad M A (newList vs) Q E s₁
noncomputable abbrev KNt(Q:Value->Ac->Prop):List Value->Ac->Prop:=λ vs s₁=>Ad M A (newTuple vs) Q E s₁
noncomputable abbrev KIf(body orelse:List Stmt)(Q:Flow->Ac->Prop):Bool->Ac->Prop:=λ b s₂=>if b=true then Ad M A (execs body env) Q E s₂ else Ad M A (execs orelse env) Q E s₂
noncomputable abbrev KIx(body orelse:Expr)(Q:Value->Ac->Prop):Bool->Ac->Prop:=λ b s₂=>if b=true then Ad M A (eval body env) Q E s₂ else Ad M A (eval orelse env) Q E s₂
noncomputable abbrev KNo(Q:Bool->Ac->Prop):Bool->Ac->Prop:=λ c s'=>Q (!c) s'
noncomputable abbrev KAn(pos:Pos)(rest:List Expr)(whole:Sem Value)(Q:Bool->Ac->Prop):Bool->Ac->Prop:=λ c s'=>if c=true then Ad M A (PySem.isTrue (.BoolOp .And rest pos) env whole) Q E s' else Q false s'
noncomputable abbrev KOr(pos:Pos)(rest:List Expr)(whole:Sem Value)(Q:Bool->Ac->Prop):Bool->Ac->Prop:=λ c s'=>if c=true then Q true s' else Ad M A (PySem.isTrue (.BoolOp .Or rest pos) env whole) Q E s'
noncomputable abbrev KAuB(x:Str)(Q:Flow->Ac->Prop)(op:Operator)(old:Value):Value->Ac->Prop:=λ v s₂=>Ad M A (inplaceOp op old v) (KSt M A E env x Q) E s₂
noncomputable abbrev KAuA(x:Str)(op:Operator)(value:Expr)(Q:Flow->Ac->Prop):Value->Ac->Prop:=λ old s₁=>Ad M A (eval value env) (KAuB M A E env x Q op old) E s₁
noncomputable abbrev KUn(op:UnaryOp)(Q:Value->Ac->Prop):Value->Ac->Prop:=λ v s₁=>Ad M A (unaryOp op v) Q E s₁
noncomputable abbrev KFw(pos:Pos)(args:List Expr)(Q:Value->Ac->Prop):Value->Ac->Prop:=λ f s₁=>Ad M A (callWith pos f [] (backTo pos (Ap args env)) []) Q E s₁
noncomputable abbrev KSq(l:List Stmt)(n:Nat)(Q:Flow->Ac->Prop):Flow->Ac->Prop:=λ f s₁=>match f with | .next=>Ad M A (execs (l.drop (n+1)) env) Q E s₁ | f=>Q f s₁
noncomputable abbrev HKn(l:List Stmt)(Q K:Flow->Ac->Prop):Prop:=∀ s',Ad M A (execs l env) Q E s'->K .next s'
end
noncomputable abbrev HKr(Q K:Flow->Ac->Prop):Prop:=∀ v s',Q (.ret v) s'->K (.ret v) s'
noncomputable abbrev KSbB(W:Wd)(A:AL)(E:Value->Ac->Prop)(o:Value)(Q:Value->Ac->Prop):Value->Ac->Prop:=λ i s₂=>SubscriptOn W.M A o i Q E s₂
noncomputable abbrev KSbA(W:Wd)(A:AL)(E:Value->Ac->Prop)(env:Env)(slice:Expr)(Q:Value->Ac->Prop):Value->Ac->Prop:=λ o s₁=>Ad W.M A (eval slice env) (KSbB W A E o Q) E s₁
noncomputable abbrev KKc(W:Wd)(A:AL)(E:Value->Ac->Prop)(f:Addr)(Q:Value->Ac->Prop):List Value->Ac->Prop:=λ vs s₁=>W.K.In s₁.heap/\Ad W.M A (call (.ref f) vs) Q E s₁
noncomputable abbrev KKs{W:Wd}(K:Sink W)(A:AL)(E:Value->Ac->Prop)(Q:Value->Ac->Prop):List Value->Ac->Prop:=λ vs s₁=>(∃ N st,W.K.In s₁.heap/\Led W.B (K.L st++N) s₁.heap)/\Ad W.M A (call (.ref K.q) vs) Q E s₁
section
variable {W:Wd}{G:Gens}{env ev:Env}{loc loc':Loc}{nw nw':Lg}{s:Ac}{A:AL}{E:Value->Ac->Prop}{M:Model}
theorem allL{pos:Pos}{env:Env}:∀{l:List Expr},l.all dX=true->(backTo pos (Ap l env)).all (λ x=>!x.1)=true
 | [],_=>rfl
 | e::r,h=>by
  rw[BI,AI]at h;rw[eK h.1];show(!false&&(backTo pos (Ap r env)).all λ x=>!x.1)=true;rw[allL h.2]
  rfl
theorem aB8{pos:Pos}{env:Env}{args:List Expr}{kws:List Keyword}(h:(args.all dX&&kws.isEmpty&&Bo (args.length+1) 30)=true):methodCallForm (args.length+kws.length) (backTo pos (Ap args env)) (backToKw pos (keywordEach kws env))=true:=by
 rw[AI,AI]at h;obtain⟨h,h3⟩:=h;obtain⟨h1,h2⟩:=h
 induction kws with
 | cons k r=>cases h2
 | nil=>
  have h4:=Ar h3;unfold methodCallForm;rw[allL h1];show(true&&true&&decide (args.length+0+0<30))=true;rw[decide_eq_true (show args.length+0+0<30 from h4)]
  rfl
noncomputable def aBb(args:List Expr)(kws:List Keyword)(a p:Pos):Bool:=(args.all dX&&kws.isEmpty&&Bo (args.length+1) 30)&&a.endLine==p.line
theorem sI{o:Expr}{name:Str}{apos pos:Pos}{args:List Expr}{kws:List Keyword}{Q:Value->Ac->Prop}(h:Ad M A (eval o env) (KGm M A E env name pos args kws Q) E s)(hb:uZ o=true)(hf:aBb args kws apos pos=true):Ad M A (eval (.Call (.Attribute o name apos) args kws pos) env) Q E s:=
 jF h (xG hb _ _ _) (aB8 ((AI _ _).mp hf).1) ((AI _ _).mp hf).2
theorem yB{x:Str}{xp:Pos}{v:Value}{name:Str}{apos pos:Pos}{args:List Expr}{kws:List Keyword}{Q:Value->Ac->Prop}(S:Sta W G env loc nw s)(hv:(x,some v)∈loc)(h:GetM M A E name v (KCw M A E env pos args kws Q) s)(hf:aBb args kws apos pos=true):Ad M A (eval (.Call (.Attribute (.Name x xp) name apos) args kws pos) env) Q E s:=
 sI (S.local_ hv h) rfl hf
theorem dI{e:Expr}{whole:Sem Value}{Q:Bool->Ac->Prop}(h:Ad M A whole (KTr M A E Q) E s)(he:aAD e=true):Ad M A (PySem.isTrue e env whole) Q E s:=isTrue_plain h (aBn he _ _)
theorem yA{x:Str}{xp:Pos}{v:Value}{Q:Bool->Ac->Prop}(S:Sta W G env loc nw s)(hv:(x,some v)∈loc)(h:Ad M A (truthy v) Q E s):Ad M A (PySem.isTrue (.Name x xp) env (eval (.Name x xp) env)) Q E s:=dI (S.local_ hv h) rfl
theorem qK{x:Str}{xp:Pos}{v:Value}{op:CmpOp}{r:Expr}{pos:Pos}{whole:Sem Value}{Q:Bool->Ac->Prop}(S:Sta W G env loc nw s)(hv:(x,some v)∈loc)(h:Ad M A (eval r env) (aEQ M A E op v (KTr M A E Q)) E s)(hb:behindInMarks op r=false):Ad M A (PySem.isTrue (.Compare (.Name x xp) [op] [r] pos) env whole) Q E s:=wpAny_isTrue_Compare1 (S.local_ hv h) hb
theorem aDU{x:Str}{xp:Pos}{v:Value}{op:CmpOp}{r:Expr}{pos:Pos}{Q:Value->Ac->Prop}(S:Sta W G env loc nw s)(hv:(x,some v)∈loc)(h:Ad M A (eval r env) (aEQ M A E op v Q) E s)(hb:behindInMarks op r=false):Ad M A (eval (.Compare (.Name x xp) [op] [r] pos) env) Q E s:=wpAny_Compare1 (S.local_ hv h) hb
theorem aDW{x:Str}{xp:Pos}{v:Value}{op:Operator}{r:Expr}{pos:Pos}{Q:Value->Ac->Prop}(S:Sta W G env loc nw s)(hv:(x,some v)∈loc)(h:Ad M A (eval r env) (KBiB M A E op v Q) E s):Ad M A (eval (.BinOp (.Name x xp) op r pos) env) Q E s:=wpAny_BinOp (S.local_ hv h)
theorem aAr{value:Expr}{attr:Str}{pos:Pos}{Q:Value->Ac->Prop}(h:Ad W.M A (eval value env) (KAt W.M A E attr Q) E s)(hb:uZ value=true):Ad W.M A (eval (.Attribute value attr pos) env) Q E s:=oM h (xG hb _ _ _)
theorem gM{x:Str}{xp:Pos}{v:Value}{attr:Str}{pos:Pos}{Q:Value->Ac->Prop}(S:Sta W G env loc nw s)(hv:(x,some v)∈loc)(h:Ad W.M A (getAttr v attr true) Q E s):Ad W.M A (eval (.Attribute (.Name x xp) attr pos) env) Q E s:=aAr (S.local_ hv h) rfl
theorem aDX{x:Str}{xp:Pos}{c:Addr}{v:Value}{attr:Str}{pos:Pos}{Q:Value->Ac->Prop}(S:Sta W G env loc nw s)(hc:ClO env NameKind.cell x c)(hv:(c,aU (some v))∈nw)(h:Ad W.M A (getAttr v attr true) Q E s):Ad W.M A (eval (.Attribute (.Name x xp) attr pos) env) Q E s:=aAr (S.cell hc hv h) rfl
theorem oQ{o:Expr}{attr:Str}{pos':Pos}{value:Expr}{pos:Pos}{Q:Flow->Ac->Prop}(h:Ad W.M A (eval value env) (KSaA W.M A E env o attr Q) E s)(hs:jN value=true):Ad W.M A (exec (.Assign [.Attribute o attr pos'] value pos) env) Q E s:=fE h (qB hs _ _ _)
theorem sJ{name:Str}{npos:Pos}{value:Expr}{pos:Pos}{Q:Flow->Ac->Prop}(h:Ad M A (eval value env) (KSt M A E env name Q) E s)(hs:jN value=true):Ad M A (exec (.Assign [.Name name npos] value pos) env) Q E s:=wpAny_Assign_Name h (qB hs _ _ _)
theorem aAq{prog:Program}{w:World}{e:Expr}{pos:Pos}{Q:Flow->Ac->Prop}(h:Ad (model prog w) A (eval e env) (KNv Q) E s)(hi:interactive env=false)(hs:jN e=true):Ad (model prog w) A (exec (.Expr e pos) env) Q E s:=wpAny_Expr_any h hi (qB hs _ _ _)
theorem uT{e:Expr}{rest:List Expr}{pos:Pos}{Q:List Value->Ac->Prop}(h:Ad M A (eval e env) (KAr M A E env pos rest Q) E s)(he:dX e=true):Ad M A (spliced (backTo pos (Ap (e::rest) env))) Q E s:=args_cons h (eK he _ _)
theorem aBJ{x:Str}{xp:Pos}{v:Value}{rest:List Expr}{pos:Pos}{Q:List Value->Ac->Prop}(S:Sta W G env loc nw s)(hv:(x,some v)∈loc)(h:Ad M A (spliced (backTo pos (Ap rest env))) (KCo v Q) E s):Ad M A (spliced (backTo pos (Ap (.Name x xp::rest) env))) Q E s:=uT (S.local_ hv h) rfl
theorem q_bi{pos:Pos}{id:String}{e:Expr}{rest:List Expr}{Q:Value->Ac->Prop}(h:Ad M A (spliced (backTo pos (Ap (e::rest) env))) (KCl M A E (.builtin id) Q) E s)(he:(e::rest).all dX=true):Ad M A (callWith pos (.builtin id) [] (backTo pos (Ap (e::rest) env)) []) Q E s:=by
 rw[BI,AI]at he;exact PyProof.Rows.callWith_builtin1 h (eK he.1 _ _) (jD he.2)
theorem q_ty{pos:Pos}{T:String}{e:Expr}{rest:List Expr}{Q:Value->Ac->Prop}(h:Ad M A (spliced (backTo pos (Ap (e::rest) env))) (KCl M A E (.type T) Q) E s)(he:(e::rest).all dX=true):Ad M A (callWith pos (.type T) [] (backTo pos (Ap (e::rest) env)) []) Q E s:=by
 rw[BI,AI]at he;exact PyProof.Rows.callWith_type1 h (eK he.1 _ _) (jD he.2)
theorem q_m1{pos:Pos}{id:String}{self:Value}{e:Expr}{rest:List Expr}{Q:Value->Ac->Prop}(h:Ad M A (spliced (backTo pos (Ap (e::rest) env))) (KCo self (KCl M A E (.builtin id) Q)) E s)(he:(e::rest).all dX=true):Ad M A (callWith pos (.builtin id) [self] (backTo pos (Ap (e::rest) env)) (backToKw pos (keywordEach [] env))) Q E s:=by
 rw[BI,AI]at he;exact cR h (eK he.1 _ _) (jD he.2)
theorem q_Wm{pos:Pos}{f:Addr}{self:Value}{e:Expr}{rest:List Expr}{Q:Value->Ac->Prop}(hk:keepIn W.K (.ref f)=true)(h:Ad W.M A (spliced (backTo pos (Ap (e::rest) env))) (KCo self (KKc W A E f Q)) E s)(he:(e::rest).all dX=true):Ad W.M A (callWith pos (.ref f) [self] (backTo pos (Ap (e::rest) env)) (backToKw pos (keywordEach [] env))) Q E s:=by
 rw[BI,AI]at he;exact xB hk h (eK he.1 _ _) (jD he.2)
theorem q_W1{pos:Pos}{f:Addr}{e:Expr}{rest:List Expr}{Q:Value->Ac->Prop}(hk:keepIn W.K (.ref f)=true)(h:Ad W.M A (spliced (backTo pos (Ap (e::rest) env))) (KKc W A E f Q) E s)(he:(e::rest).all dX=true):Ad W.M A (callWith pos (.ref f) [] (backTo pos (Ap (e::rest) env)) []) Q E s:=by
 rw[BI,AI]at he;exact xC hk h (eK he.1 _ _) (jD he.2)
theorem q_K1{K:Sink W}{pos:Pos}{e:Expr}{rest:List Expr}{Q:Value->Ac->Prop}(h:Ad W.M A (spliced (backTo pos (Ap (e::rest) env))) (KKs K A E Q) E s)(he:(e::rest).all dX=true):Ad W.M A (callWith pos (.ref K.q) [] (backTo pos (Ap (e::rest) env)) (backToKw pos (keywordEach [] env))) Q E s:=by
 rw[BI,AI]at he;exact aCI h (eK he.1 _ _) (jD he.2)
theorem q_Kn{K:Sink W}{pos:Pos}{e:Expr}{rest:List Expr}{Q:Value->Ac->Prop}(h:Ad W.M A (spliced (backTo pos (Ap (e::rest) env))) (KKs K A E Q) E s)(he:(e::rest).all dX=true):Ad W.M A (callWith pos (.ref K.q) [] (backTo pos (Ap (e::rest) env)) []) Q E s:=q_K1 h he
theorem fG{test:Expr}{body orelse:List Stmt}{pos:Pos}{Q:Flow->Ac->Prop}(h:Ad M A (PySem.isTrue test env (eval test env)) (KIf M A E env body orelse Q) E s):Ad M A (exec (.If test body orelse pos) env) Q E s:=wpAny_If h
theorem q_IfX{test body orelse:Expr}{pos:Pos}{Q:Value->Ac->Prop}(h:Ad M A (PySem.isTrue test env (eval test env)) (KIx M A E env body orelse Q) E s):Ad M A (eval (.IfExp test body orelse pos) env) Q E s:=IfExp_ h
theorem q_not{x:Expr}{pos:Pos}{whole:Sem Value}{Q:Bool->Ac->Prop}(h:Ad M A (PySem.isTrue x env (eval x env)) (KNo Q) E s):Ad M A (PySem.isTrue (.UnaryOp .Not x pos) env whole) Q E s:=isTrue_not h
theorem q_and{x:Expr}{rest:List Expr}{pos:Pos}{whole:Sem Value}{Q:Bool->Ac->Prop}(h:Ad M A (PySem.isTrue x env (eval x env)) (KAn M A E env pos rest whole Q) E s):Ad M A (PySem.isTrue (.BoolOp .And (x::rest) pos) env whole) Q E s:=isTrue_and h
theorem q_or{x:Expr}{rest:List Expr}{pos:Pos}{whole:Sem Value}{Q:Bool->Ac->Prop}(h:Ad M A (PySem.isTrue x env (eval x env)) (KOr M A E env pos rest whole Q) E s):Ad M A (PySem.isTrue (.BoolOp .Or (x::rest) pos) env whole) Q E s:=isTrue_or h
theorem aDT{elts:List Expr}{pos:Pos}{Q:Value->Ac->Prop}(h:Ad M A (spliced (backTo pos (Ap elts env))) (KNl M A E Q) E s):Ad M A (eval (.List elts pos) env) Q E s:=List_ h
theorem aBK{elts:List Expr}{k:Nat}{pos:Pos}{Q:Value->Ac->Prop}(h:Ad M A (spliced (backTo pos (Ap elts env))) (KNt M A E Q) E s):Ad M A (eval (.Tuple elts k pos) env) Q E s:=Tuple_ h
theorem q_Un{op:UnaryOp}{x:Expr}{pos:Pos}{Q:Value->Ac->Prop}(h:Ad M A (eval x env) (KUn M A E op Q) E s):Ad M A (eval (.UnaryOp op x pos) env) Q E s:=UnaryOp_ h
theorem q_Bin{l:Expr}{op:Operator}{r:Expr}{pos:Pos}{Q:Value->Ac->Prop}(h:Ad M A (eval l env) (KBiA M A E env op r Q) E s):Ad M A (eval (.BinOp l op r pos) env) Q E s:=wpAny_BinOp h
theorem q_Cmp{l:Expr}{op:CmpOp}{r:Expr}{pos:Pos}{Q:Value->Ac->Prop}(h:Ad M A (eval l env) (KCpA M A E env op r Q) E s)(hm:behindInMarks op r=false):Ad M A (eval (.Compare l [op] [r] pos) env) Q E s:=wpAny_Compare1 h hm
theorem sH{l:Expr}{op:CmpOp}{r:Expr}{pos:Pos}{whole:Sem Value}{Q:Bool->Ac->Prop}(h:Ad M A (eval l env) (KCpA M A E env op r (KTr M A E Q)) E s)(hm:behindInMarks op r=false):Ad M A (PySem.isTrue (.Compare l [op] [r] pos) env whole) Q E s:=wpAny_isTrue_Compare1 h hm
theorem q_Aug{x:Str}{pos':Pos}{op:Operator}{value:Expr}{pos:Pos}{Q:Flow->Ac->Prop}(h:Ad M A (loadName env x) (KAuA M A E env x op value Q) E s):Ad M A (exec (.AugAssign (.Name x pos') op value pos) env) Q E s:=wpAny_AugAssign_Name h
theorem aDV{func:Expr}{args:List Expr}{pos:Pos}{Q:Value->Ac->Prop}(h:Ad M A (eval func env) (KFw M A E env pos args Q) E s)(he:eval (.Call func args [] pos) env=(do callWith pos (← eval func env) [] (backTo pos (Ap args env)) (backToKw pos (keywordEach [] env)))):Ad M A (eval (.Call func args [] pos) env) Q E s:=Call_ h he
theorem bQ{l:List Stmt}{n:Nat}{st:Stmt}{Q:Flow->Ac->Prop}(h:l[n]?=some st)(k:Ad M A (exec st env) (KSq M A E env l n Q) E s):Ad M A (execs (l.drop n) env) Q E s:=gU h k
theorem fR{l:List Stmt}{n:Nat}{st:Stmt}{Q:Flow->Ac->Prop}(h:l[n]?=some st)(k:∀ K:Flow->Ac->Prop,HKn M A E env (l.drop (n+1)) Q K->HKr Q K->Ad M A (exec st env) K E s):Ad M A (execs (l.drop n) env) Q E s:=pS h k
theorem aBI{l:List Stmt}{st:Stmt}{Q:Flow->Ac->Prop}(k:∀ K:Flow->Ac->Prop,HKn M A E env l Q K->HKr Q K->Ad M A (exec st env) K E s):Ad M A (execs (st::l) env) Q E s:=tI k
theorem cI{value slice:Expr}{pos:Pos}{Q:Value->Ac->Prop}(h:Ad W.M A (eval value env) (KSbA W A E env slice Q) E s)(he:∀ o i,subscripted slice false o i=operate [o,i] (getItem o i)):Ad W.M A (eval (.Subscript value slice pos) env) Q E s:=oZ h he
theorem eR{e:Expr}{rest:List Expr}{pos:Pos}{Q:List Value->Ac->Prop}(h:Ad M A (eval e env) (KAr M A E env pos rest Q) E s)(he:Ap (e::rest) env=(false,eval e env)::Ap rest env):Ad M A (spliced (backTo pos (Ap (e::rest) env))) Q E s:=args_cons h he
theorem gC{pos:Pos}{f:Addr}{e:Expr}{rest:List Expr}{Q:Value->Ac->Prop}(hk:keepIn W.K (.ref f)=true)(h:Ad W.M A (spliced (backTo pos (Ap (e::rest) env))) (KKc W A E f Q) E s)(he:Ap (e::rest) env=(false,eval e env)::Ap rest env)(hp:(backTo pos (Ap rest env)).any (·.1)=false):Ad W.M A (callWith pos (.ref f) [] (backTo pos (Ap (e::rest) env)) []) Q E s:=xC hk h he hp
theorem oP{pos:Pos}{f:Addr}{self:Value}{e:Expr}{rest:List Expr}{Q:Value->Ac->Prop}(hk:keepIn W.K (.ref f)=true)(h:Ad W.M A (spliced (backTo pos (Ap (e::rest) env))) (KCo self (KKc W A E f Q)) E s)(he:Ap (e::rest) env=(false,eval e env)::Ap rest env)(hp:(backTo pos (Ap rest env)).any (·.1)=false):Ad W.M A (callWith pos (.ref f) [self] (backTo pos (Ap (e::rest) env)) (backToKw pos (keywordEach [] env))) Q E s:=xB hk h he hp
end
theorem pr2{α β:Type}{P:α×β->Prop}(h:∀ a b,P (a,b)):∀ r,P r:=λ r=>h r.1 r.2
theorem pr3{α β γ:Type}{P:α×β×γ->Prop}(h:∀ a b c,P (a,b,c)):∀ r,P r:=λ r=>h r.1 r.2.1 r.2.2
section
variable {W:Wd}{G:Gens}{env:Env}{sh:Lg}{A:AL}{α ρ:Type}{P:α->Value->Prop}{it:Addr}{R:Result->Ac->Prop}{xs:List α}{own:Lg}{og:Gens}{s:Ac}(hA:Aok 7 A)(L:ρ->List α->Loc)(N:ρ->List α->Lg)(H:ρ->List α->Prop)
noncomputable abbrev xI(G:Gens)(xs:List α)(L:ρ->List α->Loc)(N:ρ->List α->Lg)(H:ρ->List α->Prop):List α->Loc->Lg->Gens->Prop:=λ rest loc nw G'=>G'=G/\∃ dn r,xs=dn++rest/\H r dn/\loc=L r dn/\nw=N r dn
include hA in
theorem aA5{elt target:Expr}{gens:List Comprehension}{scope:Scope}{pos p:Pos}{d:Nat}{body:Sem Unit}{acc:Value}(hT:compTurn (.ListComp elt gens scope pos) d (.ref it) acc env=(standAt p >>= λ _=>pyNext (.ref it) >>= λ r=>match r with
   | none=>pure (.done .next)
   | some v=>letOwnedTupleGo target (.ref it) v >>= λ _=>assign target env v >>= λ _=>body >>= λ _=>again (.compLoop (.ListComp elt gens scope pos) d (.ref it) acc env)))(hy:YdR W sh it P xs own og)(r0:ρ)(h0:H r0 [])(S:Sta W (G++og) env (L r0 []) (N r0 []++(sh++own)) s)(fin:∀ r s,H r xs->Sta W G env (L r xs) (N r xs++sh) s->R (.ok .next) s)(turn:∀ x dn rest v tl tg r s (K:Ac->Prop),xs=dn++x::rest->P x v->H r dn->Sta W (G++tg) env (L r dn) (N r dn++(sh++tl)) s->(∀ r' s',H r' (dn++[x])->Sta W (G++tg) env (L r' (dn++[x])) (N r' (dn++[x])++(sh++tl)) s'->K s')->Ad W.M A (assign target env v) (λ _ s₂=>Ad W.M A body (λ _ s₃=>K s₃) (λ _ _=>False) s₂) (λ _ _=>False) s):codeAny W.M A (.compLoop (.ListComp elt gens scope pos) d (.ref it) acc env) R s:=by
 refine aEH hA hT (xI G xs L N H) ?_ ?_ S hy ⟨rfl,[],r0,rfl,h0,rfl,rfl⟩
 ·intro x v rest tl tg loc nw G' s1 hp S1 hJ;obtain⟨rfl,q0⟩:=hJ;obtain⟨dn,r,hq,hH,rfl,rfl⟩:=q0;exact turn x dn rest v tl tg r s1 _ hq hp hH S1 λ r' s' h' S'=>⟨_,_,_,S',rfl,dn++[x],r',by rw[hq,Ah];rfl,h',rfl,rfl⟩
 ·intro loc nw G' s1 S1 hJ;obtain⟨rfl,q0⟩:=hJ;obtain⟨dn,r,hq,hH,rfl,rfl⟩:=q0;rw[Am]at hq;subst hq;exact fin r s1 hH S1
include hA in
theorem rI{elt target:Expr}{gens:List Comprehension}{scope:Scope}{pos p:Pos}{d:Nat}{body:Sem Unit}{acc:Value}{f:α->Value}(hT:compTurn (.ListComp elt gens scope pos) d (.ref it) acc env=(standAt p >>= λ _=>pyNext (.ref it) >>= λ r=>match r with
   | none=>pure (.done .next)
   | some v=>letOwnedTupleGo target (.ref it) v >>= λ _=>assign target env v >>= λ _=>body >>= λ _=>again (.compLoop (.ListComp elt gens scope pos) d (.ref it) acc env)))(hy:YdR W sh it (λ x v=>v=f x) xs own og)(r0:ρ)(h0:H r0 [])(S:Sta W (G++og) env (L r0 []) (N r0 []++(sh++own)) s)(fin:∀ r s,H r xs->Sta W G env (L r xs) (N r xs++sh) s->R (.ok .next) s)(turn:∀ x dn rest  tl tg r s (K:Ac->Prop),xs=dn++x::rest->H r dn->Sta W (G++tg) env (L r dn) (N r dn++(sh++tl)) s->(∀ r' s',H r' (dn++[x])->Sta W (G++tg) env (L r' (dn++[x])) (N r' (dn++[x])++(sh++tl)) s'->K s')->Ad W.M A (assign target env (f x)) (λ _ s₂=>Ad W.M A body (λ _ s₃=>K s₃) (λ _ _=>False) s₂) (λ _ _=>False) s):codeAny W.M A (.compLoop (.ListComp elt gens scope pos) d (.ref it) acc env) R s:=aA5 hA L N H hT hy r0 h0 S fin λ x dn rest v tl tg r s K hq hv=>by subst hv;exact turn x dn rest tl tg r s K hq
include hA in
theorem wZ{elt target:Expr}{gens:List Comprehension}{scope:Scope}{pos p:Pos}{d:Nat}{body:Sem Unit}{acc:Value}{f:α->Tok->Value}(hT:compTurn (.ListComp elt gens scope pos) d (.ref it) acc env=(standAt p >>= λ _=>pyNext (.ref it) >>= λ r=>match r with
   | none=>pure (.done .next)
   | some v=>letOwnedTupleGo target (.ref it) v >>= λ _=>assign target env v >>= λ _=>body >>= λ _=>again (.compLoop (.ListComp elt gens scope pos) d (.ref it) acc env)))(hy:YdR W sh it (λ x v=>∃ t,v=f x t) xs own og)(r0:ρ)(h0:H r0 [])(S:Sta W (G++og) env (L r0 []) (N r0 []++(sh++own)) s)(fin:∀ r s,H r xs->Sta W G env (L r xs) (N r xs++sh) s->R (.ok .next) s)(turn:∀ x dn rest t tl tg r s (K:Ac->Prop),xs=dn++x::rest->H r dn->Sta W (G++tg) env (L r dn) (N r dn++(sh++tl)) s->(∀ r' s',H r' (dn++[x])->Sta W (G++tg) env (L r' (dn++[x])) (N r' (dn++[x])++(sh++tl)) s'->K s')->Ad W.M A (assign target env (f x t)) (λ _ s₂=>Ad W.M A body (λ _ s₃=>K s₃) (λ _ _=>False) s₂) (λ _ _=>False) s):codeAny W.M A (.compLoop (.ListComp elt gens scope pos) d (.ref it) acc env) R s:=aA5 hA L N H hT hy r0 h0 S fin λ x dn rest v tl tg r s K hq hv=>by obtain⟨t,rfl⟩:=hv;exact turn x dn rest t tl tg r s K hq
include hA in
include hA in
include hA in
include hA in
theorem aDf{target:Expr}{body:List Stmt}(hy:YdR W sh it P xs own og)(r0:ρ)(h0:H r0 [])(S:Sta W (G++og) env (L r0 []) (N r0 []++(sh++own)) s)(fin:∀ r s,H r xs->Sta W G env (L r xs) (N r xs++sh) s->R (.ok .next) s)(turn:∀ x dn rest v tl tg r s (K:Flow->Ac->Prop),xs=dn++x::rest->P x v->H r dn->Sta W (G++tg) env (L r dn) (N r dn++(sh++tl)) s->(∀ r' s',H r' (dn++[x])->Sta W (G++tg) env (L r' (dn++[x])) (N r' (dn++[x])++(sh++tl)) s'->K .next s'/\K .cont s')->(∀ s',R (.ok .next) s'->K .brk s')->(∀ v s',R (.ok (.ret v)) s'->K (.ret v) s')->Ad W.M A (assign target env v) (λ _ s₂=>Ad W.M A (execs body env) K (λ _ _=>False) s₂) (λ _ _=>False) s):codeAny W.M A (.forLoop target (.ref it) body [] env) R s:=by
 refine for_y hA (xI G xs L N H) ?_ ?_ S hy ⟨rfl,[],r0,rfl,h0,rfl,rfl⟩
 ·intro x v rest tl tg loc nw G' s1 hp S1 hJ;obtain⟨rfl,q0⟩:=hJ;obtain⟨dn,r,hq,hH,rfl,rfl⟩:=q0;refine turn x dn rest v tl tg r s1 _ hq hp hH S1 (λ r' s' h' S'=>?_) (λ _ h=>h) λ _ _ h=>h;have hx:∃ loc' nw' G'',Sta W (G''++tg) env loc' (nw'++(sh++tl)) s'/\xI G' xs L N H rest loc' nw' G'':=⟨_,_,_,S',rfl,dn++[x],r',by rw[hq,Ah];rfl,h',rfl,rfl⟩
  exact⟨hx,hx⟩
 ·intro loc nw G' s1 S1 hJ;obtain⟨rfl,q0⟩:=hJ;obtain⟨dn,r,hq,hH,rfl,rfl⟩:=q0;rw[Am]at hq;subst hq;exact fin r s1 hH S1
include hA in
theorem kN{target:Expr}{body:List Stmt}{f:α->Value}(hy:YdR W sh it (λ x v=>v=f x) xs own og)(r0:ρ)(h0:H r0 [])(S:Sta W (G++og) env (L r0 []) (N r0 []++(sh++own)) s)(fin:∀ r s,H r xs->Sta W G env (L r xs) (N r xs++sh) s->R (.ok .next) s)(turn:∀ x dn rest  tl tg r s (K:Flow->Ac->Prop),xs=dn++x::rest->H r dn->Sta W (G++tg) env (L r dn) (N r dn++(sh++tl)) s->(∀ r' s',H r' (dn++[x])->Sta W (G++tg) env (L r' (dn++[x])) (N r' (dn++[x])++(sh++tl)) s'->K .next s'/\K .cont s')->(∀ s',R (.ok .next) s'->K .brk s')->(∀ v s',R (.ok (.ret v)) s'->K (.ret v) s')->Ad W.M A (assign target env (f x)) (λ _ s₂=>Ad W.M A (execs body env) K (λ _ _=>False) s₂) (λ _ _=>False) s):codeAny W.M A (.forLoop target (.ref it) body [] env) R s:=aDf hA L N H hy r0 h0 S fin λ x dn rest v tl tg r s K hq hv=>by subst hv;exact turn x dn rest tl tg r s K hq
include hA in
theorem aEt{target:Expr}{body:List Stmt}{f:α->Tok->Value}(hy:YdR W sh it (λ x v=>∃ t,v=f x t) xs own og)(r0:ρ)(h0:H r0 [])(S:Sta W (G++og) env (L r0 []) (N r0 []++(sh++own)) s)(fin:∀ r s,H r xs->Sta W G env (L r xs) (N r xs++sh) s->R (.ok .next) s)(turn:∀ x dn rest t tl tg r s (K:Flow->Ac->Prop),xs=dn++x::rest->H r dn->Sta W (G++tg) env (L r dn) (N r dn++(sh++tl)) s->(∀ r' s',H r' (dn++[x])->Sta W (G++tg) env (L r' (dn++[x])) (N r' (dn++[x])++(sh++tl)) s'->K .next s'/\K .cont s')->(∀ s',R (.ok .next) s'->K .brk s')->(∀ v s',R (.ok (.ret v)) s'->K (.ret v) s')->Ad W.M A (assign target env (f x t)) (λ _ s₂=>Ad W.M A (execs body env) K (λ _ _=>False) s₂) (λ _ _=>False) s):codeAny W.M A (.forLoop target (.ref it) body [] env) R s:=aDf hA L N H hy r0 h0 S fin λ x dn rest v tl tg r s K hq hv=>by obtain⟨t,rfl⟩:=hv;exact turn x dn rest t tl tg r s K hq
end
noncomputable def wF(e:Expr):Option Str:=(kQ e).2.2
theorem iR{α:Type}{x:α}{C:Prop}(h:none=some x):C:=nomatch h
theorem uJ{e:Expr}{y:Str}(h:wF e=some y):∃ k p,e=.Constant (.str y) k p:=by
 cases e with
 | Constant c k p=>
  induction c with
  | str x=>injection h with h;subst h;exact⟨k,p,rfl⟩
  | _=>exact iR h
 | _=>exact iR h
noncomputable def fY:List Expr->Option (List Str)
 | []=>some []
 | e::r=>match wF e,fY r with
  | some x,some l=>some (x::l)
  | _,_=>none
theorem xR{e:Expr}{r:List Expr}:fY (e::r)=(match wF e,fY r with
  | some x,some l=>some (x::l)
  | _,_=>none):=rfl
theorem rV{e:Expr}{r:List Expr}{ss:List Str}(h:fY (e::r)=some ss):∃ y k p l,e=.Constant (.str y) k p/\fY r=some l/\ss=y::l:=by
 rw[xR]at h;cases h1:wF e with
 | none=>rw [h1]at h;exact iR h
 | some y=>
  cases h2:fY r with
  | none=>rw [h1,h2]at h;exact iR h
  | some l=>
   rw[h1,h2]at h;injection h with h
   obtain⟨k,p,hk⟩:=uJ h1;exact⟨y,k,p,l,hk,rfl,h.symm⟩
noncomputable def oI(ss:List Str):Cell:=λ o=>∃ vs,TxA vs ss/\aJ vs o
section
variable {W:Wd}{G:Gens}{env:Env}{loc:Loc}{nw:Lg}{s:Ac}{A:AL}{E:Value->Ac->Prop}{M:Model}
theorem Sta.strArgs{pos:Pos}(es:List Expr):∀{ss:List Str} {s:Ac} {Q:List Value->Ac->Prop},Sta W G env loc nw s->fY es=some ss->(∀ vs s',TxA vs ss->Sta W G env loc nw s'->Q vs s')->Ad M A (spliced (backTo pos (Ap es env))) Q E s:=by
 induction es with
 | nil=>
  intro ss s Q S e h;injection e with e
  subst e;exact args_nil (h [] s .nil S)
 | cons x r ih=>
  intro ss s Q S e h;obtain⟨y,k,p,l,rfl,er,rfl⟩:=rV e;refine uT ?_ rfl;refine Sta.str_ S λ t s' S'=>?_;exact ih S' er λ vs s2 hv S2=>h _ s2 (.cons _ t hv) S2
theorem Sta.txtList{es:List Expr}{ss:List Str}{pos:Pos}{Q:Value->Ac->Prop}(S:Sta W G env loc nw s)(e:fY es=some ss)(hz:ss.length<=AC)(h:∀ a s',Sta W G env loc ((a,aB ss)::nw) s'->Q (.ref a) s'):Ad M A (eval (.List es pos) env) Q E s:=by
 refine List_ (S.strArgs es e λ vs s1 hv S1=>?_);refine S1.newList (by rw[hv.length];exact hz) λ a s2 S2=>h a s2 (S2.tell (c':=aB ss) .head λ o _ ho=>⟨vs,hv,ho⟩)
theorem Sta.txtTup{es:List Expr}{ss:List Str}{k:Nat}{pos:Pos}{Q:Value->Ac->Prop}(S:Sta W G env loc nw s)(e:fY es=some ss)(hz:ss.length<=AC)(h:∀ a s',Sta W G env loc ((a,oI ss)::nw) s'->Q (.ref a) s'):Ad M A (eval (.Tuple es k pos) env) Q E s:=by
 refine Tuple_ (S.strArgs es e λ vs s1 hv S1=>?_);refine S1.newTuple (by rw[hv.length];exact hz) λ a s2 S2=>h a s2 (S2.tell (c':=oI ss) .head λ o _ ho=>⟨vs,hv,ho⟩)
end
section
variable {W:Wd}{G:Gens}{env:Env}{loc:Loc}{nw nw':Lg}{s:Ac}{A:AL}{E:Value->Ac->Prop}
end
theorem TxA.two{vs:List Value}{x y:Str}(h:TxA vs [x,y]):∃ t u,vs=[.str x t,.str y u]:=by
 cases h with | cons _ t h=>
 cases h with | cons _ u h=>
 cases h;exact⟨t,u,rfl⟩
theorem aDd{x y z:Str}{o:Obj}(h:oI [x,y,z] o):∃ t u v,aJ [.str x t,.str y u,.str z v] o:=by
 obtain⟨vs,hv,ho⟩:=h;cases hv with | cons _ t hv=>
 cases hv with | cons _ u hv=>
 cases hv with | cons _ v hv=>
 cases hv;exact⟨t,u,v,ho⟩
theorem lA{α:Type}{xs dn rest rest':List α}{x:α}(h:xs=dn++x::rest)(e:xs=(dn++[x])++rest'):rest=rest':=by
 rw[h,Ah]at e;exact(List.cons.inj (List.append_cancel_left e)).2
theorem aA4{W:Wd}{G:Gens}{env:Env}{sh:Lg}{A:AL}{α ρ:Type}{it:Addr}{R:Result->Ac->Prop}{xs:List α}{own:Lg}{og:Gens}{s:Ac}{kx vx target:Expr}{gens:List Comprehension}{scope:Scope}{pos p:Pos}{d:Nat}{body:Sem Unit}{acc:Value}{f:α->Tok->Value}(hA:Aok 7 A)(L:ρ->List α->Loc)(N:ρ->List α->Lg)(H:ρ->List α->Prop)(hT:compTurn (.DictComp kx vx gens scope pos) d (.ref it) acc env=(standAt p >>= λ _=>pyNext (.ref it) >>= λ r=>match r with
   | none=>pure (.done .next)
   | some v=>letOwnedTupleGo target (.ref it) v >>= λ _=>assign target env v >>= λ _=>body >>= λ _=>again (.compLoop (.DictComp kx vx gens scope pos) d (.ref it) acc env)))(hy:YdR W sh it (λ x v=>∃ t,v=f x t) xs own og)(r0:ρ)(h0:H r0 [])(S:Sta W (G++og) env (L r0 []) (N r0 []++(sh++own)) s)(fin:∀ r s,H r xs->Sta W G env (L r xs) (N r xs++sh) s->R (.ok .next) s)(turn:∀ x dn rest t tl tg r s (K:Ac->Prop),xs=dn++x::rest->H r dn->Sta W (G++tg) env (L r dn) (N r dn++(sh++tl)) s->(∀ r' s',H r' (dn++[x])->Sta W (G++tg) env (L r' (dn++[x])) (N r' (dn++[x])++(sh++tl)) s'->K s')->Ad W.M A (assign target env (f x t)) (λ _ s₂=>Ad W.M A body (λ _ s₃=>K s₃) (λ _ _=>False) s₂) (λ _ _=>False) s):codeAny W.M A (.compLoop (.DictComp kx vx gens scope pos) d (.ref it) acc env) R s:=by
 refine aCw hA hT (xI G xs L N H) ?_ ?_ S hy ⟨rfl,[],r0,rfl,h0,rfl,rfl⟩
 ·intro x v rest tl tg loc nw G' s1 hp S1 hJ;obtain⟨t,rfl⟩:=hp;obtain⟨rfl,q0⟩:=hJ;obtain⟨dn,r,hq,hH,rfl,rfl⟩:=q0;exact turn x dn rest t tl tg r s1 _ hq hH S1 λ r' s' h' S'=>⟨_,_,_,S',rfl,dn++[x],r',by rw[hq,Ah];rfl,h',rfl,rfl⟩
 ·intro loc nw G' s1 S1 hJ;obtain⟨rfl,q0⟩:=hJ;obtain⟨dn,r,hq,hH,rfl,rfl⟩:=q0;rw[Am]at hq;subst hq;exact fin r s1 hH S1
theorem Sta.call_fnV{k:Nat}{Q:Value->Ac->Prop}{f:Addr}{qual:Str}{st:Stmt}{dV kV cdv:Value}{pos:List Value}{kw:List (Str×Value)}{binds:List (Str×Value)}(ev:Addr->Env)(rest:List Str)(S:Sta W G env loc nw s)(hf:Fn W.K f st qual dV kV cdv)(hA:Aok (k+1) A)(hbind:oL s st qual dV kV cdv ⟨pos,kw⟩ binds)(hk:eB (aD st) (binds.map Prod.fst++rest)=true)(h:∀ L A' s',Aok k A'->Sta W G (ev L) (aW binds rest) ((env.locals,aL loc)::nw) s'->
   Ad W.M A' (execs (aE st) (ev L)) (λ fl s''=>Q (match fl with | .ret v=>v | _=>.none) s'') (λ _ _=>False) s')(he:∀ L,ev L=envOf qual (aD st) L f cdv:=by intro _;rfl):Ad W.M A (call (.ref f) pos kw) Q E s:=by
 obtain rfl:ev=λ L=>envOf qual (aD st) L f cdv:=funext he;exact S.call_fn rest hf hA.room hbind hk λ L s' S'=>h L _ s' hA.deeper S'
noncomputable def fL(b:Bool):Nat->List Nat:=if b then fA else fC
noncomputable def qF(ls:List Bool)(c:Nat):List Nat:=ls.foldl (λ acc b=>acc.flatMap (fL b)) [c]
theorem rZ(ls:List Bool)(b:Bool)(c:Nat):qF (ls++[b]) c=(qF ls c).flatMap (fL b):=by simp[qF,List.foldl_append]
noncomputable def mR(ls:List Bool)(x:Str):Str:=dR (qF ls) x
theorem xV(x:Str):mR [] x=x:=qR x
theorem uM(ls:List Bool)(b:Bool)(x:Str):mR (ls++[b]) x=dR (fL b) (mR ls x):=by
 unfold mR;rw[pK]
 congr 1
 funext c
 exact rZ ls b c
structure Rc where
 x:Str
 o:List Bool
 n:Nat
noncomputable def aDO(cs:List Bool)(r:Rc):Str:=mR (r.o++cs.drop r.n) r.x
noncomputable def lC(cs:List Bool)(rs:List Rc):Str:=cat (rs.map (aDO cs))
theorem jI(cs:List Bool)(a b:List Rc):lC cs (a++b)=lC cs a++lC cs b:=by simp[lC,bS]
theorem aAk(cs:List Bool)(x:Str)(o:List Bool):aDO cs ⟨x,o,cs.length⟩=mR o x:=by
 unfold aDO;simp
theorem xU(b:Bool)(x:Str):mR [b] x=dR (fL b) x:=by
 have:=uM [] b x;rw[xV]at this;exact this
theorem rc1c(cs:List Bool)(x:Str):lC cs [⟨x,[false],cs.length⟩]=dS x:=by
 unfold lC;simp only[An,AF,aAk,xU]
 exact Str.append_empty _
noncomputable def fl0(held:List Str):List Str:=if(cat held).length=0 then[]else[dS (cat held)]
theorem aCz(held:List Str):cat (fl0 held)=dS (cat held):=by
 unfold fl0
 split
 ·rename_i h;have:cat held=Str.empty:=Str.ext' (Bz.mp (by rw[←Str.len_list];exact h));rw[this];rfl
 ·exact Str.append_empty _
theorem tJ(a b:Str):dS (a++b)=dS a++dS b:=sR _ _ _
noncomputable def wtx(σ held:List Str):Str:=cat σ++dS (cat held)
theorem zF(σ held ms:List Str):wtx (σ++(fl0 held++ms)) []=wtx σ held++cat ms:=by
 unfold wtx;rw[bS,bS,aCz];show _++dS Str.empty=_;have:dS Str.empty=Str.empty:=rfl;rw[this,Str.append_empty,Str.append_assoc]
theorem zG(σ held:List Str)(x:Str):wtx σ (held++[x])=wtx σ held++dS x:=by
 unfold wtx;rw[bS,tJ];have:cat [x]=x:=Str.append_empty _;rw[this,Str.append_assoc]
noncomputable def Inv(cs:List Bool)(σ held:List Str)(rs:List Rc):Prop:=wtx σ held=lC cs rs/\∀ r∈rs,r.n<=cs.length/\r.o.length<=1
theorem Inv.mark{cs:List Bool}{σ held:List Str}{rs:List Rc}(h:Inv cs σ held rs)(ms:List Str)(new:List Rc)(h1:lC cs new=cat ms)(h2:∀ r∈new,r.n<=cs.length/\r.o.length<=1):Inv cs (σ++(fl0 held++ms)) [] (rs++new):=by
 refine⟨?_,λ r hr=>?_⟩
 ·rw[zF,h.1,jI,h1]
 ·rcases AD.mp hr with hr | hr
  ·exact h.2 r hr
  ·exact h2 r hr
theorem Inv.data{cs:List Bool}{σ held:List Str}{rs:List Rc}(h:Inv cs σ held rs)(x:Str):Inv cs σ (held++[x]) (rs++[⟨x,[false],cs.length⟩]):=by
 refine⟨?_,λ r hr=>?_⟩
 ·rw[zG,h.1,jI,rc1c]
 ·rcases AD.mp hr with hr | hr
  ·exact h.2 r hr
  ·rw[AA.mp hr];exact⟨AN _,AN _⟩
inductive Dc
 | nil
 | txt (x:Str) (r:Dc)
 | node (k:Nat) (d r:Dc)
noncomputable def opn:Nat->Str
 | 0=>"<t>"
 | 1=>"<v k=\""
 | 2=>"<!--"
 | _=>"<?p "
open PySem.Builtin.Str in
theorem xQ{x y:Str}{i:Nat}(h:subAt x y i=true)(j:Nat)(hj:j<y.length):x.cps.toList[i+j]?=y.cps.toList[j]?:=by
 unfold subAt at h;have e:(x.cps.extract i (i+y.length)).toList=y.cps.toList:=by rw[eq_of_beq h]
 rw[←e];simp only[Array.toList_extract,List.extract_eq_drop_take]
 rw[List.getElem?_take,List.getElem?_drop];rw[if_pos (by walk_at "o")]
open PySem.Builtin.Str in
theorem xP{x y:Str}{A R:List Nat}(hx:x.cps.toList=A++(y.cps.toList++R)):subAt x y A.length=true:=by
 unfold subAt;rw[beq_iff_eq];apply Array.toList_inj.mp;simp only[Array.toList_extract,List.extract_eq_drop_take]
 rw[hx,List.drop_left,Str.len_list];simp
open PySem.Builtin.Str in
theorem aCl{x y:Str}{A R:List Nat}(hx:x.cps.toList=A++(y.cps.toList++R))(h:∀ i<A.length,∃ j,j<y.length/\(A++(y.cps.toList++R))[i+j]?≠y.cps.toList[j]?):occurrences x y 0 x.length 1=[A.length]:=by
 have hl:A.length+y.length<=x.length:=by
  rw[Str.len_list x,hx,Str.len_list y];simp
 have hat:StrLaws.At x y x.length A.length:=⟨hl,xP hx⟩
 rcases StrLaws.occ_head x y 1 (AN 1)with⟨h0,hn⟩ | ⟨i,r,he,ha,hn⟩
 ·exact absurd hat (hn _)
 ·have hi:i=A.length:=by
   rcases Nat.lt_trichotomy i A.length with hlt | e | hgt
   ·obtain⟨j,hj,hne⟩:=h i hlt;have:=xQ ha.2 j hj;rw[hx]at this;exact absurd this hne
   ·exact e
   ·exact absurd hat (hn _ hgt)
  have hle:=StrLaws.occ_length_le x y 0 x.length 1;rw[he]at hle ⊢
  induction r with
  | nil=>rw [hi]
  | cons a b=>simp at hle
open PySem.Builtin.Str in
theorem yU{x y:Str}{A R m:List Nat}{c:Nat}(hx:x.cps.toList=A++(y.cps.toList++R))(hy:y.cps.toList=m++[c])(hm:c∉m)(hA:∀ i,m.length<=i->A[i]?≠some c):occurrences x y 0 x.length 1=[A.length]:=by
 have hyl:y.length=m.length+1:=by rw[Str.len_list,hy];simp
 refine aCl hx λ i hi=>⟨m.length,by walk_at "o",?_⟩;rw[hy,List.getElem?_append_right (AN _),Nat.sub_self];show _≠some c
 by_cases h:i+m.length<A.length
 ·rw[List.getElem?_append_left h];exact hA _ (by walk_at "o")
 ·rw[List.getElem?_append_right (by walk_at "o"),Ah,List.getElem?_append_left (by walk_at "o")];intro e;exact hm (Ao e)
theorem aAX{l:List Nat}{c:Nat}(h:c∉l)(i:Nat):l[i]?≠some c:=λ e=>h (Ao e)
noncomputable def sS(l:List Nat):Str:=⟨l.toArray⟩
noncomputable def begins(l:Str)(k:Nat):Bool:=decide (l.cps.toList.take (opn k).length=(opn k).cps.toList)
theorem aAd{x:Str}{A B:List Nat}{j:Int}(hx:x.cps.toList=A++B)(hj:j=(A.length:Int)):Txt.slice x none (some j)=sS A:=by
 have h:=StrLaws.sliceText_to (x:=x) (j:=j) (by rw[hx,Ag];walk_at "o");have e:Txt.slice x none (some j)=StrLaws.sliceText x none (some j):=rfl;rw[e,h,hx,hj];simp[sS]
theorem aAe{x:Str}{A B:List Nat}{j:Int}(hx:x.cps.toList=A++B)(hj:j=(A.length:Int)):Txt.slice x (some j) none=sS B:=by
 have h:=StrLaws.sliceText_from (x:=x) (i:=j) (by rw[hx,Ag];walk_at "o");have e:Txt.slice x (some j) none=StrLaws.sliceText x (some j) none:=rfl;have e2:(((A++B).length:Int)-(A.length:Int)).toNat=B.length:=by rw[Ag];walk_at "o"
 rw[e,h,hx,hj,e2];simp[sS]
theorem qH(x:Str):sS x.cps.toList=x:=Str.ext' rfl
end Mine
section
open PySem.Builtin.Str (occurrences)
namespace Mine
theorem yT{x:Str}{A B:List Nat}{c:Nat}(hx:x.cps.toList=A++c::B)(hA:c∉A):occurrences x ⟨#[c]⟩ 0 x.length 1=[A.length]:=
 yU (m:=[]) (c:=c) (R:=B) (by rw[hx];simp) rfl (by simp) λ i _=>aAX hA i
theorem eX(a b:Str):(a++b).cps.toList=a.cps.toList++b.cps.toList:=by simp[Str.cps_append]
theorem jZ:∀ l:List Str,(cat l).cps.toList=l.flatMap λ y=>y.cps.toList
 | []=>rfl
 | x::r=>by show(x++cat r).cps.toList=_;rw[eX,jZ r];rfl
end Mine
end
namespace Mine
theorem Sta.getM_addL{a:Addr}{ss:List Str}{Q:Value×List Value->Ac->Prop}(S:Sta W G env loc nw s)(m:(a,bZ W ss)∈nw)(h:Q (.builtin "set.add",[.ref a]) s):GetM W.M A E "add" (.ref a) Q s:=by
 obtain⟨o,ho,q⟩:=S.get m;obtain⟨hex,q⟩:=q;exact cT F.plainAttrs_set F.slot_set_add F.type_set_add ⟨o,ho,hex.1⟩ (λ b e=>by cases e;exact⟨o,ho,hex.2.1⟩) h
theorem Sta.setAddL{a:Addr}{ss:List Str}{x:Str}{t:Tok}{Q:Value->Ac->Prop}(S:Sta W G env loc nw s)(U:Upd a (bZ W ss) (bZ W (ss++[x])) nw nw')(hx:x∉ss)(hn:ss.length+1<Bt)(h:∀ s',Sta W G env loc nw' s'->Q .none s'):Ad W.M A (call (.builtin "set.add") [.ref a,.str x t]) Q E s:=by
 obtain⟨o,ho,q⟩:=S.get U.mem;obtain⟨hex,q⟩:=q;refine wpAny_call_entry F.slot_set_add ⟨o,ho,hex.1⟩ F.entry_set_add ?_ (F.args_set_add_2 _ _);unfold Builtin.«set.add» Builtin.Frozenset.oneOther;simp only[List.isEmpty_nil,bind_assoc]
 refine Aa (Ae ?_);refine Aa (Ae ?_);refine Aa (S.addT U hx hn λ s' S'=>?_);exact Ae ⟨_,rfl,h s' S'⟩
theorem tF{M:Model}{x:Str}{t:Tok}{Q:Value×List Value->Ac->Prop}(h:Q (.builtin "str.strip",[.str x t]) s):GetM M A E "strip" (.str x t) Q s:=gR (name:="strip") (id:="str.strip") F.slot_str_strip F.type_str_strip h
theorem Sta.strip{x:Str}{t:Tok}{Q:Value->Ac->Prop}(S:Sta W G env loc nw s)(hz:x.length<=16777216)(h:∀ t s',Sta W G env loc nw s'->Q (.str (Txt.strip x) t) s'):Ad W.M A (call (.builtin "str.strip") [.str x t]) Q E s:=
 SC.strip (λ t' k=>h t' _ (S.toks _)) hz
section
variable {M:Model}
theorem oX{f:Value}{x y:Sem Value}{rest:List (Bool×Sem Value)}{b:Bool}{Q:Args->Ac->Prop}(h:Ad M A (spliced ((true,x)::(b,y)::rest)) (λ vs s'=>Q ⟨vs,[]⟩ s') E s):Ad M A (evalArgs f true ((true,x)::(b,y)::rest) []) Q E s:=by
 unfold evalArgs;show Ad M A (spliced ((true,x)::(b,y)::rest) >>= _) Q E s;refine Aa (As h (λ vs s' h'=>?_) λ _ _ x=>x);refine AB ?_;exact Aa (Ae (Aa (Ae (Ae h'))))
theorem Sta.grown{h':Heap}(S:Sta W G env loc nw s)(k:∀ b o,s.heap.get? b=some o->h'.get? b=some o):Sta W G env loc nw { s with heap:=h' }:=⟨S.ok,S.eok,S.led.grow k,S.bare,S.os,S.gens,S.gnd⟩
theorem Sta.starT{a:Addr}{vs:List Value}{Q:List Value->Ac->Prop}(S:Sta W G env loc nw s)(m:(a,aJ vs)∈nw)(hz:vs.length<=AC)(h:∀ s',Sta W G env loc nw s'->Q vs s'):StarOf W.M A E (.ref a) Q s:=by
 obtain⟨o,ho,n,rfl⟩:=S.get m;have hT:s.TypeIs (.ref a) "tuple":=⟨_,ho,rfl⟩
 unfold StarOf notIterableAtAll;refine Aa (wpAny_specialOf hT PySem.F.slot_tuple_iter.lookup (Ae ⟨rfl,?_⟩));exact wpAny_collect_seq a (.inr rfl) ho rfl rfl (λ h' hk=>h _ (S.grown hk)) (by rw[AK];exact hz)
theorem zC{o:Expr}{attr:Str}{pos:Pos}{v:Value}{Q:Unit->Ac->Prop}(h:Ad M A (eval o env) (λ ov s1=>Ad M A (setAttr ov attr v) Q E s1) E s):Ad M A (assign (.Attribute o attr pos) env v) Q E s:=by
 rw[assign_Attribute];refine Aa (AB (As h (λ ov s1 h1=>?_) λ _ _ x=>x));exact Aa (AQ (Aa (AB (As h1 (λ _ _ h2=>wpAny_release h2) λ _ _ x=>x))))
theorem Sta.code_fnC{R:Result->Ac->Prop}{f:Addr}{qual:Str}{st:Stmt}{dV kV cdv:Value}{pos:List Value}{kw:List (Str×Value)}{binds:List (Str×Value)}(bl:List (Str×Value))(rest:List Str)(cv:List (Option Value))(S:Sta W G env loc nw s)(hf:Fn W.K f st qual dV kV cdv)(hroom:A.depth<Bj)(hbind:oL s st qual dV kV cdv ⟨pos,kw⟩ binds)(hbl:aBZ (aD st) binds=bl)(hcv:(aO (aD st).names).map (λ n=>binds.lookup n)=cv)(hk:qX (aD st) binds (bl.map Prod.fst++rest)=true)(h:∀ L cs s',ClA (envOfC qual (aD st) L f cdv) (aO (aD st).names) cs->Sta W G (envOfC qual (aD st) L f cdv) (aW bl rest) (dA cv cs++((env.locals,aL loc)::nw)) s'->
   Ad W.M (A.deeper (envOfC qual (aD st) L f cdv)) (execs (aE st) (envOfC qual (aD st) L f cdv)) (λ fl s''=>R (.ok (.ret (match fl with | .ret v=>v | _=>.none))) s'') (λ _ _=>False) s'):codeAny W.M A (.call (.ref f) ⟨pos,kw⟩) R s:=by
 refine yG hf.at_ ?_;intro name doc pm ct oc an od osl ho;refine nO hk ?_;clear hk;intro hkind hco hgen hbk hks hnd hbnd hcnd hcs;have hks2:((aW bl rest).map Prod.fst)=bl.map Prod.fst++rest:=by
  simp[aW,AW,Function.comp_def]
 have hcf:cellsFrom (s.heap.objs.size+1) (aD st).names []=((aO (aD st).names).zip (Bk (s.heap.objs.size+1) (aO (aD st).names).length)).reverse++[]:=jX _ _ _;have hlk:∀ i (hi:i<(aO (aD st).names).length),(cellsFrom (s.heap.objs.size+1) (aD st).names []).lookup (aO (aD st).names)[i]=some (s.heap.objs.size+1+i):=λ i hi=>by
  rw[hcf];exact gO _ _ hcnd i hi
 refine(codeAny_call_function (fd:=fnOf name qual (dY st) (aE st) (aD st) dV kV doc pm an cdv ct) hroom (S.kin _ _ ho) rfl hco hgen rfl (codeRec_of S.kin hf.code) (hbind _ _ _ _ _ _ _ _ _ ?_));refine wpAny_newFunctionEnv_cells hkind (λ x hx=>?_) λ env' he s' X=>?_
 ·rcases hbk x hx with q | q
  ·exact .inl q
  ·refine .inr ⟨q,?_⟩;have:x.1∈aO (aD st).names:=by
    refine Aj.mpr ⟨(x.1,.cell),List.mem_filter.mpr ⟨mem_of_lookup q,rfl⟩,rfl⟩
   obtain⟨i,q0⟩:=BQ this;obtain⟨hi,e⟩:=q0;rw[←e,hlk i hi];rfl
 ·subst he;have hkp:=X.toInCall.keep;obtain⟨h₁,tk,e⟩:=X.toInCall.same;refine⟨S.nolimit.keeps hkp,codeAny_func ?_⟩;have hlen:cv.length=(aO (aD st).names).length:=by rw[←hcv];simp
  have D:Led W.B (dA cv (Bk (s.heap.objs.size+1) cv.length)++((s.heap.objs.size,aL (aW bl rest))::(env.locals,aL loc)::nw)) s'.heap:=by
   have D0:Led W.B ((s.heap.objs.size,aL (aW bl rest))::(env.locals,aL loc)::nw) s'.heap:=by
    obtain⟨o,es,ep,ho',hd,hsk,hf⟩:=X.toInCall.ns;refine S.led.cons_new hkp S.led.size_ne S.led.size_new ho' ⟨by rw[hks2];exact hnd,es,ep,hd,hsk,λ x=>?_⟩;have hnd2:(bl.map Prod.fst).Nodup:=hnd.sublist (A7 _ _);rw[hf x,tV _ _ _ _ hbnd,Option.or_none,fS _ _ hnd2];show(aBZ (aD st) binds).lookup x=_;rw[hbl];have hrev:∀(l:List (Str×Value)),(l.map Prod.fst).Nodup->l.lookup x=l.reverse.lookup x:=by
     intro l hl
     induction l with
     | nil=>rfl
     | cons p r ih=>
      rw[An,AP]at hl;rw[List.reverse_cons,List.lookup_append,←ih hl.2,Bb,Bb]
      by_cases q:x=p.1
      ·subst q;have:r.lookup p.1=none:=by
        rw[Bn];intro z hz;rw[bne_iff_ne];exact λ e=>hl.1 (Aj.mpr ⟨z,hz,e.symm⟩)
       simp[this]
      ·rw[beq_eq_false_iff_ne.mpr q];simp
    exact hrev bl hnd2
   have hcell:∀ i (hi:i<cv.length),s'.heap.IsCell (s.heap.objs.size+1+i) cv[i]:=λ i hi=>by
    have hi':i<(aO (aD st).names).length:=by rw[←hlen];exact hi
    have:=X.cell _ _ (hlk i hi');have hkc:(aD st).names.lookup (aO (aD st).names)[i]=some .cell:=(hcs _ (Bd hi')).1.1;have e2:bindC (newEnv (aD st) s.heap.objs.size AS (cellsFrom (s.heap.objs.size+1) (aD st).names []) (qual++".<locals>.") (some f) cdv none builtinsNs).kindOf binds (λ _=>none) (aO (aD st).names)[i]=cv[i]:=by
     rw[tW _ _ _ _ hbnd (by show(aD st).names.lookup _≠_;rw[hkc];decide),Option.or_none];simp only[←hcv,List.getElem_map]
    rw[←e2];exact this
   refine⟨D0.keep,λ p hp=>?_,?_⟩
   ·rcases AD.mp hp with hp | hp
    ·obtain⟨i,q0⟩:=lL _ _ _ hp;obtain⟨hi,rfl⟩:=q0;obtain⟨o,ho2,hd2⟩:=hcell i hi;refine⟨?_,o,ho2,hd2⟩;cases q:W.B.get? (s.heap.objs.size+1+i)with
     | none=>rfl
     | some o2=>exact absurd (Heap.lt_size (S.led.keep _ _ q)) (λ hh=>by
       walk_at "o")
    ·exact D0.own p hp
   ·rw[Aq,Be,jY];refine⟨List.nodup_range',D0.nodup,λ a ha b hb e=>?_⟩;subst e;have hge:s.heap.objs.size+1<=a:=by
     have:=List.mem_range'_1.mp ha;exact this.1
    rcases Ax.mp hb with q | hb
    ·exact absurd q (Nat.ne_of_gt hge)
    ·obtain⟨p,hp,q⟩:=Aj.mp hb;obtain⟨o,ho2,_⟩:=(S.led.own p hp).2;have hl:p.1<s.heap.objs.size:=Heap.lt_size ho2;exact absurd q (BA (Nat.lt_trans hl hge))
  have S':Sta W G (envOfC qual (aD st) s.heap.objs.size f cdv) (aW bl rest) (dA cv (Bk (s.heap.objs.size+1) cv.length)++((env.locals,aL loc)::nw)) s':=by
   subst e;refine⟨S.ok,by rw[hks2];exact⟨hkind,rfl,rfl,λ x hx=>(hks x hx).1,λ x hx=>(hks x hx).2,hnd⟩,D.perm AM,S.bare,S.os,S.gens,S.gnd⟩
  refine As (h _ _ _ ?_ S') (λ fl s'' q=>q) (λ _ _ q=>q.elim);rw[hlen];refine oD _ _ λ i hi=>⟨(hcs _ (Bd hi)).1.1,hlk i hi,(hcs _ (Bd hi)).1.2,(hcs _ (Bd hi)).2⟩
theorem aCN{o:Expr}{name:Str}{apos pos:Pos}{args:List Expr}{kws:List Keyword}{Q:Value->Ac->Prop}(h:Ad M A (eval o env) (λ ov s₁=>Ad M A (getAttr ov name true) (λ f s₂=>Ad M A (callWith pos f [] (backTo pos (Ap args env)) (backToKw pos (keywordEach kws env))) Q E s₂) E s₁) E s)(hbase:attributeBase o name env (eval o env)=eval o env)(hform:methodCallForm (args.length+kws.length) (backTo pos (Ap args env)) (backToKw pos (keywordEach kws env))=false):Ad M A (eval (.Call (.Attribute o name apos) args kws pos) env) Q E s:=by
 rw[arm_eval_Call,hbase];refine Aa (As h (λ ov s₁ h₁=>Aa (AQ ?_)) λ _ _ e=>e);unfold methodCall;rw[hform];refine Aa (AB ?_);refine Aa (As h₁ (λ f s₂ h₂=>Ae ?_) λ _ _ e=>e);exact Aa (Ae h₂)
theorem wB{pos p:Pos}{q f:Addr}{self:Value}{e e2:Expr}{Q:Value->Ac->Prop}(hf:fnIn W.K f=true)(he2:Ap [e2] env=[(false,eval e2 env)])(h:Ad W.M A (eval e env) (λ v s1=>StarOf W.M A E v (λ here s2=>Ad W.M A (spliced (backTo pos (Ap [e2] env))) (λ vs s3=>MethP W.K q f self s3.heap/\Ad W.M A (call (.ref q) (here++vs)) Q E s3) E s2) s1) E s):Ad W.M A (callWith pos (.ref q) [] (backTo pos (Ap [.Starred e p,e2] env)) []) Q E s:=by
 have h2:=items_star (Q:=λ vs s3=>MethP W.K q f self s3.heap/\Ad W.M A (call (.ref q) vs) Q E s3) (p:=p) (rest:=[e2]) h rfl;have e1:Ap [.Starred e p,e2] env=[(true,eval e env),(false,eval e2 env)]:=by
  rw[←he2];rfl
 rw[e1]at h2 ⊢;exact ks_call (P:=λ h=>MethP W.K q f self h) (first:=[]) rfl (keeps_M hf) (oX h2)
end
end Mine
section
open PySem
namespace Mine
noncomputable abbrev reCode:Array Nat:=#[14,4,0,3,4294967295,6,0,24,9,1,4294967295,13,4,8,14,0,1,16,58,24,9,1,4294967295,13,4,8,14,0,1,6,5,1]
noncomputable def iY:Option Sre.Outcome->Bool
 | some .matched=>true
 | some .failed=>true
 | _=>false
noncomputable def ReF(k:Nat)(m:Sre.M):Prop:=∃ n,n<=k/\iY (Sre.M.runFor n m).outcome=true
theorem ReF.le{k l:Nat}{m:Sre.M}(h:ReF k m)(e:k<=l):ReF l m:=
 h.elim λ n h=>⟨n,Al h.1 e,h.2⟩
theorem ReF.step{k:Nat}{m m':Sre.M}(hm:m.outcome=none)(e:m.step=m')(h:ReF k m'):ReF (k+1) m:=by
 obtain⟨n,h1,h2⟩:=h;refine⟨n+1,Bc h1,?_⟩;show iY (if m.outcome.isSome then m else Sre.M.runFor n m.step).outcome=true;rw[if_neg (by rw[hm];decide),e];exact h2
noncomputable abbrev reFr(q:Nat×Nat×Int):Sre.Frame:={ wait:=.giveBack,pc:=q.1,pos:=q.2.1,outermost:=true,count:=q.2.2,kept:={ marks:=#[] } }
noncomputable abbrev reM(t:Array Nat)(h:Nat)(sn:Sre.Seen)(pc pos:Nat)(F:List (Nat×Nat×Int))(w:Nat)(a:Option Bool):Sre.M:=
 { code:=reCode,text:=t,lim:=t.size,start:=0,pc,pos,handed:=h,marks:=#[],frames:=F.map reFr,weight:=w,answer:=a,seen:=sn }
variable {t:Array Nat}{h pc pos w p p2:Nat}{c c2:Int}{sn:Sre.Seen}{F:List (Nat×Nat×Int)}
theorem re_end{b:Bool}:ReF 1 (reM t h sn pc pos [] w (some b)):=⟨1,AN _,by cases b<;>rfl⟩
theorem aBG:ReF 2 (reM t h sn pc pos [(7,p,c)] w (some true)):=.step rfl rfl re_end
theorem wM:ReF 3 (reM t h sn pc pos [(19,p2,c2),(7,p,c)] w (some true)):=.step rfl rfl aBG
theorem aDN(i:Nat)(hi:i=11\/i=23)(c:Nat)(sn:Sre.Seen):∃ b sn',Sre.accepts reCode i c sn=.ok (b,sn'):=by
 rcases hi with rfl | rfl
 all_goals
  by_cases b:(Sre.isWordUni c != false)=true
  ·exact⟨true,_,(show _=(if(Sre.isWordUni c != false)=true then _ else _)from rfl).trans (if_pos b)⟩
  ·exact⟨false,_,(show _=(if(Sre.isWordUni c != false)=true then _ else _)from rfl).trans ((if_neg b).trans rfl)⟩
theorem aAh(i:Nat)(hi:i=11\/i=23):∀(n p f:Nat) (sn:Sre.Seen),∃ k sn',Sre.run reCode t i n p f sn=.ok (k,sn')/\k<=f+n:=by
 intro n
 induction n with
 | zero=>exact λ p f sn=>⟨f,sn,rfl,AN _⟩
 | succ n ih=>
  intro p f sn;obtain⟨b,sn1,e⟩:=aDN i hi (t.getD p 0) sn;have e2:Sre.run reCode t i (n+1) p f sn=(Sre.accepts reCode i (t.getD p 0) sn >>= λ x=>if x.1=true then Sre.run reCode t i n (p+1) (f+1) x.2 else pure (f,x.2)):=rfl;rw[e]at e2
  induction b with
  | false=>exact⟨f,sn1,e2,AU _ _⟩
  | true=>
   obtain⟨k,sn',h1,h2⟩:=ih (p+1) (f+1) sn1;exact⟨k,sn',e2.trans h1,by omega⟩
theorem aBH{K:Nat}(k0:∀ sn,ReF K (reM t h sn 7 pos [] 0 (some false)))(k1:∀ sn p2 (c2:Int),c2<=t.size->ReF K (reM t p2 sn 17 p2 [(7,p2,c2)] 1 none)):ReF (K+1) (reM t h sn 7 pos [] 0 none):=by
 refine .step rfl rfl ?_;show ReF K (if((1:Nat):Int)>(t.size:Int)-(pos:Int)then _ else _)
 by_cases hr:((1:Nat):Int)>(t.size:Int)-(pos:Int)
 ·rw[if_pos hr];exact k0 _
 ·rw[if_neg hr];obtain⟨k,sn',e,hk⟩:=aAh (t:=t) 11 (.inl rfl) (min 4294967295 ((t.size:Int)-(pos:Int)).toNat) pos 0 ((sn.add 24).add 13);show ReF K (match Sre.run reCode t 11 (min 4294967295 ((t.size:Int)-(pos:Int)).toNat) pos 0 ((sn.add 24).add 13)with | .error why=>_ | .ok (n,seen)=>_);rw[e];show ReF K (if k<1 then _ else _)
  by_cases h1:k<1
  ·rw[if_pos h1];exact k0 _
  ·rw[if_neg h1];exact k1 _ _ _ (show(k:Int)<=t.size by omega)
theorem aAi{K:Nat}(k0:∀ sn,ReF K (reM t h sn 19 pos [(7,p,c)] 1 (some false)))(k1:∀ sn p2 (c2:Int),c2<=t.size->ReF K (reM t p2 sn 29 p2 [(19,p2,c2),(7,p,c)] 2 none)):ReF (K+1) (reM t h sn 19 pos [(7,p,c)] 1 none):=by
 refine .step rfl rfl ?_;show ReF K (if((1:Nat):Int)>(t.size:Int)-(pos:Int)then _ else _)
 by_cases hr:((1:Nat):Int)>(t.size:Int)-(pos:Int)
 ·rw[if_pos hr];exact k0 _
 ·rw[if_neg hr];obtain⟨k,sn',e,hk⟩:=aAh (t:=t) 23 (.inr rfl) (min 4294967295 ((t.size:Int)-(pos:Int)).toNat) pos 0 ((sn.add 24).add 13);show ReF K (match Sre.run reCode t 23 (min 4294967295 ((t.size:Int)-(pos:Int)).toNat) pos 0 ((sn.add 24).add 13)with | .error why=>_ | .ok (n,seen)=>_);rw[e];show ReF K (if k<1 then _ else _)
  by_cases h1:k<1
  ·rw[if_pos h1];exact k0 _
  ·rw[if_neg h1];exact k1 _ _ _ (show(k:Int)<=t.size by omega)
theorem re_F{K:Nat}(kd:∀ h sn pos pc,ReF K (reM t h sn pc pos [(7,p,c)] 1 (some false))):∀(n:Nat) (c2:Int),c2<=n->∀ h sn pos p2,ReF (K+2*n+6) (reM t h sn 29 pos [(19,p2,c2),(7,p,c)] 2 none):=by
 intro n
 induction n with
 | zero=>
  intro c2 hc h sn pos p2;refine .step rfl rfl ?_;show ReF (K+5) (if(pos==t.size||(pos+1==t.size&&t.getD pos 0==10))=true then _ else _)
  split
  ·exact(ReF.step rfl rfl wM).le (by omega)
  ·refine ReF.step rfl rfl ?_;show ReF (K+4) (if(c2-1<((1:Nat):Int))then _ else _);rw[if_pos (by omega)];exact(kd _ _ _ _).le (by omega)
 | succ n ih=>
  intro c2 hc h sn pos p2;refine .step rfl rfl ?_;show ReF (K+2*(n+1)+5) (if(pos==t.size||(pos+1==t.size&&t.getD pos 0==10))=true then _ else _)
  split
  ·exact(ReF.step rfl rfl wM).le (by omega)
  ·refine ReF.step rfl rfl ?_;show ReF (K+2*n+6) (if(c2-1<((1:Nat):Int))then _ else _)
   split
   ·exact(kd _ _ _ _).le (by omega)
   ·exact ih (c2-1) (by omega) _ _ _ _
theorem re_E{K:Nat}(kd:∀ h sn pos pc,ReF K (reM t h sn pc pos [(7,p,c)] 1 (some false)))(sn:Sre.Seen)(pos h:Nat):ReF (K+2*t.size+8) (reM t h sn 17 pos [(7,p,c)] 1 none):=by
 refine .step rfl rfl ?_;show ReF (K+2*t.size+7) (if pos≥t.size then _ else match Sre.accepts reCode 17 (t.getD pos 0) (sn.add 16)with | .error why=>_ | .ok (false,seen)=>_ | .ok (true,seen)=>_)
 split
 ·exact(kd _ _ _ _).le (by omega)
 ·have e:Sre.accepts reCode 17 (t.getD pos 0) (sn.add 16)=.ok (t.getD pos 0==58,sn.add 16):=rfl;cases hb:t.getD pos 0==58 with
  | false=>
   rw[hb]at e;rw[e];exact(kd _ _ _ _).le (by omega)
  | true=>
   rw[hb]at e;rw[e];exact aAi (K:=K+2*t.size+6) (λ sn=>(kd _ _ _ _).le (by omega)) λ sn p2 c2 hc=>re_F kd t.size c2 hc _ _ _ _
theorem re_D:∀(n:Nat) (c:Int),c<=n->∀ h sn pos pc p,ReF (n*(2*t.size+10)+2) (reM t h sn pc pos [(7,p,c)] 1 (some false)):=by
 intro n
 induction n with
 | zero=>
  intro c hc h sn pos pc p;refine ReF.step rfl rfl ?_;show ReF _ (if(c-1<((1:Nat):Int))then _ else _);rw[if_pos (by omega)];exact re_end.le (by omega)
 | succ n ih=>
  intro c hc h sn pos pc p;refine ReF.step rfl rfl ?_;show ReF _ (if(c-1<((1:Nat):Int))then _ else _)
  split
  ·exact re_end.le (by omega)
  ·exact(re_E (λ h sn pos pc=>ih (c-1) (by omega) h sn pos pc _) _ _ _).le (by have:=Nat.add_mul n 1 (2*t.size+10);omega)
theorem aAj(t:Array Nat):ReF (t.size*(2*t.size+10)+2*t.size+13) (Sre.forMatch reCode t 0 0 t.size false false):=by
 show ReF _ (if(3 != 0&&decide (0<=t.size)&&decide (t.size-0<3))=true then _ else _)
 split
 ·exact re_end.le (by omega)
 ·refine ReF.step (k:=t.size*(2*t.size+10)+2*t.size+12) rfl (m':=reM t 0 _ 7 0 [] 0 none) rfl ?_;refine aBH (K:=t.size*(2*t.size+10)+2*t.size+11) (λ sn=>re_end.le (by omega)) λ sn p2 c2 hc=>?_;exact(re_E (λ h sn pos pc=>re_D t.size c2 hc h sn pos pc _) _ _ _).le (by omega)
end Mine
end
namespace Mine
noncomputable def xJ:Cell:=λ o=>o.cls=.type "re.Match"/\∃ vs,o.data=.fields vs
theorem aAG:typeLookup (.type "re.Match") "__bool__"=pure none:=by rw[typeLookup_type,Bi];kernel_rfl
theorem aAF:typeLookup (.type "re.Match") "__len__"=pure none:=by rw[typeLookup_type,Bi];kernel_rfl
theorem Sta.truthyM{a:Addr}{Q:Bool->Ac->Prop}(S:Sta W G env loc nw s)(m:(a,xJ)∈nw)(h:Q true s):Ad W.M A (truthy (.ref a)) Q E s:=by
 obtain⟨o,ho,hc,_⟩:=S.get m;have hT:s.TypeIs (.ref a) "re.Match":=⟨o,ho,hc⟩
 unfold truthy;refine Aa (wpAny_callSpecial?_none (name:=Str.ofString "__bool__") hT aAG ?_);refine Aa (wpAny_specialOf (name:=Str.ofString "__len__") hT aAF ?_);exact Ae h
theorem tQ{p:Addr}{v:Value}{vs:Array Value}(hx:s.heap.get? p=some { cls:=.type "re.Pattern",data:=.fields vs })(A':AL)(Q':Unit->Ac->Prop)(E':Value->Ac->Prop)(hq:Q' () s):Ad W.M A' (checkBoundCall "re.Pattern.match" ⟨[.ref p,v],[]⟩) Q' E' s:=by
 obtain⟨h,g,d,t,os⟩:=s;have hT:(⟨h,g,d,t,os⟩:Ac).TypeIs (.ref p) "re.Pattern":=⟨_,hx,rfl⟩
 have f1:Manifest.signature? "re.Pattern.match"=some ⟨.keywords,"Pattern.match","match",.self,[⟨"string",.posOrKw,true⟩,⟨"pos",.posOrKw,false⟩,⟨"endpos",.posOrKw,false⟩]⟩:=by kernel_rfl
 have f2:builtinKind "re.Pattern.match"=some .method:=by kernel_rfl
 have f3:isSubtype (.type "re.Pattern") (.type "module")=pure false:=by rw[isSubtype_type];kernel_rfl
 have f4:Manifest.varargsMethods.contains "re.Pattern.match"=false:=by decide +kernel
 unfold checkBoundCall;refine Aa (wpAny_isInstance hT f3 ?_);refine Aa ?_;unfold isType
 repeat lk
 exact hq
section
variable {M:Model}
theorem cM:∀{n:Nat} {m:Sre.M},m.outcome.isSome=true->Sre.M.runFor n m=m
 | 0,_,_=>rfl
 | _+1,_,h=>if_pos h
theorem dU:∀(a b:Nat) (m:Sre.M),Sre.M.runFor (a+b) m=Sre.M.runFor b (Sre.M.runFor a m):=by
 intro a
 induction a with
 | zero=>intro b m;rw[By];rfl
 | succ a ih=>
  intro b m
  by_cases e:m.outcome.isSome=true
  ·rw[cM e,cM e,cM e]
  ·have h:∀ k,Sre.M.runFor (k+1) m=Sre.M.runFor k m.step:=λ k=>if_neg e;rw[show a+1+b=(a+b)+1 from by walk_at "o",h,h,ih]
theorem hY{o:Option Sre.Outcome}(h:iY o=true):o.isSome=true:=by
 induction o with
 | none=>cases h
 | some o=>rfl
noncomputable def reN:Nat:=2 ^ 64
noncomputable def reOk:Option Sre.Outcome->Bool
 | some .matched=>true
 | _=>false
noncomputable def looks(x:Str):Bool:=reOk (Sre.M.runFor reN (Sre.forMatch reCode x.cps 0 0 x.cps.size false false)).outcome
theorem rH{a b:Nat}{m:Sre.M}(h:iY (Sre.M.runFor a m).outcome=true)(e:a<=b):Sre.M.runFor b m=Sre.M.runFor a m:=by
 rw[show b=a+(b-a)from by walk_at "o",dU,cM (hY h)]
theorem sG{n:Nat}(h:n<=16777216):n*(2*n+10)+2*n+13<=reN:=by
 have h3:=Nat.mul_le_mul h (show 2*n+10<=2*16777216+10 by walk_at "o");exact Al (A9 (AV h3 (Bm 2 h)) 13) (by decide)
theorem aAI{x:Str}{n:Nat}(hx:x.cps.size<=16777216)(h:iY (Sre.M.runFor n (Sre.forMatch reCode x.cps 0 0 x.cps.size false false)).outcome=true):looks x=reOk (Sre.M.runFor n (Sre.forMatch reCode x.cps 0 0 x.cps.size false false)).outcome:=by
 obtain⟨m,h1,h2⟩:=aAj x.cps;have e1:=rH h2 (Al h1 (sG hx));unfold looks;rw[e1];rcases Nat.le_total m n with e | e
 ·rw[rH h2 e]
 ·rw[rH h e]
theorem uC{Q:Sre.M->Ac->Prop}:∀(turns:Nat) (m:Sre.M),ReF (4*turns) m->(0<turns)->(∀ m' n,m'=Sre.M.runFor n m->iY m'.outcome=true->Q m' s)->Ad M A (Builtin.Re.reDrive turns m) Q E s:=by
 intro turns
 induction turns with
 | zero=>intro m _ h;cases h
 | succ t ih=>
  intro m hf _ k;obtain⟨n,h1,h2⟩:=hf;show Ad M A (if(Sre.M.runFor 4 m).outcome.isSome=true then pure (Sre.M.runFor 4 m)else rule "sre.turn" >>= λ _=>Builtin.Re.reDrive t (Sre.M.runFor 4 m)) Q E s
  by_cases e:(Sre.M.runFor 4 m).outcome.isSome=true
  ·rw[if_pos e];refine Ae (k _ 4 rfl ?_)
   by_cases e4:n<=4
   ·rw[show 4=n+(4-n)from by walk_at "o",dU,cM (hY h2)];exact h2
   ·rw[show n=4+(n-4)from by walk_at "o",dU,cM e]at h2;exact h2
  ·rw[if_neg e];have e4:¬n<=4:=λ e4=>e (by rw[show 4=n+(4-n)from by walk_at "o",dU,cM (hY h2)];exact hY h2);have e5:n=4+(n-4):=by walk_at "o"
   refine Aa (wpAny_rule (ih _ ⟨n-4,by walk_at "o",by rw[e5,dU]at h2;exact h2⟩ (by walk_at "o") λ m' j hj hd=>k m' (4+j) (by rw[hj,dU]) hd))
theorem zH{α:Type}{f:α->Bool}{g:α->String}{Q:PUnit->Ac->Prop}(k:Q PUnit.unit s):∀ l:List α,Ad M A (forIn l PUnit.unit λ i __s=>if f i=true then do
    rule (g i)
    pure (ForInStep.yield PUnit.unit)
   else pure (ForInStep.yield PUnit.unit)) Q E s:=by
 intro l
 induction l with
 | nil=>exact Ae k
 | cons a l ih=>
  rw[BD];refine Aa ?_
  by_cases e:f a=true
  ·rw[if_pos e];exact Aa (wpAny_rule (Ae ih))
  ·rw[if_neg e];exact Ae ih
theorem zI{m:Sre.M}{k:Nat}{Q:Option Sre.M->Ac->Prop}(hf:ReF k m)(hk:k<=2 ^ 64)(h:∀ m' n,m'=Sre.M.runFor n m->iY m'.outcome=true->Q (match m'.outcome with | some .matched=>some m' | _=>none) s):Ad M A (Builtin.Re.reRunToEnd m) Q E s:=by
 unfold Builtin.Re.reRunToEnd;refine Aa (uC _ _ (hf.le (by walk_at "o")) (by decide) λ m' n e hd=>?_);refine Aa (zH ?_ _);have:=h m' n e hd;cases ho:m'.outcome with
 | none=>rw [ho]at hd;cases hd
 | some o=>
  rw[ho]at this hd
  induction o with
  | matched=>exact Ae this
  | failed=>exact Ae this
  | stuck w=>cases hd
end
section
variable {M:Model}
structure IsPat (h:Heap) (p c:Addr) (y:Str) (t0 t1:Tok):Prop where
 p:h.get? p=some { cls:=.type "re.Pattern",data:=.fields #[.str y t0,.int 32 t1,.int 0 0,.none,.none,.ref c,.int 0 0] }
 c:∃ cls,h.get? c=some { cls:=cls,data:=.seq (reCode.map λ n=>.int (Int.ofNat n) 0) 0 }
theorem uD{α:Type}{c:Bool}{x y:Sem α}{Q:α->Ac->Prop}(e:c=false)(h:Ad M A y Q E s):Ad M A (if c=true then x else y) Q E s:=by rw[if_neg (by rw[e];decide)];exact h
theorem rQ{p c:Addr}{y x:Str}{t0 t1 t:Tok}{Q:Builtin.Re.ReTarget->Ac->Prop}(P:IsPat s.heap p c y t0 t1)(hz:x.length<=16777216)(h:Q { pattern:=.ref p,string:=.str x t,code:=reCode,text:=x.cps,kind:=0,groups:=0,pos:=0,lim:=x.cps.size } s):Ad M A (Builtin.Re.reTarget "re.Pattern.match" "match" ⟨[.ref p,.str x t],[]⟩) Q E s:=by
 have e:Builtin.Re.reNamed "re.Pattern.match" "match" ["string","pos","endpos"] 1 [.str x t] []=pure [some (.str x t),none,none]:=rfl;unfold Builtin.Re.reTarget;dsimp only
 rw[e];refine Aa (Ae ?_);refine Aa (Ae ?_);refine Aa (Ae ?_);refine Aa (wpAny_fieldsOf P.p rfl ?_);have e2:Builtin.Re.reTextOf (.str x t)=pure (x.cps,0):=rfl;rw[e2];refine Aa (Ae ?_);refine uD rfl (uD rfl ?_);refine Aa (Ae ?_);obtain⟨cls,hc⟩:=P.c;refine Aa ?_;unfold Builtin.Re.reRawItems;refine Aa (wpAny_seqItems hc rfl (Ae (Ae ?_)));have e3:min (Int.toNat 0) x.cps.size=0:=Nat.zero_min _;have e4:min (Int.toNat (2 ^ 63-1)) x.cps.size=x.cps.size:=Nat.min_eq_right (Al hz (by decide));dsimp only
 rw[e3,e4,show Array.map (λ x=>x.toNat) (Array.map Builtin.Re.reRawOf ((some (Array.map (λ n=>Value.int (Int.ofNat n) 0) reCode)).getD #[]))=reCode by kernel_rfl];exact h
theorem Sta.looks{q p c:Addr}{y x:Str}{t0 t1 t:Tok}{Q:Value->Ac->Prop}(S:Sta W G env loc nw s)(hq:W.K.lookup q=some { cls:=.type "builtin_function_or_method",data:=.fields #[.builtin "re.Pattern.match",.ref p] })(P:IsPat s.heap p c y t0 t1)(hz:x.length<=16777216)(h1:looks x=true->∀ a s',Sta W G env loc ((a,xJ)::nw) s'->Q (.ref a) s')(h2:looks x=false->∀ s',Sta W G env loc nw s'->Q .none s'):Ad W.M A (call (.ref q) [.str x t]) Q E s:=by
 have pl:plainId "re.Pattern.match"=true:=by decide +kernel
 have en:entryFor table "re.Pattern.match"=some Builtin.«re.Pattern.match»:=by kernel_rfl
 refine wpAny_call (jC (W:=W) pl en (S.kin _ _ hq) (λ A' Q' E' hq=>tQ P.p A' Q' E' hq) ?_);unfold Builtin.«re.Pattern.match»
 refine Aa (rQ P hz ?_);unfold Builtin.Re.reAnswer;refine Aa (zI (aAj x.cps) (sG hz) λ m' n e hd=>?_);have hl:=aAI (x:=x) (n:=n) hz (by rw[←e];exact hd);rw[←e]at hl;cases ho:m'.outcome with
 | none=>rw [ho]at hd;cases hd
 | some o=>
  rw[ho]at hd hl
  induction o with
  | matched=>
   refine Aa ?_;unfold Builtin.Re.reNewMatch;refine uD rfl ?_;refine Aa (S.newTuple (vs:=[rawInt m'.start,rawInt m'.handed]) (by rw[Aw];exact Ar rfl) λ b s2 S2=>?_);exact wpAny_newObj_type (Ae (h1 hl _ _ ((S2.new (c:=xJ) rfl ⟨rfl,_,rfl⟩ s2.toks).sub (.cons_cons _ (AZ _ _))))) (Ar rfl)
  | failed=>exact Ae (h2 hl _ S)
  | stuck w=>cases hd
end
open PySem.Builtin.Str
theorem pI(s sub:Str)(limit:Nat):∀(l:List Nat) (st:Array Nat×Nat),limit<=st.1.size->(forIn l st (StrLaws.occRBody s sub limit)).run=st
 | [],st,h=>rfl
 | a::l,st,h=>by
  rw[BD];unfold StrLaws.occRBody;rw[if_neg λ hc=>absurd hc.1.1 (by walk_at "o")];exact pI s sub limit l st h
theorem pH{x:Str}{c:Nat}{rest:List Nat}:∀(l:List Nat),(∀ k∈l,k<=x.length/\x.cps.toList[x.length-k]?≠some c)->(forIn (l++rest) ((#[]:Array Nat),x.length) (StrLaws.occRBody x ⟨#[c]⟩ 1)).run=(forIn rest ((#[]:Array Nat),x.length) (StrLaws.occRBody x ⟨#[c]⟩ 1)).run
 | [],_=>rfl
 | a::l,h=>by
  rw[Av,BD];have ha:=h a (.head _);have e:StrLaws.occRBody x ⟨#[c]⟩ 1 a ((#[]:Array Nat),x.length)=pure (ForInStep.yield ((#[]:Array Nat),x.length)):=by
   unfold StrLaws.occRBody;rw[if_neg]
   rintro⟨⟨_,h2⟩,h3⟩
   exact ha.2 ((StrLaws.subAt_one x c _).mp ⟨h2,h3⟩)
  rw[e];exact pH l λ k hk=>h k (.tail _ hk)
theorem yF{x:Str}{A B:List Nat}{c:Nat}(hx:x.cps.toList=A++c::B)(hB:c∉B):occurrencesFromRight x ⟨#[c]⟩ 1=[A.length]:=by
 have hl:x.length=A.length+(B.length+1):=by rw[Str.len_list,hx];simp
 rw[StrLaws.occR_eq];have hr:Bk 0 (x.length+1)=Bk 0 (B.length+1)++((B.length+1)::Bk (B.length+2) A.length):=by
  rw[hl,show A.length+(B.length+1)+1=(B.length+1)+(A.length+1)from by walk_at "o",←List.range'_append_1];rw[By]
  rfl
 rw[hr,pH]
 ·rw[BD];have hi:x.length-(B.length+1)=A.length:=by walk_at "o"
  have hg:x.cps.toList[A.length]?=some c:=by rw[hx];simp
  have e:StrLaws.occRBody x ⟨#[c]⟩ 1 (B.length+1) ((#[]:Array Nat),x.length)=pure (ForInStep.yield (#[A.length],A.length)):=by
   unfold StrLaws.occRBody;rw[hi];have h1:=(StrLaws.subAt_one x c A.length).mpr hg;rw[if_pos ⟨⟨Nat.zero_lt_one,h1.1⟩,h1.2⟩]
   rfl
  rw[e];show(forIn (Bk (B.length+2) A.length) ((#[A.length]:Array Nat),A.length) (StrLaws.occRBody x ⟨#[c]⟩ 1)).run.1.toList.reverse=_;rw[pI _ _ _ _ _ (AN 1)]
  rfl
 ·intro k hk;have hk:=List.mem_range'_1.mp hk;refine⟨by walk_at "o",?_⟩;rw[hx];intro he
  by_cases h0:k=0
  ·subst h0;rw[List.getElem?_eq_none (by simp;walk_at "o")]at he;cases he
  ·rw[List.getElem?_append_right (by walk_at "o"),show x.length-k-A.length=(B.length-k)+1 from by walk_at "o",List.getElem?_cons_succ]at he;exact hB (Ao he)
theorem wT(x:Str):1<=Builtin.Str.strKind x:=by
 unfold Builtin.Str.strKind
 split
 ·exact AN _
 ·split<;>decide
theorem pG{x:Str}{A B:List Nat}{c:Nat}(hx:x.cps.toList=A++c::B):partsBetween x [A.length] 1=[sS A,sS B]:=by
 have hl:x.length=A.length+(B.length+1):=by rw[Str.len_list,hx];simp
 show[strSub x 0 A.length,strSub x (A.length+1) x.length]=_;have e1:strSub x 0 A.length=sS A:=Str.ext' (by rw[StrLaws.strSub_toList,hx];simp[sS]);have e2:strSub x (A.length+1) x.length=sS B:=Str.ext' (by
  rw[StrLaws.strSub_toList,hx,hl];rw[show A.length+(B.length+1)-(A.length+1)=B.length from by walk_at "o"];simp[sS,List.drop_append,List.drop_eq_nil_of_le])
 rw[e1,e2]
theorem iE{x:Str}{A B:List Nat}{c:Nat}(hk:Builtin.Str.strKind ⟨#[c]⟩=1)(hx:x.cps.toList=A++c::B)(hA:c∉A):Txt.splitMax x ⟨#[c]⟩ 1=[sS A,sS B]:=by
 have hl:x.length=A.length+(B.length+1):=by rw[Str.len_list,hx];simp
 unfold Txt.splitMax;have h1:(decide (x.length<(⟨#[c]⟩:Str).length)||decide (Builtin.Str.strKind x<Builtin.Str.strKind ⟨#[c]⟩))=false:=by
  rw[hk,decide_eq_false (show ¬x.length<(⟨#[c]⟩:Str).length from by show ¬x.length<1;walk_at "o"),decide_eq_false (by have:=wT x;walk_at "o")]
  rfl
 rw[h1,show limitOf x 1=1 from rfl,yT hx hA];exact pG hx
theorem mV{x:Str}{A B:List Nat}{c:Nat}(hk:Builtin.Str.strKind ⟨#[c]⟩=1)(hx:x.cps.toList=A++c::B)(hB:c∉B):Txt.rsplitMax x ⟨#[c]⟩ 1=[sS A,sS B]:=by
 have hl:x.length=A.length+(B.length+1):=by rw[Str.len_list,hx];simp
 unfold Txt.rsplitMax;have h1:(decide (x.length<(⟨#[c]⟩:Str).length)||decide (Builtin.Str.strKind x<Builtin.Str.strKind ⟨#[c]⟩))=false:=by
  rw[hk,decide_eq_false (show ¬x.length<(⟨#[c]⟩:Str).length from by show ¬x.length<1;walk_at "o"),decide_eq_false (by have:=wT x;walk_at "o")]
  rfl
 rw[h1,show limitOf x 1=1 from rfl,yF hx hB];exact pG hx
local macro_rules | `(tactic| walk_at $s:str) => Mine.goAt Mine.tab10 s
theorem fM{x y z u:Str}{t:Tok}{c:Nat}{rs:List (Nat×List Nat)}{k1 k2 k3:Nat}{p1 p2 p3 p4 p5 p6 p7 p8 p9 p10 p11:Pos}{Q:Flow->Ac->Prop}(S':Sta W G env [("text",some (.str u t))] nw s)(hu:u=dR (ch rs) x)(hx:x.length<=txL)(hy:y=⟨#[c]⟩)(hyz:(y==z)=false)(h6:rs.all (λ p=>Bo p.2.length 6)=true)(hr:rs.all (λ p=>!p.2.contains c)=true)(hz:Bo z.length 6=true)(hl:(p6.endLine==p9.line)=true)(k:∀ t' s',Sta W G env [("text",some (.str (dR (ch (rs++[(c,z.cps.toList)])) x) t'))] nw s'->Q .next s'):Ad W.M A (exec (.If (.Compare (.Constant (.str y) k1 p1) [.In] [.Name "text" p2] p3) [.Assign [.Name "text" p4] (.Call (.Attribute (.Name "text" p5) "replace" p6) [.Constant (.str y) k2 p7,.Constant (.str z) k3 p8] [] p9) p10] [] p11) env) Q E s:=by
 have e:dR (r1 c z.cps.toList) u=dR (ch (rs++[(c,z.cps.toList)])) x:=hu▸aBY hr x;rw[←e]at k;clear e;refine fG ?_;refine wpAny_isTrue_Compare1 ?_ rfl;refine S'.strT ?_;clear S';intro s' S' hk;refine Sta.local_ S' (by walk_at "mem") ?_;refine Sta.inStr hy (λ hc=>?_) (λ hc=>?_)
 ·refine wpAny_truthy_bool ?_;refine dK ?_;refine AH ?_;refine wpAny_Assign_Name ?_ rfl;refine jF ?_ rfl rfl hl;refine Sta.local_ S' (by walk_at "mem") ?_;refine oV ?_;refine cR ?_ rfl rfl;refine eR ?_ rfl;refine S'.strT ?_;clear S';intro s2 S' hk2;refine eR ?_ rfl;refine S'.strT ?_;clear S';intro s3 S' hk3;refine args_nil ?_;have n1:s'.toks≠0:=λ e=>Nat.succ_ne_zero _ (hk.symm.trans e);have n2:s2.toks≠0:=λ e=>Nat.succ_ne_zero _ (hk2.symm.trans e);refine S'.replace_ hy n1 n2 (λ e=>Nat.succ_ne_self s'.toks (hk2.symm.trans e.symm)) hyz (hu▸Al (nE _ 6 (λ c=>wA c rs h6) x) (Bm 6 hx)) (Ar hz) ?_;clear S';intro t' s4 S';refine S'.store .head ?_;intro s5 S5;exact AR (k _ _ S5)
 ·refine wpAny_truthy_bool ?_;refine cP ?_;refine AR (k t _ ?_);rw[yJ hc];exact S'
theorem wY{x:Str}{t:Tok}{Q:Value->Ac->Prop}(I:IsC W)(S:Sta W G env loc nw s)(hA:Aok 2 A)(hx:x.length<=txL)(k:∀ t' s',Sta W G env loc nw s'->Q (.str (dS x) t') s'):Ad W.M A (call (.ref 154) [.str x t]) Q E s:=by
 refine S.call_fn (binds:=[("text",.str x t)]) [] I.f_escC hA.room (λ _ _ _ _ _=>BindsTo.of_eq (by kernel_rfl)) (by kernel_rfl) ?_;intro L s' S';refine AH ?_;refine wpAny_Try_except ?_;refine AH ?_;refine fM (c:=38) (rs:=[]) S' (qR x).symm hx (by kernel_rfl) (by decide +kernel) (by kernel_rfl) (by kernel_rfl) (by kernel_rfl) (by kernel_rfl) ?_;clear S';intro t1 s' S';refine AH ?_;refine fM (c:=60) S' rfl hx (by kernel_rfl) (by decide +kernel) (by kernel_rfl) (by kernel_rfl) (by kernel_rfl) (by kernel_rfl) ?_;clear S';intro t1 s' S';refine AH ?_;refine fM (c:=62) S' rfl hx (by kernel_rfl) (by decide +kernel) (by kernel_rfl) (by kernel_rfl) (by kernel_rfl) (by kernel_rfl) ?_;clear S';intro t1 s' S';refine AH ?_;refine fM (c:=13) S' rfl hx (by kernel_rfl) (by decide +kernel) (by kernel_rfl) (by kernel_rfl) (by kernel_rfl) (by kernel_rfl) ?_;clear S';intro t1 s' S'
 repeat walk_at "ev"
 exact k t1 _ (Sta.back S' S.eok)
theorem escA_{x:Str}{t:Tok}{Q:Value->Ac->Prop}(I:IsC W)(S:Sta W G env loc nw s)(hA:Aok 2 A)(hx:x.length<=txL)(k:∀ t' s',Sta W G env loc nw s'->Q (.str (aCn x) t') s'):Ad W.M A (call (.ref 161) [.str x t]) Q E s:=by
 refine S.call_fn (binds:=[("text",.str x t)]) [] I.f_escA hA.room (λ _ _ _ _ _=>BindsTo.of_eq (by kernel_rfl)) (by kernel_rfl) ?_;intro L s' S';refine AH ?_;refine wpAny_Try_except ?_;refine AH ?_;refine fM (c:=38) (rs:=[]) S' (qR x).symm hx (by kernel_rfl) (by decide +kernel) (by kernel_rfl) (by kernel_rfl) (by kernel_rfl) (by kernel_rfl) ?_;clear S';intro t1 s' S';refine AH ?_;refine fM (c:=60) S' rfl hx (by kernel_rfl) (by decide +kernel) (by kernel_rfl) (by kernel_rfl) (by kernel_rfl) (by kernel_rfl) ?_;clear S';intro t1 s' S';refine AH ?_;refine fM (c:=34) S' rfl hx (by kernel_rfl) (by decide +kernel) (by kernel_rfl) (by kernel_rfl) (by kernel_rfl) (by kernel_rfl) ?_;clear S';intro t1 s' S';refine AH ?_;refine fM (c:=9) S' rfl hx (by kernel_rfl) (by decide +kernel) (by kernel_rfl) (by kernel_rfl) (by kernel_rfl) (by kernel_rfl) ?_;clear S';intro t1 s' S';refine AH ?_;refine fM (c:=10) S' rfl hx (by kernel_rfl) (by decide +kernel) (by kernel_rfl) (by kernel_rfl) (by kernel_rfl) (by kernel_rfl) ?_;clear S';intro t1 s' S';refine AH ?_;refine fM (c:=13) S' rfl hx (by kernel_rfl) (by decide +kernel) (by kernel_rfl) (by kernel_rfl) (by kernel_rfl) (by kernel_rfl) ?_;clear S';intro t1 s' S'
 repeat walk_at "ev"
 exact k t1 _ (Sta.back S' S.eok)
theorem aAx{α:Type}{R sh:List α}{p:α}:List.Perm (p::(R++sh)) (R++(sh++[p])):=by
 rw[←Ah];exact(AT (l₁:=[p]) (l₂:=R++sh))
theorem vC(lv:List (Addr×List Value)):(lv.reverse.map λ p=>Value.ref p.1)=((lv.map λ p=>Value.ref p.1).take (lv.map λ p=>Value.ref p.1).length).reverse:=by
 rw[BO,List.map_reverse]
noncomputable abbrev lG(x st:Addr)(rv:Value):Loc:=aW [("self",.ref x),("ns_stack",.ref st),("_reversed",rv)] ["namespaces"]
noncomputable abbrev lH(L:Addr):Env:=envOf "C14NWriterTarget._iter_namespaces" (aD mA) L 68 (.ref 67)
theorem good_{L x st:Addr}{rv:Value}{sh:Lg}(he:EvO (lH L) ["self","ns_stack","_reversed","namespaces"])(ls:List (Addr×List Value))(hls:∀ p∈ls,(p.1,aA p.2)∈sh/\p.2.length<=AC)(hrev:∀ A R GR s,Aok 4 A->Sta W GR (lH L) (lG x st rv) (R++sh) s->∀ Q E,(∀ rit own s',Sta W GR (lH L) (lG x st rv) (R++(sh++own)) s'->LY W sh rit (ls.map λ p=>.ref p.1) own->Q (.ref rit) s')-> ∀ p2 p3 p4,Ad W.M A (eval (.Call (.Name "_reversed" p2) [.Name "ns_stack" p3] [] p4) (lH L)) (λ x s₁=>Ad W.M A (pyIter x) Q E s₁) E s):hZ W sh (ls.flatMap (·.2)) (.fresh (.func (aE mA) (lH L))) [(L,aL (lG x st rv))]:=by
 refine yO (nm:="namespaces") (rv:="_reversed") (sk:="ns_stack") (ks:=["self","ns_stack","_reversed","namespaces"]) (by kernel_rfl) (by decide +kernel) (lG x st rv) rfl he ls hls ?_;intro A R GR s hA S Q E h;exact hrev A R GR s hA S Q E h _ _ _
theorem rev_{L x st:Addr}{sh:Lg}{lv:List (Addr×List Value)}(hst:(st,aA (lv.map λ p=>.ref p.1))∈sh):∀ A R GR s,Aok 4 A->Sta W GR (lH L) (lG x st (.type "reversed")) (R++sh) s->∀ Q E,(∀ rit own s',Sta W GR (lH L) (lG x st (.type "reversed")) (R++(sh++own)) s'->LY W sh rit (lv.reverse.map λ p=>.ref p.1) own->Q (.ref rit) s')->
   ∀ p2 p3 p4,Ad W.M A (eval (.Call (.Name "_reversed" p2) [.Name "ns_stack" p3] [] p4) (lH L)) (λ x s₁=>Ad W.M A (pyIter x) Q E s₁) E s:=by
 intro A R GR s hA S' Q E h p2 p3 p4;have hm:(st,aA (lv.map λ p=>.ref p.1))∈R++sh:=Af _ hst;simp only[lG,aW,An,AF,Av,Ay]at S'
 repeat walk_at "ev"
 refine Sta.reversed S' hm ?_;clear S';intro it s' S';refine Sta.iterRev S' (by walk_at "mem") ?_;refine h it [(it,kX st (((lv.map λ p=>Value.ref p.1).length:Int)-1))] _ (S'.perm aAx) ?_;rw[vC];exact aEj hst _ (AN _)
theorem aAU{x st:Addr}{lv:List (Addr×List Value)}{N sh:Lg}{Q:Value->Ac->Prop}(I:IsC W)(S:Sta W G env loc (N++sh) s)(hA:Aok 1 A)(hst:(st,aA (lv.map λ p=>.ref p.1))∈sh)(hlv:∀ p∈lv,(p.1,aA p.2)∈sh/\p.2.length<=AC)(h:∀ a g own gs s',Sta W (G++[(g,gs)]) env loc (N++(sh++(own++[(a,cF g)]))) s'->cE W sh a (lv.reverse.flatMap (·.2)) (own++[(a,cF g)]) [(g,gs)]->Q (.ref a) s'):Ad W.M A (call (.ref 68) [.ref x,.ref st]) Q E s:=by
 refine S.call_gen (binds:=[("self",.ref x),("ns_stack",.ref st),("_reversed",.type "reversed")]) ["namespaces"] I.f_iter hA.room ?_ (by kernel_rfl) ?_
 ·intro name doc pm ct an;exact kp_binds S.kin λ S=>by rw[I.k];kernel_rfl
 intro a g L s' he S';have H:=good_ (W:=W) (x:=x) (st:=st) (rv:=.type "reversed") (sh:=sh) he lv.reverse (λ p hp=>hlv p (List.mem_reverse.mp hp)) (rev_ hst);refine h a g [(L,aL (lG x st (.type "reversed")))] _ s' (S'.perm ?_) (uB H);show List.Perm ((a,cF g)::(L,aL _)::(N++sh)) (N++(sh++[(L,aL _),(a,cF g)]));rw[←Ah];exact(List.Perm.swap ..).trans (AT (l₁:=[_,_]) (l₂:=N++sh))
theorem Sta.iterGen{a:Addr}{g:Nat}{Q:Value->Ac->Prop}(S:Sta W G env loc nw s)(m:(a,cF g)∈nw)(h:Q (.ref a) s):Ad W.M A (pyIter (.ref a)) Q E s:=by
 obtain⟨o,ho,q0⟩:=S.get m;obtain⟨nm,qn,rfl⟩:=q0;exact wpAny_pyIter_gen ⟨_,nm,qn,ho,rfl,rfl,rfl⟩ h
noncomputable abbrev NsP:=Str×Str
noncomputable def dP(q:NsP):Cell:=λ o=>∃ t u,aJ [.str q.1 t,.str q.2 u] o
structure Lv where
 a:Addr
 ps:List (Addr×NsP)
noncomputable def Lv.val(l:Lv):List NsP:=l.ps.map (·.2)
noncomputable def aK(ps:List (Addr×NsP)):Lg:=ps.map λ q=>(q.1,dP q.2)
noncomputable def aF(ps:List (Addr×NsP)):List Value:=ps.map λ q=>.ref q.1
noncomputable def aT:List Lv->Lg
 | []=>[]
 | l::r=>(l.a,aA (aF l.ps))::(aK l.ps++aT r)
noncomputable def aG(ls:List Lv):List Value:=ls.map λ l=>.ref l.a
noncomputable def lW(ls:List Lv):List (Addr×NsP):=ls.reverse.flatMap (·.ps)
noncomputable def flat(ls:List (List NsP)):List NsP:=ls.reverse.flatten
theorem nG(ls:List Lv):(lW ls).map (·.2)=flat (ls.map Lv.val):=by
 unfold lW flat;rw[List.map_flatMap,←List.map_reverse,List.flatten_eq_flatMap,List.flatMap_map]
 rfl
theorem aDa{l:Lv}{q:Addr×NsP}(hq:q∈l.ps):∀{ls:List Lv},l∈ls->(q.1,dP q.2)∈aT ls
 | m::r,h=>by
  rcases Ax.mp h with rfl | h
  ·exact .tail _ (Ak _ (Aj.mpr ⟨q,hq,rfl⟩))
  ·exact .tail _ (Af _ (aDa hq h))
theorem nH{ls:List Lv}{q:Addr×NsP}(h:q∈lW ls):(q.1,dP q.2)∈aT ls:=by
 obtain⟨l,hl,hq⟩:=List.mem_flatMap.mp h;exact aDa hq (List.mem_reverse.mp hl)
theorem kI{ls:List Lv}{l:Lv}(h:l∈ls):(l.a,aA (aF l.ps))∈aT ls:=by
 induction ls with
 | nil=>cases h
 | cons m r ih=>
  rcases Ax.mp h with rfl | h
  ·exact .head _
  ·exact .tail _ (Af _ (ih h))
theorem bO:∀ a b:List Lv,aT (a++b)=aT a++aT b:=by
 intro l0
 induction l0 with
 | nil=>
  intro _;exact rfl
 | cons l r ih=>
  intro b;show(l.a,aA (aF l.ps))::(aK l.ps++aT (r++b))=_;rw[ih b];show _=(l.a,aA (aF l.ps))::((aK l.ps++aT r)++aT b)
  rw[Ah]
noncomputable def cC(q:Addr×NsP):List Lv->List Lv
 | []=>[]
 | [l]=>[⟨l.a,l.ps++[q]⟩]
 | l::m::r=>l::cC q (m::r)
noncomputable def bY(q:NsP):List (List NsP)->List (List NsP)
 | []=>[]
 | [l]=>[l++[q]]
 | l::m::r=>l::bY q (m::r)
theorem fT(q:Addr×NsP):∀ ls:List Lv,(cC q ls).map Lv.val=bY q.2 (ls.map Lv.val)
 | []=>rfl
 | [l]=>by show[(l.ps++[q]).map (·.2)]=[l.ps.map (·.2)++[q.2]];rw[Aq];rfl
 | l::m::r=>by
  show l.val::(cC q (m::r)).map Lv.val=l.val::bY q.2 ((m::r).map Lv.val);rw[fT q (m::r)]
theorem dC(q:Addr×NsP):∀ ls:List Lv,aG (cC q ls)=aG ls
 | []=>rfl
 | [l]=>rfl
 | l::m::r=>by
  show Value.ref l.a::aG (cC q (m::r))=Value.ref l.a::aG (m::r);rw[dC q (m::r)]
theorem vG(q:Addr×NsP)(ls:List Lv)(l:Lv):cC q (ls++[l])=ls++[⟨l.a,l.ps++[q]⟩]:=by
 induction ls with
 | nil=>rfl
 | cons m r ih=>
  induction r with
  | nil=>rfl
  | cons k r=>show m::cC q (k::(r++[l]))=_;rw[show k::(r++[l])=(k::r)++[l]from rfl,ih];rfl
theorem iW(q:NsP)(ls:List (List NsP))(l:List NsP):bY q (ls++[l])=ls++[l++[q]]:=by
 induction ls with
 | nil=>rfl
 | cons m r ih=>
  induction r with
  | nil=>rfl
  | cons k r=>show m::bY q (k::(r++[l]))=_;rw[show k::(r++[l])=(k::r)++[l]from rfl,ih];rfl
noncomputable def eH(u:Str):List Str->List NsP->Option Str
 | _,[]=>none
 | seen,(v,p)::r=>if v=u/\p∉seen then some p else eH u (seen++[p]) r
noncomputable def kD(p l:Str):Str:=if p.length=0 then l else p++":"++l
theorem Sta.openPr{p:Addr}{q:NsP}{c':Cell}(S:Sta W G env loc nw s)(U:Upd p (dP q) c' nw nw'):∃ t u nw1,Upd p (dP q) (aJ [.str q.1 t,.str q.2 u]) nw nw1/\Upd p (aJ [.str q.1 t,.str q.2 u]) c' nw1 nw'/\Sta W G env loc nw1 s:=by
 obtain⟨o,ho,q0⟩:=S.get U.mem;obtain⟨t,u,hc⟩:=q0;obtain⟨nw1,U1,U2⟩:=U.via2 (aJ [.str q.1 t,.str q.2 u]);exact⟨t,u,nw1,U1,U2,S.tell U1 λ o' ho' _=>by rw[ho]at ho';cases ho';exact hc⟩
theorem Sta.unpackPr{elts:List Expr}{x1}{pos:Pos}{p:Addr}{v r:Str}{Q:Unit->Ac->Prop}(S:Sta W G env loc nw s)(hh:A.handled=none)(m:(p,dP (v,r))∈nw)(hn:(assignEach elts env).length=2)(hstar:(assignEach elts env).findIdx? (·.1)=none)(h:∀ t u s',Sta W G env loc nw s'->Ad W.M A (assignInOrder ((assignEach elts env).map (·.2)) [.str v t,.str r u]) Q E s'):Ad W.M A (assign (.Tuple elts x1 pos) env (.ref p)) Q E s:=by
 obtain⟨t,u,nw1,U1,U2,S1⟩:=S.openPr (eD m);exact S1.unpackT hh U2.mem hn hstar λ s' S2=>h t u s' (S2.tell U2 λ o _ ho=>⟨t,u,ho⟩)
noncomputable abbrev jV(st:Stmt):List Stmt:=aE st
noncomputable abbrev aEy(st:Stmt):Expr:=stE st
noncomputable abbrev cQ(L:Addr):Env:=envOf "C14NWriterTarget._qname" (aD cB) L 83 (.ref 82)
noncomputable abbrev iU(x:Addr)(qn:Str)(tq:Tok)(u:Str)(tu:Tok)(l:Str)(tl:Tok)(sp:Addr)(vu vp:Option Value):Loc:=[("self",some (.ref x)),("qname",some (.str qn tq)),("uri",some (.str u tu)),("tag",some (.str l tl)),("prefixes_seen",some (.ref sp)),("u",vu),("prefix",vp)]
noncomputable def aCW:Stmt:=(aE cB).getD 2 (.Pass default)
noncomputable def aCV:Stmt:=(aE cB).getD 5 (.Pass default)
noncomputable def eY(q:NsP):Prop:=q.1.length<=1000/\q.2.length<=1000
structure Q1S where
 T:Str->Bool
 n:Nat
 vu:Option Value
 vp:Option Value
theorem aDZ{L ga x sp:Addr}{qn u l:Str}{tq tu tl:Tok}{xs:List (Addr×NsP)}{sh own:Lg}{og:Gens}{R:Result->Ac->Prop}(hA:Aok 10 A)(hmem:∀ q∈xs,(q.1,dP q.2)∈sh)(hlen:xs.length<=100)(hsm:∀ q∈xs,eY q.2)(hl:l.length<=3000)(S:Sta W (G++og) (cQ L) (iU x qn tq u tu l tl sp none none) (((sp,aS W (λ _=>false) 0)::N)++(sh++own)) s)(hy:YdR W sh ga (λ(q:Addr×NsP) v=>v=.ref q.1) xs own og)(kf:∀ p a t1 t2 t3 loc' s',eH u [] (xs.map (·.2))=some p->Sta W G (cQ L) loc' ((a,aJ [.str (kD p l) t1,.str l t2,.str u t3])::(N++sh)) s'->R (.ok (.ret (.ref a))) s')(kn:∀ vu vp T n s',eH u [] (xs.map (·.2))=none->(∀ k,T k=decide (k∈xs.map (·.2.2)))->n<=xs.length->Sta W G (cQ L) (iU x qn tq u tu l tl sp vu vp) ((sp,aS W T n)::(N++sh)) s'->R (.ok .next) s')(tg:Expr)(body:List Stmt)(htg:tg=aEy aCW)(hbd:body=jV aCW):codeAny W.M A (.forLoop tg (.ref ga) body [] (cQ L)) R s:=by
 subst htg hbd;refine kN (sh:=sh) (f:=λ(q:Addr×NsP)=>.ref q.1) (hA.le (by decide)) (λ(v:Q1S) _=>iU x qn tq u tu l tl sp v.vu v.vp) (λ v _=>(sp,aS W v.T v.n)::N) (λ v dn=>(∀ k,v.T k=decide (k∈dn.map (·.2.2)))/\v.n<=dn.length/\∀ rest,xs=dn++rest->eH u (dn.map (·.2.2)) (rest.map (·.2))=eH u [] (xs.map (·.2))) hy ⟨λ _=>false,0,none,none⟩ ⟨λ k=>by simp,AN 0,λ rest e=>by rw[show xs=rest from e];rfl⟩ S ?_ ?_
 rotate_left
 ·refine pr3 ?_;intro qa qv qp dn rest tl' tg vw s1 K hx hH S' kk _ kret;obtain⟨hT,hn,hf⟩:=hH;replace hf:=hf _ hx;clear S;have hqx:(qa,qv,qp)∈xs:=by rw[hx];simp
  have hps:qp.length<=1000:=(hsm _ hqx).2;have hdl:dn.length+rest.length+1=xs.length:=by rw[hx];simp;walk_at "o"
  have hsb:vw.n+1<Bt:=AO (show vw.n+1<=101 by walk_at "o") (by decide);have hsb0:vw.n<Bt:=by walk_at "o"
  have hmq:(qa,dP (qv,qp))∈N++(sh++tl'):=Af _ (Ak _ (hmem _ hqx));walk_at "zd";simp only[Av]at S';refine Sta.unpackPr S' hA.handled (by walk_at "mem") (by kernel_rfl) (by kernel_rfl) ?_;clear S';intro t1 t2 s' S';refine assignInOrder_cons ?_;refine assign_Name ?_;walk_at "c";refine assignInOrder_cons ?_;refine assign_Name ?_;walk_at "c";refine assignInOrder_nil ?_;refine aM ?_;walk_at "c";have hadd:(vw.T qp=true\/qv≠u)->eH u ((dn++[(qa,qv,qp)]).map (·.2.2)) (rest.map (·.2))=eH u [] (xs.map (·.2)):=by
   intro hc;rw[←hf,An];show _=(if qv=u/\qp∉dn.map (·.2.2)then some qp else eH u (dn.map (·.2.2)++[qp]) (rest.map (·.2)))
   rw[if_neg]
   ·simp
   ·rintro⟨h1,h2⟩
    rcases hc with hc | hc
    ·rw[hT]at hc;exact h2 (of_decide_eq_true hc)
    ·exact hc h1
  have hnext:∀ s2,(vw.T qp=true\/qv≠u)->Sta W (G++tg) (cQ L) (iU x qn tq u tu l tl sp (some (.str qv t1)) (some (.str qp t2))) ((sp,aS W (λ k=>vw.T k||decide (k=qp)) (if vw.T qp then vw.n else vw.n+1))::(N++(sh++tl'))) s2->
    K .next s2:=by
   intro s2 hc S2;refine(kk ⟨λ k=>vw.T k||decide (k=qp),_,_,_⟩ s2 ⟨λ k=>?_,?_,λ rest' e=>by rw[←lA hx e];exact hadd hc⟩ S2).1
   ·show(vw.T k||decide (k=qp))=_;rw[hT,Bool.eq_iff_iff];simp only[Bool.or_eq_true,decide_eq_true_eq,Aq,AD,An,AF,AA]
   ·show(if vw.T qp then vw.n else vw.n+1)<=_;rw[Ag,AJ];split<;>walk_at "o"
  refine rF (λ e=>?_) (λ e=>?_)
  ·subst e;walk_at "c";cases hTp:vw.T qp with
   | true=>
    refine cP ?_;walk_at "c";refine hnext _ (.inl hTp) ?_;rw[hTp]at S' ⊢;exact S'
   | false=>
    have hfd:eH qv [] (xs.map (·.2))=some qp:=by
     rw[←hf,An];show(if qv=qv/\qp∉dn.map (·.2.2)then some qp else _)=_;rw[if_pos];refine⟨rfl,λ h=>?_⟩;rw[hT]at hTp;exact absurd h (of_decide_eq_false hTp)
    refine dK ?_;walk_at "c";have hfin:∀ a t1 t2 t3 loc2 s2,Sta W (G++tg) (cQ L) loc2 ((a,aJ [.str (kD qp l) t1,.str l t2,.str qv t3])::(sp,aS W vw.T vw.n)::(N++(sh++tl'))) s2->K (.ret (.ref a)) s2:=by
     intro a t1 t2 t3 loc2 s2 S2;refine kret _ _ ?_;exact kf qp a t1 t2 t3 loc2 s2 hfd (S2.fewer.sel (Sel.rest ((sp,aS W vw.T vw.n)::tl') (by walk_at "perm")))
    refine cL S' (by walk_at "o") (λ h0=>?_) (λ h0=>?_)
    ·clear S';intro s' S';have ht:kD qp l=l:=if_pos h0;rw[ht]at hfin;walk_at "c";exact hfin _ _ _ _ _ _ S'
    ·clear S';intro s' S';have ht:kD qp l=qp++":"++l:=if_neg h0;have h1:(":":Str).length=1:=by decide +kernel
     rw[ht]at hfin;walk_at "c";rw[Str.empty_append]at S';exact hfin _ _ _ _ _ _ S'
  ·walk_at "c";refine hnext _ (.inr e) ?_;exact S'
 ·intro vw s1 hH S1;obtain⟨hT,hn,hf⟩:=hH;exact kn vw.vu vw.vp vw.T vw.n s1 (by rw[←hf [] (Am _).symm];rfl) hT hn (S1.perm (by walk_at "perm"))
section
local macro_rules | `(tactic| walk_at $s:str) => Mine.goAt Mine.tabD s
section
local macro_rules | `(tactic| walk_at $s:str) => Mine.goAt Mine.tabF s
structure Wn where
 x:Addr
 dx:Addr
 d:Addr
 dns:Addr
 ns:Addr
 pm:Addr
 ps:Addr
structure Wc where
 com:Bool
 st:Bool
 rw:Bool
 et:Value
 qt:Value
structure Pd where
 pt:Addr
 tag:Str
 t:Tok
 d:Addr
 l:List (Str×Str×Tok)
 nn:Addr
noncomputable def peV:Option Pd->Value
 | none=>.none
 | some p=>.ref p.pt
structure Wm where
 held:List Str
 dl:List Lv
 nl:List Lv
 pm:List (Str×Str×Tok)
 ps:List Bool
 rs:Bool
 rd:Bool
 ig:Nat
 ti:Tok
 pe:Option Pd
noncomputable def pmV(l:List (Str×Str×Tok)):List (Str×Value):=l.map λ p=>(p.1,.str p.2.1 p.2.2)
noncomputable abbrev eJ(w:Wn)(c:Wc)(q:Addr)(m:Wm):Loc:=VV (.ref q) (.ref w.d) (.bool c.com) (.bool c.st) .none c.et (.bool c.rw) c.qt .none (.ref w.dns) (.ref w.ns) (.ref w.pm) (.ref w.ps) (peV m.pe) (.bool m.rs) (.bool m.rd) (.int (m.ig:Int) m.ti)
noncomputable abbrev aC(W:Wd)(w:Wn)(c:Wc)(q:Addr)(m:Wm)(N:Lg):Lg:=
 (w.x,bD 143 w.dx)::(w.dx,aN (eJ w c q m))::(w.d,aB m.held)::(w.dns,aA (aG m.dl))::(w.ns,aA (aG m.nl))::(w.pm,IsD W w.pm (pmV m.pm))::(w.ps,aA (m.ps.map .bool))::(aT m.dl++(aT m.nl++N))
theorem pl_w{W:Wd}{w:Wn}{c:Wc}{q:Addr}{m:Wm}{p:Addr×Cell}{N N':Lg}(h:Pl p N N'):Pl p (aC W w c q m N) (aC W w c q m N'):=plS (cD (cD (cD (aBN (aBN h)))))
theorem ps_w{W:Wd}{w:Wn}{c:Wc}{q:Addr}{m:Wm}{A N N':Lg}(h:Ps A N N'):Ps A (aC W w c q m N) (aC W w c q m N'):=qL (qL (qL (qL (qL (qL (qL (aBM (aBM h))))))))
theorem yC{W:Wd}{w:Wn}{c:Wc}{q:Addr}{m:Wm}{N N':Lg}(k:N.Perm N'):(aC W w c q m N).Perm (aC W w c q m N'):=oS (oS (oS (oS (oS (oS (oS (aAv (aAv k))))))))
theorem pm_x{W:Wd}{w:Wn}{c:Wc}{q:Addr}{m:Wm}{p:Addr×Cell}{L N N':Lg}(h:Pl p N N')(k:L.Perm (aC W w c q m N')):(p::L).Perm (aC W w c q m N):=(k.cons p).trans (List.Perm.symm (pl_w h))
theorem pm_xs{W:Wd}{w:Wn}{c:Wc}{q:Addr}{m:Wm}{A L N N':Lg}(h:Ps A N N')(k:L.Perm (aC W w c q m N')):(A++L).Perm (aC W w c q m N):=(List.Perm.append_left A k).trans (List.Perm.symm (ps_w h))
theorem jL(a b:List (Addr×NsP)):aK (a++b)=aK a++aK b:=Aq
theorem jK(a b:List (Addr×NsP)):aF (a++b)=aF a++aF b:=Aq
theorem eT(a:List Lv)(l:Lv):(aG (a++[l])).getLast?=some (.ref l.a):=by simp[aG]
theorem Sta.addPr{d0:List Lv}{lv:Lv}{tup:Addr}{u p:Str}{t t':Tok}{Q:Value->Ac->Prop}(hz:lv.ps.length<=1000)(S:Sta W G env loc ((tup,aJ [.str u t,.str p t'])::(aT (d0++[lv])++N)) s)(h:∀ s',Sta W G env loc (aT (cC (tup,u,p) (d0++[lv]))++N) s'->Q .none s'):Ad W.M A (call (.builtin "list.append") [.ref lv.a,.ref tup]) Q E s:=by
 have S1:=(S.tell (c':=dP (u,p)) .head λ o _ ho=>⟨_,_,ho⟩).perm (nw':=(lv.a,aA (aF lv.ps))::(aK lv.ps++((tup,dP (u,p))::(aT d0++N)))) (by
  rw[bO];show List.Perm ((tup,dP (u,p))::((aT d0++((lv.a,aA (aF lv.ps))::(aK lv.ps++[])))++N)) _;walk_at "perm")
 refine S1.append .head (by rw[Aw];simp[aF];walk_at "o") λ s' S2=>h s' (S2.perm ?_);rw[vG,bO];show List.Perm _ ((aT d0++((lv.a,aA (aF (lv.ps++[(tup,u,p)])))::(aK (lv.ps++[(tup,u,p)])++[])))++N);rw[jL,jK];show List.Perm _ ((aT d0++((lv.a,aA (aF lv.ps++[.ref tup]))::((aK lv.ps++[(tup,dP (u,p))])++[])))++N);walk_at "perm"
theorem lZ{K:Sink W}{σ:K.σ}{w:Wn}{c:Wc}{m:Wm}{x:Str}{t:Tok}{Q:Value->Ac->Prop}(S':Sta W G env loc (aC W w c K.q m (K.L σ++N)) s)(hA:Aok 3 A)(hr:K.room σ 1)(k:∀ s',Sta W G env loc (aC W w c K.q m (K.L (K.push σ x)++N)) s'->Q .none s'):(∃ N st,W.K.In s.heap/\Led W.B (K.L st++N) s.heap)/\Ad W.M A (call (.ref K.q) [.str x t]) Q E s:=
 ⟨S'.sinkLed (L':=[]) (by walk_at "mid"),S'.sink hA hr (by walk_at "mid") k⟩
noncomputable abbrev iH(W:Wd)(w:Wn)(c:Wc)(q:Addr)(m:Wm)(dl:List Lv)(N:Lg):Lg:=(w.x,bD 143 w.dx)::(w.dx,aN (eJ w c q m))::(w.dns,aA (aG dl))::(aT dl++N)
theorem aDY{L ga sp:Addr}{w:Wn}{c:Wc}{q:Addr}{m:Wm}{qn u l:Str}{tq tu tl:Tok}{d0:List Lv}{lv:Lv}{xs:List (Addr×NsP)}{sh own:Lg}{og:Gens}{vu vp:Option Value}{R:Result->Ac->Prop}(I:IsC W)(hA:Aok 10 A)(hmem:∀ q∈xs,(q.1,dP q.2)∈sh)(hsm:∀ q∈xs,eY q.2)(hl:l.length<=3000)(hz:lv.ps.length<=1000)(S:Sta W (G++og) (cQ L) (iU w.x qn tq u tu l tl sp vu vp) (iH W w c q m (d0++[lv]) N++(sh++own)) s)(hy:YdR W sh ga (λ(q:Addr×NsP) v=>v=.ref q.1) xs own og)(kf:∀ p a tup t1 t2 t3 loc' s',(xs.map (·.2)).find? (λ q=>decide (q.1=u))=some (u,p)->Sta W G (cQ L) loc' ((a,aJ [.str (kD p l) t1,.str l t2,.str u t3])::(iH W w c q m (cC (tup,u,p) (d0++[lv])) N++sh)) s'->R (.ok (.ret (.ref a))) s')(kn:∀ vu vp s',(xs.map (·.2)).find? (λ q=>decide (q.1=u))=none->Sta W G (cQ L) (iU w.x qn tq u tu l tl sp vu vp) (iH W w c q m (d0++[lv]) N++sh) s'->R (.ok .next) s')(tg:Expr)(body:List Stmt)(htg:tg=aEy aCV)(hbd:body=jV aCV):codeAny W.M A (.forLoop tg (.ref ga) body [] (cQ L)) R s:=by
 subst htg hbd;have hcl:=I.cl;refine kN (sh:=sh) (f:=λ(q:Addr×NsP)=>.ref q.1) (hA.le (by decide)) (λ(v:Option Value×Option Value) _=>iU w.x qn tq u tu l tl sp v.1 v.2) (λ _ _=>iH W w c q m (d0++[lv]) N) (λ _ dn=>(dn.map (·.2)).find? (λ q=>decide (q.1=u))=none) hy (vu,vp) rfl S ?_ ?_
 rotate_left
 ·refine pr3 ?_;intro qa qv qp dn rest tl' tg vw s1 K hx hf S' kk _ kret;clear S;replace hf:(dn.map (·.2)).find? (λ q=>decide (q.1=u))=none:=hf;have hqx:(qa,qv,qp)∈xs:=by rw[hx];simp
  have hps:qp.length<=1000:=(hsm _ hqx).2;have hmq:(qa,dP (qv,qp))∈aT (d0++[lv])++N++(sh++tl'):=Af _ (Ak _ (hmem _ hqx));walk_at "zd";simp only[iH,Av]at S';refine Sta.unpackPr S' hA.handled (by walk_at "mem") (by kernel_rfl) (by kernel_rfl) ?_;clear S';intro t1 t2 s' S';refine assignInOrder_cons ?_;refine assign_Name ?_;walk_at "c";refine assignInOrder_cons ?_;refine assign_Name ?_;walk_at "c";refine assignInOrder_nil ?_;refine aM ?_;walk_at "c";refine rF (λ e=>?_) (λ e=>?_)
  ·subst e;have hlast:=eT d0 lv;have hfd:(xs.map (·.2)).find? (λ q=>decide (q.1=qv))=some (qv,qp):=by
    rw[hx,Aq,List.find?_append,hf,An,List.find?_cons_of_pos (by simp)];rfl
   walk_at "c";refine Sta.sub_last S' (by walk_at "mem") hlast ?_;have hlm:(lv.a,aA (aF lv.ps))∈aT (d0++[lv])++N++(sh++tl'):=Ak _ (Ak _ (kI (by simp)));walk_at "c";revert a';intro tup S';refine Sta.addPr (d0:=d0) (lv:=lv) (N:=(w.x,bD 143 w.dx)::(w.dx,aN (eJ w c q m))::(w.dns,aA (aG (d0++[lv])))::(N++(sh++tl'))) hz (S'.perm (by walk_at "perm")) ?_;clear S';intro s' S';have hfin:∀ a t1 t2 t3 loc2 s2,Sta W (G++tg) (cQ L) loc2 ((a,aJ [.str (kD qp l) t1,.str l t2,.str qv t3])::(aT (cC (tup,qv,qp) (d0++[lv]))++((w.x,bD 143 w.dx)::(w.dx,aN (eJ w c q m))::(w.dns,aA (aG (d0++[lv])))::(N++(sh++tl'))))) s2->K (.ret (.ref a)) s2:=by
    intro a t1 t2 t3 loc2 s2 S2;refine kret _ _ ?_;refine kf qp a tup t1 t2 t3 loc2 s2 hfd (S2.fewer.sel (Sel.rest tl' ?_));simp only[iH,dC]
    walk_at "perm"
   walk_at "c";refine cL S' (by walk_at "o") (λ h0=>?_) (λ h0=>?_)
   ·clear S';intro s' S';have ht:kD qp l=l:=if_pos h0;rw[ht]at hfin;walk_at "c";exact hfin _ _ _ _ _ _ S'
   ·clear S';intro s' S';have ht:kD qp l=qp++":"++l:=if_neg h0;have h1:(":":Str).length=1:=by decide +kernel
    rw[ht]at hfin;walk_at "c";rw[Str.empty_append]at S';exact hfin _ _ _ _ _ _ S'
  ·walk_at "c";refine(kk (_,_) _ ?_ S').1;show((dn++[(qa,qv,qp)]).map (·.2)).find? _=none;rw[Aq,List.find?_append,hf,An,List.find?_cons_of_neg (by simpa using e)]
   rfl
 ·intro vw s1 hf S1;exact kn vw.1 vw.2 s1 hf S1
structure NSt where
 decl:List (List NsP)
 nss:List (List NsP)
 pm:List (Str×Str)
noncomputable def bB(m:Wm):NSt:=⟨m.dl.map Lv.val,m.nl.map Lv.val,m.pm.map λ p=>(p.1,p.2.1)⟩
noncomputable def yH(k:Nat):Str:="n"++(toString (k:Int):String)
noncomputable def qnV(rw:Bool)(s:NSt)(u l:Str):Option (Str×NSt):=
 match eH u [] (flat s.decl)with
 | some p=>some (kD p l,s)
 | none=>
  if rw=true then
   match s.pm.find? (λ q=>decide (q.1=u))with
   | some q=>some ((q.2++":"++l:Str),{ s with decl:=bY (u,q.2) s.decl })
   | none=>some ((yH s.pm.length++":"++l:Str),{ s with decl:=bY (u,yH s.pm.length) s.decl,pm:=s.pm++[(u,yH s.pm.length)] })
  else if u=""/\("":Str)∉(flat s.decl).map (·.2)then some (l,s)
  else match(flat s.nss).find? (λ q=>decide (q.1=u))with
   | some q=>some (kD q.2 l,{ s with decl:=bY (u,q.2) s.decl })
   | none=>if u="" then some (l,s)else none
structure NsOk (s:NSt):Prop where
 d1:∀ q∈flat s.decl,eY q
 d2:(flat s.decl).length<=60
 n1:∀ q∈flat s.nss,eY q
 n2:(flat s.nss).length<=1000
 p1:∀ q∈s.pm,eY q
 p2:s.pm.length<=60
 ne:s.decl≠[]
structure NmOk (x u l:Str):Prop where
 len:x.length<=2500
 ul:u.length<=2500
 ll:l.length<=2500
 br:(Txt.slice x none (some 1)="{"/\Txt.rsplitMax (Txt.slice x (some 1) none) "}" 1=[u,l])\/(Txt.slice x none (some 1)≠"{"/\u=""/\l=x)
theorem SliceSK.mk{W:Wd}{env:Env}{Q:Value->Ac->Prop}{G:Gens}{loc:Loc}{nw:Lg}{s:Ac}{x:Str}{t:Tok}{lo hi:Option Int}{vl vu:Value}(S:Sta W G env loc nw s)(hz:x.length<=AC)(pl:IsPart vl lo)(pu:IsPart vu hi)(k:∀ t' s',Sta W G env loc nw s'->Q (.str (Txt.slice x lo hi) t') s'):SliceSK W env Q (.str x t) vl vu s:=⟨G,loc,nw,x,t,lo,hi,S,rfl,hz,pl,pu,k⟩
theorem dT{W:Wd}{sh:Lg}{it:Addr}:∀{xs:List (Addr×NsP)} {own:Lg} {og:Gens},cE W sh it (aF xs) own og->YdR W sh it (λ(q:Addr×NsP) v=>v=.ref q.1) xs own og
 | [],_,_,H=>H
 | q::r,_,_,H=>⟨H.1,λ A R GR s Q E hA S hQ=>H.2 A R GR s Q E hA S λ own' og' s' S' H'=>hQ _ own' og' s' rfl S' (dT (xs:=r) H')⟩
theorem qU(ls:List Lv):(ls.map λ l=>(l.a,aF l.ps)).reverse.flatMap (·.2)=aF (lW ls):=by
 unfold lW aF;rw[List.map_flatMap,←List.map_reverse,List.flatMap_map]
theorem aCk(u:Str):∀ l:List (Str×Str×Tok),(l.map λ p=>(p.1,p.2.1)).find? (λ q=>decide (q.1=u))=(l.find? λ q=>decide (q.1=u)).map λ p=>(p.1,p.2.1):=by
 intro l0
 induction l0 with
 | nil=>
  exact rfl
 | cons p r ih=>
  rw[An,List.find?_cons,List.find?_cons]
  by_cases e:p.1=u
  ·simp[e]
  ·simp only[decide_eq_false e]
   exact ih
theorem mJ(u:Str):∀ l:List (Str×Str×Tok),valueAt (pmV l) u=(l.find? λ q=>decide (q.1=u)).map λ p=>.str p.2.1 p.2.2:=by
 intro l;unfold valueAt pmV;rw[List.find?_map,Option.map_map]
 rfl
open PySem.Builtin.Str in
theorem uP{x y u l:Str}{k:Int}(h:Txt.rsplitMax x y k=[u,l]):(partsBetween x (occurrencesFromRight x y (limitOf x k)) y.length).length<=2:=by
 unfold Txt.rsplitMax at h
 split at h
 ·cases h
 ·split at h
  ·cases h
  ·rw[h];exact AN 2
theorem qHead{L:Addr}{w:Wn}{c:Wc}{q:Addr}{m:Wm}{x u l:Str}{t:Tok}{Q:Flow->Ac->Prop}(I:IsC W)(hA:Aok 13 A)(hx:NmOk x u l)(S':Sta W G (cQ L) [("self",some (.ref w.x)),("qname",some (.str x t)),("uri",some .none),("tag",none),("prefixes_seen",none),("u",none),("prefix",none)] N s)(k:∀ sp X tu tl s',Sta W G (cQ L) (iU w.x x t u tu l tl sp none none) ((sp,aS W (λ _=>false) 0)::(X++N)) s'->Ad W.M A (execs ((aE cB).drop 2) (cQ L)) Q E s'):Ad W.M A (execs ((aE cB).drop 0) (cQ L)) Q E s:=by
 have hxl:=hx.len;walk_at "c";refine wL ?_ (by intro _ _;kernel_rfl);walk_at "c";refine SliceSK.mk S' (by walk_at "osz") .none (.int _ _) ?_;clear S';intro t1 s' S';walk_at "c";rcases hx.br with⟨h1,h2⟩ | ⟨h1,h2,h3⟩
 ·refine rF (λ _=>?_) (λ e=>absurd h1 e);walk_at "c";refine wL ?_ (by intro _ _;kernel_rfl);walk_at "c";refine SliceSK.mk S' (by walk_at "osz") (.int _ _) .none ?_;clear S';intro t2 s' S';refine rA ?_;walk_at "c";have hsl:(Txt.slice x (some 1) none).length<=2500:=Al (Txt.slice_le x _ _) hxl;refine Sta.rsplitMax S' (by decide +kernel) (by decide +kernel) (by walk_at "o") (Al (uP h2) (by rw[Aw];decide)) ?_;clear S';intro a s' S';rw[h2]at S';refine Sta.unpackTx S' .head (hA.le (by decide)) (by kernel_rfl) (by kernel_rfl) ?_;clear S';intro vs s' hv S';obtain⟨t3,t4,rfl⟩:=hv.two;refine assignInOrder_cons ?_;refine assign_Name ?_;walk_at "c";refine assignInOrder_cons ?_;refine assign_Name ?_;walk_at "c";refine assignInOrder_nil ?_;walk_at "kn";refine bQ rfl ?_;walk_at "c";refine Sta.builtin S' I.b_set rL (by kernel_rfl) ?_;walk_at "st";exact k a' [] _ _ _ S'
 ·refine rF (λ e=>absurd e h1) (λ _=>?_);walk_at "c";revert a';intro tpl S';revert t';intro tz S';refine assignInOrder_cons ?_;refine assign_Name ?_;walk_at "c";refine assignInOrder_cons ?_;refine assign_Name ?_;walk_at "c";refine assignInOrder_nil ?_;walk_at "kn";refine bQ rfl ?_;walk_at "c";refine Sta.builtin S' I.b_set rL (by kernel_rfl) ?_;walk_at "st";subst h2 h3;exact k _ [(tpl,aJ [.str "" tz,.str l t])] _ _ _ S'
noncomputable abbrev ifB(st:Stmt):List Stmt:=aE st
theorem pU:∀ n:Fin 61,(Str.ofString (toString (n.val:Int))).length<=2:=by decide +kernel
theorem Sta.setItemD{W:Wd}{G:Gens}{env:Env}{loc:Loc}{nw nw':Lg}{s:Ac}{A:AL}{E:Value->Ac->Prop}{d:Addr}{kvs:List (Str×Value)}{x:Str}{t:Tok}{v:Value}{Q:Unit->Ac->Prop}(S:Sta W G env loc nw s)(U:Upd d (IsD W d kvs) (IsD W d (stored kvs x v)) nw nw')(hz:kvs.length<=1000000)(h:∀ s',Sta W G env loc nw' s'->Q () s'):Ad W.M A (PySem.setItem (.ref d) (.str x t) v) Q E s:=by
 obtain⟨hd,hn⟩:=S.dictAt U.mem;refine wpAny_setItem_pairs (strKind_is _ _ x t) hd (λ h' hm hs=>?_) (by walk_at "osz");obtain⟨o,ho,hdo⟩:=Heap.dictOf_iff.mp hm;exact h _ (S.set U (λ b o hb e=>(hs.2 b hb).trans e) ho ⟨by simpa using hn,hdo⟩ _)
theorem Sta.lenD{W:Wd}{G:Gens}{env:Env}{loc:Loc}{nw:Lg}{s:Ac}{A:AL}{E:Value->Ac->Prop}{d:Addr}{kvs:List (Str×Value)}{Q:Value->Ac->Prop}(S:Sta W G env loc nw s)(m:(d,IsD W d kvs)∈nw)(hz:kvs.length<=1000000)(h:∀ t s',Sta W G env loc nw s'->Q (.int (kvs.length:Int) t) s'):Ad W.M A (call (.builtin "len") [.ref d]) Q E s:=by
 obtain⟨hd,hn⟩:=S.dictAt m;exact call_len_dict hn hd (by walk_at "o") (h _ _ (S.toks _))
theorem aAs{L sp:Addr}{w:Wn}{c:Wc}{q:Addr}{m:Wm}{x u l p:Str}{tq tu tl tp:Tok}{T:Str->Bool}{n:Nat}{vu:Option Value}{d0:List Lv}{lv:Lv}{Q:Flow->Ac->Prop}(I:IsC W)(hd:m.dl=d0++[lv])(hlz:lv.ps.length<=1000)(hll:l.length<=2500)(hp:p.length<=1000)(S':Sta W G (cQ L) (iU w.x x tq u tu l tl sp vu (some (.str p tp))) ((sp,aS W T n)::aC W w c q m N) s)(k:∀ a tup t1 t2 t3 loc' s',Sta W G (cQ L) loc' ((a,aJ [.str (p++":"++l) t1,.str l t2,.str u t3])::(sp,aS W T n)::aC W w c q { m with dl:=cC (tup,u,p) m.dl } N) s'->Q (.ret (.ref a)) s')(body:List Stmt)(hb:body=(ifB ((aE cB).getD 3 (.Pass default))).drop 1):Ad W.M A (execs body (cQ L)) Q E s:=by
 subst hb;have hcl:=I.cl;have hlast:(aG m.dl).getLast?=some (.ref lv.a):=by rw[hd];exact eT d0 lv
 have h1:(":":Str).length=1:=by decide +kernel
 have hlm:(lv.a,aA (aF lv.ps))∈aT m.dl++(aT m.nl++N):=Ak _ (kI (by rw[hd];simp));walk_at "zd";simp only[iU,aC,eJ]at S';refine aM ?_;walk_at "c";refine Sta.sub_last S' (by walk_at "mem") hlast ?_;walk_at "c";revert a';intro tup S';refine Sta.addPr (d0:=d0) (lv:=lv) (N:=(sp,aS W T n)::(w.x,bD 143 w.dx)::(w.dx,aN (eJ w c q m))::(w.d,aB m.held)::(w.dns,aA (aG m.dl))::(w.ns,aA (aG m.nl))::(w.pm,IsD W w.pm (pmV m.pm))::(w.ps,aA (m.ps.map .bool))::(aT m.nl++N)) hlz (S'.perm (by walk_at "zg";rw[hd];walk_at "perm")) ?_;clear S';intro s' S';rw[←hd]at S';have hfin:∀ a t1 t2 t3 loc2 s2,Sta W G (cQ L) loc2 ((a,aJ [.str (p++":"++l) t1,.str l t2,.str u t3])::(aT (cC (tup,u,p) m.dl)++((sp,aS W T n)::(w.x,bD 143 w.dx)::(w.dx,aN (eJ w c q m))::(w.d,aB m.held)::(w.dns,aA (aG m.dl))::(w.ns,aA (aG m.nl))::(w.pm,IsD W w.pm (pmV m.pm))::(w.ps,aA (m.ps.map .bool))::(aT m.nl++N)))) s2->Q (.ret (.ref a)) s2:=by
  intro a t1 t2 t3 loc2 s2 S2;refine k a tup t1 t2 t3 loc2 s2 (S2.perm ?_);simp only[aC,dC]
  walk_at "perm"
 walk_at "c";rw[Str.empty_append]at S';exact hfin _ _ _ _ _ _ S'
theorem qRw{L sp:Addr}{w:Wn}{c:Wc}{q:Addr}{m:Wm}{x u l:Str}{tq tu tl:Tok}{T:Str->Bool}{n:Nat}{vu vp:Option Value}{d0:List Lv}{lv:Lv}{sv:NSt}{tx:Str}{Q:Flow->Ac->Prop}(I:IsC W)(hA:Aok 13 A)(hrw:c.rw=true)(hd:m.dl=d0++[lv])(hlz:lv.ps.length<=1000)(hok:NsOk (bB m))(hll:l.length<=2500)(hul:u.length<=2500)(hno:eH u [] (flat (bB m).decl)=none)(hq:qnV c.rw (bB m) u l=some (tx,sv))(S':Sta W G (cQ L) (iU w.x x tq u tu l tl sp vu vp) ((sp,aS W T n)::aC W w c q m N) s)(k:∀ a dl pm t1 t2 t3 loc' s',bB { m with dl:=dl,pm:=pm }=sv->aG dl=aG m.dl->Sta W G (cQ L) loc' ((a,aJ [.str tx t1,.str l t2,.str u t3])::(sp,aS W T n)::aC W w c q { m with dl:=dl,pm:=pm } N) s'->Q (.ret (.ref a)) s'):Ad W.M A (execs ((aE cB).drop 3) (cQ L)) Q E s:=by
 have hcl:=I.cl;have hps:=hok.p1;have hpl:m.pm.length<=60:=by have:=hok.p2;simpa[bB]using this
 have hval:∀ tup p,(cC (tup,u,p) m.dl).map Lv.val=bY (u,p) (bB m).decl:=λ tup p=>fT _ _;unfold qnV at hq;rw[hno,if_pos hrw]at hq;have hfp:(bB m).pm.find? (λ q=>decide (q.1=u))=(m.pm.find? λ q=>decide (q.1=u)).map λ p=>(p.1,p.2.1):=aCk u m.pm;have hva:=mJ u m.pm;rw[hfp]at hq;walk_at "zd";simp only[iU,aC,eJ]at S';walk_at "zd";rw[hrw]at S';walk_at "c";refine Sta.inD S' (by walk_at "mem") ?_;clear S';intro s' S';rw[hva];cases hfd:m.pm.find? (λ q=>decide (q.1=u))with
 | some r=>
  rw[hfd]at hq hva;simp only[Option.map_some,Option.some.injEq,Prod.mk.injEq]at hq;obtain⟨rfl,rfl⟩:=hq;have hr:r.2.1.length<=1000:=by
   have:(r.1,r.2.1)∈(bB m).pm:=Aj.mpr ⟨r,List.mem_of_find?_eq_some hfd,rfl⟩;exact(hps _ this).2
  rw[show(Option.map (λ p:Str×Str×Tok=>Value.str p.2.1 p.2.2) (some r)).isSome=true from rfl];walk_at "c";refine Sta.subD S' (by walk_at "mem") hva ?_;clear S';intro s' S';refine Sta.store S' (by walk_at "put") ?_;clear S';intro s' S';walk_at "kn";have hkf:∀ a tup t1 t2 t3 loc' s',Sta W G (cQ L) loc' ((a,aJ [.str (r.2.1++":"++l) t1,.str l t2,.str u t3])::(sp,aS W T n)::aC W w c q { m with dl:=cC (tup,u,r.2.1) m.dl } N) s'->Q (.ret (.ref a)) s':=by
   intro a tup t1 t2 t3 loc' s' S2;refine k a (cC (tup,u,r.2.1) m.dl) m.pm t1 t2 t3 loc' s' ?_ (dC _ _) S2;show NSt.mk ((cC (tup,u,r.2.1) m.dl).map Lv.val) _ _=_;rw[hval]
   rfl
  refine aAs I hd hlz hll hr (by walk_at "zd";rw[←hrw]at S';exact S') ?_ _ rfl;intro a tup t1 t2 t3 loc' s' S2;walk_at "kv";exact hkf a tup t1 t2 t3 loc' s' S2
 | none=>
  rw[hfd]at hq hva;simp only[Option.map_none,Option.some.injEq,Prod.mk.injEq]at hq;obtain⟨rfl,rfl⟩:=hq;rw[show(Option.map (λ p:Str×Str×Tok=>Value.str p.2.1 p.2.2) none).isSome=false from rfl];have hnk:u∉(pmV m.pm).map (·.1):=by
   intro hm;obtain⟨a,ha,e⟩:=Aj.mp hm;obtain⟨b,hb,rfl⟩:=Aj.mp ha;have:=List.find?_eq_none.mp hfd b hb;simp at this;exact this e
  have hn1:("n":Str).length=1:=by decide +kernel
  have hpz:(pmV m.pm).length=m.pm.length:=Ai ..;walk_at "c";refine wpAny_Assign_two ?_ (by kernel_rfl) (by kernel_rfl);walk_at "c";refine Sta.builtin S' I.b_len kU (by kernel_rfl) ?_;walk_at "c";refine Sta.lenD S' (by walk_at "mem") (by walk_at "o") ?_;clear S';intro tn s' S';rw[hpz];refine Sta.fmtI S' (by walk_at "o") ?_;clear S';intro t3 s' S';have hds:(Str.ofString (toString (m.pm.length:Int))).length<=2:=pU ⟨m.pm.length,by walk_at "o"⟩;generalize hpx:(Str.ofString (toString (m.pm.length:Int)))=dg at S' hds ⊢;walk_at "c";rw[Str.empty_append]at S' ⊢;refine kas_sub ?_;walk_at "c";refine Sta.setItemD S' (by walk_at "upd") (by walk_at "o") ?_;clear S';intro s' S';walk_at "zd";rw[iL hnk]at S';walk_at "kn";have hpn:yH m.pm.length="n"++dg:=by rw[←hpx];rfl
  have hpl2:("n"++dg:Str).length<=1000:=by rw[Str.length_append];walk_at "o"
  have hnl:(bB m).pm.length=m.pm.length:=Ai ..;rw[hnl,hpn]at k;revert t';intro tz S';refine aAs (m:={ m with pm:=m.pm++[(u,"n"++dg,tz)] }) (p:="n"++dg) I hd hlz hll hpl2 (by
   walk_at "zd";rw[←hrw]at S';have e:pmV (m.pm++[(u,"n"++dg,tz)])=pmV m.pm++[(u,.str ("n"++dg) tz)]:=Aq;simp only[aC,eJ,e]
   exact S') ?_ _ rfl
  intro a tup t1 t2 t3 loc' s' S2;walk_at "kv";refine k a (cC (tup,u,"n"++dg) m.dl) (m.pm++[(u,"n"++dg,tz)]) t1 t2 t3 loc' s' ?_ (dC _ _) S2;show NSt.mk ((cC (tup,u,"n"++dg) m.dl).map Lv.val) _ ((m.pm++[(u,"n"++dg,tz)]).map _)=_;rw[hval,Aq]
  rfl
theorem gT{ls:List (List NsP)}{l:List NsP}(h:l∈ls):l.length<=(flat ls).length:=by
 have hm:l∈ls.reverse:=List.mem_reverse.mpr h;unfold flat;generalize ls.reverse=r at hm
 induction r with
 | nil=>cases hm
 | cons a r ih=>
  rw[List.flatten_cons,Ag];rcases Ax.mp hm with rfl | hm
  ·walk_at "o"
  ·have:=ih hm;walk_at "o"
theorem zA{u:Str}(h:u.length=0):u="":=Str.ext' (by rw[Str.len_list]at h;rw[Bz.mp h];decide +kernel)
theorem qTold{L sp:Addr}{w:Wn}{c:Wc}{q:Addr}{m:Wm}{x u l:Str}{tq tu tl:Tok}{T:Str->Bool}{n:Nat}{vu vp:Option Value}{d0:List Lv}{lv:Lv}{sv:NSt}{tx:Str}{Q:Flow->Ac->Prop}(I:IsC W)(hA:Aok 13 A)(hd:m.dl=d0++[lv])(hlz:lv.ps.length<=1000)(hok:NsOk (bB m))(hll:l.length<=2500)(hul:u.length<=2500)(hq:(match(flat (bB m).nss).find? (λ q=>decide (q.1=u))with
   | some q=>some (kD q.2 l,{ bB m with decl:=bY (u,q.2) (bB m).decl })
   | none=>if u="" then some (l,bB m)else none)=some (tx,sv))(S':Sta W G (cQ L) (iU w.x x tq u tu l tl sp vu vp) ((sp,aS W T n)::aC W w c q m N) s)(k:∀ a dl pm X t1 t2 t3 loc' s',bB { m with dl:=dl,pm:=pm }=sv->aG dl=aG m.dl->Sta W G (cQ L) loc' ((a,aJ [.str tx t1,.str l t2,.str u t3])::(X++aC W w c q { m with dl:=dl,pm:=pm } N)) s'->Q (.ret (.ref a)) s'):Ad W.M A (execs ((aE cB).drop 5) (cQ L)) Q E s:=by
 have hcl:=I.cl;have hval:∀ tup p,(cC (tup,u,p) m.dl).map Lv.val=bY (u,p) (bB m).decl:=λ tup p=>fT _ _;have hxs:(lW m.nl).map (·.2)=flat (bB m).nss:=nG m.nl;have hlv:(m.nl.map λ l=>(l.a,aF l.ps)).map (λ p=>Value.ref p.1)=aG m.nl:=by simp[aG]
 walk_at "zd";refine bQ rfl ?_;refine wpAny_For ?_ (by intro _;kernel_rfl);walk_at "c";refine Sta.getM_inst (f:=68) S' hcl (by walk_at "mem") (by walk_at "mem") VV.keys (by decide +kernel) (by rw[I.k];kernel_rfl) (by rw[I.k];kernel_rfl) ?_;walk_at "c";refine aAU (N:=iH W w c q m m.dl ((sp,aS W T n)::(w.d,aB m.held)::(w.pm,IsD W w.pm (pmV m.pm))::(w.ps,aA (m.ps.map .bool))::N)) (sh:=(w.ns,aA (aG m.nl))::aT m.nl)
  (lv:=m.nl.map λ l=>(l.a,aF l.ps)) I (S'.perm (by walk_at "perm")) (hA.le (by decide)) (by rw[hlv];exact .head _) ?_ ?_
 ·intro p hp;obtain⟨l,hl,rfl⟩:=Aj.mp hp;refine⟨.tail _ (kI hl),?_⟩;have h1:=gT (ls:=(bB m).nss) (Aj.mpr ⟨l,hl,rfl⟩);have h2:=hok.n2;have h3:l.val.length=(aF l.ps).length:=by simp[Lv.val,aF]
  rw[Aw];show(aF l.ps).length<=_;walk_at "o"
 clear S';intro ga g own gs s' S' hy;refine S'.iterGen (g:=g) (by simp) ?_;rw[qU]at hy;walk_at "zd";rw[hd]at S';refine aDY (xs:=lW m.nl) (sh:=(w.ns,aA (aG m.nl))::aT m.nl) (d0:=d0) (lv:=lv) I (hA.le (by decide)) (λ r hr=>.tail _ (nH hr)) (λ r hr=>hok.n1 _ (by rw[←hxs];exact Aj.mpr ⟨r,hr,rfl⟩)) (by walk_at "o") hlz S' (dT hy) ?_ ?_ _ _ rfl rfl
 ·clear S';intro p a tup t1 t2 t3 loc' s' hf S';rw[hxs]at hf;rw[hf]at hq;simp only[Option.some.injEq,Prod.mk.injEq]at hq;obtain⟨rfl,rfl⟩:=hq;walk_at "zd";rw[←hd]at S';refine k a (cC (tup,u,p) m.dl) m.pm [(sp,aS W T n)] t1 t2 t3 loc' s' ?_ (dC _ _) (S'.perm ?_)
  ·show NSt.mk ((cC (tup,u,p) m.dl).map Lv.val) _ _=_;rw[hval];rfl
  ·dsimp only[aC,iH,dC]
   walk_at "perm"
 ·clear S';intro vu vp s' hf S';refine cJ S' ?_;clear S';intro lq Mq S';rw[hxs]at hf;rw[hf]at hq;walk_at "zd";rw[←hd]at S'
  by_cases hu:u=""
  ·simp only[if_pos hu,Option.some.injEq,Prod.mk.injEq]at hq;obtain⟨rfl,rfl⟩:=hq;have hul0:u.length=0:=by rw[hu];decide +kernel
   have hfin:∀ a t1 t2 t3 loc2 s2,Sta W G (cQ L) loc2 ((a,aJ [.str l t1,.str l t2,.str u t3])::(iH W w c q m m.dl ((sp,aS W T n)::(w.d,aB m.held)::(w.pm,IsD W w.pm (pmV m.pm))::(w.ps,aA (m.ps.map .bool))::N)++((w.ns,aA (aG m.nl))::aT m.nl))) s2->Q (.ret (.ref a)) s2:=by
    intro a t1 t2 t3 loc2 s2 S2;refine k a m.dl m.pm [(sp,aS W T n)] t1 t2 t3 loc2 s2 rfl rfl (S2.perm ?_);simp only[aC,iH]
    walk_at "perm"
   walk_at "zd";walk_at "c";refine cL S' (by walk_at "o") (λ _=>?_) (λ h=>absurd hul0 h);clear S';intro s' S';walk_at "c";exact hfin _ _ _ _ _ _ S'
  ·simp only[if_neg hu]at hq;exact iR hq
theorem qKeep{L sp:Addr}{w:Wn}{c:Wc}{q:Addr}{m:Wm}{x u l:Str}{tq tu tl:Tok}{T:Str->Bool}{n:Nat}{vu vp:Option Value}{d0:List Lv}{lv:Lv}{sv:NSt}{tx:Str}{Q:Flow->Ac->Prop}(I:IsC W)(hA:Aok 13 A)(hrw:c.rw=false)(hd:m.dl=d0++[lv])(hlz:lv.ps.length<=1000)(hok:NsOk (bB m))(hll:l.length<=2500)(hul:u.length<=2500)(hT:∀ k,T k=decide (k∈(flat (bB m).decl).map (·.2)))(hn:n<=60)(hno:eH u [] (flat (bB m).decl)=none)(hq:qnV c.rw (bB m) u l=some (tx,sv))(S':Sta W G (cQ L) (iU w.x x tq u tu l tl sp vu vp) ((sp,aS W T n)::aC W w c q m N) s)(k:∀ a dl pm X t1 t2 t3 loc' s',bB { m with dl:=dl,pm:=pm }=sv->aG dl=aG m.dl->Sta W G (cQ L) loc' ((a,aJ [.str tx t1,.str l t2,.str u t3])::(X++aC W w c q { m with dl:=dl,pm:=pm } N)) s'->Q (.ret (.ref a)) s'):Ad W.M A (execs ((aE cB).drop 3) (cQ L)) Q E s:=by
 have hcl:=I.cl;have hsb:n<Bt:=AO hn (by decide);have hval:∀ tup p,(cC (tup,u,p) m.dl).map Lv.val=bY (u,p) (bB m).decl:=λ tup p=>fT _ _;unfold qnV at hq;rw[hno,if_neg (by rw[hrw];decide)]at hq;walk_at "zd";walk_at "c";refine aEp hrw ?_;walk_at "c";have htold:(¬(u=""/\("":Str)∉(flat (bB m).decl).map (·.2)))->∀ s2,Sta W G (cQ L) (iU w.x x tq u tu l tl sp vu vp) ((sp,aS W T n)::aC W w c q m N) s2->Ad W.M A (execs ((aE cB).drop 5) (cQ L)) Q E s2:=by
  intro hc s2 S2;rw[if_neg hc]at hq;exact qTold I hA hd hlz hok hll hul hq S2 k
 refine cL S' (by walk_at "o") (λ h0=>?_) (λ h0=>?_)
 ·clear S';intro s' S';have hu:=zA h0;walk_at "c";cases hTe:T "" with
  | true=>
   refine cP ?_;walk_at "st";refine htold ?_ _ S'
   rintro⟨_,h⟩
   rw[hT]at hTe;exact h (of_decide_eq_true hTe)
  | false=>
   have hne:("":Str)∉(flat (bB m).decl).map (·.2):=by
    rw[hT]at hTe;exact of_decide_eq_false hTe
   rw[if_pos ⟨hu,hne⟩]at hq;simp only[Option.some.injEq,Prod.mk.injEq]at hq;obtain⟨rfl,rfl⟩:=hq;have hfin:∀ a t1 t2 t3 loc2 s2,Sta W G (cQ L) loc2 ((a,aJ [.str l t1,.str l t2,.str u t3])::(sp,aS W T n)::aC W w c q m N) s2->Q (.ret (.ref a)) s2:=λ a t1 t2 t3 loc2 s2 S2=>k a m.dl m.pm [(sp,aS W T n)] t1 t2 t3 loc2 s2 rfl rfl S2;refine dK ?_;walk_at "c";exact hfin _ _ _ _ _ _ S'
 ·clear S';intro s' S';walk_at "st";refine htold ?_ _ S'
  rintro⟨h,_⟩
  rw[h]at h0;exact h0 (by decide +kernel)
theorem aCv{m:Wm}(h:NsOk (bB m)):∃ d0 lv,m.dl=d0++[lv]/\lv.ps.length<=60:=by
 have hne:m.dl≠[]:=λ e=>h.ne (by show m.dl.map Lv.val=[];rw[e];rfl);refine⟨m.dl.dropLast,m.dl.getLast hne,(Az hne).symm,?_⟩;have h1:=gT (ls:=(bB m).decl) (Aj.mpr ⟨m.dl.getLast hne,List.getLast_mem hne,rfl⟩);have h2:=h.d2;have h3:(m.dl.getLast hne).val.length=(m.dl.getLast hne).ps.length:=Ai ..;walk_at "o"
theorem wO{w:Wn}{c:Wc}{q:Addr}{m:Wm}{x u l:Str}{t:Tok}{sv:NSt}{tx:Str}{R:Result->Ac->Prop}(I:IsC W)(S:Sta W G env loc (aC W w c q m N) s)(hA:Aok 14 A)(hx:NmOk x u l)(hok:NsOk (bB m))(hq:qnV c.rw (bB m) u l=some (tx,sv))(k:∀ a dl pm t1 t2 t3 s',bB { m with dl:=dl,pm:=pm }=sv->aG dl=aG m.dl->Sta W G env loc ((a,aJ [.str tx t1,.str l t2,.str u t3])::aC W w c q { m with dl:=dl,pm:=pm } N) s'->R (.ok (.ret (.ref a))) s'):codeAny W.M A (.call (.ref 83) ⟨[.ref w.x,.str x t],[]⟩) R s:=by
 obtain⟨d0,lv,hd,hlz⟩:=aCv hok;refine S.code_fn (binds:=[("self",.ref w.x),("qname",.str x t),("uri",.none)]) ["tag","prefixes_seen","u","prefix"] I.f_qname hA.room ?_ (by kernel_rfl) ?_
 ·intro name doc pm ct an;exact kp_binds S.kin λ S=>by rw[I.k];kernel_rfl
 intro L s' S';have hA':=hA.deeper (env:=cQ L);walk_at "zd";have hcl:=I.cl;have hxs:(lW m.dl).map (·.2)=flat (bB m).decl:=nG m.dl;have hlv:(m.dl.map λ l=>(l.a,aF l.ps)).map (λ p=>Value.ref p.1)=aG m.dl:=by simp[aG]
 have hxl:(lW m.dl).length=(flat (bB m).decl).length:=by rw[←hxs,Ai]
 have hd2:=hok.d2;have hll:=hx.ll;have hfin:∀ a dl pm X t1 t2 t3 loc2 s2,bB { m with dl:=dl,pm:=pm }=sv->aG dl=aG m.dl->Sta W G (cQ L) loc2 ((a,aJ [.str tx t1,.str l t2,.str u t3])::(X++aC W w c q { m with dl:=dl,pm:=pm } ((env.locals,aL loc)::N))) s2->R (.ok (.ret (.ref a))) s2:=by
  intro a dl pm X t1 t2 t3 loc2 s2 h1 h2 S2;refine k a dl pm t1 t2 t3 s2 h1 h2 (Sta.back (S2.sel (Sel.rest X ?_)) S.eok);simp only[aC]
  walk_at "perm"
 refine aM ?_;refine qHead (w:=w) (c:=c) (q:=q) (m:=m) I hA' hx S' ?_;clear S';intro sp X tu tl s' S';refine bQ rfl ?_;refine wpAny_For ?_ (by intro _;kernel_rfl);replace S':=S'.perm (nw':=(sp,aS W (λ _=>false) 0)::aC W w c q m ((env.locals,aL loc)::(X++N))) (by simp only[aC];walk_at "perm");walk_at "zd";walk_at "c";refine Sta.getM_inst (f:=68) S' hcl (by walk_at "mem") (by walk_at "mem") VV.keys (by decide +kernel) (by rw[I.k];kernel_rfl) (by rw[I.k];kernel_rfl) ?_;walk_at "c";refine aAU (N:=(sp,aS W (λ _=>false) 0)::(w.x,bD 143 w.dx)::(w.dx,aN (eJ w c q m))::(w.d,aB m.held)::(w.ns,aA (aG m.nl))::(w.pm,IsD W w.pm (pmV m.pm))::(w.ps,aA (m.ps.map .bool))::(aT m.nl++((env.locals,aL loc)::(X++N)))) (sh:=(w.dns,aA (aG m.dl))::aT m.dl)
  (lv:=m.dl.map λ l=>(l.a,aF l.ps)) I (S'.perm (by walk_at "perm")) (hA'.le (by decide)) (by rw[hlv];exact .head _) ?_ ?_
 ·intro p hp;obtain⟨l,hl,rfl⟩:=Aj.mp hp;refine⟨.tail _ (kI hl),?_⟩;have h1:=gT (ls:=(bB m).decl) (Aj.mpr ⟨l,hl,rfl⟩);have h3:l.val.length=(aF l.ps).length:=by simp[Lv.val,aF]
  rw[Aw];show(aF l.ps).length<=_;walk_at "o"
 clear S';intro ga g own gs s' S' hy;refine S'.iterGen (g:=g) (by simp) ?_;rw[qU]at hy;have hul:=hx.ul;refine aDZ (x:=w.x) (xs:=lW m.dl) (sh:=(w.dns,aA (aG m.dl))::aT m.dl) (hA'.le (by decide)) (λ r hr=>.tail _ (nH hr)) (by walk_at "o") (λ r hr=>hok.d1 _ (by rw[←hxs];exact Aj.mpr ⟨r,hr,rfl⟩)) (by walk_at "o") S' (dT hy) ?_ ?_ _ _ rfl rfl
 ·clear S';intro p a t1 t2 t3 loc' s' hf S';rw[hxs]at hf;unfold qnV at hq;rw[hf]at hq;simp only[Option.some.injEq,Prod.mk.injEq]at hq;obtain⟨rfl,rfl⟩:=hq;refine hfin a m.dl m.pm X t1 t2 t3 loc' s' rfl rfl (S'.perm ?_);simp only[aC]
  walk_at "perm"
 ·clear S';intro vu vp T n s' hno hT hn S';rw[hxs]at hno;have hT2:∀ k,T k=decide (k∈(flat (bB m).decl).map (·.2)):=by
   intro k;rw[hT k,←hxs,AW]
   rfl
  have S2:=S'.perm (nw':=(sp,aS W T n)::aC W w c q m ((env.locals,aL loc)::(X++N))) (by simp only[aC];walk_at "perm");cases hrw:c.rw with
  | true=>
   refine qRw I hA' hrw hd (by walk_at "o") hok hll hul hno hq S2 ?_;intro a dl pm t1 t2 t3 loc2 s2 h1 h2 S3;refine hfin a dl pm ((sp,aS W T n)::X) t1 t2 t3 loc2 s2 h1 h2 (S3.perm ?_);walk_at "perm"
  | false=>
   refine qKeep I hA' hrw hd (by walk_at "o") hok hll hul hT2 (by walk_at "o") hno hq S2 ?_;intro a dl pm Y t1 t2 t3 loc2 s2 h1 h2 S3;refine hfin a dl pm (Y++X) t1 t2 t3 loc2 s2 h1 h2 (S3.perm ?_);walk_at "perm"
noncomputable def nmU(x:Str):Str:=if Txt.slice x none (some 1)="{" then(Txt.rsplitMax (Txt.slice x (some 1) none) "}" 1).getD 0 "" else ""
noncomputable def nmL(x:Str):Str:=if Txt.slice x none (some 1)="{" then(Txt.rsplitMax (Txt.slice x (some 1) none) "}" 1).getD 1 "" else x
noncomputable def NmG(x:Str):Prop:=NmOk x (nmU x) (nmL x)
noncomputable def lY(x tx:Str):Cell:=λ o=>∃ t1 t2 t3,aJ [.str tx t1,.str (nmL x) t2,.str (nmU x) t3] o
structure Pq where
 x:Str
 a:Addr
 tx:Str
noncomputable def bJ(pl:List Pq):Lg:=pl.map λ p=>(p.a,lY p.x p.tx)
noncomputable def pqD(pl:List Pq):List (Str×Value):=pl.map λ p=>(p.x,.ref p.a)
noncomputable def eZ(rw:Bool):NSt->List Str->Option (List (Str×Str)×NSt)
 | s,[]=>some ([],s)
 | s,x::r=>(qnV rw s (nmU x) (nmL x)).bind λ p=>(eZ rw p.2 r).map λ q=>((x,p.1)::q.1,q.2)
theorem mX{rw:Bool}{s:NSt}{x:Str}{r:List Str}:eZ rw s (x::r)=(qnV rw s (nmU x) (nmL x)).bind λ p=>(eZ rw p.2 r).map λ q=>((x,p.1)::q.1,q.2):=rfl
noncomputable def zE(rw:Bool):NSt->List Str->Prop
 | s,[]=>True
 | s,x::r=>NsOk s/\∃ p,qnV rw s (nmU x) (nmL x)=some p/\zE rw p.2 r
noncomputable abbrev mE(p:Pos):Arguments:=⟨[],[⟨"n",none,p⟩],none,[],[],none,[]⟩
noncomputable abbrev mD(p1 p2 p3 p4 p5:Pos):Expr:=.Call (.Attribute (.Name "n" p1) "split" p2) [.Constant (.str "}") 0 p3,.Constant (.int 1) 0 p4] [] p5
noncomputable abbrev jS:Scope:={ kind:=.function,names:=[(Str.ofString "n",.local)],isGenerator:=false,isCoroutine:=false,more:=[] }
noncomputable abbrev aA6:Scope:={ kind:=.function,names:=[(Str.ofString ".0",.local),(Str.ofString "n",.local),(Str.ofString "parse_qname",.free)],isGenerator:=false,isCoroutine:=false,more:=[] }
noncomputable abbrev aDE:Str:="C14NWriterTarget._start"
noncomputable abbrev aH:Str:="C14NWriterTarget._start.<locals>.<lambda>"
noncomputable abbrev aZ(L:Addr):Env:=envOfC aDE (aD aQ) L 119 (.ref 118)
noncomputable def bI(x:Str):List Str:=Txt.splitMax x "}" 1
section
variable {w:Wn}{c:Wc}{q:Addr}{m:Wm}
theorem lam_{f c':Addr}{clos:List (Str×Addr)}{qual x:Str}{t:Tok}{p0 p1 p2 p3 p4 p5:Pos}{Q:Value->Ac->Prop}(S:Sta W G env loc nw s)(hA:Aok 2 A)(mf:(f,oJ qual (mE p0) (mD p1 p2 p3 p4 p5) jS clos c')∈nw)(mc:(c',mF qual)∈nw)(hx:x.length<=3000)(hl:(p2.endLine==p5.line)=true)(k:∀ a s',Sta W G env loc ((a,aB (bI x))::nw) s'->Q (.ref a) s'):Ad W.M A (call (.ref f) [.str x t]) Q E s:=by
 refine S.call_lam (binds:=[("n",.str x t)]) mf mc hA.room (λ pm ctv=>by kernel_rfl) (by kernel_rfl) ?_;intro L s' S';walk_at "zd";simp only[aW,An,AF,Av,Ay]at S';refine jF ?_ rfl rfl hl;walk_at "c";refine lI ?_;walk_at "c";refine S'.splitMax (by decide +kernel) (by decide +kernel) (by walk_at "o") ?_;clear S';intro a s' S';exact k a s' (Sta.back (S'.perm (List.Perm.swap ..)) S.eok)
theorem aAu(pl:List Pq):(pqD pl).map (·.1)=pl.map (·.x):=by simp[pqD,AW,Function.comp_def]
theorem aD6{α:Type}(f a:α)(T R:List α):List.Perm (f::(T++a::R)) (a::f::(T++R)):=(AM.cons _).trans (List.Perm.swap ..)
noncomputable abbrev lamX(p0 p1 p2 p3 p4 p5 lp:Pos):Expr:=.Lambda (mE p0) (mD p1 p2 p3 p4 p5) jS lp
noncomputable abbrev pqX(p0 p1 p2 p3 p4 p5 lp k1 k2 k3 k4 k5 k6 k7 k8 k9 k10:Pos):Expr:=.DictComp (.Name "n" k1) (.Call (.Name "parse_qname" k2) [.Name "n" k3] [] k4) [⟨.Name "n" k5,.Call (.Name "sorted" k6) [.Name "qnames" k7] [⟨some "key",lamX p0 p1 p2 p3 p4 p5 lp,k8⟩] k9,[],0⟩] aA6 k10
structure PqS where
 vn:Option Value
 pl:List Pq
 dl:List Lv
 pm:List (Str×Str×Tok)
theorem uS{rw:Bool}{st s1 sv:NSt}{x tx:Str}{r:List Str}{rr:List (Str×Str)}(h:eZ rw st (x::r)=some (rr,sv))(e:qnV rw st (nmU x) (nmL x)=some (tx,s1)):∃ rr',eZ rw s1 r=some (rr',sv)/\rr=(x,tx)::rr':=by
 rw[mX,e]at h;simp only[Option.bind_some,Option.map_eq_some_iff,Prod.mk.injEq]at h;obtain⟨⟨rr',sv'⟩,hra,rfl,rfl⟩:=h;exact⟨rr',hra,rfl⟩
theorem pq_{b1 b2:Pos}{loc2:Addr->Loc}{L qs c2 bm:Addr}{c?:Option Addr}{ss:List Str}{res:List (Str×Str)}{sv:NSt}{p0 p1 p2 p3 p4 p5 lp k1 k2 k3 k4 k5 k6 k7 k8 k9 k10:Pos}{Q:Flow->Ac->Prop}(I:IsC W)(C:CodeHd W.B 118 116)(hA:Aok 20 A)(hsw:swapsWith (pqX p0 p1 p2 p3 p4 p5 lp k1 k2 k3 k4 k5 k6 k7 k8 k9 k10) (some (.Name "parsed_qnames" b1)) b2.line (aZ L)=pure true)(hput:∀ acc,Put "parsed_qnames" (some (.ref acc)) loc (loc2 acc))(hl:(p2.endLine==p5.line)=true)(hpq:ClO (aZ L) .cell "parse_qname" c2)(hq:(("qnames":Str),some (Value.ref qs))∈loc)(hnd:ss.Nodup)(hpl:∀ x∈ss,NmG x)(h4:ss.length<=4)(hinj:∀ x∈ss,∀ y∈ss,bI x=bI y->x=y)(hok:zE c.rw (bB m) (srt (ltK bI) ss))(hres:eZ c.rw (bB m) (srt (ltK bI) ss)=some (res,sv))(S':Sta W G (aZ L) loc (aP 116 lp aH c?++((qs,bZ W ss)::(c2,aU (some (.ref bm)))::(bm,eA 83 (.ref w.x))::aC W w c q m N)) s)(k:∀ acc pl dl pm c' s',pl.map (λ p=>(p.x,p.tx))=res->bB { m with dl:=dl,pm:=pm }=sv->aG dl=aG m.dl->Sta W G (aZ L) (loc2 acc) ((acc,IsD W acc (pqD pl))::(c2,aU (some (.ref bm)))::aC W w c q { m with dl:=dl,pm:=pm } (bJ pl++(aP 116 lp aH (some c')++N))) s'->Q .next s'):Ad W.M A (exec (.Assign [.Name "parsed_qnames" b1] (pqX p0 p1 p2 p3 p4 p5 lp k1 k2 k3 k4 k5 k6 k7 k8 k9 k10) b2) (aZ L)) Q E s:=by
 refine oH (cl:=[("parse_qname",c2)]) ["n"] hsw (lK (by kernel_rfl) hpq) (by kernel_rfl) rfl rfl ?_ (by intro _;kernel_rfl);refine xL ?_ (by kernel_rfl);refine Sta.builtin S' I.b_sorted pV (by kernel_rfl) ?_;refine callWith_kw ?_ (by kernel_rfl) (by kernel_rfl) (by kernel_rfl) (by kernel_rfl);refine eR ?_ (by kernel_rfl);refine S'.local_ hq ?_;refine args_nil ?_;refine kws_cons ?_;refine Sta.lambda S' (by kernel_rfl) (clos:=[]) (by kernel_rfl) rfl C ?_;clear S';intro f c' s' S';refine kws_nil ?_;have S2:Sta W G (aZ L) loc ((qs,bZ W ss)::(f,oJ aH (mE p0) (mD p1 p2 p3 p4 p5) jS [] c')::(aP 116 lp aH (some c')++((c2,aU (some (.ref bm)))::(bm,eA 83 (.ref w.x))::aC W w c q m N))) s':=S'.perm (aD6 _ _ _ _);refine S2.sortedSetS (kp:=bI) (hA.le (by walk_at "o")) h4 hinj (λ x t L0 s3 Q' hx S3 kk=>?_) λ l s3 S3=>?_
 ·refine lam_ S3 ((hA.in1.in1).le (by walk_at "o")) (f:=f) (c':=c') (Af _ (.tail _ (.head _))) (Af _ (.tail _ (.tail _ (.tail _ (.head _))))) (by have:=(hpl x hx).len;walk_at "o") hl kk
 have hp:(srt (ltK bI) ss).Perm ss:=bP ss;generalize srt (ltK bI) ss=ss' at S3 hp hok hres;refine S3.iterT .head λ it vs s4 ht S4=>?_;refine⟨_,_,_,S4,?_⟩;intro acc Cc s5 eok S5;refine tO rfl rfl jH (S5.get (.tail _ (.tail _ (.head _)))) ?_;have hnd':ss'.Nodup:=hp.nodup_iff.mpr hnd;have Y:LY W [(l,aA vs)] it vs [(it,bG l 0)]:=dJ (own₀:=[]) (by simp) vs 0 rfl;refine aA4 (sh:=[(l,aA vs)]) (f:=λ(x:Str) t=>.str x t) (hA.le (by walk_at "o")) (G:=G) (og:=[]) (own:=[(it,bG l 0)]) (λ(v:PqS) _=>[("n",v.vn)]) (λ v _=>(acc,IsD W acc (pqD v.pl))::((aZ L).locals,aL loc)::(c2,aU (some (.ref bm)))::(bm,eA 83 (.ref w.x))::aC W w c q { m with dl:=v.dl,pm:=v.pm } (bJ v.pl++(aP 116 lp aH (some c')++N)))
  (λ v dn=>v.pl.map (·.x)=dn/\aG v.dl=aG m.dl/\∀ rest,ss'=dn++rest->zE c.rw (bB { m with dl:=v.dl,pm:=v.pm }) rest/\∃ rr,eZ c.rw (bB { m with dl:=v.dl,pm:=v.pm }) rest=some (rr,sv)/\v.pl.map (λ p=>(p.x,p.tx))++rr=res)
  (oB ..) (rP ht Y.yields) ⟨none,[],m.dl,m.pm⟩ ⟨rfl,rfl,λ rest e=>by rw[←show ss'=rest from e];exact⟨hok,res,hres,rfl⟩⟩ ?_ ?_ ?_
 rotate_left 2
 ·intro x dn rest t tl tg v s6 K hss hH S6 kk;obtain⟨hpx,hdl,hR⟩:=hH;obtain⟨hok,q0⟩:=hR _ hss;obtain⟨rr,hres,hpr⟩:=q0;obtain⟨hns,⟨tx,s1⟩,hqv,hok1⟩:=hok;obtain⟨rr',hra,hrr⟩:=uS hres hqv;refine wpAny_assign_Name (S6.store .head λ s' S'=>?_);refine Aa ?_;refine S'.local_ (.head _) ?_;refine Aa (AB ?_);refine Call_ ?_ (by kernel_rfl);refine Sta.cell S' ⟨by kernel_rfl,rfl,by decide +kernel,by decide +kernel⟩ (c:=c2) (.tail _ (.tail _ (.head _))) ?_;refine aCH (f:=83) (self:=.ref w.x) (by rw[I.k];kernel_rfl) ?_ (by kernel_rfl) (by kernel_rfl);refine eR ?_ (by kernel_rfl);refine S'.local_ (.head _) ?_;refine args_nil ?_;refine⟨S'.methP (.tail _ (.tail _ (.tail _ (.head _)))),?_⟩;refine S'.callMeth (.tail _ (.tail _ (.tail _ (.head _)))) ?_;have hxs:x∈ss':=by rw[hss];simp
  have S7:=S'.perm (nw':=aC W w c q { m with dl:=v.dl,pm:=v.pm } ((acc,IsD W acc (pqD v.pl))::((aZ L).locals,aL loc)::(c2,aU (some (.ref bm)))::(bm,eA 83 (.ref w.x))::((bJ v.pl++(aP 116 lp aH (some c')++N))++([(l,aA vs)]++tl)))) (by simp only[aC];walk_at "perm");refine wO I S7 (hA.le (by walk_at "o")) (hpl x (hp.mem_iff.mp hxs)) hns hqv ?_;intro a dl' pm' t1 t2 t3 s7 hs1 hdl' S8;have hs1:bB { m with dl:=dl',pm:=pm' }=s1:=hs1;have hdl2:aG dl'=aG m.dl:=hdl'.trans hdl;have S8:=S8.tell (c':=lY x tx) .head λ o _ ho=>⟨t1,t2,t3,ho⟩
  have S9:=S8.perm (nw':=(acc,IsD W acc (pqD v.pl))::((aZ L).locals,aL loc)::(c2,aU (some (.ref bm)))::(bm,eA 83 (.ref w.x))::(aC W w c q { m with dl:=dl',pm:=pm' } (bJ (v.pl++[⟨x,a,tx⟩])++(aP 116 lp aH (some c')++N))++([(l,aA vs)]++tl))) (by
   simp only[aC,bJ,Aq,An,AF];walk_at "perm")
  refine Aa (AQ (AB ?_));have hnx:x∉(pqD v.pl).map (·.1):=by
   rw[aAu,hpx];intro m;rw[hss,Be]at hnd';exact hnd'.2.2 x m x (.head _) rfl
  have hlen:(pqD v.pl).length<=64:=by
   have h1:=congrArg A8 hss;have h2:=hp.length_eq;have h3:=congrArg A8 hpx;simp only[pqD,Ai,Ag]at h1 h3 ⊢;walk_at "o"
  refine S9.dictSet (x:=x) (v:=.ref a) .head (by walk_at "osz") λ s8 S10=>?_;rw[iL hnx]at S10;refine kk ⟨some (.str x t),v.pl++[⟨x,a,tx⟩],dl',pm'⟩ _ ⟨by rw[Aq,hpx];rfl,hdl2,λ rest' e=>?_⟩ ?_
  ·rw[←lA hss e,hs1];exact⟨hok1,rr',hra,by rw[←hpr,hrr,Aq,Ah];rfl⟩
  ·have e:pqD (v.pl++[⟨x,a,tx⟩])=pqD v.pl++[(x,.ref a)]:=by simp[pqD]
   show Sta _ _ _ _ ((acc,IsD W acc (pqD (v.pl++[⟨x,a,tx⟩])))::_) _;rw[e];exact S10
 ·rw[Am];refine S5.sel (Sel.trans (Sel.of_perm (L2:=(f,oJ aH (mE p0) (mD p1 p2 p3 p4 p5) jS [] c')::(qs,bZ W ss)::((acc,IsD W acc (pqD []))::((aZ L).locals,aL loc)::(c2,aU (some (.ref bm)))::(bm,eA 83 (.ref w.x))::aC W w c q m (bJ []++(aP 116 lp aH (some c')++N)))++([(l,aA vs)]++[(it,bG l 0)])) ?_) (Sel.drop (Sel.drop (Sel.refl _))));simp only[aC,bJ,pqD,AF]
  walk_at "perm"
 ·intro v s6 hH S6;obtain⟨hpx,hdl,hR⟩:=hH;obtain⟨_,q0⟩:=hR [] (Am _).symm;obtain⟨rr,hres,hpr⟩:=q0;obtain⟨hr0,hsv⟩:=Prod.mk.inj (Option.some.inj hres);rw[←hr0,Am]at hpr;refine CompEndA.mk (loc':=[("n",v.vn)]) (loc2:=loc2 acc) (G':=G) (nw':=(acc,IsD W acc (pqD v.pl))::(c2,aU (some (.ref bm)))::aC W w c q { m with dl:=v.dl,pm:=v.pm } (bJ v.pl++(aP 116 lp aH (some c')++N))) ?_ (hput acc) λ s7 S7=>k acc v.pl v.dl v.pm c' s7 hpr hsv hdl S7;exact S6.sel (Sel.rest [(l,aA vs),(bm,eA 83 (.ref w.x))] (by simp only[aC];walk_at "perm"))
end
noncomputable def d2:NsP:=("","")
theorem nY{prog:Program}{w:World}{A:AL}{E:Value->Ac->Prop}{s:Ac}{x y:Str}{t u:Tok}{Q:Bool->Ac->Prop}(h:Q (decide (x=y)) s):Ad (model prog w) A (eqBool (.str x t) (.str y u)) Q E s:=nZ prog w E Q h
theorem aBT{prog:Program}{w:World}{A:AL}{E:Value->Ac->Prop}{s:Ac}{x y:Str}{t u:Tok}{Q:Bool->Ac->Prop}(h:Q (ltS x y) s):Ad (model prog w) A (oneLt' false (.str x t) (.str y u)) Q E s:=
 kat_one _ _ (PyProof.Rows.lt_str h)
theorem aBQ{prog:Program}{w:World}{A:AL}{E:Value->Ac->Prop}{s:Ac}{a b:Addr}{p q:NsP}{Q:Bool->Ac->Prop}(ha:∃ o,s.heap.get? a=some o/\dP p o)(hb:∃ o,s.heap.get? b=some o/\dP q o)(h:Q (lt2 p q) s):Ad (model prog w) A (keyLt' (tuples' true) (.ref a) (.ref b)) Q E s:=by
 obtain⟨oa,hoa,q0⟩:=ha;obtain⟨t1,t2,n1,rfl⟩:=q0;obtain⟨ob,hob,q0⟩:=hb;obtain⟨u1,u2,n2,rfl⟩:=q0;refine kat_lt (b:=true) hoa rfl hob rfl ?_;unfold lt2 at h;refine kat_cons (nY ?_)
 by_cases e1:p.1=q.1
 ·rw[if_pos e1]at h;rw[decide_eq_true e1];refine kat_yes (kat_cons (nY ?_))
  by_cases e2:p.2=q.2
  ·rw[decide_eq_true e2];refine kat_yes (kat_nil ?_);have:ltS p.2 q.2=false:=by rw[e2];exact tot_str.irr _
   rw[this]at h;exact h
  ·rw[decide_eq_false e2];exact kat_no (aBT h)
 ·rw[if_neg e1]at h;rw[decide_eq_false e1];exact kat_no (oneLt_str h)
theorem nP{h:Heap}:∀{ps:List (Addr×NsP)},(∀ r∈ps,∃ o,h.get? r.1=some o/\dP r.2 o)->∃ fs,KatTups h (aF ps) fs/\fs.length=ps.length/\∀ v∈fs,∃ x t,v=.str x t
 | [],_=>⟨[],trivial,rfl,λ v hv=>by cases hv⟩
 | r::ps,H=>by
  obtain⟨fs,h1,h2,h3⟩:=nP (ps:=ps) λ q hq=>H q (.tail _ hq);obtain⟨o,ho,q0⟩:=H r (.head _);obtain⟨t,u,n,rfl⟩:=q0;refine⟨.str r.2.1 t::fs,⟨⟨r.1,_,_,_,rfl,ho,rfl,rfl,rfl⟩,h1⟩,by simp[h2],λ v hv=>?_⟩;rcases Ax.mp hv with rfl | hv
  ·exact⟨_,_,rfl⟩
  ·exact h3 v hv
theorem Sta.sortG{α β:Type}{ref:α->Value}{val:α->β}{lt:β->β->Bool}{κ:SortKind}(T:Tot lt)(d:α){l:Addr}{ps:List α}{Q:Value->Ac->Prop}(h4:ps.length<=4)(S:Sta W G env loc ((l,aA (ps.map ref))::N) s)(hk:∀ c s' (Q':SortKind->Ac->Prop),2<=ps.length->Sta W G env loc ((l,c)::N) s'->Q' κ s'->Ad W.M A.in1 (keyKind' (ps.map ref).toArray) Q' E s')(hc:∀ c s' x y (E':Value->Ac->Prop) (C:Bool->Ac->Prop),x∈ps->y∈ps->Sta W G env loc ((l,c)::N) s'->C (lt (val x) (val y)) s'->Ad W.M A.in1 (keyLt' κ (ref x) (ref y)) C E' s')(h:∀(ps':List α) s',ps'.map val=srt lt (ps.map val)->ps'.Perm ps->Sta W G env loc ((l,aA (ps'.map ref))::N) s'->Q .none s'):Ad W.M A (call (.builtin "list.sort") [.ref l]) Q E s:=by
 obtain⟨n,hl⟩:=S.isL (.head _);have hlen:(ps.map ref).length=ps.length:=Ai ..;have hg:∀ i,i<ps.length->(ps.map ref).getD i .none=ref (ps.getD i d):=λ i hi=>by simp[hi]
 have hv:∀ i,i<ps.length->(ps.map val).getD i (val d)=val (ps.getD i d):=λ i hi=>by simp[hi]
 have hm:∀ i,i<ps.length->ps.getD i d∈ps:=λ i hi=>by simp[hi]
 have hz:(List.toArray (ps.map ref)).size<=AC:=by rw[AK,Aw];walk_at "o"
 let Rp:Array Nat->Prop:=λ p=>Ok ps.length p/\∀ i j,i<j->j<ps.length->lt (val (ps.getD (p.getD j 0) d)) (val (ps.getD (p.getD i 0) d))=false
 refine wpAny_call_entry PyProof.Rows.slot_list_sort ⟨_,hl,rfl⟩ PyProof.Rows.entry_list_sort ?_ (args_list_sort _);rw[list_sort_plain];refine Aa (listItems_at hl rfl ?_);refine Aa (listUpdate_at hl rfl ?_ hz (AE _));have S1:=S.setL (ys:=[]) hl (λ _=>#[]) rfl .head s.toks;obtain⟨e1,hl1⟩:=S1.isL (.head _);replace S1:=S1.tell (nw':=(l,bU (seqObj "list" #[] e1))::N) .head λ o ho _=>by rw[hl1]at ho;cases ho;rfl
 refine Aa (seqEpoch_at hl1 rfl ?_);refine Aa (S1.newTuple (by rw[AK]at hz;exact hz) λ tp s2 S2=>?_);refine Aa (S2.newList (AE _) λ kS s3 S3=>?_);replace S3:=S3.sub (nw':=(l,bU (seqObj "list" #[] e1))::N) ((AZ _ _).trans (AZ _ _));refine AB ?_;have hend:∀(st:SortSt) (p:Array Nat),Rp p->(arrOf st).map (·.2)=List.toArray (p.toList.map λ i=>(ps.map ref).getD i .none)->failedOf st=none->
   Ad W.M A.in1 (do
    let sorted:=(arrOf st).map (·.2)
    let touched:=(← seqEpoch l) != e1
    Builtin.List.listUpdate (.ref l) λ _=>sorted
    if let some e:=failedOf st then rule "list.sort.comparison-raised";throw e
    if touched then rule "list.sort.modified";raiseError "ValueError" "list modified during sort"
    ret .none) (λ fin s''=>∃ v,fin=.done (.ret v)/\Q v s'') E s3:=by
  intro st p hp har hf;have hpl:∀ i∈p.toList,i<ps.length:=λ i hi=>by have:=hp.1.mem_iff.mp hi;simpa using this
  have href:(p.toList.map λ i=>(ps.map ref).getD i .none)=(p.toList.map λ i=>ps.getD i d).map ref:=by
   rw[AW];exact List.map_congr_left λ i hi=>hg i (hpl i hi)
  have hperm:(p.toList.map λ i=>ps.getD i d).Perm ps:=by
   have q:List.Perm (p.toList.map λ i=>ps.getD i d) ((Bg ps.length).map λ i=>ps.getD i d):=hp.1.map _;have e:(Bg ps.length).map (λ i=>ps.getD i d)=ps:=by
    apply List.ext_getElem
    ·simp
    ·intro i h1 h2;simp at h1 ⊢;simp[h2]
   rwa[e]at q
  have hval:(p.toList.map λ i=>ps.getD i d).map val=srt lt (ps.map val):=by
   have hr:=sA T (l:=ps.map val) (d:=val d) (p:=p) (by rw[Ai];exact hp.1) (λ i j hij hj=>by
    rw[Ai]at hj;rw[hv _ (hp.1.lt (by walk_at "o") _),hv _ (hp.1.lt (by walk_at "o") _)];exact hp.2 i j hij hj)
   rw[←hr,AW];exact List.map_congr_left λ i hi=>(hv i (hpl i hi)).symm
  obtain⟨o6,ho6,e6⟩:=S3.get (a:=l) (.head _);have e6:o6=seqObj "list" #[] e1:=e6;subst e6;refine Aa (seqEpoch_at ho6 rfl ?_);rw[har];refine Aa (listUpdate_at ho6 rfl ?_ (AE _) (by rw[href,AK,Ai,hperm.length_eq,Aw];walk_at "o"));have S4':=S3.tell (nw':=(l,aA [])::N) .head λ o ho e=>⟨e1,e⟩
  obtain⟨n6,hl6⟩:=S4'.isL (a:=l) (.head _);rw[hf];simp only[bne_self_eq_false,Bool.false_eq_true]
  exact Ae ⟨_,rfl,h _ _ hval hperm (S4'.setL (ys:=(p.toList.map λ i=>ps.getD i d).map ref) hl6 (λ _=>List.toArray (p.toList.map λ i=>(ps.map ref).getD i .none)) (href▸rfl) .head s3.toks)⟩
 by_cases h2:(ps.map ref).toArray.size<2
 ·rw[if_pos h2,if_pos h2];refine Aa (Ae ?_);dsimp only
  refine Aa (Ae ?_);rw[AK,hlen]at h2;refine hend _ (Bg ps.length).toArray ⟨.refl _,λ i j hij hj=>by walk_at "o"⟩ ?_ rfl;show((ps.map ref).toArray.zip (ps.map ref).toArray).map (·.2)=_;apply Array.ext';apply List.ext_getElem
  ·simp[hlen]
  ·intro i h1 h3;simp at h1 h3;simp[h1]
 ·rw[if_neg h2,if_neg h2];rw[AK,hlen]at h2;refine Aa (hk _ _ _ (by walk_at "o") S3 ?_);refine Aa ?_;have ask:(kas_sort (ps.map ref).length).kasWp (kas_ask W.prog W.w A.in1 κ (ps.map ref)) (λ p s''=>Rp p/\s''=s3) s3:=by
   rw[hlen];refine KRun.wp (λ i j hi hj C hC=>?_) (λ p hp=>⟨hp,rfl⟩) (mS T (λ i=>val (ps.getD i d)) (n:=ps.length) (by walk_at "o") h4);unfold kas_ask;rw[hg i hi,hg j hj];exact hc _ _ _ _ _ _ (hm i hi) (hm j hj) S3 hC
  refine As (kat_run (Q:=λ st' s''=>∃ p:Array Nat,Rp p/\arrOf st'=p.map (kas_item ((ps.map ref).toArray.zip (ps.map ref).toArray))/\failedOf st'=none/\s''=s3) rfl (by walk_at "o") (by walk_at "o") (λ p' st' s'' a1 a2 a3 a4=>⟨p',a4.1,a2,a3,a4.2⟩) ask) ?_ λ _ _ e=>e;intro x s'' hx;obtain⟨⟨⟩,st'⟩:=x;obtain⟨p,hp,har,hf,rfl⟩:=hx;exact hend st' p hp (kat_snds rfl har) hf
theorem Sta.sortPs{l:Addr}{ps:List (Addr×NsP)}{Q:Value->Ac->Prop}(h4:ps.length<=4)(S:Sta W G env loc ((l,aA (aF ps))::(aK ps++N)) s)(h:∀ ps' s',ps'.map (·.2)=srt lt2 (ps.map (·.2))->ps'.Perm ps->Sta W G env loc ((l,aA (aF ps'))::(aK ps'++N)) s'->Q .none s'):Ad W.M A (call (.builtin "list.sort") [.ref l]) Q E s:=by
 refine Sta.sortG (val:=λ q:Addr×NsP=>q.2) (κ:=tuples' true) tot_2 (0,d2) h4 S (λ c s' Q' h2 S' hQ=>?_) (λ c s' x y E' C hx hy S' hC=>?_) λ(ps':List (Addr×NsP)) s' hv hp S'=>h ps' s' hv hp (S'.perm (.cons _ ((List.Perm.map _ hp.symm).append_right N)))
 ·obtain⟨fs,hk1,hk2,hk3⟩:=nP (h:=s'.heap) (ps:=ps) λ r hr=>S'.get (a:=r.1) (c:=dP r.2) (.tail _ (Ak _ (Aj.mpr ⟨r,hr,rfl⟩)));refine kat_kind (T:=.type "str") hk1 (by walk_at "o") (λ v hv=>?_) (by decide) hQ;obtain⟨x,t,rfl⟩:=hk3 v hv;exact .now
 ·exact aBQ (S'.get (a:=x.1) (c:=dP x.2) (.tail _ (Ak _ (Aj.mpr ⟨x,hx,rfl⟩)))) (S'.get (a:=y.1) (c:=dP y.2) (.tail _ (Ak _ (Aj.mpr ⟨y,hy,rfl⟩)))) hC
theorem Sta.many(S:Sta W G env loc nw s){h':Heap}(hk:∀ b o,s.heap.get? b=some o->h'.get? b=some o)(L:Lg)(hnd:(L.map Prod.fst).Nodup)(hnew:∀ p∈L,s.heap.objs.size<=p.1)(hh:∀ p∈L,∃ o,h'.get? p.1=some o/\p.2 o)(tk:Nat):Sta W G env loc (L++nw) { s with heap:=h',toks:=tk }:=by
 refine⟨S.ok,S.eok,?_,S.bare,S.os,S.gens,S.gnd⟩;have D:=S.led.grow hk;have hold:∀ p∈(env.locals,aL loc)::nw,p.1<s.heap.objs.size:=λ p hp=>by
  obtain⟨o2,ho2,_⟩:=(S.led.own p hp).2;exact Heap.lt_size ho2
 have D2:Led W.B (L++((env.locals,aL loc)::nw)) h':=by
  refine⟨D.keep,λ p hp=>?_,?_⟩
  ·rcases AD.mp hp with hp | hp
   ·refine⟨?_,hh p hp⟩;cases q:W.B.get? p.1 with
    | none=>rfl
    | some o2=>exact absurd (hnew p hp) (Nat.not_le.mpr (Heap.lt_size (S.led.keep _ _ q)))
   ·exact D.own p hp
  ·rw[Aq,Be];refine⟨hnd,D.nodup,λ a ha b hb=>?_⟩;obtain⟨p,hp,rfl⟩:=Aj.mp ha;obtain⟨r,hr,rfl⟩:=Aj.mp hb;have h1:=hnew p hp;have h2:=hold r hr;exact λ e=>absurd h1 (by rw[e];exact Nat.not_le.mpr h2)
 exact D2.perm AM
noncomputable def atV(l:List (Str×Str×Tok)):List (Str×Value):=l.map λ p=>(p.1,.str p.2.1 p.2.2)
theorem Sta.sortedItems{r d:Addr}{l:List (Str×Str×Tok)}{Q:Value->Ac->Prop}(S:Sta W G env loc nw s)(hh:A.handled=none)(mv:(r,jE d)∈nw)(md:(d,IsD W d (atV l))∈nw)(h4:l.length<=4)(h:∀ b ps s',ps.map (·.2)=srt lt2 (l.map λ p=>(p.1,p.2.1))->Sta W G env loc ((b,aA (aF ps))::(aK ps++nw)) s'->Q (.ref b) s'):Ad W.M A (call (.builtin "sorted") [.ref r]) Q E s:=by
 obtain⟨o,ho,rfl⟩:=S.get mv;obtain⟨hd,hn⟩:=S.dictAt md;obtain⟨ep,hat⟩:=hd.dictAt;have hll:(atV l).length=l.length:=Ai ..;refine Calls.call_function_entry kind_sorted plain_sorted entry_sorted (args_sorted1 _) ?_;refine Aa (m:=checkCount "sorted" 1 1 _) (Ae ?_);refine Aa (kdx_collect (A:=A.in1) (knd:=PySem.strKind W.prog W.w) (kvs:=atV l) (ep:=ep) hh ⟨_,ho,rfl,rfl⟩ hat (by rw[hll,Aw];walk_at "o") λ h' tk as hk hl hG=>?_);have hal:as.length=l.length:=hl.trans hll
 let ps:List (Addr×NsP):=as.zip (l.map λ p=>(p.1,p.2.1))
 have hps1:ps.map (·.1)=as:=List.map_fst_zip (by rw[Ai];walk_at "o");have hps2:ps.map (·.2)=l.map λ p=>(p.1,p.2.1):=List.map_snd_zip (by rw[Ai];walk_at "o");have S1:Sta W G env loc (aK ps++nw) { s with heap:=h',toks:=tk }:=by
  refine S.many hk (aK ps) ?_ ?_ ?_ tk
  ·have e:(aK ps).map Prod.fst=as:=by rw[←hps1];simp[aK]
   rw[e];exact hG.rise.imp λ hlt=>BA hlt
  ·intro p hp;obtain⟨q,hq,rfl⟩:=Aj.mp hp;have:q.1∈as:=by rw[←hps1];exact Aj.mpr ⟨q,hq,rfl⟩
   exact Nat.le_of_lt (hG.above _ this)
  ·intro p hp;obtain⟨q,hq,rfl⟩:=Aj.mp hp;obtain⟨j,q0⟩:=BQ hq;obtain⟨hj,rfl⟩:=q0;have hja:j<as.length:=by have:=congrArg A8 hps1;rw[Ai]at this;walk_at "o"
   have hjl:j<l.length:=by walk_at "o"
   have ez:ps[j]=(as[j],(l[j].1,l[j].2.1)):=by simp[ps]
   obtain⟨key,k,x',e1,e2,e3⟩:=hG.pairs j as[j] (List.getElem?_eq_getElem hja);have e1':(l[j].1,Value.str l[j].2.1 l[j].2.2)=(k,x'):=by
    have:(atV l)[j]?=some (l[j].1,.str l[j].2.1 l[j].2.2):=by simp[atV,hjl]
    rw[this]at e1;exact Option.some.inj e1
   cases e1';obtain⟨t,rfl⟩:∃ t,key=.str l[j].1 t:=by
    induction key with
    | str y t=>exact⟨t,by rw[aAP e2]⟩
    | _=>first | cases e2 | exact absurd e2 (by simp[PySem.strKind,Value.isStrOf])
   rw[ez];exact⟨_,e3,t,_,0,rfl⟩
 have href:as.map Value.ref=aF ps:=by rw[←hps1];simp[aF]
 rw[href];refine Aa (S1.newList (by have:(aF ps).length=as.length:=(by rw[←href,Ai]);rw[this,Aw];walk_at "o") λ b s2 S2=>?_);refine Aa (AB (S2.sortPs (by have:ps.length=as.length:=(by rw[←hps1,Ai]);walk_at "o") λ ps' s3 hv hp S3=>?_));rw[hps2]at hv;exact Ae ⟨_,rfl,h b ps' s3 hv S3⟩
noncomputable abbrev aV:Pos:=⟨136,71,136,96⟩
noncomputable abbrev eE(tag:Str)(t:Tok)(d nn:Addr)(vqt vk vv vqs vrn vqn vqa van vvl vpq vuri val vaq vsb vwr:Option Value):Loc:=[("tag",some (.str tag t)),("attrs",some (.ref d)),("new_namespaces",some (.ref nn)),("qname_text",vqt),("k",vk),("v",vv),("qnames",vqs),("resolved_names",vrn),("qname",vqn),("qattrs",vqa),("attr_name",van),("value",vvl),("parsed_qnames",vpq),("uri",vuri),("attr_list",val),("attr_qname",vaq),("space_behaviour",vsb),("write",vwr)]
noncomputable def xnT(p:Str):Str:=if p.length=0 then "xmlns" else "xmlns:"++p
noncomputable def xnP(q:NsP):NsP:=(xnT q.2,q.1)
noncomputable def oN(ls:List (List NsP)):List NsP:=ls.getLastD []
noncomputable abbrev aEr(st:Stmt):List Stmt:=aE st
noncomputable def aDn:Stmt:=(aEr ((aE aQ).getD 7 (.Pass default))).getD 0 (.Pass default)
theorem aBl(p:Str):(xnT p).length<=p.length+6:=by
 have h1:("xmlns":Str).length=5:=by decide +kernel
 have h2:("xmlns:":Str).length=6:=by decide +kernel
 unfold xnT
 split
 ·walk_at "o"
 ·rw[Str.length_append];walk_at "o"
section
variable {w:Wn}{c:Wc}{q:Addr}{m:Wm}
theorem Sta.pushPr{b tp:Addr}{qs:List (Addr×NsP)}{u p:Str}{t t':Tok}{Q:Value->Ac->Prop}(hz:qs.length<=1000)(S:Sta W G env loc ((tp,aJ [.str u t,.str p t'])::(b,aA (aF qs))::(aK qs++N)) s)(h:∀ s',Sta W G env loc ((b,aA (aF (qs++[(tp,u,p)])))::(aK (qs++[(tp,u,p)])++N)) s'->Q .none s'):Ad W.M A (call (.builtin "list.append") [.ref b,.ref tp]) Q E s:=by
 have S1:=(S.tell (c':=dP (u,p)) .head λ o _ ho=>⟨_,_,ho⟩).perm (List.Perm.swap ..);refine S1.append .head (by rw[Aw];simp[aF];walk_at "o") λ s' S2=>h s' (S2.perm ?_);rw[jK,jL];show List.Perm ((b,aA (aF qs++[.ref tp]))::(tp,dP (u,p))::(aK qs++N)) ((b,aA (aF qs++[.ref tp]))::((aK qs++[(tp,dP (u,p))])++N));walk_at "perm"
theorem xn_{L d nn:Addr}{tag:Str}{t:Tok}{ps:List (Addr×NsP)}{vqt vk vv vqs vrn vqn vqa van vvl vpq vuri vaq vsb vwr:Option Value}{Q:Flow->Ac->Prop}(I:IsC W)(hA:Aok 10 A)(h60:ps.length<=60)(hsm:∀ r∈ps,eY r.2)(S':Sta W G (aZ L) (eE tag t d nn vqt vk vv vqs vrn vqn vqa van vvl vpq vuri none vaq vsb vwr) ((nn,aA (aF ps))::(aK ps++N)) s)(k:∀ al qs s',qs.map (·.2)=ps.map (λ r=>xnP r.2)->Sta W G (aZ L) (eE tag t d nn vqt vk vv vqs vrn vqn vqa van vvl vpq vuri (some (.ref al)) vaq vsb vwr) ((al,aA (aF qs))::(aK qs++((nn,aA (aF ps))::(aK ps++N)))) s'->Q .next s')(st:Stmt)(hst:st=aDn):Ad W.M A (exec st (aZ L)) Q E s:=by
 subst hst;refine gX (cl:=[]) ["uri","prefix"] (by kernel_rfl) (by kernel_rfl) (by kernel_rfl) rfl rfl ?_ (by intro _;kernel_rfl);refine S'.local_ (by walk_at "mem") ?_;refine S'.iterL (.head _) ?_;clear S';intro it s' S';refine⟨G,_,_,S',?_⟩;intro b Cc s1 eok S1;refine eW rfl rfl jH (S1.get (.tail _ (.tail _ (.head _)))) ?_;generalize hloc0:eE tag t d nn vqt vk vv vqs vrn vqn vqa van vvl vpq vuri none vaq vsb vwr=loc0 at S1;have Y:LY W [(nn,aA (aF ps))] it (aF ps) [(it,bG nn 0)]:=dJ (own₀:=[]) (by simp[aF]) (aF ps) 0 rfl;have S2:=S1.perm (nw':=((b,aA (aF []))::(aK []++(((aZ L).locals,aL loc0)::(aK ps++N))))++([(nn,aA (aF ps))]++[(it,bG nn 0)])) (by simp only[aF,aK,AF,Ay];walk_at "perm");clear S' S1;refine rI (sh:=[(nn,aA (aF ps))]) (f:=λ(r:Addr×NsP)=>.ref r.1) (hA.le (by first | decide | walk_at "o")) (G:=G) (og:=[]) (own:=[(it,bG nn 0)]) (λ(v:List (Addr×NsP)×Option Value×Option Value) _=>[("uri",v.2.1),("prefix",v.2.2)]) (λ v _=>(b,aA (aF v.1))::(aK v.1++(((aZ L).locals,aL loc0)::(aK ps++N)))) (λ v dn=>v.1.map (·.2)=dn.map (λ r=>xnP r.2)) (compTurn_list1 ..) (dT Y.yields) ([],none,none) rfl (by rw[Am];exact S2) ?_ ?_
 rotate_left
 ·refine pr3 ?_;intro ra ru rp dn rest tl tg vv s1 K hp hq S' kk;clear S2;replace hq:vv.1.map (·.2)=dn.map (λ r=>xnP r.2):=hq;have hrm:(ra,ru,rp)∈ps:=by rw[hp];simp
  have hrl:rp.length<=1000:=(hsm _ hrm).2;have hmq:(ra,dP (ru,rp))∈(aK vv.1++(((aZ L).locals,aL loc0)::(aK ps++N)))++((nn,aA (aF ps))::tl):=Ak _ (Af _ (.tail _ (Ak _ (Aj.mpr ⟨_,hrm,rfl⟩))));have hql:vv.1.length<=1000:=by
   have h1:=congrArg A8 hq;have h2:=congrArg A8 hp;simp only[Ai,Ag]at h1 h2;walk_at "o"
  walk_at "zd";simp only[Av,Ay]at S';refine Sta.unpackPr S' hA.handled (by walk_at "mem") (by kernel_rfl) (by kernel_rfl) ?_;clear S';intro t1 t2 s' S';refine cJ S' ?_;clear S';intro lq Mq S';refine assignInOrder_cons ?_;refine assign_Name ?_;walk_at "c";refine assignInOrder_cons ?_;refine assign_Name ?_;walk_at "c";refine assignInOrder_nil ?_;refine Aa ?_;walk_at "c";have e1:∀ a:Addr,(vv.1++[(a,xnT rp,ru)]).map (·.2)=(dn++[(ra,ru,rp)]).map (λ r=>xnP r.2):=λ a=>by rw[Aq,Aq,hq];rfl
  refine cL S' (by walk_at "o") (λ h0=>?_) (λ h0=>?_)
  ·clear S';intro s' S';refine cJ S' ?_;clear S';intro lq Mq S';have ht:xnT rp="xmlns":=if_pos h0;rw[ht]at e1;walk_at "c";refine Aa (Sta.pushPr hql (S'.perm (nw':=(a',aJ [.str "xmlns" t',.str ru t1])::(b,aA (aF vv.1))::(aK vv.1++((((aZ L).locals,aL loc0)::(aK ps++N))++((nn,aA (aF ps))::tl)))) (by walk_at "perm")) λ s' S'=>Ae ?_);exact kk (_,some (.str ru t1),some (.str rp t2)) _ (e1 a') (S'.perm (nw':=((b,aA (aF (vv.1++[(a',("xmlns":Str),ru)])))::(aK (vv.1++[(a',("xmlns":Str),ru)])++(((aZ L).locals,aL loc0)::(aK ps++N))))++([(nn,aA (aF ps))]++tl)) (by walk_at "perm"))
  ·clear S';intro s' S';have ht:xnT rp="xmlns:"++rp:=if_neg h0;have h1:("xmlns:":Str).length=6:=by decide +kernel
   rw[ht]at e1;walk_at "c";refine Aa (Sta.pushPr hql (S'.perm (nw':=(a',aJ [.str ("xmlns:"++rp) t',.str ru t1])::(b,aA (aF vv.1))::(aK vv.1++((((aZ L).locals,aL loc0)::(aK ps++N))++((nn,aA (aF ps))::tl)))) (by walk_at "perm")) λ s' S'=>Ae ?_);exact kk (_,some (.str ru t1),some (.str rp t2)) _ (e1 a') (S'.perm (nw':=((b,aA (aF (vv.1++[(a',"xmlns:"++rp,ru)])))::(aK (vv.1++[(a',"xmlns:"++rp,ru)])++(((aZ L).locals,aL loc0)::(aK ps++N))))++([(nn,aA (aF ps))]++tl)) (by walk_at "perm"))
 ·intro vv s1 hq S1;subst hloc0;exact CompEndA.mk (nw':=(b,aA (aF vv.1))::(aK vv.1++((nn,aA (aF ps))::(aK ps++N)))) (S1.perm (by walk_at "perm")) (by simp only[eE];walk_at "put") λ s3 S3=>k b vv.1 s3 hq S3
end
noncomputable def xnR(ls:List (List NsP)):List NsP:=srt lt2 ((oN ls).map xnP)
theorem lE{dl:List Lv}{d0:List Lv}{lv:Lv}(h:aG dl=aG (d0++[lv])):∃ d1 lv1,dl=d1++[lv1]/\lv1.a=lv.a:=by
 have hne:dl≠[]:=by
  intro e;subst e;simp[aG]at h
 refine⟨dl.dropLast,dl.getLast hne,(Az hne).symm,?_⟩;have h1:=congrArg List.getLast? h;rw[eT]at h1;rw[←Az hne,eT]at h1;injection h1 with h1
 injection h1
theorem xN{dl:List Lv}{d1:List Lv}{lv:Lv}(h:dl=d1++[lv]):oN (dl.map Lv.val)=lv.val:=by
 subst h;unfold oN;rw[Aq];simp[List.getLastD_eq_getLast?]
section
variable {w:Wn}{c:Wc}{q:Addr}{m:Wm}
theorem Sta.truthyR{a:Addr}{ps:List (Addr×NsP)}{Q:Bool->Ac->Prop}(S:Sta W G env loc nw s)(m:(a,aA (aF ps))∈nw)(hz:ps.length<=1000)(h:∀ s',Sta W G env loc nw s'->Q (!ps.isEmpty) s'):Ad W.M A (truthy (.ref a)) Q E s:=by
 have e:(aF ps).isEmpty=ps.isEmpty:=by cases ps<;>rfl
 refine Sta.truthyL S m (by rw[Aw];simp[aF];walk_at "o") λ s' S'=>?_;rw[e];exact h s' S'
theorem aBv{L d nn c1 c2 qs:Addr}{tag:Str}{t:Tok}{c?:Option Addr}{ss:List Str}{res:List (Str×Str)}{sv:NSt}{d0:List Lv}{lv:Lv}{vqt vk vv vrn vqn vqa van vvl vuri vaq vsb vwr:Option Value}{Q:Flow->Ac->Prop}(I:IsC W)(C:CodeHd W.B 118 116)(hA:Aok 22 A)(hself:ClO (aZ L) .cell "self" c1)(hpq:ClO (aZ L) .cell "parse_qname" c2)(hd:m.dl=d0++[lv])(hnn:lv.a=nn)(hnd:ss.Nodup)(hpl:∀ x∈ss,NmG x)(h4:ss.length<=4)(hinj:∀ x∈ss,∀ y∈ss,bI x=bI y->x=y)(hok:zE c.rw (bB m) (srt (ltK bI) ss))(hres:eZ c.rw (bB m) (srt (ltK bI) ss)=some (res,sv))(ht4:(oN sv.decl).length<=4)(hsm:∀ r∈oN sv.decl,eY r)(S':Sta W G (aZ L) (eE tag t d nn vqt vk vv (some (.ref qs)) vrn vqn vqa van vvl none vuri none vaq vsb vwr) ((c1,aU (some (.ref w.x)))::(c2,aU none)::(qs,bZ W ss)::aC W w c q m (aP 116 aV aH c?++N)) s)(k:∀ acc al pl ps dl pm c' s',pl.map (λ p=>(p.x,p.tx))=res->bB { m with dl:=dl,pm:=pm }=sv->aG dl=aG m.dl->ps.map (·.2)=xnR sv.decl-> Sta W G (aZ L) (eE tag t d nn vqt vk vv (some (.ref qs)) vrn vqn vqa van vvl (some (.ref acc)) vuri (some (.ref al)) vaq vsb vwr) ((al,aA (aF ps))::(aK ps++((acc,IsD W acc (pqD pl))::(c1,aU (some (.ref w.x)))::aC W w c q { m with dl:=dl,pm:=pm } (bJ pl++(aP 116 aV aH (some c')++N))))) s'-> Ad W.M A (execs ((aE aQ).drop 8) (aZ L)) Q E s'):Ad W.M A (execs ((aE aQ).drop 5) (aZ L)) Q E s:=by
 have hcl:=I.cl;walk_at "zd";walk_at "c";refine Sta.getBound (f:=83) S' hcl (by walk_at "mem") (by walk_at "mem") VV.keys (by decide +kernel) (by rw[I.k];kernel_rfl) (by rw[I.k];kernel_rfl) (by rw[I.k];kernel_rfl) (by rw[I.k];kernel_rfl) (by decide +kernel) ?_;clear S';intro bm s' S';refine Sta.storeC S' hpq (by walk_at "upd") ?_;clear S';intro s' S';walk_at "kn";refine bQ rfl ?_;have S2:=S'.perm (nw':=aP 116 aV aH c?++((qs,bZ W ss)::(c2,aU (some (.ref bm)))::(bm,eA 83 (.ref w.x))::aC W w c q m ((c1,aU (some (.ref w.x)))::N))) (by simp only[aC];walk_at "perm");clear S';refine pq_ (loc2:=λ acc=>eE tag t d nn vqt vk vv (some (.ref qs)) vrn vqn vqa van vvl (some (.ref acc)) vuri none vaq vsb vwr) I C (hA.le (by first | decide | walk_at "o")) (by kernel_rfl) (λ acc=>by simp only[eE];walk_at "put") (by decide) hpq (by walk_at "mem") hnd hpl h4 hinj hok hres S2 ?_;intro acc pl dl pm c' s3 hpr hsv hdl S3;clear S2;obtain⟨d1,lv1,hdl1,hla⟩:=lE (hdl.trans (by rw[hd]));have hla:lv1.a=nn:=hla.trans hnn;subst hdl1;have htop:oN sv.decl=lv1.val:=by rw[←hsv];exact xN rfl
 rw[htop]at ht4 hsm;have hlz:lv1.ps.length<=4:=by rw[←Ai (f:=(·.2)) (as:=lv1.ps)];exact ht4
 have S':=S3.sel (nw':=(nn,aA (aF lv1.ps))::(aK lv1.ps++((acc,IsD W acc (pqD pl))::(c1,aU (some (.ref w.x)))::(w.x,bD 143 w.dx)::(w.dx,aN (eJ w c q { m with dl:=d1++[lv1],pm:=pm }))::(w.d,aB m.held)::(w.dns,aA (aG (d1++[lv1])))::(w.ns,aA (aG m.nl))::(w.pm,IsD W w.pm (pmV pm))::(w.ps,aA (m.ps.map .bool))::(aT d1++(aT m.nl++(bJ pl++(aP 116 aV aH (some c')++N))))))) (by
  refine Sel.rest [(c2,aU (some (.ref bm)))] ?_;rw[←hla];simp only[aC]
  rw[bO];show List.Perm ((acc,IsD W acc (pqD pl))::(c2,aU (some (.ref bm)))::(w.x,bD 143 w.dx)::(w.dx,aN (eJ w c q { m with dl:=d1++[lv1],pm:=pm }))::(w.d,aB m.held)::(w.dns,aA (aG (d1++[lv1])))::(w.ns,aA (aG m.nl))::(w.pm,IsD W w.pm (pmV pm))::(w.ps,aA (m.ps.map .bool))::((aT d1++((lv1.a,aA (aF lv1.ps))::(aK lv1.ps++[])))++(aT m.nl++(bJ pl++(aP 116 aV aH (some c')++((c1,aU (some (.ref w.x)))::N)))))) _;walk_at "perm")
 clear S3;have hback:∀ al ps s',ps.map (·.2)=xnR sv.decl->Sta W G (aZ L) (eE tag t d nn vqt vk vv (some (.ref qs)) vrn vqn vqa van vvl (some (.ref acc)) vuri (some (.ref al)) vaq vsb vwr) ((al,aA (aF ps))::(aK ps++((nn,aA (aF lv1.ps))::(aK lv1.ps++((acc,IsD W acc (pqD pl))::(c1,aU (some (.ref w.x)))::(w.x,bD 143 w.dx)::(w.dx,aN (eJ w c q { m with dl:=d1++[lv1],pm:=pm }))::(w.d,aB m.held)::(w.dns,aA (aG (d1++[lv1])))::(w.ns,aA (aG m.nl))::(w.pm,IsD W w.pm (pmV pm))::(w.ps,aA (m.ps.map .bool))::(aT d1++(aT m.nl++(bJ pl++(aP 116 aV aH (some c')++N)))))))))  s'->
   Ad W.M A (execs ((aE aQ).drop 8) (aZ L)) Q E s':=by
  intro al ps s' hps S2;refine k acc al pl ps (d1++[lv1]) pm c' s' hpr hsv hdl hps (S2.perm ?_);rw[←hla];simp only[aC]
  rw[bO];show List.Perm _ ((al,aA (aF ps))::(aK ps++((acc,IsD W acc (pqD pl))::(c1,aU (some (.ref w.x)))::(w.x,bD 143 w.dx)::(w.dx,aN (eJ w c q { m with dl:=d1++[lv1],pm:=pm }))::(w.d,aB m.held)::(w.dns,aA (aG (d1++[lv1])))::(w.ns,aA (aG m.nl))::(w.pm,IsD W w.pm (pmV pm))::(w.ps,aA (m.ps.map .bool))::((aT d1++((lv1.a,aA (aF lv1.ps))::(aK lv1.ps++[])))++(aT m.nl++(bJ pl++(aP 116 aV aH (some c')++N)))))));walk_at "perm"
 refine bQ rfl ?_;refine fG ?_;refine isTrue_plain ?_ (by kernel_rfl);refine S'.local_ (by walk_at "mem") ?_;refine Sta.truthyR S' (.head _) (by walk_at "o") ?_;clear S';intro s' S';cases hps:lv1.ps with
 | nil=>
  walk_at "zd";rw[hps]at S' hback;refine cP ?_;refine AH ?_
  iterate 4 walk_at "cw"
  refine S'.store (by simp only[eE];walk_at "put") λ s' S'=>?_;walk_at "kn";refine hback a' [] s' ?_ S';show[]=xnR sv.decl;unfold xnR;rw[htop];simp only[Lv.val,hps]
  rfl
 | cons r rr=>
  refine dK ?_;refine AH ?_;refine xn_ (ps:=lv1.ps) I (hA.le (by decide)) (by walk_at "o") (λ r hr=>hsm _ (Aj.mpr ⟨r,hr,rfl⟩)) S' ?_ _ rfl;clear S';intro al qs' s' hqs S';refine aM ?_;walk_at "zd";walk_at "c";refine Sta.getM_list S' (.head _) PyProof.Rows.slot_list_sort PySem.F.type_list_sort ?_;have hq4:qs'.length<=4:=by
   have:=congrArg A8 hqs;simp only[Ai]at this;walk_at "o"
  refine kA ?_;refine S'.sortPs hq4 ?_;clear S';intro ps' s' h1 h2 S';walk_at "kn";refine dD (by decide) ?_;refine hback al ps' s' ?_ S';rw[h1,hqs];unfold xnR;rw[htop];simp only[Lv.val,AW]
  rfl
end
noncomputable def dE(res:List (Str×Str))(k:Str):Str:=((res.find? λ r=>decide (r.1=k)).map (·.2)).getD ""
noncomputable def atP(res:List (Str×Str))(q:NsP):NsP:=(if(nmU q.1).length=0 then nmL q.1 else dE res q.1,q.2)
noncomputable def atR(res:List (Str×Str))(l:List NsP):List NsP:=(srt lt2 l).map (atP res)
noncomputable def atQ(l:List (Str×Str×Tok)):List NsP:=l.map λ p=>(p.1,p.2.1)
theorem oG(l:List (Str×Str×Tok)):(atV l).map (·.1)=(atQ l).map (·.1):=by simp[atV,atQ,AW,Function.comp_def]
theorem qM{res:List (Str×Str)}{k:Str}{pl:List Pq}(h:pl.map (λ p=>(p.x,p.tx))=res)(hk:k∈res.map (·.1)):∃ p∈pl,p.x=k/\p.tx=dE res k/\valueAt (pqD pl) k=some (.ref p.a):=by
 subst h
 induction pl with
 | nil=>cases hk
 | cons p r ih=>
  by_cases e:p.x=k
  ·refine⟨p,.head _,e,?_,?_⟩
   ·simp[dE,e]
   ·simp[valueAt,pqD,e]
  ·obtain⟨p',h1,h2,h3,h4⟩:=ih ((Ax.mp hk).resolve_left λ h=>e h.symm);refine⟨p',.tail _ h1,h2,?_,?_⟩
   ·rw[h3];simp[dE,e]
   ·rw[←h4];simp[valueAt,pqD,e]
section
variable {w:Wn}{c:Wc}{q:Addr}{m:Wm}
theorem aBy{L d nn c1:Addr}{tag:Str}{t:Tok}{kvs:List (Str×Value)}{vk vv van vvl vuri vaq vsb vwr:Option Value}{Q:Flow->Ac->Prop}(I:IsC W)(hA:Aok 22 A)(hself:ClO (aZ L) .cell "self" c1)(hx:tag∉kvs.map (·.1))(hz:kvs.length<=3)(S':Sta W G (aZ L) (eE tag t d nn (some .none) vk vv none none none none van vvl none vuri none vaq vsb vwr) ((c1,aU (some (.ref w.x)))::(d,IsD W d kvs)::aC W w c q m N) s)(k:∀ qs vrn s',Sta W G (aZ L) (eE tag t d nn (some .none) vk vv (some (.ref qs)) vrn none (some .none) van vvl none vuri none vaq vsb vwr) ((qs,bZ W (tag::kvs.map (·.1)))::(c1,aU (some (.ref w.x)))::(d,IsD W d kvs)::aC W w c q m N) s'-> Ad W.M A (execs ((aE aQ).drop 5) (aZ L)) Q E s'):Ad W.M A (execs ((aE aQ).drop 0) (aZ L)) Q E s:=by
 have hcl:=I.cl;obtain⟨oc,vs,hoc,hdc,hfl⟩:∃ oc vs,W.K.lookup 118=some oc/\oc.data=.fields vs/\∃ f tf,vs.getD 18 .none=.str f tf:=by
  rw[I.k];exact⟨(bC (KK W.w.params) 118),(match(bC (KK W.w.params) 118).data with | .fields vs=>vs | _=>#[]),by kernel_rfl,by kernel_rfl,(match(match(bC (KK W.w.params) 118).data with | .fields vs=>vs | _=>#[]).getD 18 .none with | .str f _=>f | _=>Str.empty),(match(match(bC (KK W.w.params) 118).data with | .fields vs=>vs | _=>#[]).getD 18 .none with | .str _ t=>t | _=>0),by kernel_rfl⟩
 walk_at "zd";walk_at "c";refine Sta.setDisp S' (hA.le (by first | decide | walk_at "o")) (x:=tag) (kvs:=kvs) (by walk_at "mem") (by walk_at "mem") rfl hoc hdc hfl (by walk_at "pull") hx hz ?_;clear S';intro qs s' S';refine cJ S' ?_;clear S';intro lq Mq S'
 repeat (fail_if_success (with_reducible show Ad W.M A (execs ((aE aQ).drop 5) (aZ L)) Q E _));walk_at "cw"
 exact k qs (some (.ref a')) s' (S'.sel (Sel.rest [(a',IsD W a' [])] (by simp only[aC];walk_at "perm")))
theorem Sta.openQn{p:Addr}{x tx:Str}{c':Cell}(S:Sta W G env loc nw s)(U:Upd p (lY x tx) c' nw nw'):∃ t1 t2 t3 nw1,Upd p (lY x tx) (aJ [.str tx t1,.str (nmL x) t2,.str (nmU x) t3]) nw nw1/\Upd p (aJ [.str tx t1,.str (nmL x) t2,.str (nmU x) t3]) c' nw1 nw'/\Sta W G env loc nw1 s:=by
 obtain⟨o,ho,q0⟩:=S.get U.mem;obtain⟨t1,t2,t3,hc⟩:=q0;obtain⟨nw1,U1,U2⟩:=U.via2 (aJ [.str tx t1,.str (nmL x) t2,.str (nmU x) t3]);exact⟨t1,t2,t3,nw1,U1,U2,S.tell U1 λ o' ho' _=>by rw[ho]at ho';cases ho';exact hc⟩
theorem Sta.unpackQn{elts:List Expr}{x1}{pos:Pos}{p:Addr}{x tx:Str}{Q:Unit->Ac->Prop}(S:Sta W G env loc nw s)(hh:A.handled=none)(m:(p,lY x tx)∈nw)(hn:(assignEach elts env).length=3)(hstar:(assignEach elts env).findIdx? (·.1)=none)(h:∀ t1 t2 t3 s',Sta W G env loc nw s'->Ad W.M A (assignInOrder ((assignEach elts env).map (·.2)) [.str tx t1,.str (nmL x) t2,.str (nmU x) t3]) Q E s'):Ad W.M A (assign (.Tuple elts x1 pos) env (.ref p)) Q E s:=by
 obtain⟨t1,t2,t3,nw1,U1,U2,S1⟩:=S.openQn (eD m);exact S1.unpackT hh U2.mem hn hstar λ s' S2=>h t1 t2 t3 s' (S2.tell U2 λ o _ ho=>⟨t1,t2,t3,ho⟩)
theorem Sta.subQn{p:Addr}{x tx:Str}{v:Tok}{Q:Value->Ac->Prop}(S:Sta W G env loc nw s)(m:(p,lY x tx)∈nw)(h:∀ t,Q (.str tx t) s):SubscriptOn W.M A (.ref p) (.int 0 v) Q E s:=by
 obtain⟨t1,t2,t3,nw1,U1,U2,S1⟩:=S.openQn (eD m);exact Sta.sub_tuple S1 U2.mem (j:=0) rfl (by walk_at "o") rfl (h t1)
end
section
variable {w:Wn}{c:Wc}{q:Addr}{m:Wm}
theorem aBB{L d nn acc al:Addr}{tag:Str}{t:Tok}{l:List (Str×Str×Tok)}{res:List (Str×Str)}{pl:List Pq}{ps:List (Addr×NsP)}{vqt vk vv vqs vrn vqn van vvl vuri vaq vsb vwr:Option Value}{Q:Flow->Ac->Prop}(I:IsC W)(hA:Aok 12 A)(hpl:pl.map (λ p=>(p.x,p.tx))=res)(hk:∀ p∈l,p.1∈res.map (·.1))(h4:l.length<=4)(hps:ps.length<=60)(hgd:∀ p∈l,NmG p.1)(S':Sta W G (aZ L) (eE tag t d nn vqt vk vv vqs vrn vqn (some .none) van vvl (some (.ref acc)) vuri (some (.ref al)) vaq vsb vwr) ((al,aA (aF ps))::(aK ps++((acc,IsD W acc (pqD pl))::(d,IsD W d (atV l))::(bJ pl++N)))) s)(k:∀ qs vk vv van vuri vaq s',qs.map (·.2)=ps.map (·.2)++atR res (atQ l)->Sta W G (aZ L) (eE tag t d nn vqt vk vv vqs vrn vqn (some .none) van vvl (some (.ref acc)) vuri (some (.ref al)) vaq vsb vwr) ((al,aA (aF qs))::(aK qs++((acc,IsD W acc (pqD pl))::(d,IsD W d (atV l))::(bJ pl++N)))) s'-> Ad W.M A (execs ((aE aQ).drop 9) (aZ L)) Q E s'):Ad W.M A (execs ((aE aQ).drop 8) (aZ L)) Q E s:=by
 walk_at "zd";have hal:(atV l).length=l.length:=Ai ..;refine bQ rfl ?_;refine fG ?_;refine isTrue_plain ?_ (by kernel_rfl);walk_at "c";have hmd:(d,IsD W d (atV l))∈(al,aA (aF ps))::(aK ps++((acc,IsD W acc (pqD pl))::(d,IsD W d (atV l))::(bJ pl++N))):=.tail _ (Af _ (.tail _ (.head _)));refine Sta.truthyD S' hmd (by walk_at "o") ?_;clear S';intro s' S';refine cJ S' ?_;clear S';intro lq Mq S';have hemp:(atV l).isEmpty=l.isEmpty:=by cases l<;>rfl
 rw[hemp];cases hl:l with
 | nil=>
  show ite (false=true) _ _;refine cP ?_;walk_at "kn";subst hl;exact k ps vk vv van vuri vaq s' (Am _).symm S'
 | cons p0 r0=>
  refine dK ?_;clear hl hemp;refine AH ?_;refine wpAny_For ?_ (by intro _;kernel_rfl);walk_at "c";refine Sta.builtin S' I.b_sorted pV (by kernel_rfl) ?_;walk_at "c";refine Sta.getM_D (kvs:=atV l) S' hmd F.slot_dict_items F.type_dict_items ?_;walk_at "c";refine Sta.itemsD (kvs:=atV l) S' hmd ?_;clear S';intro r s' S';walk_at "c";refine Sta.sortedItems (l:=l) S' hA.handled (.head _) (.tail _ hmd) h4 ?_;clear S';intro b its s' hits S';refine Sta.iterList S' (.head _) ?_;clear S';intro it s' S';have hitl:its.length<=4:=by
   have h1:=congrArg A8 hits;rw[Ai,(bP (lt:=lt2) _).length_eq,Ai]at h1;walk_at "o"
  have hitm:∀ x∈its,∃ p∈l,p.1=x.2.1:=by
   intro x hx;have h1:x.2∈its.map (·.2):=Aj.mpr ⟨x,hx,rfl⟩;rw[hits,(bP (lt:=lt2) _).mem_iff]at h1;obtain⟨p,hp,e⟩:=Aj.mp h1;exact⟨p,hp,by rw[←e]⟩
  have Y:LY W [(b,aA (aF its))] it (aF its) [(it,bG b 0)]:=dJ (own₀:=[]) (by simp[aF]) (aF its) 0 rfl;have S2:=S'.sel (nw':=((al,aA (aF ps))::(aK ps++(aK its++((acc,IsD W acc (pqD pl))::(d,IsD W d (atV l))::(bJ pl++N)))))++([(b,aA (aF its))]++[(it,bG b 0)])) (Sel.rest [(r,jE d)] (by walk_at "perm"));clear S';refine kN (sh:=[(b,aA (aF its))]) (f:=λ(x:Addr×NsP)=>.ref x.1) (hA.le (by first | decide | walk_at "o")) (G:=G) (og:=[]) (own:=[(it,bG b 0)]) (λ(v:List (Addr×NsP)×Option Value×Option Value×Option Value×Option Value×Option Value) _=>eE tag t d nn vqt v.2.1 v.2.2.1 vqs vrn vqn (some .none) v.2.2.2.1 vvl (some (.ref acc)) v.2.2.2.2.1 (some (.ref al)) v.2.2.2.2.2 vsb vwr) (λ v _=>(al,aA (aF v.1))::(aK v.1++(aK its++((acc,IsD W acc (pqD pl))::(d,IsD W d (atV l))::(bJ pl++N))))) (λ v dn=>v.1.map (·.2)=ps.map (·.2)++dn.map (λ x=>atP res x.2)) (dT Y.yields) (ps,vk,vv,van,vuri,vaq) (by simp) (by rw[Am];exact S2) ?_ ?_
  rotate_left
  ·refine pr3 ?_;intro xa xk xv dn rest tl tg vw s1 K hit hq S' kk _ _;clear S2;replace hq:vw.1.map (·.2)=ps.map (·.2)++dn.map (λ x=>atP res x.2):=hq;have hxm:(xa,xk,xv)∈its:=by rw[hit];simp
   obtain⟨p,hpm,hpe⟩:=hitm _ hxm;have hpe:p.1=xk:=hpe;have hxg:NmG xk:=by rw[←hpe];exact hgd p hpm
   obtain⟨pq,hpq1,hpq2,hpq3,hpq4⟩:=qM (k:=xk) hpl (by rw[←hpe];exact hk p hpm);have hul:=hxg.ul;have hmq:(xa,dP (xk,xv))∈(aK vw.1++(aK its++((acc,IsD W acc (pqD pl))::(d,IsD W d (atV l))::(bJ pl++N))))++((b,aA (aF its))::tl):=Ak _ (Af _ (Ak _ (Aj.mpr ⟨_,hxm,rfl⟩)));have hmp:(pq.a,lY pq.x pq.tx)∈(aK vw.1++(aK its++((acc,IsD W acc (pqD pl))::(d,IsD W d (atV l))::(bJ pl++N))))++((b,aA (aF its))::tl):=Ak _ (Af _ (Af _ (.tail _ (.tail _ (Ak _ (Aj.mpr ⟨_,hpq1,rfl⟩))))));have hma:(acc,IsD W acc (pqD pl))∈(aK vw.1++(aK its++((acc,IsD W acc (pqD pl))::(d,IsD W d (atV l))::(bJ pl++N))))++((b,aA (aF its))::tl):=Ak _ (Af _ (Af _ (.head _)));have hql:vw.1.length<=1000:=by
    have h1:=congrArg A8 hq;have h2:=congrArg A8 hit;simp only[Ai,Ag]at h1 h2;walk_at "o"
   have e1:∀ a:Addr,(vw.1++[(a,atP res (xk,xv))]).map (·.2)=ps.map (·.2)++(dn++[(xa,xk,xv)]).map (λ x=>atP res x.2):=λ a=>by simp only[Aq,hq,Ah];rfl
   walk_at "zd";simp only[eE,Av,Ay]at S';refine Sta.unpackPr S' hA.handled (by walk_at "mem") (by kernel_rfl) (by kernel_rfl) ?_;clear S';intro t1 t2 s' S';refine assignInOrder_cons ?_;refine assign_Name ?_;walk_at "c";refine assignInOrder_cons ?_;refine assign_Name ?_;walk_at "c";refine assignInOrder_nil ?_;walk_at "c";refine Sta.subD S' (.tail _ hma) hpq4 ?_;clear S';intro s' S';refine Sta.unpackQn S' hA.handled (x:=pq.x) (tx:=pq.tx) (by walk_at "mem") (by kernel_rfl) (by kernel_rfl) ?_;clear S';intro t3 t4 t5 s' S';walk_at "zd";rw[hpq2,hpq3]at *;refine assignInOrder_cons ?_;refine assign_Name ?_;walk_at "c";refine assignInOrder_cons ?_;refine assign_Name ?_;walk_at "c";refine assignInOrder_cons ?_;refine assign_Name ?_;walk_at "c";refine assignInOrder_nil ?_;walk_at "c";refine cL S' (by walk_at "o") (λ h0=>?_) (λ h0=>?_)
   ·clear S';intro s' S';have ht:atP res (xk,xv)=((nmL xk:Str),xv):=by show(if(nmU xk).length=0 then nmL xk else dE res xk,xv)=_;rw[if_pos h0]
    rw[ht]at e1;walk_at "c";refine Sta.pushPr hql (S'.perm (nw':=(a',aJ [.str (nmL xk) t4,.str xv t2])::(al,aA (aF vw.1))::(aK vw.1++(aK its++((acc,IsD W acc (pqD pl))::(d,IsD W d (atV l))::(bJ pl++(N++((b,aA (aF its))::tl))))))) (by walk_at "perm")) ?_;clear S';intro s' S';walk_at "c";exact(kk (vw.1++[(a',(nmL xk:Str),xv)],_,_,_,_,_) _ (e1 a') (S'.perm (nw':=((al,aA (aF (vw.1++[(a',(nmL xk:Str),xv)])))::(aK (vw.1++[(a',(nmL xk:Str),xv)])++(aK its++((acc,IsD W acc (pqD pl))::(d,IsD W d (atV l))::(bJ pl++N)))))++([(b,aA (aF its))]++tl)) (by walk_at "perm"))).1
   ·clear S';intro s' S';have ht:atP res (xk,xv)=((dE res xk:Str),xv):=by show(if(nmU xk).length=0 then nmL xk else dE res xk,xv)=_;rw[if_neg h0]
    rw[ht]at e1;walk_at "c";refine Sta.pushPr hql (S'.perm (nw':=(a',aJ [.str (dE res xk) t3,.str xv t2])::(al,aA (aF vw.1))::(aK vw.1++(aK its++((acc,IsD W acc (pqD pl))::(d,IsD W d (atV l))::(bJ pl++(N++((b,aA (aF its))::tl))))))) (by walk_at "perm")) ?_;clear S';intro s' S';walk_at "c";exact(kk (vw.1++[(a',(dE res xk:Str),xv)],_,_,_,_,_) _ (e1 a') (S'.perm (nw':=((al,aA (aF (vw.1++[(a',(dE res xk:Str),xv)])))::(aK (vw.1++[(a',(dE res xk:Str),xv)])++(aK its++((acc,IsD W acc (pqD pl))::(d,IsD W d (atV l))::(bJ pl++N)))))++([(b,aA (aF its))]++tl)) (by walk_at "perm"))).1
  ·intro vw s1 hq S1;walk_at "kn";refine k vw.1 vw.2.1 vw.2.2.1 vw.2.2.2.1 vw.2.2.2.2.1 vw.2.2.2.2.2 s1 ?_ (S1.sel (Sel.rest ((b,aA (aF its))::aK its) (by walk_at "perm")));rw[show vw.1.map (·.2)=ps.map (·.2)++its.map (λ x=>atP res x.2)from hq];unfold atR atQ;rw[←hits,AW]
   rfl
end
noncomputable def bX(q:NsP):Str:=" "++q.1++"=\""++aCn q.2++"\""
noncomputable abbrev aCL:Scope:={ kind:=.function,names:=[(Str.ofString ".0",.local),(Str.ofString "k",.local),(Str.ofString "v",.local),(Str.ofString "_escape_attrib_c14n",.globalImplicit)],isGenerator:=false,isCoroutine:=false,more:=[] }
noncomputable abbrev atX(p1 p2 p3 p4 p5 p6 p7 p8 p9 p10 p11 p12 p13 p14 p15:Pos):Expr:=.ListComp (.JoinedStr [.Constant (.str " ") 0 p1,.FormattedValue (.Name "k" p2) (-1) none p3,.Constant (.str "=\"") 0 p4,.FormattedValue (.Call (.Name "_escape_attrib_c14n" p5) [.Name "v" p6] [] p7) (-1) none p8,.Constant (.str "\"") 0 p9] p10) [⟨.Tuple [.Name "k" p11,.Name "v" p12] 0 p13,.Name "attr_list" p14,[],0⟩] aCL p15
theorem tK(v:Str):(aCn v).length<=6*v.length:=nE _ 6 aEA v
theorem lM(q:NsP):(bX q).length<=q.1.length+6*q.2.length+4:=by
 have hl1:(" ":Str).length=1:=by decide +kernel
 have hl2:("=\"":Str).length=2:=by decide +kernel
 have hl3:("\"":Str).length=1:=by decide +kernel
 have hl4:=tK q.2;unfold bX;simp only[Str.length_append]
 walk_at "o"
section
variable {w:Wn}{c:Wc}{q:Addr}{m:Wm}
theorem zB{L al:Addr}{qs:List (Addr×NsP)}{p1 p2 p3 p4 p5 p6 p7 p8 p9 p10 p11 p12 p13 p14 p15:Pos}{Q:Value->Ac->Prop}(I:IsC W)(hA:Aok 12 A)(h60:qs.length<=70)(hx:∀ r∈qs,r.2.1.length<=4000/\r.2.2.length<=1000)(hal:(("attr_list":Str),some (Value.ref al))∈loc)(S':Sta W G (aZ L) loc ((al,aA (aF qs))::(aK qs++N)) s)(k:∀ b s',Sta W G (aZ L) loc ((b,aB (qs.map λ r=>bX r.2))::(al,aA (aF qs))::(aK qs++N)) s'->Q (.ref b) s'):Ad W.M A (eval (atX p1 p2 p3 p4 p5 p6 p7 p8 p9 p10 p11 p12 p13 p14 p15) (aZ L)) Q E s:=by
 have hl1:(" ":Str).length=1:=by decide +kernel
 have hl2:("=\"":Str).length=2:=by decide +kernel
 have hl3:("\"":Str).length=1:=by decide +kernel
 refine nM (cl:=[]) ["k","v"] (by kernel_rfl) (by kernel_rfl) rfl rfl ?_ (by intro _;kernel_rfl);refine S'.local_ hal ?_;refine S'.iterL (.head _) ?_;clear S';intro it s' S';refine CompK.mk S' ?_;intro b Cc s1 eok S1;refine eW rfl rfl jH (S1.get (.tail _ (.tail _ (.head _)))) ?_;have Y:LY W [(al,aA (aF qs))] it (aF qs) [(it,bG al 0)]:=dJ (own₀:=[]) (by simp[aF]) (aF qs) 0 rfl;have S2:=(S1.tell (c':=aB []) .head λ o _ ho=>⟨_,.nil,ho⟩).perm (nw':=((b,aB [])::((aZ L).locals,aL loc)::(aK qs++N))++([(al,aA (aF qs))]++[(it,bG al 0)])) (by walk_at "perm");clear S' S1;refine rI (sh:=[(al,aA (aF qs))]) (f:=λ(r:Addr×NsP)=>.ref r.1) (hA.le (by first | decide | walk_at "o")) (G:=G) (og:=[]) (own:=[(it,bG al 0)]) (λ(v:Option Value×Option Value) _=>[("k",v.1),("v",v.2)]) (λ _ dn=>(b,aB (dn.map λ r=>bX r.2))::((aZ L).locals,aL loc)::(aK qs++N)) (λ _ _=>True) (compTurn_list1 ..) (dT Y.yields) (none,none) trivial (by rw[Am];exact S2) ?_ ?_
 rotate_left
 ·refine pr3 ?_;intro ra x v dn rest tl tg vv s1 K hq _ S' kk;clear S2;have hrm:(ra,x,v)∈qs:=by rw[hq];simp
  have hxl:x.length<=4000:=(hx _ hrm).1;have hvl:v.length<=1000:=(hx _ hrm).2;have hl4:=tK v;have hmq:(ra,dP (x,v))∈(aK qs++N)++((al,aA (aF qs))::tl):=Ak _ (Ak _ (Aj.mpr ⟨_,hrm,rfl⟩));have hdl:(dn.map λ r=>bX r.2).length<=100:=by
   have:=congrArg A8 hq;simp only[Ai,Ag]at this ⊢;walk_at "o"
  have e1:((dn++[(ra,x,v)]).map λ r=>bX r.2)=(dn.map λ r=>bX r.2)++[bX (x,v)]:=by rw[Aq];rfl
  walk_at "zd";simp only[Av,Ay]at S';refine Sta.unpackPr S' hA.handled (by walk_at "mem") (by kernel_rfl) (by kernel_rfl) ?_;clear S';intro t1 t2 s' S';refine cJ S' ?_;clear S';intro lq Mq S';refine assignInOrder_cons ?_;refine assign_Name ?_;walk_at "c";refine assignInOrder_cons ?_;refine assign_Name ?_;walk_at "c";refine assignInOrder_nil ?_;refine Aa ?_;walk_at "c";refine Sta.global S' I.g_escA (by kernel_rfl) ?_;refine gC (by rw[I.k];kernel_rfl) ?_ (by kernel_rfl) (by kernel_rfl);walk_at "c";refine escA_ I S' (hA.le (by first | decide | walk_at "o")) (by unfold txL;walk_at "o") ?_;clear S';intro t3 s' S';walk_at "c";have e:bX (x,v)=Str.empty++" "++x++"=\""++aCn v++"\"":=by rw[Str.empty_append];rfl
  rw[←e];refine Aa (S'.appendT .head (by walk_at "osz") λ s' S'=>Ae ?_);walk_at "zd";exact kk (some (.str x t1),some (.str v t2)) _ trivial (S'.perm (nw':=((b,aB ((dn++[(ra,x,v)]).map λ r=>bX r.2))::((aZ L).locals,aL loc)::(aK qs++N))++([(al,aA (aF qs))]++tl)) (by rw[e1];walk_at "perm"))
 ·intro vv s1 _ S1;exact CompEnd.mk (nw':=(b,aB (qs.map λ r=>bX r.2))::(al,aA (aF qs))::(aK qs++N)) (S1.perm (by walk_at "perm")) λ s3 S3=>k b s3 S3
end
noncomputable abbrev aCp(L:Addr):Env:=envOf "C14NWriterTarget._resolve_prefix_name" (aD gA) L 75 (.ref 74)
noncomputable abbrev locV(x:Addr)(pn:Str)(tn:Tok)(pre:Str)(tp:Tok)(l:Str)(tl:Tok)(vu vp:Option Value):Loc:=[("self",some (.ref x)),("prefixed_name",some (.str pn tn)),("prefix",some (.str pre tp)),("name",some (.str l tl)),("uri",vu),("p",vp)]
noncomputable def rFor:Stmt:=(aE gA).getD 1 (.Pass default)
section
variable {w:Wn}{c:Wc}{q:Addr}{m:Wm}
theorem rLoop{L ga x:Addr}{pn pre l u:Str}{tn tp tl:Tok}{xs:List (Addr×NsP)}{sh own:Lg}{og:Gens}{R:Result->Ac->Prop}(hA:Aok 10 A)(hmem:∀ q∈xs,(q.1,dP q.2)∈sh)(hsm:∀ q∈xs,eY q.2)(hl:l.length<=3000)(hfd:(xs.map (·.2)).find? (λ q=>decide (q.2=pre))=some (u,pre))(S:Sta W (G++og) (aCp L) (locV x pn tn pre tp l tl none none) (N++(sh++own)) s)(hy:YdR W sh ga (λ(q:Addr×NsP) v=>v=.ref q.1) xs own og)(kf:∀ t1 loc' s',Sta W G (aCp L) loc' (N++sh) s'->R (.ok (.ret (.str ("{"++u++"}"++l) t1))) s')(tg:Expr)(body:List Stmt)(htg:tg=aEy rFor)(hbd:body=jV rFor):codeAny W.M A (.forLoop tg (.ref ga) body [] (aCp L)) R s:=by
 subst htg hbd;refine kN (sh:=sh) (f:=λ(q:Addr×NsP)=>.ref q.1) (hA.le (by decide)) (λ(v:Option Value×Option Value) _=>locV x pn tn pre tp l tl v.1 v.2) (λ _ _=>N) (λ _ dn=>(dn.map (·.2)).find? (λ q=>decide (q.2=pre))=none) hy (none,none) rfl S ?_ ?_
 rotate_left
 ·refine pr3 ?_;intro qa qv qp dn rest tl' tg vw s1 K hx hf S' kk _ kret;clear S;replace hf:(dn.map (·.2)).find? (λ q=>decide (q.2=pre))=none:=hf;have hqx:(qa,qv,qp)∈xs:=by rw[hx];simp
  have hps:qp.length<=1000:=(hsm _ hqx).2;have hus:qv.length<=1000:=(hsm _ hqx).1;have hmq:(qa,dP (qv,qp))∈N++(sh++tl'):=Af _ (Ak _ (hmem _ hqx));have h1:("{":Str).length=1:=by decide +kernel
  have h2:("}":Str).length=1:=by decide +kernel
  walk_at "zd";refine Sta.unpackPr S' hA.handled (by walk_at "mem") (by kernel_rfl) (by kernel_rfl) ?_;clear S';intro t1 t2 s' S';refine assignInOrder_cons ?_;refine assign_Name ?_;walk_at "c";refine assignInOrder_cons ?_;refine assign_Name ?_;walk_at "c";refine assignInOrder_nil ?_;refine aM ?_;walk_at "c";refine rF (λ e=>?_) (λ e=>?_)
  ·subst e;have hfq:(qv,qp)=(u,qp):=by
    rw[hx,Aq,List.find?_append,hf,An,List.find?_cons_of_pos (by simp)]at hfd;injection hfd
   injection hfq with hu _
   subst hu;walk_at "c";rw[Str.empty_append];refine kret _ _ ?_;exact kf _ _ _ (S'.fewer.sel (Sel.rest tl' (by walk_at "perm")))
  ·walk_at "c";refine(kk (_,_) _ ?_ S').1;show((dn++[(qa,qv,qp)]).map (·.2)).find? _=none;rw[Aq,List.find?_append,hf,An,List.find?_cons_of_neg (by simpa using e)]
   rfl
 ·intro vw s1 hf S1;have hf:(xs.map (·.2)).find? (λ q=>decide (q.2=pre))=none:=hf;rw[hf]at hfd;cases hfd
theorem aAg{pn pre l u:Str}{tn:Tok}{Q:Value->Ac->Prop}(I:IsC W)(hA:Aok 13 A)(hs:Txt.splitMax pn ":" 1=[pre,l])(hp:pn.length<=3000)(hl:l.length<=3000)(hok:NsOk (bB m))(hf:(flat (bB m).nss).find? (λ q=>decide (q.2=pre))=some (u,pre))(S:Sta W G env loc (aC W w c q m N) s)(k:∀ t s',Sta W G env loc (aC W w c q m N) s'->Q (.str ("{"++u++"}"++l) t) s'):Ad W.M A (call (.ref 75) [.ref w.x,.str pn tn]) Q E s:=by
 refine S.call_fnV aCp (binds:=[("self",.ref w.x),("prefixed_name",.str pn tn)]) ["prefix","name","uri","p"] I.f_resolve hA (λ _ _ _ _ _=>BindsTo.of_eq (by kernel_rfl)) (by kernel_rfl) ?_;intro L A' s' hA' S';walk_at "zd";simp only[aW,An,AF,Av,Ay]at S';have hcl:=I.cl;have hxs:(lW m.nl).map (·.2)=flat (bB m).nss:=nG m.nl;have hlv:(m.nl.map λ l=>(l.a,aF l.ps)).map (λ p=>Value.ref p.1)=aG m.nl:=by simp[aG]
 refine aM ?_;refine bQ rfl ?_;walk_at "c";refine lI ?_;walk_at "c";refine Sta.splitMax S' (by decide +kernel) (by decide +kernel) (by walk_at "o") ?_;clear S';intro a s' S';rw[hs]at S';refine Sta.unpackTx S' .head (hA'.le (by decide)) (by kernel_rfl) (by kernel_rfl) ?_;clear S';intro vs s' hv S';obtain⟨t3,t4,rfl⟩:=hv.two;refine assignInOrder_cons ?_;refine assign_Name ?_;walk_at "c";refine assignInOrder_cons ?_;refine assign_Name ?_;walk_at "c";refine assignInOrder_nil ?_;walk_at "kn";refine bQ rfl ?_;refine wpAny_For ?_ (by intro _;kernel_rfl);walk_at "c";refine Sta.getM_inst (f:=68) S' hcl (by walk_at "mem") (by walk_at "mem") VV.keys (by decide +kernel) (by rw[I.k];kernel_rfl) (by rw[I.k];kernel_rfl) ?_;walk_at "c";refine aAU (N:=(w.x,bD 143 w.dx)::(w.dx,aN (eJ w c q m))::(w.d,aB m.held)::(w.dns,aA (aG m.dl))::(w.pm,IsD W w.pm (pmV m.pm))::(w.ps,aA (m.ps.map .bool))::(aT m.dl++((env.locals,aL loc)::N))) (sh:=(w.ns,aA (aG m.nl))::aT m.nl)
  (lv:=m.nl.map λ l=>(l.a,aF l.ps)) I (S'.perm (by walk_at "perm")) (hA'.le (by decide)) (by rw[hlv];exact .head _) ?_ ?_
 ·intro p hp;obtain⟨l,hl,rfl⟩:=Aj.mp hp;refine⟨.tail _ (kI hl),?_⟩;have h1:=gT (ls:=(bB m).nss) (Aj.mpr ⟨l,hl,rfl⟩);have h2:=hok.n2;have h3:l.val.length=(aF l.ps).length:=by simp[Lv.val,aF]
  rw[Aw];show(aF l.ps).length<=_;walk_at "o"
 clear S';intro ga g own gs s' S' hy;refine S'.iterGen (g:=g) (by simp) ?_;rw[qU]at hy;walk_at "zd";refine rLoop (xs:=lW m.nl) (sh:=(w.ns,aA (aG m.nl))::aT m.nl) (pre:=pre) (l:=l) (u:=u) (hA'.le (by decide)) (λ r hr=>.tail _ (nH hr)) (λ r hr=>hok.n1 _ (by rw[←hxs];exact Aj.mpr ⟨r,hr,rfl⟩)) hl (by rw[hxs];exact hf) S' (dT hy) ?_ _ _ rfl rfl;clear S';intro t1 loc' s' S';walk_at "ke";exact k t1 s' (Sta.back (S'.perm (by walk_at "perm")) S.eok)
end
section
variable {w:Wn}{c:Wc}{q:Addr}{m:Wm}
theorem zY{L d nn c1:Addr}{tag pn pre l u:Str}{t tn:Tok}{kvs:List (Str×Value)}{vk vv van vvl vuri vaq vsb vwr:Option Value}{Q:Flow->Ac->Prop}(I:IsC W)(hA:Aok 22 A)(hself:ClO (aZ L) .cell "self" c1)(hx:tag∉kvs.map (·.1))(hz:kvs.length<=3)(hs:Txt.splitMax pn ":" 1=[pre,l])(hp:pn.length<=3000)(hl:l.length<=3000)(hok:NsOk (bB m))(hf:(flat (bB m).nss).find? (λ q=>decide (q.2=pre))=some (u,pre))(hn:("{"++u++"}"++l:Str)∉tag::kvs.map (·.1))(S':Sta W G (aZ L) (eE tag t d nn (some (.str pn tn)) vk vv none none none none van vvl none vuri none vaq vsb vwr) ((c1,aU (some (.ref w.x)))::(d,IsD W d kvs)::aC W w c q m N) s)(k:∀ qs rn tf s',Sta W G (aZ L) (eE tag t d nn (some (.str pn tn)) vk vv (some (.ref qs)) (some (.ref rn)) (some (.str ("{"++u++"}"++l) tf)) (some .none) van vvl none vuri none vaq vsb vwr) ((qs,bZ W ((tag::kvs.map (·.1))++[("{"++u++"}"++l:Str)]))::(rn,IsD W rn [(pn,.str ("{"++u++"}"++l) tf)])::(c1,aU (some (.ref w.x)))::(d,IsD W d kvs)::aC W w c q m N) s'-> Ad W.M A (execs ((aE aQ).drop 5) (aZ L)) Q E s'):Ad W.M A (execs ((aE aQ).drop 0) (aZ L)) Q E s:=by
 have hcl:=I.cl;obtain⟨oc,vs,hoc,hdc,hfl⟩:∃ oc vs,W.K.lookup 118=some oc/\oc.data=.fields vs/\∃ f tf,vs.getD 18 .none=.str f tf:=by
  rw[I.k];exact⟨(bC (KK W.w.params) 118),(match(bC (KK W.w.params) 118).data with | .fields vs=>vs | _=>#[]),by kernel_rfl,by kernel_rfl,(match(match(bC (KK W.w.params) 118).data with | .fields vs=>vs | _=>#[]).getD 18 .none with | .str f _=>f | _=>Str.empty),(match(match(bC (KK W.w.params) 118).data with | .fields vs=>vs | _=>#[]).getD 18 .none with | .str _ t=>t | _=>0),by kernel_rfl⟩
 walk_at "zd";walk_at "c";refine Sta.setDisp S' (hA.le (by first | decide | walk_at "o")) (x:=tag) (kvs:=kvs) (by walk_at "mem") (by walk_at "mem") rfl hoc hdc hfl (by walk_at "pull") hx hz ?_;clear S';intro qs s' S';refine cJ S' ?_;clear S';intro lq Mq S'
 repeat (fail_if_success (with_reducible show Ad W.M A (execs ((aE aQ).drop 5) (aZ L)) Q E _));walk_at "cw"
 refine wpAny_Assign_two ?_ (by kernel_rfl) (by kernel_rfl);walk_at "c";refine Sta.getM_inst (f:=75) S' hcl (by walk_at "mem") (by walk_at "mem") VV.keys (by decide +kernel) (by rw[I.k];kernel_rfl) (by rw[I.k];kernel_rfl) ?_;refine oP (by rw[I.k];kernel_rfl) ?_ (by kernel_rfl) (by kernel_rfl);walk_at "c";refine aAg (w:=w) (c:=c) (q:=q) (m:=m) (N:=(a',IsD W a' [])::(qs,bZ W (tag::kvs.map (·.1)))::(c1,aU (some (.ref w.x)))::(d,IsD W d kvs)::N) I (hA.le (by first | decide | walk_at "o")) hs hp hl hok hf (S'.perm (by walk_at "zg";walk_at "perm")) ?_;walk_at "zd";clear S';intro tf s' S';replace S':=S'.perm (nw':=(a',IsD W a' [])::(qs,bZ W (tag::kvs.map (·.1)))::(c1,aU (some (.ref w.x)))::(d,IsD W d kvs)::aC W w c q m N) (by walk_at "perm");walk_at "c";refine kas_sub ?_;walk_at "c";refine Sta.setItemD S' (by walk_at "upd") (by decide) ?_;clear S';intro s' S';walk_at "kn"
 repeat (fail_if_success (with_reducible show Ad W.M A (execs ((aE aQ).drop 5) (aZ L)) Q E _));walk_at "cw"
 refine Sta.getM_addL S' (ss:=tag::kvs.map (·.1)) (by walk_at "mem") ?_;walk_at "c";refine Sta.setAddL S' (by walk_at "upd") hn (by
  rw[AG,Ai];exact AO (show _<=5 by walk_at "o") (by decide)) ?_
 clear S';intro s' S';walk_at "ke"
 repeat (fail_if_success (with_reducible show Ad W.M A (execs ((aE aQ).drop 5) (aZ L)) Q E _));walk_at "cw"
 walk_at "zd";exact k qs a' tf s' (S'.perm (by walk_at "perm"))
end
end
end
noncomputable def bL(tx:Str)(row:List NsP):List Str:=("<"++tx)::((if row.isEmpty then[]else[cat (row.map bX)])++[(">":Str)])
noncomputable abbrev spaceK:Str:="{http://www.w3.org/XML/1998/namespace}space"
noncomputable def fF(l:List (Str×Str×Tok))(pb:Bool):Bool:=
 match l.find? λ p=>decide (p.1=spaceK)with
 | none=>pb
 | some p=>if p.2.1.length=0 then pb else decide (p.2.1="preserve")
theorem uF(u:Str)(l:List (Str×Str×Tok)):valueAt (atV l) u=(l.find? λ q=>decide (q.1=u)).map λ p=>.str p.2.1 p.2.2:=mJ u l
theorem aA9:∀(xs:List Str) (n:Nat),(∀ x∈xs,x.length<=n)->(cat xs).length<=n*xs.length:=by
 intro l0
 induction l0 with
 | nil=>
  intro n _;rw[rK];simp
 | cons x r ih=>
  intro n h;have h1:=ih n λ y hy=>h y (.tail _ hy);have h2:=h x (.head _);rw[rK]at h1 ⊢;simp only[An,List.sum_cons,AG]at h1 ⊢;rw[Nat.mul_succ];walk_at "o"
section
variable {w:Wn}{c:Wc}{q:Addr}{m:Wm}
theorem zX{L d nn c1:Addr}{tag:Str}{t:Tok}{l:List (Str×Str×Tok)}{p0:List Bool}{pb:Bool}{vqt vk vv vqs vrn vqn vqa van vvl vpq vuri val vaq:Option Value}{Q:Flow->Ac->Prop}(I:IsC W)(hA:Aok 14 A)(hself:ClO (aZ L) .cell "self" c1)(hvl:∀ p∈l,p.2.1.length<=1000)(hps:m.ps=p0++[pb])(hpz:m.ps.length<=10000)(S':Sta W G (aZ L) (eE tag t d nn vqt vk vv vqs vrn vqn vqa van vvl vpq vuri val vaq none none) ((c1,aU (some (.ref w.x)))::(d,IsD W d (atV l))::aC W w c q m N) s)(k:∀ vsb s',Sta W G (aZ L) (eE tag t d nn vqt vk vv vqs vrn vqn vqa van vvl vpq vuri val vaq vsb none) ((c1,aU (some (.ref w.x)))::(d,IsD W d (atV l))::aC W w c q { m with ps:=m.ps++[fF l pb] } N) s'-> Ad W.M A (execs ((aE aQ).drop 11) (aZ L)) Q E s'):Ad W.M A (execs ((aE aQ).drop 9) (aZ L)) Q E s:=by
 have hcl:=I.cl;have hps2:(m.ps.map Value.bool).length<=AC:=by walk_at "osz"
 have hls:(m.ps.map Value.bool).getLast?=some (.bool pb):=by rw[hps];simp
 have eb:∀(b:Bool) (X:Lg),(w.ps,aA (m.ps.map .bool++[.bool b]))::X=(w.ps,aA ((m.ps++[b]).map .bool))::X:=λ b X=>by rw[Aq];rfl
 walk_at "zd";walk_at "c";refine Sta.getM_D S' (by walk_at "mem") F.slot_dict_get F.type_dict_get ?_;walk_at "c";refine Sta.dictGet S' (by walk_at "mem") ?_;clear S';intro s' S';rw[uF];have hsp:fF l pb=(match l.find? λ p=>decide (p.1=spaceK)with | none=>pb | some p=>if p.2.1.length=0 then pb else decide (p.2.1="preserve")):=rfl;cases hf:l.find? λ p=>decide (p.1=spaceK)with
 | none=>
  rw[hf]at hsp;rw[show fF l pb=pb from hsp]at k;rw[Option.map_none,Option.getD_none];walk_at "c";refine cI ?_ (by intro _ _;kernel_rfl);walk_at "c";refine Sta.sub_last S' (by walk_at "mem") hls ?_
  repeat (fail_if_success (with_reducible show Ad W.M A (execs ((aE aQ).drop 11) (aZ L)) Q E _));walk_at "cw"
  walk_at "zd";rw[eb]at S';exact k _ _ S'
 | some p=>
  rw[hf]at hsp;replace hsp:fF l pb=if p.2.1.length=0 then pb else decide (p.2.1="preserve"):=hsp
  have hpl:=hvl p (List.mem_of_find?_eq_some hf);rw[Option.map_some,Option.getD_some];walk_at "c";refine cL S' (by walk_at "o") (λ e=>?_) (λ e=>?_)
  ·clear S';intro s' S';rw[if_pos e]at hsp;rw[hsp]at k;walk_at "c";refine cI ?_ (by intro _ _;kernel_rfl);walk_at "c";refine Sta.sub_last S' (by walk_at "mem") hls ?_
   repeat (fail_if_success (with_reducible show Ad W.M A (execs ((aE aQ).drop 11) (aZ L)) Q E _));walk_at "cw"
   walk_at "zd";rw[eb]at S';exact k _ _ S'
  ·clear S';intro s' S';rw[if_neg e]at hsp;walk_at "c";refine rF (λ e2=>?_) (λ e2=>?_)
   ·rw[decide_eq_true e2]at hsp;rw[hsp]at k
    repeat (fail_if_success (with_reducible show Ad W.M A (execs ((aE aQ).drop 11) (aZ L)) Q E _));walk_at "cw"
    walk_at "zd";rw[eb]at S';exact k _ _ S'
   ·rw[decide_eq_false e2]at hsp;rw[hsp]at k
    repeat (fail_if_success (with_reducible show Ad W.M A (execs ((aE aQ).drop 11) (aZ L)) Q E _));walk_at "cw"
    walk_at "zd";rw[eb]at S';exact k _ _ S'
theorem aBA{K:Sink W}{σ:K.σ}{L d nn c1 acc al:Addr}{tag:Str}{t:Tok}{l:List (Str×Str×Tok)}{pl:List Pq}{pq:Pq}{qs:List (Addr×NsP)}{vsb vqt vk vv vqs vrn vqn vqa van vvl vuri vaq:Option Value}{Q:Flow->Ac->Prop}(I:IsC W)(hA:Aok 14 A)(hself:ClO (aZ L) .cell "self" c1)(hpq:pq∈pl)(hv1:valueAt (pqD pl) tag=some (.ref pq.a))(htl:pq.tx.length<=4000)(h60:qs.length<=70)(hql:∀ r∈qs,r.2.1.length<=4000/\r.2.2.length<=1000)(hr:K.room σ 3)(S':Sta W G (aZ L) (eE tag t d nn vqt vk vv vqs vrn vqn vqa van vvl (some (.ref acc)) vuri (some (.ref al)) vaq vsb none) ((al,aA (aF qs))::(acc,IsD W acc (pqD pl))::(c1,aU (some (.ref w.x)))::(d,IsD W d (atV l))::aC W w c K.q m (K.L σ++(aK qs++(bJ pl++N)))) s)(k:∀ loc' s',loc'=eE tag t d nn vqt vk vv vqs vrn vqn vqa van vvl (some (.ref acc)) vuri (some (.ref al)) vaq vsb (some (.ref K.q))->Sta W G (aZ L) loc' ((al,aA (aF qs))::(acc,IsD W acc (pqD pl))::(c1,aU (some (.ref w.x)))::(d,IsD W d (atV l))::aC W w c K.q m (K.L (K.pushes σ (bL pq.tx (qs.map (·.2))))++(aK qs++(bJ pl++N)))) s'-> Ad W.M A (execs ((aE aQ).drop 15) (aZ L)) Q E s'):Ad W.M A (execs ((aE aQ).drop 11) (aZ L)) Q E s:=by
 have hcl:=I.cl;have hl1:("<":Str).length=1:=by decide +kernel
 have hr1:K.room σ 1:=K.less (K.less hr);have hr2:∀ x,K.room (K.push σ x) 2:=λ x=>K.step x hr;have hr3:∀ x y,K.room (K.push (K.push σ x) y) 1:=λ x y=>K.step y (hr2 x);have hpm:(pq.a,lY pq.x pq.tx)∈bJ pl:=Aj.mpr ⟨pq,hpq,rfl⟩;walk_at "zd";walk_at "c";refine cI ?_ (by intro _ _;kernel_rfl);refine cI ?_ (by intro _ _;kernel_rfl);walk_at "c";refine Sta.subD S' (by walk_at "mem") hv1 ?_;clear S';intro s' S';walk_at "c";refine Sta.subQn S' (x:=pq.x) (tx:=pq.tx) (by repeat (first | exact Ak _ hpm | refine BE _ ?_ | refine Af _ ?_)) ?_;intro t2;walk_at "c";refine⟨S'.sinkLed (L':=[]) (by walk_at "mid"),?_⟩;refine S'.sink (hA.le (by first | decide | walk_at "o")) hr1 (by walk_at "mid") ?_;clear S';intro s' S';walk_at "c";refine Sta.truthyR S' (.head _) (by walk_at "o") ?_;clear S';intro s' S';cases qs with
 | nil=>
  refine cP ?_;walk_at "c";refine⟨S'.sinkLed (L':=[]) (by walk_at "mid"),?_⟩;refine S'.sink (hA.le (by first | decide | walk_at "o")) (K.less (hr2 _)) (by walk_at "mid") ?_;clear S';intro s' S';walk_at "ke";exact k _ s' rfl S'
 | cons r0 rr=>
  refine dK ?_;walk_at "c";refine iZ ?_;refine cR ?_ (by kernel_rfl) (by kernel_rfl);refine eR ?_ (by kernel_rfl);walk_at "zd";generalize hqs:r0::rr=qs at *;have hemp:¬(qs.map (·.2)).isEmpty=true:=by rw[←hqs];simp
  replace S':=S'.perm (nw':=(al,aA (aF qs))::(aK qs++((acc,IsD W acc (pqD pl))::(c1,aU (some (.ref w.x)))::(d,IsD W d (atV l))::(w.x,bD 143 w.dx)::(w.dx,aN (eJ w c K.q m))::(w.d,aB m.held)::(w.dns,aA (aG m.dl))::(w.ns,aA (aG m.nl))::(w.pm,IsD W w.pm (pmV m.pm))::(w.ps,aA (m.ps.map .bool))::(aT m.dl++(aT m.nl++(K.L (K.push σ ("<"++pq.tx))++(bJ pl++N))))))) (by walk_at "perm");refine cJ S' ?_;clear S';intro lq Mq S';refine zB (al:=al) (qs:=qs) I (hA.le (by first | decide | walk_at "o")) h60 hql (by walk_at "mem") S' ?_;clear S';intro b s' S';refine args_nil ?_;refine Sta.joinT S' (.head _) (by kernel_rfl) (by
   refine Al (aA9 _ 10004 λ x hx=>?_) (Al (Bm 10004 (show _<=70 by rw[Ai];exact h60)) (by decide));obtain⟨r,hr,rfl⟩:=Aj.mp hx;have h1:=hql r hr;have h2:=lM r.2;walk_at "o") ?_
  clear S';intro t3 s' S';walk_at "c";replace S':=S'.perm (nw':=(b,aB (qs.map λ r=>bX r.2))::(al,aA (aF qs))::(acc,IsD W acc (pqD pl))::(c1,aU (some (.ref w.x)))::(d,IsD W d (atV l))::(w.x,bD 143 w.dx)::(w.dx,aN (eJ w c K.q m))::(w.d,aB m.held)::(w.dns,aA (aG m.dl))::(w.ns,aA (aG m.nl))::(w.pm,IsD W w.pm (pmV m.pm))::(w.ps,aA (m.ps.map .bool))::(aT m.dl++(aT m.nl++(K.L (K.push σ ("<"++pq.tx))++(aK qs++(bJ pl++N)))))) (by walk_at "perm");refine⟨S'.sinkLed (L':=[]) (by walk_at "mid"),?_⟩;refine S'.sink (hA.le (by first | decide | walk_at "o")) (K.less (hr2 _)) (by walk_at "mid") ?_;clear S';intro s' S';walk_at "c";refine⟨S'.sinkLed (L':=[]) (by walk_at "mid"),?_⟩;refine S'.sink (hA.le (by first | decide | walk_at "o")) (hr3 _ _) (by walk_at "mid") ?_;clear S';intro s' S';walk_at "ke";refine k _ s' rfl ?_;have ef:bL pq.tx (qs.map (·.2))=[("<"++pq.tx:Str),cat (qs.map λ r=>bX r.2),(">":Str)]:=by
   unfold bL;rw[if_neg hemp,AW]
   rfl
  rw[ef];exact S'.sel (Sel.drop (Sel.refl _))
end
noncomputable def dH(tag:Str)(l:List (Str×Str×Tok))(ex:List Str):List Str:=(tag::l.map (·.1))++ex
structure StOk (rw:Bool) (s:NSt) (tag:Str) (l:List (Str×Str×Tok)) (ex:List Str) (res:List (Str×Str)) (sv:NSt):Prop where
 nd:(dH tag l ex).Nodup
 len:(dH tag l ex).length<=4
 nm:∀ x∈dH tag l ex,NmG x
 inj:∀ x∈dH tag l ex,∀ y∈dH tag l ex,bI x=bI y->x=y
 ok:zE rw s (srt (ltK bI) (dH tag l ex))
 rs:eZ rw s (srt (ltK bI) (dH tag l ex))=some (res,sv)
 t4:(oN sv.decl).length<=4
 sm:∀ r∈oN sv.decl,eY r
 tl:∀ r∈res,r.2.length<=4000
 vl:∀ p∈l,p.2.1.length<=1000
theorem uR{rw:Bool}{xs:List Str}:∀{s sv:NSt} {res:List (Str×Str)},eZ rw s xs=some (res,sv)->res.map (·.1)=xs:=by
 induction xs with
 | nil=>intro s sv res h;obtain⟨rfl,rfl⟩:=Prod.mk.inj (Option.some.inj h);rfl
 | cons x r ih=>
  intro s sv res h;obtain⟨p,_,h2⟩:=Option.bind_eq_some_iff.mp h;obtain⟨q,h3,h4⟩:=Option.map_eq_some_iff.mp h2;obtain⟨rfl,rfl⟩:=Prod.mk.inj h4;rw[An,ih (res:=q.1) (sv:=q.2) h3]
theorem jG{res:List (Str×Str)}{k:Str}(h:k∈res.map (·.1)):∃ r∈res,r.2=dE res k:=by
 obtain⟨r0,h0,e0⟩:=Aj.mp h;unfold dE;cases hf:res.find? λ r=>decide (r.1=k)with
 | none=>exact absurd e0 (by simpa using List.find?_eq_none.mp hf r0 h0)
 | some r=>exact⟨r,List.mem_of_find?_eq_some hf,rfl⟩
theorem StOk.key{rw:Bool}{s sv:NSt}{tag:Str}{l:List (Str×Str×Tok)}{ex:List Str}{res:List (Str×Str)}(h:StOk rw s tag l ex res sv){x:Str}(hx:x∈dH tag l ex):x∈res.map (·.1):=by
 rw[uR h.rs];exact(bP (lt:=ltK bI) _).mem_iff.mpr hx
theorem mP{tag:Str}{l:List (Str×Str×Tok)}{ex:List Str}:tag∈dH tag l ex:=.head _
theorem mQ{tag:Str}{l:List (Str×Str×Tok)}{ex:List Str}{x:Str}(h:x∈l.map (·.1)):x∈dH tag l ex:=Ak _ (.tail _ h)
theorem StOk.ll{rw:Bool}{s sv:NSt}{tag:Str}{l:List (Str×Str×Tok)}{ex:List Str}{res:List (Str×Str)}(h:StOk rw s tag l ex res sv):l.length+ex.length<=3:=by
 have:=h.len;unfold dH at this;simp only[Ag,AG,Ai]at this;walk_at "o"
theorem StOk.new{rw:Bool}{s sv:NSt}{tag:Str}{l:List (Str×Str×Tok)}{ex:List Str}{res:List (Str×Str)}(h:StOk rw s tag l ex res sv):tag∉l.map (·.1):=(AP.mp (Be.mp h.nd).1).1
theorem StOk.ex{rw:Bool}{s sv:NSt}{tag x:Str}{l:List (Str×Str×Tok)}{res:List (Str×Str)}(h:StOk rw s tag l [x] res sv):x∉tag::l.map (·.1):=λ m=>(Be.mp h.nd).2.2 x m x (.head _) rfl
theorem StOk.row{rw:Bool}{s sv:NSt}{tag:Str}{l:List (Str×Str×Tok)}{ex:List Str}{res:List (Str×Str)}(h:StOk rw s tag l ex res sv):∀ r∈xnR sv.decl++atR res (atQ l),r.1.length<=4000/\r.2.length<=1000:=by
 intro r hr;rcases AD.mp hr with hr | hr
 ·have h1:=(bP (lt:=lt2) _).mem_iff.mp hr;obtain⟨q,hq,rfl⟩:=Aj.mp h1;have h2:=h.sm q hq;have h3:=aBl q.2;exact⟨by show(xnT q.2).length<=4000;have:=h2.2;walk_at "o",h2.1⟩
 ·obtain⟨q,hq,rfl⟩:=Aj.mp hr;have h1:=(bP (lt:=lt2) _).mem_iff.mp hq;obtain⟨p,hp,rfl⟩:=Aj.mp h1;refine⟨?_,h.vl p hp⟩;have hx:p.1∈dH tag l ex:=mQ (Aj.mpr ⟨p,hp,rfl⟩);show(if(nmU p.1).length=0 then nmL p.1 else dE res p.1).length<=4000
  split
  ·have:=(h.nm _ hx).ll;walk_at "o"
  ·obtain⟨r,hr,e⟩:=jG (h.key hx);rw[←e];exact h.tl r hr
section
variable {w:Wn}{c:Wc}{q:Addr}{m:Wm}
theorem aBz{K:Sink W}{L c1:Addr}{vt vd vn vk vv vqs vrn vqn vqa van vvl vpq vuri val vaq vsb vwr:Option Value}{Q:Flow->Ac->Prop}(I:IsC W)(hA:Aok 14 A)(hself:ClO (aZ L) .cell "self" c1)(hnz:m.nl.length<=10000)(S':Sta W G (aZ L) [("tag",vt),("attrs",vd),("new_namespaces",vn),("qname_text",some .none),("k",vk),("v",vv),("qnames",vqs),("resolved_names",vrn),("qname",vqn),("qattrs",vqa),("attr_name",van),("value",vvl),("parsed_qnames",vpq),("uri",vuri),("attr_list",val),("attr_qname",vaq),("space_behaviour",vsb),("write",vwr)] ((c1,aU (some (.ref w.x)))::aC W w c K.q m N) s)(k:∀ a loc' s',Sta W G (aZ L) loc' (aC W w c K.q { m with rs:=true,nl:=m.nl++[⟨a,[]⟩] } N) s'->Q .next s'):Ad W.M A (execs ((aE aQ).drop 15) (aZ L)) Q E s:=by
 have hcl:=I.cl;have hnl:(aG m.nl).length<=AC:=by rw[Aw];simp[aG];walk_at "o"
 walk_at "zd";walk_at "c";walk_at "ke";refine k a' _ s' (S'.sel (Sel.rest [(c1,aU (some (.ref w.x)))] ?_));simp only[aC]
 rw[bO];have e:aG m.nl++[.ref a']=aG (m.nl++[⟨a',[]⟩]):=by simp[aG]
 rw[e];show List.Perm _ (((w.x,bD 143 w.dx)::(w.dx,aN (eJ w c K.q { m with rs:=true,nl:=m.nl++[⟨a',[]⟩] }))::(w.d,aB m.held)::(w.dns,aA (aG m.dl))::(w.ns,aA (aG (m.nl++[⟨a',[]⟩])))::(w.pm,IsD W w.pm (pmV m.pm))::(w.ps,aA (m.ps.map .bool))::(aT m.dl++((aT m.nl++[(a',aA [])])++N)))++[(c1,aU (some (.ref w.x)))]);walk_at "perm"
end
noncomputable def Wm.data(m:Wm)(x:Str):Wm:=if m.ig=0 then{ m with held:=m.held++[x] }else m
noncomputable def aCf(held:List Str):List Str:=if(cat held).length=0 then[]else[dS (cat held)]
noncomputable def Wm.fl(m:Wm):List Str:=if m.rs=true then aCf m.held else[]
theorem cH{W:Wd}(K:Sink W){σ:K.σ}{n m:Nat}(h:n<=m)(hr:K.room σ m):K.room σ n:=by
 induction m with
 | zero=>have:n=0:=(by walk_at "o");subst this;exact hr
 | succ m ih=>
  by_cases e:n=m+1
  ·subst e;exact hr
  ·exact ih (by walk_at "o") (K.less hr)
theorem cN{W:Wd}(K:Sink W):∀(xs:List Str) {σ:K.σ} {n:Nat},K.room σ (n+xs.length)->K.room (K.pushes σ xs) n
 | [],σ,n,h=>h
 | x::r,σ,n,h=>cN K r (σ:=K.push σ x) (K.step x (by simpa[Bl]using h))
section
variable {w:Wn}{c:Wc}{q:Addr}{m:Wm}
theorem jb_at(I:IsC W):∃ t0,W.K.lookup 91=some { cls:=.type "builtin_function_or_method",data:=.fields #[.builtin "str.join",.str "" t0] }:=by
 rw[I.k];exact⟨430,by kernel_rfl⟩
theorem data_{x:Str}{t:Tok}{Q:Value->Ac->Prop}(I:IsC W)(S:Sta W G env loc (aC W w c q m N) s)(hA:Aok 2 A)(hz:m.held.length<=AC)(k:∀ s',Sta W G env loc (aC W w c q (m.data x) N) s'->Q .none s'):Ad W.M A (call (.ref 90) [.ref w.x,.str x t]) Q E s:=by
 refine S.call_fn (binds:=[("self",.ref w.x),("data",.str x t)]) [] I.f_data hA.room (λ _ _ _ _ _=>BindsTo.of_eq (by kernel_rfl)) (by kernel_rfl) ?_;intro L s' S';walk_at "zd";simp only[aW,An,AF,Av,Ay]at S';have hcl:=I.cl;refine aM ?_;walk_at "c"
 by_cases hi:m.ig=0
 ·have e0:((m.ig:Int) != 0)=false:=by rw[hi];rfl
  rw[e0];walk_at "c";have S2:=Sta.back S' S.eok;have q:=k s';unfold Wm.data at q;rw[if_pos hi]at q;exact q S2
 ·have e0:((m.ig:Int) != 0)=true:=bne_iff_ne.mpr (by walk_at "o");rw[e0];walk_at "c";have S2:=Sta.back S' S.eok;have q:=k s';unfold Wm.data at q;rw[if_neg hi]at q;exact q S2
end
section
variable {w:Wn}{c:Wc}{q:Addr}{m:Wm}
theorem wG{K:Sink W}{σ:K.σ}{L d qs c1 c2:Addr}{tag:Str}{t:Tok}{l:List (Str×Str×Tok)}{ex:List Str}{res:List (Str×Str)}{sv:NSt}{d0:List Lv}{lv:Lv}{p0:List Bool}{pb:Bool}{c?:Option Addr}{vqt vk vv vrn vqn van vvl vuri vaq:Option Value}{Q:Flow->Ac->Prop}(I:IsC W)(C:CodeHd W.B 118 116)(hA:Aok 22 A)(hself:ClO (aZ L) .cell "self" c1)(hpq:ClO (aZ L) .cell "parse_qname" c2)(hd:m.dl=d0++[lv])(hok:StOk c.rw (bB m) tag l ex res sv)(hps:m.ps=p0++[pb])(hpz:m.ps.length<=10000)(hr:K.room σ 3)(S':Sta W G (aZ L) (eE tag t d lv.a vqt vk vv (some (.ref qs)) vrn vqn (some .none) van vvl none vuri none vaq none none) ((c1,aU (some (.ref w.x)))::(c2,aU none)::(qs,bZ W (dH tag l ex))::aC W w c K.q m (aP 116 aV aH c?++((d,IsD W d (atV l))::(K.L σ++N)))) s)(k:∀ c' dl pm acc pl vk vv van vuri val vaq vsb s',bB { m with dl:=dl,pm:=pm }=sv->aG dl=aG m.dl->pl.map (λ p=>(p.x,p.tx))=res->Sta W G (aZ L) (eE tag t d lv.a vqt vk vv (some (.ref qs)) vrn vqn (some .none) van vvl (some (.ref acc)) vuri val vaq vsb (some (.ref K.q))) ((acc,IsD W acc (pqD pl))::(c1,aU (some (.ref w.x)))::aC W w c K.q { m with dl:=dl,pm:=pm,ps:=m.ps++[fF l pb] } ((d,IsD W d (atV l))::(K.L (K.pushes σ (bL (dE res tag) (xnR sv.decl++atR res (atQ l))))++(aP 116 aV aH (some c')++(bJ pl++N))))) s'-> Ad W.M A (execs ((aE aQ).drop 15) (aZ L)) Q E s'):Ad W.M A (execs ((aE aQ).drop 5) (aZ L)) Q E s:=by
 have hak:=oG l;have hql:(atQ l).map (·.1)=l.map (·.1):=by simp[atQ,AW,Function.comp_def]
 rw[hql]at hak;have hlen:=hok.ll;refine aBv I C hA hself hpq hd rfl hok.nd hok.nm hok.len hok.inj hok.ok hok.rs hok.t4 hok.sm S' ?_;clear S';intro acc al pl ps dl pm c' s' hpr hsv hdl hpsr S';have hp60:ps.length<=60:=by
  have h1:=congrArg A8 hpsr;have h2:=hok.t4;unfold xnR at h1;rw[Ai,(bP (lt:=lt2) _).length_eq,Ai]at h1;walk_at "o"
 have S2:=S'.perm (nw':=(al,aA (aF ps))::(aK ps++((acc,IsD W acc (pqD pl))::(d,IsD W d (atV l))::(bJ pl++((c1,aU (some (.ref w.x)))::aC W w c K.q { m with dl:=dl,pm:=pm } (K.L σ++(aP 116 aV aH (some c')++N))))))) (by walk_at "perm");clear S';refine aBB (ps:=ps) I (hA.le (by decide)) hpr (λ p hp=>hok.key (mQ (Aj.mpr ⟨p,hp,rfl⟩))) (by walk_at "o") hp60 (λ p hp=>hok.nm _ (mQ (Aj.mpr ⟨p,hp,rfl⟩))) S2 ?_;clear S2;intro rs vk vv van vuri vaq s' hrs S';rw[hpsr]at hrs;obtain⟨pq,hq1,hq2,hq3,hq4⟩:=qM (k:=tag) hpr (hok.key mP);have S2:=S'.perm (nw':=(c1,aU (some (.ref w.x)))::(d,IsD W d (atV l))::aC W w c K.q { m with dl:=dl,pm:=pm } ((al,aA (aF rs))::(acc,IsD W acc (pqD pl))::(K.L σ++(aK rs++(bJ pl++(aP 116 aV aH (some c')++N)))))) (by walk_at "perm");clear S';refine zX (m:={ m with dl:=dl,pm:=pm }) I (hA.le (by decide)) hself hok.vl hps hpz S2 ?_;clear S2;intro vsb s' S';have S2:=S'.perm (nw':=(al,aA (aF rs))::(acc,IsD W acc (pqD pl))::(c1,aU (some (.ref w.x)))::(d,IsD W d (atV l))::aC W w c K.q { m with dl:=dl,pm:=pm,ps:=m.ps++[fF l pb] } (K.L σ++(aK rs++(bJ pl++(aP 116 aV aH (some c')++N))))) (by walk_at "perm");clear S';have hr60:rs.length<=70:=by
  have h1:=congrArg A8 hrs;have h2:=congrArg A8 hpsr;unfold atR at h1;rw[Ai,Ag,Ai,(bP (lt:=lt2) _).length_eq]at h1;rw[Ai]at h2;have h4:(atQ l).length=l.length:=Ai ..;walk_at "o"
 refine aBA (m:={ m with dl:=dl,pm:=pm,ps:=m.ps++[fF l pb] }) I (hA.le (by decide)) hself hq1 hq4 (by rw[hq3];obtain⟨r,hr,e⟩:=jG (hok.key (x:=tag) mP);rw[←e];exact hok.tl r hr) hr60 (λ r hr=>hok.row _ (by rw[←hrs];exact Aj.mpr ⟨r,hr,rfl⟩)) hr S2 ?_;clear S2;intro loc' s' hloc S';subst hloc;refine k c' dl pm acc pl vk vv van vuri _ vaq vsb s' hsv hdl hpr (S'.sel (Sel.rest ((al,aA (aF rs))::aK rs) ?_));rw[hrs,hq3];walk_at "perm"
end
theorem rS(x:Str)(v:Value):valueAt [(x,v)] x=some v:=by simp[valueAt]
section
variable {w:Wn}{c:Wc}{q:Addr}{m:Wm}
theorem zZ{K:Sink W}{σ:K.σ}{L c1 d nn acc rn qs:Addr}{tag pn full:Str}{t tn tf:Tok}{pl:List Pq}{pq:Pq}{vk vv vqn vqa van vvl vuri val vaq vsb:Option Value}{Q:Flow->Ac->Prop}(I:IsC W)(hA:Aok 14 A)(hself:ClO (aZ L) .cell "self" c1)(hnz:m.nl.length<=10000)(hpq:pq∈pl)(hv1:valueAt (pqD pl) full=some (.ref pq.a))(htl:pq.tx.length<=4000)(hr:K.room σ 1)(S':Sta W G (aZ L) (eE tag t d nn (some (.str pn tn)) vk vv (some (.ref qs)) (some (.ref rn)) vqn vqa van vvl (some (.ref acc)) vuri val vaq vsb (some (.ref K.q))) ((rn,IsD W rn [(pn,.str full tf)])::(acc,IsD W acc (pqD pl))::(c1,aU (some (.ref w.x)))::aC W w c K.q m (K.L σ++(bJ pl++N))) s)(k:∀ a loc' s',Sta W G (aZ L) loc' (aC W w c K.q { m with rs:=true,nl:=m.nl++[⟨a,[]⟩] } (K.L (K.push σ (dS pq.tx))++(bJ pl++N))) s'->Q .next s'):Ad W.M A (execs ((aE aQ).drop 15) (aZ L)) Q E s:=by
 have hcl:=I.cl;have hnl:(aG m.nl).length<=AC:=by rw[Aw];simp[aG];walk_at "o"
 have hpm:(pq.a,lY pq.x pq.tx)∈bJ pl:=Aj.mpr ⟨pq,hpq,rfl⟩;walk_at "zd";walk_at "c";refine Sta.global S' I.g_escC (by kernel_rfl) ?_;refine gC (by rw[I.k];kernel_rfl) ?_ (by kernel_rfl) (by kernel_rfl);walk_at "c";refine cI ?_ (by intro _ _;kernel_rfl);refine cI ?_ (by intro _ _;kernel_rfl);walk_at "c";refine cI ?_ (by intro _ _;kernel_rfl);walk_at "c";refine Sta.subD S' (by walk_at "mem") (rS _ _) ?_;clear S';intro s' S';refine Sta.subD S' (by walk_at "mem") hv1 ?_;clear S';intro s' S';walk_at "c";refine Sta.subQn S' (x:=pq.x) (tx:=pq.tx) (by repeat (first | exact Ak _ hpm | refine BE _ ?_ | refine Af _ ?_)) ?_;intro t2;walk_at "c";refine⟨S'.kin,?_⟩;refine wY I S' (hA.le (by first | decide | walk_at "o")) (by unfold txL;walk_at "o") ?_;clear S';intro t3 s' S';walk_at "c";refine⟨S'.sinkLed (L':=[]) (by walk_at "mid"),?_⟩;refine S'.sink (hA.le (by first | decide | walk_at "o")) hr (by walk_at "mid") ?_;clear S';intro s' S';walk_at "c";walk_at "ke";refine k a' _ s' (S'.sel (Sel.rest [(rn,IsD W rn [(pn,.str full tf)]),(acc,IsD W acc (pqD pl)),(c1,aU (some (.ref w.x)))] ?_));simp only[aC]
 rw[bO];have e:aG m.nl++[.ref a']=aG (m.nl++[⟨a',[]⟩]):=by simp[aG]
 rw[e];show List.Perm _ (((w.x,bD 143 w.dx)::(w.dx,aN (eJ w c K.q { m with rs:=true,nl:=m.nl++[⟨a',[]⟩] }))::(w.d,aB m.held)::(w.dns,aA (aG m.dl))::(w.ns,aA (aG (m.nl++[⟨a',[]⟩])))::(w.pm,IsD W w.pm (pmV m.pm))::(w.ps,aA (m.ps.map .bool))::(aT m.dl++((aT m.nl++[(a',aA [])])++(K.L (K.push σ (dS pq.tx))++(bJ pl++N)))))++[(rn,IsD W rn [(pn,.str full tf)]),(acc,IsD W acc (pqD pl)),(c1,aU (some (.ref w.x)))]);walk_at "perm"
theorem wH{K:Sink W}{σ:K.σ}{d:Addr}{tag:Str}{t:Tok}{l:List (Str×Str×Tok)}{res:List (Str×Str)}{sv:NSt}{d0:List Lv}{lv:Lv}{p0:List Bool}{pb:Bool}{c?:Option Addr}{R:Result->Ac->Prop}(I:IsC W)(C:CodeHd W.B 118 116)(hA:Aok 24 A)(hd:m.dl=d0++[lv])(hok:StOk c.rw (bB m) tag l [] res sv)(hps:m.ps=p0++[pb])(hpz:m.ps.length<=10000)(hnz:m.nl.length<=10000)(hr:K.room σ 3){vs:List Value}(hvs:vs=[]\/vs=[.none])(S:Sta W G env loc ((d,IsD W d (atV l))::aC W w c K.q m (K.L σ++(aP 116 aV aH c?++N))) s)(k:∀ c' dl pm a s',bB { m with dl:=dl,pm:=pm }=sv->aG dl=aG m.dl->Sta W G env loc ((d,IsD W d (atV l))::aC W w c K.q { m with dl:=dl,pm:=pm,rs:=true,ps:=m.ps++[fF l pb],nl:=m.nl++[⟨a,[]⟩] } (K.L (K.pushes σ (bL (dE res tag) (xnR sv.decl++atR res (atQ l))))++(aP 116 aV aH (some c')++N))) s'->R (.ok (.ret .none)) s'):codeAny W.M A (.call (.ref 119) ⟨.ref w.x::.str tag t::.ref d::.ref lv.a::vs,[]⟩) R s:=by
 refine S.code_fnC (binds:=[("self",.ref w.x),("tag",.str tag t),("attrs",.ref d),("new_namespaces",.ref lv.a),("qname_text",.none)]) [("tag",.str tag t),("attrs",.ref d),("new_namespaces",.ref lv.a),("qname_text",.none)] ["k","v","qnames","resolved_names","qname","qattrs","attr_name","value","parsed_qnames","uri","attr_list","attr_qname","space_behaviour","write"] [some (.ref w.x),none] I.f_start1 hA.room ?_ (by kernel_rfl) (by kernel_rfl) (by kernel_rfl) ?_
 ·intro name doc pm ct an;rcases hvs with rfl | rfl
  ·exact kp_binds S.kin λ S=>by rw[I.k];kernel_rfl
  ·exact kp_binds S.kin λ S=>by rw[I.k];kernel_rfl
 intro L cs s' hcs S';have hnm:aO (aD aQ).names=(["self","parse_qname"]:List Str):=by kernel_rfl
 rw[hnm]at hcs;obtain⟨c1,c2,rfl,hself,hpq⟩:=hcs.two;have hA':=hA.deeper (env:=aZ L);walk_at "zd";dsimp only[aW,An,AF,Av,Ay,gF,gV]at S';have hak:=oG l;have hql:(atQ l).map (·.1)=l.map (·.1):=by simp[atQ,AW,Function.comp_def]
 rw[hql]at hak;have hall:(atV l).length=l.length:=Ai ..;have hlen:=hok.ll;have S2:=S'.perm (nw':=(c1,aU (some (.ref w.x)))::(d,IsD W d (atV l))::aC W w c K.q m ((c2,aU none)::(K.L σ++(aP 116 aV aH c?++((env.locals,aL loc)::N))))) (by walk_at "perm");clear S';refine aM ?_;refine aBy (kvs:=atV l) I (hA'.le (by decide)) hself (by rw[hak];exact hok.new) (by rw[hall];walk_at "o") S2 ?_;clear S2;intro qs vrn s' S';walk_at "zd";have S2:=S'.perm (nw':=(c1,aU (some (.ref w.x)))::(c2,aU none)::(qs,bZ W (dH tag l []))::aC W w c K.q m (aP 116 aV aH c?++((d,IsD W d (atV l))::(K.L σ++((env.locals,aL loc)::N))))) (by rw[hak];unfold dH;rw[Am];walk_at "perm");clear S';refine wG I C (hA'.le (by decide)) hself hpq hd hok hps hpz hr S2 ?_;clear S2;intro c' dl pm acc pl vk vv van vuri val vaq vsb s' hsv hdl hpr S';have S2:=S'.sel (nw':=(c1,aU (some (.ref w.x)))::aC W w c K.q { m with dl:=dl,pm:=pm,ps:=m.ps++[fF l pb] } ((d,IsD W d (atV l))::(K.L (K.pushes σ (bL (dE res tag) (xnR sv.decl++atR res (atQ l))))++(aP 116 aV aH (some c')++((env.locals,aL loc)::N))))) (Sel.rest ((acc,IsD W acc (pqD pl))::bJ pl) (by walk_at "perm"));clear S';refine aBz (m:={ m with dl:=dl,pm:=pm,ps:=m.ps++[fF l pb] }) I (hA'.le (by decide)) hself hnz S2 ?_;clear S2;intro a loc' s' S';walk_at "ke";refine k c' dl pm a s' hsv hdl (Sta.back (S'.perm ?_) S.eok);walk_at "perm"
end
theorem cW(tx:Str)(row:List NsP):(bL tx row).length<=3:=by
 unfold bL
 split<;>simp
section
variable {w:Wn}{c:Wc}{q:Addr}{m:Wm}
theorem aAa{pn pre ln u:Str}{tn:Tok}{K:Sink W}{σ:K.σ}{d:Addr}{tag:Str}{t:Tok}{l:List (Str×Str×Tok)}{res:List (Str×Str)}{sv:NSt}{d0:List Lv}{lv:Lv}{p0:List Bool}{pb:Bool}{c?:Option Addr}{R:Result->Ac->Prop}(I:IsC W)(C:CodeHd W.B 118 116)(hA:Aok 24 A)(hd:m.dl=d0++[lv])(hok:StOk c.rw (bB m) tag l [("{"++u++"}"++ln:Str)] res sv)(hps:m.ps=p0++[pb])(hpz:m.ps.length<=10000)(hnz:m.nl.length<=10000)(hr:K.room σ 4)(hs:Txt.splitMax pn ":" 1=[pre,ln])(hpz2:pn.length<=2400)(hln:ln.length<=2400)(hnk:NsOk (bB m))(hfp:(flat (bB m).nss).find? (λ q=>decide (q.2=pre))=some (u,pre))(S:Sta W G env loc ((d,IsD W d (atV l))::aC W w c K.q m (K.L σ++(aP 116 aV aH c?++N))) s)(k:∀ c' dl pm a s',bB { m with dl:=dl,pm:=pm }=sv->aG dl=aG m.dl->Sta W G env loc ((d,IsD W d (atV l))::aC W w c K.q { m with dl:=dl,pm:=pm,rs:=true,ps:=m.ps++[fF l pb],nl:=m.nl++[⟨a,[]⟩] } (K.L (K.pushes σ (bL (dE res tag) (xnR sv.decl++atR res (atQ l))++[dS (dE res ("{"++u++"}"++ln:Str))]))++(aP 116 aV aH (some c')++N))) s'->R (.ok (.ret .none)) s'):codeAny W.M A (.call (.ref 119) ⟨.ref w.x::.str tag t::.ref d::.ref lv.a::[.str pn tn],[]⟩) R s:=by
 refine S.code_fnC (binds:=[("self",.ref w.x),("tag",.str tag t),("attrs",.ref d),("new_namespaces",.ref lv.a),("qname_text",.str pn tn)]) [("tag",.str tag t),("attrs",.ref d),("new_namespaces",.ref lv.a),("qname_text",.str pn tn)] ["k","v","qnames","resolved_names","qname","qattrs","attr_name","value","parsed_qnames","uri","attr_list","attr_qname","space_behaviour","write"] [some (.ref w.x),none] I.f_start1 hA.room ?_ (by kernel_rfl) (by kernel_rfl) (by kernel_rfl) ?_
 ·intro name doc pm ct an;exact kp_binds S.kin λ S=>by rw[I.k];kernel_rfl
 intro L cs s' hcs S';have hnm:aO (aD aQ).names=(["self","parse_qname"]:List Str):=by kernel_rfl
 rw[hnm]at hcs;obtain⟨c1,c2,rfl,hself,hpq⟩:=hcs.two;have hA':=hA.deeper (env:=aZ L);walk_at "zd";dsimp only[aW,An,AF,Av,Ay,gF,gV]at S';have hak:=oG l;have hql:(atQ l).map (·.1)=l.map (·.1):=by simp[atQ,AW,Function.comp_def]
 rw[hql]at hak;have hall:(atV l).length=l.length:=Ai ..;have hlen:=hok.ll;rw[AJ]at hlen;have S2:=S'.perm (nw':=(c1,aU (some (.ref w.x)))::(d,IsD W d (atV l))::aC W w c K.q m ((c2,aU none)::(K.L σ++(aP 116 aV aH c?++((env.locals,aL loc)::N))))) (by walk_at "perm");clear S';refine aM ?_;refine zY (kvs:=atV l) I (hA'.le (by decide)) hself (by rw[hak];exact hok.new) (by rw[hall];walk_at "o") hs (by walk_at "o") (by walk_at "o") hnk hfp (by rw[hak];exact hok.ex) S2 ?_;clear S2;intro qs rn tf s' S';walk_at "zd";have S2:=S'.perm (nw':=(c1,aU (some (.ref w.x)))::(c2,aU none)::(qs,bZ W (dH tag l [("{"++u++"}"++ln:Str)]))::aC W w c K.q m (aP 116 aV aH c?++((d,IsD W d (atV l))::(K.L σ++((rn,IsD W rn [(pn,.str ("{"++u++"}"++ln) tf)])::(env.locals,aL loc)::N))))) (by rw[hak];walk_at "perm");clear S';refine wG I C (hA'.le (by decide)) hself hpq hd hok hps hpz (K.less hr) S2 ?_;clear S2;intro c' dl pm acc pl vk vv van vuri val vaq vsb s' hsv hdl hpr S';obtain⟨pq,hq1,hq2,hq3,hq4⟩:=qM (k:=("{"++u++"}"++ln:Str)) hpr (hok.key (Af _ (.head _)));have S2:=S'.perm (nw':=(rn,IsD W rn [(pn,.str ("{"++u++"}"++ln) tf)])::(acc,IsD W acc (pqD pl))::(c1,aU (some (.ref w.x)))::aC W w c K.q { m with dl:=dl,pm:=pm,ps:=m.ps++[fF l pb] } (K.L (K.pushes σ (bL (dE res tag) (xnR sv.decl++atR res (atQ l))))++(bJ pl++((d,IsD W d (atV l))::(aP 116 aV aH (some c')++((env.locals,aL loc)::N)))))) (by walk_at "perm");clear S';refine zZ (m:={ m with dl:=dl,pm:=pm,ps:=m.ps++[fF l pb] }) I (hA'.le (by decide)) hself hnz hq1 hq4 (by rw[hq3];obtain⟨r,hr,e⟩:=jG (hok.key (x:=("{"++u++"}"++ln:Str)) (Af _ (.head _)));rw[←e];exact hok.tl r hr) (cN K _ (cH K (by have:=cW (dE res tag) (xnR sv.decl++atR res (atQ l));walk_at "o") hr)) S2 ?_;clear S2;intro a loc' s' S';walk_at "ke";refine k c' dl pm a s' hsv hdl (Sta.back (S'.sel (Sel.rest (bJ pl) ?_)) S.eok);rw[hq3,K.pushes_append];walk_at "perm"
end
noncomputable def cG(st pb:Bool)(h:List Str):Str:=if st=true/\pb=false then Txt.strip (cat h)else cat h
noncomputable def flT(rs:Bool)(x:Str):List Str:=if rs=true/\x.length≠0 then[dS x]else[]
noncomputable abbrev dO(L:Addr):Env:=envOf "C14NWriterTarget._flush" (aD bN) L 99 (.ref 98)
noncomputable abbrev jQ(w:Wn)(vd va vq:Option Value):Loc:=[("self",some (.ref w.x)),("_join_text",some (.ref 91)),("data",vd),("args",va),("qname_text",vq)]
section
variable {w:Wn}{c:Wc}{q:Addr}{m:Wm}
theorem aD8(I:IsC W){h:Heap}(k:W.K.In h):∃ y t0 t1,IsPat h 36 35 y t0 t1:=by
 have h1:W.K.lookup 36=some { cls:=.type "re.Pattern",data:=.fields #[.str "^\\w+:\\w+$" 285,.int 32 320,.int 0 0,.none,.none,.ref 35,.int 0 0] }:=by rw[I.k];kernel_rfl
 have h2:W.K.lookup 35=some { cls:=.type "tuple",data:=.seq (reCode.map λ n=>.int (Int.ofNat n) 0) 0 }:=by rw[I.k];kernel_rfl
 exact⟨_,_,_,k _ _ h1,_,k _ _ h2⟩
theorem wW{L:Addr}{p0:List Bool}{pb:Bool}{Q:Flow->Ac->Prop}(I:IsC W)(hA:Aok 4 A)(hps:m.ps=p0++[pb])(hz:m.held.length<=AC)(hc:(cat m.held).length<=txL)(S':Sta W G (dO L) (jQ w none none none) (aC W w c q m N) s)(k:∀ t s',Sta W G (dO L) (jQ w (some (.str (cG c.st pb m.held) t)) none none) (aC W w c q { m with held:=[] } N) s'->Ad W.M A (execs ((aE bN).drop 3) (dO L)) Q E s'):Ad W.M A (execs ((aE bN).drop 0) (dO L)) Q E s:=by
 obtain⟨t0,hj⟩:=jb_at I;have hcl:=I.cl;have hz2:(cat m.held).length<=16777216:=by unfold txL at hc;walk_at "o"
 have hls:(m.ps.map Value.bool).getLast?=some (.bool pb):=by rw[hps];simp
 have hx:cG c.st pb m.held=if c.st=true/\pb=false then Txt.strip (cat m.held)else cat m.held:=rfl
 walk_at "zd";walk_at "c";refine xE hj ?_ (by kernel_rfl) (by kernel_rfl);walk_at "c";refine⟨S'.kin,?_⟩;refine Sta.joinB S' hj (by walk_at "mem") (by kernel_rfl) hz2 ?_;clear S';intro t1 s' S';walk_at "c";refine wpAny_Delete (wpAny_deleteEach_cons (vU ?_));walk_at "c";refine⟨_,_,_,_,_,_,S',rfl,by walk_at "upd",hz,?_⟩;clear S';intro s' S';refine cJ S' ?_;clear S';intro lq Mq S';refine wpAny_deleteEach_nil ?_;walk_at "kn";walk_at "c";cases hst:c.st with
 | false=>
  rw[if_neg (by rw[hst];exact λ h=>AY h.1)]at hx;rw[hx]at k;refine cP ?_
  repeat (fail_if_success (with_reducible show Ad W.M A (execs ((aE bN).drop 3) (dO L)) Q E _));walk_at "cw"
  walk_at "zd";exact k _ _ S'
 | true=>
  refine dK ?_;walk_at "c";refine cI ?_ (by intro _ _;kernel_rfl);walk_at "c";refine Sta.sub_last S' (by walk_at "mem") hls ?_;walk_at "c"
  induction pb with
  | true=>
   rw[if_neg (λ h=>AY h.2)]at hx;rw[hx]at k
   repeat (fail_if_success (with_reducible show Ad W.M A (execs ((aE bN).drop 3) (dO L)) Q E _));walk_at "cw"
   walk_at "zd";exact k _ _ S'
  | false=>
   rw[if_pos ⟨hst,rfl⟩]at hx;rw[hx]at k;walk_at "c";refine tF ?_;walk_at "c";refine S'.strip hz2 ?_;clear S';intro t2 s' S'
   repeat (fail_if_success (with_reducible show Ad W.M A (execs ((aE bN).drop 3) (dO L)) Q E _));walk_at "cw"
   walk_at "zd";exact k _ _ S'
theorem wU{K:Sink W}{σ:K.σ}{L:Addr}{x:Str}{t:Tok}{va vq:Option Value}{Q:Flow->Ac->Prop}(I:IsC W)(hA:Aok 4 A)(hz:x.length<=txL)(hr:K.room σ 1)(S':Sta W G (dO L) (jQ w (some (.str x t)) va vq) (aC W w c K.q m (K.L σ++N)) s)(k:∀ loc' s',Sta W G (dO L) loc' (aC W w c K.q m (K.L (K.pushes σ (flT m.rs x))++N)) s'->Q .next s'):Ad W.M A (execs ((aE bN).drop 4) (dO L)) Q E s:=by
 have hcl:=I.cl;have hz2:x.length<=16777216:=by unfold txL at hz;walk_at "o"
 walk_at "zd";walk_at "c";refine cL S' hz2 (λ e s' S'=>?_) (λ e s' S'=>?_)
 ·have ef:flT m.rs x=[]:=if_neg λ h=>h.2 e;rw[ef]at k;walk_at "c";walk_at "ke";exact k _ _ S'
 ·walk_at "c";cases hrs:m.rs with
  | false=>
   have ef:flT m.rs x=[]:=if_neg λ h=>by rw[hrs]at h;exact AY h.1
   rw[ef]at k;walk_at "c";walk_at "ke";exact k _ _ S'
  | true=>
   have ef:flT m.rs x=[dS x]:=if_pos ⟨hrs,e⟩;rw[ef]at k;walk_at "c";refine Sta.global S' I.g_escC (by kernel_rfl) ?_;refine gC (by rw[I.k];kernel_rfl) ?_ (by kernel_rfl) (by kernel_rfl);walk_at "c";refine⟨S'.kin,?_⟩;refine wY I S' (hA.le (by first | decide | walk_at "o")) hz ?_;clear S';intro t2 s' S';walk_at "c";refine⟨S'.sinkLed (L':=[]) (by walk_at "mid"),?_⟩;refine S'.sink (hA.le (by first | decide | walk_at "o")) hr (by walk_at "mid") ?_;clear S';intro s' S';walk_at "c";walk_at "ke";exact k _ _ S'
end
section
local macro_rules | `(tactic| walk_at $s:str) => Mine.goAt Mine.tabD s
section
local macro_rules | `(tactic| walk_at $s:str) => Mine.goAt Mine.tabF s
noncomputable def fIf:List Stmt:=aE ((aE bN).getD 3 (.Pass default))
noncomputable def aDg:Value->Flow
 | .none=>.next
 | _=>.ret .none
section
variable {w:Wn}{c:Wc}{q:Addr}{m:Wm}
theorem wV{L:Addr}{p:Pd}{v:Value}{vd:Option Value}{Q:Flow->Ac->Prop}(I:IsC W)(S':Sta W G (dO L) (jQ w vd (some (.ref p.pt)) (some v)) ((p.pt,aJ [.str p.tag p.t,.ref p.d,.ref p.nn])::aC W w c q m N) s)(hv:v=.none\/∃ x t,v=.str x t)(k:∀ s',Sta W G (dO L) (jQ w vd (some (.ref p.pt)) (some v)) (aC W w c q m N) s'->∀ R:Result->Ac->Prop, (∀ nw2 s2,Sta W G (dO L) (jQ w vd (some (.ref p.pt)) (some v)) nw2 s2->(∀ s3,Sta W G (dO L) (jQ w vd (some (.ref p.pt)) (some v)) nw2 s3->Q (aDg v) s3)->R (.ok (.ret .none)) s2)-> codeAny W.M A (.call (.ref 119) ⟨[.ref w.x,.str p.tag p.t,.ref p.d,.ref p.nn,v],[]⟩) R s'):Ad W.M A (execs (fIf.drop 2) (dO L)) Q E s:=by
 have hcl:=I.cl;refine bQ rfl ?_;refine wpAny_Expr_any ?_ (by kernel_rfl) (by kernel_rfl);refine aCN ?_ rfl rfl;refine S'.local_ (.head _) ?_;refine Sta.getBound (f:=119) S' hcl (by walk_at "mem") (by walk_at "mem") VV.keys (by decide +kernel) (by rw[I.k];kernel_rfl) (by rw[I.k];kernel_rfl) (by rw[I.k];kernel_rfl) (by rw[I.k];kernel_rfl) (by decide +kernel) ?_;clear S';intro bm s' S';refine wB (q:=bm) (f:=119) (self:=.ref w.x) (by rw[I.k];kernel_rfl) rfl ?_;refine S'.local_ (.tail _ (.tail _ (.tail _ (.head _)))) ?_;refine S'.starT (.tail _ (.head _)) (by rw[Aw];exact Ar rfl) ?_;clear S';intro s' S';refine eR ?_ rfl;refine S'.local_ (.tail _ (.tail _ (.tail _ (.tail _ (.head _))))) ?_;refine args_nil ?_;refine⟨S'.methP (.head _),?_⟩;refine S'.callMeth (.head _) ?_;refine k _ (S'.sel (Sel.rest [(bm,eA 119 (.ref w.x)),(p.pt,aJ [.str p.tag p.t,.ref p.d,.ref p.nn])] (by walk_at "perm"))) _ ?_;clear S';intro nw2 s2 S' kk;refine bQ rfl ?_;rcases hv with rfl | ⟨x,t,rfl⟩
 ·walk_at "c";walk_at "ke";exact kk _ S'
 ·walk_at "c";walk_at "ke";exact kk _ S'
theorem aCg{L:Addr}{x:Str}{t:Tok}{p:Pd}{Q:Flow->Ac->Prop}(I:IsC W)(hA:Aok 4 A)(hz:x.length<=txL)(hpe:m.pe=some p)(S':Sta W G (dO L) (jQ w (some (.str x t)) none none) (aC W w c q m ((p.pt,aJ [.str p.tag p.t,.ref p.d,.ref p.nn])::N)) s)(k:∀ v s',v=(if x.length≠0/\looks x=true then .str x t else .none)->Sta W G (dO L) (jQ w (some (.str x t)) (some (.ref p.pt)) (some v)) (aC W w c q { m with pe:=none } N) s'->∀ R:Result->Ac->Prop,
   (∀ nw2 s2,Sta W G (dO L) (jQ w (some (.str x t)) (some (.ref p.pt)) (some v)) nw2 s2->
    (∀ s3,Sta W G (dO L) (jQ w (some (.str x t)) (some (.ref p.pt)) (some v)) nw2 s3->match(generalizing:=false) aDg v with | .next=>Ad W.M A (execs ((aE bN).drop 4) (dO L)) Q E s3 | f=>Q f s3)->R (.ok (.ret .none)) s2)->
   codeAny W.M A (.call (.ref 119) ⟨[.ref w.x,.str p.tag p.t,.ref p.d,.ref p.nn,v],[]⟩) R s'):Ad W.M A (execs ((aE bN).drop 3) (dO L)) Q E s:=by
 have hcl:=I.cl;have hz2:x.length<=16777216:=by unfold txL at hz;walk_at "o"
 have hv:peV m.pe=.ref p.pt:=by rw[hpe];rfl
 obtain⟨held,dl,nl,pm,ps,rs,rd,ig,ti,pe⟩:=m;subst hpe;walk_at "zd";have hlk:W.K.lookup 45=some { cls:=.type "builtin_function_or_method",data:=.fields #[.builtin "re.Pattern.match",.ref 36] }:=by rw[I.k];kernel_rfl
 refine fR (l:=aE bN) (n:=3) rfl ?_;intro K0 hn0 hr0;have tail:∀ v s',v=(if x.length≠0/\looks x=true then .str x t else .none)->Sta W G (dO L) (jQ w (some (.str x t)) (some (.ref p.pt)) (some v)) ((p.pt,aJ [.str p.tag p.t,.ref p.d,.ref p.nn])::aC W w c q ⟨held,dl,nl,pm,ps,rs,rd,ig,ti,none⟩ N) s'->
   Ad W.M A (execs (fIf.drop 2) (dO L)) K0 E s':=by
  clear S';intro v s' hv S'
  by_cases hc:x.length≠0/\looks x=true
  ·rw[if_pos hc]at hv;refine wV I S' (by rw[hv];exact .inr ⟨_,_,rfl⟩) λ s' S' R kk=>k v s' (by rw[if_pos hc];exact hv) S' R λ nw2 s2 S2 k2=>kk nw2 s2 S2 λ s3 S3=>?_;have h3:=k2 s3 S3;rw[hv]at h3 ⊢;exact hr0 _ _ h3
  ·rw[if_neg hc]at hv;refine wV I S' (by rw[hv];exact .inl rfl) λ s' S' R kk=>k v s' (by rw[if_neg hc];exact hv) S' R λ nw2 s2 S2 k2=>kk nw2 s2 S2 λ s3 S3=>?_;have h3:=k2 s3 S3;rw[hv]at h3 ⊢;exact hn0 _ h3
 refine fG ?_;walk_at "c";rw[hv];refine tB ?_;refine wpAny_truthy_bool ?_;refine dK ?_;show Ad W.M A (execs (fIf.drop 0) (dO L)) K0 E s';refine fR (l:=fIf) (n:=0) rfl ?_;intro K1 hn1 hr1;walk_at "c";rw[hv]at S' ⊢;refine assignInOrder_cons ?_;refine assign_Name ?_;walk_at "c";refine assignInOrder_cons ?_;refine zC ?_;walk_at "c";refine assignInOrder_nil ?_;refine hn1 _ ?_;replace S':=S'.sel (nw':=(p.pt,aJ [.str p.tag p.t,.ref p.d,.ref p.nn])::aC W w c q ⟨held,dl,nl,pm,ps,rs,rd,ig,ti,none⟩ N) (Sel.rest [(a',aJ [.ref p.pt,.none])] (by walk_at "perm"));refine cJ S' ?_;clear S';intro lq Mq S';refine fR (l:=fIf) (n:=1) rfl ?_;intro K2 hn2 hr2;walk_at "c";refine cL S' hz2 (λ e s' S'=>?_) (λ e s' S'=>?_)
 ·have ev:(if x.length≠0/\looks x=true then Value.str x t else .none)=.none:=if_neg λ h=>h.1 e;walk_at "c";exact hn2 _ (tail _ _ ev.symm S')
 ·walk_at "c";refine Sta.global S' I.g_looks (by kernel_rfl) ?_;refine xE hlk ?_ (by kernel_rfl) (by kernel_rfl);walk_at "c";obtain⟨y,t0,t1,P⟩:=aD8 I S'.kin;refine Sta.looks S' hlk P hz2 (λ hl a s' S'=>?_) (λ hl s' S'=>?_)
  ·have ev:(if x.length≠0/\looks x=true then Value.str x t else .none)=.str x t:=if_pos ⟨e,hl⟩;walk_at "c";refine S'.truthyM (.head _) ?_;refine dK ?_;walk_at "c";exact hn2 _ (tail _ _ ev.symm (S'.sel (Sel.rest [(a,xJ)] (by walk_at "zg";walk_at "perm"))))
  ·have ev:(if x.length≠0/\looks x=true then Value.str x t else .none)=.none:=if_neg λ h=>AY (hl.symm.trans h.2);walk_at "c";exact hn2 _ (tail _ _ ev.symm S')
end
end
end
structure Ab where
 held:List Str
 ns:NSt
 ps:List Bool
 rs:Bool
 rd:Bool
 ig:Nat
 pe:Option (Str×List (Str×Str×Tok))
noncomputable def bE(m:Wm):Ab:=⟨m.held,bB m,m.ps,m.rs,m.rd,m.ig,m.pe.map λ p=>(p.tag,p.l)⟩
noncomputable def Ab.started(a:Ab)(sv:NSt)(b:Bool):Ab:={ a with held:=[],ns:=⟨sv.decl,sv.nss++[[]],sv.pm⟩,ps:=a.ps++[b],rs:=true,pe:=none }
noncomputable def aBj(x:Str):Prop:=x.length≠0/\looks x=true
inductive FlW (st rw:Bool) (a:Ab) (tag:Str) (l:List (Str×Str×Tok)) (a':Ab) (xs:List Str) (pb:Bool):Prop
 | start (res:List (Str×Str)) (sv:NSt) (hn:¬aBj (cG st pb a.held)) (ok:StOk rw a.ns tag l [] res sv) (e:a'=a.started sv (fF l pb)) (e2:xs=bL (dE res tag) (xnR sv.decl++atR res (atQ l))++flT true (cG st pb a.held))
 | name (pre ln u:Str) (res:List (Str×Str)) (sv:NSt) (hn:aBj (cG st pb a.held)) (hs:Txt.splitMax (cG st pb a.held) ":" 1=[pre,ln]) (hx:(cG st pb a.held).length<=2400) (hl:ln.length<=2400) (hk:NsOk a.ns) (hf:(flat a.ns.nss).find? (λ q=>decide (q.2=pre))=some (u,pre)) (ok:StOk rw a.ns tag l [("{"++u++"}"++ln:Str)] res sv) (e:a'=a.started sv (fF l pb)) (e2:xs=bL (dE res tag) (xnR sv.decl++atR res (atQ l))++[dS (dE res ("{"++u++"}"++ln:Str))])
inductive FlV (st rw:Bool) (a a':Ab) (xs:List Str):Prop
 | plain (pb:Bool) (h:a.ps.getLast?=some pb) (hp:a.pe=none) (e:a'={ a with held:=[] }) (e2:xs=flT a.rs (cG st pb a.held))
 | wait (pb:Bool) (h:a.ps.getLast?=some pb) (tag:Str) (l:List (Str×Str×Tok)) (hp:a.pe=some (tag,l)) (w:FlW st rw a tag l a' xs pb)
noncomputable def wQ(W:Wd):Option Pd->Lg
 | none=>[]
 | some p=>[(p.pt,aJ [.str p.tag p.t,.ref p.d,.ref p.nn]),(p.d,IsD W p.d (atV p.l))]
noncomputable def pdD(W:Wd):Option Pd->Lg
 | none=>[]
 | some p=>[(p.d,IsD W p.d (atV p.l))]
noncomputable def WmOk(m:Wm):Prop:=∀ p,m.pe=some p->∃ d0 lv,m.dl=d0++[lv]/\lv.a=p.nn
theorem hV{α:Type}{l:List α}{x:α}(h:l.getLast?=some x):∃ r,l=r++[x]:=⟨l.dropLast,by
 have hne:l≠[]:=λ e=>by rw[e]at h;cases h
 have e:=(Az hne).symm;rw[List.getLast?_eq_some_getLast hne]at h;injection h with h
 rw[h]at e;exact e⟩
theorem mK(st pb:Bool)(h:List Str):(cG st pb h).length<=(cat h).length:=by
 unfold cG
 split
 ·show(if _ then _ else _:Str).length<=_
  split
  ·exact AN _
  ·exact le_strSub _ _ _
 ·exact AN _
theorem iN{m:Wm}{sv:NSt}{dl:List Lv}{pm:List (Str×Str×Tok)}{a:Addr}{b:Bool}(h:bB { m with held:=[],pe:=none,dl:=dl,pm:=pm }=sv):bE { m with held:=[],pe:=none,dl:=dl,pm:=pm,rs:=true,ps:=m.ps++[b],nl:=m.nl++[⟨a,[]⟩] }=(bE m).started sv b:=by
 subst h;show Ab.mk [] (NSt.mk _ ((m.nl++([Lv.mk a []]:List Lv)).map Lv.val) _) _ _ _ _ _=Ab.mk [] (NSt.mk _ (m.nl.map Lv.val++[[]]) _) _ _ _ _ _;rw[Aq]
 rfl
section
variable {w:Wn}{c:Wc}{q:Addr}{m:Wm}
theorem aCh{L:Addr}{x:Str}{t:Tok}{Q:Flow->Ac->Prop}(I:IsC W)(hpe:m.pe=none)(S':Sta W G (dO L) (jQ w (some (.str x t)) none none) (aC W w c q m N) s)(k:∀ s',Sta W G (dO L) (jQ w (some (.str x t)) none none) (aC W w c q m N) s'->Ad W.M A (execs ((aE bN).drop 4) (dO L)) Q E s'):Ad W.M A (execs ((aE bN).drop 3) (dO L)) Q E s:=by
 have hcl:=I.cl;obtain⟨held,dl,nl,pm,ps,rs,rd,ig,ti,pe⟩:=m;have hpe:pe=none:=hpe;subst hpe;have hv:peV (Wm.mk held dl nl pm ps rs rd ig ti none).pe=.none:=rfl;walk_at "zd";refine fR (l:=aE bN) (n:=3) rfl ?_;intro Kq hKn hKr;refine fG ?_;walk_at "c";rw[hv]
 repeat (fail_if_success (with_reducible show Kq .next _));walk_at "cw"
 refine hKn _ ?_;walk_at "zd";exact k _ S'
theorem aEw{K:Sink W}{σ:K.σ}{c?:Option Addr}{a':Ab}{xs:List Str}{Q:Value->Ac->Prop}(I:IsC W)(C:CodeHd W.B 118 116)(hA:Aok 26 A)(F:FlV c.st c.rw (bE m) a' xs)(hw:WmOk m)(hpz:m.ps.length<=10000)(hnz:m.nl.length<=10000)(hz:m.held.length<=AC)(hc:(cat m.held).length<=txL)(hr:K.room σ 4)(S:Sta W G env loc (aC W w c K.q m (K.L σ++(aP 116 aV aH c?++(wQ W m.pe++N)))) s)(k:∀ m' c2 s',bE m'=a'->Sta W G env loc (aC W w c K.q m' (K.L (K.pushes σ xs)++(aP 116 aV aH c2++(pdD W m.pe++N)))) s'->Q .none s'):Ad W.M A (call (.ref 99) [.ref w.x]) Q E s:=by
 refine S.call_fnV dO (binds:=[("self",.ref w.x),("_join_text",.ref 91)]) ["data","args","qname_text"] I.f_flush hA ?_ (by kernel_rfl) ?_
 ·intro name doc pm ct an;exact kp_binds S.kin λ S=>by rw[I.k];kernel_rfl
 intro L A' s' hA' S';simp only[aW,An,AF,Av,Ay]at S';have hcl:=I.cl;have hx:∀ pb,(cG c.st pb m.held).length<=txL:=λ pb=>Al (mK ..) hc;refine aM ?_;cases F with
 | plain pb h hp e e2=>
  subst e e2;obtain⟨p0,hps⟩:=hV h;have hpe:m.pe=none:=Option.map_eq_none_iff.mp hp;refine wW (N:=K.L σ++(aP 116 aV aH c?++(wQ W m.pe++((env.locals,aL loc)::N)))) I (hA'.le (by decide)) hps hz hc (S'.perm (by walk_at "perm")) ?_;clear S';intro t s' S';refine aCh (m:={ m with held:=[] }) I hpe S' ?_;clear S';intro s' S';refine wU (m:={ m with held:=[] }) I (hA'.le (by decide)) (hx pb) (cH K (by decide) hr) S' ?_;clear S';intro loc' s' S';refine k { m with held:=[] } c? s' rfl (Sta.back (S'.perm ?_) S.eok);rw[hpe];walk_at "perm"
 | wait pb h tag l hp w=>
  obtain⟨p0,hps⟩:=hV h;obtain⟨p,hpe,hpt⟩:=Option.map_eq_some_iff.mp hp;obtain⟨rfl,rfl⟩:=Prod.mk.inj hpt;obtain⟨d0,lv,hdl,hnn⟩:=hw p hpe;have hpl:wQ W m.pe=[(p.pt,aJ [.str p.tag p.t,.ref p.d,.ref p.nn]),(p.d,IsD W p.d (atV p.l))]:=by rw[hpe];rfl
  have hpd:pdD W m.pe=[(p.d,IsD W p.d (atV p.l))]:=by rw[hpe];rfl
  rw[hpl]at S';rw[hpd]at k;refine wW (N:=(p.pt,aJ [.str p.tag p.t,.ref p.d,.ref p.nn])::(p.d,IsD W p.d (atV p.l))::(K.L σ++(aP 116 aV aH c?++((env.locals,aL loc)::N)))) I (hA'.le (by decide)) hps hz hc (S'.perm (by walk_at "perm")) ?_;clear S';intro t s' S';refine aCg (m:={ m with held:=[] }) I (hA'.le (by decide)) (hx pb) hpe S' ?_;clear S';intro v s' hv S' R kk;rw[←hnn];cases w with
  | start res sv hn ok e e2=>
   subst e e2;rw[if_neg (c:=(cG c.st pb m.held).length≠0/\looks (cG c.st pb m.held)=true) hn]at hv;subst hv;refine wH (m:={ m with held:=[],pe:=none }) (N:=(env.locals,aL loc)::N) I C (hA'.le (by decide)) hdl ok hps hpz hnz (cH K (by decide) hr) (vs:=[.none]) (.inr rfl) (S'.perm (by walk_at "perm")) ?_;clear S';intro c' dl pm a s' hsv hdl2 S';refine kk _ _ S' λ s3 S3=>?_;refine wU (m:={ m with held:=[],pe:=none,dl:=dl,pm:=pm,rs:=true,ps:=m.ps++[fF p.l pb],nl:=m.nl++[⟨a,[]⟩] }) (N:=aP 116 aV aH (some c')++((p.d,IsD W p.d (atV p.l))::(env.locals,aL loc)::N)) I (hA'.le (by decide)) (hx pb) (cN K _ (cH K (by have:=cW (dE res p.tag) (xnR sv.decl++atR res (atQ p.l));walk_at "o") hr)) (S3.perm (by walk_at "perm")) ?_;clear S3 S';intro loc' s' S';refine k { m with held:=[],pe:=none,dl:=dl,pm:=pm,rs:=true,ps:=m.ps++[fF p.l pb],nl:=m.nl++[⟨a,[]⟩] } (some c') s' (iN hsv) (Sta.back (S'.perm ?_) S.eok);rw[K.pushes_append];walk_at "perm"
  | name pre ln u res sv hn hs hx2 hl hk hf ok e e2=>
   subst e e2;rw[if_pos (c:=(cG c.st pb m.held).length≠0/\looks (cG c.st pb m.held)=true) hn]at hv;subst hv;refine aAa (m:={ m with held:=[],pe:=none }) (N:=(env.locals,aL loc)::N) I C (hA'.le (by decide)) hdl ok hps hpz hnz hr hs hx2 hl hk hf (S'.perm (by walk_at "perm")) ?_;clear S';intro c' dl pm a s' hsv hdl2 S';refine kk _ _ S' λ s3 S3=>?_;exact k { m with held:=[],pe:=none,dl:=dl,pm:=pm,rs:=true,ps:=m.ps++[fF p.l pb],nl:=m.nl++[⟨a,[]⟩] } (some c') s3 (iN hsv) (Sta.back (S3.perm (by walk_at "perm")) S.eok)
end
inductive FlI (st rw:Bool) (a:Ab):Ab->List Str->Prop
 | keep (h:a.held=[]):FlI st rw a a []
 | out {a':Ab} {xs:List Str} (h:a.held≠[]) (F:FlV st rw a a' xs):FlI st rw a a' xs
noncomputable def pdT(W:Wd):Option Pd->Lg
 | none=>[]
 | some p=>[(p.pt,aJ [.str p.tag p.t,.ref p.d,.ref p.nn])]
theorem pd_eq{W:Wd}{o:Option Pd}{N:Lg}:wQ W o++N=pdT W o++(pdD W o++N):=by cases o<;>rfl
theorem FlV.pe{st rw:Bool}{a a':Ab}{xs:List Str}(h:FlV st rw a a' xs):a'.pe=none:=by
 cases h with
 | plain pb h hp e e2=>subst e;exact hp
 | wait pb h tag l hp w=>
  cases w with
  | start res sv hn ok e e2=>subst e;rfl
  | name pre ln u res sv hn hs hx hl hk hf ok e e2=>subst e;rfl
theorem FlV.hd{st rw:Bool}{a a':Ab}{xs:List Str}(h:FlV st rw a a' xs):a'.held=[]/\a'.ig=a.ig:=by
 cases h with
 | plain pb h hp e e2=>subst e;exact⟨rfl,rfl⟩
 | wait pb h tag l hp w=>
  cases w with
  | start res sv hn ok e e2=>subst e;exact⟨rfl,rfl⟩
  | name pre ln u res sv hn hs hx hl hk hf ok e e2=>subst e;exact⟨rfl,rfl⟩
theorem fB{m:Wm}{a:Ab}(h:bE m=a)(k:a.pe=none):m.pe=none:=by
 subst h;exact Option.map_eq_none_iff.mp k
structure WmB (m:Wm):Prop where
 ok:WmOk m
 ps:m.ps.length<=10000
 nl:m.nl.length<=10000
 hz:m.held.length<=AC
 hc:(cat m.held).length<=txL
theorem WmOk.none{m:Wm}(h:m.pe=none):WmOk m:=λ p e=>by rw[h]at e;cases e
section
variable {w:Wn}{c:Wc}{q:Addr}{m:Wm}
theorem pR{K:Sink W}{σ:K.σ}{pos apos opos:Pos}{c?:Option Addr}{a':Ab}{xs:List Str}{Q:Value->Ac->Prop}(I:IsC W)(C:CodeHd W.B 118 116)(hA:Aok 26 A)(F:FlV c.st c.rw (bE m) a' xs)(B:WmB m)(hr:K.room σ 4)(hs:(("self":Str),some (Value.ref w.x))∈loc)(hb:attributeBase (.Name "self" opos) "_flush" env (eval (.Name "self" opos) env)=eval (.Name "self" opos) env)(hf:methodCallForm (([]:List Expr).length+([]:List Keyword).length) (backTo pos (Ap [] env)) (backToKw pos (keywordEach [] env))=true)(hl:(apos.endLine==pos.line)=true)(S:Sta W G env loc (aC W w c K.q m (K.L σ++(aP 116 aV aH c?++(pdT W m.pe++(pdD W m.pe++N))))) s)(k:∀ m' c2 s',bE m'=a'->m'.pe=none->Sta W G env loc (aC W w c K.q m' (K.L (K.pushes σ xs)++(aP 116 aV aH c2++(pdT W m'.pe++(pdD W m.pe++N))))) s'->Q .none s'):Ad W.M A (eval (.Call (.Attribute (.Name "self" opos) "_flush" apos) [] [] pos) env) Q E s:=by
 have hcl:=I.cl;refine jF ?_ hb hf hl;refine S.local_ hs ?_;refine Sta.getM_inst (f:=99) S hcl (by walk_at "mem") (by walk_at "mem") VV.keys (by decide +kernel) (by rw[I.k];kernel_rfl) (by rw[I.k];kernel_rfl) ?_;refine aEL (by rw[I.k];kernel_rfl) S.kin ?_;rw[←pd_eq]at S;refine aEw I C hA F B.ok B.ps B.nl B.hz B.hc hr S λ m' c2 s' e S'=>?_;have hp:=fB e F.pe;exact k m' c2 s' e hp (by rw[hp];exact S')
theorem nW{K:Sink W}{σ:K.σ}{p9 p10 p12 p13 p14 p15 p16:Pos}{c?:Option Addr}{a':Ab}{xs:List Str}{Q:Flow->Ac->Prop}(I:IsC W)(C:CodeHd W.B 118 116)(hA:Aok 26 A)(F:FlI c.st c.rw (bE m) a' xs)(B:WmB m)(hi:interactive env=false)(hs:(("self":Str),some (Value.ref w.x))∈loc)(hr:K.room σ 4)(hl2:(p13.endLine==p14.line)=true)(S':Sta W G env loc (aC W w c K.q m (K.L σ++(aP 116 aV aH c?++(pdT W m.pe++(pdD W m.pe++N))))) s)(k:∀ m' c2 s',bE m'=a'->WmOk m'->Sta W G env loc (aC W w c K.q m' (K.L (K.pushes σ xs)++(aP 116 aV aH c2++(pdT W m'.pe++(pdD W m.pe++N))))) s'->Q .next s'):Ad W.M A (exec (.If (.Attribute (.Name "self" p9) "_data" p10) [.Expr (.Call (.Attribute (.Name "self" p12) "_flush" p13) [] [] p14) p15] [] p16) env) Q E s:=by
 have hcl:=I.cl;have hz:=B.hz;refine fG ?_;refine dI ?_ rfl;refine gM S' hs ?_;walk_at "c"
 induction F with
 | keep h=>
  have h:m.held=[]:=h;rw[h];exact cP (AR (k m c? _ rfl B.ok S'))
 | out h F=>
  have h:m.held≠[]:=h;have e:(!m.held.isEmpty)=true:=by cases hd:m.held with | nil=>exact absurd hd h | cons x r=>rfl
  rw[e];refine dK (AH ?_);refine wpAny_Expr_any ?_ hi (by kernel_rfl);exact pR I C hA F B hr hs rfl rfl hl2 S' λ m' c2 s2 e hp S3=>AR (k m' c2 s2 e (.none hp) S3)
end
noncomputable abbrev aCq(L:Addr):Env:=envOf "C14NWriterTarget.start_ns" (aD fZ) L 106 (.ref 105)
noncomputable def Ab.told(a:Ab)(q:NsP):Ab:={ a with ns:=⟨a.ns.decl,bY q a.ns.nss,a.ns.pm⟩ }
theorem WmOk.with_nl{m:Wm}(h:WmOk m)(nl:List Lv):WmOk { m with nl:=nl }:=h
theorem aBm{m:Wm}{a:Ab}{q:Addr×NsP}(h:bE m=a):bE { m with nl:=cC q m.nl }=a.told q.2:=by
 subst h;show Ab.mk _ (NSt.mk _ ((cC q m.nl).map Lv.val) _) _ _ _ _ _=Ab.mk _ (NSt.mk _ (bY q.2 (m.nl.map Lv.val)) _) _ _ _ _ _;rw[fT]
 rfl
section
variable {w:Wn}{c:Wc}{q:Addr}{m:Wm}
theorem aEb{K:Sink W}{L:Addr}{p u:Str}{t1 t2:Tok}{n0:List Lv}{lv:Lv}{Q:Flow->Ac->Prop}(I:IsC W)(hn:m.nl=n0++[lv])(hlz:lv.ps.length<=1000)(S':Sta W G (aCq L) ([("self",some (.ref w.x)),("prefix",some (.str p t1)),("uri",some (.str u t2))]:Loc) (aC W w c q m N) s)(k:∀ a s',Sta W G (aCq L) ([("self",some (.ref w.x)),("prefix",some (.str p t1)),("uri",some (.str u t2))]:Loc) (aC W w c q { m with nl:=cC (a,u,p) m.nl } N) s'->Q .next s'):Ad W.M A (execs ((aE fZ).drop 2) (aCq L)) Q E s:=by
 have hcl:=I.cl;have hlast:=eT n0 lv;rw[←hn]at hlast;walk_at "zd";walk_at "c";refine cI ?_ (by intro _ _;kernel_rfl);walk_at "c";refine Sta.sub_last S' (by walk_at "mem") hlast ?_;have hlm:(lv.a,aA (aF lv.ps))∈aT m.dl++(aT m.nl++N):=Af _ (Ak _ (kI (by rw[hn];simp)));walk_at "c";revert a';intro tup S';have S2:=S'.perm (nw':=(tup,aJ [.str u t2,.str p t1])::(aT (n0++[lv])++((w.x,bD 143 w.dx)::(w.dx,aN (eJ w c q m))::(w.d,aB m.held)::(w.dns,aA (aG m.dl))::(w.ns,aA (aG m.nl))::(w.pm,IsD W w.pm (pmV m.pm))::(w.ps,aA (m.ps.map .bool))::(aT m.dl++N)))) (by rw[←hn];walk_at "perm");clear S';refine Sta.addPr (d0:=n0) (lv:=lv) hlz S2 ?_;clear S2;intro s' S';rw[←hn]at S';walk_at "ke";refine dD (by decide) ?_;refine k tup s' (S'.perm ?_);simp only[aC,dC]
 walk_at "perm"
theorem ns_{K:Sink W}{σ:K.σ}{p u:Str}{t1 t2:Tok}{c?:Option Addr}{a':Ab}{xs:List Str}{Q:Value->Ac->Prop}(I:IsC W)(C:CodeHd W.B 118 116)(hA:Aok 28 A)(F:FlI c.st c.rw (bE m) a' xs)(B:WmB m)(hig:m.ig=0)(hr:K.room σ 4)(hne:a'.ns.nss≠[])(hfl:(flat a'.ns.nss).length<=1000)(S:Sta W G env loc (aC W w c K.q m (K.L σ++(aP 116 aV aH c?++(pdT W m.pe++(pdD W m.pe++N))))) s)(k:∀ m' c2 s',bE m'=a'.told (u,p)->WmOk m'->Sta W G env loc (aC W w c K.q m' (K.L (K.pushes σ xs)++(aP 116 aV aH c2++(pdT W m'.pe++(pdD W m.pe++N))))) s'->Q .none s'):Ad W.M A (call (.ref 106) [.ref w.x,.str p t1,.str u t2]) Q E s:=by
 refine S.call_fnV aCq (binds:=[("self",.ref w.x),("prefix",.str p t1),("uri",.str u t2)]) [] I.f_startNs hA (λ _ _ _ _ _=>BindsTo.of_eq (by kernel_rfl)) (by kernel_rfl) ?_;intro L A' s' hA' S';simp only[aW,An,AF,Av,Ay]at S';have hcl:=I.cl;have e0:((m.ig:Int) != 0)=false:=by rw[hig];rfl
 refine aM ?_;refine bQ rfl ?_;refine fG ?_
 iterate 4 walk_at "cw"
 rw[e0];refine cP ?_;walk_at "ke";refine bQ rfl ?_;refine nW (w:=w) (c:=c) (m:=m) (σ:=σ) (N:=(env.locals,aL loc)::N) I C (hA'.le (by decide)) F B rfl (.head _) hr rfl (S'.perm (by walk_at "perm")) ?_;clear S';intro m' c2 s' e hw S';have hnl:m'.nl.map Lv.val=a'.ns.nss:=by rw[←e];rfl
 have hne2:m'.nl≠[]:=λ h=>hne (by rw[←hnl,h];rfl);have h1:=(Az hne2).symm;refine aEb (K:=K) (m:=m') (n0:=m'.nl.dropLast) (lv:=m'.nl.getLast hne2) I h1 ?_ S' ?_
 ·have h2:=gT (ls:=a'.ns.nss) (l:=(m'.nl.getLast hne2).val) (by rw[←hnl];exact Aj.mpr ⟨_,List.getLast_mem hne2,rfl⟩);have h3:(m'.nl.getLast hne2).val.length=(m'.nl.getLast hne2).ps.length:=Ai ..;walk_at "o"
 ·clear S';intro a s' S';exact k _ c2 s' (aBm e) (hw.with_nl _) (Sta.back (S'.perm (by walk_at "perm")) S.eok)
end
section
local macro_rules | `(tactic| walk_at $s:str) => Mine.goAt Mine.tabD s
section
local macro_rules | `(tactic| walk_at $s:str) => Mine.goAt Mine.tabF s
noncomputable def NSt.opn(s:NSt):NSt:={ s with decl:=s.decl++[[]] }
theorem nC(m:Wm)(a:Addr):bB { m with dl:=m.dl++[⟨a,[]⟩] }=(bB m).opn:=by
 unfold bB NSt.opn;simp[Lv.val]
noncomputable def Ab.opn(a:Ab):Ab:={ a with ns:=a.ns.opn }
theorem aBg(m:Wm)(a:Addr):bE { m with dl:=m.dl++[⟨a,[]⟩] }=(bE m).opn:=by
 show Ab.mk _ (bB { m with dl:=m.dl++[⟨a,[]⟩] }) _ _ _ _ _=_;rw[nC]
 rfl
noncomputable abbrev iD(L:Addr):Env:=envOf "C14NWriterTarget.start" (aD dG) L 113 (.ref 112)
noncomputable abbrev sX(w:Wn)(tag:Str)(t:Tok)(d:Addr)(vn:Option Value):Loc:=[("self",some (.ref w.x)),("tag",some (.str tag t)),("attrs",some (.ref d)),("new_namespaces",vn)]
section
variable {w:Wn}{c:Wc}{q:Addr}{m:Wm}
theorem aBt{L d:Addr}{tag:Str}{t:Tok}{l:List (Str×Str×Tok)}{Q:Flow->Ac->Prop}(I:IsC W)(hA:Aok 4 A)(hdz:m.dl.length<=10000)(S':Sta W G (iD L) (sX w tag t d none) ((d,IsD W d (atV l))::aC W w c q m N) s)(k:∀ a s',Sta W G (iD L) (sX w tag t d (some (.ref a))) ((d,IsD W d (atV l))::aC W w c q { m with dl:=m.dl++[⟨a,[]⟩] } N) s'->Ad W.M A (execs ((aE dG).drop 4) (iD L)) Q E s'):Ad W.M A (execs ((aE dG).drop 2) (iD L)) Q E s:=by
 have hcl:=I.cl;have hdz:(aG m.dl).length<=AC:=by rw[Aw];simp[aG];walk_at "o"
 walk_at "zd"
 repeat (fail_if_success (with_reducible show Ad W.M A (execs ((aE dG).drop 4) (iD L)) Q E _));walk_at "cw"
 walk_at "zd";refine k a' s' (S'.perm ?_);have e:aG m.dl++[.ref a']=aG (m.dl++[⟨a',[]⟩]):=by simp[aG]
 rw[e];simp only[aC]
 rw[bO];show List.Perm _ ((d,IsD W d (atV l))::(w.x,bD 143 w.dx)::(w.dx,aN (eJ w c q { m with dl:=m.dl++[⟨a',[]⟩] }))::(w.d,aB m.held)::(w.dns,aA (aG (m.dl++[⟨a',[]⟩])))::(w.ns,aA (aG m.nl))::(w.pm,IsD W w.pm (pmV m.pm))::(w.ps,aA (m.ps.map .bool))::((aT m.dl++[(a',aA [])])++(aT m.nl++N)));walk_at "perm"
theorem aBs{L d a qt:Addr}{T:Str->Bool}{tag:Str}{t:Tok}{l:List (Str×Str×Tok)}{Q:Flow->Ac->Prop}(I:IsC W)(hA:Aok 4 A)(hqt:c.qt=.ref qt)(hqs:(qt,aS W T 1)∈N)(hT:T tag=true)(S':Sta W G (iD L) (sX w tag t d (some (.ref a))) ((d,IsD W d (atV l))::aC W w c q m N) s)(k:∀ pt s',Sta W G (iD L) (sX w tag t d (some (.ref a))) ((d,IsD W d (atV l))::aC W w c q { m with pe:=some ⟨pt,tag,t,d,l,a⟩ } ((pt,aJ [.str tag t,.ref d,.ref a])::N)) s'->Q (.ret .none) s'):Ad W.M A (execs ((aE dG).drop 4) (iD L)) Q E s:=by
 have hcl:=I.cl;obtain⟨com,st,rw,et,qtv⟩:=c;subst hqt;walk_at "zd";walk_at "c";refine Sta.inSet S' (T:=T) (n:=1) (a:=qt) ?_ (by decide) ?_
 ·walk_at "zg";dsimp only[aC]
  repeat' first | exact Af _ hqs | refine Af _ ?_ | refine .tail _ ?_
 clear S';intro s' S';rw[hT];walk_at "c";exact k a' s' (S'.perm (by walk_at "zg";walk_at "perm"))
theorem aBw{L d a qt:Addr}{T:Str->Bool}{tag:Str}{t:Tok}{l:List (Str×Str×Tok)}{Q:Flow->Ac->Prop}(I:IsC W)(hA:Aok 4 A)(hqt:c.qt=.ref qt)(hqs:(qt,aS W T 1)∈N)(hT:T tag=false)(S':Sta W G (iD L) (sX w tag t d (some (.ref a))) ((d,IsD W d (atV l))::aC W w c q m N) s)(k:∀ s',Sta W G (iD L) (sX w tag t d (some (.ref a))) ((d,IsD W d (atV l))::aC W w c q m N) s'->Ad W.M A (call (.ref 119) [.ref w.x,.str tag t,.ref d,.ref a]) (λ _ s2=>Q .next s2) E s'):Ad W.M A (execs ((aE dG).drop 4) (iD L)) Q E s:=by
 have hcl:=I.cl;obtain⟨com,st,rw,et,qtv⟩:=c;subst hqt;walk_at "zd";walk_at "c";refine Sta.inSet S' (T:=T) (n:=1) (a:=qt) ?_ (by decide) ?_
 ·walk_at "zg";dsimp only[aC]
  repeat' first | exact Af _ hqs | refine Af _ ?_ | refine .tail _ ?_
 clear S';intro s' S';rw[hT];walk_at "c";refine Sta.getM_inst (f:=119) S' hcl (by walk_at "mem") (by walk_at "mem") VV.keys (by decide +kernel) (by rw[I.k];kernel_rfl) (by rw[I.k];kernel_rfl) ?_;refine oP (by rw[I.k];kernel_rfl) ?_ (by kernel_rfl) (by kernel_rfl);walk_at "c";refine As (k s' S') (λ _ s2 h=>?_) λ _ _ x=>x;walk_at "ke";exact dD (by decide) h
end
end
end
inductive StV (rw:Bool) (T:Str->Bool) (a:Ab) (tag:Str) (l:List (Str×Str×Tok)):Ab->List Str->Prop
 | wait (h:T tag=true):StV rw T a tag l { a.opn with pe:=some (tag,l) } []
 | now (h:T tag=false) (pb:Bool) (hp:a.ps.getLast?=some pb) {res:List (Str×Str)} {sv:NSt} (ok:StOk rw a.ns.opn tag l [] res sv):
   StV rw T a tag l (a.opn.started sv (fF l pb)) (bL (dE res tag) (xnR sv.decl++atR res (atQ l)))
theorem FlI.held{st rw:Bool}{a a':Ab}{xs:List Str}(h:FlI st rw a a' xs):a'.held=[]:=by
 induction h with
 | keep h=>exact h
 | out h F=>exact F.hd.1
theorem FlV.len{st rw:Bool}{a a':Ab}{xs:List Str}(F:FlV st rw a a' xs):xs.length<=4:=by
 have hf:∀ b x,(flT b x).length<=1:=λ b x=>by unfold flT;split<;>exact Ar rfl
 cases F with
 | plain pb h hp e e2=>subst e2;exact Al (hf a.rs (cG st pb a.held)) (by decide)
 | wait pb h tag l hp w=>
  cases w with
  | start res sv hn ok e e2=>
   subst e2;rw[Ag];exact Al (AV (cW _ _) (hf true (cG st pb a.held))) (by decide)
  | name pre ln u res sv hn hs hx hl hk hf ok e e2=>
   subst e2;rw[Ag,AJ];exact Al (A9 (cW _ _) 1) (by decide)
theorem FlI.len{st rw:Bool}{a a':Ab}{xs:List Str}(h:FlI st rw a a' xs):xs.length<=4:=by
 induction h with
 | keep h=>exact AE _
 | out h F=>exact F.len
structure AbB (a:Ab):Prop where
 ps:a.ps.length<=10000
 dl:a.ns.decl.length<=10000
 nl:a.ns.nss.length<=10000
section
variable {w:Wn}{c:Wc}{q:Addr}{m:Wm}
theorem aBu{K:Sink W}{σ:K.σ}{L d qt:Addr}{T:Str->Bool}{tag:Str}{t:Tok}{l:List (Str×Str×Tok)}{c?:Option Addr}{a1 a2:Ab}{xs ys:List Str}{Q:Value->Ac->Prop}(I:IsC W)(C:CodeHd W.B 118 116)(hA:Aok 26 A)(hqt:c.qt=.ref qt)(hqs:(qt,aS W T 1)∈N)(F:FlI c.st c.rw (bE m) a1 xs)(B:WmB m)(hp1:a1.pe=none)(B1:AbB a1)(O:StV c.rw T a1 tag l a2 ys)(hr:K.room σ 8)(S':Sta W G (iD L) (sX w tag t d none) ((d,IsD W d (atV l))::aC W w c K.q m (K.L σ++(aP 116 aV aH c?++(pdT W m.pe++(pdD W m.pe++N))))) s)(k:∀ m' c2 loc' s',bE m'=a2->WmOk m'->(∀ p,m'.pe=some p->p.d=d/\p.l=l)->Sta W G (iD L) loc' ((d,IsD W d (atV l))::aC W w c K.q m' (K.L (K.pushes σ (xs++ys))++(aP 116 aV aH c2++(pdT W m'.pe++(pdD W m.pe++N))))) s'->Q .none s'):Ad W.M A (execs ((aE dG).drop 1) (iD L)) (λ fl s''=>Q (match fl with | .ret v=>v | _=>.none) s'') E s:=by
 refine bQ rfl ?_;refine nW (w:=w) (c:=c) (m:=m) (σ:=σ) (N:=(d,IsD W d (atV l))::N) I C hA F B rfl (.head _) (cH K (by decide) hr) rfl (S'.perm (by walk_at "perm")) ?_;clear S';intro m1 c2 s' e hw S';have hheld:m1.held=[]:=by have:=F.held;rw[←e]at this;exact this
 have hpe1:m1.pe=none:=fB e hp1;subst e;generalize hD:pdD W m.pe=D at S' k;have hr4:K.room (K.pushes σ xs) 4:=cN K _ (cH K (by
  have:=F.len;walk_at "o") hr)
 have hz1:m1.dl.length<=10000:=by have:=B1.dl;rwa[show(bE m1).ns.decl.length=m1.dl.length from Ai ..]at this
 have hz2:m1.nl.length<=10000:=by have:=B1.nl;rwa[show(bE m1).ns.nss.length=m1.nl.length from Ai ..]at this
 have hz3:m1.ps.length<=10000:=B1.ps;obtain⟨held,dl,nl,pm,ps,rs,rd,ig,ti,pe⟩:=m1;have hheld:held=[]:=hheld;have hpe1:pe=none:=hpe1;subst hheld hpe1;refine aBt (c:=c) (N:=K.L (K.pushes σ xs)++(aP 116 aV aH c2++(D++N))) I (hA.le (by decide)) hz1 (S'.perm (by walk_at "perm")) ?_;clear S';intro a s' S'
 induction O with
 | wait hT=>
  refine aBs (T:=T) I (hA.le (by decide)) hqt (Af _ (Af _ (Af _ hqs))) hT S' ?_;clear S';intro pt s' S';refine k ⟨[],dl++[⟨a,[]⟩],nl,pm,ps,rs,rd,ig,ti,some ⟨pt,tag,t,d,l,a⟩⟩ c2 _ s' ?_ ?_ ?_ (S'.perm ?_)
  ·show Ab.mk _ (bB { (Wm.mk [] dl nl pm ps rs rd ig ti none)with dl:=dl++[⟨a,[]⟩] }) _ _ _ _ _=Ab.mk _ (bB (Wm.mk [] dl nl pm ps rs rd ig ti none)).opn _ _ _ _ _;rw[nC]
   rfl
  ·intro p hp;injection hp with hp
   subst hp;exact⟨dl,⟨a,[]⟩,rfl,rfl⟩
  ·intro p hp;injection hp with hp
   subst hp;exact⟨rfl,rfl⟩
  ·rw[Am,show ∀ p,pdT W (some p)=[(p.pt,aJ [.str p.tag p.t,.ref p.d,.ref p.nn])]from λ _=>rfl];walk_at "perm"
 | @now hT pb hp res sv ok=>
  refine aBw (T:=T) I (hA.le (by decide)) hqt (Af _ (Af _ (Af _ hqs))) hT S' ?_;clear S';intro s' S';obtain⟨p0,hps⟩:=hV hp;have hps:ps=p0++[pb]:=hps;refine wpAny_call ?_;refine wH (m:=⟨[],dl++[⟨a,[]⟩],nl,pm,ps,rs,rd,ig,ti,none⟩) (N:=D++N) (lv:=⟨a,[]⟩) (vs:=[]) I C (hA.le (by decide)) rfl (by
   rw[show bB (Wm.mk [] (dl++[⟨a,[]⟩]) nl pm ps rs rd ig ti none)=(bB (Wm.mk [] dl nl pm ps rs rd ig ti none)).opn from nC ⟨[],dl,nl,pm,ps,rs,rd,ig,ti,none⟩ a];exact ok) hps hz3 hz2 (cH K (by decide) hr4) (.inl rfl) S' ?_
  clear S';intro c' dl' pm' a' s' hsv hdl S';refine k ⟨[],dl',nl++[⟨a',[]⟩],pm',ps++[fF l pb],true,rd,ig,ti,none⟩ (some c') (sX w tag t d (some (.ref a))) s' ?_ (.none rfl) (λ p h=>nomatch h) ?_
  ·have:=iN (m:=⟨[],dl++[⟨a,[]⟩],nl,pm,ps,rs,rd,ig,ti,none⟩) (a:=a') (b:=fF l pb) hsv;refine this.trans ?_;rw[show bE (Wm.mk [] (dl++[⟨a,[]⟩]) nl pm ps rs rd ig ti none)=_ from aBg ⟨[],dl,nl,pm,ps,rs,rd,ig,ti,none⟩ a]
  ·rw[K.pushes_append];exact S'
end
section
variable {w:Wn}{c:Wc}{q:Addr}{m:Wm}
theorem aBr{K:Sink W}{σ:K.σ}{d xt qt:Addr}{X T:Str->Bool}{tag:Str}{t:Tok}{l:List (Str×Str×Tok)}{c?:Option Addr}{a1 a2:Ab}{xs ys:List Str}{Q:Value->Ac->Prop}(I:IsC W)(C:CodeHd W.B 118 116)(hA:Aok 27 A)(het:c.et=.ref xt)(hxt:(xt,aS W X 1)∈N)(hX:X tag=false)(hig:m.ig=0)(hqt:c.qt=.ref qt)(hqs:(qt,aS W T 1)∈N)(F:FlI c.st c.rw (bE m) a1 xs)(B:WmB m)(hp1:a1.pe=none)(B1:AbB a1)(O:StV c.rw T a1 tag l a2 ys)(hr:K.room σ 8)(S:Sta W G env loc ((d,IsD W d (atV l))::aC W w c K.q m (K.L σ++(aP 116 aV aH c?++(pdT W m.pe++(pdD W m.pe++N))))) s)(k:∀ m' c2 s',bE m'=a2->WmOk m'->(∀ p,m'.pe=some p->p.d=d/\p.l=l)->Sta W G env loc ((d,IsD W d (atV l))::aC W w c K.q m' (K.L (K.pushes σ (xs++ys))++(aP 116 aV aH c2++(pdT W m'.pe++(pdD W m.pe++N))))) s'->Q .none s'):Ad W.M A (call (.ref 113) [.ref w.x,.str tag t,.ref d]) Q E s:=by
 refine S.call_fnV iD (binds:=[("self",.ref w.x),("tag",.str tag t),("attrs",.ref d)]) ["new_namespaces"] I.f_start hA (λ _ _ _ _ _=>BindsTo.of_eq (by kernel_rfl)) (by kernel_rfl) ?_;intro L A' s' hA' S';simp only[aW,An,AF,Av,Ay]at S';have hcl:=I.cl;have e0:((m.ig:Int) != 0)=false:=by rw[hig];rfl
 have hv:eJ w c K.q m=VV (.ref K.q) (.ref w.d) (.bool c.com) (.bool c.st) .none (.ref xt) (.bool c.rw) c.qt .none (.ref w.dns) (.ref w.ns) (.ref w.pm) (.ref w.ps) (peV m.pe) (.bool m.rs) (.bool m.rd) (.int (m.ig:Int) m.ti):=by rw[←het]
 refine aM ?_;refine bQ rfl ?_;refine fG ?_;have hx2:(xt,aS W X 1)∈(env.locals,aL loc)::(d,IsD W d (atV l))::(w.x,bD 143 w.dx)::(w.dx,aN (eJ w c K.q m))::(w.d,aB m.held)::(w.dns,aA (aG m.dl))::(w.ns,aA (aG m.nl))::(w.pm,IsD W w.pm (pmV m.pm))::(w.ps,aA (m.ps.map .bool))::(aT m.dl++(aT m.nl++(K.L σ++(aP 116 aV aH c?++(pdT W m.pe++(pdD W m.pe++N)))))):=by
  repeat' first | exact Af _ hxt | refine Af _ ?_ | refine .tail _ ?_
 dsimp only[aC]at S';rw[hv]at S' hx2;walk_at "c";rw[e0];walk_at "c";refine Sta.inSet S' hx2 (by decide) ?_;clear S';intro s' S';rw[hX]
 iterate 5 walk_at "cw"
 refine AR ?_;walk_at "zd";rw[←hv]at S';refine aBu (N:=(env.locals,aL loc)::N) I C (hA'.le (by decide)) hqt (.tail _ hqs) F B hp1 B1 O hr (S'.perm (by walk_at "perm")) ?_;clear S';intro m' c2 loc' s' e hw hd S';exact k m' c2 s' e hw hd (Sta.back (S'.perm (by walk_at "perm")) S.eok)
theorem aBx{q d xt:Addr}{T:Str->Bool}{tag:Str}{t:Tok}{Q:Value->Ac->Prop}(I:IsC W)(hA:Aok 3 A)(het:c.et=.ref xt)(hxt:(xt,aS W T 1)∈N)(hT:m.ig≠0\/T tag=true)(S:Sta W G env loc (aC W w c q m N) s)(k:∀ ti s',Sta W G env loc (aC W w c q { m with ig:=m.ig+1,ti:=ti } N) s'->Q .none s'):Ad W.M A (call (.ref 113) [.ref w.x,.str tag t,.ref d]) Q E s:=by
 obtain⟨com,st,rw,et,qt⟩:=c;have het:et=.ref xt:=het;subst het;refine S.call_fnV iD (binds:=[("self",.ref w.x),("tag",.str tag t),("attrs",.ref d)]) ["new_namespaces"] I.f_start hA (λ _ _ _ _ _=>BindsTo.of_eq (by kernel_rfl)) (by kernel_rfl) ?_;intro L A' s' hA' S';simp only[aW,An,AF,Av,Ay]at S';have hcl:=I.cl;have ei:((m.ig:Int)+1)=((m.ig+1:Nat):Int):=by walk_at "o"
 have hx2:(xt,aS W T 1)∈(env.locals,aL loc)::aC W w ⟨com,st,rw,.ref xt,qt⟩ q m N:=by
  dsimp only[aC]
  repeat' first | exact Af _ hxt | refine Af _ ?_ | refine .tail _ ?_
 refine aM ?_;refine bQ rfl ?_;refine fG ?_;walk_at "c"
 by_cases hi:m.ig=0
 ·have e0:((m.ig:Int) != 0)=false:=by rw[hi];rfl
  rw[e0];walk_at "c";refine Sta.inSet S' hx2 (by decide) ?_;clear S';intro s' S';rw[hT.resolve_left (λ h=>h hi)];walk_at "c";walk_at "zd";rw[ei]at S';exact k _ s' (Sta.back (S'.perm (by dsimp only[aC];walk_at "perm")) S.eok)
 ·have e0:((m.ig:Int) != 0)=true:=bne_iff_ne.mpr (by walk_at "o");rw[e0];walk_at "c";walk_at "zd";rw[ei]at S';exact k _ s' (Sta.back (S'.perm (by dsimp only[aC];walk_at "perm")) S.eok)
end
noncomputable def gD(tx:Str):Str:="</"++tx++">"
theorem dM(v:Str):(dS v).length<=6*v.length:=nE _ 6 aEz v
noncomputable abbrev aCs(L:Addr):Env:=envOf "C14NWriterTarget.end" (aD qC) L 126 (.ref 125)
noncomputable abbrev yX(L:Addr):Env:=envOf "C14NWriterTarget.pi" (aD rW) L 140 (.ref 139)
noncomputable def Wm.done(m:Wm)(dl:List Lv)(pm:List (Str×Str×Tok)):Wm:={ m with dl:=dl.dropLast,pm:=pm,nl:=m.nl.dropLast,ps:=m.ps.dropLast,rd:=decide (m.ps.length=2) }
theorem pL{dl:List Lv}{d0:List Lv}{lv:Lv}(h:dl=d0++[lv]):aT dl=aT d0++((lv.a,aA (aF lv.ps))::(aK lv.ps++[])):=by subst h;exact bO ..
noncomputable def Ab.ended(a:Ab)(sv:NSt):Ab:={ a with ns:=⟨sv.decl.dropLast,sv.nss.dropLast,sv.pm⟩,ps:=a.ps.dropLast,rd:=decide (a.ps.length=2) }
theorem aCu{m:Wm}{sv:NSt}{dl:List Lv}{pm:List (Str×Str×Tok)}(h:bB { m with dl:=dl,pm:=pm }=sv):bE (m.done dl pm)=(bE m).ended sv:=by
 subst h;show Ab.mk _ (NSt.mk (dl.dropLast.map Lv.val) (m.nl.dropLast.map Lv.val) _) _ _ _ _ _=Ab.mk _ (NSt.mk (dl.map Lv.val).dropLast (m.nl.map Lv.val).dropLast _) _ _ _ _ _;rw[BJ,BJ]
 rfl
theorem sV{dl d1:List Lv}{lv:Lv}(e:dl=d1++[lv]):aG dl=aG d1++[.ref lv.a]:=by subst e;exact Aq
theorem aBL{ps p0:List Bool}{pb:Bool}(e:ps=p0++[pb]):ps.map Value.bool=p0.map .bool++[.bool pb]:=by subst e;exact Aq
theorem kR{α:Type}{l a:List α}{x:α}(e:l=a++[x]):l.dropLast=a:=by subst e;exact List.dropLast_concat
theorem zJ{vs us:List Value}{v:Value}(e:vs=us++[v])(hz:vs.length<=10000):us.length<AC:=by
 rw[e,Ag]at hz;rw[Aw];walk_at "o"
theorem yY{ps p0:List Bool}{pb:Bool}(e:ps=p0++[pb]):((((p0.map Value.bool).length:Nat):Int)==1)=decide (ps.length=2):=by
 subst e;rw[Ai,Ag,AJ]
 by_cases h:p0.length=1
 ·rw[h];rfl
 ·rw[decide_eq_false (by walk_at "o")];exact beq_eq_false_iff_ne.mpr (by walk_at "o")
theorem aCt{m:Wm}{dl d1 n0:List Lv}{lv ln:Lv}{p0:List Bool}{pb:Bool}{pm:List (Str×Str×Tok)}(hd:dl=d1++[lv])(hn:m.nl=n0++[ln])(hp:m.ps=p0++[pb]):m.done dl pm={ m with dl:=d1,pm:=pm,nl:=n0,ps:=p0,rd:=(((p0.map Value.bool).length:Nat):Int)==1 }:=by
 unfold Wm.done;rw[kR hd,kR hn,kR hp,yY hp]
section
variable {w:Wn}{c:Wc}{q:Addr}{m:Wm}
theorem aDS{x tx:Str}{t:Tok}{sv:NSt}{Q:Value->Ac->Prop}(I:IsC W)(S:Sta W G env loc (aC W w c q m N) s)(hA:Aok 14 A)(hx:NmG x)(hok:NsOk (bB m))(hq:qnV c.rw (bB m) (nmU x) (nmL x)=some (tx,sv))(k:∀ a dl pm s',bB { m with dl:=dl,pm:=pm }=sv->aG dl=aG m.dl->Sta W G env loc ((a,lY x tx)::aC W w c q { m with dl:=dl,pm:=pm } N) s'->Q (.ref a) s'):Ad W.M A (call (.ref 83) [.ref w.x,.str x t]) Q E s:=
 wpAny_call (wO I S hA hx hok hq λ a dl pm t1 t2 t3 s' h1 h2 S'=>k a dl pm s' h1 h2 (S'.tell (c':=lY x tx) .head λ o _ ho=>⟨t1,t2,t3,ho⟩))
theorem endB_{K:Sink W}{σ:K.σ}{L:Addr}{tag tx:Str}{t:Tok}{sv:NSt}{d0 n0:List Lv}{lv ln:Lv}{p0:List Bool}{pb:Bool}{Q:Flow->Ac->Prop}(I:IsC W)(hA:Aok 17 A)(htag:NmG tag)(hok:NsOk (bB m))(hq:qnV c.rw (bB m) (nmU tag) (nmL tag)=some (tx,sv))(htl:tx.length<=4000)(hr:K.room σ 1)(hn:m.nl=n0++[ln])(hd:m.dl=d0++[lv])(hps:m.ps=p0++[pb])(hpz:m.ps.length<=10000)(hnz:m.nl.length<=10000)(hdz:m.dl.length<=10000)(S':Sta W G (aCs L) ([("self",some (.ref w.x)),("tag",some (.str tag t))]:Loc) (aC W w c K.q m (K.L σ++N)) s)(k:∀ dl pm loc' s',bB { m with dl:=dl,pm:=pm }=sv->Sta W G (aCs L) loc' (aC W w c K.q (m.done dl pm) (K.L (K.push σ (gD tx))++N)) s'->Q .next s'):Ad W.M A (execs ((aE qC).drop 2) (aCs L)) Q E s:=by
 have hcl:=I.cl;have hl1:("</":Str).length=2:=by decide +kernel
 have hl2:(">":Str).length=1:=by decide +kernel
 walk_at "zd";walk_at "c";refine cI ?_ (by intro _ _;kernel_rfl);walk_at "c";refine Sta.getM_inst (f:=83) S' hcl (by walk_at "mem") (by walk_at "mem") VV.keys (by decide +kernel) (by rw[I.k];kernel_rfl) (by rw[I.k];kernel_rfl) ?_;refine oP (by rw[I.k];kernel_rfl) ?_ (by kernel_rfl) (by kernel_rfl);walk_at "c";refine⟨S'.kin,?_⟩;refine aDS (m:=m) I (S'.perm (nw':=aC W w c K.q m (K.L σ++N)) (by simp only[aC];walk_at "perm")) (hA.le (by first | decide | walk_at "o")) htag hok hq ?_;clear S';intro tp dl pm s' hsv hdl S';have hdl:aG dl=aG m.dl:=hdl;obtain⟨d1,lv1,hd1,hla⟩:=lE (hdl.trans (congrArg _ hd));have er1:=sV hd1;have er2:=sV hn;have er3:=aBL hps;have hdn:=zJ (hdl.symm.trans er1) (Al (Bf (Ai ..)) (by walk_at "o"));have hnn:=zJ er2 (Al (Bf (Ai ..)) (by walk_at "o"));have hpn:=zJ er3 (Al (Bf (Ai ..)) (by walk_at "o"));walk_at "c";refine Sta.subQn S' (x:=tag) (tx:=tx) (.head _) ?_;intro t3;walk_at "c";refine⟨S'.sinkLed (L':=[]) (by walk_at "mid"),?_⟩;refine S'.sink (hA.le (by first | decide | walk_at "o")) hr (by walk_at "mid") ?_;clear S';intro s' S';walk_at "zd"
 try simp only[aC]at S'
 walk_at "zd";replace S':=er3▸er2▸er1▸S';have hz3:(p0.map Value.bool).length<=AC:=Nat.le_of_lt hpn;walk_at "c";refine Sta.pop S' (by walk_at "upd") hpn ?_;clear S';intro s' S';walk_at "c";refine Sta.builtin S' I.b_len kU (by kernel_rfl) ?_;walk_at "c";refine Sta.len S' (by walk_at "mem") hz3 ?_;clear S';intro t4 s' S';walk_at "c";refine Sta.pop S' (by walk_at "upd") hdn ?_;clear S';intro s' S';walk_at "c";refine Sta.pop S' (by walk_at "upd") hnn ?_;clear S';intro s' S';walk_at "c";walk_at "zd";walk_at "ke";have k2:=k dl pm;rw[aCt hd1 hn hps]at k2;refine k2 _ s' hsv (S'.sel (Sel.rest ((tp,lY tag tx)::(lv1.a,aA (aF lv1.ps))::(ln.a,aA (aF ln.ps))::(aK lv1.ps++aK ln.ps)) ?_));rw[pL hd1,pL hn];simp only[aC]
 show List.Perm _ _;walk_at "perm"
end
section
variable {w:Wn}{c:Wc}{q:Addr}{m:Wm}
theorem wS{dl:List Lv}(h:dl≠[]):∃ d0 lv,dl=d0++[lv]:=⟨dl.dropLast,dl.getLast h,(Az h).symm⟩
theorem end_{K:Sink W}{σ:K.σ}{tag tx:Str}{t:Tok}{sv:NSt}{c?:Option Addr}{a1:Ab}{xs:List Str}{pb:Bool}{Q:Value->Ac->Prop}(I:IsC W)(C:CodeHd W.B 118 116)(hA:Aok 27 A)(F:FlI c.st c.rw (bE m) a1 xs)(B:WmB m)(hig:m.ig=0)(htag:NmG tag)(hok:NsOk a1.ns)(hq:qnV c.rw a1.ns (nmU tag) (nmL tag)=some (tx,sv))(htl:tx.length<=4000)(hp1:a1.pe=none)(hne:a1.ns.nss≠[])(hps:a1.ps.getLast?=some pb)(B1:AbB a1)(hr:K.room σ 5)(S:Sta W G env loc (aC W w c K.q m (K.L σ++(aP 116 aV aH c?++(pdT W m.pe++(pdD W m.pe++N))))) s)(k:∀ m' c2 s',bE m'=a1.ended sv->WmOk m'->Sta W G env loc (aC W w c K.q m' (K.L (K.pushes σ (xs++[gD tx]))++(aP 116 aV aH c2++(pdT W m'.pe++(pdD W m.pe++N))))) s'->Q .none s'):Ad W.M A (call (.ref 126) [.ref w.x,.str tag t]) Q E s:=by
 refine S.call_fnV aCs (binds:=[("self",.ref w.x),("tag",.str tag t)]) [] I.f_end hA (λ _ _ _ _ _=>BindsTo.of_eq (by kernel_rfl)) (by kernel_rfl) ?_;intro L A' s' hA' S';simp only[aW,An,AF,Av,Ay]at S';have hcl:=I.cl;have e0:((m.ig:Int) != 0)=false:=by rw[hig];rfl
 refine aM ?_;refine bQ rfl ?_;refine fG ?_
 iterate 4 walk_at "cw"
 rw[e0];refine cP ?_;walk_at "ke";refine bQ rfl ?_;refine nW (w:=w) (c:=c) (m:=m) (σ:=σ) (N:=(env.locals,aL loc)::N) I C (hA'.le (by decide)) F B rfl (.head _) (cH K (by decide) hr) rfl (S'.perm (by walk_at "perm")) ?_;clear S';intro m1 c2 s' e hw S';have hpe1:m1.pe=none:=fB e hp1;have hr1:K.room (K.pushes σ xs) 1:=cN K _ (cH K (by have:=F.len;walk_at "o") hr);subst e;generalize hD:pdD W m.pe=D at S' k;have hz1:m1.dl.length<=10000:=by have:=B1.dl;rwa[show(bE m1).ns.decl.length=m1.dl.length from Ai ..]at this
 have hz2:m1.nl.length<=10000:=by have:=B1.nl;rwa[show(bE m1).ns.nss.length=m1.nl.length from Ai ..]at this
 obtain⟨n0,ln,hn⟩:=wS (dl:=m1.nl) λ h=>hne (by show m1.nl.map Lv.val=[];rw[h];rfl);obtain⟨d0,lv,hd⟩:=wS (dl:=m1.dl) λ h=>hok.ne (by show m1.dl.map Lv.val=[];rw[h];rfl);obtain⟨p0,hp⟩:=hV hps;refine endB_ (m:=m1) I (hA'.le (by decide)) htag hok hq htl hr1 hn hd hp B1.ps hz2 hz1 S' ?_;clear S';intro dl pm loc' s' hsv S';refine k (m1.done dl pm) c2 s' (aCu hsv) (.none hpe1) (Sta.back (S'.perm ?_) S.eok);rw[K.pushes_append,hpe1,show(m1.done dl pm).pe=none from hpe1];show List.Perm _ ((env.locals,aL loc)::aC W w c K.q (m1.done dl pm) (K.L (K.push (K.pushes σ xs) (gD tx))++(aP 116 aV aH c2++(pdT W none++(D++N)))));walk_at "perm"
theorem endI_{tag:Str}{t:Tok}{Q:Value->Ac->Prop}(I:IsC W)(hA:Aok 3 A)(hig:m.ig≠0)(S:Sta W G env loc (aC W w c q m N) s)(k:∀ ti s',Sta W G env loc (aC W w c q { m with ig:=m.ig-1,ti:=ti } N) s'->Q .none s'):Ad W.M A (call (.ref 126) [.ref w.x,.str tag t]) Q E s:=by
 refine S.call_fn (binds:=[("self",.ref w.x),("tag",.str tag t)]) [] I.f_end hA.room (λ _ _ _ _ _=>BindsTo.of_eq (by kernel_rfl)) (by kernel_rfl) ?_;intro L s' S';simp only[aW,An,AF,Av,Ay]at S';have hcl:=I.cl;have e0:((m.ig:Int) != 0)=true:=bne_iff_ne.mpr (by walk_at "o");have ei:((m.ig:Int)-1)=((m.ig-1:Nat):Int):=by walk_at "o"
 refine aM ?_;walk_at "c";rw[e0];walk_at "c";walk_at "zd";rw[ei]at S';exact k _ s' (Sta.back (S'.perm (by dsimp only[aC];walk_at "perm")) S.eok)
theorem nsI_{p u:Str}{t1 t2:Tok}{Q:Value->Ac->Prop}(I:IsC W)(hA:Aok 3 A)(hig:m.ig≠0)(S:Sta W G env loc (aC W w c q m N) s)(k:∀ s',Sta W G env loc (aC W w c q m N) s'->Q .none s'):Ad W.M A (call (.ref 106) [.ref w.x,.str p t1,.str u t2]) Q E s:=by
 refine S.call_fn (binds:=[("self",.ref w.x),("prefix",.str p t1),("uri",.str u t2)]) [] I.f_startNs hA.room (λ _ _ _ _ _=>BindsTo.of_eq (by kernel_rfl)) (by kernel_rfl) ?_;intro L s' S';simp only[aW,An,AF,Av,Ay]at S';have hcl:=I.cl;have e0:((m.ig:Int) != 0)=true:=bne_iff_ne.mpr (by walk_at "o");refine aM ?_;walk_at "c";rw[e0];walk_at "c";exact k s' (Sta.back S' S.eok)
end
inductive RmV (st rw:Bool) (a:Ab):Ab->List Str->Prop
 | done (h:a.rd=true):RmV st rw a a ["\n"]
 | out (h:a.rd=false) (hs:a.rs=true) (hh:a.held≠[]) {a':Ab} {xs:List Str} (F:FlV st rw a a' xs):RmV st rw a a' xs
 | keep (h:a.rd=false) (hh:a.rs=false\/a.held=[]):RmV st rw a a []
noncomputable def iB(rs:Bool):List Str:=if rs=true then[]else["\n"]
theorem RmV.len{st rw:Bool}{a a':Ab}{xs:List Str}(h:RmV st rw a a' xs):xs.length<=4:=by
 induction h with
 | done h=>exact Ar rfl
 | out h hs hh F=>exact(FlI.out hh F).len
 | keep h hh=>exact AE _
section
variable {w:Wn}{c:Wc}{q:Addr}{m:Wm}
theorem nl_{K:Sink W}{σ:K.σ}{p2 p3 p4 p5 p6:Pos}{k0:Nat}{Q:Flow->Ac->Prop}(I:IsC W)(hA:Aok 3 A)(hi:interactive env=false)(hs:(("self":Str),some (Value.ref w.x))∈loc)(hr:K.room σ 1)(hl:(p3.endLine==p5.line)=true)(S':Sta W G env loc (aC W w c K.q m (K.L σ++N)) s)(k:∀ s',Sta W G env loc (aC W w c K.q m (K.L (K.push σ "\n")++N)) s'->Q .next s'):Ad W.M A (exec (.Expr (.Call (.Attribute (.Name "self" p2) "_write" p3) [.Constant (.str "\n") k0 p4] [] p5) p6) env) Q E s:=by
 have hcl:=I.cl;refine aAq ?_ hi rfl;refine jF ?_ rfl rfl hl;refine S'.local_ hs ?_;walk_at "c";exact lZ S' hA hr k
theorem xF{K:Sink W}{σ:K.σ}{p0 p1 p2 p3 p4 p5 p6 p7 p8:Pos}{k0:Nat}{Q:Flow->Ac->Prop}(I:IsC W)(hA:Aok 3 A)(hi:interactive env=false)(hs:(("self":Str),some (Value.ref w.x))∈loc)(hr:K.room σ 1)(hl:(p3.endLine==p5.line)=true)(S':Sta W G env loc (aC W w c K.q m (K.L σ++N)) s)(k:∀ s',Sta W G env loc (aC W w c K.q m (K.L (K.pushes σ (iB m.rs))++N)) s'->Q .next s'):Ad W.M A (exec (.If (.UnaryOp .Not (.Attribute (.Name "self" p0) "_root_seen" p1) p7) [.Expr (.Call (.Attribute (.Name "self" p2) "_write" p3) [.Constant (.str "\n") k0 p4] [] p5) p6] [] p8) env) Q E s:=by
 have hcl:=I.cl;refine fG ?_;refine isTrue_not ?_;refine dI ?_ rfl;refine gM S' hs ?_;walk_at "c";unfold iB at k;cases hrs:m.rs with
 | true=>
  rw[if_pos hrs]at k;exact AR (k _ S')
 | false=>
  rw[if_neg (by rw[hrs];exact AY)]at k;exact AH (nl_ I hA hi hs hr hl S' λ s' S'=>AR (k s' S'))
theorem aBf{K:Sink W}{σ:K.σ}{p0 p1 p2 p3 p4 p5 p6 p7 p8 p9 p10 p11 p12 p13 p14 p15 p16 p17:Pos}{k0:Nat}{c?:Option Addr}{a':Ab}{xs:List Str}{Q:Flow->Ac->Prop}(I:IsC W)(C:CodeHd W.B 118 116)(hA:Aok 26 A)(R:RmV c.st c.rw (bE m) a' xs)(B:WmB m)(hi:interactive env=false)(hs:(("self":Str),some (Value.ref w.x))∈loc)(hr:K.room σ 4)(hl:(p3.endLine==p5.line)=true)(hl2:(p13.endLine==p14.line)=true)(S':Sta W G env loc (aC W w c K.q m (K.L σ++(aP 116 aV aH c?++(pdT W m.pe++(pdD W m.pe++N))))) s)(k:∀ m' c2 s',bE m'=a'->WmOk m'->Sta W G env loc (aC W w c K.q m' (K.L (K.pushes σ xs)++(aP 116 aV aH c2++(pdT W m'.pe++(pdD W m.pe++N))))) s'->Q .next s'):Ad W.M A (exec (.If (.Attribute (.Name "self" p0) "_root_done" p1) [.Expr (.Call (.Attribute (.Name "self" p2) "_write" p3) [.Constant (.str "\n") k0 p4] [] p5) p6]
   [.If (.BoolOp .And [.Attribute (.Name "self" p7) "_root_seen" p8,.Attribute (.Name "self" p9) "_data" p10] p11) [.Expr (.Call (.Attribute (.Name "self" p12) "_flush" p13) [] [] p14) p15] [] p16] p17) env) Q E s:=by
 have hcl:=I.cl;have hz:=B.hz;refine fG ?_;refine dI ?_ rfl;refine gM S' hs ?_;walk_at "c"
 induction R with
 | done h=>
  rw[show m.rd=true from h];exact dK (AH (nl_ I (hA.le (by decide)) hi hs (cH K (by decide) hr) hl S' λ s' S'=>AR (k m c? s' rfl B.ok S')))
 | out h hrs hh F=>
  rw[show m.rd=false from h];refine cP (AH ?_);refine fG ?_;refine isTrue_and ?_;refine dI ?_ rfl;refine gM S' hs ?_;walk_at "c";rw[show m.rs=true from hrs];refine dK ?_;refine isTrue_and ?_;refine dI ?_ rfl;refine gM S' hs ?_;walk_at "c";have h:m.held≠[]:=hh;have e:(!m.held.isEmpty)=true:=by cases hd:m.held with | nil=>exact absurd hd h | cons x r=>rfl
  rw[e];refine dK ?_;refine isTrue_and_nil ?_;refine dK ?_;refine AH ?_;refine wpAny_Expr_any ?_ hi (by kernel_rfl);exact pR I C hA F B hr hs rfl rfl hl2 S' λ m' c2 s2 e hp S3=>AR (AR (k m' c2 s2 e (.none hp) S3))
 | keep h hh=>
  rw[show m.rd=false from h];refine cP (AH ?_);refine fG ?_;refine isTrue_and ?_;refine dI ?_ rfl;refine gM S' hs ?_;walk_at "c";cases hrs:m.rs with
  | false=>exact cP (cP (AR (AR (k m c? _ rfl B.ok S'))))
  | true=>
   refine dK ?_;refine isTrue_and ?_;refine dI ?_ rfl;refine gM S' hs ?_;walk_at "c";have hh:m.held=[]:=hh.resolve_left λ(h:m.rs=false)=>AY (hrs.symm.trans h);rw[hh];exact cP (cP (AR (AR (k m c? _ rfl B.ok S'))))
end
noncomputable abbrev tL(L:Addr):Env:=envOf "C14NWriterTarget.comment" (aD eQ) L 133 (.ref 132)
inductive PiArg:Value->Option Str->Prop
 | none:PiArg .none none
 | zero (t:Tok):PiArg (.int 0 t) none
 | emp (t:Tok):PiArg (.str "" t) none
 | txt (x:Str) (t:Tok) (h:x.length≠0) (hz:x.length<=txL):PiArg (.str x t) (some x)
noncomputable def gJ(tg:Str):Option Str->Str
 | none=>"<?"++tg++"?>"
 | some x=>"<?"++tg++" "++dS x++"?>"
noncomputable def oC(x:Str):Str:="<!--"++dS x++"-->"
section
variable {w:Wn}{c:Wc}{q:Addr}{m:Wm}
theorem aC6{v:Value}{o:Option Str}{Q:Bool->Ac->Prop}(hv:PiArg v o)(S':Sta W G env loc nw s)(h0:o=none->∀ s',Sta W G env loc nw s'->Q false s')(h1:∀ x t,v=.str x t->o=some x->x.length<=300000->∀ s',Sta W G env loc nw s'->Q true s'):Ad W.M A (truthy v) Q E s:=by
 induction hv with
 | none=>
  walk_at "c";exact h0 rfl _ S'
 | zero t=>
  walk_at "c";exact h0 rfl _ S'
 | emp t=>exact cL S' (by decide) (λ e s' S'=>h0 rfl s' S') (λ e=>absurd rfl e)
 | txt x t hx0 hx=>exact cL S' (by have hx:x.length<=300000:=hx;walk_at "o") (λ e=>absurd e hx0) (λ e s' S'=>h1 x t rfl rfl hx s' S')
theorem piB_{K:Sink W}{σ:K.σ}{L:Addr}{tg:Str}{u:Tok}{v:Value}{o:Option Str}{Q:Flow->Ac->Prop}(I:IsC W)(hA:Aok 7 A)(htg:tg.length<=1000)(hv:PiArg v o)(hr:K.room σ 2)(S':Sta W G (yX L) ([("self",some (.ref w.x)),("target",some (.str tg u)),("data",some v)]:Loc) (aC W w c K.q m (K.L σ++N)) s)(k:∀ loc' s',Sta W G (yX L) loc' (aC W w c K.q m (K.L (K.pushes σ (gJ tg o::iB m.rs))++N)) s'->Q .next s'):Ad W.M A (execs ((aE rW).drop 2) (yX L)) Q E s:=by
 have hcl:=I.cl;have hl1:("<?":Str).length=2:=by decide +kernel
 have hl2:("?>":Str).length=2:=by decide +kernel
 have hl4:(" ":Str).length=1:=by decide +kernel
 have fin:∀ s',Sta W G (yX L) ([("self",some (.ref w.x)),("target",some (.str tg u)),("data",some v)]:Loc) (aC W w c K.q m (K.L (K.push σ (gJ tg o))++N)) s'->
   Ad W.M A (execs ((aE rW).drop 3) (yX L)) Q E s':=by
  clear S';intro s' S';refine bQ rfl ?_;refine xF I (hA.le (by decide)) rfl (.head _) (K.step _ hr) rfl S' ?_;clear S';intro s' S';exact dD (Ar rfl) (k _ s' S')
 refine bQ rfl ?_;walk_at "c";refine aC6 hv S' (λ e s' S'=>?_) (λ x t ev eo hx' s' S'=>?_)
 ·subst e;walk_at "c";rw[Str.empty_append];exact lZ (m:=m) (σ:=σ) (w:=w) (c:=c) (N:=N) S' (hA.le (by decide)) (K.less hr) λ s' S'=>fin s' S'
 ·subst ev eo;have hl3:=dM x;walk_at "c";refine Sta.global S' I.g_escC (by kernel_rfl) ?_;refine gC (by rw[I.k];kernel_rfl) ?_ (by kernel_rfl) (by kernel_rfl);walk_at "c";refine⟨S'.kin,?_⟩;refine wY I S' (hA.le (by first | decide | walk_at "o")) hx' ?_;clear S';intro t2 s' S';walk_at "c";rw[Str.empty_append];exact lZ (m:=m) (σ:=σ) (w:=w) (c:=c) (N:=N) S' (hA.le (by decide)) (K.less hr) λ s' S'=>fin s' S'
theorem pi_{K:Sink W}{σ:K.σ}{tg:Str}{u:Tok}{v:Value}{o:Option Str}{c?:Option Addr}{a1:Ab}{xs:List Str}{Q:Value->Ac->Prop}(I:IsC W)(C:CodeHd W.B 118 116)(hA:Aok 27 A)(R:RmV c.st c.rw (bE m) a1 xs)(B:WmB m)(htg:tg.length<=1000)(hv:PiArg v o)(hig:m.ig=0)(hr:K.room σ 6)(S:Sta W G env loc (aC W w c K.q m (K.L σ++(aP 116 aV aH c?++(pdT W m.pe++(pdD W m.pe++N))))) s)(k:∀ m' c2 s',bE m'=a1->WmOk m'->Sta W G env loc (aC W w c K.q m' (K.L (K.pushes σ (xs++gJ tg o::iB a1.rs))++(aP 116 aV aH c2++(pdT W m'.pe++(pdD W m.pe++N))))) s'->Q .none s'):Ad W.M A (call (.ref 140) [.ref w.x,.str tg u,v]) Q E s:=by
 refine S.call_fnV yX (binds:=[("self",.ref w.x),("target",.str tg u),("data",v)]) [] I.f_pi hA (λ _ _ _ _ _=>BindsTo.of_eq (by kernel_rfl)) (by kernel_rfl) ?_;intro L A' s' hA' S';simp only[aW,An,AF,Av,Ay]at S';have hcl:=I.cl;have e0:((m.ig:Int) != 0)=false:=by rw[hig];rfl
 refine aM ?_;refine bQ rfl ?_;walk_at "cw";walk_at "cw";walk_at "st";rw[e0];walk_at "st";refine bQ rfl ?_;refine aBf (w:=w) (c:=c) (m:=m) (σ:=σ) (N:=(env.locals,aL loc)::N) I C (hA'.le (by decide)) R B rfl (.head _) (cH K (by decide) hr) rfl rfl (S'.perm (by walk_at "perm")) ?_;clear S';intro m1 c2 s' e hw S';subst e;refine piB_ (m:=m1) I (hA'.le (by decide)) htg hv (cN K _ (cH K (by have:=R.len;walk_at "o") hr)) S' ?_;clear S';intro loc' s' S';rw[←K.pushes_append]at S';exact k m1 c2 s' rfl hw (Sta.back (S'.perm (by walk_at "perm")) S.eok)
theorem piI_{tg:Str}{u:Tok}{v:Value}{Q:Value->Ac->Prop}(I:IsC W)(hA:Aok 3 A)(hig:m.ig≠0)(S:Sta W G env loc (aC W w c q m N) s)(k:∀ s',Sta W G env loc (aC W w c q m N) s'->Q .none s'):Ad W.M A (call (.ref 140) [.ref w.x,.str tg u,v]) Q E s:=by
 refine S.call_fn (binds:=[("self",.ref w.x),("target",.str tg u),("data",v)]) [] I.f_pi hA.room (λ _ _ _ _ _=>BindsTo.of_eq (by kernel_rfl)) (by kernel_rfl) ?_;intro L s' S';simp only[aW,An,AF,Av,Ay]at S';have hcl:=I.cl;have e0:((m.ig:Int) != 0)=true:=bne_iff_ne.mpr (by walk_at "o");refine aM ?_;walk_at "c";rw[e0];walk_at "c";exact k s' (Sta.back S' S.eok)
theorem coB_{K:Sink W}{σ:K.σ}{L:Addr}{x:Str}{t:Tok}{Q:Flow->Ac->Prop}(I:IsC W)(hA:Aok 7 A)(hx:x.length<=txL)(hr:K.room σ 2)(S':Sta W G (tL L) ([("self",some (.ref w.x)),("text",some (.str x t))]:Loc) (aC W w c K.q m (K.L σ++N)) s)(k:∀ loc' s',Sta W G (tL L) loc' (aC W w c K.q m (K.L (K.pushes σ (oC x::iB m.rs))++N)) s'->Q .next s'):Ad W.M A (execs ((aE eQ).drop 3) (tL L)) Q E s:=by
 have hcl:=I.cl;have hl1:("<!--":Str).length=4:=by decide +kernel
 have hl2:("-->":Str).length=3:=by decide +kernel
 have hx':x.length<=300000:=hx;have hl3:=dM x;refine bQ rfl ?_;walk_at "c";refine Sta.global S' I.g_escC (by kernel_rfl) ?_;refine gC (by rw[I.k];kernel_rfl) ?_ (by kernel_rfl) (by kernel_rfl);walk_at "c";refine⟨S'.kin,?_⟩;refine wY I S' (hA.le (by first | decide | walk_at "o")) hx ?_;clear S';intro t2 s' S';walk_at "c";rw[Str.empty_append];refine lZ (m:=m) (σ:=σ) (w:=w) (c:=c) (N:=N) S' (hA.le (by decide)) (K.less hr) ?_;clear S';intro s' S';refine bQ rfl ?_;refine xF I (hA.le (by decide)) rfl (.head _) (K.step _ hr) rfl S' ?_;clear S';intro s' S';exact dD (Ar rfl) (k _ s' S')
theorem co_{K:Sink W}{σ:K.σ}{x:Str}{t:Tok}{c?:Option Addr}{a1:Ab}{xs:List Str}{Q:Value->Ac->Prop}(I:IsC W)(C:CodeHd W.B 118 116)(hA:Aok 27 A)(hcom:c.com=true)(R:RmV c.st c.rw (bE m) a1 xs)(B:WmB m)(hx:x.length<=txL)(hig:m.ig=0)(hr:K.room σ 6)(S:Sta W G env loc (aC W w c K.q m (K.L σ++(aP 116 aV aH c?++(pdT W m.pe++(pdD W m.pe++N))))) s)(k:∀ m' c2 s',bE m'=a1->WmOk m'->Sta W G env loc (aC W w c K.q m' (K.L (K.pushes σ (xs++oC x::iB a1.rs))++(aP 116 aV aH c2++(pdT W m'.pe++(pdD W m.pe++N))))) s'->Q .none s'):Ad W.M A (call (.ref 133) [.ref w.x,.str x t]) Q E s:=by
 refine S.call_fnV tL (binds:=[("self",.ref w.x),("text",.str x t)]) [] I.f_comment hA (λ _ _ _ _ _=>BindsTo.of_eq (by kernel_rfl)) (by kernel_rfl) ?_;intro L A' s' hA' S';simp only[aW,An,AF,Av,Ay]at S';have hcl:=I.cl;have e0:((m.ig:Int) != 0)=false:=by rw[hig];rfl
 obtain⟨com,st,rw,et,qt⟩:=c;have hcom:com=true:=hcom;subst hcom;refine aM ?_;refine bQ rfl ?_
 repeat (fail_if_success (with_reducible show Ad W.M A' (execs ((aE eQ).drop 1) (tL L)) _ _ _));walk_at "cw"
 refine bQ rfl ?_;walk_at "cw";walk_at "cw";walk_at "st";rw[e0];walk_at "st";refine bQ rfl ?_;refine aBf (w:=w) (c:=⟨true,st,rw,et,qt⟩) (m:=m) (σ:=σ) (N:=(env.locals,aL loc)::N) I C (hA'.le (by decide)) R B rfl (.head _) (cH K (by decide) hr) rfl rfl (S'.perm (by walk_at "perm")) ?_;clear S';intro m1 c2 s' e hw S';subst e;refine coB_ (m:=m1) I (hA'.le (by decide)) hx (cN K _ (cH K (by have:=R.len;walk_at "o") hr)) S' ?_;clear S';intro loc' s' S';rw[←K.pushes_append]at S';exact k m1 c2 s' rfl hw (Sta.back (S'.perm (by walk_at "perm")) S.eok)
theorem coI_{x:Str}{t:Tok}{Q:Value->Ac->Prop}(I:IsC W)(hA:Aok 3 A)(hig:c.com=false\/m.ig≠0)(S:Sta W G env loc (aC W w c q m N) s)(k:∀ s',Sta W G env loc (aC W w c q m N) s'->Q .none s'):Ad W.M A (call (.ref 133) [.ref w.x,.str x t]) Q E s:=by
 refine S.call_fn (binds:=[("self",.ref w.x),("text",.str x t)]) [] I.f_comment hA.room (λ _ _ _ _ _=>BindsTo.of_eq (by kernel_rfl)) (by kernel_rfl) ?_;intro L s' S';simp only[aW,An,AF,Av,Ay]at S';have hcl:=I.cl;obtain⟨com,st,rw,et,qt⟩:=c;refine aM ?_
 induction com with
 | false=>
  walk_at "c";exact k s' (Sta.back S' S.eok)
 | true=>
  have e0:((m.ig:Int) != 0)=true:=bne_iff_ne.mpr (by have:=hig.resolve_left AY;walk_at "o");walk_at "c";rw[e0];walk_at "c";exact k s' (Sta.back S' S.eok)
end
noncomputable def aEB(K:Frag)(d:Addr):Array DictEntry:=match(bC K d).data with
 | .dict es _=>es
 | _=>#[]
noncomputable def epAt(K:Frag)(d:Addr):Nat:=match(bC K d).data with
 | .dict _ ep=>ep
 | _=>0
noncomputable def jP(P:Params)(i:Nat):DictEntry:=(aEB (KK P) 37).toList.getD i default
noncomputable def mL:Value->Tok
 | .str _ t=>t
 | _=>0
noncomputable def aC9(P:Params):List (Str×Str×Tok):=[("http://www.w3.org/XML/1998/namespace","xml",mL (jP P 0).val),("http://www.w3.org/1999/xhtml","html",mL (jP P 1).val),("http://www.w3.org/1999/02/22-rdf-syntax-ns#","rdf",mL (jP P 2).val),("http://schemas.xmlsoap.org/wsdl/","wsdl",mL (jP P 3).val),("http://www.w3.org/2001/XMLSchema","xs",mL (jP P 4).val),("http://www.w3.org/2001/XMLSchema-instance","xsi",mL (jP P 5).val),("http://purl.org/dc/elements/1.1/","dc",mL (jP P 6).val)]
noncomputable def nmapV:List NsP:=[("http://www.w3.org/XML/1998/namespace","xml"),("http://www.w3.org/1999/xhtml","html"),("http://www.w3.org/1999/02/22-rdf-syntax-ns#","rdf"),("http://schemas.xmlsoap.org/wsdl/","wsdl"),("http://www.w3.org/2001/XMLSchema","xs"),("http://www.w3.org/2001/XMLSchema-instance","xsi"),("http://purl.org/dc/elements/1.1/","dc")]
theorem sQ(P:Params):(aEB (KK P) 37).toList=[jP P 0,jP P 1,jP P 2,jP P 3,jP P 4,jP P 5,jP P 6]:=by kernel_rfl
theorem aEf(prog:Program)(w:World)(h:Heap)(X:(KK w.params).In h):h.DictAt (PySem.strKind prog w) 37 (atV (aC9 w.params)) (epAt (KK w.params) 37):=by
 refine⟨bC (KK w.params) 37,aEB (KK w.params) 37,X _ _ (by kernel_rfl),⟨by kernel_rfl,by kernel_rfl,by kernel_rfl⟩,by kernel_rfl,?_,?_,?_⟩
 ·intro e he;have he':=Array.mem_toList_iff.mpr he;rw[sQ]at he';simp only[Ax,Bx,or_false]at he';rcases he' with rfl | rfl | rfl | rfl | rfl | rfl | rfl
  ·exact⟨"http://www.w3.org/XML/1998/namespace",by kernel_rfl,by kernel_rfl⟩
  ·exact⟨"http://www.w3.org/1999/xhtml",by kernel_rfl,by kernel_rfl⟩
  ·exact⟨"http://www.w3.org/1999/02/22-rdf-syntax-ns#",by kernel_rfl,by kernel_rfl⟩
  ·exact⟨"http://schemas.xmlsoap.org/wsdl/",by kernel_rfl,by kernel_rfl⟩
  ·exact⟨"http://www.w3.org/2001/XMLSchema",by kernel_rfl,by kernel_rfl⟩
  ·exact⟨"http://www.w3.org/2001/XMLSchema-instance",by kernel_rfl,by kernel_rfl⟩
  ·exact⟨"http://purl.org/dc/elements/1.1/",by kernel_rfl,by kernel_rfl⟩
 ·rw[sQ];exact .cons (by kernel_rfl) (by kernel_rfl) (.cons (by kernel_rfl) (by kernel_rfl) (.cons (by kernel_rfl) (by kernel_rfl) (.cons (by kernel_rfl) (by kernel_rfl) (.cons (by kernel_rfl) (by kernel_rfl) (.cons (by kernel_rfl) (by kernel_rfl) (.cons (by kernel_rfl) (by kernel_rfl) .nil))))))
 ·show(nmapV.map (·.1)).Nodup
  decide +kernel
theorem IsC.mapAt{W:Wd}(I:IsC W)(O:W.Ok):W.B.DictAt (PySem.strKind W.prog W.w) 37 (atV (aC9 W.w.params)) (epAt (KK W.w.params) 37):=aEf _ _ _ (by have:=O.kin;rwa[I.k]at this)
theorem Sta.listItemsT{r d:Addr}{l:List (Str×Str×Tok)}{ep:Nat}{Q:Value->Ac->Prop}(S:Sta W G env loc nw s)(hh:A.handled=none)(hm:W.B.DictAt (PySem.strKind W.prog W.w) d (atV l) ep)(mv:(r,jE d)∈nw)(hn:l.length<=1000)(h:∀ b ps s',ps.map (·.2)=l.map (λ p=>(p.1,p.2.1))->Sta W G env loc ((b,aA (aF ps))::(nw++aK ps)) s'->Q (.ref b) s'):Ad W.M A (call (.type "list") [.ref r]) Q E s:=by
 obtain⟨o,ho,rfl⟩:=S.get mv;have hll:(atV l).length=l.length:=Ai ..;refine kdx_call (knd:=PySem.strKind W.prog W.w) hh ⟨_,ho,rfl,rfl⟩ (gE hm S.led.keep) (by rw[hll,Aw];walk_at "o") λ h' tk acc c as hk hS hl hG hacc=>?_;have hal:as.length=l.length:=hl.trans hll
 let ps:List (Addr×NsP):=as.zip (l.map λ p=>(p.1,p.2.1))
 have hps1:ps.map (·.1)=as:=List.map_fst_zip (by rw[Ai];walk_at "o");have hps2:ps.map (·.2)=l.map λ p=>(p.1,p.2.1):=List.map_snd_zip (by rw[Ai];walk_at "o");have href:as.map Value.ref=aF ps:=by rw[←hps1];simp[aF]
 refine h _ ps _ hps2 (Sta.perm (nw:=(s.heap.objs.size,aA (aF ps))::(aK ps++nw)) ?_ (AT.cons _));have e:((s.heap.objs.size,aA (aF ps))::(aK ps++nw):Lg)=((s.heap.objs.size,aA (aF ps))::aK ps)++nw:=rfl;rw[e];refine S.many hk _ ?_ ?_ ?_ tk
 ·have e:(aK ps).map Prod.fst=as:=by rw[←hps1];simp[aK]
  rw[An,e];refine AP.mpr ⟨λ hm=>?_,hG.rise.imp λ hlt=>BA hlt⟩;exact absurd (hG.above _ hm) (BG _)
 ·intro p hp;rcases Ax.mp hp with rfl | hp
  ·exact AN _
  obtain⟨q,hq,rfl⟩:=Aj.mp hp;have:q.1∈as:=by rw[←hps1];exact Aj.mpr ⟨q,hq,rfl⟩
  exact Nat.le_of_lt (hG.above _ this)
 ·intro p hp;rcases Ax.mp hp with rfl | hp
  ·refine⟨_,hS,c,?_⟩;rw[←href,←hacc]
  obtain⟨q,hq,rfl⟩:=Aj.mp hp;obtain⟨j,q0⟩:=BQ hq;obtain⟨hj,rfl⟩:=q0;have hja:j<as.length:=by have:=congrArg A8 hps1;rw[Ai]at this;walk_at "o"
  have hjl:j<l.length:=by walk_at "o"
  have ez:ps[j]=(as[j],(l[j].1,l[j].2.1)):=by simp[ps]
  obtain⟨key,k,x',e1,e2,e3⟩:=hG.pairs j as[j] (List.getElem?_eq_getElem hja);have e1':(l[j].1,Value.str l[j].2.1 l[j].2.2)=(k,x'):=by
   have:(atV l)[j]?=some (l[j].1,.str l[j].2.1 l[j].2.2):=by simp[atV,hjl]
   rw[this]at e1;exact Option.some.inj e1
  cases e1';obtain⟨t,rfl⟩:∃ t,key=.str l[j].1 t:=by
   induction key with
   | str y t=>exact⟨t,by rw[aAP e2]⟩
   | _=>first | cases e2 | exact absurd e2 (by simp[PySem.strKind,Value.isStrOf])
  rw[ez];exact⟨_,e3,t,_,0,rfl⟩
noncomputable abbrev lN:Str:="http://www.w3.org/XML/1998/namespace"
noncomputable def dW(rw:Bool):NSt:=⟨[[(lN,"xml")]],if rw=true then[[]]else[nmapV,[]],[]⟩
structure IFr (m:Wm) (rw:Bool):Prop where
 held:m.held=[]
 ns:bB m=dW rw
 ps:m.ps=[false]
 rs:m.rs=false
 rd:m.rd=false
 ig:m.ig=0
 pe:m.pe=none
noncomputable abbrev aCr(L:Addr):Env:=envOf "C14NWriterTarget.__init__" (aD mB) L 60 (.ref 59)
theorem gL{α:Type}{l:List α}{x:α}(i:Nat)(h:l[i]?=some x):l[i]?=some x:=h
theorem eG{a:Addr}{c c':Cell}:∀{l:Lg} (i:Nat),l[i]?=some (a,c)->Upd a c c' l (l.set i (a,c'))
 | [],_,h=>nomatch h
 | _::_,0,h=>by cases h;exact .head
 | _::_,i+1,h=>.tail (eG i h)
theorem aCX{x:Str}{o v:Option Value}:∀{l:Loc} (i:Nat),l[i]?=some (x,o)->Put x v l (l.set i (x,v))
 | [],_,h=>nomatch h
 | _::_,0,h=>by cases h;exact .head
 | _::_,i+1,h=>.tail (aCX i h)
section
variable {W:Wd}{G:Gens}{env:Env}{loc:Loc}{nw:Lg}{s:Ac}{A:AL}{E:Value->Ac->Prop}{i j:Nat}{vals:Loc}{v:Value}{o:Option Value}{names:List Str}{C a d:Addr}{x y attr:Str}{l:List Stmt}{n:Nat}{xp yp p' pos:Pos}{Q:Flow->Ac->Prop}
theorem Sta.setattrAt{Q:Unit->Ac->Prop}(S:Sta W G env loc nw s)(c:Cl W.K C names)(mx:(a,bD C d)∈nw)(hi:nw[i]?=some (d,aN vals))(hk:vals.map Prod.fst=names)(hj:vals[j]?=some (attr,o))(hz:names.length<=1000)(h:∀ s',let V:=vals.set j (attr,some v);let M:=nw.set i (d,aN V);Sta W G env loc M s'->Q () s'):Ad W.M A (setAttr (.ref a) attr v) Q E s:=S.setattr c mx (eG i hi) hk (aCX j hj) hz h
theorem aDQ(S:Sta W G env loc nw s)(hl:l[n]?=some (.Assign [.Attribute (.Name x xp) attr p'] (.Name y yp) pos))(hy:(y,some v)∈loc)(hx:(x,some (.ref a))∈loc)(c:Cl W.K C names)(mx:(a,bD C d)∈nw)(hi:nw[i]?=some (d,aN vals))(hk:vals.map Prod.fst=names)(hj:vals[j]?=some (attr,o))(hz:names.length<=1000)(h:∀ s',let V:=vals.set j (attr,some v);let M:=nw.set i (d,aN V);Sta W G env loc M s'->Ad W.M A (execs (l.drop (n+1)) env) Q E s'):Ad W.M A (execs (l.drop n) env) Q E s:=
 gU hl (fE (S.local_ hy (S.local_ hx (S.setattrAt c mx hi hk hj hz h))) rfl)
theorem aDP{k:Nat}(S:Sta W G env loc nw s)(hl:l[n]?=some (.Assign [.Attribute (.Name x xp) attr p'] (.Constant .none k yp) pos))(hx:(x,some (.ref a))∈loc)(c:Cl W.K C names)(mx:(a,bD C d)∈nw)(hi:nw[i]?=some (d,aN vals))(hk:vals.map Prod.fst=names)(hj:vals[j]?=some (attr,o))(hz:names.length<=1000)(h:∀ s',let V:=vals.set j (attr,some .none);let M:=nw.set i (d,aN V);Sta W G env loc M s'->Ad W.M A (execs (l.drop (n+1)) env) Q E s'):Ad W.M A (execs (l.drop n) env) Q E s:=
 gU hl (fE (wpAny_Constant_none (S.local_ hx (S.setattrAt c mx hi hk hj hz h))) rfl)
theorem aDR{k:Nat}{b:Bool}(S:Sta W G env loc nw s)(hl:l[n]?=some (.Assign [.Attribute (.Name x xp) attr p'] (.Constant (.bool b) k yp) pos))(hx:(x,some (.ref a))∈loc)(c:Cl W.K C names)(mx:(a,bD C d)∈nw)(hi:nw[i]?=some (d,aN vals))(hk:vals.map Prod.fst=names)(hj:vals[j]?=some (attr,o))(hz:names.length<=1000)(h:∀ s',let V:=vals.set j (attr,some (.bool b));let M:=nw.set i (d,aN V);Sta W G env loc M s'->Ad W.M A (execs (l.drop (n+1)) env) Q E s'):Ad W.M A (execs (l.drop n) env) Q E s:=
 gU hl (fE (wpAny_Constant_bool (S.local_ hx (S.setattrAt c mx hi hk hj hz h))) rfl)
end
section
local macro_rules | `(tactic| walk_at $s:str) => Mine.goAt "\nperm\t( ( 'first ( ( '| ( 'dsimp ( ( ( ( '( config ':= ( '{ ( )null ( ( ( ( zetaDelta ( )null )T:structInstLVal ( ( )null ( )null ( ':= ( )null true )T:structInstFieldDef )null )T:structInstField )null )T:structInstFields ( ( )null )T:optEllipsis ( )null '} )T:structInst ') )t:valConfigItem )t:configItem )null )t:optConfig ( )null ( 'only )null ( '[ ( ( ( )null ( )null List.set_cons_zero )t:simpLemma ', ( ( )null ( )null List.set_cons_succ )t:simpLemma )null '] )null ( )null )t:dsimp )group ( '| ( )null )group )null )t:first ( 'first ( ( '| =pm )group ( '| =perm0 )group )null )t:first )null\nzd\t( 'first ( ( '| ( 'dsimp ( ( ( ( '( config ':= ( '{ ( )null ( ( ( ( zetaDelta ( )null )T:structInstLVal ( ( )null ( )null ( ':= ( )null true )T:structInstFieldDef )null )T:structInstField )null )T:structInstFields ( ( )null )T:optEllipsis ( )null '} )T:structInst ') )t:valConfigItem )t:configItem )null )t:optConfig ( )null ( 'only )null ( '[ ( ( ( )null ( )null List.set_cons_zero )t:simpLemma ', ( ( )null ( )null List.set_cons_succ )t:simpLemma )null '] )null ( ( 'at ( ( S' )null )t:locationHyp )t:location )null )t:dsimp )group ( '| ( )null )group )null )t:first\nzg\t( 'first ( ( '| ( 'dsimp ( ( ( ( '( config ':= ( '{ ( )null ( ( ( ( zetaDelta ( )null )T:structInstLVal ( ( )null ( )null ( ':= ( )null true )T:structInstFieldDef )null )T:structInstField )null )T:structInstFields ( ( )null )T:optEllipsis ( )null '} )T:structInst ') )t:valConfigItem )t:configItem )null )t:optConfig ( )null ( 'only )null ( '[ ( ( ( )null ( )null List.set_cons_zero )t:simpLemma ', ( ( )null ( )null List.set_cons_succ )t:simpLemma )null '] )null ( )null )t:dsimp )group ( '| ( )null )group )null )t:first\nmem\t( 'exact ( Ao ( '( i ':= ( '0 )num ') )T:namedArgument rfl )$ )t:exact; ( 'exact ( Ao ( '( i ':= ( '1 )num ') )T:namedArgument rfl )$ )t:exact; ( 'exact ( Ao ( '( i ':= ( '2 )num ') )T:namedArgument rfl )$ )t:exact; ( 'exact ( Ao ( '( i ':= ( '3 )num ') )T:namedArgument rfl )$ )t:exact; ( 'exact ( Ao ( '( i ':= ( '4 )num ') )T:namedArgument rfl )$ )t:exact; ( 'exact ( Ao ( '( i ':= ( '5 )num ') )T:namedArgument rfl )$ )t:exact; ( 'exact ( Ao ( '( i ':= ( '6 )num ') )T:namedArgument rfl )$ )t:exact; ( 'exact ( Ao ( '( i ':= ( '7 )num ') )T:namedArgument rfl )$ )t:exact; ( 'exact ( Ao ( '( i ':= ( '8 )num ') )T:namedArgument rfl )$ )t:exact; ( 'exact ( Ao ( '( i ':= ( '9 )num ') )T:namedArgument rfl )$ )t:exact; ( 'exact ( Ao ( '( i ':= ( '10 )num ') )T:namedArgument rfl )$ )t:exact; ( 'exact ( Ao ( '( i ':= ( '11 )num ') )T:namedArgument rfl )$ )t:exact; ( 'exact ( Ao ( '( i ':= ( '12 )num ') )T:namedArgument rfl )$ )t:exact; ( 'exact ( Ao ( '( i ':= ( '13 )num ') )T:namedArgument rfl )$ )t:exact\nupd\t( 'exact ( eG ( '0 )num rfl )$ )t:exact; ( 'exact ( eG ( '1 )num rfl )$ )t:exact; ( 'exact ( eG ( '2 )num rfl )$ )t:exact; ( 'exact ( eG ( '3 )num rfl )$ )t:exact; ( 'exact ( eG ( '4 )num rfl )$ )t:exact; ( 'exact ( eG ( '5 )num rfl )$ )t:exact; ( 'exact ( eG ( '6 )num rfl )$ )t:exact; ( 'exact ( eG ( '7 )num rfl )$ )t:exact; ( 'exact ( eG ( '8 )num rfl )$ )t:exact; ( 'exact ( eG ( '9 )num rfl )$ )t:exact; ( 'exact ( eG ( '10 )num rfl )$ )t:exact; ( 'exact ( eG ( '11 )num rfl )$ )t:exact; ( 'exact ( eG ( '12 )num rfl )$ )t:exact; ( 'exact ( eG ( '13 )num rfl )$ )t:exact\nix\t( 'exact ( gL ( '0 )num rfl )$ )t:exact; ( 'exact ( gL ( '1 )num rfl )$ )t:exact; ( 'exact ( gL ( '2 )num rfl )$ )t:exact; ( 'exact ( gL ( '3 )num rfl )$ )t:exact; ( 'exact ( gL ( '4 )num rfl )$ )t:exact; ( 'exact ( gL ( '5 )num rfl )$ )t:exact; ( 'exact ( gL ( '6 )num rfl )$ )t:exact; ( 'exact ( gL ( '7 )num rfl )$ )t:exact; ( 'exact ( gL ( '8 )num rfl )$ )t:exact; ( 'exact ( gL ( '9 )num rfl )$ )t:exact; ( 'exact ( gL ( '10 )num rfl )$ )t:exact; ( 'exact ( gL ( '11 )num rfl )$ )t:exact; ( 'exact ( gL ( '12 )num rfl )$ )t:exact; ( 'exact ( gL ( '13 )num rfl )$ )t:exact; ( 'exact ( gL ( '14 )num rfl )$ )t:exact; ( 'exact ( gL ( '15 )num rfl )$ )t:exact; ( 'exact ( gL ( '16 )num rfl )$ )t:exact; ( 'exact ( gL ( '17 )num rfl )$ )t:exact\nnV\t( ( 'clear ( S' )null )t:clear ( 'intro ( s' Vq Mq S' )null )t:intro )null\nsv\t^aDQ S' /rfl /mem /mem hcl /mem /ix /rfl /ix /dec _& =nV; ^aDP S' /rfl /mem hcl /mem /ix /rfl /ix /dec _& =nV; ^aDR S' /rfl /mem hcl /mem /ix /rfl /ix /dec _& =nV; <Sta.dictD0 S' _% =na; ^Sta.setattrAt S' hcl /mem /ix /rfl /ix /dec _& =nV; ^Sta.getattr S' hcl /mem /mem /rfl /mem /rfl _& =ns; ^Sta.builtin S' I.b_list aCK /kr _ /deck /deck&; ^Sta.global S' I.g_map /kr _ /deck&; <Sta.getM_dict S' hmap F.slot_dict_items F.type_dict_items _%; ^Sta.items S' hmap /deck _& =na; =cw\n" s
variable {w:Wn}{c:Wc}{q:Addr}{m:Wm}
theorem mkWn{x dx d dns ns pm ps a0 tp q:Addr}{tu tx ti:Tok}{nl:List Lv}{com st rw:Bool}{et qt:Value}(S:Sta W G env loc ((x,bD 143 dx)::(dx,aN (VV (.ref q) (.ref d) (.bool com) (.bool st) .none et (.bool rw) qt .none (.ref dns) (.ref ns) (.ref pm) (.ref ps) .none (.bool false) (.bool false) (.int 0 ti)))::(d,aA [])::(dns,aA [.ref a0])::(ns,aA (aG nl))::(pm,IsD W pm [])::(ps,aA [.bool false])::(a0,aA [.ref tp])::(tp,aJ [.str lN tu,.str "xml" tx])::(aT nl++N)) s):Sta W G env loc (aC W ⟨x,dx,d,dns,ns,pm,ps⟩ ⟨com,st,rw,et,qt⟩ q ⟨[],[⟨a0,[(tp,lN,"xml")]⟩],nl,[],[false],false,false,0,ti,none⟩ N) s:=by
 have S1:=S.tell (a:=d) (c':=aB []) (.tail (.tail .head)) λ o _ ho=>⟨_,.nil,ho⟩
 have S2:=S1.tell (a:=tp) (c':=dP (lN,"xml")) (.tail (.tail (.tail (.tail (.tail (.tail (.tail (.tail .head)))))))) λ o _ ho=>⟨_,_,ho⟩
 refine S2.perm ?_;exact .refl _
theorem mkWnE{p:Addr×Cell}{x dx d dns ns pm ps a0 tp q e:Addr}{tu tx ti:Tok}{nl:List Lv}{com st rw:Bool}{et qt:Value}(S:Sta W G env loc ((ps,aA [.bool false])::(pm,IsD W pm [])::(e,aA [])::(ns,aA (aG nl++[.ref e]))::(dns,aA [.ref a0])::(a0,aA [.ref tp])::(tp,aJ [.str lN tu,.str "xml" tx])::(d,aA [])::p::(x,bD 143 dx)::(dx,aN (VV (.ref q) (.ref d) (.bool com) (.bool st) .none et (.bool rw) qt .none (.ref dns) (.ref ns) (.ref pm) (.ref ps) .none (.bool false) (.bool false) (.int 0 ti)))::(aT nl++N)) s):Sta W G env loc (aC W ⟨x,dx,d,dns,ns,pm,ps⟩ ⟨com,st,rw,et,qt⟩ q ⟨[],[⟨a0,[(tp,lN,"xml")]⟩],nl++[⟨e,[]⟩],[],[false],false,false,0,ti,none⟩ (p::N)) s:=by
 refine mkWn (nl:=nl++[⟨e,[]⟩]) (tu:=tu) (tx:=tx) (S.perm ?_);have h:aG (nl++[⟨e,[]⟩])=aG nl++[.ref e]:=Aq;rw[h,bO];show List.Perm _ ((x,bD 143 dx)::(dx,aN _)::(d,aA [])::(dns,aA [.ref a0])::(ns,aA (aG nl++[.ref e]))::(pm,IsD W pm [])::(ps,aA [.bool false])::(a0,aA [.ref tp])::(tp,aJ [.str lN tu,.str "xml" tx])::((aT nl++((e,aA [])::[]))++(p::N)));walk_at "perm"
theorem toEnd{li vw ns:Addr}{X:Cell}{lps:List (Addr×NsP)}{e1 e2 e3 e4 e5 e6 e7:Addr×Cell}(S:Sta W G env loc ((li,aA (aF lps))::(vw,X)::(ns,aA ([]++[.ref li]))::e1::e2::e3::e4::e5::e6::e7::(N++aK lps)) s):Sta W G env loc ((ns,aA (aG [⟨li,lps⟩]))::e1::e2::e3::e4::e5::e6::e7::(aT [⟨li,lps⟩]++N)) s:=by
 refine S.sel (Sel.rest [(vw,X)] ?_);show List.Perm _ (((ns,aA ([]++[.ref li]))::e1::e2::e3::e4::e5::e6::e7::(((li,aA (aF lps))::(aK lps++[]))++N))++[(vw,X)]);walk_at "perm"
theorem offP{p:Addr×Cell}{c:Wc}{m:Wm}(S:Sta W G env loc (aC W w c q m (p::N)) s):Sta W G env loc (p::aC W w c q m N) s:=by
 refine S.perm ?_;walk_at "perm"
noncomputable abbrev halfV(q d dns ns xt qt:Addr)(com st rw:Bool):Loc:=[("_write",some (.ref q)),("_data",some (.ref d)),("_with_comments",some (.bool com)),("_strip_text",some (.bool st)),("_exclude_attrs",some .none),("_exclude_tags",some (.ref xt)),("_rewrite_prefixes",some (.bool rw)),("_qname_aware_tags",some (.ref qt)),("_find_qname_aware_attrs",some .none),("_declared_ns_stack",some (.ref dns)),("_ns_stack",some (.ref ns)),("_prefix_map",none),("_preserve_space",none),("_pending_start",none),("_root_seen",none),("_root_done",none),("_ignored_depth",none)]
noncomputable abbrev locI(x q xl ql:Addr)(com st rw:Bool):Loc:=[("self",some (.ref x)),("write",some (.ref q)),("with_comments",some (.bool com)),("strip_text",some (.bool st)),("rewrite_prefixes",some (.bool rw)),("qname_aware_tags",some (.ref ql)),("qname_aware_attrs",some .none),("exclude_attrs",some .none),("exclude_tags",some (.ref xl))]
theorem tE{p:Addr×Cell}{x dx q d dns a0 tp ns L xt xl qt ql:Addr}{tu tx:Tok}{nl:List Lv}{com st rw:Bool}{Q:Flow->Ac->Prop}(I:IsC W)(hn:nl.length<=1)(S':Sta W G (aCr L) (locI x q xl ql com st rw) ((ns,aA (aG nl))::(dns,aA [.ref a0])::(a0,aA [.ref tp])::(tp,aJ [.str lN tu,.str "xml" tx])::(d,aA [])::p::(x,bD 143 dx)::(dx,aN (halfV q d dns ns xt qt com st rw))::(aT nl++N)) s)(k:∀ e pm ps ti s',Sta W G (aCr L) (locI x q xl ql com st rw) (aC W ⟨x,dx,d,dns,ns,pm,ps⟩ ⟨com,st,rw,.ref xt,.ref qt⟩ q ⟨[],[⟨a0,[(tp,lN,"xml")]⟩],nl++[⟨e,[]⟩],[],[false],false,false,0,ti,none⟩ (p::N)) s'->Q .next s'):Ad W.M A (execs ((aE mB).drop 12) (aCr L)) Q E s:=by
 have hcl:=I.cl;have hz:(aG nl).length<16777216:=by rw[show(aG nl).length=nl.length from Ai ..];walk_at "o"
 repeat walk_at "sv"
 exact k _ _ _ _ _ (mkWnE S')
theorem tG{a0 tp:Addr}{nl:List Lv}{ti:Tok}{rw:Bool}(h:nl.map Lv.val=(dW rw).nss):IFr ⟨[],[⟨a0,[(tp,lN,"xml")]⟩],nl,[],[false],false,false,0,ti,none⟩ rw:=by
 refine⟨rfl,?_,rfl,rfl,rfl,rfl,rfl⟩;unfold bB;rw[h]
 rfl
theorem aDJ{e1 e2 e3 e4:Addr×Cell}{l:Addr}{vs:List Value}{ss:List Str}{Q:Value->Ac->Prop}(S:Sta W G env loc (e1::e2::e3::e4::(l,aA vs)::N) s)(hA:Aok 14 A)(ht:TxA vs ss)(hb:ss.length+1<Bt)(h:∀ a s',Sta W G env loc (e1::e2::e3::e4::(a,aS W (sE (λ _=>false) ss) (xX (λ _=>false) 0 ss))::N) s'->Q (.ref a) s'):Ad W.M A (call (.type "set") [.ref l]) Q E s:=
 Sta.setOfList (S.perm (nw':=(l,aA vs)::e1::e2::e3::e4::N) (by walk_at "perm")) hA ht hb λ a s' S'=>h a s' (S'.sel (Sel.rest [(l,aA vs)] (by walk_at "perm")))
theorem aDI{e1 e2 e3 e4 e5:Addr×Cell}{l:Addr}{vs:List Value}{ss:List Str}{Q:Value->Ac->Prop}(S:Sta W G env loc (e1::e2::e3::e4::e5::(l,aA vs)::N) s)(hA:Aok 14 A)(ht:TxA vs ss)(hb:ss.length+1<Bt)(h:∀ a s',Sta W G env loc (e1::e2::e3::e4::e5::(a,aS W (sE (λ _=>false) ss) (xX (λ _=>false) 0 ss))::N) s'->Q (.ref a) s'):Ad W.M A (call (.type "set") [.ref l]) Q E s:=
 Sta.setOfList (S.perm (nw':=(l,aA vs)::e1::e2::e3::e4::e5::N) (by walk_at "perm")) hA ht hb λ a s' S'=>h a s' (S'.sel (Sel.rest [(l,aA vs)] (by walk_at "perm")))
noncomputable def Tx:Str->Bool:=sE (λ _=>false) ["x"]
noncomputable def Tt:Str->Bool:=sE (λ _=>false) ["t"]
theorem aEq{x dx q xl ql:Addr}{com st rw:Bool}{vs us:List Value}{R:Result->Ac->Prop}(I:IsC W)(S:Sta W G env loc ((x,bD 143 dx)::(dx,aN (sfN.map λ k=>(k,none)))::(xl,aA vs)::(ql,aA us)::N) s)(ht:TxA vs ["x"])(hu:TxA us ["t"])(hA:Aok 16 A)(h:∀ w xt qt m s',w.x=x->IFr m rw->Sta W G env loc (aC W w ⟨com,st,rw,.ref xt,.ref qt⟩ q m ((xt,aS W Tx 1)::(qt,aS W Tt 1)::N)) s'->R (.ok (.ret .none)) s'):codeAny W.M A (.call (.ref 60) ⟨[.ref x,.ref q],[("with_comments",.bool com),("strip_text",.bool st),("rewrite_prefixes",.bool rw),("qname_aware_tags",.ref ql),("exclude_tags",.ref xl)]⟩) R s:=by
 refine S.code_fn (binds:=[("self",.ref x),("write",.ref q),("with_comments",.bool com),("strip_text",.bool st),("rewrite_prefixes",.bool rw),("qname_aware_tags",.ref ql),("qname_aware_attrs",.none),("exclude_attrs",.none),("exclude_tags",.ref xl)]) [] I.f_init hA.room ?_ (by kernel_rfl) ?_
 ·intro name doc pm ct an;exact kp_binds S.kin λ S=>by rw[I.k];kernel_rfl
 intro L s' S';have hA':=hA.deeper (env:=aCr L);walk_at "zd";have hcl:=I.cl;have hmap:=I.mapAt S.ok;have hvl:vs.length<=AC:=by rw[ht.length,Aw];simp
 have hul:us.length<=AC:=by rw[hu.length,Aw];simp
 have hve:(!vs.isEmpty)=true:=by cases ht with
  | cons a r=>rfl
 have hue:(!us.isEmpty)=true:=by cases hu with
  | cons a r=>rfl
 refine AH ?_
 repeat walk_at "sv"
 rw[hve]
 repeat walk_at "sv"
 refine Sta.builtin S' I.b_set rL (by kernel_rfl) ?_
 repeat walk_at "sv"
 refine aDJ S' (hA'.le (by first | decide | walk_at "o")) ht (by decide) ?_;clear S';intro xt s' S';replace S':Sta W _ _ _ (_::_::_::_::(xt,aS W Tx 1)::_) s':=S'
 repeat walk_at "sv"
 rw[hue]
 repeat walk_at "sv"
 refine Sta.builtin S' I.b_set rL (by kernel_rfl) ?_
 repeat walk_at "sv"
 refine aDI S' (hA'.le (by first | decide | walk_at "o")) hu (by decide) ?_;clear S';intro qt s' S';replace S':Sta W _ _ _ (_::_::_::_::_::(qt,aS W Tt 1)::_) s':=S'
 repeat walk_at "sv"
 induction rw with
 | true=>
  refine cP ?_;walk_at "kn";exact tE (nl:=[]) (N:=(xt,aS W Tx 1)::(qt,aS W Tt 1)::N) I (AE _) S' λ e pm ps ti s' S2=>h _ xt qt _ s' rfl (tG rfl) (Sta.back (offP S2) S.eok)
 | false=>
  repeat walk_at "sv"
  refine Sta.listItemsT S' hA'.handled hmap (by walk_at "mem") (by show 7<=1000;decide) ?_;clear S';intro li lps s' hlv S';simp only[Av]at S'
  iterate 3 walk_at "sv"
  walk_at "kn";refine tE (nl:=[⟨li,lps⟩]) (N:=(xt,aS W Tx 1)::(qt,aS W Tt 1)::N) I (AN _) (toEnd S') ?_;intro e pm ps ti s' S2;refine h _ xt qt _ s' rfl (tG ?_) (Sta.back (offP S2) S.eok);show[lps.map (·.2),[]]=_;rw[hlv]
  rfl
theorem aEh{xl ql q:Addr}{com st rw:Bool}{vs us:List Value}{Q:Value->Ac->Prop}(I:IsC W)(S:Sta W G env loc ((xl,aA vs)::(ql,aA us)::N) s)(ht:TxA vs ["x"])(hu:TxA us ["t"])(hA:Aok 17 A)(h:∀ w xt qt m s',IFr m rw->Sta W G env loc (aC W w ⟨com,st,rw,.ref xt,.ref qt⟩ q m ((xt,aS W Tx 1)::(qt,aS W Tt 1)::N)) s'->Q (.ref w.x) s'):Ad W.M A (call (.ref 143) [.ref q] [("with_comments",.bool com),("strip_text",.bool st),("rewrite_prefixes",.bool rw),("qname_aware_tags",.ref ql),("exclude_tags",.ref xl)]) Q E s:=by
 refine Sta.make (fI:=60) sfN S (by decide +kernel) (by rw[I.k];kernel_rfl) (by rw[I.k];kernel_rfl) (by rw[I.k];kernel_rfl) ?_;intro x dx s' S';refine aEq I S' ht hu (aBe hA) ?_;intro w xt qt m s' hw hm S2;subst hw;exact⟨rfl,h w xt qt m _ hm S2⟩
end
section
local macro_rules | `(tactic| walk_at $s:str) => Mine.goAt Mine.tabD s
noncomputable def iG(t0 t1 t2 t3:Tok):List (Str×Value):=[("&",.str "&amp;" t0),("<",.str "&lt;" t1),(">",.str "&gt;" t2),("\r",.str "&#xD;" t3)]
noncomputable def sp1(c:Nat):Str:=⟨(fC c).toArray⟩
theorem qP{c d:Nat}{x:Str}(hx:x=⟨#[d]⟩)(h:c≠d):(⟨#[c]⟩:Str)≠x:=by
 rintro rfl
 have:=congrArg (λ y:Str=>y.cps.toList) hx;simp at this;exact h this
theorem aDH{t0 t1 t2 t3 ts:Tok}{c:Nat}:∃ t,(valueAt (iG t0 t1 t2 t3) ⟨#[c]⟩).getD (.str ⟨#[c]⟩ ts)=.str (sp1 c) t:=by
 by_cases h0:c=38
 ·subst h0;exact⟨t0,by kernel_rfl⟩
 by_cases h1:c=60
 ·subst h1;exact⟨t1,by kernel_rfl⟩
 by_cases h2:c=62
 ·subst h2;exact⟨t2,by kernel_rfl⟩
 by_cases h3:c=13
 ·subst h3;exact⟨t3,by kernel_rfl⟩
 have hn:valueAt (iG t0 t1 t2 t3) ⟨#[c]⟩=none:=by
  refine pZ ?_;simp only[iG,An,AF,Ax,Bx,or_false,not_or]
  exact⟨qP (d:=38) (by kernel_rfl) h0,qP (d:=60) (by kernel_rfl) h1,qP (d:=62) (by kernel_rfl) h2,qP (d:=13) (by kernel_rfl) h3⟩
 refine⟨ts,?_⟩;rw[hn];unfold sp1 fC;rw[if_neg h0,if_neg h1,if_neg h2,if_neg h3]
 rfl
theorem sg_nd(t0 t1 t2 t3:Tok):((iG t0 t1 t2 t3).map (·.1)).Nodup:=by
 show(["&","<",">","\r"]:List Str).Nodup
 decide +kernel
theorem aCy:∀ cs:List Nat,(cat (cs.map sp1)).cps.toList=cs.flatMap fC:=by
 intro l0
 induction l0 with
 | nil=>
  exact rfl
 | cons c r ih=>
  show(sp1 c++cat (r.map sp1)).cps.toList=_;rw[Str.cps_append,Array.toList_append,ih]
  rfl
theorem aA7(x:Str):cat (x.cps.toList.map sp1)=dS x:=Str.ext' (aCy _)
noncomputable def aBF:Stmt->Expr
 | .Return (some (.Call _ [c] _ _)) _=>c
 | _=>.Name "" default
noncomputable abbrev pT(L:Addr):Env:=envOfC "_law_spelled" (aD cS) L 166 (.ref 165)
theorem Sta.dictGetD{d:Addr}{kvs:List (Str×Value)}{x:Str}{t:Tok}{v:Value}{Q:Value->Ac->Prop}(S:Sta W G env loc nw s)(m:(d,IsD W d kvs)∈nw)(h:∀ s',Sta W G env loc nw s'->Q ((valueAt kvs x).getD v) s'):Ad W.M A (call (.builtin "dict.get") [.ref d,.str x t,v]) Q E s:=by
 obtain⟨hd,hn⟩:=S.dictAt m;exact call_meetsIn F.slot_dict_get hd.typeIs F.entry_dict_get (F.args_dict_get_3 _ _ _) (meets_dict_get_default (PySem.strKind W.prog W.w) d (strKind_is _ _ x t) hn v) ⟨_,hd.mapOf,h _ (S.toks _)⟩
theorem sp_{L c1 d:Addr}{x:Str}{t u0 u1 u2 u3:Tok}{Q:Value->Ac->Prop}(I:IsC W)(hA:Aok 12 A)(hx:x.length<=1000000)(h1:ClO (pT L) .cell "table" c1)(mx:(("text":Str),some (Value.str x t))∈loc)(S':Sta W G (pT L) loc ((d,IsD W d (iG u0 u1 u2 u3))::(c1,aU (some (.ref d)))::N) s)(k:∀ b s',Sta W G (pT L) loc ((b,aB (x.cps.toList.map sp1))::(d,IsD W d (iG u0 u1 u2 u3))::(c1,aU (some (.ref d)))::N) s'->Q (.ref b) s')(e:Expr)(he:e=aBF ((aE cS).getD 1 (.Pass default))):Ad W.M A (eval e (pT L)) Q E s:=by
 subst he;refine nM (cl:=[("table",c1)]) ["sign"] (lK (by kernel_rfl) h1) (by kernel_rfl) rfl rfl ?_ (by intro _;kernel_rfl);refine S'.local_ mx ?_;refine S'.iterStr ?_;clear S';intro it ty s' hty S';refine CompK.mk S' ?_;intro b Cc s1 eok S1;refine eW rfl rfl (aAf hty) (S1.get (.tail _ (.tail _ (.head _)))) ?_;generalize hfr:((pT L).locals,aL loc)=fr at S1;have S2:=(S1.tell (c':=aB []) .head λ o _ ho=>⟨_,.nil,ho⟩).perm (nw':=((b,aB [])::fr::(d,IsD W d (iG u0 u1 u2 u3))::(c1,aU (some (.ref d)))::N)++([]++[(it,dB ty x t 0)])) (by walk_at "perm");clear S' S1;refine wZ (sh:=[]) (f:=λ(c:Nat) t=>.str ⟨#[c]⟩ t) (hA.le (by decide)) (G:=G) (og:=[]) (own:=[(it,dB ty x t 0)]) (λ(vk:Option Value) _=>[("sign",vk)]) (λ _ dn=>(b,aB (dn.map sp1))::fr::(d,IsD W d (iG u0 u1 u2 u3))::(c1,aU (some (.ref d)))::N) (λ _ _=>True) (compTurn_list1 ..) (uA hty _ 0 rfl) none trivial (by rw[Am];exact S2) ?_ ?_
 rotate_left
 ·intro c dn rest t1 tl tg vk s1 K hq _ S1 kk;have hdl:(dn.map sp1).length<=AC:=by
   have h2:=congrArg A8 hq;rw[List.drop_zero,←Str.len_list,Ag]at h2;rw[Ai,Aw];walk_at "o"
  refine wpAny_assign_Name (S1.store (by walk_at "put") λ s' S'=>?_);clear S1 S2;simp only[Av]at S';refine Aa ?_;refine jF ?_ (by kernel_rfl) (by kernel_rfl) (by kernel_rfl);refine Sta.cell S' ⟨by kernel_rfl,rfl,by decide +kernel,by decide +kernel⟩ (c:=c1) (by walk_at "mem") ?_;refine Sta.getM_D S' (by walk_at "mem") F.slot_dict_get F.type_dict_get ?_;refine cR ?_ (by kernel_rfl) (by kernel_rfl);walk_at "c";refine Sta.dictGetD S' (by walk_at "mem") ?_;clear S';intro s' S';obtain⟨t2,hg⟩:=aDH (t0:=u0) (t1:=u1) (t2:=u2) (t3:=u3) (ts:=t1) (c:=c);rw[hg];refine Aa (Sta.appendT S' (by walk_at "upd") hdl λ s' S'=>Ae ?_);refine kk _ s' trivial (S'.perm ?_);rw[Aq];exact List.Perm.refl _
 ·intro vk s1 _ S1;rw[Am]at S1;subst hfr;exact CompEnd.mk (S1.perm (List.Perm.swap ..)) λ s3 S3=>k b s3 S3
theorem aDG{x:Str}{t:Tok}{Q:Value->Ac->Prop}(I:IsC W)(hA:Aok 14 A)(hx:x.length<=1000000)(S:Sta W G env loc N s)(k:∀ t' s',Sta W G env loc N s'->Q (.str (dS x) t') s'):Ad W.M A (call (.ref 166) [.str x t]) Q E s:=by
 refine S.call_fnC (binds:=[("text",.str x t)]) [("text",.str x t)] [] [none] I.f_l_spelled hA.room (λ _ _ _ _ _=>BindsTo.of_eq (by kernel_rfl)) (by kernel_rfl) (by kernel_rfl) (by kernel_rfl) ?_;intro L cs s' hcs S';generalize hst:aE cS=st;have hnm:aO (aD cS).names=(["table"]:List Str):=by kernel_rfl
 rw[hnm]at hcs;obtain⟨c1,rfl,h1⟩:=hcs.one;have hA':=hA.deeper (env:=pT L);simp only[aW,An,AF,Av,Ay,gF,gV]at S';refine aM ?_;subst hst;walk_at "c";refine DLit.mk (iG _ _ _ _) S' (by exact⟨strKind_is _ _ _ _,rfl,strKind_is _ _ _ _,rfl,strKind_is _ _ _ _,rfl,strKind_is _ _ _ _,rfl,trivial⟩) (sg_nd _ _ _ _) (Ar rfl) .head ?_;clear S';intro s' S';refine Sta.storeC S' h1 (by walk_at "upd") ?_;clear S';intro s' S';walk_at "c";refine iZ ?_;refine cR ?_ (by kernel_rfl) (by kernel_rfl);refine eR ?_ (by kernel_rfl);refine sp_ (x:=x) (t:=t) (d:=d') (c1:=c1) (N:=(env.locals,aL loc)::N) I (hA'.le (by decide)) hx h1 (by walk_at "mem") (S'.perm (by walk_at "zg";walk_at "perm")) ?_ _ rfl;clear S';intro b s' S';refine args_nil ?_;have hl:=dM x;refine Sta.joinT S' (.head _) (by kernel_rfl) (by rw[aA7];walk_at "o") ?_;clear S';intro t3 s' S';rw[aA7];walk_at "ke";exact k _ s' (Sta.back (S'.sel (Sel.rest [(b,aB (x.cps.toList.map sp1)),(d',IsD W d' (iG _ _ _ _)),(c1,aU (some (.ref d')))] (by walk_at "perm"))) S.eok)
section
local macro_rules | `(tactic| walk_at $s:str) => Mine.goAt Mine.tabF s
section
local macro_rules | `(tactic| walk_at $s:str) => Mine.goAt Mine.tabG s
set_option hygiene false in
local macro_rules | `(tactic| walk_at "iK") => `(tactic| intro Kq hKn hKr)
theorem jU(y:Int)(n:Nat)(h:0<n):∃ j:Nat,y.fmod (n:Int)=(j:Int)/\j<n:=by
 exact aCe y n h
noncomputable def pcs:List Str:=["a","&","<",">","\r"," ","?>","\n","\"","&lt;","b"]
noncomputable def NoBr(x:Str):Prop:=125∉x.cps.toList
noncomputable def fU(x:Str):Prop:=0<x.length/\x.length<=8/\NoBr x
theorem NoBr.append{x y:Str}(h:NoBr x)(k:NoBr y):NoBr (x++y):=λ m=>by
 rw[show(x++y).cps.toList=x.cps.toList++y.cps.toList from Array.toList_append]at m;exact(AD.mp m).elim h k
theorem wR:∀ x∈pcs,0<x.length/\x.length<=4:=by decide +kernel
theorem aD7:∀ x∈pcs,NoBr x:=by
 have h:(pcs.all λ x=>!x.cps.toList.contains 125)=true:=by decide +kernel
 intro x hx m;have:=Bq.mp h x hx;simp only[Bs,List.contains_eq_mem,decide_eq_false_iff_not]at this;exact this m
theorem aAy(y:Int):∃(j:Nat) (x:Str),y.fmod 11=(j:Int)/\j<11/\pcs[j]?=some x/\0<x.length/\x.length<=4/\NoBr x:=by
 obtain⟨j,hj,hl⟩:=jU y 11 (by decide);have hl2:j<pcs.length:=hl;exact⟨j,pcs[j],hj,hl,List.getElem?_eq_getElem hl2,(wR _ (Bd hl2)).1,(wR _ (Bd hl2)).2,aD7 _ (Bd hl2)⟩
noncomputable abbrev aA3(L:Addr):Env:=envOf "_law_text" (aD fP) L 173 (.ref 172)
theorem aB1{L:Addr}{i j:Nat}{x z:Str}{y:Int}{t:Tok}{Q:Flow->Ac->Prop}(I:IsC W)(hA:Aok 5 A)(hi:y.fmod 11=(i:Int))(hi2:i<11)(hx:pcs[i]?=some x)(hj:(y.fdiv 11).fmod 11=(j:Int))(hj2:j<11)(hz:pcs[j]?=some z)(hl:(x++z).length<=8)(S':Sta W G (aA3 L) [("y",some (.int y t)),("pieces",none)] N s)(k:∀ a t' s',Sta W G (aA3 L) [("y",some (.int y t)),("pieces",some (.ref a))] ((a,aB pcs)::N) s'->Q (.ret (.str (x++z) t')) s'):∀ st:List Stmt,st=(aE fP).drop 0->Ad W.M A (execs st (aA3 L)) Q E s:=by
 intro st hst;subst hst;have hlz:x.length+z.length<=AC:=by rw[←Str.length_append,Aw];walk_at "o"
 walk_at "c";replace S':=S'.tell (a:=a') (c':=aB pcs) .head λ o _ ho=>ho;rw[hi];refine Sta.subT S' (j:=i) (by walk_at "mem") rfl (by walk_at "o") hx ?_;intro t1;walk_at "c";rw[hj];refine Sta.subT S' (j:=j) (by walk_at "mem") rfl (by walk_at "o") hz ?_;intro t2;refine Sta.addS S' hlz ?_;clear S';intro t3 s' S';exact hKr _ _ (k _ _ s' S')
theorem nI{y:Int}{t:Tok}{Q:Value->Ac->Prop}(I:IsC W)(hA:Aok 6 A)(S:Sta W G env loc N s)(k:∀ x t' s',fU x->Sta W G env loc N s'->Q (.str x t') s'):Ad W.M A (call (.ref 173) [.int y t]) Q E s:=by
 obtain⟨i,x,hi,hi2,hx,h1,h2,b1⟩:=aAy y;obtain⟨j,z,hj,hj2,hz,h3,h4,b2⟩:=aAy (y.fdiv 11);have hl:(x++z).length=x.length+z.length:=Str.length_append ..;refine S.call_fn (binds:=[("y",.int y t)]) ["pieces"] I.f_l_text hA.room (λ _ _ _ _ _=>BindsTo.of_eq (by kernel_rfl)) (by kernel_rfl) ?_;intro L s' S';refine aM ?_;generalize hst:Bv 0 (aE fP)=st;exact aB1 I (hA.deeper (k:=5)) hi hi2 hx hj hj2 hz (by walk_at "o") S' (λ a t' s' S2=>k _ _ s' ⟨by walk_at "o",by walk_at "o",b1.append b2⟩ (Sta.back (S2.sub (AZ ..)) S.eok)) st hst.symm
set_option genCtorIdx true in
inductive Cal
 | ns (p u:Str)
 | start (x:Str) (j:Nat)
 | fin (x:Str)
 | pi (o:Option Str)
 | co (x:Str)
 | txt (x:Str)
noncomputable def bH(d:Addr):Cal->Cell
 | .ns p u=>λ o=>∃ t0 t1 t2,aJ [.str "ns" t0,.str p t1,.str u t2] o
 | .start x j=>λ o=>∃ t0 t1,aJ [.str "start" t0,.str x t1,.ref d] o
 | .fin x=>λ o=>∃ t0 t1,aJ [.str "end" t0,.str x t1] o
 | .pi a=>λ o=>∃ t0 v,PiArg v a/\aJ [.str "pi" t0,v] o
 | .co x=>λ o=>∃ t0 t1,aJ [.str "comment" t0,.str x t1] o
 | .txt x=>λ o=>∃ t0 t1,aJ [.str "text" t0,.str x t1] o
structure CA where
 a:Addr
 c:Cal
 d:Addr
 l:List (Str×Str×Tok)
noncomputable def CA.led(W:Wd)(r:CA):Lg:=(r.a,bH r.d r.c)::(match r.c with | .start _ _=>[(r.d,IsD W r.d (atV r.l))] | _=>[])
noncomputable def aI(W:Wd)(cs:List CA):Lg:=cs.flatMap (CA.led W)
noncomputable def aX(cs:List CA):List Value:=cs.map λ r=>.ref r.a
noncomputable def fQ:Nat->List NsP
 | 0=>[]
 | 1=>[("k","<\"")]
 | 2=>[("{urn:a}k","&"),("k","\t")]
 | 3=>[(spaceK,"preserve")]
 | _=>[(spaceK,"default"),("{urn:b}k","")]
theorem cX(W:Wd)(a b:List CA):aI W (a++b)=aI W a++aI W b:=List.flatMap_append
theorem fO(a b:List CA):aX (a++b)=aX a++aX b:=Aq
noncomputable def aEP:Option Str->Prop
 | none=>True
 | some x=>fU x
noncomputable def fD:Cal->Prop
 | .txt x=>fU x
 | .co x=>fU x
 | .pi o=>aEP o
 | _=>False
theorem PiArg.of{x:Str}(t:Tok)(h:fU x):PiArg (.str x t) (some x):=.txt x t (by have:=h.1;walk_at "o") (by have:=h.2.1;unfold txL;walk_at "o")
noncomputable abbrev envOu(L:Addr):Env:=envOf "_law_outside" (aD gB) L 194 (.ref 193)
noncomputable abbrev envOd(L:Addr):Env:=envOf "_law_order" (aD iO) L 180 (.ref 179)
noncomputable def v4(x:Str)(t0 t1 t2:Tok):Nat->Value
 | 0=>.none
 | 1=>.str "" t0
 | 2=>.int 0 t1
 | _=>.str x t2
noncomputable def o4(x:Str):Nat->Option Str
 | 0=>none
 | 1=>none
 | 2=>none
 | _=>some x
theorem v4_at{x:Str}{t0 t1 t2:Tok}(h:fU x){i:Nat}(hi:i<4):([.none,.str "" t0,.int 0 t1,.str x t2]:List Value)[i]?=some (v4 x t0 t1 t2 i)/\PiArg (v4 x t0 t1 t2 i) (o4 x i)/\aEP (o4 x i):=by
 rcases(show i=0\/i=1\/i=2\/i=3 by walk_at "o")with rfl | rfl | rfl | rfl
 ·exact⟨rfl,.none,trivial⟩
 ·exact⟨rfl,.emp _,trivial⟩
 ·exact⟨rfl,.zero _,trivial⟩
 ·exact⟨rfl,.of _ h,h⟩
theorem uX{y:Int}{t:Tok}{Q:Value->Ac->Prop}(I:IsC W)(hA:Aok 8 A)(S:Sta W G env loc N s)(k:∀ tp o s',aEP o->Sta W G env loc ((tp,bH 0 (.pi o))::N) s'->Q (.ref tp) s'):Ad W.M A (call (.ref 180) [.int y t]) Q E s:=by
 refine S.call_fnV envOd (binds:=[("y",.int y t)]) [] I.f_l_order hA (λ _ _ _ _ _=>BindsTo.of_eq (by kernel_rfl)) (by kernel_rfl) ?_;intro L A' s' hA' S';simp only[aW,An,AF,Av,Ay]at S';refine aM ?_;walk_at "c";refine Sta.global S' I.g_l_text (by kernel_rfl) ?_;refine gC (by rw[I.k];kernel_rfl) ?_ (by kernel_rfl) (by kernel_rfl);walk_at "c";refine nI I (hA'.le (by decide)) S' ?_;clear S';intro x t1 s' hx S';walk_at "c";obtain⟨i,hi,hi4⟩:=jU y 4 (by decide);rw[show((4:Nat):Int)=4 from rfl]at hi;rw[hi];obtain⟨hv,hp,ho⟩:=v4_at (t0:=_) (t1:=_) (t2:=t1) hx hi4;refine Sta.sub_list S' (.head _) (by walk_at "o") (by walk_at "o") (by rw[BM];exact hv) ?_;revert a';intro ll S';walk_at "c";exact k _ (o4 x i) s' ho ((Sta.back (S'.sel (Sel.rest [(ll,aA [.none,.str "" _,.int 0 _,.str x t1])] (by walk_at "perm"))) S.eok).tell .head λ o _ h=>⟨_,_,hp,h⟩)
theorem aAA{x:Int}{t:Tok}{Q:Value->Ac->Prop}(I:IsC W)(hA:Aok 10 A)(S:Sta W G env loc N s)(k:∀ tp d c s',fD c->Sta W G env loc ((tp,bH d c)::N) s'->Q (.ref tp) s'):Ad W.M A (call (.ref 194) [.int x t]) Q E s:=by
 refine S.call_fnV envOu (binds:=[("x",.int x t)]) [] I.f_l_outside hA (λ _ _ _ _ _=>BindsTo.of_eq (by kernel_rfl)) (by kernel_rfl) ?_;intro L A' s' hA' S';simp only[aW,An,AF,Av,Ay]at S';refine aM ?_;walk_at "c";refine dL (λ _=>?_) (λ _=>?_)
 ·walk_at "c";refine Sta.global S' I.g_l_order (by kernel_rfl) ?_;refine gC (by rw[I.k];kernel_rfl) ?_ (by kernel_rfl) (by kernel_rfl);walk_at "c";refine uX I (hA'.le (by decide)) S' ?_;clear S';intro tp o s' ho S';walk_at "c";exact k _ 0 (.pi o) s' ho (Sta.back (S'.perm (List.Perm.swap ..)) S.eok)
 ·walk_at "c";refine dL (λ _=>?_) (λ _=>?_)
  ·walk_at "c";refine Sta.global S' I.g_l_text (by kernel_rfl) ?_;refine gC (by rw[I.k];kernel_rfl) ?_ (by kernel_rfl) (by kernel_rfl);walk_at "c";refine nI I (hA'.le (by decide)) S' ?_;clear S';intro x t1 s' h1 S';walk_at "c";exact k _ 0 (.co x) s' h1 ((Sta.back (S'.perm (List.Perm.swap ..)) S.eok).tell .head λ o _ ho=>⟨_,_,ho⟩)
  ·walk_at "c";refine Sta.global S' I.g_l_text (by kernel_rfl) ?_;refine gC (by rw[I.k];kernel_rfl) ?_ (by kernel_rfl) (by kernel_rfl);walk_at "c";refine nI I (hA'.le (by decide)) S' ?_;clear S';intro x t1 s' h1 S';walk_at "c";exact k _ 0 (.txt x) s' h1 ((Sta.back (S'.perm (List.Perm.swap ..)) S.eok).tell .head λ o _ ho=>⟨_,_,ho⟩)
theorem Sta.pushCal{cl tp:Addr}{cs:List CA}{c:Cal}{d:Addr}{l:List (Str×Str×Tok)}{C:Cell}{Q:Value->Ac->Prop}(hz:cs.length<=1000)(hC:∀ o,C o->bH d c o)(hn:∀ x j,c≠.start x j)(S:Sta W G env loc ((tp,C)::(cl,aA (aX cs))::(aI W cs++N)) s)(h:∀ s',Sta W G env loc ((cl,aA (aX (cs++[⟨tp,c,d,l⟩])))::(aI W (cs++[⟨tp,c,d,l⟩])++N)) s'->Q .none s'):Ad W.M A (call (.builtin "list.append") [.ref cl,.ref tp]) Q E s:=by
 have S1:=(S.tell (c':=bH d c) .head λ o _ ho=>hC o ho).perm (List.Perm.swap ..);refine S1.append .head (by rw[Aw];simp[aX];walk_at "o") λ s' S2=>h s' (S2.perm ?_);have e:aI W [⟨tp,c,d,l⟩]=[(tp,bH d c)]:=by
  unfold aI CA.led
  induction c with
  | start x j=>exact absurd rfl (hn x j)
  | _=>rfl
 rw[fO,cX,e];show List.Perm ((cl,aA (aX cs++[.ref tp]))::(tp,bH d c)::(aI W cs++N)) ((cl,aA (aX cs++[.ref tp]))::((aI W cs++[(tp,bH d c)])++N));walk_at "perm"
theorem kY{W:Wd}{sh:Lg}{it:Addr}{vs:List Value}{ns:List Int}{own:Lg}{og:Gens}(h:IntsAre vs ns):cE W sh it vs own og->YdR W sh it (λ(i:Int) v=>∃ t,v=.int i t) ns own og:=by
 induction h generalizing own og with
 | nil=>exact λ H=>H
 | cons n t h ih=>exact λ H=>⟨H.1,λ A R GR s Q E hA S hQ=>H.2 A R GR s Q E hA S λ own' og' s' S' H'=>hQ _ own' og' s' ⟨t,rfl⟩ S' (ih H')⟩
theorem IntsAre.take{vs:List Value}{ns:List Int}(h:IntsAre vs ns):∀ k,IntsAre (vs.take k) (ns.take k):=by
 induction h with
 | nil=>intro k;rw[List.take_nil,List.take_nil];exact .nil
 | cons n t h ih=>
  intro k
  induction k with
  | zero=>exact .nil
  | succ k=>exact .cons n t (ih k)
theorem IntsAre.drop{vs:List Value}{ns:List Int}(h:IntsAre vs ns):∀ k,IntsAre (vs.drop k) (ns.drop k):=by
 induction h with
 | nil=>intro k;rw[List.drop_nil,List.drop_nil];exact .nil
 | cons n t h ih=>
  intro k
  induction k with
  | zero=>exact .cons n t h
  | succ k=>exact ih k
theorem IntsAre.len{vs:List Value}{ns:List Int}(h:IntsAre vs ns):vs.length=ns.length:=by
 induction h with
 | nil=>rfl
 | cons n t h ih=>rw [AG,AG,ih]
noncomputable abbrev bK(L:Addr):Env:=envOf "_law_calls" (aD bV) L 199 (.ref 198)
theorem Sta.lenB{l:Addr}{xs:List Value}{Q:Value->Ac->Prop}(S:Sta W G env loc nw s)(hB:W.B.IsList l xs.toArray)(hz:xs.length<=1000000)(h:∀ t s',Sta W G env loc nw s'->Q (.int xs.length t) s'):Ad W.M A (call (.builtin "len") [.ref l]) Q E s:=by
 have q:=h (s.toks+1) _ (S.toks (s.toks+1+1));refine len_list (let⟨o,e,r⟩:=hB;⟨o,S.led.keep _ _ e,r⟩) ?_ ?_
 ·simp;walk_at "o"
 ·simpa using q
noncomputable def SliceKB(W:Wd)(env:Env)(Q:Value->Ac->Prop)(o vl vu:Value)(s:Ac):Prop:=
 ∃ G loc nw l xs lo hi,Sta W G env loc nw s/\o=.ref l/\W.B.IsList l xs/\xs.size<=AC/\IsPart vl lo/\IsPart vu hi∧
  ∀ a s',Sta W G env loc ((a,aA (slicePick xs lo hi none).toList)::nw) s'->Q (.ref a) s'
theorem SliceKB.mk{Q:Value->Ac->Prop}{l:Addr}{xs:Array Value}{lo hi:Option Int}{vl vu:Value}(S:Sta W G env loc nw s)(m:W.B.IsList l xs)(hz:xs.size<=AC)(pl:IsPart vl lo)(pu:IsPart vu hi)(k:∀ a s',Sta W G env loc ((a,aA (slicePick xs lo hi none).toList)::nw) s'->Q (.ref a) s'):SliceKB W env Q (.ref l) vl vu s:=⟨G,loc,nw,l,xs,lo,hi,S,rfl,m,hz,pl,pu,k⟩
theorem qG{value:Expr}{lower upper:Option Expr}{p pos:Pos}{Q:Value->Ac->Prop}(h:Ad W.M A (eval value env) (λ o s₁=>Ad W.M A (evalPart lower env) (λ vl s₂=>Ad W.M A (evalPart upper env) (λ vu s₃=>SliceKB W env Q o vl vu s₃) E s₂) E s₁) E s)(ht:∀ o r,letTemporaryGo value o r=pure ():=by intro _ _;rfl):Ad W.M A (eval (.Subscript value (.Slice lower upper none p) pos) env) Q E s:=by
 refine wpAny_Subscript_list_slice (As h (λ o s₁ h₁=>As h₁ (λ vl s₂ h₂=>As h₂ (λ vu s₃ h₃=>?_) λ _ _ e=>e) λ _ _ e=>e) λ _ _ e=>e) ht;obtain⟨G,loc,nw,l,xs,h₃⟩:=h₃;obtain⟨lo,hi,S,rfl,m,h₃⟩:=h₃;obtain⟨hz,pl,pu,q⟩:=h₃;refine⟨l,xs,lo,hi,rfl,(let⟨o,e,r⟩:=m;⟨o,S.led.keep _ _ e,r⟩),hz,pl,pu,?_⟩;have S1:=S.grow (h':=s₃.heap.push { cls:=.type "slice",data:=.fields #[vl,vu,.none] }) (λ _ _ e=>Heap.get?_push_of_some _ e) s₃.toks;have S2:=S1.new (o:={ cls:=.type "list",data:=.seq (slicePick xs lo hi none) }) (c:=aA (slicePick xs lo hi none).toList) rfl ⟨0,rfl⟩ s₃.toks;have e:s₃.heap.objs.size+1=(s₃.heap.push { cls:=.type "slice",data:=.fields #[vl,vu,.none] }).objs.size:=by rw[Heap.size_push]
 rw[e];exact q _ _ S2
theorem aC8{L:Addr}{vs:List Value}{ns:List Int}{iter:Expr}{p1 p2 p3 p4 p5:Pos}{sc:Scope}{Q:Value->Ac->Prop}(I:IsC W)(hA:Aok 14 A)(hi:IntsAre vs ns)(hn:ns.length<=63)(hclos:closureFor sc (bK L)=pure [])(hk:eN sc ["x"]=true)(hkd:∀ Cc,(compEnvC sc [] Cc (bK L)).kindOf "_law_outside"=some .globalImplicit)(hs:∀ x,foldedSetIterable iter (bK L) x=pure x)(S0:Sta W G (bK L) loc N s)(h:∀ Q2:Value->Ac->Prop,(∀ sl s',Sta W G (bK L) loc ((sl,aA vs)::N) s'->Q2 (.ref sl) s')->Ad W.M A (eval iter (bK L)) Q2 E s)(k:∀ b cs s',(∀ r∈cs,fD r.c)->cs.length=ns.length->Sta W G (bK L) loc ((b,aA (aX cs))::(aI W cs++N)) s'->Q (.ref b) s'):Ad W.M A (eval (.ListComp (.Call (.Name "_law_outside" p1) [.Name "x" p2] [] p3) [⟨.Name "x" p4,iter,[],0⟩] sc p5) (bK L)) Q E s:=by
 refine nM (cl:=[]) ["x"] hclos hk rfl rfl (h _ λ sl s' S'=>?_) hs;refine S'.iterL (.head _) ?_;clear S';intro it s' S';refine CompK.mk S' ?_;intro b Cc s1 eok S1;refine eW rfl rfl jH (S1.get (.tail _ (.tail _ (.head _)))) ?_;generalize hfr:((bK L).locals,aL loc)=fr at S1;have S2:=S1.perm (nw':=((b,aA (aX []))::fr::(aI W []++N))++([]++[(it,bG sl 0),(sl,aA vs)])) (by show List.Perm _ (((b,aA [])::fr::N)++([]++[(it,bG sl 0),(sl,aA vs)]));walk_at "perm");clear S' S1;refine wZ (sh:=[]) (f:=λ(i:Int) t=>.int i t) (hA.le (by decide)) (G:=G) (og:=[]) (own:=[(it,bG sl 0),(sl,aA vs)]) (λ(v:List CA×Option Value) _=>[("x",v.2)]) (λ v _=>(b,aA (aX v.1))::fr::(aI W v.1++N)) (λ v dn=>(∀ r∈v.1,fD r.c)/\v.1.length=dn.length) (compTurn_list1 ..) (kY hi (LY.yields (dJ (sh:=[]) (xs:=vs) (own₀:=[(sl,aA vs)]) (.head _) vs 0 rfl))) ([],none) ⟨(λ _ h=>absurd h Bx),rfl⟩ (by rw[Am];exact S2) ?_ ?_
 rotate_left
 ·intro i dn rest t1 tl tg v s1 K hq hH S1 kk;obtain⟨h1,h2⟩:=hH;have hdl:v.1.length<=1000:=by
   have h3:=congrArg A8 hq;rw[Ag]at h3;walk_at "o"
  refine wpAny_assign_Name (S1.store (by walk_at "put") λ s' S'=>?_);clear S1 S2;simp only[Av]at S';refine Aa ?_;refine Call_ ?_ (by kernel_rfl);refine Sta.global S' I.g_l_outside (hkd _) ?_;refine gC (by rw[I.k];kernel_rfl) ?_ (by kernel_rfl) (by kernel_rfl);walk_at "c";refine aAA I (hA.le (by decide)) S' ?_;clear S';intro tp d c s' hc S';have hns:∀ x j,c≠.start x j:=λ x j e=>by subst e;exact hc
  refine Aa (Sta.pushCal (cs:=v.1) (c:=c) (d:=d) (l:=[]) (N:=fr::(N++([]++tl))) hdl (λ o ho=>ho) hns (S'.perm (by walk_at "perm")) λ s' S'=>Ae ?_);refine kk (v.1++[⟨tp,c,d,[]⟩],_) s' ⟨λ r hr=>?_,?_⟩ (S'.perm (by walk_at "perm"))
  ·rcases AD.mp hr with hr | hr
   ·exact h1 r hr
   ·rw[AA]at hr;subst hr;exact hc
  ·show(v.1++[_]).length=(dn++[i]).length;rw[Ag,Ag,h2]
   rfl
 ·intro v s1 hH S1;rw[Am]at S1;subst hfr;exact CompEnd.mk (S1.perm (List.Perm.swap ..)) λ s3 S3=>k b v.1 s3 hH.1 hH.2 S3
noncomputable def nm5:List Str:=["a","{urn:a}a","t","x","{urn:b}b"]
inductive Step:Nat->List Str->Nat->Cal->Nat->List Str->Nat->Prop
 | p:Step 0 [] 0 (.ns "p" "urn:a") 1 [] 0
 | q:Step 1 [] 0 (.ns "q" "urn:b") 2 [] 0
 | ahead {c}:fD c->Step 2 [] 0 c 2 [] 0
 | r:Step 2 [] 0 (.start "{urn:a}a" 0) 3 ["{urn:a}a"] 0
 | start {ns b x j}:b<9->x∈nm5->x≠"t"->j<5->ns≠[]->Step 3 ns b (.start x j) 3 (ns++[x]) (b+1)
 | startT {ns b j}:b<9->j<5->ns≠[]->Step 3 ns b (.start "t" j) 5 (ns++[("t":Str)]) (b+1)
 | t1 {ns b}:ns≠[]->Step 5 ns b (.txt "p:") 6 ns b
 | t2 {ns b}:ns≠[]->Step 6 ns b (.txt "x") 3 ns b
 | fin {ns b x}:ns≠[]->Step 3 (ns++[x]) b (.fin x) 3 ns b
 | mid {ns b c}:fD c->ns≠[]->Step 3 ns b c 3 ns b
 | last {x b}:Step 3 [x] b (.fin x) 4 [] b
 | behind {b c}:fD c->Step 4 [] b c 4 [] b
inductive Chn:Nat->List Str->Nat->List Cal->Nat->List Str->Nat->Prop
 | nil {i ns b}:Chn i ns b [] i ns b
 | cons {i ns b c i1 ns1 b1 r i2 ns2 b2}:Step i ns b c i1 ns1 b1->Chn i1 ns1 b1 r i2 ns2 b2->Chn i ns b (c::r) i2 ns2 b2
theorem Chn.snoc{i i1 i2 b b1 b2:Nat}{ns ns1 ns2:List Str}{cs:List Cal}{c:Cal}(h:Chn i ns b cs i1 ns1 b1):Step i1 ns1 b1 c i2 ns2 b2->Chn i ns b (cs++[c]) i2 ns2 b2:=by
 induction h with
 | nil=>exact λ h2=>.cons h2 .nil
 | cons h1 _ ih=>exact λ h2=>.cons h1 (ih h2)
theorem Chn.append{i i1 i2 b b1 b2:Nat}{ns ns1 ns2:List Str}{cs ds:List Cal}(h:Chn i ns b cs i1 ns1 b1):Chn i1 ns1 b1 ds i2 ns2 b2->Chn i ns b (cs++ds) i2 ns2 b2:=by
 induction h with
 | nil=>exact λ h2=>h2
 | cons h1 _ ih=>exact λ h2=>.cons h1 (ih h2)
theorem Chn.outs{k b0:Nat}{cs:List Cal}{k1 b:Nat}{ns:List Str}(hs:∀ c,fD c->Step k1 ns b c k1 ns b):∀{os:List Cal},(∀ c∈os,fD c)->Chn k [] b0 cs k1 ns b->Chn k [] b0 (cs++os) k1 ns b
 | [],_,h=>by rw[Am];exact h
 | c::os,ho,h=>by
  rw[show cs++c::os=(cs++[c])++os from by simp];exact Chn.outs hs (λ c hc=>ho c (.tail _ hc)) (h.snoc (hs c (ho c (.head _))))
theorem fW{x:Str}(h:(decide (0<x.length)&&decide (x.length<=8)&&!x.cps.toList.contains 125)=true):fU x:=by
 simp only[AI,decide_eq_true_eq,Bs,List.contains_eq_mem,decide_eq_false_iff_not]at h;exact⟨h.1.1,h.1.2,h.2⟩
theorem tx_h:fU "h":=fW (by decide +kernel)
theorem tx_w:fU " w ":=fW (by decide +kernel)
theorem aCO:fU "in":=fW (by decide +kernel)
theorem tx_n:fU "n":=fW (by decide +kernel)
theorem zK:fU "out":=fW (by decide +kernel)
theorem tx_p:fU "p:":=fW (by decide +kernel)
theorem tx_x:fU "x":=fW (by decide +kernel)
noncomputable def cs4(a1 a2 a3 a4:Addr):List CA:=[⟨a1,.ns "p" "urn:a",0,[]⟩,⟨a2,.ns "q" "urn:b",0,[]⟩,⟨a3,.txt "h",0,[]⟩,⟨a4,.pi none,0,[]⟩]
noncomputable def cs3(a1 a2 a3 d:Addr):List CA:=[⟨a1,.start "{urn:a}a" 0,d,[]⟩,⟨a2,.txt " w ",0,[]⟩,⟨a3,.pi (some "in"),0,[]⟩]
theorem aEJ(a1 a2 a3 a4:Addr):Chn 0 [] 0 ((cs4 a1 a2 a3 a4).map CA.c) 2 [] 0:=.cons .p (.cons .q (.cons (.ahead (c:=.txt "h") tx_h) (.cons (.ahead trivial) .nil)))
theorem aEI{a1 a2 a3 a4 b1 b2 b3 d:Addr}{cs:List CA}(ho:∀ r∈cs,fD r.c):Chn 0 [] 0 (((cs4 a1 a2 a3 a4++cs)++cs3 b1 b2 b3 d).map CA.c) 3 ["{urn:a}a"] 0:=by
 have h1:=Chn.outs (os:=cs.map CA.c) (λ c hc=>Step.ahead hc) (λ c hc=>by obtain⟨r,hr,rfl⟩:=Aj.mp hc;exact ho r hr) (aEJ a1 a2 a3 a4);have h2:=((h1.snoc .r).snoc (.mid (c:=.txt " w ") tx_w (by simp))).snoc (.mid (c:=.pi (some "in")) aCO (by simp));rw[Aq];show Chn 0 [] 0 (_++[.start "{urn:a}a" 0,.txt " w ",.pi (some "in")]) 3 _ 0;simpa using h2
noncomputable def RwO(cs:List CA):Prop:=∀ r∈cs,∀ x j,r.c=.start x j->atQ r.l=fQ j
theorem RwO.append{a b:List CA}(h1:RwO a)(h2:RwO b):RwO (a++b):=λ r hr=>(AD.mp hr).elim (h1 r) (h2 r)
theorem RwO.outs{cs:List CA}(h:∀ r∈cs,fD r.c):RwO cs:=λ r hr x j e=>by have:=h r hr;rw[e]at this;exact this.elim
theorem rowH{a1 a2 a3 a4 b1 b2 b3 d:Addr}{cs:List CA}(ho:∀ r∈cs,fD r.c):RwO ((cs4 a1 a2 a3 a4++cs)++cs3 b1 b2 b3 d):=by
 refine RwO.append (RwO.append (a:=cs4 a1 a2 a3 a4) (λ r hr x j e=>?_) (.outs ho)) λ r hr x j e=>?_
 ·simp only[cs4,Ax,Bx,or_false]at hr;rcases hr with rfl | rfl | rfl | rfl<;>cases e
 ·simp only[cs3,Ax,Bx,or_false]at hr;rcases hr with rfl | rfl | rfl
  ·cases e;rfl
  ·cases e
  ·cases e
noncomputable abbrev eU(scr cl nm:Addr)(ah be:Nat)(ta tb:Tok)(b:Nat)(tg:Tok)(vx vk vy:Option Value):Loc:=[("script",some (.ref scr)),("ahead",some (.int (ah:Int) ta)),("behind",some (.int (be:Int) tb)),("calls",some (.ref cl)),("names",some (.ref nm)),("begun",some (.int (b:Int) tg)),("x",vx),("kind",vk),("y",vy)]
theorem nS{x y:Str}{o:Obj}(h:oI [x,y] o):∃ t u,aJ [.str x t,.str y u] o:=by
 obtain⟨vs,ht,ho⟩:=h;cases ht with
 | cons _ _ ht=>cases ht with
  | cons _ _ ht=>cases ht;exact⟨_,_,ho⟩
theorem head4{cl a1 a2 a3 a4:Addr}{t0:Tok}(S:Sta W G env loc ((cl,aA [.ref a1,.ref a2,.ref a3,.ref a4])::(a4,aJ [.str "pi" t0,.none])::(a3,oI ["text","h"])::(a2,oI ["ns","q","urn:b"])::(a1,oI ["ns","p","urn:a"])::N) s):Sta W G env loc ((cl,aA (aX (cs4 a1 a2 a3 a4)))::(aI W (cs4 a1 a2 a3 a4)++N)) s:=by
 have S1:=S.tell (a:=a4) (c':=bH 0 (.pi none)) (.tail .head) λ o _ ho=>⟨_,_,.none,ho⟩
 have S2:=S1.tell (a:=a3) (c':=bH 0 (.txt "h")) (.tail (.tail .head)) λ o _ ho=>nS ho;have S3:=S2.tell (a:=a2) (c':=bH 0 (.ns "q" "urn:b")) (.tail (.tail (.tail .head))) λ o _ ho=>aDd ho;have S4:=S3.tell (a:=a1) (c':=bH 0 (.ns "p" "urn:a")) (.tail (.tail (.tail (.tail .head)))) λ o _ ho=>aDd ho;refine S4.perm ?_;show List.Perm _ ((cl,aA [.ref a1,.ref a2,.ref a3,.ref a4])::(a1,bH 0 (.ns "p" "urn:a"))::(a2,bH 0 (.ns "q" "urn:b"))::(a3,bH 0 (.txt "h"))::(a4,bH 0 (.pi none))::N);walk_at "perm"
theorem aCm{cl b:Addr}{c0 cs:List CA}{Q:Value->Ac->Prop}(S:Sta W G env loc ((b,aA (aX cs))::(aI W cs++((cl,aA (aX c0))::(aI W c0++N)))) s)(hz:c0.length+cs.length<=1000)(k:∀ s',Sta W G env loc ((cl,aA (aX (c0++cs)))::(aI W (c0++cs)++N)) s'->Q .none s'):Ad W.M A (call (.builtin "list.extend") [.ref cl,.ref b]) Q E s:=by
 have S1:=S.perm (nw':=(cl,aA (aX c0))::(b,aA (aX cs))::(aI W c0++(aI W cs++N))) (by walk_at "perm");refine S1.extendL .head (.tail _ (.head _)) (by rw[Aw];simp[aX];walk_at "o") λ s' S2=>k s' (S2.sel (Sel.rest [(b,aA (aX cs))] ?_));rw[fO,cX];walk_at "perm"
theorem head3{b a1 a2 a3 d:Addr}{t2 t3:Tok}(S:Sta W G env loc ((b,aA [.ref a1,.ref a2,.ref a3])::(a3,oI ["pi","in"])::(a2,oI ["text"," w "])::(a1,aJ [.str "start" t2,.str "{urn:a}a" t3,.ref d])::(d,IsD W d [])::N) s):Sta W G env loc ((b,aA (aX (cs3 a1 a2 a3 d)))::(aI W (cs3 a1 a2 a3 d)++N)) s:=by
 have S1:=S.tell (a:=a3) (c':=bH 0 (.pi (some "in"))) (.tail .head) λ o _ ho=>by obtain⟨t,u,h⟩:=nS ho;exact⟨t,_,.of u aCO,h⟩
 have S2:=S1.tell (a:=a2) (c':=bH 0 (.txt " w ")) (.tail (.tail .head)) λ o _ ho=>nS ho;have S3:=S2.tell (a:=a1) (c':=bH d (.start "{urn:a}a" 0)) (.tail (.tail (.tail .head))) λ o _ ho=>⟨_,_,ho⟩
 refine S3.perm ?_;show List.Perm _ ((b,aA [.ref a1,.ref a2,.ref a3])::(a1,bH d (.start "{urn:a}a" 0))::(d,IsD W d [])::(a2,bH 0 (.txt " w "))::(a3,bH 0 (.pi (some "in")))::N);walk_at "perm"
theorem aCE{L scr:Addr}{vs:List Value}{ns:List Int}{Q:Flow->Ac->Prop}(I:IsC W)(hA:Aok 16 A)(hB:W.B.IsList scr vs.toArray)(hi:IntsAre vs ns)(hn:ns.length<=63)(S':Sta W G (bK L) [("script",some (.ref scr)),("ahead",none),("behind",none),("calls",none),("names",none),("begun",none),("x",none),("kind",none),("y",none)] N s)(k:∀ cl nm cs ta tb tg s',Chn 0 [] 0 (cs.map CA.c) 3 ["{urn:a}a"] 0->RwO cs->cs.length=7+ns.length/4->Sta W G (bK L) (eU scr cl nm (ns.length/4) (ns.length-ns.length/4) ta tb 0 tg none none none) ((nm,aB ["{urn:a}a"])::(cl,aA (aX cs))::(aI W cs++N)) s'-> Ad W.M A (execs ((aE bV).drop 7) (bK L)) Q E s'):∀ st:List Stmt,st=(aE bV).drop 0->Ad W.M A (execs st (bK L)) Q E s:=by
 intro st hst;subst hst;have hl:=IntsAre.len hi;walk_at "c";refine Sta.builtin S' I.b_len kU (by kernel_rfl) ?_;walk_at "c";refine Sta.lenB S' hB (by walk_at "o") ?_;clear S';intro t1 s' S';walk_at "c";have ea:((vs.length:Nat):Int).fdiv 4=((ns.length/4:Nat):Int):=by
  rw[hl,Int.fdiv_eq_ediv_of_nonneg _ (by decide)]
  rfl
 have eb:((vs.length:Nat):Int)-((ns.length/4:Nat):Int)=((ns.length-ns.length/4:Nat):Int):=by rw[hl];walk_at "o"
 rw[ea]at S';refine Sta.builtin S' I.b_len kU (by kernel_rfl) ?_;walk_at "c";refine Sta.lenB S' hB (by walk_at "o") ?_;clear S';intro t2 s' S'
 iterate 3 walk_at "cw"
 rw[eb]at S';refine cJ S' ?_;clear S';intro lq Mq S';walk_at "c";replace S':=head4 S';refine Sta.getM_list S' (by walk_at "mem") F.slot_list_extend F.type_list_extend ?_;refine cR ?_ (by kernel_rfl) (by kernel_rfl);refine eR ?_ (by kernel_rfl);refine aC8 I (hA.le (by decide)) (hi.take (ns.length/4)) (by rw[List.length_take];walk_at "o") (by kernel_rfl) (by kernel_rfl) (λ _=>by kernel_rfl) (λ _=>by kernel_rfl) S' (λ Q2 hq=>?_) ?_
 ·refine qG ?_ (by intro _ _;kernel_rfl);walk_at "c";exact SliceKB.mk (hi:=some ((ns.length/4:Nat):Int)) S' hB (by rw[AK,Aw];walk_at "o") .none (.int _ _) λ a s2 S2=>hq a s2 (by rw[uN]at S2;exact S2)
 clear S';intro b1 cs s' ho hlc S';refine cJ S' ?_;clear S';intro lq Mq S';refine args_nil ?_;have hlc2:cs.length=ns.length/4:=by rw[hlc,List.length_take];walk_at "o"
 refine aCm S' (by show 4+_<=_;walk_at "o") ?_;clear S';intro s' S';refine cJ S' ?_;clear S';intro lq Mq S';walk_at "c";refine Sta.getM_list S' (by walk_at "mem") F.slot_list_extend F.type_list_extend ?_;walk_at "c";replace S':=head3 S';refine aCm S' (by show(cs4 _ _ _ _++cs).length+3<=_;rw[Ag];show 4+_+3<=_;walk_at "o") ?_;clear S';intro s' S';refine cJ S' ?_;clear S';intro lq Mq S'
 repeat (fail_if_success (with_reducible show Ad W.M A (execs ((aE bV).drop 7) (bK L)) Q E _));walk_at "cw"
 walk_at "ke";refine k _ _ _ _ _ _ s' (aEI ho) (rowH ho) ?_ S';rw[Ag,Ag];show 4+cs.length+3=_;walk_at "o"
noncomputable abbrev aDj(L:Addr):Env:=envOf "_law_start" (aD eP) L 187 (.ref 186)
theorem aEd{j:Nat}(h:j<5):∃ x:Str,nm5[j]?=some x/\x∈nm5:=⟨nm5[j]'h,List.getElem?_eq_getElem h,Bd h⟩
noncomputable def da5(d0 d1 d2 d3 d4:Addr):Nat->Addr
 | 0=>d0
 | 1=>d1
 | 2=>d2
 | 3=>d3
 | _=>d4
theorem aEG(d0 d1 d2 d3 d4:Addr){i:Nat}(h:i<5):([.ref d0,.ref d1,.ref d2,.ref d3,.ref d4]:List Value)[i]?=some (.ref (da5 d0 d1 d2 d3 d4 i)):=by
 rcases(show i=0\/i=1\/i=2\/i=3\/i=4 by walk_at "o")with rfl | rfl | rfl | rfl | rfl<;>rfl
noncomputable def lt5(x1 x2 x3 x4 x5 x6:Tok):Nat->List (Str×Str×Tok)
 | 0=>[]
 | 1=>[("k","<\"",x1)]
 | 2=>[("{urn:a}k","&",x2),("k","\t",x3)]
 | 3=>[(spaceK,"preserve",x4)]
 | _=>[(spaceK,"default",x5),("{urn:b}k","",x6)]
theorem pick5{tp d0 d1 d2 d3 d4:Addr}{z:Str}{t0 t1 x1 x2 x3 x4 x5 x6:Tok}{i:Nat}(h:i<5)(S:Sta W G env loc ((tp,aJ [.str "start" t0,.str z t1,.ref (da5 d0 d1 d2 d3 d4 i)])::(d4,IsD W d4 (atV (lt5 x1 x2 x3 x4 x5 x6 4)))::(d3,IsD W d3 (atV (lt5 x1 x2 x3 x4 x5 x6 3)))::(d2,IsD W d2 (atV (lt5 x1 x2 x3 x4 x5 x6 2)))::(d1,IsD W d1 (atV (lt5 x1 x2 x3 x4 x5 x6 1)))::(d0,IsD W d0 (atV (lt5 x1 x2 x3 x4 x5 x6 0)))::N) s):∃ d l,atQ l=fQ i/\Sta W G env loc ((tp,bH d (.start z i))::(d,IsD W d (atV l))::N) s:=by
 have S1:=S.tell (c':=bH (da5 d0 d1 d2 d3 d4 i) (.start z i)) .head λ o _ ho=>⟨_,_,ho⟩
 rcases(show i=0\/i=1\/i=2\/i=3\/i=4 by walk_at "o")with rfl | rfl | rfl | rfl | rfl
 ·exact⟨d0,lt5 x1 x2 x3 x4 x5 x6 0,rfl,S1.sub (.cons_cons _ (.cons _ (.cons _ (.cons _ (.cons _ (.refl _))))))⟩
 ·exact⟨d1,lt5 x1 x2 x3 x4 x5 x6 1,rfl,S1.sub (.cons_cons _ (.cons _ (.cons _ (.cons _ (.cons_cons _ (.cons _ (.refl _)))))))⟩
 ·exact⟨d2,lt5 x1 x2 x3 x4 x5 x6 2,rfl,S1.sub (.cons_cons _ (.cons _ (.cons _ (.cons_cons _ (.cons _ (.cons _ (.refl _)))))))⟩
 ·exact⟨d3,lt5 x1 x2 x3 x4 x5 x6 3,rfl,S1.sub (.cons_cons _ (.cons _ (.cons_cons _ (.cons _ (.cons _ (.cons _ (.refl _)))))))⟩
 ·exact⟨d4,lt5 x1 x2 x3 x4 x5 x6 4,rfl,S1.sub (.cons_cons _ (.cons_cons _ (.cons _ (.cons _ (.cons _ (.cons _ (.refl _)))))))⟩
theorem yW{M:Model}{E:Value->Ac->Prop}{l x:List Stmt}{n:Nat}{st:Stmt}{Q:Flow->Ac->Prop}(e:l.drop n=x)(h:l[n]?=some st)(k:∀ K:Flow->Ac->Prop,(∀ s',Ad M A (execs (l.drop (n+1)) env) Q E s'->K .next s')->(∀ v s',Q (.ret v) s'->K (.ret v) s')->Ad M A (exec st env) K E s):Ad M A (execs x env) Q E s:=by
 subst e;exact pS h k
theorem aB3{y:Int}{t:Tok}{Q:Value->Ac->Prop}(I:IsC W)(hA:Aok 8 A)(S:Sta W G env loc N s)(k:∀ tp d l z i s',z∈nm5->i<5->atQ l=fQ i->Sta W G env loc ((tp,bH d (.start z i))::(d,IsD W d (atV l))::N) s'->Q (.ref tp) s'):Ad W.M A (call (.ref 187) [.int y t]) Q E s:=by
 refine S.call_fnV aDj (binds:=[("y",.int y t)]) ["space","rows"] I.f_l_start hA (λ _ _ _ _ _=>BindsTo.of_eq (by kernel_rfl)) (by kernel_rfl) ?_;intro L A' s' hA' S';simp only[aW,An,AF,Av,Ay]at S';obtain⟨j,hj,hj4⟩:=jU y 5 (by decide);obtain⟨i,hi,hi4⟩:=jU (y.fdiv 5) 5 (by decide);rw[show((5:Nat):Int)=5 from rfl]at hj hi;obtain⟨z,hz,hzm⟩:=aEd hj4;refine aM ?_
 repeat (fail_if_success (with_reducible show Ad W.M A' (execs ((aE eP).drop 1) (aDj L)) _ _ _));walk_at "cw"
 obtain⟨sk,hsk⟩:∃ sk:Str,sk=spaceK:=⟨_,rfl⟩
 walk_at "zd";rw[show(Str.ofString "{http://www.w3.org/XML/1998/namespace}space")=sk from hsk.symm]at S';have hnd:([sk,"{urn:b}k"]:List Str).Nodup:=by rw[hsk];decide +kernel
 generalize hst:Bv 1 (aE eP)=st;refine yW hst rfl ?_;clear hst;intro Kq hKn hKr;walk_at "c";refine DLit.mk [("k",.str "<\"" _)] S' (by exact⟨strKind_is _ _ _ _,rfl,trivial⟩) (by simp) (Ar rfl) .head ?_;clear S';intro s' S';refine cJ S' ?_;clear S';intro lq Mq S';walk_at "c";refine DLit.mk [("{urn:a}k",.str "&" _),("k",.str "\t" _)] S' (by exact⟨strKind_is _ _ _ _,rfl,strKind_is _ _ _ _,rfl,trivial⟩) (by show(["{urn:a}k","k"]:List Str).Nodup;decide +kernel) (Ar rfl) .head ?_;clear S';intro s' S';refine cJ S' ?_;clear S';intro lq Mq S';walk_at "c";refine DLit.mk [(sk,.str "preserve" _)] S' (by exact⟨strKind_is _ _ _ _,rfl,trivial⟩) (by simp) (Ar rfl) .head ?_;clear S';intro s' S';refine cJ S' ?_;clear S';intro lq Mq S';walk_at "c";refine DLit.mk [(sk,.str "default" _),("{urn:b}k",.str "" _)] S' (by exact⟨strKind_is _ _ _ _,rfl,strKind_is _ _ _ _,rfl,trivial⟩) hnd (Ar rfl) .head ?_;clear S';intro s' S';refine cJ S' ?_;clear S';intro lq Mq S';walk_at "c";rw[hj];revert a';intro l1 S';replace S':=S'.tell (a:=l1) (c':=aB nm5) .head λ o _ ho=>ho;refine Sta.subT S' (j:=j) (.head _) rfl (by walk_at "o") hz ?_;intro t1;walk_at "c";rw[hi];refine Sta.sub_list S' (by walk_at "mem") (by walk_at "o") (by walk_at "o") (by rw[BM];exact aEG _ _ _ _ _ hi4) ?_;walk_at "c";walk_at "zd";rw[hsk]at S';obtain⟨d,l,hrow,S2⟩:=pick5 hi4 (S'.sub (.cons_cons _ (.cons _ (.cons _ (.refl _)))));exact k _ d l z i s' hzm hi4 hrow (Sta.back (S2.perm (by walk_at "perm")) S.eok)
noncomputable def aCJ:Stmt:=(aE bV).getD 7 (.Pass default)
noncomputable def cIf:Stmt:=(jV aCJ).getD 1 (.Pass default)
noncomputable def cIf1:Stmt:=(aAS cIf).getD 0 (.Pass default)
noncomputable abbrev gW(W:Wd)(nm cl:Addr)(ns:List Str)(cs:List CA)(N:Lg):Lg:=(nm,aB ns)::(cl,aA (aX cs))::(aI W cs++N)
noncomputable abbrev CK(W:Wd)(G:Gens)(L scr cl nm:Addr)(ah be:Nat)(ta tb:Tok)(cs:List CA)(N:Lg)(ns:List Str)(b:Nat)(vx:Option Value)(Q:Flow->Ac->Prop):Prop:=
 ∀ ns' b' tg' rs vk vy s',Chn 3 ns b (rs.map CA.c) 3 ns' b'->ns'≠[]->ns'.length<=ns.length+1->b'<=9->RwO rs->rs.length+2*b<=1+2*b'->Sta W G (bK L) (eU scr cl nm ah be ta tb b' tg' vx vk vy) (gW W nm cl ns' (cs++rs) N) s'->Q .next s'
theorem vZ{i i1 b b1:Nat}{ns ns1:List Str}{c:Cal}(h:Step i ns b c i1 ns1 b1):Chn i ns b [c] i1 ns1 b1:=.cons h .nil
theorem aBE{r:CA}(h:∀ x j,r.c=.start x j->atQ r.l=fQ j):RwO [r]:=λ q hq=>by rw[AA.mp hq];exact h
noncomputable def csT(a1 a2:Addr):List CA:=[⟨a1,.txt "p:",0,[]⟩,⟨a2,.txt "x",0,[]⟩]
theorem aDv{b a1 a2:Addr}(S:Sta W G env loc ((b,aA [.ref a1,.ref a2])::(a2,oI ["text","x"])::(a1,oI ["text","p:"])::N) s):Sta W G env loc ((b,aA (aX (csT a1 a2)))::(aI W (csT a1 a2)++N)) s:=by
 have S1:=S.tell (a:=a2) (c':=bH 0 (.txt "x")) (.tail .head) λ o _ ho=>nS ho;have S2:=S1.tell (a:=a1) (c':=bH 0 (.txt "p:")) (.tail (.tail .head)) λ o _ ho=>nS ho;refine S2.perm ?_;show List.Perm _ ((b,aA [.ref a1,.ref a2])::(a1,bH 0 (.txt "p:"))::(a2,bH 0 (.txt "x"))::N);walk_at "perm"
theorem aCF{L scr cl nm:Addr}{ah be:Nat}{ta tb tg tk ty:Tok}{cs:List CA}{ns:List Str}{b:Nat}{kd y:Int}{vx:Option Value}{Q:Flow->Ac->Prop}(I:IsC W)(hA:Aok 10 A)(hne:ns≠[])(hcl:cs.length<=300)(hb:b<=9)(S':Sta W G (bK L) (eU scr cl nm ah be ta tb b tg vx (some (.int kd tk)) (some (.int y ty))) (gW W nm cl ns cs N) s)(k:CK W G L scr cl nm ah be ta tb cs N ns b vx Q)(st:List Stmt)(hst:st=aAS cIf1):Ad W.M A (execs st (bK L)) Q E s:=by
 subst hst;have push:∀{Q':Value->Ac->Prop} {tp:Addr} {c:Cal} {s':Ac},fD c->Sta W G (bK L) (eU scr cl nm ah be ta tb b tg vx (some (.int kd tk)) (some (.int y ty))) ((tp,bH 0 c)::((nm,aB ns)::(cl,aA (aX cs))::(aI W cs++N))) s'->(∀ s3,Q .next s3->Q' .none s3)->Ad W.M A (call (.builtin "list.append") [.ref cl,.ref tp]) Q' E s':=by
  intro Q' tp c s' hc S2 hq;have hst:∀ x j,c≠.start x j:=λ x j e=>by subst e;exact hc
  refine Sta.pushCal (cs:=cs) (c:=c) (d:=0) (l:=[]) (N:=(nm,aB ns)::N) (by walk_at "o") (λ o ho=>ho) hst (S2.perm (by walk_at "perm")) λ s3 S3=>?_;exact hq s3<|k ns b tg [⟨tp,c,0,[]⟩] _ _ s3 (vZ (.mid hc hne)) hne (by walk_at "o") hb (aBE λ x j e=>absurd e (hst x j)) (AN _) (S3.perm (by walk_at "perm"))
 refine AH ?_;refine fG ?_;walk_at "c";refine dL (λ _=>?_) (λ _=>?_)
 ·walk_at "c";refine Sta.global S' I.g_l_order (by kernel_rfl) ?_;refine gC (by rw[I.k];kernel_rfl) ?_ (by kernel_rfl) (by kernel_rfl);walk_at "c";refine uX I (hA.le (by decide)) S' ?_;clear S';intro tp o s' ho S';walk_at "c";refine push (c:=.pi o) ho S' λ s3 h=>?_;walk_at "c";exact h
 ·walk_at "c";refine dL (λ _=>?_) (λ _=>?_)
  ·walk_at "c";refine Sta.global S' I.g_l_order (by kernel_rfl) ?_;refine gC (by rw[I.k];kernel_rfl) ?_ (by kernel_rfl) (by kernel_rfl);walk_at "c";refine uX I (hA.le (by decide)) S' ?_;clear S';intro tp o s' ho S';walk_at "c";refine push (c:=.pi o) ho S' λ s3 h=>?_;walk_at "c";exact h
  ·walk_at "c";refine dL (λ _=>?_) (λ _=>?_)
   ·walk_at "c";refine Sta.global S' I.g_l_text (by kernel_rfl) ?_;refine gC (by rw[I.k];kernel_rfl) ?_ (by kernel_rfl) (by kernel_rfl);walk_at "c";refine nI I (hA.le (by decide)) S' ?_;clear S';intro x t1 s' hx S';walk_at "c";refine push (c:=.co x) hx (S'.tell .head λ o _ ho=>⟨_,_,ho⟩) λ s3 h=>?_;walk_at "c";exact h
   ·walk_at "c";refine Sta.global S' I.g_l_text (by kernel_rfl) ?_;refine gC (by rw[I.k];kernel_rfl) ?_ (by kernel_rfl) (by kernel_rfl);walk_at "c";refine nI I (hA.le (by decide)) S' ?_;clear S';intro x t1 s' hx S';walk_at "c";refine push (c:=.txt x) hx (S'.tell .head λ o _ ho=>⟨_,_,ho⟩) λ s3 h=>?_;walk_at "c";exact h
theorem aCG{L scr cl nm:Addr}{ah be:Nat}{ta tb tg tk ty:Tok}{cs:List CA}{ns:List Str}{b:Nat}{kd y:Int}{vx:Option Value}{Q:Flow->Ac->Prop}(I:IsC W)(hA:Aok 10 A)(hne:ns≠[])(hnl:ns.length<=100)(hcl:cs.length<=300)(hb:b<=9)(S':Sta W G (bK L) (eU scr cl nm ah be ta tb b tg vx (some (.int kd tk)) (some (.int y ty))) (gW W nm cl ns cs N) s)(k:CK W G L scr cl nm ah be ta tb cs N ns b vx Q)(st:List Stmt)(hst:st=aAS cIf):Ad W.M A (execs st (bK L)) Q E s:=by
 subst hst;have hnz:ns.length<=AC:=by walk_at "osz"
 have onE:∀{s'},Sta W G (bK L) (eU scr cl nm ah be ta tb b tg vx (some (.int kd tk)) (some (.int y ty))) (gW W nm cl ns cs N) s'->Ad W.M A (execs (aAS cIf1) (bK L)) (λ f s₁=>match f with | .next=>Ad W.M A (execs [] (bK L)) Q E s₁ | f=>Q f s₁) E s':=
  λ S'=>aCF I hA hne hcl hb S' (λ ns' b' tb' r vk vy s' h1 h2 h3 h4 h5 h6 S'=>AR (k ns' b' tb' r vk vy s' h1 h2 h3 h4 h5 h6 S')) _ rfl
 refine AH ?_;refine fG ?_;walk_at "c";refine dL (λ _=>?_) (λ _=>?_)
 ·walk_at "c";refine Sta.builtin S' I.b_len kU (by kernel_rfl) ?_;walk_at "c";refine Sta.lenT S' (by walk_at "mem") hnz ?_;clear S';intro tn s' S';walk_at "c";refine dL (λ hgt=>?_) (λ _=>?_)
  ·refine isTrue_and_nil (dK ?_);have hlt:1<ns.length:=by have:=of_decide_eq_true hgt;walk_at "o"
   obtain⟨n0,x,hnx⟩:∃ n0 x,ns=n0++[x]:=⟨ns.dropLast,ns.getLast hne,(Az hne).symm⟩
   subst hnx;have hn0:n0≠[]:=by intro e;subst e;simp at hlt
   have hz0:n0.length<AC:=by simp at hnl;walk_at "osz"
   walk_at "c";refine Sta.popT S' (by walk_at "upd") hz0 ?_;clear S';intro t1 s' S';walk_at "c";revert a';intro tp S';refine Sta.pushCal (cs:=cs) (c:=.fin x) (d:=0) (l:=[]) (N:=(nm,aB n0)::N) (by walk_at "o") (λ o ho=>ho) (λ x j e=>by cases e) ((S'.tell (c':=bH 0 (.fin x)) .head λ o _ ho=>⟨_,_,ho⟩).perm (by walk_at "perm")) ?_;clear S';intro s' S';walk_at "c";exact k n0 b tg [⟨tp,.fin x,0,[]⟩] _ _ s' (vZ (.fin hn0)) hn0 (by simp;walk_at "o") hb (aBE λ x j e=>by cases e) (AN _) (S'.perm (by walk_at "perm"))
  ·refine cP ?_;exact onE S'
 ·refine cP ?_;exact onE S'
theorem aCC{L scr cl nm:Addr}{ah be:Nat}{ta tb tg tx:Tok}{cs:List CA}{ns:List Str}{b:Nat}{x:Int}{vk vy:Option Value}{Q:Flow->Ac->Prop}(I:IsC W)(hA:Aok 10 A)(hne:ns≠[])(hnl:ns.length<=100)(hcl:cs.length<=300)(hb:b<=9)(S':Sta W G (bK L) (eU scr cl nm ah be ta tb b tg (some (.int x tx)) vk vy) (gW W nm cl ns cs N) s)(k:CK W G L scr cl nm ah be ta tb cs N ns b (some (.int x tx)) Q)(body:List Stmt)(hbd:body=jV aCJ):Ad W.M A (execs body (bK L)) Q E s:=by
 subst hbd;refine aM ?_;refine bQ rfl ?_;refine Assign_Tuple_swapped (names:=["kind","y"]) ?_ (by kernel_rfl) (by kernel_rfl);walk_at "c";refine Sta.unpackI S' hA.handled (by walk_at "mem") rfl ?_;clear S';intro s' S';replace S':=S'.sub (AZ _ _);refine assignInOrder_cons ?_;refine bindName_ ?_;walk_at "c";refine assignInOrder_cons ?_;refine bindName_ ?_;walk_at "c";refine assignInOrder_nil ?_;have kk:∀{u1 u2:Tok} {s'},Sta W G (bK L) (eU scr cl nm ah be ta tb b tg (some (.int x tx)) (some (.int (x.fmod 8) u1)) (some (.int (x.fdiv 8) u2))) (gW W nm cl ns cs N) s'->Ad W.M A (execs (aAS cIf) (bK L)) (λ f s₁=>match f with | .next=>Ad W.M A (execs ((jV aCJ).drop 2) (bK L)) Q E s₁ | f=>Q f s₁) E s':=
  λ S'=>aCG I hA hne hnl hcl hb S' (λ ns' b' tb' r vk vy s' h1 h2 h3 h4 h5 h6 S'=>AR (k ns' b' tb' r vk vy s' h1 h2 h3 h4 h5 h6 S')) _ rfl
 refine bQ rfl ?_;refine fG ?_;walk_at "c";refine dL (λ _=>?_) (λ _=>?_)
 ·walk_at "c";refine dL (λ hgt=>?_) (λ _=>?_)
  ·refine isTrue_and_nil (dK ?_);have hlt:b<9:=by have:=of_decide_eq_true hgt;walk_at "o"
   walk_at "c";have eb:(b:Int)+1=((b+1:Nat):Int):=by walk_at "o"
   refine Sta.global S' I.g_l_start (by kernel_rfl) ?_;refine gC (by rw[I.k];kernel_rfl) ?_ (by kernel_rfl) (by kernel_rfl);walk_at "c";refine aB3 I (hA.le (by decide)) S' ?_;clear S';intro tp d l z i s' hz hi hrow S';walk_at "c";obtain⟨o0,ho0,t0,t1,hto⟩:=S'.get (.head _);walk_at "zd";replace S':=(S'.tell (c':=aJ [.str "start" t0,.str z t1,.ref d]) .head λ o' ho' _=>by rw[ho0]at ho';cases ho';exact hto).perm (nw':=(cl,aA (aX cs))::(tp,aJ [.str "start" t0,.str z t1,.ref d])::(d,IsD W d (atV l))::(nm,aB ns)::(aI W cs++N)) (by walk_at "perm");refine S'.append .head (by rw[Aw];simp[aX];walk_at "o") ?_;clear S';intro s' S';refine cJ S' ?_;clear S';intro lq Mq S';walk_at "c";refine Sta.sub_last S' (.head _) (show(aX cs++([.ref tp]:List Value)).getLast?=some (.ref tp)from by simp) ?_;walk_at "c";refine Sta.sub_tuple S' (.tail _ (.head _)) (j:=1) rfl (by walk_at "o") rfl ?_;walk_at "c";refine Sta.subT_last S' (x:=z) (by walk_at "mem") ?_;intro t2;walk_at "c";have close:∀{loc:Loc} {J:Lg} {s':Ac},Sta W G (bK L) loc (J++((cl,aA (aX cs++[.ref tp]))::(tp,aJ [.str "start" t0,.str z t1,.ref d])::(d,IsD W d (atV l))::(nm,aB (ns++[z]))::(aI W cs++N))) s'->Sta W G (bK L) loc (J++((cl,aA (aX (cs++[⟨tp,.start z i,d,l⟩])))::(aI W (cs++[⟨tp,.start z i,d,l⟩])++((nm,aB (ns++[z]))::N)))) s':=by
    intro loc J s' S2;have S3:=(S2.perm (nw':=(tp,aJ [.str "start" t0,.str z t1,.ref d])::(J++((cl,aA (aX cs++[.ref tp]))::(d,IsD W d (atV l))::(nm,aB (ns++[z]))::(aI W cs++N)))) (by walk_at "perm")).tell (c':=bH d (.start z i)) .head λ o _ ho=>⟨_,_,ho⟩
    refine S3.perm ?_;rw[fO,cX];show List.Perm _ (J++((cl,aA (aX cs++[.ref tp]))::((aI W cs++[(tp,bH d (.start z i)),(d,IsD W d (atV l))])++((nm,aB (ns++[z]))::N))));walk_at "perm"
   refine rF (λ e=>?_) (λ e=>?_)
   ·subst e;walk_at "c";refine Sta.getM_list S' (.head _) F.slot_list_extend F.type_list_extend ?_;walk_at "c";walk_at "zd";have S2:=(close (J:=(_,aA (aX (csT _ _)))::aI W (csT _ _)) (aDv S'))
    refine aCm (N:=(nm,aB (ns++[("t":Str)]))::N) S2 (by rw[Ag,AJ];show cs.length+1+2<=_;walk_at "o") ?_;clear S' S2;intro s' S';walk_at "c";rw[eb]at S';rw[Ah]at S';exact k (ns++[("t":Str)]) (b+1) _ (⟨tp,.start "t" i,d,l⟩::csT _ _) _ _ s' (.cons (.startT hlt hi hne) (.cons (.t1 (by simp)) (.cons (.t2 (by simp)) .nil))) (by simp) (by simp) (by walk_at "o") (RwO.append (a:=[_]) (aBE λ x j e=>by cases e;exact hrow) λ r hr x j e=>by
     simp only[csT,Ax,Bx,or_false]at hr;rcases hr with rfl | rfl<;>cases e) (by show 3+2*b<=1+2*(b+1);walk_at "o") (S'.perm (by walk_at "perm"))
   ·walk_at "c";walk_at "zd";rw[eb]at S';have S2:=close (J:=[]) S';exact k (ns++[z]) (b+1) _ [⟨tp,.start z i,d,l⟩] _ _ s' (vZ (.start hlt hz e hi hne)) (by simp) (by simp) (by walk_at "o") (aBE λ x j e=>by cases e;exact hrow) (by show 1+2*b<=1+2*(b+1);walk_at "o") (S2.perm (by walk_at "perm"))
  ·refine cP ?_;exact kk S'
 ·refine cP ?_;exact kk S'
noncomputable def cWh:Stmt:=(aE bV).getD 8 (.Pass default)
noncomputable abbrev aDo(st:Stmt):Expr:=stE st
noncomputable abbrev aDp(st:Stmt):List Stmt:=aE st
structure ClS where
 nms:List Str
 b:Nat
 tg:Tok
 cs:List CA
 vx:Option Value
 vk:Option Value
 vy:Option Value
noncomputable def stg(nms:List Str):Nat:=if nms=[]then 4 else 3
theorem zW(l:List Str)(z:Str):stg (l++[z])=3:=if_neg (by simp)
theorem zV{b:Nat}{l:List Str}{z:Str}:Step 3 (l++[z]) b (.fin z) (stg l) l b:=by
 unfold stg
 by_cases h:l=[]
 ·subst h;rw[if_pos rfl];exact .last
 ·rw[if_neg h];exact .fin h
theorem aCD{p:Pos}{L scr cl nm it sl:Addr}{ah be:Nat}{ta tb tg:Tok}{cs0:List CA}{vs:List Value}{ns:List Int}{R:Result->Ac->Prop}(I:IsC W)(hA:Aok 16 A)(hi:IntsAre vs ns)(hn:ns.length<=63)(hc0:cs0.length<=70)(hch:Chn 0 [] 0 (cs0.map CA.c) 3 ["{urn:a}a"] 0)(hro:RwO cs0)(S:Sta W G (bK L) (eU scr cl nm ah be ta tb 0 tg none none none) ((it,bG sl 0)::(sl,aA vs)::gW W nm cl ["{urn:a}a"] cs0 N) s)(k:∀ nms b tg cs vx vk vy s',nms≠[]->Chn 0 [] 0 (cs.map CA.c) 3 nms b->RwO cs->nms.length<=64->cs.length<=151->Sta W G (bK L) (eU scr cl nm ah be ta tb b tg vx vk vy) (gW W nm cl nms cs N) s'->R (.ok .next) s')(body:List Stmt)(hbd:body=jV aCJ):codeAny W.M A (.forLoop (.Name "x" p) (.ref it) body [] (bK L)) R s:=by
 have S2:=S.perm (nw':=gW W nm cl ["{urn:a}a"] cs0 N++([]++[(it,bG sl 0),(sl,aA vs)])) (by walk_at "perm");refine aEt (sh:=[]) (f:=λ(i:Int) t=>.int i t) (hA.le (by decide)) (G:=G) (og:=[]) (own:=[(it,bG sl 0),(sl,aA vs)]) (λ(v:ClS) _=>eU scr cl nm ah be ta tb v.b v.tg v.vx v.vk v.vy) (λ v _=>gW W nm cl v.nms v.cs N) (λ v dn=>Chn 0 [] 0 (v.cs.map CA.c) 3 v.nms v.b/\v.nms≠[]/\v.b<=9/\v.nms.length<=dn.length+1/\v.cs.length<=dn.length+70+2*v.b/\RwO v.cs) (kY hi (LY.yields (dJ (sh:=[]) (xs:=vs) (own₀:=[(sl,aA vs)]) (.head _) vs 0 rfl))) ⟨["{urn:a}a"],0,tg,cs0,none,none,none⟩ ⟨hch,by simp,by walk_at "o",by simp,by simpa using hc0,hro⟩ (by rw[Am];exact S2) ?_ ?_
 rotate_left
 ·intro x dn rest t1 tl tg v s1 K hq hJ S1 kk _ _;obtain⟨hch,hne,hb,h1,h2,h3⟩:=hJ;have hr:dn.length+1<=63:=by
   have:=congrArg A8 hq;simp only[Ag,AG]at this;walk_at "o"
  refine wpAny_assign_Name (S1.store (by walk_at "put") λ s' S'=>?_);refine aCC (cs:=v.cs) (ns:=v.nms) (b:=v.b) (tg:=v.tg) (vk:=v.vk) (vy:=v.vy) (N:=N++([]++tl)) I (hA.le (by decide)) hne (by walk_at "o") (by walk_at "o") hb (S'.perm (by simp only[gW];walk_at "perm")) ?_ _ hbd;intro ns' b' tg' rs vk vy s' hst hne' hl hb' hrw hrl S';refine(kk ⟨ns',b',tg',v.cs++rs,_,vk,vy⟩ _ ⟨?_,hne',hb',?_,?_,?_⟩ (S'.perm (by simp only[gW];walk_at "perm"))).1
  ·rw[Aq];exact hch.append hst
  ·rw[Ag,AJ];exact Al hl (A9 h1 1)
  ·show(v.cs++rs).length<=(dn++[x]).length+70+2*b';rw[Ag,Ag,AJ];walk_at "o"
  ·exact h3.append hrw
 ·intro v s1 hJ S1;obtain⟨hch,hne,hb,h1,h2,h3⟩:=hJ;rw[Am]at S1;exact k v.nms v.b v.tg v.cs v.vx v.vk v.vy s1 hne hch h3 (by walk_at "o") (by walk_at "o") S1
theorem aCB{p:Pos}{L scr cl nm:Addr}{ah be:Nat}{ta tb:Tok}{cs0:List CA}{nms0:List Str}{b:Nat}{tg:Tok}{vx vk vy:Option Value}{Q:Flow->Ac->Prop}(I:IsC W)(hA:Aok 16 A)(hne:nms0≠[])(hch:Chn 0 [] 0 (cs0.map CA.c) 3 nms0 b)(hro:RwO cs0)(hn:nms0.length<=64)(hc:cs0.length<=151)(S:Sta W G (bK L) (eU scr cl nm ah be ta tb b tg vx vk vy) (gW W nm cl nms0 cs0 N) s)(k:∀ cs s',Chn 0 [] 0 (cs.map CA.c) 4 [] b->RwO cs->cs.length<=215->Sta W G (bK L) (eU scr cl nm ah be ta tb b tg vx vk vy) (gW W nm cl [] cs N) s'->Q .next s')(test:Expr)(body:List Stmt)(ht:test=aDo cWh)(hb:body=aDp cWh):Ad W.M A (exec (.While test body [] p) (bK L)) Q E s:=by
 subst ht hb;refine wpAny_While (codeAny_whileLoop (λ m s'=>∃ cs nms,nms.length=m/\Chn 0 [] 0 (cs.map CA.c) (stg nms) nms b/\RwO cs/\nms.length<=64/\cs.length+nms.length<=215/\Sta W G (bK L) (eU scr cl nm ah be ta tb b tg vx vk vy) (gW W nm cl nms cs N) s') ?_ nms0.length ?_)
 ·intro m s1 hI;obtain⟨cs,nms,hm,hch,hro,hl,hcl,S'⟩:=hI;have hnz:nms.length<=AC:=by walk_at "osz"
  refine isTrue_plain ?_ (by kernel_rfl);refine S'.local_ (by walk_at "mem") ?_;refine Sta.truthyT S' (.head _) hnz ?_;clear S';intro s' S';cases hcase:nms with
  | nil=>
   subst hcase;refine cP ?_;exact AR (k cs _ hch hro (by simp at hcl;walk_at "o") S')
  | cons y0 r0=>
   obtain⟨l1,z,hlz⟩:∃ l1 z,nms=l1++[z]:=by
    have hne:nms≠[]:=by rw[hcase];simp
    exact⟨nms.dropLast,nms.getLast hne,(Az hne).symm⟩
   clear hcase;subst hlz;rw[zW]at hch;refine dK ?_;have hl1:l1.length<AC:=by simp at hl;walk_at "osz"
   refine aM ?_;walk_at "c";refine Sta.popT S' (by walk_at "upd") hl1 ?_;clear S';intro t1 s' S';walk_at "c";revert a';intro tp S';refine Sta.pushCal (cs:=cs) (c:=.fin z) (d:=0) (l:=[]) (N:=(nm,aB l1)::N) (by walk_at "o") (λ o ho=>ho) (λ x j e=>by cases e) ((S'.tell (c':=bH 0 (.fin z)) .head λ o _ ho=>⟨_,_,ho⟩).perm (by walk_at "perm")) ?_;clear S';intro s' S';walk_at "c";simp only[Ag,AJ]at hm hl hcl;refine⟨l1.length,by walk_at "o",cs++[⟨tp,.fin z,0,[]⟩],l1,rfl,?_,hro.append λ r hr x j e=>?_,by walk_at "o",by simp;walk_at "o",S'.perm (by walk_at "perm")⟩
   ·rw[Aq];exact hch.snoc zV
   ·rw[AA]at hr;subst hr;cases e
 ·exact⟨cs0,nms0,rfl,by unfold stg;rw[if_neg hne];exact hch,hro,hn,by walk_at "o",S⟩
theorem aCA{L scr cl nm:Addr}{ta tb tg:Tok}{b:Nat}{cs:List CA}{vs:List Value}{ns:List Int}{vx vk vy:Option Value}{Q:Flow->Ac->Prop}(I:IsC W)(hA:Aok 16 A)(hB:W.B.IsList scr vs.toArray)(hi:IntsAre vs ns)(hn:ns.length<=63)(hch:Chn 0 [] 0 (cs.map CA.c) 4 [] b)(hro:RwO cs)(hc:cs.length<=215)(S':Sta W G (bK L) (eU scr cl nm (ns.length/4) (ns.length-ns.length/4) ta tb b tg vx vk vy) (gW W nm cl [] cs N) s)(k:∀ lc cs s',Chn 0 [] 0 (cs.map CA.c) 4 [] b->RwO cs->cs.length<=300->Sta W G (bK L) lc ((cl,aA (aX cs))::(aI W cs++N)) s'->Q (.ret (.ref cl)) s'):∀ st:List Stmt,st=(aE bV).drop 9->Ad W.M A (execs st (bK L)) Q E s:=by
 intro st hst;subst hst;have hl:=IntsAre.len hi;simp only[gW]at S';walk_at "c";revert a';intro tp S';refine Sta.pushCal (cs:=cs) (c:=.txt "n") (d:=0) (l:=[]) (N:=(nm,aB [])::N) (by walk_at "o") (λ o ho=>ho) (λ x j e=>by cases e) ((S'.tell (c':=bH 0 (.txt "n")) .head λ o _ ho=>nS ho).perm (by walk_at "perm")) ?_;clear S';intro s' S';walk_at "c";refine Sta.getM_list S' (by walk_at "mem") F.slot_list_extend F.type_list_extend ?_;refine cR ?_ (by kernel_rfl) (by kernel_rfl);refine eR ?_ (by kernel_rfl);refine aC8 I (hA.le (by decide)) (hi.drop (ns.length-ns.length/4)) (by rw[List.length_drop];walk_at "o") (by kernel_rfl) (by kernel_rfl) (λ _=>by kernel_rfl) (λ _=>by kernel_rfl) S' (λ Q2 hq=>?_) ?_
 ·refine qG ?_ (by intro _ _;kernel_rfl);walk_at "c";exact SliceKB.mk (lo:=some ((ns.length-ns.length/4:Nat):Int)) S' hB (by rw[AK,Aw];walk_at "o") (.int _ _) .none λ a s2 S2=>hq a s2 (by rw[mT]at S2;exact S2)
 clear S';intro b1 os s' ho hlc S';refine args_nil ?_;have hlc2:os.length<=63:=by rw[hlc,List.length_drop];walk_at "o"
 have hlc3:(cs++[(⟨tp,.txt "n",0,[]⟩:CA)]).length<=216:=by rw[Ag];show cs.length+1<=_;walk_at "o"
 refine aCm S' (by walk_at "o") ?_;clear S';intro s' S';walk_at "c";revert a';intro tq S';refine Sta.pushCal (cs:=cs++[(⟨tp,.txt "n",0,[]⟩:CA)]++os) (c:=.pi (some "out")) (d:=0) (l:=[]) (N:=(nm,aB [])::N) (by rw[Ag];walk_at "o") (λ o ho=>ho) (λ x j e=>by cases e) ((S'.tell (c':=bH 0 (.pi (some "out"))) .head λ o _ ho=>by obtain⟨t,u,h⟩:=nS ho;exact⟨t,_,.of u zK,h⟩).perm (by walk_at "perm")) ?_;clear S';intro s' S';walk_at "c";refine k _ _ s' ?_ ?_ ?_ (S'.sel (Sel.rest [(nm,aB [])] (by walk_at "perm")))
 ·rw[Aq,Aq,Aq];exact(Chn.outs (λ c hc=>Step.behind hc) (λ c hc=>by obtain⟨r,hr,rfl⟩:=Aj.mp hc;exact ho r hr) (hch.snoc (.behind (c:=.txt "n") tx_n))).snoc (.behind (c:=.pi (some "out")) zK)
 ·exact((hro.append λ r hr x j e=>by rw[AA]at hr;subst hr;cases e).append (.outs ho)).append λ r hr x j e=>by rw[AA]at hr;subst hr;cases e
 ·rw[Ag,Ag];show _+_+1<=_;walk_at "o"
theorem aEK{scr:Addr}{vs:List Value}{ns:List Int}{Q:Value->Ac->Prop}(I:IsC W)(hA:Aok 20 A)(hB:W.B.IsList scr vs.toArray)(hi:IntsAre vs ns)(hn:ns.length<=63)(S:Sta W G env loc N s)(k:∀ cl cs b s',Chn 0 [] 0 (cs.map CA.c) 4 [] b->RwO cs->cs.length<=300->Sta W G env loc ((cl,aA (aX cs))::(aI W cs++N)) s'->Q (.ref cl) s'):Ad W.M A (call (.ref 199) [.ref scr]) Q E s:=by
 refine S.call_fnV bK (binds:=[("script",.ref scr)]) ["ahead","behind","calls","names","begun","x","kind","y"] I.f_l_calls hA (λ _ _ _ _ _=>BindsTo.of_eq (by kernel_rfl)) (by kernel_rfl) ?_;intro L A' s' hA' S';refine cJ S' ?_;clear S';intro lq Mq S';have hl:=IntsAre.len hi;refine aM ?_;generalize hst:Bv 0 (aE bV)=st;refine aCE I (hA'.le (by decide)) hB hi hn S' ?_ _ hst.symm;clear S';intro cl nm cs ta tb tg s' hch hro hcl S';refine cJ S' ?_;clear S';intro lq Mq S';refine bQ rfl ?_;refine wpAny_For ?_ (by intro _;kernel_rfl);refine qG ?_ (by intro _ _;kernel_rfl);walk_at "c";refine SliceKB.mk (lo:=some ((ns.length/4:Nat):Int)) (hi:=some ((ns.length-ns.length/4:Nat):Int)) S' hB (by rw[AK,Aw];walk_at "o") (.int _ _) (.int _ _) λ sl s2 S2=>?_;rw[xW _ _ _ (by walk_at "o") (by walk_at "o")]at S2;refine S2.iterL (.head _) ?_;clear S' S2;intro it s' S';refine aCD I (hA'.le (by decide)) ((hi.take (ns.length-ns.length/4)).drop (ns.length/4)) (by rw[List.length_drop,List.length_take];walk_at "o") (by walk_at "o") hch hro S' ?_ _ rfl;clear S';intro nms b tg cs vx vk vy s' hne hch hro h1 h2 S';refine bQ rfl ?_;refine aCB I (hA'.le (by decide)) hne hch hro h1 h2 S' ?_ _ _ rfl rfl;clear S';intro cs s' hch hro h3 S';refine aCA I (hA'.le (by decide)) hB hi hn hch hro h3 S' ?_ _ rfl;clear S';intro lc cs s' hch hro h4 S';exact k cl cs b s' hch hro h4 (Sta.back (S'.perm (by walk_at "perm")) S.eok)
end
end
end
theorem dZ(D:List (List NsP))(lv:List NsP):flat (D++[lv])=lv++flat D:=by
 unfold flat;rw[List.reverse_append];rfl
theorem eV{q:NsP}{ls:List (List NsP)}(h:ls≠[]):bY q ls=ls.dropLast++[ls.getLast h++[q]]:=by
 have e:=(Az h).symm
 conv=>lhs;rw[e]
 rw[iW]
theorem kP{q:NsP}{ls:List (List NsP)}(h:ls≠[]):(flat (bY q ls)).Perm (q::flat ls):=by
 have e:=(Az h).symm;rw[eV h,dZ]
 conv=>rhs;rw[e,dZ]
 rw[Ah];exact AM
noncomputable def U4:List Str:=["","urn:a","urn:b",lN]
theorem aBh:∀ u∈U4,u.length<=100:=by decide +kernel
noncomputable def Ext(n:Nat)(s s':NSt):Prop:=∃ D lv e,s.decl=D++[lv]/\s'.decl=D++[lv++e]/\e.length<=n
theorem Ext.refl{s:NSt}(h:s.decl≠[]):Ext 0 s s:=⟨s.decl.dropLast,s.decl.getLast h,[],(Az h).symm,by rw[Am];exact(Az h).symm,AN _⟩
theorem Ext.trans{n m:Nat}{s s' s'':NSt}(h:Ext n s s')(k:Ext m s' s''):Ext (n+m) s s'':=by
 obtain⟨D,lv,e,h1,h2,h3⟩:=h;obtain⟨D2,lv2,e2,k1,k2,k3⟩:=k;rw[h2]at k1;obtain⟨rfl,h4⟩:=List.append_inj' k1 rfl;injection h4 with h4
 subst h4;exact⟨D,lv,e++e2,h1,by rw[k2,Ah],by rw[Ag];walk_at "o"⟩
theorem Ext.le{n m:Nat}{s s':NSt}(h:Ext n s s')(e:n<=m):Ext m s s':=by
 obtain⟨D,lv,e2,h1,h2,h3⟩:=h;exact⟨D,lv,e2,h1,h2,by walk_at "o"⟩
theorem Ext.ne{n:Nat}{s s':NSt}(h:Ext n s s'):s'.decl≠[]:=by
 obtain⟨D,lv,e,h1,h2,h3⟩:=h;rw[h2];simp
structure Gd (rw:Bool) (n:Nat) (s:NSt):Prop where
 d1:∀ q∈flat s.decl,eY q
 d2:(flat s.decl).length<=n
 n1:∀ q∈flat s.nss,eY q
 n2:(flat s.nss).length<=1000
 pu:(s.pm.map (·.1)).Nodup
 ps:∀ q∈s.pm,q.1∈U4/\q.2.length<=1000
 nn:rw=false->∀ u∈U4,u≠""->∃ q∈flat s.nss,q.1=u
theorem pJ{β:Type}[DecidableEq β]:∀{l L:List β},l.Nodup->(∀ x∈l,x∈L)->l.length<=L.length
 | [],_,_,_=>AE _
 | x::r,L,hn,hs=>by
  rw[AP]at hn;have hx:=hs x (.head _);have h:=pJ (l:=r) (L:=L.erase x) hn.2 λ y hy=>(List.mem_erase_of_ne (λ e=>hn.1 (by rw[←e];exact hy))).mpr (hs y (.tail _ hy));rw[List.length_erase_of_mem hx]at h;have h2:=List.length_pos_of_mem hx;rw[AG];walk_at "o"
theorem Gd.pl{rw:Bool}{n:Nat}{s:NSt}(g:Gd rw n s):s.pm.length<=4:=by
 have:=pJ (L:=U4) g.pu λ x hx=>by
  obtain⟨q,hq,rfl⟩:=Aj.mp hx;exact(g.ps q hq).1
 rw[Ai]at this;exact Al this (by decide)
theorem Gd.nsOk{rw:Bool}{n:Nat}{s:NSt}(g:Gd rw n s)(hn:n<=60)(hne:s.decl≠[]):NsOk s where
 d1:=g.d1
 d2:=Al g.d2 hn
 n1:=g.n1
 n2:=g.n2
 p1:=λ q hq=>⟨by have:=aBh _ (g.ps q hq).1;walk_at "o",(g.ps q hq).2⟩
 p2:=by have:=g.pl;walk_at "o"
 ne:=hne
theorem Gd.le{rw:Bool}{n m:Nat}{s:NSt}(g:Gd rw n s)(h:n<=m):Gd rw m s:=⟨g.d1,Al g.d2 h,g.n1,g.n2,g.pu,g.ps,g.nn⟩
theorem rT(p l:Str):(kD p l).length<=p.length+1+l.length:=by
 unfold kD
 split
 ·walk_at "o"
 ·have h1:(":":Str).length=1:=by decide +kernel
  rw[Str.length_append,Str.length_append,h1];walk_at "o"
theorem yV{u p:Str}{l:List NsP}:∀{seen:List Str},eH u seen l=some p->(u,p)∈l:=by
 induction l with
 | nil=>exact λ h=>nomatch h
 | cons a r ih=>
  intro seen h;obtain⟨v,q⟩:=a;have h:(if v=u/\q∉seen then some q else eH u (seen++[q]) r)=some p:=h
  by_cases hc:v=u/\q∉seen
  ·rw[if_pos hc]at h;injection h with h
   rw[h,hc.1];exact .head _
  ·rw[if_neg hc]at h;exact .tail _ (ih h)
theorem Gd.lay{rw:Bool}{n:Nat}{s:NSt}(g:Gd rw n s)(hne:s.decl≠[]){u p:Str}{pm:List (Str×Str)}(hu:u∈U4)(hp:p.length<=1000)(pu:(pm.map (·.1)).Nodup)(ps:∀ q∈pm,q.1∈U4/\q.2.length<=1000):Gd rw (n+1) { s with decl:=bY (u,p) s.decl,pm:=pm }/\Ext 1 s { s with decl:=bY (u,p) s.decl,pm:=pm }:=by
 have hpm:=kP (q:=(u,p)) hne;refine⟨⟨λ q hq=>?_,?_,g.n1,g.n2,pu,ps,g.nn⟩,⟨s.decl.dropLast,s.decl.getLast hne,[(u,p)],(Az hne).symm,eV hne,AN _⟩⟩
 ·rcases Ax.mp (hpm.subset hq)with h | h
  ·rw[h];exact⟨by have:=aBh u hu;show u.length<=1000;walk_at "o",hp⟩
  ·exact g.d1 q h
 ·show(flat (bY (u,p) s.decl)).length<=n+1;rw[hpm.length_eq,AG];have:=g.d2;walk_at "o"
theorem aAH{k:Nat}(h:k<=60):(yH k).length<=1000:=by
 have h1:("n":Str).length=1:=by decide +kernel
 have h2:(Str.ofString (toString (k:Int))).length<=2:=pU ⟨k,by walk_at "o"⟩;show(("n":Str)++Str.ofString (toString (k:Int))).length<=1000;rw[Str.length_append,h1];walk_at "o"
theorem aCU{rw:Bool}{n:Nat}{s:NSt}{u:Str}(g:Gd rw n s)(hne:s.decl≠[])(hu:u∈U4)(l:Str):∃ tx s',qnV rw s u l=some (tx,s')/\Gd rw (n+1) s'/\s'.nss=s.nss/\Ext 1 s s'/\tx.length<=l.length+1001:=by
 have hl1:(":":Str).length=1:=by decide +kernel
 have same:∀ tx:Str,tx.length<=l.length+1001->∃ tx' s',some (tx,s)=some (tx',s')/\Gd rw (n+1) s'/\s'.nss=s.nss/\Ext 1 s s'/\tx'.length<=l.length+1001:=λ tx h=>⟨tx,s,rfl,g.le (Nat.le_succ _),rfl,(Ext.refl hne).le (AE _),h⟩
 unfold qnV;cases hf:eH u [] (flat s.decl)with
 | some p=>
  have h1:=(g.d1 _ (yV hf)).2;exact same _ (by have:=rT p l;dsimp only at h1;walk_at "o")
 | none=>
  dsimp only
  split
  ·cases hp:s.pm.find? λ q=>decide (q.1=u)with
   | some q=>
    have h1:=(g.ps q (List.mem_of_find?_eq_some hp)).2;obtain⟨a,b⟩:=g.lay hne hu h1 g.pu g.ps;exact⟨_,_,rfl,a,rfl,b,by rw[Str.length_append,Str.length_append,hl1];walk_at "o"⟩
   | none=>
    have hk:=aAH (k:=s.pm.length) (by have:=g.pl;walk_at "o");have hnu:u∉s.pm.map (·.1):=λ m=>by
     obtain⟨q,hq,e⟩:=Aj.mp m;have:=List.find?_eq_none.mp hp q hq;simp[e]at this
    obtain⟨a,b⟩:=g.lay (pm:=s.pm++[(u,yH s.pm.length)]) hne hu hk (by
     rw[Aq,Be];refine⟨g.pu,by simp,λ x hx y hy=>?_⟩;simp only[An,AF,AA]at hy;rw[hy];exact λ e=>hnu (e▸hx)) λ q hq=>by
     rcases AD.mp hq with h | h
     ·exact g.ps q h
     ·rw[AA.mp h];exact⟨hu,hk⟩
    exact⟨_,_,rfl,a,rfl,b,by rw[Str.length_append,Str.length_append,hl1];walk_at "o"⟩
  ·rename_i hrw
   split
   ·exact same l (by walk_at "o")
   ·cases hq:(flat s.nss).find? λ q=>decide (q.1=u)with
    | some q=>
     have h1:=(g.n1 q (List.mem_of_find?_eq_some hq)).2;obtain⟨a,b⟩:=g.lay hne hu h1 g.pu g.ps;exact⟨_,_,rfl,a,rfl,b,by have:=rT q.2 l;walk_at "o"⟩
    | none=>
     by_cases hu0:u=""
     ·dsimp only
      rw[if_pos hu0];exact same l (by walk_at "o")
     ·obtain⟨q,h1,h2⟩:=g.nn (by simpa using hrw) u hu hu0;have:=List.find?_eq_none.mp hq q h1;simp[h2]at this
theorem aAp{rw:Bool}{xs:List Str}:∀{n:Nat} {s:NSt},Gd rw n s->n+xs.length<=60->s.decl≠[]->(∀ x∈xs,nmU x∈U4)->
  ∃ res sv,eZ rw s xs=some (res,sv)/\zE rw s xs/\Gd rw (n+xs.length) sv/\sv.nss=s.nss/\Ext xs.length s sv/\∀ r∈res,r.1∈xs/\r.2.length<=(nmL r.1).length+1001:=by
 induction xs with
 | nil=>exact λ{n s} g hn hne _=>⟨[],s,rfl,trivial,g,rfl,Ext.refl hne,λ _ h=>nomatch h⟩
 | cons x r ih=>
  intro n s g hn hne hx;rw[AG]at hn ⊢;obtain⟨tx,s1,e1,g1,n1,x1,o1⟩:=aCU g hne (hx x (.head _)) (nmL x);obtain⟨res,sv,e2,q2,g2,n2,x2,o2⟩:=ih g1 (by walk_at "o") x1.ne λ y hy=>hx y (.tail _ hy);refine⟨(x,tx)::res,sv,?_,⟨g.nsOk (by walk_at "o") hne,_,e1,q2⟩,g2.le (by walk_at "o"),n2.trans n1,(x1.trans x2).le (by walk_at "o"),λ y hy=>?_⟩
  ·rw[mX,e1];show(eZ rw s1 r).map _=_;rw[e2];rfl
  ·rcases Ax.mp hy with h | h
   ·rw[h];exact⟨.head _,o1⟩
   ·exact⟨.tail _ (o2 y h).1,(o2 y h).2⟩
noncomputable def gK(ln:Str):Str:="{"++"urn:a"++"}"++ln
theorem aDb:("{":Str)=⟨#[123]⟩:=by decide +kernel
theorem aAl:("}":Str)=⟨#[125]⟩:=by decide +kernel
theorem co_eq:(":":Str)=⟨#[58]⟩:=by decide +kernel
theorem hW(ln:Str):(gK ln).cps.toList=[123]++(("urn:a":Str).cps.toList++125::ln.cps.toList):=by
 unfold gK;rw[eX,eX,eX,aDb,aAl];simp
theorem aAV(ln:Str):(gK ln).length=ln.length+7:=by
 rw[Str.len_list,hW,Str.len_list];have:("urn:a":Str).cps.toList.length=5:=by decide +kernel
 simp[this];walk_at "o"
theorem jA{ln:Str}(h:NoBr ln):Txt.slice (gK ln) none (some 1)="{"/\Txt.rsplitMax (Txt.slice (gK ln) (some 1) none) "}" 1=([("urn:a":Str),ln]:List Str):=by
 constructor
 ·rw[aAd (j:=1) (hW ln) rfl,aDb]
  rfl
 ·rw[aAe (j:=1) (hW ln) rfl,aAl,mV (A:=("urn:a":Str).cps.toList) (B:=ln.cps.toList) (by decide +kernel) rfl h,qH,qH]
theorem vL{ln:Str}(h:NoBr ln):nmU (gK ln)="urn:a":=by
 obtain⟨h1,h2⟩:=jA h;unfold nmU;rw[if_pos h1,h2]
 rfl
theorem aAW{ln:Str}(h:NoBr ln):nmL (gK ln)=ln:=by
 obtain⟨h1,h2⟩:=jA h;unfold nmL;rw[if_pos h1,h2]
 rfl
theorem aB6{ln:Str}(h:NoBr ln)(hl:ln.length<=2400):NmG (gK ln):=by
 obtain⟨h1,h2⟩:=jA h;unfold NmG;rw[vL h,aAW h];exact⟨by rw[aAV];walk_at "o",by decide +kernel,by walk_at "o",.inl ⟨h1,h2⟩⟩
theorem rY(ln:Str):bI (gK ln)=[sS (123::("urn:a":Str).cps.toList),ln]:=by
 unfold bI;rw[aAl,iE (A:=123::("urn:a":Str).cps.toList) (B:=ln.cps.toList) (by decide +kernel) (hW ln) (by decide +kernel),qH]
noncomputable def attN:List Str:=["k","{urn:a}k","{urn:b}k",spaceK]
theorem mC:∀ x∈nm5++attN,(x.length<=2500/\(nmU x).length<=2500/\(nmL x).length<=2500)/\((Txt.slice x none (some 1)="{"/\Txt.rsplitMax (Txt.slice x (some 1) none) "}" 1=[nmU x,nmL x])\/(Txt.slice x none (some 1)≠"{"/\nmU x=""/\nmL x=x)):=by decide +kernel
theorem aAE{x:Str}(h:x∈nm5++attN):NmG x:=⟨(mC x h).1.1,(mC x h).1.2.1,(mC x h).1.2.2,(mC x h).2⟩
theorem jO:∀ x∈nm5++attN,nmU x∈U4/\(nmL x).length<=100:=by decide +kernel
theorem xT:∀ x∈nm5++attN,∀ y∈nm5++attN,bI x=bI y->x=y:=by decide +kernel
theorem aBC:∀ y∈nm5++attN,(bI y).getD 1 ""=""\/((bI y).getD 1 "").cps.toList.head?≠some 120:=by decide +kernel
theorem qI:∀ j∈Bg 5,((fQ j).map (·.1)).Nodup/\(fQ j).length<=2/\(∀ q∈fQ j,q.1∈attN/\q.2.length<=1000):=by decide +kernel
theorem aBo:∀ x∈nm5,x∉attN:=by decide +kernel
theorem aB7{ln:Str}(h:ln.cps.toList.head?=some 120){y:Str}(hy:y∈nm5++attN):bI (gK ln)≠bI y:=by
 intro e;rw[rY]at e;have h1:(bI y).getD 1 ""=ln:=by rw[←e];rfl
 rcases aBC y hy with h2 | h2
 ·rw[h1]at h2;rw[h2]at h;exact absurd h (by decide +kernel)
 ·rw[h1]at h2;exact h2 h
noncomputable def ExOk(ex:List Str):Prop:=ex=[]\/∃ ln,ex=[gK ln]/\NoBr ln/\ln.length<=2400/\ln.cps.toList.head?=some 120
theorem aAb{rw:Bool}{n:Nat}{s:NSt}{D:List (List NsP)}{x:Str}{j:Nat}{l:List (Str×Str×Tok)}{ex:List Str}(g:Gd rw n s)(hn:n+4<=60)(hD:s.decl=D++[[]])(hx:x∈nm5)(hj:j<5)(hl:atQ l=fQ j)(hex:ExOk ex):∃ res sv,StOk rw s x l ex res sv/\Gd rw (n+4) sv/\sv.nss=s.nss/\∃ lv,sv.decl=D++[lv]/\lv.length<=4:=by
 obtain⟨r1,r2,r3⟩:=qI j (BC.mpr hj);have hk:l.map (·.1)=(fQ j).map (·.1):=by rw[←hl];simp[atQ]
 have hll:l.length=(fQ j).length:=by rw[←hl];simp[atQ]
 have hat:∀ y∈l.map (·.1),y∈attN:=λ y hy=>by
  rw[hk]at hy;obtain⟨q,hq,rfl⟩:=Aj.mp hy;exact(r3 q hq).1
 have htab:∀ y∈x::l.map (·.1),y∈nm5++attN:=λ y hy=>by
  rcases Ax.mp hy with h | h
  ·rw[h];exact Ak _ hx
  ·exact Af _ (hat y h)
 have hnd1:(x::l.map (·.1)).Nodup:=AP.mpr ⟨λ h=>aBo x hx (hat x h),by rw[hk];exact r1⟩;have hexl:ex.length<=1:=by rcases hex with rfl | ⟨ln,rfl,_⟩<;>simp
 have hne2:∀ y∈ex,∀ z∈x::l.map (·.1),bI y≠bI z:=λ y hy z hz=>by
  rcases hex with rfl | ⟨ln,rfl,h1,h2,h3⟩
  ·cases hy
  ·rw[AA.mp hy];exact aB7 h3 (htab z hz)
 have hgood:∀ y∈dH x l ex,NmG y/\nmU y∈U4/\(nmL y).length<=2400:=λ y hy=>by
  rcases AD.mp hy with h | h
  ·exact⟨aAE (htab y h),(jO y (htab y h)).1,by have:=(jO y (htab y h)).2;walk_at "o"⟩
  ·rcases hex with rfl | ⟨ln,rfl,h1,h2,h3⟩
   ·cases h
   ·rw[AA.mp h];exact⟨aB6 h1 h2,by rw[vL h1];decide +kernel,by rw[aAW h1];exact h2⟩
 have hnd:(dH x l ex).Nodup:=Be.mpr ⟨hnd1,by rcases hex with rfl | ⟨ln,rfl,_⟩<;>simp,λ y hy z hz e=>hne2 z hz y hy (by rw[e])⟩;have hlen:(dH x l ex).length<=4:=by
  unfold dH;rw[Ag,AG,Ai];walk_at "o"
 have hpm:=bP (lt:=ltK bI) (dH x l ex);have hdn:s.decl≠[]:=by rw[hD];simp
 obtain⟨res,sv,e1,e2,g2,n2,x2,o2⟩:=aAp (xs:=srt (ltK bI) (dH x l ex)) g (by rw[hpm.length_eq];walk_at "o") hdn λ y hy=>(hgood y (hpm.subset hy)).2.1;obtain⟨D2,lv,e,d1,d2,d3⟩:=x2;rw[hpm.length_eq]at g2 d3;rw[hD]at d1;obtain⟨rfl,h5⟩:=List.append_inj' d1 rfl;injection h5 with h5
 subst h5;rw[Ay]at d2;have htop:oN sv.decl=e:=by rw[d2];unfold oN;simp
 refine⟨res,sv,⟨hnd,hlen,λ y hy=>(hgood y hy).1,?_,e2,e1,by rw[htop];walk_at "o",?_,?_,?_⟩,g2.le (by walk_at "o"),n2,e,d2,by walk_at "o"⟩
 ·intro y hy z hz he;rcases AD.mp hy with h | h
  ·rcases AD.mp hz with k | k
   ·exact xT y (htab y h) z (htab z k) he
   ·exact absurd he.symm (hne2 z k y h)
  ·rcases AD.mp hz with k | k
   ·exact absurd he (hne2 y h z k)
   ·rcases hex with rfl | ⟨ln,rfl,_⟩
    ·cases h
    ·rw[AA.mp h,AA.mp k]
 ·intro r hr;rw[htop]at hr;exact g2.d1 r (by rw[d2,dZ];exact Ak _ hr)
 ·intro r hr;obtain⟨h1,h2⟩:=o2 r hr;have:=(hgood r.1 (hpm.subset h1)).2.2;walk_at "o"
 ·intro p hp;have:(p.1,p.2.1)∈fQ j:=by rw[←hl];exact Aj.mpr ⟨p,hp,rfl⟩
  exact(r3 _ this).2
section
noncomputable def told2:List NsP:=[("urn:a","p"),("urn:b","q")]
noncomputable abbrev zzP:NsP:=("urn:zz","zz")
noncomputable abbrev apP:NsP:=("urn:a","p")
noncomputable abbrev xmP:NsP:=(lN,"xml")
noncomputable def kZ:List NsP:=[("urn:a","p"),("urn:b","q"),zzP]
theorem nD:∀ q∈nmapV++kZ,eY q:=by
 have h:((nmapV++kZ).all λ q=>decide (q.1.length<=1000)&&decide (q.2.length<=1000))=true:=by decide +kernel
 intro q hq;have:=Bq.mp h q hq;simp only[AI,decide_eq_true_eq]at this;exact this
theorem aEc:∀ q∈nmapV++kZ,q.2="p"->q=apP:=by
 have h:((nmapV++kZ).all λ q=>decide (q.2≠"p")||decide (q=apP))=true:=by decide +kernel
 intro q hq e;have:=Bq.mp h q hq;simp only[Bool.or_eq_true,decide_eq_true_eq]at this;exact this.resolve_left λ h=>h e
theorem sN:xmP∈nmapV:=.head _
theorem tH(a b:List (List NsP)):flat (a++b)=flat b++flat a:=by unfold flat;rw[List.reverse_append,List.flatten_append]
structure NsI (rw:Bool) (i v n:Nat) (nss:List (List NsP)):Prop where
 sp:∃ B R,nss=B++R/\R.length=v/\B≠[]/\B.length<=2/\(∀ q∈told2.take i,q∈flat B)/\(rw=false->∀ q∈nmapV,q∈flat B)
 al:∀ q∈flat nss,q∈nmapV++kZ
 n:(flat nss).length<=n
variable {rw:Bool}{i v n:Nat}{nss:List (List NsP)}
theorem NsI.ne(h:NsI rw i v n nss):nss≠[]:=by
 obtain⟨B,R,e,_,h2,_⟩:=h.sp;rw[e];exact λ h=>h2 (List.append_eq_nil_iff.mp h).1
theorem NsI.len(h:NsI rw i v n nss):nss.length<=v+2/\v+1<=nss.length:=by
 obtain⟨B,R,e,h1,h2,h3,_⟩:=h.sp;have:=Br.mpr h2;rw[e,Ag];walk_at "o"
theorem NsI.small(h:NsI rw i v n nss):∀ q∈flat nss,eY q:=λ q hq=>nD q (h.al q hq)
theorem NsI.nn(h:NsI rw i v n nss)(hi:2<=i):rw=false->∀ u∈U4,u≠""->∃ q∈flat nss,q.1=u:=by
 intro hr u hu hu0;obtain⟨B,R,e,_,_,_,h3,h4⟩:=h.sp;rw[List.take_of_length_le (by exact hi)]at h3;have hB:∀ q∈flat B,q∈flat nss:=λ q hq=>by rw[e,tH];exact Af _ hq
 simp only[U4,Ax,Bx,or_false]at hu;rcases hu with rfl | rfl | rfl | rfl
 ·exact absurd rfl hu0
 ·exact⟨_,hB _ (h3 _ (.head _)),rfl⟩
 ·exact⟨_,hB _ (h3 _ (.tail _ (.head _))),rfl⟩
 ·exact⟨xmP,hB _ (h4 hr _ sN),rfl⟩
theorem NsI.p(h:NsI rw i v n nss)(hi:1<=i):(flat nss).find? (λ q=>decide (q.2=("p":Str)))=some apP:=by
 obtain⟨B,R,e,_,_,_,h3,_⟩:=h.sp;have hm:apP∈flat nss:=by
  rw[e,tH];refine Af _ (h3 _ ?_);obtain⟨k,rfl⟩:∃ k,i=k+1:=⟨i-1,by walk_at "o"⟩;exact .head _
 cases hf:(flat nss).find? λ q=>decide (q.2=("p":Str))with
 | none=>have:=List.find?_eq_none.mp hf _ hm;simp at this
 | some q=>
  have h1:=List.mem_of_find?_eq_some hf;have h2:q.2="p":=by simpa using List.find?_some hf
  rw[aEc q (h.al q h1) h2]
theorem NsI.laid{i1:Nat}{q:NsP}(h:NsI rw i v n nss)(hq:q∈kZ)(hi:i1=i\/(v=0/\∀ r∈told2.take i1,r=q\/r∈told2.take i)):NsI rw i1 v (n+1) (bY q nss):=by
 obtain⟨B,R,e,h1,h2,hB,h3,h4⟩:=h.sp;have hp:=kP (q:=q) h.ne;refine⟨?_,λ r hr=>?_,by rw[hp.length_eq,AG];have:=h.n;walk_at "o"⟩
 ·by_cases hR:R=[]
  ·subst hR;rw[Am]at e;subst e;have hp2:=kP (q:=q) h2;refine⟨bY q nss,[],by rw[Am],h1,by rw[eV h2];simp,by rw[eV h2,Ag,BN,AJ];have:=Br.mpr h2;walk_at "o",λ r hr=>hp2.symm.subset ?_,λ hr r hm=>hp2.symm.subset (.tail _ (h4 hr r hm))⟩;rcases hi with rfl | ⟨_,hi⟩
   ·exact .tail _ (h3 r hr)
   ·rcases hi r hr with rfl | hr
    ·exact .head _
    ·exact .tail _ (h3 r hr)
  ·have e2:=(Az hR).symm;refine⟨B,bY q R,?_,?_,h2,hB,?_,h4⟩
   ·rw[e,eV hR]
    conv=>lhs;rw[e2,←Ah,iW]
    rw[Ah]
   ·rw[eV hR,Ag,BN,AJ];have:=Br.mpr hR;walk_at "o"
   ·rcases hi with rfl | ⟨h0,_⟩
    ·exact h3
    ·exact absurd (Bz.mp (h1.trans h0)) hR
 ·rcases Ax.mp (hp.subset hr)with rfl | hr
  ·exact Af _ hq
  ·exact h.al r hr
theorem NsI.push(h:NsI rw i v n nss):NsI rw i (v+1) n (nss++[[]]):=by
 obtain⟨B,R,e,h1,h2,h3⟩:=h.sp;have hf:flat (nss++[[]])=flat nss:=by rw[dZ];rfl
 exact⟨⟨B,R++[[]],by rw[e,Ah],by simp[h1],h2,h3⟩,by rw[hf];exact h.al,by rw[hf];exact h.n⟩
theorem NsI.pop(h:NsI rw i (v+1) n nss):NsI rw i v n nss.dropLast:=by
 obtain⟨B,R,e,h1,h2,h3⟩:=h.sp;have hR:R≠[]:=λ e=>by rw[e]at h1;cases h1
 have e2:=(Az h.ne).symm;have hs:(flat nss.dropLast).Sublist (flat nss):=by
  conv=>rhs;rw[e2,dZ]
  exact List.sublist_append_right _ _
 exact⟨⟨B,R.dropLast,by rw[e,List.dropLast_append_of_ne_nil hR],by rw[BN];walk_at "o",h2,h3⟩,λ q hq=>h.al q (hs.subset hq),Al hs.length_le h.n⟩
theorem NsI.le{m:Nat}(h:NsI rw i v n nss)(e:n<=m):NsI rw i v m nss:=⟨h.sp,h.al,Al h.n e⟩
noncomputable def NsR(A B:List (List NsP)):Prop:=A=B.map (List.filter λ q=>decide (q≠zzP))
theorem NsR.flat{A B:List (List NsP)}(h:NsR A B):Mine.flat A=(Mine.flat B).filter λ q=>decide (q≠zzP):=by
 rw[show A=_ from h];unfold Mine.flat;rw[←List.map_reverse,List.filter_flatten]
theorem NsR.find{A B:List (List NsP)}(h:NsR A B)(f:NsP->Bool)(hz:f zzP=false):(Mine.flat A).find? f=(Mine.flat B).find? f:=by
 rw[h.flat,List.find?_filter]
 congr 1
 funext q
 by_cases e:q=zzP
 ·subst e;rw[hz];rfl
 ·rw[decide_eq_true e];cases f q<;>rfl
theorem pN{A:List (List NsP)}{q:NsP}(f:List NsP->List NsP)(g:List NsP->List NsP)(hA:A≠[])(h:∀ l,f (l++[q])=g (f l)):(bY q A).map f=(A.map f).dropLast++[g (f (A.getLast hA))]:=by
 rw[eV hA,Aq,BJ,List.map_singleton,h]
theorem NsR.zz{A B:List (List NsP)}(h:NsR A B)(hB:B≠[]):NsR A (bY zzP B):=by
 have e:=pN (A:=B) (q:=zzP) (List.filter λ q=>decide (q≠zzP)) id hB λ l=>by rw[List.filter_append];simp
 show A=_;rw[e,show A=_ from h]
 conv=>lhs;rw[(Az hB).symm]
 rw[Aq,←BJ]
 rfl
theorem NsR.laid{A B:List (List NsP)}{q:NsP}(h:NsR A B)(hB:B≠[])(hq:q≠zzP):NsR (bY q A) (bY q B):=by
 have e:=pN (A:=B) (q:=q) (List.filter λ q=>decide (q≠zzP)) (·++[q]) hB λ l=>by rw[List.filter_append];simp[hq]
 show bY q A=_;rw[e,show A=_ from h]
 conv=>lhs;rw[(Az hB).symm]
 rw[Aq,List.map_singleton,iW,←BJ]
theorem NsR.push{A B:List (List NsP)}(h:NsR A B):NsR (A++[[]]) (B++[[]]):=by
 show A++[[]]=_;rw[Aq,←show A=_ from h]
 rfl
theorem NsR.pop{A B:List (List NsP)}(h:NsR A B):NsR A.dropLast B.dropLast:=by
 show A.dropLast=_;rw[BJ,←show A=_ from h]
end
inductive TlS (st rw:Bool) (a:Ab) (x:Str) (l:List (Str×Str×Tok)) (a':Ab) (xs:List Str):Prop
 | mk (a1:Ab) (us ys:List Str) (h:a.ig=0) (hx:Tx x=false) (F:FlI st rw a a1 us) (hp:a1.pe=none) (B:AbB a1) (O:StV rw Tt a1 x l a' ys) (e:xs=us++ys)
inductive TlF (st rw:Bool) (a:Ab) (x:Str) (a':Ab) (xs:List Str):Prop
 | mk (a1:Ab) (us:List Str) (tx:Str) (sv:NSt) (pb:Bool) (h:a.ig=0) (F:FlI st rw a a1 us) (hg:NmG x) (hok:NsOk a1.ns) (hq:qnV rw a1.ns (nmU x) (nmL x)=some (tx,sv)) (htl:tx.length<=4000) (hp:a1.pe=none) (hne:a1.ns.nss≠[]) (hps:a1.ps.getLast?=some pb) (B:AbB a1) (e:a'=a1.ended sv) (e2:xs=us++[gD tx])
inductive TlN (st rw:Bool) (a:Ab) (q:NsP) (a':Ab) (xs:List Str):Prop
 | mk (a1:Ab) (h:a.ig=0) (F:FlI st rw a a1 xs) (hne:a1.ns.nss≠[]) (hfl:(flat a1.ns.nss).length<=1000) (e:a'=a1.told q)
inductive TlR (st rw:Bool) (a:Ab) (y:Str) (a':Ab) (xs:List Str):Prop
 | mk (us:List Str) (h:a.ig=0) (R:RmV st rw a a' us) (e:xs=us++y::iB a'.rs)
noncomputable def Tl(st rw com:Bool)(a:Ab)(c:Cal)(l:List (Str×Str×Tok))(a':Ab)(xs:List Str):Prop:=
 match c with
 | .ns p u=>(a.ig≠0/\a'=a/\xs=[])\/TlN st rw a (u,p) a' xs
 | .start x _=>((a.ig≠0\/Tx x=true)/\a'={ a with ig:=a.ig+1 }/\xs=[])\/TlS st rw a x l a' xs
 | .fin x=>(a.ig≠0/\a'={ a with ig:=a.ig-1 }/\xs=[])\/TlF st rw a x a' xs
 | .txt x=>(a.ig≠0/\a'=a/\xs=[])\/(a.ig=0/\a'={ a with held:=a.held++[x] }/\xs=[])
 | .co x=>((com=false\/a.ig≠0)/\a'=a/\xs=[])\/(com=true/\TlR st rw a (oC x) a' xs)
 | .pi o=>(a.ig≠0/\a'=a/\xs=[])\/TlR st rw a (gJ "m" o) a' xs
theorem TlF.g0{st rw:Bool}{a a':Ab}{x:Str}{xs:List Str}(h:TlF st rw a x a' xs):a.ig=0:=by cases h;assumption
theorem TlN.g0{st rw:Bool}{a a':Ab}{q:NsP}{xs:List Str}(h:TlN st rw a q a' xs):a.ig=0:=by cases h;assumption
section
variable {st rw com:Bool}{a a1 a2:Ab}{p u x tx:Str}{j:Nat}{o:Option Str}{l:List (Str×Str×Tok)}{xs ys:List Str}{sv:NSt}{pb:Bool}
theorem Tl.nsI(h:a.ig≠0):Tl st rw com a (.ns p u) l a []:=.inl ⟨h,rfl,rfl⟩
theorem Tl.ns(h:a.ig=0)(F:FlI st rw a a1 xs)(hne:a1.ns.nss≠[])(hfl:(flat a1.ns.nss).length<=1000):Tl st rw com a (.ns p u) l (a1.told (u,p)) xs:=.inr ⟨a1,h,F,hne,hfl,rfl⟩
theorem Tl.startI(h:a.ig≠0\/Tx x=true):Tl st rw com a (.start x j) l { a with ig:=a.ig+1 } []:=.inl ⟨h,rfl,rfl⟩
theorem Tl.start(h:a.ig=0)(hx:Tx x=false)(F:FlI st rw a a1 xs)(hp:a1.pe=none)(B:AbB a1)(O:StV rw Tt a1 x l a2 ys):Tl st rw com a (.start x j) l a2 (xs++ys):=.inr ⟨a1,xs,ys,h,hx,F,hp,B,O,rfl⟩
theorem Tl.finI(h:a.ig≠0):Tl st rw com a (.fin x) l { a with ig:=a.ig-1 } []:=.inl ⟨h,rfl,rfl⟩
theorem Tl.fin(h:a.ig=0)(F:FlI st rw a a1 xs)(hg:NmG x)(hok:NsOk a1.ns)(hq:qnV rw a1.ns (nmU x) (nmL x)=some (tx,sv))(htl:tx.length<=4000)(hp:a1.pe=none)(hne:a1.ns.nss≠[])(hps:a1.ps.getLast?=some pb)(B:AbB a1):Tl st rw com a (.fin x) l (a1.ended sv) (xs++[gD tx]):=.inr ⟨a1,xs,tx,sv,pb,h,F,hg,hok,hq,htl,hp,hne,hps,B,rfl,rfl⟩
theorem Tl.txtI(h:a.ig≠0):Tl st rw com a (.txt x) l a []:=.inl ⟨h,rfl,rfl⟩
theorem Tl.txt(h:a.ig=0):Tl st rw com a (.txt x) l { a with held:=a.held++[x] } []:=.inr ⟨h,rfl,rfl⟩
theorem Tl.coI(h:com=false\/a.ig≠0):Tl st rw com a (.co x) l a []:=.inl ⟨h,rfl,rfl⟩
theorem Tl.co(hc:com=true)(h:a.ig=0)(R:RmV st rw a a1 xs):Tl st rw com a (.co x) l a1 (xs++oC x::iB a1.rs):=.inr ⟨hc,xs,h,R,rfl⟩
theorem Tl.piI(h:a.ig≠0):Tl st rw com a (.pi o) l a []:=.inl ⟨h,rfl,rfl⟩
theorem Tl.pi(h:a.ig=0)(R:RmV st rw a a1 xs):Tl st rw com a (.pi o) l a1 (xs++gJ "m" o::iB a1.rs):=.inr ⟨xs,h,R,rfl⟩
end
structure Rel (a b:Ab):Prop where
 decl:b.ns.decl=a.ns.decl
 pm:b.ns.pm=a.ns.pm
 nss:NsR a.ns.nss b.ns.nss
 ps:b.ps=a.ps
 rs:b.rs=a.rs
 rd:b.rd=a.rd
 ig:b.ig=a.ig
 pe:b.pe=a.pe
 held:a.rs=true->b.held=a.held
structure NRel (s t:NSt):Prop where
 decl:t.decl=s.decl
 pm:t.pm=s.pm
 nss:NsR s.nss t.nss
theorem Rel.ns{a b:Ab}(h:Rel a b):NRel a.ns b.ns:=⟨h.decl,h.pm,h.nss⟩
theorem aAo{rw:Bool}{d n n2:List (List NsP)}{p:List (Str×Str)}{u l:Str}(hf:(flat n2).find? (λ q=>decide (q.1=u))=(flat n).find? λ q=>decide (q.1=u)):qnV rw ⟨d,n2,p⟩ u l=(qnV rw ⟨d,n,p⟩ u l).map λ r=>(r.1,⟨r.2.decl,n2,r.2.pm⟩):=by
 unfold qnV;dsimp only
 rw[hf];cases eH u [] (flat d)with
 | some q=>rfl
 | none=>
  dsimp only
  by_cases h1:rw=true
  ·rw[if_pos h1,if_pos h1];cases p.find? λ q=>decide (q.1=u)<;>rfl
  ·rw[if_neg h1,if_neg h1]
   by_cases h2:u=""/\("":Str)∉(flat d).map (·.2)
   ·rw[if_pos h2,if_pos h2];rfl
   ·rw[if_neg h2,if_neg h2];cases(flat n).find? λ q=>decide (q.1=u)with
    | some q=>rfl
    | none=>
     dsimp only
     by_cases h3:u=""
     ·rw[if_pos h3,if_pos h3];rfl
     ·rw[if_neg h3,if_neg h3];rfl
theorem aAn{rw:Bool}{s s':NSt}{u l x:Str}(h:qnV rw s u l=some (x,s')):s'.nss=s.nss:=by
 obtain⟨d,n,p⟩:=s;have e:=aAo (rw:=rw) (d:=d) (n:=n) (n2:=n) (p:=p) (u:=u) (l:=l) rfl;rw[h]at e;have e2:=congrArg (λ r:Str×NSt=>r.2.nss) (Option.some.inj e);exact e2
theorem aAm{rw:Bool}{s t s' t':NSt}{u l x y:Str}(R:NRel s t)(hu:u∈U4)(h:qnV rw s u l=some (x,s'))(k:qnV rw t u l=some (y,t')):y=x/\NRel s' t'/\s'.nss=s.nss/\t'.nss=t.nss:=by
 have hz:decide ((zzP:NsP).1=u)=false:=decide_eq_false λ e=>by rw[←e]at hu;exact absurd hu (by decide +kernel)
 have hf:=R.nss.find (λ q=>decide (q.1=u)) hz;have h1:=aAn h;have h2:=aAn k;obtain⟨d2,n2,p2⟩:=t;have hd:d2=s.decl:=R.decl;have hp:p2=s.pm:=R.pm;subst hd hp;rw[aAo (n:=s.nss) hf.symm,show(⟨s.decl,s.nss,s.pm⟩:NSt)=s from rfl,h]at k;obtain⟨rfl,rfl⟩:=Prod.mk.inj (Option.some.inj k);exact⟨rfl,⟨rfl,rfl,by rw[h1];exact R.nss⟩,h1,rfl⟩
theorem xZ{rw:Bool}{xs:List Str}:∀{s t s' t':NSt} {r q:List (Str×Str)},NRel s t->(∀ x∈xs,nmU x∈U4)->eZ rw s xs=some (r,s')->eZ rw t xs=some (q,t')->q=r/\NRel s' t':=by
 induction xs with
 | nil=>
  intro s t s' t' r q R _ h k;obtain⟨rfl,rfl⟩:=Prod.mk.inj (Option.some.inj h);obtain⟨rfl,rfl⟩:=Prod.mk.inj (Option.some.inj k);exact⟨rfl,R⟩
 | cons x xs ih=>
  intro s t s' t' r q R hu h k;rw[mX]at h k;obtain⟨p1,h1,h2⟩:=Option.bind_eq_some_iff.mp h;obtain⟨p2,k1,k2⟩:=Option.bind_eq_some_iff.mp k;obtain⟨r1,h3,h4⟩:=Option.map_eq_some_iff.mp h2;obtain⟨r2,k3,k4⟩:=Option.map_eq_some_iff.mp k2;have R1:=aAm (x:=p1.1) (s':=p1.2) (y:=p2.1) (t':=p2.2) R (hu x (.head _)) h1 k1;have R2:=ih (r:=r1.1) (s':=r1.2) (q:=r2.1) (t':=r2.2) R1.2.1 (λ y hy=>hu y (.tail _ hy)) h3 k3;obtain⟨rfl,rfl⟩:=Prod.mk.inj h4;obtain⟨rfl,rfl⟩:=Prod.mk.inj k4;exact⟨by rw[R1.1,R2.1],R2.2⟩
section
structure PeOk (st:Bool) (a:Ab) (tag:Str) (l:List (Str×Str×Tok)):Prop where
 rs:a.rs=true
 u:∀ y∈dH tag l [],nmU y∈U4
 x:∀ pb pre ln,Txt.splitMax (cG st pb a.held) ":" 1=[pre,ln]->pre="p"/\NoBr ln
 p:(flat a.ns.nss).find? (λ q=>decide (q.2=("p":Str)))=some apP
noncomputable def PeI(st:Bool)(a:Ab):Prop:=∀ tag l,a.pe=some (tag,l)->PeOk st a tag l
variable {st rw com:Bool}{a b a' b':Ab}{xs ys:List Str}
theorem NRel.opn{s t:NSt}(h:NRel s t):NRel s.opn t.opn:=⟨by show t.decl++_=s.decl++_;rw[h.decl],h.pm,h.nss⟩
theorem uL{s t s1 s2:NSt}{x:Str}{l:List (Str×Str×Tok)}{ex:List Str}{r1 r2:List (Str×Str)}(R:NRel s t)(hu:∀ y∈dH x l ex,nmU y∈U4)(h:StOk rw s x l ex r1 s1)(k:StOk rw t x l ex r2 s2):r2=r1/\NRel s1 s2:=
 xZ R (λ y hy=>hu y ((bP (lt:=ltK bI) (dH x l ex)).subset hy)) h.rs k.rs
theorem Rel.started{sv tv:NSt}{p:Bool}(R:Rel a b)(N:NRel sv tv):Rel (a.started sv p) (b.started tv p):=
 ⟨N.decl,N.pm,N.nss.push,by show b.ps++_=a.ps++_;rw[R.ps],rfl,R.rd,R.ig,rfl,λ _=>rfl⟩
theorem FlV.of_none(hp:a.pe=none)(h:FlV st rw a a' xs):∃ pb,a.ps.getLast?=some pb/\a'={ a with held:=[] }/\xs=flT a.rs (cG st pb a.held):=by
 cases h with
 | plain pb h _ e e2=>exact⟨pb,h,e,e2⟩
 | wait pb h tag l hp2=>exact iR (hp.symm.trans hp2)
theorem FlV.of_some{tag:Str}{l:List (Str×Str×Tok)}(hp:a.pe=some (tag,l))(h:FlV st rw a a' xs):∃ pb,a.ps.getLast?=some pb/\FlW st rw a tag l a' xs pb:=by
 cases h with
 | plain pb h hp2=>exact iR (hp2.symm.trans hp)
 | wait pb h tag2 l2 hp2 w=>
  obtain⟨rfl,rfl⟩:=Prod.mk.inj (Option.some.inj (hp.symm.trans hp2));exact⟨pb,h,w⟩
theorem aEs{tag:Str}{l:List (Str×Str×Tok)}{pb:Bool}(R:Rel a b)(P:PeOk st a tag l)(h:FlW st rw a tag l a' xs pb)(k:FlW st rw b tag l b' ys pb):ys=xs/\Rel a' b'/\b'.held=a'.held:=by
 have hh:=R.held P.rs
 induction h with
 | start res sv hn ok e e2=>
  induction k with
  | start res2 sv2 kn ok2 k1 k2=>
   obtain⟨rfl,N⟩:=uL R.ns P.u ok ok2;subst e e2 k1 k2;exact⟨by rw[hh,N.decl],R.started N,rfl⟩
  | name pre2 ln2 u2 res2 sv2 kn=>exact absurd (hh▸kn) hn
 | name pre ln u res sv hn hs hx hl hk hf ok e e2=>
  induction k with
  | start res2 sv2 kn=>exact absurd hn (hh▸kn)
  | name pre2 ln2 u2 res2 sv2 kn ks kx kl kk kf ok2 k1 k2=>
   obtain⟨rfl,hb⟩:=P.x _ _ _ hs;rw[hh,hs]at ks;obtain⟨rfl,ks2⟩:=List.cons.inj ks;obtain⟨rfl,_⟩:=List.cons.inj ks2;obtain⟨rfl,_⟩:=Prod.mk.inj (Option.some.inj (P.p.symm.trans hf));obtain⟨rfl,_⟩:=Prod.mk.inj (Option.some.inj (P.p.symm.trans ((R.nss.find (λ q=>decide (q.2=("p":Str))) (by decide +kernel)).trans kf)));obtain⟨rfl,N⟩:=uL R.ns (λ y hy=>by
    rcases AD.mp hy with h | h
    ·exact P.u y (Ak _ h)
    ·rw[AA.mp h];exact(vL hb).symm▸(by decide +kernel)) ok ok2
   subst e e2 k1 k2;exact⟨by rw[N.decl],R.started N,rfl⟩
theorem vS(R:Rel a b)(P:PeI st a)(h:FlV st rw a a' xs)(k:FlV st rw b b' ys):ys=xs/\Rel a' b'/\b'.held=a'.held:=by
 cases hp:a.pe with
 | none=>
  obtain⟨pb,h1,rfl,rfl⟩:=h.of_none hp;obtain⟨pb2,k1,rfl,rfl⟩:=k.of_none (R.pe.trans hp);rw[R.ps]at k1;obtain rfl:=Option.some.inj (h1.symm.trans k1);refine⟨?_,⟨R.decl,R.pm,R.nss,R.ps,R.rs,R.rd,R.ig,R.pe,λ _=>rfl⟩,rfl⟩;rw[R.rs];cases hr:a.rs with
  | true=>rw [R.held hr]
  | false=>rfl
 | some q=>
  obtain⟨pb,h1,h2⟩:=h.of_some hp;obtain⟨pb2,k1,k2⟩:=k.of_some (R.pe.trans hp);rw[R.ps]at k1;obtain rfl:=Option.some.inj (h1.symm.trans k1);exact aEs R (P _ _ hp) h2 k2
theorem aCj(hr:a.rs=false)(hp:a.pe=none)(h:FlV st rw a a' xs):xs=[]/\a'={ a with held:=[] }:=by
 obtain⟨pb,_,rfl,rfl⟩:=h.of_none hp;rw[hr];exact⟨rfl,rfl⟩
theorem rE(hr:a.rs=false)(hp:a.pe=none)(h:FlI st rw a a' xs):xs=[]/\a'={ a with held:=[] }:=by
 induction h with
 | keep h=>exact⟨rfl,by rw[←h]⟩
 | out _ F=>exact aCj hr hp F
theorem rD(R:Rel a b)(P:PeI st a)(h:FlI st rw a a' xs)(k:FlI st rw b b' ys):ys=xs/\Rel a' b'/\b'.held=a'.held:=by
 cases hr:a.rs with
 | false=>
  have hp:a.pe=none:=by
   cases e:a.pe with
   | none=>rfl
   | some p=>have:=(P p.1 p.2 e).rs;rw[hr]at this;cases this
  obtain⟨rfl,rfl⟩:=rE hr hp h;obtain⟨rfl,rfl⟩:=rE (R.rs.trans hr) (R.pe.trans hp) k;exact⟨rfl,⟨R.decl,R.pm,R.nss,R.ps,R.rs,R.rd,R.ig,R.pe,λ _=>rfl⟩,rfl⟩
 | true=>
  have hh:=R.held hr
  induction h with
  | keep h=>
   induction k with
   | keep k=>exact⟨rfl,R,hh⟩
   | out k _=>exact absurd (hh.trans h) k
  | out h F=>
   induction k with
   | keep k=>exact absurd (hh.symm.trans k) h
   | out k G=>exact vS R P F G
theorem aDD{x:Str}{l:List (Str×Str×Tok)}(R:Rel a b)(hh:b.held=a.held)(hu:∀ y∈dH x l [],nmU y∈U4)(h:StV rw Tt a x l a' xs)(k:StV rw Tt b x l b' ys):ys=xs/\Rel a' b':=by
 induction h with
 | wait h=>
  induction k with
  | wait k=>exact⟨rfl,⟨R.ns.opn.decl,R.pm,R.nss,R.ps,R.rs,R.rd,R.ig,rfl,λ _=>hh⟩⟩
  | now k _ _=>rw [h]at k;cases k
 | now h pb hp ok=>
  induction k with
  | wait k=>rw [h]at k;cases k
  | now k pb2 hp2 ok2=>
   rw[R.ps,hp]at hp2;obtain rfl:=Option.some.inj hp2;obtain⟨rfl,N⟩:=uL R.ns.opn hu ok ok2;have R2:Rel a.opn b.opn:=⟨R.ns.opn.decl,R.pm,R.nss,R.ps,R.rs,R.rd,R.ig,R.pe,λ _=>hh⟩
   exact⟨by rw[N.decl],R2.started N⟩
end
section
variable {st rw com:Bool}{a b a' b' a1 b1:Ab}{xs ys:List Str}
theorem aDM(R:Rel a b)(P:PeI st a)(h:RmV st rw a a' xs)(k:RmV st rw b b' ys):ys=xs/\Rel a' b':=by
 induction h with
 | done h=>
  induction k with
  | done k=>exact⟨rfl,R⟩
  | out k=>rw [R.rd,h]at k;cases k
  | keep k=>rw [R.rd,h]at k;cases k
 | out h hs hh F=>
  have e:=R.held hs
  induction k with
  | done k=>rw [R.rd,h]at k;cases k
  | out k _ _ G=>exact⟨(vS R P F G).1,(vS R P F G).2.1⟩
  | keep k kh=>rw [R.rs,hs,e]at kh;exact absurd kh (by simp[hh])
 | keep h hh=>
  induction k with
  | done k=>rw [R.rd,h]at k;cases k
  | out k ks kk G=>
   rw[R.rs]at ks;rw[R.held ks]at kk;rcases hh with hh | hh
   ·rw[ks]at hh;cases hh
   ·exact absurd hh kk
  | keep k kh=>exact⟨rfl,R⟩
theorem Rel.tell{q:NsP}(R:Rel a b)(hh:b.held=a.held)(hb:b.ns.nss≠[])(hq:q≠zzP):Rel (a.told q) (b.told q):=⟨R.decl,R.pm,R.nss.laid hb hq,R.ps,R.rs,R.rd,R.ig,R.pe,λ _=>hh⟩
theorem Rel.zz(R:Rel a b)(hb:b.ns.nss≠[]):Rel a (b.told zzP):=⟨R.decl,R.pm,R.nss.zz hb,R.ps,R.rs,R.rd,R.ig,R.pe,R.held⟩
theorem pi_in(R:Rel a b)(P:PeI st a)(hr:a.rs=true)(hd:a.rd=false)(h:RmV st rw a a1 xs)(k:FlI st rw b b1 ys)(hb:b1.ns.nss≠[]):ys=xs/\Rel a1 (b1.told zzP):=by
 have h2:FlI st rw a a1 xs:=by
  induction h with
  | done h=>rw [hd]at h;cases h
  | out h hs hh F=>exact .out hh F
  | keep h hh=>exact .keep (hh.resolve_left λ e=>by rw[hr]at e;cases e)
 obtain⟨e,R2,_⟩:=rD R P h2 k;exact⟨e,R2.zz hb⟩
theorem aAw(R:Rel a b)(hr:a.rs=false)(hd:a.rd=false)(hp:a.pe=none)(h:RmV st rw a a1 xs)(k:FlI st rw b b1 ys)(hb:b1.ns.nss≠[]):xs=[]/\ys=[]/\a1=a/\Rel a (b1.told zzP):=by
 obtain⟨rfl,rfl⟩:=rE (R.rs.trans hr) (R.pe.trans hp) k;have h2:xs=[]/\a1=a:=by
  induction h with
  | done h=>rw [hd]at h;cases h
  | out h hs=>rw [hr]at hs;cases hs
  | keep h hh=>exact⟨rfl,rfl⟩
 refine⟨h2.1,rfl,h2.2,R.decl,R.pm,R.nss.zz hb,R.ps,R.rs,R.rd,R.ig,R.pe,λ e=>?_⟩;rw[hr]at e;cases e
theorem Rel.ig_set(R:Rel a b)(n:Nat):Rel { a with ig:=n } { b with ig:=n }:=⟨R.decl,R.pm,R.nss,R.ps,R.rs,R.rd,rfl,R.pe,R.held⟩
noncomputable def CalU(a:Ab):Cal->List (Str×Str×Tok)->Prop
 | .ns p u,_=>((u,p):NsP)≠zzP
 | .start x _,l=>∀ y∈dH x l [],nmU y∈U4
 | .fin x,_=>nmU x∈U4
 | .pi _,_=>False
 | _,_=>True
theorem qA{c:Cal}{l:List (Str×Str×Tok)}(R:Rel a b)(P:PeI st a)(hu:CalU a c l)(h:Tl st rw com a c l a' xs)(k:Tl st rw com b c l b' ys):ys=xs/\Rel a' b':=by
 induction c with
 | ns p u=>
  rcases h with⟨h,rfl,rfl⟩ | ⟨a1,h,F,_,_,rfl⟩
  ·rcases k with⟨_,rfl,rfl⟩ | ⟨_,k⟩
   ·exact⟨rfl,R⟩
   ·exact absurd (R.ig.symm.trans k) h
  ·rcases k with⟨k,_⟩ | ⟨b1,_,G,kne,_,rfl⟩
   ·exact absurd (R.ig.trans h) k
   ·have e:=rD R P F G;exact⟨e.1,e.2.1.tell e.2.2 kne hu⟩
 | start x j=>
  rcases h with⟨h,rfl,rfl⟩ | ⟨a1,us,vs,h,hx,F,_,_,O,rfl⟩
  ·rcases k with⟨_,rfl,rfl⟩ | ⟨_,_,_,k,kx⟩
   ·exact⟨rfl,by rw[R.ig];exact R.ig_set _⟩
   ·exact absurd h (λ h=>h.elim (λ h=>h (R.ig.symm.trans k)) λ h=>AY (kx.symm.trans h))
  ·rcases k with⟨k,_⟩ | ⟨b1,us2,vs2,_,_,G,_,_,KO,rfl⟩
   ·exact absurd k (λ k=>k.elim (λ k=>k (R.ig.trans h)) λ k=>AY (hx.symm.trans k))
   ·have e:=rD R P F G;have e2:=aDD e.2.1 e.2.2 hu O KO;exact⟨by rw[e.1,e2.1],e2.2⟩
 | fin x=>
  rcases h with⟨h,rfl,rfl⟩ | ⟨a1,us,tx,sv,pb,h,F,_,_,hq,_,_,_,_,_,rfl,rfl⟩
  ·rcases k with⟨_,rfl,rfl⟩ | ⟨_,_,_,_,_,k⟩
   ·exact⟨rfl,by rw[R.ig];exact R.ig_set _⟩
   ·exact absurd (R.ig.symm.trans k) h
  ·rcases k with⟨k,_⟩ | ⟨b1,us2,tx2,sv2,pb2,_,G,_,_,kq,_,_,_,_,_,rfl,rfl⟩
   ·exact absurd (R.ig.trans h) k
   ·obtain⟨rfl,R2,hh⟩:=rD R P F G;obtain⟨rfl,N,_,_⟩:=aAm R2.ns hu hq kq;refine⟨rfl,congrArg List.dropLast N.decl,N.pm,N.nss.pop,congrArg List.dropLast R2.ps,R2.rs,?_,R2.ig,R2.pe,λ _=>hh⟩;show decide _=decide _;rw[R2.ps]
 | txt x=>
  rcases h with⟨h,rfl,rfl⟩ | ⟨h,rfl,rfl⟩
  ·rcases k with⟨_,rfl,rfl⟩ | ⟨k,_⟩
   ·exact⟨rfl,R⟩
   ·exact absurd (R.ig.symm.trans k) h
  ·rcases k with⟨k,_⟩ | ⟨_,rfl,rfl⟩
   ·exact absurd (R.ig.trans h) k
   ·exact⟨rfl,R.decl,R.pm,R.nss,R.ps,R.rs,R.rd,R.ig,R.pe,λ e=>by show b.held++_=a.held++_;rw[R.held e]⟩
 | co x=>
  rcases h with⟨h,rfl,rfl⟩ | ⟨hc,us,h,Q,rfl⟩
  ·rcases k with⟨_,rfl,rfl⟩ | ⟨kc,_,k⟩
   ·exact⟨rfl,R⟩
   ·exact absurd h (λ h=>h.elim (λ h=>AY (h.symm.trans kc)) λ h=>h (R.ig.symm.trans k))
  ·rcases k with⟨k,_⟩ | ⟨_,us2,_,Z,rfl⟩
   ·exact absurd k (λ k=>k.elim (λ k=>AY (k.symm.trans hc)) λ k=>k (R.ig.trans h))
   ·have e:=aDM R P Q Z;exact⟨by rw[e.1,e.2.rs],e.2⟩
 | pi o=>exact hu.elim
end
section
open PySem PySem.W PyProof.Rows PySem.W.X PySem.SeqAt PySem.Builtin.Str
theorem mM{p:Nat->Bool}{c:Nat}(hc:p c=false):∀(A B:List Nat),((A++c::B).takeWhile p).length<=A.length
 | [],B=>by rw[Ay,List.takeWhile_cons,hc];exact AN 0
 | a::A,B=>by
  rw[Av,List.takeWhile_cons]
  split
  ·exact Bc (mM hc A B)
  ·exact AE _
theorem zU{x:Str}{r:List Nat}(h:x.cps.toList=112::58::120::r):∃ m,(Txt.strip x).cps.toList=112::58::120::r.take m:=by
 have h0:PySem.stripLo Unicode.isSpace true x=0:=by
  show(x.cps.toList.takeWhile Unicode.isSpace).length=0;have:=mM (p:=Unicode.isSpace) (c:=112) (by decide +kernel) [] (58::120::r);rw[h];exact Nat.le_zero.mp this
 have h1:∃ m,PySem.stripHi Unicode.isSpace true x 0=3+m:=by
  have:=mM (p:=Unicode.isSpace) (c:=120) (by decide +kernel) r.reverse [58,112];have hl:x.length=r.length+3:=by rw[Str.len_list,h];simp
  have hr:x.cps.toList.reverse=r.reverse++120::[58,112]:=by rw[h];simp
  rw[List.length_reverse,←hr]at this;refine⟨x.length-(x.cps.toList.reverse.takeWhile Unicode.isSpace).length-3,?_⟩;show x.length-(x.cps.toList.reverse.takeWhile Unicode.isSpace).length=_;walk_at "o"
 unfold Txt.strip Txt.stripBy
 split
 ·exact⟨r.length,by rw[BO];exact h⟩
 ·obtain⟨m,hm⟩:=h1;refine⟨m,?_⟩;show(strSub x (PySem.stripLo Unicode.isSpace true x) (PySem.stripHi Unicode.isSpace true x (PySem.stripLo Unicode.isSpace true x))).cps.toList=_;rw[h0,hm,StrLaws.strSub_toList,h,Nat.sub_zero,List.drop_zero,BB]
  rfl
theorem rX{x:Str}{r:List Nat}(h:x.cps.toList=112::58::120::r):Txt.splitMax x ":" 1=[("p":Str),sS (120::r)]:=by
 rw[co_eq,iE (A:=[112]) (B:=120::r) (by decide +kernel) h (by decide)]
 rfl
end
section
theorem aCi{m:Nat}:∀{D:List (List NsP)},(∀ l∈D,l.length<=m)->(flat D).length<=m*D.length:=by
 intro D
 induction D with
 | nil=>intro _;exact AE _
 | cons l D ih=>
  intro h;have h1:=h l (.head _);have h2:=ih λ y hy=>h y (.tail _ hy);have e:(flat (l::D)).length=(flat D).length+l.length:=by
   unfold flat;rw[List.reverse_cons,List.flatten_append,Ag];simp
  rw[e,AG,Nat.mul_succ];walk_at "o"
noncomputable def pn{α:Type}:Option α->Nat
 | none=>0
 | some _=>1
structure Iva (rw:Bool) (i:Nat) (ns:List Str) (b k:Nat) (a:Ab):Prop where
 nb:ns.length<=b+1
 b9:b<=9
 k3:k<=300
 ns0:ns=[]↔(i<=2\/i=4)
 rs:a.rs=decide (3<=i)
 rd:a.rd=decide (i=4)
 ig:a.ig<=ns.length-1
 vis:∀ y∈ns.take (ns.length-a.ig),y∈nm5
 dl:a.ns.decl.length=1+(ns.length-a.ig)
 lv:∀ l∈a.ns.decl,l.length<=4
 d1:∀ q∈flat a.ns.decl,eY q
 pu:(a.ns.pm.map (·.1)).Nodup
 pp:∀ q∈a.ns.pm,q.1∈U4/\q.2.length<=1000
 nss:NsI rw (min i 2) (ns.length-a.ig-pn a.pe) (9+k) a.ns.nss
 ps:a.ps.length=1+(ns.length-a.ig)-pn a.pe
 hk:a.held.length<=k
 ht:∀ x∈a.held,fU x
 pe:∀ t l,a.pe=some (t,l)->t="t"/\(∃ j,j<5/\atQ l=fQ j)/\(∃ D,a.ns.decl=D++[[]])/\2<=ns.length-a.ig/\((i=5/\a.ig=0/\a.held=[])\/(i=6/\a.ig=0/\a.held=[("p:":Str)])\/∃ r,a.held=("p:":Str)::("x":Str)::r)
variable {st rw com:Bool}{i b k:Nat}{ns:List Str}{a:Ab}
theorem Iva.gd(I:Iva rw i ns b k a)(hi:2<=i):Gd rw 44 a.ns where
 d1:=I.d1
 d2:=by have h1:=aCi I.lv;rw[I.dl]at h1;have h2:=I.nb;have h3:=I.b9;walk_at "o"
 n1:=I.nss.small
 n2:=by have h1:=I.nss.n;have h3:=I.k3;walk_at "o"
 pu:=I.pu
 ps:=I.pp
 nn:=I.nss.nn (by walk_at "o")
theorem Iva.pe3(I:Iva rw i ns b k a){p:Str×List (Str×Str×Tok)}(h:a.pe=some p):3<=i/\i≠4:=by
 obtain⟨_,_,_,h2,_⟩:=I.pe p.1 p.2 h;have h3:¬(i<=2\/i=4):=λ e=>by rw[I.ns0.mpr e]at h2;simp at h2
 walk_at "o"
theorem Iva.psn(I:Iva rw i ns b k a):∃ pb,a.ps.getLast?=some pb:=by
 have h:=I.ps;have hp:1<=a.ps.length:=by
  cases e:a.pe with
  | none=>rw [h,e];show 1<=1+_-0;walk_at "o"
  | some p=>obtain⟨_,_,_,h2,_⟩:=I.pe p.1 p.2 e;rw[h,e];show 1<=1+_-1;walk_at "o"
 have hne:a.ps≠[]:=λ e=>by rw[e]at hp;exact absurd hp (by decide)
 exact⟨_,List.getLast?_eq_some_getLast hne⟩
theorem oE:∀{l:List Str},(∀ x∈l,fU x)->(cat l).length<=8*l.length:=by
 intro l
 induction l with
 | nil=>intro _;exact AN 0
 | cons x r ih=>
  intro h;have h1:=(h x (.head _)).2.1;have h2:=ih λ y hy=>h y (.tail _ hy);show(x++cat r).length<=_;rw[Str.length_append,AG];walk_at "o"
theorem aA8{l:List Str}(h:∀ x∈l,fU x):NoBr (cat l):=λ m=>by
 rw[jZ]at m;obtain⟨y,hy,hm⟩:=List.mem_flatMap.mp m;exact(h y hy).2.2 hm
theorem aAt{pb:Bool}{r:List Str}(hh:a.held=("p:":Str)::("x":Str)::r)(ht:∀ x∈a.held,fU x)(hk:a.held.length<=300):∃ q,(cG st pb a.held).cps.toList=112::58::120::q/\125∉q/\q.length<=2397:=by
 have e1:(cat a.held).cps.toList=112::58::120::(cat r).cps.toList:=by
  rw[hh];show("p:"++("x"++cat r)).cps.toList=_;rw[eX,eX,show("p:":Str).cps.toList=[112,58]from by decide +kernel,show("x":Str).cps.toList=[120]from by decide +kernel]
  rfl
 have h1:=oE ht;rw[Str.len_list,e1]at h1;simp only[AG]at h1;have h2:125∉(cat r).cps.toList:=λ m=>aA8 ht (by rw[e1];simp[m]);unfold cG
 split
 ·obtain⟨m,hm⟩:=zU e1;exact⟨_,hm,λ h=>h2 (List.mem_of_mem_take h),by rw[List.length_take];walk_at "o"⟩
 ·exact⟨_,e1,h2,by walk_at "o"⟩
theorem Iva.started{sv:NSt}{p:Bool}{D:List (List NsP)}{q:Str×List (Str×Str×Tok)}{lv:List NsP}(I:Iva rw i ns b k a)(hp:a.pe=some q)(hD:a.ns.decl=D++[[]])(g:Gd rw 48 sv)(hn:sv.nss=a.ns.nss)(hd:sv.decl=D++[lv])(hl:lv.length<=4):Iva rw i ns b k (a.started sv p) where
 nb:=I.nb
 b9:=I.b9
 k3:=I.k3
 ns0:=I.ns0
 rs:=(decide_eq_true (I.pe3 hp).1).symm
 rd:=I.rd
 ig:=I.ig
 vis:=I.vis
 dl:=by
  have h:=I.dl;rw[hD,Ag]at h;show sv.decl.length=_;rw[hd,Ag];exact h
 lv:=λ l h=>by
  have h:l∈sv.decl:=h;rw[hd]at h;rcases AD.mp h with h | h
  ·exact I.lv l (by rw[hD];exact Ak _ h)
  ·rw[AA.mp h];exact hl
 d1:=g.d1
 pu:=g.pu
 pp:=g.ps
 nss:=by
  obtain⟨_,_,_,h2,_⟩:=I.pe q.1 q.2 hp;have h:=I.nss;rw[hp]at h;show NsI rw _ (ns.length-a.ig-0) _ (sv.nss++[[]]);rw[hn,show ns.length-a.ig-0=ns.length-a.ig-1+1 from by walk_at "o"];exact h.push
 ps:=by
  obtain⟨_,_,_,h2,_⟩:=I.pe q.1 q.2 hp;have h:=I.ps;rw[hp]at h;show(a.ps++[p]).length=1+(ns.length-a.ig)-0;rw[Ag,h];show 1+(ns.length-a.ig)-1+1=_;walk_at "o"
 hk:=AE _
 ht:=λ x h=>by cases h
 pe:=λ t l h=>by cases h
theorem aDh(I:Iva rw i ns b k a)(h5:a.ig=0->i≠5/\i≠6):∃ a' xs,FlV st rw a a' xs/\Iva rw i ns b k a'/\a'.pe=none/\a'.held=[]/\a'.ig=a.ig:=by
 obtain⟨pb,hpb⟩:=I.psn;cases hp:a.pe with
 | none=>exact⟨_,_,.plain pb hpb hp rfl rfl,⟨I.nb,I.b9,I.k3,I.ns0,I.rs,I.rd,I.ig,I.vis,I.dl,I.lv,I.d1,I.pu,I.pp,I.nss,I.ps,AE _,λ x h=>(by cases h),λ t l h=>by rw[show a.pe=some (t,l)from h]at hp;cases hp⟩,hp,rfl,rfl⟩
 | some q=>
  obtain⟨t,l⟩:=q;have h3:=I.pe3 hp;obtain⟨rfl,⟨j,hj,hl⟩,⟨D,hD⟩,h2,hh⟩:=I.pe t l hp;obtain⟨r,hr⟩:∃ r,a.held=("p:":Str)::("x":Str)::r:=by
   rcases hh with⟨h,h0,_⟩ | ⟨h,h0,_⟩ | h
   ·exact absurd h (h5 h0).1
   ·exact absurd h (h5 h0).2
   ·exact h
  obtain⟨q,hq,hb,hql⟩:=aAt (st:=st) (pb:=pb) hr I.ht (Al I.hk I.k3);have g:=I.gd (by walk_at "o")
  by_cases hn:aBj (cG st pb a.held)
  ·have hln:(sS (120::q)).cps.toList=120::q:=rfl;have hll:(sS (120::q)).length<=2400:=by rw[Str.len_list,hln,AG];walk_at "o"
   obtain⟨res,sv,ok,g2,n2,lv,d2,hlv⟩:=aAb (ex:=[gK (sS (120::q))]) g (by decide) hD (x:="t") (by decide +kernel) hj hl (.inr ⟨_,rfl,λ m=>by rw[hln]at m;rcases Ax.mp m with e | e;exact absurd e (by decide);exact hb e,hll,rfl⟩);exact⟨_,_,.wait pb hpb _ _ hp (.name _ _ _ _ _ hn (rX hq) (by rw[Str.len_list,hq];simp only[AG];walk_at "o") hll (g.nsOk (by decide) (by rw[hD];simp)) (I.nss.p (by walk_at "o")) ok rfl rfl),I.started hp hD g2 n2 d2 hlv,rfl,rfl,rfl⟩
  ·obtain⟨res,sv,ok,g2,n2,lv,d2,hlv⟩:=aAb (ex:=[]) g (by decide) hD (x:="t") (by decide +kernel) hj hl (.inl rfl);exact⟨_,_,.wait pb hpb _ _ hp (.start _ _ hn ok rfl rfl),I.started hp hD g2 n2 d2 hlv,rfl,rfl,rfl⟩
end
section
variable {st rw com:Bool}{i i1 b k:Nat}{ns:List Str}{a:Ab}{l:List (Str×Str×Tok)}
theorem Iva.mono{k2:Nat}(I:Iva rw i ns b k a)(h:k<=k2)(h3:k2<=300):Iva rw i ns b k2 a:=⟨I.nb,I.b9,h3,I.ns0,I.rs,I.rd,I.ig,I.vis,I.dl,I.lv,I.d1,I.pu,I.pp,I.nss.le (by walk_at "o"),I.ps,Al I.hk h,I.ht,I.pe⟩
theorem aA2(I:Iva rw i ns b k a)(h5:a.ig=0->i≠5/\i≠6):∃ a' xs,FlI st rw a a' xs/\Iva rw i ns b k a'/\a'.pe=none/\a'.held=[]/\a'.ig=a.ig:=by
 by_cases hh:a.held=[]
 ·refine⟨a,[],.keep hh,I,?_,hh,rfl⟩;cases hp:a.pe with
  | none=>rfl
  | some q=>
   obtain⟨_,_,_,_,h⟩:=I.pe q.1 q.2 hp;rcases h with⟨h,h0,_⟩ | ⟨h,h0,_⟩ | ⟨r,h⟩
   ·exact absurd h (h5 h0).1
   ·exact absurd h (h5 h0).2
   ·rw[hh]at h;cases h
 ·obtain⟨a',xs,F,h⟩:=aDh (st:=st) I h5;exact⟨a',xs,.out hh F,h⟩
theorem aCT(I:Iva rw i ns b k a)(h5:a.ig=0->i≠5/\i≠6):∃ a' xs,RmV st rw a a' xs/\Iva rw i ns b k a':=by
 cases hd:a.rd with
 | true=>exact⟨_,_,.done hd,I⟩
 | false=>
  cases hs:a.rs with
  | false=>exact⟨_,_,.keep hd (.inl hs),I⟩
  | true=>
   by_cases hh:a.held=[]
   ·exact⟨_,_,.keep hd (.inr hh),I⟩
   ·obtain⟨a',xs,F,h,_⟩:=aDh (st:=st) I h5;exact⟨a',xs,.out hd hs hh F,h⟩
theorem Iva.told{q:NsP}(I:Iva rw i ns b k a)(hk:k<300)(hp:a.pe=none)(hq:q∈kZ)(h3:3<=i1↔3<=i)(h4:i1=4↔i=4)(hi:min i1 2=min i 2\/(ns=[]/\∀ r∈told2.take (min i1 2),r=q\/r∈told2.take (min i 2))):Iva rw i1 ns b (k+1) (a.told q) where
 nb:=I.nb
 b9:=I.b9
 k3:=hk
 ns0:=I.ns0.trans (by walk_at "o")
 rs:=I.rs.trans (decide_eq_decide.mpr h3.symm)
 rd:=I.rd.trans (decide_eq_decide.mpr h4.symm)
 ig:=I.ig
 vis:=I.vis
 dl:=I.dl
 lv:=I.lv
 d1:=I.d1
 pu:=I.pu
 pp:=I.pp
 nss:=I.nss.laid hq (hi.imp id λ h=>⟨by rw[h.1];simp,h.2⟩)
 ps:=I.ps
 hk:=BK I.hk
 ht:=I.ht
 pe:=λ t l h=>by rw[show a.pe=some (t,l)from h]at hp;cases hp
theorem aAC{p u:Str}(I:Iva rw i ns b k a)(hk:k<300)(hq:((u,p):NsP)∈kZ)(h5:i≠5/\i≠6)(h3:3<=i1↔3<=i)(h4:i1=4↔i=4)(hi:min i1 2=min i 2\/(ns=[]/\∀ r∈told2.take (min i1 2),r=(u,p)\/r∈told2.take (min i 2)))(hz:a.ig≠0->i1=i):∃ a' xs,Tl st rw com a (.ns p u) l a' xs/\Iva rw i1 ns b (k+1) a':=by
 by_cases h0:a.ig=0
 ·obtain⟨a1,xs,F,I1,hp,_⟩:=aA2 (st:=st) I λ _=>h5;exact⟨_,_,.ns h0 F I1.nss.ne (by have:=I1.nss.n;walk_at "o"),I1.told hk hp hq h3 h4 hi⟩
 ·exact⟨_,_,.nsI h0,by rw[hz h0];exact I.mono (Nat.le_succ _) hk⟩
theorem Iva.txt{x:Str}(I:Iva rw i ns b k a)(hk:k<300)(hx:fU x)(h3:3<=i1↔3<=i)(h4:i1=4↔i=4)(h2:min i1 2=min i 2)(hp:∀ q,a.pe=some q->((i=5/\a.ig=0/\a.held=[])\/(i=6/\a.ig=0/\a.held=[("p:":Str)])\/∃ r,a.held=("p:":Str)::("x":Str)::r)->((i1=5/\a.ig=0/\a.held++[x]=[])\/(i1=6/\a.ig=0/\a.held++[x]=[("p:":Str)])\/∃ r,a.held++[x]=("p:":Str)::("x":Str)::r)):Iva rw i1 ns b (k+1) { a with held:=a.held++[x] } where
 nb:=I.nb
 b9:=I.b9
 k3:=hk
 ns0:=I.ns0.trans (by walk_at "o")
 rs:=I.rs.trans (decide_eq_decide.mpr h3.symm)
 rd:=I.rd.trans (decide_eq_decide.mpr h4.symm)
 ig:=I.ig
 vis:=I.vis
 dl:=I.dl
 lv:=I.lv
 d1:=I.d1
 pu:=I.pu
 pp:=I.pp
 nss:=by rw[h2];exact I.nss.le (by walk_at "o")
 ps:=I.ps
 hk:=by show(a.held++[x]).length<=k+1;rw[Ag];have:=I.hk;exact Bc this
 ht:=λ y hy=>by
  rcases AD.mp hy with h | h
  ·exact I.ht y h
  ·rw[AA.mp h];exact hx
 pe:=λ t l h=>by
  obtain⟨e1,e2,e3,e4,e5⟩:=I.pe t l h;exact⟨e1,e2,e3,e4,hp _ h e5⟩
theorem uW{c:Cal}(I:Iva rw i ns b k a)(hk:k<300)(h5:i≠5/\i≠6)(hc:fD c):∃ a' xs,Tl st rw com a c l a' xs/\Iva rw i ns b (k+1) a':=by
 have hm:Iva rw i ns b (k+1) a:=I.mono (Nat.le_succ _) hk
 by_cases h0:a.ig=0
 ·cases c with
  | txt x=>
   refine⟨_,_,.txt h0,I.txt hk hc Iff.rfl Iff.rfl rfl λ q hq h=>?_⟩;rcases h with⟨h,_⟩ | ⟨h,_⟩ | ⟨r,h⟩
   ·exact absurd h h5.1
   ·exact absurd h h5.2
   ·exact .inr (.inr ⟨r++[x],by rw[h];rfl⟩)
  | co x=>
   cases hcm:com with
   | false=>exact⟨_,_,.coI (.inl rfl),hm⟩
   | true=>
    obtain⟨a1,xs,R,I1⟩:=aCT (st:=st) hm λ _=>h5;exact⟨_,_,.co rfl h0 R,I1⟩
  | pi o=>
   obtain⟨a1,xs,R,I1⟩:=aCT (st:=st) hm λ _=>h5;exact⟨_,_,.pi h0 R,I1⟩
  | ns p u=>exact hc.elim
  | start x j=>exact hc.elim
  | fin x=>exact hc.elim
 ·cases c with
  | txt x=>exact⟨_,_,.txtI h0,hm⟩
  | co x=>exact⟨_,_,.coI (.inr h0),hm⟩
  | pi o=>exact⟨_,_,.piI h0,hm⟩
  | ns p u=>exact hc.elim
  | start x j=>exact hc.elim
  | fin x=>exact hc.elim
end
section
variable {st rw com:Bool}{i i1 b b1 k:Nat}{ns:List Str}{a:Ab}{l:List (Str×Str×Tok)}
theorem tt_t:Tt "t"=true:=by decide +kernel
theorem tt_eq:∀ x∈nm5,Tt x=true->x="t":=by decide +kernel
theorem Iva.bd(I:Iva rw i ns b k a):AbB a:=by
 have h1:=I.nb;have h2:=I.b9;have h3:=I.ps;have h4:=I.dl;have h5:=I.nss.len;exact⟨by walk_at "o",by walk_at "o",by walk_at "o"⟩
theorem Iva.skip{x:Str}(I:Iva rw 3 ns b k a)(hk:k<300)(hne:ns≠[])(hb:b1<=9)(hn:ns.length+1<=b1+1)(h1:i1=3\/i1=5):Iva rw i1 (ns++[x]) b1 (k+1) { a with ig:=a.ig+1 }:=by
 have hl:0<ns.length:=Br.mpr hne;have hg:=I.ig;have hv:(ns++[x]).length-(a.ig+1)=ns.length-a.ig:=by rw[Ag,AJ];walk_at "o"
 have hv2:min i1 2=min 3 2:=by walk_at "o"
 exact{
  nb:=by rw[Ag];exact hn
  b9:=hb
  k3:=hk
  ns0:=⟨λ h=>by simp at h,λ h=>by walk_at "o"⟩
  rs:=I.rs.trans (decide_eq_decide.mpr (by walk_at "o"))
  rd:=I.rd.trans (decide_eq_decide.mpr (by walk_at "o"))
  ig:=by show a.ig+1<=_;rw[Ag,AJ];walk_at "o"
  vis:=λ y h=>by
   have h:y∈(ns++[x]).take ((ns++[x]).length-(a.ig+1)):=h;rw[hv,List.take_append_of_le_length (by walk_at "o")]at h;exact I.vis y h
  dl:=I.dl.trans (by show _=1+((ns++[x]).length-(a.ig+1));rw[hv])
  lv:=I.lv
  d1:=I.d1
  pu:=I.pu
  pp:=I.pp
  nss:=by
   show NsI rw (min i1 2) ((ns++[x]).length-(a.ig+1)-pn a.pe) _ _;rw[hv,hv2];exact I.nss.le (by walk_at "o")
  ps:=I.ps.trans (by show _=1+((ns++[x]).length-(a.ig+1))-pn a.pe;rw[hv])
  hk:=BK I.hk
  ht:=I.ht
  pe:=λ t l h=>by
   obtain⟨e1,e2,e3,e4,e5⟩:=I.pe t l h;refine⟨e1,e2,e3,by show 2<=(ns++[x]).length-(a.ig+1);rw[hv];exact e4,.inr (.inr ?_)⟩;rcases e5 with⟨h,_⟩ | ⟨h,_⟩ | h
   ·cases h
   ·cases h
   ·exact h }
theorem Gd.opn{n:Nat}{s:NSt}(g:Gd rw n s):Gd rw n s.opn:=by
 have e:flat s.opn.decl=flat s.decl:=by show flat (s.decl++[[]])=_;rw[dZ];rfl
 exact⟨by rw[e];exact g.d1,by rw[e];exact g.d2,g.n1,g.n2,g.pu,g.ps,g.nn⟩
theorem mO{x:Str}{j:Nat}(I:Iva rw i ns b k a)(hk:k<300)(hi:i=3/\ns≠[]\/i=2/\Tx x=false/\Tt x=false)(hx:x∈nm5)(hj:j<5)(hl:atQ l=fQ j)(hb:b1<=9)(hn:ns.length+1<=b1+1)(h1:i1=if x="t" then 5 else 3):∃ a' xs,Tl st rw com a (.start x j) l a' xs/\Iva rw i1 (ns++[x]) b1 (k+1) a':=by
 have hi1:i1=3\/i1=5:=by rw[h1];split;exact .inr rfl;exact .inl rfl
 have hv0:i=2->ns=[]:=λ h=>I.ns0.mpr (.inl (by walk_at "o"))
 by_cases h0:a.ig≠0\/Tx x=true
 ·have h3:i=3/\ns≠[]:=by
   rcases hi with h | ⟨h,h2,_⟩
   ·exact h
   ·have:=I.ig;rw[hv0 h]at this;rcases h0 with h0 | h0
    ·exact absurd (Nat.le_zero.mp this) h0
    ·rw[h2]at h0;cases h0
  obtain⟨rfl,hne⟩:=h3;exact⟨_,_,.startI h0,I.skip hk hne hb hn hi1⟩
 ·have hg:a.ig=0:=Classical.byContradiction λ h=>h0 (.inl h);have hxx:Tx x=false:=by
   cases e:Tx x with
   | false=>rfl
   | true=>exact absurd (.inr e) h0
  obtain⟨a1,xs,F,I1,hp,hh,hg1⟩:=aA2 (st:=st) I λ _=>by walk_at "o"
  rw[hg]at hg1;have hv:(ns++[x]).length-a1.ig=ns.length-a1.ig+1:=by rw[Ag,AJ,hg1];walk_at "o"
  have hvis:∀ y∈(ns++[x]).take ((ns++[x]).length-a1.ig),y∈nm5:=λ y h=>by
   have h:=List.mem_of_mem_take h;rcases AD.mp h with h | h
   ·exact I1.vis y (by rw[hg1,Nat.sub_zero,BO];exact h)
   ·rw[AA.mp h];exact hx
  have hm:min i1 2=min i 2:=by walk_at "o"
  have hnn:=I1.nss;rw[hp,show ns.length-a1.ig-pn (none:Option (Str×List (Str×Str×Tok)))=ns.length-a1.ig from rfl]at hnn;have hps:=I1.ps;rw[hp,show 1+(ns.length-a1.ig)-pn (none:Option (Str×List (Str×Str×Tok)))=1+(ns.length-a1.ig)from rfl]at hps;cases ht:Tt x with
  | true=>
   have hxt:=tt_eq x hx ht;have h3:i=3/\ns≠[]:=hi.resolve_right λ h=>by rw[ht]at h;cases h.2.2
   have hl0:0<ns.length:=Br.mpr h3.2;rw[if_pos hxt]at h1;refine⟨_,_,.start hg hxx F hp I1.bd (.wait ht),?_⟩;exact{
    nb:=by rw[Ag];exact hn
    b9:=hb
    k3:=hk
    ns0:=⟨λ h=>by simp at h,λ h=>by walk_at "o"⟩
    rs:=I1.rs.trans (decide_eq_decide.mpr (by walk_at "o"))
    rd:=I1.rd.trans (decide_eq_decide.mpr (by walk_at "o"))
    ig:=by show a1.ig<=_;rw[hg1];exact AE _
    vis:=hvis
    dl:=by show(a1.ns.decl++[[]]).length=1+((ns++[x]).length-a1.ig);rw[Ag,I1.dl,hv];rfl
    lv:=λ lv h=>by
     rcases AD.mp (show lv∈a1.ns.decl++[[]]from h)with h | h
     ·exact I1.lv lv h
     ·rw[AA.mp h];exact AE _
    d1:=(I1.gd (by walk_at "o")).opn.d1
    pu:=I1.pu
    pp:=I1.pp
    nss:=by
     show NsI rw (min i1 2) ((ns++[x]).length-a1.ig-1) _ a1.ns.nss;rw[hv,hm];exact hnn.le (by walk_at "o")
    ps:=by show a1.ps.length=1+((ns++[x]).length-a1.ig)-1;rw[hv,hps];walk_at "o"
    hk:=by show a1.held.length<=_;rw[hh];exact AE _
    ht:=λ y h=>by have h:y∈a1.held:=h;rw[hh]at h;cases h
    pe:=λ t l2 h=>by
     obtain⟨rfl,rfl⟩:=Prod.mk.inj (Option.some.inj h);exact⟨hxt,⟨j,hj,hl⟩,⟨_,rfl⟩,by show 2<=(ns++[x]).length-a1.ig;rw[hv,hg1];walk_at "o",.inl ⟨h1,hg1,hh⟩⟩ }
  | false=>
   have hxt:x≠"t":=λ e=>by rw[e,tt_t]at ht;cases ht
   rw[if_neg hxt]at h1;obtain⟨pb,hpb⟩:=I1.psn;obtain⟨res,sv,ok,g2,n2,lv,d2,hlv⟩:=aAb (ex:=[]) (D:=a1.ns.decl) (I1.gd (by walk_at "o")).opn (by decide) rfl hx hj hl (.inl rfl);refine⟨_,_,.start hg hxx F hp I1.bd (.now ht pb hpb ok),?_⟩;exact{
    nb:=by rw[Ag];exact hn
    b9:=hb
    k3:=hk
    ns0:=⟨λ h=>by simp at h,λ h=>by walk_at "o"⟩
    rs:=(decide_eq_true (by walk_at "o")).symm
    rd:=I1.rd.trans (decide_eq_decide.mpr (by walk_at "o"))
    ig:=by show a1.ig<=_;rw[hg1];exact AE _
    vis:=hvis
    dl:=by show sv.decl.length=1+((ns++[x]).length-a1.ig);rw[d2,Ag,I1.dl,hv];rfl
    lv:=λ q h=>by
     have h:q∈sv.decl:=h;rw[d2]at h;rcases AD.mp h with h | h
     ·exact I1.lv q h
     ·rw[AA.mp h];exact hlv
    d1:=g2.d1
    pu:=g2.pu
    pp:=g2.ps
    nss:=by
     show NsI rw (min i1 2) ((ns++[x]).length-a1.ig-0) _ (sv.nss++[[]]);rw[hv,hm,n2];exact(hnn.push).le (by walk_at "o")
    ps:=by show(a1.ps++[_]).length=1+((ns++[x]).length-a1.ig)-0;rw[hv,Ag,hps];rfl
    hk:=AE _
    ht:=λ y h=>by cases h
    pe:=λ t l2 h=>by cases h }
end
section
variable {st rw com:Bool}{i i1 b b1 k:Nat}{ns ns1:List Str}{a:Ab}{l:List (Str×Str×Tok)}
theorem Ext.drop{n:Nat}{s s':NSt}(h:Ext n s s'):s'.decl.dropLast=s.decl.dropLast:=by
 obtain⟨D,lv,e,h1,h2,_⟩:=h;rw[h1,h2,List.dropLast_concat,List.dropLast_concat]
theorem yS{D:List (List NsP)}:∀ q∈flat D.dropLast,q∈flat D:=by
 intro q h
 by_cases e:D=[]
 ·rw[e]at h;exact absurd h (by simp[flat])
 ·have e2:=(Az e).symm;rw[e2,dZ];exact Af _ h
theorem aA1{x:Str}(I:Iva rw 3 (ns++[x]) b k a)(hk:k<300)(h1:i1=if ns=[]then 4 else 3):∃ a' xs,Tl st rw com a (.fin x) l a' xs/\Iva rw i1 ns b (k+1) a':=by
 have hlen:(ns++[x]).length=ns.length+1:=by rw[Ag,AJ]
 have hnb:=I.nb;rw[hlen]at hnb;have hig:=I.ig;rw[hlen,Nat.add_sub_cancel]at hig;have hm:min i1 2=min 3 2:=by rw[h1];split<;>rfl
 have hns0:ns=[]↔(i1<=2\/i1=4):=by
  rw[h1]
  split
  ·rename_i h;exact⟨λ _=>.inr rfl,λ _=>h⟩
  ·rename_i h;exact⟨λ e=>absurd e h,λ e=>by walk_at "o"⟩
 have hrs:3<=i1:=by rw[h1];split<;>decide
 by_cases hg:a.ig=0
 ·obtain⟨a1,xs,F,I1,hp,hh,hg1⟩:=aA2 (st:=st) I λ _=>by decide
  rw[hg]at hg1;have hx:x∈nm5:=I1.vis x (by rw[hg1,Nat.sub_zero,BO];simp);have g:=I1.gd (by decide);have hd:=I1.dl;rw[hg1,hlen]at hd;have hne:a1.ns.decl≠[]:=λ e=>by rw[e,List.length_nil]at hd;walk_at "o"
  obtain⟨tx,sv,hq,g2,n2,ex,htl⟩:=aCU g hne (jO x (Ak _ hx)).1 (nmL x);have hxl:=(jO x (Ak _ hx)).2;obtain⟨pb,hpb⟩:=I1.psn;have hps:=I1.ps;rw[hp,hg1,hlen,show 1+(ns.length+1-0)-pn (none:Option (Str×List (Str×Str×Tok)))=ns.length+2 from by show 1+(ns.length+1-0)-0=_;walk_at "o"]at hps;have hnn:=I1.nss;rw[hp,hg1,hlen,show ns.length+1-0-pn (none:Option (Str×List (Str×Str×Tok)))=ns.length+1 from rfl]at hnn;refine⟨_,_,.fin hg F (aAE (Ak _ hx)) (g.nsOk (by decide) hne) hq (by walk_at "o") hp I1.nss.ne hpb I1.bd,?_⟩;exact{
   nb:=BL hnb
   b9:=I.b9
   k3:=hk
   ns0:=hns0
   rs:=I1.rs.trans (decide_eq_decide.mpr (by walk_at "o"))
   rd:=by
    show decide (a1.ps.length=2)=_;rw[hps];refine decide_eq_decide.mpr ?_;rw[h1]
    split
    ·rename_i h;rw[h];exact⟨λ _=>rfl,λ _=>rfl⟩
    ·rename_i h;have:=Br.mpr h;walk_at "o"
   ig:=by show a1.ig<=_;rw[hg1];exact AE _
   vis:=λ y h=>I1.vis y (by
    rw[hg1,Nat.sub_zero,BO];exact Ak _ (List.mem_of_mem_take h))
   dl:=by
    show sv.decl.dropLast.length=1+(ns.length-a1.ig);rw[ex.drop,BN,hd,hg1];walk_at "o"
   lv:=λ q h=>by
    have h:q∈sv.decl.dropLast:=h;rw[ex.drop]at h;exact I1.lv q (List.dropLast_subset _ h)
   d1:=λ q h=>by
    have h:q∈flat sv.decl.dropLast:=h;exact g2.d1 q (yS q h)
   pu:=g2.pu
   pp:=g2.ps
   nss:=by
    show NsI rw (min i1 2) (ns.length-a1.ig-pn a1.pe) _ sv.nss.dropLast;rw[hm,n2,hp,hg1];exact hnn.pop.le (by walk_at "o")
   ps:=by
    show a1.ps.dropLast.length=1+(ns.length-a1.ig)-pn a1.pe;rw[BN,hps,hg1,hp];show _=1+(ns.length-0)-0;walk_at "o"
   hk:=by show a1.held.length<=_;rw[hh];exact AE _
   ht:=λ y h=>by have h:y∈a1.held:=h;rw[hh]at h;cases h
   pe:=λ t l2 h=>by rw[show a1.pe=some (t,l2)from h]at hp;cases hp }
 ·have hpos:0<ns.length:=by walk_at "o"
  have hn0:ns≠[]:=Br.mp hpos;rw[if_neg hn0]at h1;have hv:(ns++[x]).length-a.ig=ns.length-(a.ig-1):=by rw[hlen];walk_at "o"
  refine⟨_,_,.finI hg,?_⟩;exact{
   nb:=BL hnb
   b9:=I.b9
   k3:=hk
   ns0:=hns0
   rs:=I.rs.trans (decide_eq_decide.mpr (by walk_at "o"))
   rd:=I.rd.trans (decide_eq_decide.mpr (by walk_at "o"))
   ig:=by show a.ig-1<=_;walk_at "o"
   vis:=λ y h=>I.vis y (by
    have h:y∈ns.take (ns.length-(a.ig-1)):=h;rw[hv,List.take_append_of_le_length (by walk_at "o")];exact h)
   dl:=by show _=1+(ns.length-(a.ig-1));rw[←hv];exact I.dl
   lv:=I.lv
   d1:=I.d1
   pu:=I.pu
   pp:=I.pp
   nss:=by
    show NsI rw (min i1 2) (ns.length-(a.ig-1)-pn a.pe) _ _;rw[←hv,hm];exact I.nss.le (by walk_at "o")
   ps:=by show _=1+(ns.length-(a.ig-1))-pn a.pe;rw[←hv];exact I.ps
   hk:=BK I.hk
   ht:=I.ht
   pe:=λ t l h=>by
    obtain⟨e1,e2,e3,e4,e5⟩:=I.pe t l h;refine⟨e1,e2,e3,by show 2<=ns.length-(a.ig-1);rw[←hv];exact e4,.inr (.inr ?_)⟩;rcases e5 with⟨h,_⟩ | ⟨h,_⟩ | h
    ·cases h
    ·cases h
    ·exact h }
theorem t_ok{x:Str}(I:Iva rw i ns b k a)(hk:k<300)(h:i=5/\i1=6/\x="p:"\/i=6/\i1=3/\x="x"):∃ a' xs,Tl st rw com a (.txt x) l a' xs/\Iva rw i1 ns b (k+1) a':=by
 have hx:fU x:=by
  rcases h with⟨_,_,rfl⟩ | ⟨_,_,rfl⟩
  ·exact tx_p
  ·exact tx_x
 by_cases h0:a.ig=0
 ·refine⟨_,_,.txt h0,I.txt hk hx (by walk_at "o") (by walk_at "o") (by walk_at "o") λ q hq e=>?_⟩;rcases e with⟨e,_,e2⟩ | ⟨e,_,e2⟩ | ⟨r,e⟩
  ·rcases h with⟨_,h6,rfl⟩ | ⟨h,_⟩
   ·exact .inr (.inl ⟨h6,h0,by rw[e2];rfl⟩)
   ·walk_at "o"
  ·rcases h with⟨h,_⟩ | ⟨_,h6,rfl⟩
   ·walk_at "o"
   ·exact .inr (.inr ⟨[],by rw[e2];rfl⟩)
  ·exact .inr (.inr ⟨r++[x],by rw[e];rfl⟩)
 ·refine⟨_,_,.txtI h0,?_⟩;have I:=I.mono (Nat.le_succ k) hk;exact⟨I.nb,I.b9,I.k3,I.ns0.trans (by walk_at "o"),I.rs.trans (decide_eq_decide.mpr (by walk_at "o")),I.rd.trans (decide_eq_decide.mpr (by walk_at "o")),I.ig,I.vis,I.dl,I.lv,I.d1,I.pu,I.pp,(show min i1 2=min i 2 from by walk_at "o")▸I.nss,I.ps,I.hk,I.ht,λ t l e=>by
   obtain⟨e1,e2,e3,e4,e5⟩:=I.pe t l e;refine⟨e1,e2,e3,e4,.inr (.inr ?_)⟩;rcases e5 with⟨_,h,_⟩ | ⟨_,h,_⟩ | h
   ·exact absurd h h0
   ·exact absurd h h0
   ·exact h⟩
theorem zN{c:Cal}(I:Iva rw i ns b k a)(hk:k<300)(s:Step i ns b c i1 ns1 b1)(hl:∀ x j,c=.start x j->atQ l=fQ j):∃ a' xs,Tl st rw com a c l a' xs/\Iva rw i1 ns1 b1 (k+1) a':=by
 have hnb:=I.nb
 induction s with
 | p=>exact aAC I hk (by decide +kernel) (by decide) (by decide) (by decide) (.inr ⟨rfl,by decide +kernel⟩) λ h=>absurd (Nat.le_zero.mp I.ig) h
 | q=>exact aAC I hk (by decide +kernel) (by decide) (by decide) (by decide) (.inr ⟨rfl,by decide +kernel⟩) λ h=>absurd (Nat.le_zero.mp I.ig) h
 | ahead h=>exact uW I hk (by decide) h
 | r=>exact mO I hk (.inr ⟨rfl,by decide +kernel,by decide +kernel⟩) (by decide +kernel) (by decide) (hl _ _ rfl) (by decide) (by decide) (by rw[if_neg (by decide +kernel)])
 | start hb hx hxt hj hne=>exact mO I hk (.inl ⟨rfl,hne⟩) hx hj (hl _ _ rfl) (by walk_at "o") (by walk_at "o") (by rw[if_neg hxt])
 | startT hb hj hne=>exact mO I hk (.inl ⟨rfl,hne⟩) (by decide +kernel) hj (hl _ _ rfl) (by walk_at "o") (by walk_at "o") (by rw[if_pos rfl])
 | t1 hne=>exact t_ok I hk (.inl ⟨rfl,rfl,rfl⟩)
 | t2 hne=>exact t_ok I hk (.inr ⟨rfl,rfl,rfl⟩)
 | fin hne=>exact aA1 I hk (by rw[if_neg hne])
 | mid h hne=>exact uW I hk (by decide) h
 | last=>exact aA1 (ns:=[]) I hk rfl
 | behind h=>exact uW I hk (by decide) h
theorem zz_ok(I:Iva rw i ns b k a)(hk:k<300)(h5:i≠5/\i≠6):∃ a' xs,Tl st rw com a (.ns "zz" "urn:zz") l a' xs/\Iva rw i ns b (k+1) a':=
 aAC I hk (by decide +kernel) h5 Iff.rfl Iff.rfl (.inl rfl) λ _=>rfl
theorem Iva.pei(I:Iva rw i ns b k a)(h5:a.ig=0->i≠5/\i≠6):PeI st a:=λ t l hp=>by
 have h3:=I.pe3 hp;obtain⟨rfl,⟨j,hj,hl⟩,_,_,hh⟩:=I.pe t l hp;refine⟨I.rs.trans (decide_eq_true h3.1),λ y hy=>?_,λ pb pre ln hs=>?_,I.nss.p (by walk_at "o")⟩
 ·rcases AD.mp hy with h | h
  ·rcases Ax.mp h with h | h
   ·rw[h];exact(jO _ (by decide +kernel)).1
   ·have:y∈(fQ j).map (·.1):=by rw[←hl];simpa[atQ]using h
    obtain⟨q,hq,rfl⟩:=Aj.mp this;exact(jO _ (Af _ ((qI j (BC.mpr hj)).2.2 q hq).1)).1
  ·cases h
 ·obtain⟨r,hr⟩:∃ r,a.held=("p:":Str)::("x":Str)::r:=by
   rcases hh with⟨h,h0,_⟩ | ⟨h,h0,_⟩ | h
   ·exact absurd h (h5 h0).1
   ·exact absurd h (h5 h0).2
   ·exact h
  obtain⟨q,hq,hb,hql⟩:=aAt (st:=st) (pb:=pb) hr I.ht (Al I.hk I.k3);rw[rX hq]at hs;injection hs with e1 e2
  injection e2 with e2
  refine⟨e1.symm,?_⟩;rw[←e2];exact λ m=>(Ax.mp m).elim (λ e=>absurd e (by decide)) hb
end
section
variable {st rw com:Bool}{i i1 n n1 k:Nat}{ns ns1:List Str}{a b:Ab}{l:List (Str×Str×Tok)}
noncomputable def aEO(c:Cal)(b:Bool):Bool:=match c with | .start _ _=>true | _=>b
noncomputable def uK(c:Cal)(ns ns1:List Str):Prop:=match c with | .start x _=>ns1=ns++[x] | .fin x=>ns=ns1++[x] | _=>ns1=ns
noncomputable def CalF:Cal->Prop
 | .ns p u=>((u,p):NsP)≠zzP
 | .start x j=>x∈nm5/\j<5
 | .co x=>x.length<=8
 | .pi (some x)=>x.length<=8
 | _=>True
noncomputable def aD3(i i1 n n1:Nat):Cal->Prop
 | .txt _=>True
 | .pi _=>(i=2\/i=3\/i=4)/\i1=i/\n1=n
 | _=>i≠5/\i≠6
structure StepF (i:Nat) (ns:List Str) (n:Nat) (c:Cal) (i1:Nat) (ns1:List Str) (n1:Nat):Prop where
 bg:aEO c (decide (3<=i))=decide (3<=i1)
 sk:uK c ns ns1
 cf:CalF c
 pf:aD3 i i1 n n1 c
theorem aAB{c:Cal}(h:fD c)(hi:i=2\/i=3\/i=4):StepF i ns n c i ns n:=by
 have h5:i≠5/\i≠6:=by walk_at "o"
 induction c with
 | txt x=>exact⟨rfl,rfl,trivial,trivial⟩
 | co x=>exact⟨rfl,rfl,h.2.1,h5⟩
 | pi o=>exact⟨rfl,rfl,(match o,h with | none,_=>trivial | some x,h=>h.2.1),hi,rfl,rfl⟩
 | ns p u=>exact h.elim
 | start x j=>exact h.elim
 | fin x=>exact h.elim
theorem iM{c:Cal}(s:Step i ns n c i1 ns1 n1):StepF i ns n c i1 ns1 n1:=by
 induction s with
 | p=>exact⟨rfl,rfl,(by decide +kernel:(("urn:a","p"):NsP)≠zzP),(by decide:0≠5/\0≠6)⟩
 | q=>exact⟨rfl,rfl,(by decide +kernel:(("urn:b","q"):NsP)≠zzP),(by decide:1≠5/\1≠6)⟩
 | ahead h=>exact aAB h (.inl rfl)
 | r=>exact⟨rfl,rfl,⟨by decide +kernel,by decide⟩,(by decide:2≠5/\2≠6)⟩
 | start hb hx hxt hj hne=>exact⟨rfl,rfl,⟨hx,hj⟩,(by decide:3≠5/\3≠6)⟩
 | startT hb hj hne=>exact⟨rfl,rfl,⟨by decide +kernel,hj⟩,(by decide:3≠5/\3≠6)⟩
 | t1 hne=>exact⟨rfl,rfl,trivial,trivial⟩
 | t2 hne=>exact⟨rfl,rfl,trivial,trivial⟩
 | fin hne=>exact⟨rfl,rfl,trivial,(by decide:3≠5/\3≠6)⟩
 | mid h hne=>exact aAB h (.inr (.inl rfl))
 | last=>exact⟨rfl,rfl,trivial,(by decide:3≠5/\3≠6)⟩
 | behind h=>exact aAB h (.inr (.inr rfl))
theorem row_u{x:Str}{j:Nat}(hx:x∈nm5)(hj:j<5)(hl:atQ l=fQ j):∀ y∈dH x l [],nmU y∈U4:=λ y hy=>by
 rcases AD.mp hy with h | h
 ·rcases Ax.mp h with h | h
  ·rw[h];exact(jO _ (Ak _ hx)).1
  ·have:y∈(fQ j).map (·.1):=by rw[←hl];simpa[atQ]using h
   obtain⟨q,hq,rfl⟩:=Aj.mp this;exact(jO _ (Af _ ((qI j (BC.mpr hj)).2.2 q hq).1)).1
 ·cases h
theorem aDq{x:Str}{a' b':Ab}{xs ys:List Str}(R:Rel a b)(h:Tl st rw com a (.txt x) l a' xs)(k:Tl st rw com b (.txt x) l b' ys):ys=xs/\Rel a' b':=by
 rcases h with⟨h,rfl,rfl⟩ | ⟨h,rfl,rfl⟩
 ·rcases k with⟨_,rfl,rfl⟩ | ⟨k,_⟩
  ·exact⟨rfl,R⟩
  ·exact absurd (R.ig.symm.trans k) h
 ·rcases k with⟨k,_⟩ | ⟨_,rfl,rfl⟩
  ·exact absurd (R.ig.trans h) k
  ·exact⟨rfl,R.decl,R.pm,R.nss,R.ps,R.rs,R.rd,R.ig,R.pe,λ e=>by show b.held++_=a.held++_;rw[R.held e]⟩
theorem aEx{x:Str}{a' b':Ab}{xs ys:List Str}(R:Rel a b)(P:PeI st a)(hu:a.ig=0->x∈nm5)(h:Tl st rw com a (.fin x) l a' xs)(k:Tl st rw com b (.fin x) l b' ys):ys=xs/\Rel a' b':=by
 by_cases h0:a.ig=0
 ·exact qA (c:=.fin x) R P (jO x (Ak _ (hu h0))).1 h k
 ·rcases h with⟨_,rfl,rfl⟩ | h
  ·rcases k with⟨_,rfl,rfl⟩ | k
   ·exact⟨rfl,by rw[R.ig];exact R.ig_set _⟩
   ·exact absurd (R.ig.symm.trans k.g0) h0
  ·exact absurd h.g0 h0
theorem aBc{c:Cal}{a' b':Ab}{xs ys:List Str}(I:Iva rw i ns n k a)(R:Rel a b)(F:StepF i ns n c i1 ns1 n1)(hl:∀ x j,c=.start x j->atQ l=fQ j)(hc:∀ o,c≠.pi o)(T:Tl st rw com a c l a' xs)(U:Tl st rw com b c l b' ys):ys=xs/\Rel a' b':=by
 induction c with
 | txt x=>exact aDq R T U
 | pi o=>exact absurd rfl (hc o)
 | ns p u=>exact qA (c:=.ns p u) R (I.pei λ _=>F.pf) F.cf T U
 | start x j=>exact qA (c:=.start x j) R (I.pei λ _=>F.pf) (row_u F.cf.1 F.cf.2 (hl _ _ rfl)) T U
 | fin x=>exact aEx R (I.pei λ _=>F.pf) (λ h0=>I.vis _ (by rw[h0,Nat.sub_zero,BO,show ns=ns1++[x]from F.sk];simp)) T U
 | co x=>exact qA (c:=.co x) R (I.pei λ _=>F.pf) trivial T U
theorem aDs{c:Cal}(I:Iva rw i ns n k a)(J:Iva rw i ns n k b)(R:Rel a b)(hk:k<300)(s:Step i ns n c i1 ns1 n1)(hl:∀ x j,c=.start x j->atQ l=fQ j)(hc:∀ o,c≠.pi o):∃ a' b' xs,Tl st rw com a c l a' xs/\Tl st rw com b c l b' xs/\Iva rw i1 ns1 n1 (k+1) a'/\Iva rw i1 ns1 n1 (k+1) b'/\Rel a' b':=by
 obtain⟨a',xs,T,I2⟩:=zN (st:=st) (com:=com) I hk s hl;obtain⟨b',ys,U,J2⟩:=zN (st:=st) (com:=com) J hk s hl;obtain⟨rfl,R2⟩:=aBc I R (iM s) hl hc T U;exact⟨a',b',ys,T,U,I2,J2,R2⟩
noncomputable def mkV(i ig:Nat)(o:Option Str):List Str:=if ig≠0 then[]else if i=2 then[gJ "m" o,("\n":Str)]else if i=3 then[gJ "m" o]else[("\n":Str),gJ "m" o]
theorem aDr{o:Option Str}{l2:List (Str×Str×Tok)}(I:Iva rw i ns n k a)(J:Iva rw i ns n k b)(R:Rel a b)(hk:k<300)(s:Step i ns n (.pi o) i ns n)(hi:i=2\/i=3):∃ a' b' xs,Tl st rw com a (.pi o) l a' (xs++mkV i a.ig o)/\Tl st rw com b (.ns "zz" "urn:zz") l2 b' xs/\Iva rw i ns n (k+1) a'/\Iva rw i ns n (k+1) b'/\Rel a' b':=by
 obtain⟨a',xs,T,I2⟩:=zN (st:=st) (com:=com) (l:=l) I hk s λ x j e=>by cases e
 obtain⟨b',ys,U,J2⟩:=zz_ok (st:=st) (com:=com) (l:=l2) J hk (by walk_at "o");have h:xs=ys++mkV i a.ig o/\Rel a' b':=by
  rcases T with⟨h,rfl,rfl⟩ | ⟨us,h,Q,rfl⟩
  ·rcases U with⟨_,rfl,rfl⟩ | U
   ·exact⟨by unfold mkV;rw[if_pos h];rfl,R⟩
   ·exact absurd (R.ig.symm.trans U.g0) h
  ·rcases U with⟨k,_⟩ | ⟨b1,_,F,hne,_,rfl⟩
   ·exact absurd (R.ig.trans h) k
   ·have hd:a.rd=false:=I.rd.trans (decide_eq_false (by walk_at "o"));rcases hi with rfl | rfl
    ·have hr:a.rs=false:=I.rs;have hp:a.pe=none:=by
      cases e:a.pe with
      | none=>rfl
      | some p=>have:=(I.pe3 e).1;walk_at "o"
     obtain⟨rfl,rfl,rfl,R2⟩:=aAw R hr hd hp Q F hne;exact⟨by unfold mkV;rw[if_neg (λ e=>e h),if_pos rfl,hr];rfl,R2⟩
    ·have hr:a.rs=true:=I.rs;obtain⟨rfl,R2⟩:=pi_in R (I.pei λ _=>by decide) hr hd Q F hne;have hr2:a'.rs=true:=I2.rs;exact⟨by unfold mkV;rw[if_neg (λ e=>e h),if_neg (by decide),if_pos rfl,hr2];rfl,R2⟩
 obtain⟨rfl,R2⟩:=h;exact⟨a',b',ys,T,U,I2,J2,R2⟩
theorem aEa{o:Option Str}(I:Iva rw 4 ns n k a)(J:Iva rw 4 ns n k b)(R:Rel a b)(hk:k<300):Tl st rw com a (.pi o) l a (mkV 4 a.ig o)/\Iva rw 4 ns n (k+1) a/\Iva rw 4 ns n (k+1) b:=by
 have hd:a.rd=true:=I.rd;have hr:a.rs=true:=I.rs;have h0:a.ig=0:=by
  have:=I.ig;rw[I.ns0.mpr (.inr rfl)]at this;exact Nat.le_zero.mp this
 refine⟨?_,I.mono (Nat.le_succ _) hk,J.mono (Nat.le_succ _) hk⟩;have T:Tl st rw com a (.pi o) l a ([("\n":Str)]++gJ "m" o::iB a.rs):=.pi h0 (.done hd);rw[hr]at T;unfold mkV;rw[if_neg (λ e=>e h0),if_neg (by decide),if_neg (by decide)];exact T
end
theorem kL(rw:Bool):flat (dW rw).nss=if rw=true then[]else nmapV:=by
 induction rw with
 | true=>rfl
 | false=>show([]++(nmapV++[]))=nmapV;rw[Ay,Am]
theorem nsI_0(rw:Bool):NsI rw 0 0 9 (dW rw).nss:=by
 refine⟨⟨(dW rw).nss,[],by rw[Am],rfl,?_,?_,λ q h=>(by cases h),λ h q hq=>?_⟩,λ q h=>?_,?_⟩
 ·cases rw<;>simp[dW]
 ·cases rw<;>decide
 ·subst h;rw[kL];exact hq
 ·rw[kL]at h
  induction rw with
  | true=>cases h
  | false=>exact Ak _ h
 ·rw[kL];cases rw<;>decide +kernel
theorem nsR_0(rw:Bool):NsR (dW rw).nss (dW rw).nss:=by cases rw<;>unfold NsR<;>decide +kernel
theorem aDc{m:Wm}{rw:Bool}(F:IFr m rw):Iva rw 0 [] 0 0 (bE m):=by
 have hns:(bE m).ns=dW rw:=F.ns;have hpe:(bE m).pe=none:=by show m.pe.map _=none;rw[F.pe];rfl
 have hfd:∀ q∈flat (dW rw).decl,eY q:=λ q h=>by
  rw[show q=xmP from AA.mp h];exact nD _ (Ak _ sN)
 exact{
  nb:=AE _
  b9:=AE _
  k3:=AE _
  ns0:=⟨λ _=>.inl (AE _),λ _=>rfl⟩
  rs:=F.rs
  rd:=F.rd
  ig:=Bf F.ig
  vis:=λ y h=>by simp at h
  dl:=by rw[hns];simp[dW]
  lv:=λ l h=>by rw[hns]at h;rw[AA.mp h];exact(by decide)
  d1:=by rw[hns];exact hfd
  pu:=by rw[hns];exact List.nodup_nil
  pp:=by rw[hns];exact λ q h=>by cases h
  nss:=by rw[hns,hpe,show([]:List Str).length-(bE m).ig-pn (none:Option (Str×List (Str×Str×Tok)))=0 from by simp[pn]];exact nsI_0 rw
  ps:=by show m.ps.length=_;rw[F.ps,hpe];simp[pn]
  hk:=by show m.held.length<=0;rw[F.held];exact AN 0
  ht:=λ x h=>by have h:x∈m.held:=h;rw[F.held]at h;cases h
  pe:=λ t l h=>by rw[hpe]at h;cases h }
theorem rel_0{m m2:Wm}{rw:Bool}(F:IFr m rw)(G:IFr m2 rw):Rel (bE m) (bE m2):=by
 have hns:(bE m).ns=dW rw:=F.ns;have hns2:(bE m2).ns=dW rw:=G.ns;refine⟨by rw[hns,hns2],by rw[hns,hns2],by rw[hns,hns2];exact nsR_0 rw,G.ps.trans F.ps.symm,G.rs.trans F.rs.symm,G.rd.trans F.rd.symm,G.ig.trans F.ig.symm,?_,λ _=>G.held.trans F.held.symm⟩;show m2.pe.map _=m.pe.map _;rw[F.pe,G.pe]
noncomputable def qZ:Option Str->Str
 | none=>"<?m?>"
 | some x=>"<?m "++dS x++"?>"
theorem vK:∀ o:Option Str,gJ "m" o=qZ o
 | none=>by show("<?":Str)++"m"++"?>"="<?m?>";decide +kernel
 | some x=>by
  show("<?":Str)++"m"++" "++dS x++"?>"="<?m "++dS x++"?>";rw[show("<?":Str)++"m"++" "="<?m " from by decide +kernel]
theorem gG(x:Str):cat [x]=x:=Str.ext' (by rw[jZ];simp)
theorem xA(x y:Str):cat [x,y]=x++y:=Str.ext' (by rw[jZ,eX];simp)
theorem mk_in{i ig:Nat}{o:Option Str}(h:ig≠0):cat (mkV i ig o)="":=by unfold mkV;rw[if_pos h];decide +kernel
theorem mk_2{o:Option Str}:cat (mkV 2 0 o)=qZ o++"\n":=by rw[←vK];exact xA _ _
theorem mk_3{o:Option Str}:cat (mkV 3 0 o)=qZ o:=by rw[←vK];exact gG _
theorem mk_4{o:Option Str}:cat (mkV 4 0 o)="\n"++qZ o:=by rw[←vK];exact xA _ _
theorem aEE(xs:List Str)(i ig:Nat)(o:Option Str):cat (xs++mkV i ig o)=cat xs++cat (mkV i ig o):=bS _ _
theorem cO{W:Wd}{q out:Addr}:∀(xs outs:List Str),(bR W q out).pushes outs xs=(outs++xs:List Str)
 | [],outs=>(Am outs).symm
 | x::xs,outs=>by
  have h:=cO (W:=W) (q:=q) (out:=out) xs (outs++[x]);rw[Ah]at h;exact h
structure W2 where
 w:Wn
 q:Addr
 out:Addr
 xt:Addr
 qt:Addr
 m:Wm
 outs:List Str
structure Ws where
 com:Bool
 st:Bool
 rw:Bool
noncomputable abbrev W2.c(x:W2)(z:Ws):Wc:=⟨z.com,z.st,z.rw,.ref x.xt,.ref x.qt⟩
noncomputable abbrev W2.own(W:Wd)(x:W2):Lg:=[(x.q,dQ "list.append" (.ref x.out)),(x.out,aB x.outs),(x.xt,aS W Tx 1),(x.qt,aS W Tt 1)]
noncomputable def W2.led(W:Wd)(z:Ws)(x:W2):Lg:=aC W x.w (x.c z) x.q x.m (x.own W++pdT W x.m.pe)
noncomputable def eI(d:Addr)(t:Tok×Tok×Tok)(v:Value):Cal->List Value
 | .ns p u=>[.str "ns" t.1,.str p t.2.1,.str u t.2.2]
 | .start x _=>[.str "start" t.1,.str x t.2.1,.ref d]
 | .fin x=>[.str "end" t.1,.str x t.2.1]
 | .pi _=>[.str "pi" t.1,v]
 | .co x=>[.str "comment" t.1,.str x t.2.1]
 | .txt x=>[.str "text" t.1,.str x t.2.1]
noncomputable def tU:Cal->Str
 | .ns _ _=>"ns"
 | .start _ _=>"start"
 | .fin _=>"end"
 | .pi _=>"pi"
 | .co _=>"comment"
 | .txt _=>"text"
noncomputable def PiV(v:Value):Cal->Prop
 | .pi o=>PiArg v o
 | _=>True
theorem gH(d:Addr)(t:Tok×Tok×Tok)(v:Value)(c:Cal):(eI d t v c)[0]?=some (.str (tU c) t.1):=by cases c<;>rfl
theorem aAR{d:Addr}{c:Cal}{o:Obj}(h:bH d c o):∃ t v,PiV v c/\aJ (eI d t v c) o:=by
 induction c with
 | ns p u=>obtain⟨t0,t1,t2,h⟩:=h;exact⟨(t0,t1,t2),.none,trivial,h⟩
 | start x j=>obtain⟨t0,t1,h⟩:=h;exact⟨(t0,t1,t1),.none,trivial,h⟩
 | fin x=>obtain⟨t0,t1,h⟩:=h;exact⟨(t0,t1,t1),.none,trivial,h⟩
 | pi o=>obtain⟨t0,v,hv,h⟩:=h;exact⟨(t0,t0,t0),v,hv,h⟩
 | co x=>obtain⟨t0,t1,h⟩:=h;exact⟨(t0,t1,t1),.none,trivial,h⟩
 | txt x=>obtain⟨t0,t1,h⟩:=h;exact⟨(t0,t1,t1),.none,trivial,h⟩
theorem aAL{d:Addr}{t:Tok×Tok×Tok}{v:Value}{c:Cal}{o:Obj}(hv:PiV v c)(h:aJ (eI d t v c) o):bH d c o:=by
 induction c with
 | ns p u=>exact⟨_,_,_,h⟩
 | start x j=>exact⟨_,_,h⟩
 | fin x=>exact⟨_,_,h⟩
 | pi o=>exact⟨_,_,hv,h⟩
 | co x=>exact⟨_,_,h⟩
 | txt x=>exact⟨_,_,h⟩
noncomputable def CA.at(W:Wd)(r:CA):Lg:=match r.c with | .start _ _=>[(r.d,IsD W r.d (atV r.l))] | _=>[]
noncomputable abbrev CA.opn(W:Wd)(r:CA)(t:Tok×Tok×Tok)(v:Value):Lg:=(r.a,aJ (eI r.d t v r.c))::r.at W
theorem CA.led_eq(W:Wd)(r:CA):r.led W=(r.a,bH r.d r.c)::r.at W:=rfl
section
variable {W:Wd}{G:Gens}{env:Env}{loc:Loc}{s:Ac}
theorem Sta.openCal{r:CA}(S:Sta W G env loc (r.led W++N) s):∃ t v,PiV v r.c/\Sta W G env loc (r.opn W t v++N) s:=by
 rw[CA.led_eq]at S;obtain⟨o,ho,h⟩:=S.get (.head _);obtain⟨t,v,hv,h⟩:=aAR h;exact⟨t,v,hv,S.tell (c':=aJ (eI r.d t v r.c)) .head λ o' ho' _=>by rw[ho]at ho';cases ho';exact h⟩
theorem Sta.closeCal{r:CA}{t:Tok×Tok×Tok}{v:Value}(hv:PiV v r.c)(S:Sta W G env loc (r.opn W t v++N) s):Sta W G env loc (r.led W++N) s:=by
 rw[CA.led_eq];exact S.tell (c':=bH r.d r.c) .head λ o _ ho=>aAL hv ho
end
noncomputable abbrev dN(L:Addr):Env:=envOf "_law_tell" (aD kF) L 206 (.ref 205)
noncomputable abbrev sW(w:Wn)(ca:Addr):Loc:=[("writer",some (.ref w.x)),("call",some (.ref ca))]
section
variable {w:Wn}{c:Wc}{q:Addr}{m:Wm}{ca:Addr}{Q:Value->Ac->Prop}
theorem memN{p:Addr×Cell}(h:p∈N):p∈aC W w c q m N:=by
 dsimp only[aC]
 repeat' first | exact Af _ h | refine Af _ ?_ | refine .tail _ ?_
theorem sP{p e:Addr×Cell}(h:p∈N):p∈e::aC W w c q m N:=.tail _ (memN h)
theorem Sta.frN{e:Addr×Cell}(S:Sta W G env loc (e::aC W w c q m N) s):Sta W G env loc (aC W w c q m (e::N)) s:=by
 refine S.perm ?_;dsimp only[aC]
 walk_at "perm"
theorem bW{nm:Str}{ca:Addr}{vs:List Value}{kd lit:Str}{t0:Tok}{th el:List Stmt}{p1 p2 p3 p4 p5 p6:Pos}{n1 n2:Nat}{Q:Flow->Ac->Prop}(hl:(nm,some (.ref ca))∈loc)(hm:(ca,aJ vs)∈nw)(h0:vs[0]?=some (.str kd t0))(S':Sta W G env loc nw s)(ht:kd=lit->∀ s',Sta W G env loc nw s'->Ad W.M A (execs th env) Q E s')(he:kd≠lit->∀ s',Sta W G env loc nw s'->Ad W.M A (execs el env) Q E s'):Ad W.M A (exec (.If (.Compare (.Subscript (.Name nm p1) (.Constant (.int 0) n1 p2) p3) [.Eq] [.Constant (.str lit) n2 p4] p5) th el p6) env) Q E s:=by
 refine fG ?_;walk_at "c";refine cI ?_ (by intro _ _;rfl);refine S'.local_ hl ?_;walk_at "c";refine Sta.sub_tuple S' hm (j:=0) rfl (by decide) h0 ?_;walk_at "c";refine rF (λ e=>?_) (λ e=>?_)
 ·repeat ((fail_if_success (with_reducible show Ad _ _ (execs _ _) _ _ _));walk_at "cw")
  exact ht e s' S'
 ·repeat ((fail_if_success (with_reducible show Ad _ _ (execs _ _) _ _ _));walk_at "cw")
  exact he e s' S'
theorem zO{tag:Str}{t0 t1:Tok}{d:Addr}(I:IsC W)(hA:Aok 1 A)(hc:(ca,aJ [.str "start" t0,.str tag t1,.ref d])∈N)(S:Sta W G env loc (aC W w c q m N) s)(h:∀ L s',Sta W G (dN L) (sW w ca) (aC W w c q m ((env.locals,aL loc)::N)) s'->Ad W.M (A.deeper (dN L)) (call (.ref 113) [.ref w.x,.str tag t1,.ref d]) (λ _ s2=>Q .none s2) (λ _ _=>False) s'):Ad W.M A (call (.ref 206) [.ref w.x,.ref ca]) Q E s:=by
 refine S.call_fn (binds:=[("writer",.ref w.x),("call",.ref ca)]) [] I.f_l_tell hA.room (λ _ _ _ _ _=>BindsTo.of_eq (by kernel_rfl)) (by kernel_rfl) ?_;intro L s' S';have hcl:=I.cl;have hc2:=sP (W:=W) (w:=w) (c:=c) (q:=q) (m:=m) (e:=(env.locals,aL loc)) hc;simp only[aW,An,AF,Av,Ay]at S';refine aM ?_;refine bQ rfl ?_;refine bW (by walk_at "mem") hc2 rfl S' (λ _=>?_) (λ e=>absurd rfl e);clear S';intro s' S';walk_at "c";refine Sta.getM_inst (f:=113) S' hcl (by walk_at "mem") (by walk_at "mem") VV.keys (by decide +kernel) (by rw[I.k];kernel_rfl) (by rw[I.k];kernel_rfl) ?_;refine oP (by rw[I.k];kernel_rfl) ?_ (by kernel_rfl) (by kernel_rfl);refine eR ?_ (by kernel_rfl);refine cI ?_ (by intro _ _;kernel_rfl);walk_at "c";refine Sta.sub_tuple S' hc2 (j:=1) rfl (by walk_at "o") rfl ?_;refine eR ?_ (by kernel_rfl);refine cI ?_ (by intro _ _;kernel_rfl);walk_at "c";refine Sta.sub_tuple S' hc2 (j:=2) rfl (by walk_at "o") rfl ?_;refine args_nil ?_;refine⟨S'.kin,?_⟩;refine As (h L _ S'.frN) (λ _ s2 h2=>?_) λ _ _ x=>x;walk_at "c";exact h2
theorem zQ{tag:Str}{t0 t1:Tok}(I:IsC W)(hA:Aok 1 A)(hc:(ca,aJ [.str "end" t0,.str tag t1])∈N)(S:Sta W G env loc (aC W w c q m N) s)(h:∀ L s',Sta W G (dN L) (sW w ca) (aC W w c q m ((env.locals,aL loc)::N)) s'->Ad W.M (A.deeper (dN L)) (call (.ref 126) [.ref w.x,.str tag t1]) (λ _ s2=>Q .none s2) (λ _ _=>False) s'):Ad W.M A (call (.ref 206) [.ref w.x,.ref ca]) Q E s:=by
 refine S.call_fn (binds:=[("writer",.ref w.x),("call",.ref ca)]) [] I.f_l_tell hA.room (λ _ _ _ _ _=>BindsTo.of_eq (by kernel_rfl)) (by kernel_rfl) ?_;intro L s' S';have hcl:=I.cl;have hc2:=sP (W:=W) (w:=w) (c:=c) (q:=q) (m:=m) (e:=(env.locals,aL loc)) hc;simp only[aW,An,AF,Av,Ay]at S';refine aM ?_;refine bQ rfl ?_;refine bW (by walk_at "mem") hc2 rfl S' (λ e=>absurd e (by decide +kernel)) (λ _=>?_);clear S';intro s' S';walk_at "cw";refine bW (by walk_at "mem") hc2 rfl S' (λ _=>?_) (λ e=>absurd rfl e);clear S';intro s' S';walk_at "c";refine Sta.getM_inst (f:=126) S' hcl (by walk_at "mem") (by walk_at "mem") VV.keys (by decide +kernel) (by rw[I.k];kernel_rfl) (by rw[I.k];kernel_rfl) ?_;refine oP (by rw[I.k];kernel_rfl) ?_ (by kernel_rfl) (by kernel_rfl);refine eR ?_ (by kernel_rfl);refine cI ?_ (by intro _ _;kernel_rfl);walk_at "c";refine Sta.sub_tuple S' hc2 (j:=1) rfl (by walk_at "o") rfl ?_;refine args_nil ?_;refine⟨S'.kin,?_⟩;refine As (h L _ S'.frN) (λ _ s2 h2=>?_) λ _ _ x=>x;walk_at "c";exact h2
theorem zR{x:Str}{t0 t1:Tok}(I:IsC W)(hA:Aok 1 A)(hc:(ca,aJ [.str "comment" t0,.str x t1])∈N)(S:Sta W G env loc (aC W w c q m N) s)(h:∀ L s',Sta W G (dN L) (sW w ca) (aC W w c q m ((env.locals,aL loc)::N)) s'->Ad W.M (A.deeper (dN L)) (call (.ref 133) [.ref w.x,.str x t1]) (λ _ s2=>Q .none s2) (λ _ _=>False) s'):Ad W.M A (call (.ref 206) [.ref w.x,.ref ca]) Q E s:=by
 refine S.call_fn (binds:=[("writer",.ref w.x),("call",.ref ca)]) [] I.f_l_tell hA.room (λ _ _ _ _ _=>BindsTo.of_eq (by kernel_rfl)) (by kernel_rfl) ?_;intro L s' S';have hcl:=I.cl;have hc2:=sP (W:=W) (w:=w) (c:=c) (q:=q) (m:=m) (e:=(env.locals,aL loc)) hc;simp only[aW,An,AF,Av,Ay]at S';refine aM ?_;refine bQ rfl ?_;refine bW (by walk_at "mem") hc2 rfl S' (λ e=>absurd e (by decide +kernel)) (λ _=>?_);clear S';intro s' S';walk_at "cw";refine bW (by walk_at "mem") hc2 rfl S' (λ e=>absurd e (by decide +kernel)) (λ _=>?_);clear S';intro s' S';walk_at "cw";refine bW (by walk_at "mem") hc2 rfl S' (λ _=>?_) (λ e=>absurd rfl e);clear S';intro s' S';walk_at "c";refine Sta.getM_inst (f:=133) S' hcl (by walk_at "mem") (by walk_at "mem") VV.keys (by decide +kernel) (by rw[I.k];kernel_rfl) (by rw[I.k];kernel_rfl) ?_;refine oP (by rw[I.k];kernel_rfl) ?_ (by kernel_rfl) (by kernel_rfl);refine eR ?_ (by kernel_rfl);refine cI ?_ (by intro _ _;kernel_rfl);walk_at "c";refine Sta.sub_tuple S' hc2 (j:=1) rfl (by walk_at "o") rfl ?_;refine args_nil ?_;refine⟨S'.kin,?_⟩;refine As (h L _ S'.frN) (λ _ s2 h2=>?_) λ _ _ x=>x;walk_at "c";exact h2
theorem zP{p u:Str}{t0 t1 t2:Tok}(I:IsC W)(hA:Aok 1 A)(hc:(ca,aJ [.str "ns" t0,.str p t1,.str u t2])∈N)(S:Sta W G env loc (aC W w c q m N) s)(h:∀ L s',Sta W G (dN L) (sW w ca) (aC W w c q m ((env.locals,aL loc)::N)) s'->Ad W.M (A.deeper (dN L)) (call (.ref 106) [.ref w.x,.str p t1,.str u t2]) (λ _ s2=>Q .none s2) (λ _ _=>False) s'):Ad W.M A (call (.ref 206) [.ref w.x,.ref ca]) Q E s:=by
 refine S.call_fn (binds:=[("writer",.ref w.x),("call",.ref ca)]) [] I.f_l_tell hA.room (λ _ _ _ _ _=>BindsTo.of_eq (by kernel_rfl)) (by kernel_rfl) ?_;intro L s' S';have hcl:=I.cl;have hc2:=sP (W:=W) (w:=w) (c:=c) (q:=q) (m:=m) (e:=(env.locals,aL loc)) hc;simp only[aW,An,AF,Av,Ay]at S';refine aM ?_;refine bQ rfl ?_;refine bW (by walk_at "mem") hc2 rfl S' (λ e=>absurd e (by decide +kernel)) (λ _=>?_);clear S';intro s' S';walk_at "cw";refine bW (by walk_at "mem") hc2 rfl S' (λ e=>absurd e (by decide +kernel)) (λ _=>?_);clear S';intro s' S';walk_at "cw";refine bW (by walk_at "mem") hc2 rfl S' (λ e=>absurd e (by decide +kernel)) (λ _=>?_);clear S';intro s' S';walk_at "cw";refine bW (by walk_at "mem") hc2 rfl S' (λ _=>?_) (λ e=>absurd rfl e);clear S';intro s' S';walk_at "c";refine Sta.getM_inst (f:=106) S' hcl (by walk_at "mem") (by walk_at "mem") VV.keys (by decide +kernel) (by rw[I.k];kernel_rfl) (by rw[I.k];kernel_rfl) ?_;refine oP (by rw[I.k];kernel_rfl) ?_ (by kernel_rfl) (by kernel_rfl);refine eR ?_ (by kernel_rfl);refine cI ?_ (by intro _ _;kernel_rfl);walk_at "c";refine Sta.sub_tuple S' hc2 (j:=1) rfl (by walk_at "o") rfl ?_;refine eR ?_ (by kernel_rfl);refine cI ?_ (by intro _ _;kernel_rfl);walk_at "c";refine Sta.sub_tuple S' hc2 (j:=2) rfl (by walk_at "o") rfl ?_;refine args_nil ?_;refine⟨S'.kin,?_⟩;refine As (h L _ S'.frN) (λ _ s2 h2=>?_) λ _ _ x=>x;walk_at "c";exact h2
theorem aDw{x:Str}{t0 t1:Tok}(I:IsC W)(hA:Aok 1 A)(hc:(ca,aJ [.str "text" t0,.str x t1])∈N)(S:Sta W G env loc (aC W w c q m N) s)(h:∀ L s',Sta W G (dN L) (sW w ca) (aC W w c q m ((env.locals,aL loc)::N)) s'->Ad W.M (A.deeper (dN L)) (call (.ref 90) [.ref w.x,.str x t1]) (λ _ s2=>Q .none s2) (λ _ _=>False) s'):Ad W.M A (call (.ref 206) [.ref w.x,.ref ca]) Q E s:=by
 refine S.call_fn (binds:=[("writer",.ref w.x),("call",.ref ca)]) [] I.f_l_tell hA.room (λ _ _ _ _ _=>BindsTo.of_eq (by kernel_rfl)) (by kernel_rfl) ?_;intro L s' S';have hcl:=I.cl;have hc2:=sP (W:=W) (w:=w) (c:=c) (q:=q) (m:=m) (e:=(env.locals,aL loc)) hc;simp only[aW,An,AF,Av,Ay]at S';refine aM ?_;refine bQ rfl ?_;refine bW (by walk_at "mem") hc2 rfl S' (λ e=>absurd e (by decide +kernel)) (λ _=>?_);clear S';intro s' S';walk_at "cw";refine bW (by walk_at "mem") hc2 rfl S' (λ e=>absurd e (by decide +kernel)) (λ _=>?_);clear S';intro s' S';walk_at "cw";refine bW (by walk_at "mem") hc2 rfl S' (λ e=>absurd e (by decide +kernel)) (λ _=>?_);clear S';intro s' S';walk_at "cw";refine bW (by walk_at "mem") hc2 rfl S' (λ e=>absurd e (by decide +kernel)) (λ _=>?_);clear S';intro s' S';walk_at "c";refine Sta.getM_inst (f:=90) S' hcl (by walk_at "mem") (by walk_at "mem") VV.keys (by decide +kernel) (by rw[I.k];kernel_rfl) (by rw[I.k];kernel_rfl) ?_;refine oP (by rw[I.k];kernel_rfl) ?_ (by kernel_rfl) (by kernel_rfl);refine eR ?_ (by kernel_rfl);refine cI ?_ (by intro _ _;kernel_rfl);walk_at "c";refine Sta.sub_tuple S' hc2 (j:=1) rfl (by walk_at "o") rfl ?_;refine args_nil ?_;refine⟨S'.kin,?_⟩;refine As (h L _ S'.frN) (λ _ s2 h2=>?_) λ _ _ x=>x;walk_at "c";exact h2
end
noncomputable def CA.st(r:CA):List (Addr×List (Str×Str×Tok)):=match r.c with | .start _ _=>[(r.d,r.l)] | _=>[]
noncomputable def aBi(r:CA)(m m':Wm):Prop:=∀ p,m'.pe=some p->m.pe=some p\/([(p.d,p.l)]=r.st)
section
variable {z:Ws}{a a':Ab}{xs:List Str}
noncomputable abbrev bes(W:Wd)(x:W2)(c?:Option Addr)(m o:Option Pd)(P:Lg):Lg:=aP 116 aV aH c?++(pdT W m++(pdD W o++(P++[(x.xt,aS W Tx 1),(x.qt,aS W Tt 1)])))
noncomputable def Does(W:Wd)(z:Ws)(r:CA)(t:Tok×Tok×Tok)(v:Value)(a a':Ab)(xs:List Str)(f:Addr)(as:List Value):Prop:=
 ∀ ⦃G:Gens⦄ ⦃env:Env⦄ ⦃loc:Loc⦄ ⦃N:Lg⦄ ⦃s:Ac⦄ ⦃A:AL⦄ ⦃E:Value->Ac->Prop⦄ ⦃Q:Value->Ac->Prop⦄ ⦃x:W2⦄ ⦃c?:Option Addr⦄,Aok 31 A->bE x.m=a->WmB x.m->x.outs.length<=15000000->
  Sta W G env loc (aC W x.w (x.c z) x.q x.m ((bR W x.q x.out).L x.outs++(bes W x c? x.m.pe x.m.pe (r.opn W t v)++N))) s->
  (∀ m' c? s' o' p',bE m'=a'->WmOk m'->aBi r x.m m'->o'=x.outs++xs->p'=m'.pe->Sta W G env loc (aC W x.w (x.c z) x.q m' ((bR W x.q x.out).L o'++(bes W x c? p' x.m.pe (r.opn W t v)++N))) s'->Q .none s')->
  Ad W.M A (call (.ref f) (.ref x.w.x::as)) Q E s
noncomputable abbrev eF(W:Wd)(z:Ws)(r:CA)(t:Tok×Tok×Tok)(v:Value)(a a':Ab)(xs:List Str):Prop:=Does W z r t v a a' xs 206 [.ref r.a]
theorem eL{x:W2}{c?:Option Addr}{m o:Option Pd}{P L:Lg}{e:Addr×Cell}(h:e∈P):e∈L++(bes W x c? m o P++N):=
 Af _ (Ak _ (Af _ (Af _ (Af _ (Ak _ h)))))
variable {w:Wn}{c:Wc}{q:Addr}{m:Wm}{e:Addr×Cell}{L P M:Lg}{x:W2}{c?:Option Addr}{p o:Option Pd}
theorem pA:List.Perm (aC W w c q m (e::M)) (e::aC W w c q m M):=by
 simp only[aC]
 walk_at "perm"
theorem bes_in0:List.Perm (L++(bes W x c? p o P++N)) (L++(aP 116 aV aH c?++(pdT W p++(pdD W o++((P++[(x.xt,aS W Tx 1),(x.qt,aS W Tt 1)])++N))))):=by
 walk_at "perm"
theorem bes_in:List.Perm (aC W w c q m (e::(L++(bes W x c? p o P++N)))) (aC W w c q m (L++(aP 116 aV aH c?++(pdT W p++(pdD W o++(e::((P++[(x.xt,aS W Tx 1),(x.qt,aS W Tt 1)])++N))))))):=
 yC (by walk_at "perm")
theorem rM:List.Perm (aC W w c q m (L++(aP 116 aV aH c?++(pdT W p++(pdD W o++(e::((P++[(x.xt,aS W Tx 1),(x.qt,aS W Tt 1)])++N))))))) (e::aC W w c q m (L++(bes W x c? p o P++N))):=
 bes_in.symm.trans pA
theorem aDz{ca d:Addr}{x:Str}{l:List (Str×Str×Tok)}{t:Tok×Tok×Tok}{v:Value}(I:IsC W):eF W z ⟨ca,.txt x,d,l⟩ t v a (if a.ig=0 then{ a with held:=a.held++[x] }else a) []:=by
 intro G env loc N s A E Q r c? hA e B h3 S k;subst e;refine aDw (t0:=t.1) (t1:=t.2.1) (x:=x) I (hA.le (by decide)) (eL (.head _)) S λ L s' S'=>?_;have hA':=hA.deeper (env:=dN L);refine data_ I S' (hA'.le (by decide)) B.hz λ s' S2=>?_;refine k (r.m.data x) c? s' r.outs r.m.pe ?_ ?_ ?_ (Am _).symm ?_ (Sta.back (S2.perm pA) S.eok)
 ·unfold Wm.data
  split
  ·rename_i h;rw[if_pos (show(bE r.m).ig=0 from h)];rfl
  ·rename_i h;rw[if_neg (show ¬(bE r.m).ig=0 from h)]
 ·unfold Wm.data
  split<;>exact B.ok
 ·unfold Wm.data
  split<;>exact λ p h=>.inl h
 ·unfold Wm.data
  split<;>rfl
end
section
variable {z:Ws}{a a':Ab}{xs:List Str}
theorem aDA{ca d:Addr}{p u:Str}{l:List (Str×Str×Tok)}{t:Tok×Tok×Tok}{v:Value}(I:IsC W)(hg:a.ig≠0):eF W z ⟨ca,.ns p u,d,l⟩ t v a a []:=by
 intro G env loc N s A E Q r c? hA e B h3 S k;subst e;refine zP (t0:=t.1) (t1:=t.2.1) (t2:=t.2.2) (p:=p) (u:=u) I (hA.le (by decide)) (eL (.head _)) S λ L s' S'=>?_;have hA':=hA.deeper (env:=dN L);refine nsI_ I (hA'.le (by decide)) hg S' λ s' S2=>?_;exact k r.m c? s' r.outs r.m.pe rfl B.ok (λ p h=>.inl h) (Am _).symm rfl (Sta.back (S2.perm pA) S.eok)
theorem aBp{ca d:Addr}{x:Str}{l:List (Str×Str×Tok)}{t:Tok×Tok×Tok}{v:Value}(I:IsC W)(hg:a.ig≠0):eF W z ⟨ca,.fin x,d,l⟩ t v a { a with ig:=a.ig-1 } []:=by
 intro G env loc N s A E Q r c? hA e B h3 S k;subst e;refine zQ (t0:=t.1) (t1:=t.2.1) (tag:=x) I (hA.le (by decide)) (eL (.head _)) S λ L s' S'=>?_;have hA':=hA.deeper (env:=dN L);refine endI_ I (hA'.le (by decide)) hg S' λ ti s' S2=>?_;exact k { r.m with ig:=r.m.ig-1,ti:=ti } c? s' r.outs r.m.pe rfl B.ok (λ p h=>.inl h) (Am _).symm rfl (Sta.back (S2.perm pA) S.eok)
theorem aDB{ca d:Addr}{x tx:Str}{sv:NSt}{a1:Ab}{pb:Bool}{l:List (Str×Str×Tok)}{t:Tok×Tok×Tok}{v:Value}(I:IsC W)(C:CodeHd W.B 118 116)(hig:a.ig=0)(F:FlI z.st z.rw a a1 xs)(htag:NmG x)(hok:NsOk a1.ns)(hq:qnV z.rw a1.ns (nmU x) (nmL x)=some (tx,sv))(htl:tx.length<=4000)(hp1:a1.pe=none)(hne:a1.ns.nss≠[])(hps:a1.ps.getLast?=some pb)(B1:AbB a1):eF W z ⟨ca,.fin x,d,l⟩ t v a (a1.ended sv) (xs++[gD tx]):=by
 intro G env loc N s A E Q r c? hA e B h3 S k;subst e;refine zQ (t0:=t.1) (t1:=t.2.1) (tag:=x) I (hA.le (by decide)) (eL (.head _)) S λ L s' S'=>?_;have hA':=hA.deeper (env:=dN L);refine end_ (K:=bR W r.q r.out) (σ:=r.outs) (c:=r.c z) (m:=r.m) (c?:=c?) (N:=(env.locals,aL loc)::((CA.opn W ⟨ca,.fin x,d,l⟩ t v++[(r.xt,aS W Tx 1),(r.qt,aS W Tt 1)])++N)) I C (hA'.le (by decide)) F B hig htag hok hq htl hp1 hne hps B1 (by show r.outs.length+5<=16000000;walk_at "o") (S'.perm bes_in) λ m' c2 s' hm hw S2=>?_;rw[cO]at S2;have hpe:m'.pe=none:=fB hm hp1;refine k m' c2 s' (r.outs++(xs++[gD tx])) m'.pe hm hw (λ p h=>by rw[hpe]at h;cases h) rfl rfl (Sta.back (S2.perm rM) S.eok)
end
section
variable {z:Ws}{a a':Ab}{xs:List Str}
theorem aDC{ca d:Addr}{x:Str}{l:List (Str×Str×Tok)}{t:Tok×Tok×Tok}{v:Value}(I:IsC W)(hg:z.com=false\/a.ig≠0):eF W z ⟨ca,.co x,d,l⟩ t v a a []:=by
 intro G env loc N s A E Q r c? hA e B h3 S k;subst e;refine zR (t0:=t.1) (t1:=t.2.1) (x:=x) I (hA.le (by decide)) (eL (.head _)) S λ L s' S'=>?_;have hA':=hA.deeper (env:=dN L);refine coI_ I (hA'.le (by decide)) hg S' λ s' S2=>?_;exact k r.m c? s' r.outs r.m.pe rfl B.ok (λ p h=>.inl h) (Am _).symm rfl (Sta.back (S2.perm pA) S.eok)
theorem t2_co{ca d:Addr}{x:Str}{a1:Ab}{l:List (Str×Str×Tok)}{t:Tok×Tok×Tok}{v:Value}(I:IsC W)(C:CodeHd W.B 118 116)(hcom:z.com=true)(hig:a.ig=0)(R:RmV z.st z.rw a a1 xs)(hx:x.length<=txL)(hp1:a1.pe=none):eF W z ⟨ca,.co x,d,l⟩ t v a a1 (xs++oC x::iB a1.rs):=by
 intro G env loc N s A E Q r c? hA e B h3 S k;subst e;refine zR (t0:=t.1) (t1:=t.2.1) (x:=x) I (hA.le (by decide)) (eL (.head _)) S λ L s' S'=>?_;have hA':=hA.deeper (env:=dN L);refine co_ (K:=bR W r.q r.out) (σ:=r.outs) (c:=r.c z) (m:=r.m) (c?:=c?) (N:=(env.locals,aL loc)::((CA.opn W ⟨ca,.co x,d,l⟩ t v++[(r.xt,aS W Tx 1),(r.qt,aS W Tt 1)])++N)) I C (hA'.le (by decide)) hcom R B hx hig (by show r.outs.length+6<=16000000;walk_at "o") (S'.perm bes_in) λ m' c2 s' hm hw S2=>?_;rw[cO]at S2;have hpe:m'.pe=none:=fB hm hp1;refine k m' c2 s' (r.outs++(xs++oC x::iB a1.rs)) m'.pe hm hw (λ p h=>by rw[hpe]at h;cases h) rfl rfl (Sta.back (S2.perm rM) S.eok)
theorem t2_ns{ca d:Addr}{p u:Str}{a1:Ab}{l:List (Str×Str×Tok)}{t:Tok×Tok×Tok}{v:Value}(I:IsC W)(C:CodeHd W.B 118 116)(hig:a.ig=0)(F:FlI z.st z.rw a a1 xs)(hp1:a1.pe=none)(hne:a1.ns.nss≠[])(hfl:(flat a1.ns.nss).length<=1000):eF W z ⟨ca,.ns p u,d,l⟩ t v a (a1.told (u,p)) xs:=by
 intro G env loc N s A E Q r c? hA e B h3 S k;subst e;refine zP (t0:=t.1) (t1:=t.2.1) (t2:=t.2.2) (p:=p) (u:=u) I (hA.le (by decide)) (eL (.head _)) S λ L s' S'=>?_;have hA':=hA.deeper (env:=dN L);refine ns_ (K:=bR W r.q r.out) (σ:=r.outs) (c:=r.c z) (m:=r.m) (c?:=c?) (N:=(env.locals,aL loc)::((CA.opn W ⟨ca,.ns p u,d,l⟩ t v++[(r.xt,aS W Tx 1),(r.qt,aS W Tt 1)])++N)) I C (hA'.le (by decide)) F B hig (by show r.outs.length+4<=16000000;walk_at "o") hne hfl (S'.perm bes_in) λ m' c2 s' hm hw S2=>?_;rw[cO]at S2;have hpe:m'.pe=none:=fB hm hp1;refine k m' c2 s' (r.outs++xs) m'.pe hm hw (λ p h=>by rw[hpe]at h;cases h) rfl rfl (Sta.back (S2.perm rM) S.eok)
end
section
variable {z:Ws}{a a':Ab}{xs:List Str}
theorem aEN{x:W2}{c?:Option Addr}{m o:Option Pd}{P L:Lg}{e:Addr×Cell}(h:e∈[(x.xt,aS W Tx 1),(x.qt,aS W Tt 1)]):e∈L++(bes W x c? m o P++N):=
 Af _ (Ak _ (Af _ (Af _ (Af _ (Af _ h)))))
theorem xO{ca d:Addr}{x:Str}{j:Nat}{l:List (Str×Str×Tok)}{t:Tok×Tok×Tok}{v:Value}(I:IsC W)(hT:a.ig≠0\/Tx x=true):eF W z ⟨ca,.start x j,d,l⟩ t v a { a with ig:=a.ig+1 } []:=by
 intro G env loc N s A E Q r c? hA e B h3 S k;subst e;refine zO (t0:=t.1) (t1:=t.2.1) (tag:=x) (d:=d) I (hA.le (by decide)) (eL (.head _)) S λ L s' S'=>?_;have hA':=hA.deeper (env:=dN L);refine aBx (xt:=r.xt) I (hA'.le (by decide)) rfl (.tail _ (aEN (.head _))) hT S' λ ti s' S2=>?_;exact k { r.m with ig:=r.m.ig+1,ti:=ti } c? s' r.outs r.m.pe rfl B.ok (λ p h=>.inl h) (Am _).symm rfl (Sta.back (S2.perm pA) S.eok)
end
section
variable {z:Ws}{a a':Ab}{xs ys:List Str}
theorem zT{ca d:Addr}{x:Str}{j:Nat}{a1 a2:Ab}{l:List (Str×Str×Tok)}{t:Tok×Tok×Tok}{v:Value}(I:IsC W)(C:CodeHd W.B 118 116)(hig:a.ig=0)(hX:Tx x=false)(F:FlI z.st z.rw a a1 xs)(hp1:a1.pe=none)(B1:AbB a1)(O:StV z.rw Tt a1 x l a2 ys):eF W z ⟨ca,.start x j,d,l⟩ t v a a2 (xs++ys):=by
 intro G env loc N s A E Q r c? hA e B h3 S k;subst e;refine zO (t0:=t.1) (t1:=t.2.1) (tag:=x) (d:=d) I (hA.le (by decide)) (eL (.head _)) S λ L s' S'=>?_;have hA':=hA.deeper (env:=dN L);obtain⟨M,hM⟩:∃ M:Lg,M=(r.xt,aS W Tx 1)::(r.qt,aS W Tt 1)::(env.locals,aL loc)::(ca,aJ (eI d t v (.start x j)))::N:=⟨_,rfl⟩
 refine aBr (K:=bR W r.q r.out) (σ:=r.outs) (c:=r.c z) (m:=r.m) (c?:=c?) (l:=l) (N:=M) I C (hA'.le (by decide)) rfl (by rw[hM];exact .head _) hX hig rfl (by rw[hM];exact .tail _ (.head _)) F B hp1 B1 O (by show r.outs.length+8<=16000000;walk_at "o") (S'.perm ?_) λ m' c2 s' hm hw hp S2=>?_
 ·show List.Perm (aC W r.w (r.c z) r.q r.m ((env.locals,aL loc)::((bR W r.q r.out).L r.outs++((aP 116 aV aH c?++(pdT W r.m.pe++(pdD W r.m.pe++(((ca,aJ (eI d t v (.start x j)))::(d,IsD W d (atV l))::[])++[(r.xt,aS W Tx 1),(r.qt,aS W Tt 1)]))))++N)))) _;rw[hM];simp only[aC,bR]
  walk_at "perm"
 ·rw[cO]at S2;refine k m' c2 s' (r.outs++(xs++ys)) m'.pe hm hw (λ p h=>.inr (by obtain⟨h1,h2⟩:=hp p h;show[(p.d,p.l)]=[(d,l)];rw[h1,h2])) rfl rfl (Sta.back (S2.perm ?_) S.eok);show List.Perm _ ((env.locals,aL loc)::(aC W r.w (r.c z) r.q m' ((bR W r.q r.out).L (r.outs++(xs++ys))++((aP 116 aV aH c2++(pdT W m'.pe++(pdD W r.m.pe++(((ca,aJ (eI d t v (.start x j)))::(d,IsD W d (atV l))::[])++[(r.xt,aS W Tx 1),(r.qt,aS W Tt 1)]))))++N))));rw[hM];simp only[aC,bR]
  walk_at "perm"
end
section
variable {z:Ws}{a a':Ab}{xs:List Str}
theorem d_pi{r:CA}{o:Option Str}{a1:Ab}{t:Tok×Tok×Tok}{v:Value}{u:Tok}(I:IsC W)(C:CodeHd W.B 118 116)(hv:PiArg v o)(hig:a.ig=0)(R:RmV z.st z.rw a a1 xs)(hp1:a1.pe=none):Does W z r t v a a1 (xs++gJ "m" o::iB a1.rs) 140 [.str "m" u,v]:=by
 intro G env loc N s A E Q x c? hA e B h3 S k;subst e;refine pi_ (K:=bR W x.q x.out) (σ:=x.outs) (c:=x.c z) (m:=x.m) (c?:=c?) (tg:="m") (N:=(CA.opn W r t v++[(x.xt,aS W Tx 1),(x.qt,aS W Tt 1)])++N) I C (hA.le (by decide)) R B (by decide +kernel) hv hig (by show x.outs.length+6<=16000000;walk_at "o") (S.perm (yC bes_in0)) λ m' c2 s' hm hw S2=>?_;rw[cO]at S2;have hpe:m'.pe=none:=fB hm hp1;refine k m' c2 s' (x.outs++(xs++gJ "m" o::iB a1.rs)) m'.pe hm hw (λ p h=>by rw[hpe]at h;cases h) rfl rfl (S2.perm (yC bes_in0.symm))
theorem d_piI{r:CA}{t:Tok×Tok×Tok}{v:Value}{u:Tok}(I:IsC W)(hg:a.ig≠0):Does W z r t v a a [] 140 [.str "m" u,v]:=by
 intro G env loc N s A E Q x c? hA e B h3 S k;subst e;refine piI_ I (hA.le (by decide)) hg S λ s' S2=>?_;exact k x.m c? s' x.outs x.m.pe rfl B.ok (λ p h=>.inl h) (Am _).symm rfl S2
theorem d_ns{r:CA}{p u:Str}{a1:Ab}{t:Tok×Tok×Tok}{v:Value}{t1 t2:Tok}(I:IsC W)(C:CodeHd W.B 118 116)(hig:a.ig=0)(F:FlI z.st z.rw a a1 xs)(hp1:a1.pe=none)(hne:a1.ns.nss≠[])(hfl:(flat a1.ns.nss).length<=1000):Does W z r t v a (a1.told (u,p)) xs 106 [.str p t1,.str u t2]:=by
 intro G env loc N s A E Q x c? hA e B h3 S k;subst e;refine ns_ (K:=bR W x.q x.out) (σ:=x.outs) (c:=x.c z) (m:=x.m) (c?:=c?) (N:=(CA.opn W r t v++[(x.xt,aS W Tx 1),(x.qt,aS W Tt 1)])++N) I C (hA.le (by decide)) F B hig (by show x.outs.length+4<=16000000;walk_at "o") hne hfl (S.perm (yC bes_in0)) λ m' c2 s' hm hw S2=>?_;rw[cO]at S2;have hpe:m'.pe=none:=fB hm hp1;refine k m' c2 s' (x.outs++xs) m'.pe hm hw (λ p h=>by rw[hpe]at h;cases h) rfl rfl (S2.perm (yC bes_in0.symm))
theorem d_nsI{r:CA}{p u:Str}{t:Tok×Tok×Tok}{v:Value}{t1 t2:Tok}(I:IsC W)(hg:a.ig≠0):Does W z r t v a a [] 106 [.str p t1,.str u t2]:=by
 intro G env loc N s A E Q x c? hA e B h3 S k;subst e;refine nsI_ I (hA.le (by decide)) hg S λ s' S2=>?_;exact k x.m c? s' x.outs x.m.pe rfl B.ok (λ p h=>.inl h) (Am _).symm rfl S2
end
theorem aDi{st rw:Bool}{i b k:Nat}{ns:List Str}{a a1:Ab}{xs:List Str}(I:Iva rw i ns b k a)(h5:i≠5/\i≠6)(F:FlI st rw a a1 xs):a1.pe=none:=by
 induction F with
 | out hh F=>exact F.pe
 | keep hh=>
  cases hp:a.pe with
  | none=>rfl
  | some q=>
   obtain⟨_,_,_,_,h⟩:=I.pe q.1 q.2 hp;rcases h with⟨h,_⟩ | ⟨h,_⟩ | ⟨r,h⟩
   ·exact absurd h h5.1
   ·exact absurd h h5.2
   ·rw[hh]at h;cases h
theorem aCS{st rw:Bool}{i b k:Nat}{ns:List Str}{a a1:Ab}{xs:List Str}(I:Iva rw i ns b k a)(h5:i≠5/\i≠6)(R:RmV st rw a a1 xs):a1.pe=none:=by
 have hk:∀ h:a.rd=true\/a.rs=false\/a.held=[],a.pe=none:=λ h=>by
  cases hp:a.pe with
  | none=>rfl
  | some q=>
   have h3:=I.pe3 hp;obtain⟨_,_,_,_,h6⟩:=I.pe q.1 q.2 hp;rcases h with h | h | h
   ·rw[I.rd]at h;exact absurd (of_decide_eq_true h) h3.2
   ·rw[I.rs]at h;exact absurd h3.1 (of_decide_eq_false h)
   ·rcases h6 with⟨h6,_⟩ | ⟨h6,_⟩ | ⟨r,h6⟩
    ·exact absurd h6 h5.1
    ·exact absurd h6 h5.2
    ·rw[h]at h6;cases h6
 induction R with
 | done h=>exact hk (.inl h)
 | out h hs hh F=>exact F.pe
 | keep h hh=>exact hk (.inr hh)
section
variable {W:Wd}{z:Ws}{a a':Ab}{xs:List Str}
theorem wE{i i1 b b1 k:Nat}{ns ns1:List Str}{r:CA}{t:Tok×Tok×Tok}{v:Value}(I:IsC W)(C:CodeHd W.B 118 116)(V:Iva z.rw i ns b k a)(F:StepF i ns b r.c i1 ns1 b1)(hpi:∀ o,r.c≠.pi o)(T:Tl z.st z.rw z.com a r.c r.l a' xs):eF W z r t v a a' xs:=by
 obtain⟨ca,c,d,l⟩:=r;have T:Tl z.st z.rw z.com a c l a' xs:=T;have h5:=F.pf;have hc:=F.cf;clear F
 induction c with
 | ns p u=>
  rcases T with⟨h,rfl,rfl⟩ | ⟨a1,h,F,hne,hfl,rfl⟩
  ·exact aDA I h
  ·exact t2_ns I C h F (aDi V h5 F) hne hfl
 | start x j=>
  rcases T with⟨h,rfl,rfl⟩ | ⟨a1,us,ys,h,hx,F,hp,B,O,rfl⟩
  ·exact xO I h
  ·exact zT I C h hx F hp B O
 | fin x=>
  rcases T with⟨h,rfl,rfl⟩ | ⟨a1,us,tx,sv,pb,h,F,hg,hok,hq,htl,hp,hne,hps,B,rfl,rfl⟩
  ·exact aBp I h
  ·exact aDB I C h F hg hok hq htl hp hne hps B
 | txt x=>
  have q:=aDz (z:=z) (a:=a) (ca:=ca) (d:=d) (l:=l) (t:=t) (v:=v) (x:=x) I;rcases T with⟨h,rfl,rfl⟩ | ⟨h,rfl,rfl⟩
  ·rw[if_neg h]at q;exact q
  ·rw[if_pos h]at q;exact q
 | co x=>
  rcases T with⟨h,rfl,rfl⟩ | ⟨hcm,us,h,R,rfl⟩
  ·exact aDC I h
  ·exact t2_co I C hcm h R (Al hc (by unfold txL;decide)) (aCS V h5 R)
 | pi o=>exact absurd rfl (hpi o)
theorem aBO{i b k:Nat}{ns:List Str}{r:CA}{t:Tok×Tok×Tok}{v:Value}{o:Option Str}{l:List (Str×Str×Tok)}{u:Tok}(I:IsC W)(C:CodeHd W.B 118 116)(V:Iva z.rw i ns b k a)(h5:i≠5/\i≠6)(hv:PiArg v o)(T:Tl z.st z.rw z.com a (.pi o) l a' xs):Does W z r t v a a' xs 140 [.str "m" u,v]:=by
 rcases T with⟨h,rfl,rfl⟩ | ⟨us,h,R,rfl⟩
 ·exact d_piI I h
 ·exact d_pi I C hv h R (aCS V h5 R)
theorem aBU{i b k:Nat}{ns:List Str}{r:CA}{t:Tok×Tok×Tok}{v:Value}{p q:Str}{l:List (Str×Str×Tok)}{t1 t2:Tok}(I:IsC W)(C:CodeHd W.B 118 116)(V:Iva z.rw i ns b k a)(h5:i≠5/\i≠6)(T:Tl z.st z.rw z.com a (.ns p q) l a' xs):Does W z r t v a a' xs 106 [.str p t1,.str q t2]:=by
 rcases T with⟨h,rfl,rfl⟩ | ⟨a1,h,F,hne,hfl,rfl⟩
 ·exact d_nsI I h
 ·exact d_ns I C h F (aDi V h5 F) hne hfl
end
theorem tR(x:Str)(r:List Str):cat (x::r)=x++cat r:=rfl
section
variable {rw st com:Bool}{s sv:NSt}{tag:Str}{l:List (Str×Str×Tok)}{ex:List Str}{res:List (Str×Str)}{a a' a1:Ab}{xs:List Str}
theorem StOk.out(h:StOk rw s tag l ex res sv){x:Str}(hx:x∈dH tag l ex):(dE res x).length<=4000:=by
 obtain⟨r,hr,e⟩:=jG (h.key hx);rw[←e];exact h.tl r hr
theorem kE(h:StOk rw s tag l ex res sv):(cat (bL (dE res tag) (xnR sv.decl++atR res (atQ l)))).length<=90000:=by
 have h1:=h.out mP;have h2:=h.row;have h3:(xnR sv.decl++atR res (atQ l)).length<=7:=by
  have h4:=h.t4;have h5:=h.ll;unfold xnR atR atQ;rw[Ag,(bP (lt:=lt2) _).length_eq,Ai,Ai,(bP (lt:=lt2) _).length_eq,Ai];walk_at "o"
 obtain⟨row,hrow⟩:∃ row,row=xnR sv.decl++atR res (atQ l):=⟨_,rfl⟩
 rw[←hrow]at h2 h3 ⊢;have h4:(cat (row.map bX)).length<=10004*7:=Al (aA9 _ 10004 λ x hx=>by
  obtain⟨q,hq,rfl⟩:=Aj.mp hx;have h5:=lM q;have h6:=h2 q hq;walk_at "o") (Bm _ (by rw[Ai];exact h3))
 have h5:("<":Str).length=1:=by decide +kernel
 have h6:(">":Str).length=1:=by decide +kernel
 have h7:(cat (if row.isEmpty then[]else[cat (row.map bX)])).length<=10004*7:=by
  split
  ·exact AE _
  ·rw[gG];exact h4
 unfold bL;rw[tR,bS,gG,Str.length_append,Str.length_append,Str.length_append];walk_at "o"
theorem wX(b:Bool)(x:Str):(flT b x).length<=1/\(cat (flT b x)).length<=6*x.length:=by
 unfold flT
 split
 ·exact⟨AN _,by rw[gG];exact dM x⟩
 ·exact⟨AE _,AE _⟩
theorem FlV.cl(F:FlV st rw a a' xs)(h:(cat a.held).length<=2400):(cat xs).length<=130000:=by
 cases F with
 | plain pb h1 hp e e2=>
  subst e2;have h2:=(wX a.rs (cG st pb a.held)).2;have h3:=mK st pb a.held;walk_at "o"
 | wait pb h1 tag2 l2 hp w=>
  have h3:=mK st pb a.held;cases w with
  | start res sv hn ok e e2=>
   subst e2;have h2:=(wX true (cG st pb a.held)).2;have h4:=kE ok;rw[bS,Str.length_append];walk_at "o"
  | name pre ln u res sv hn hs hx hl hk hf ok e e2=>
   subst e2;have h4:=kE ok;have h5:=dM (dE res ("{"++u++"}"++ln:Str));have h6:=ok.out (x:=("{"++u++"}"++ln:Str)) (Af _ (.head _));rw[bS,Str.length_append,gG];walk_at "o"
theorem FlV.ig(F:FlV st rw a a' xs):a'.ig=a.ig:=F.hd.2
theorem FlI.cl(F:FlI st rw a a' xs)(h:(cat a.held).length<=2400):(cat xs).length<=130000:=by
 induction F with
 | keep hh=>exact AE _
 | out hh F=>exact F.cl h
theorem FlI.ig(F:FlI st rw a a' xs):a'.ig=a.ig:=by
 induction F with
 | keep hh=>rfl
 | out hh F=>exact F.ig
theorem RmV.cl(R:RmV st rw a a' xs)(h:(cat a.held).length<=2400):(cat xs).length<=130000:=by
 induction R with
 | done h1=>rw [gG];exact Ar (by decide +kernel)
 | out h1 hs hh F=>exact F.cl h
 | keep h1 hh=>exact AE _
theorem RmV.ig(R:RmV st rw a a' xs):a'.ig=a.ig:=by
 induction R with
 | done h1=>rfl
 | out h1 hs hh F=>exact F.ig
 | keep h1 hh=>rfl
theorem StV.cl{T:Str->Bool}{ys:List Str}(O:StV rw T a tag l a' ys):ys.length<=3/\(cat ys).length<=90000:=by
 induction O with
 | wait h=>exact⟨AE _,AE _⟩
 | now h pb hp ok=>exact⟨cW _ _,kE ok⟩
theorem StV.ig{T:Str->Bool}{ys:List Str}(O:StV rw T a tag l a' ys):a'.ig=a.ig:=by induction O<;>rfl
theorem aBV(b:Bool):(iB b).length<=1/\(cat (iB b)).length<=1:=by cases b<;>decide +kernel
theorem TlR.cl{y:Str}(T:TlR st rw a y a' xs)(h:(cat a.held).length<=2400)(hy:y.length<=100):xs.length<=8/\(cat xs).length<=300000:=by
 obtain⟨us,_,R,rfl⟩:=T;have h1:=R.len;have h2:=R.cl h;have h3:=aBV a'.rs;rw[Ag,bS,Str.length_append,tR,Str.length_append,AG];exact⟨by walk_at "o",by walk_at "o"⟩
theorem vT(tx:Str):(gD tx).length=tx.length+3:=by
 have h5:("</":Str).length=2:=by decide +kernel
 have h6:(">":Str).length=1:=by decide +kernel
 unfold gD;rw[Str.length_append,Str.length_append];walk_at "o"
noncomputable def CalL:Cal->Prop
 | .co x=>x.length<=8
 | .pi (some x)=>x.length<=8
 | _=>True
theorem CalF.len{c:Cal}(h:CalF c):CalL c:=by
 induction c with
 | co x=>exact h
 | pi o=>
  induction o with
  | none=>trivial
  | some x=>exact h
 | ns p u=>trivial
 | start x j=>trivial
 | fin x=>trivial
 | txt x=>trivial
theorem uG{i b k:Nat}{ns:List Str}{c:Cal}(I:Iva rw i ns b k a)(hc:CalL c)(T:Tl st rw com a c l a' xs):xs.length<=8/\(cat xs).length<=300000:=by
 have hh:(cat a.held).length<=2400:=by
  have h1:=oE I.ht;have h2:=I.hk;have h3:=I.k3;walk_at "o"
 have h0:([]:List Str).length<=8/\(cat []).length<=300000:=⟨AE _,AE _⟩
 induction c with
 | ns p u=>
  rcases T with⟨_,_,rfl⟩ | ⟨a1,_,F,_⟩
  ·exact h0
  ·exact⟨Al F.len (by decide),Al (F.cl hh) (by decide)⟩
 | start x j=>
  rcases T with⟨_,_,rfl⟩ | ⟨a1,us,ys,_,_,F,_,_,O,rfl⟩
  ·exact h0
  ·have h1:=F.len;have h2:=F.cl hh;have h3:=O.cl;rw[Ag,bS,Str.length_append];exact⟨by walk_at "o",by walk_at "o"⟩
 | fin x=>
  rcases T with⟨_,_,rfl⟩ | ⟨a1,us,tx,sv,pb,_,F,_,_,_,htl,_,_,_,_,_,rfl⟩
  ·exact h0
  ·have h1:=F.len;have h2:=F.cl hh;rw[Ag,bS,Str.length_append,gG,AJ,vT];exact⟨by walk_at "o",by walk_at "o"⟩
 | txt x=>
  rcases T with⟨_,_,rfl⟩ | ⟨_,_,rfl⟩
  ·exact h0
  ·exact h0
 | co x=>
  rcases T with⟨_,_,rfl⟩ | ⟨_,R⟩
  ·exact h0
  ·refine R.cl hh ?_;have h4:=dM x;have h7:x.length<=8:=hc;have h5:("<!--":Str).length=4:=by decide +kernel
   have h6:("-->":Str).length=3:=by decide +kernel
   unfold oC;rw[Str.length_append,Str.length_append];walk_at "o"
 | pi o=>
  rcases T with⟨_,_,rfl⟩ | R
  ·exact h0
  ·refine R.cl hh ?_
   induction o with
   | none=>exact Ar (by decide +kernel)
   | some x=>
    have h4:=dM x;have h5:x.length<=8:=hc;have h7:("<?"++"m"++" ":Str).length=4:=by decide +kernel
    have h8:("?>":Str).length=2:=by decide +kernel
    show("<?"++"m"++" "++dS x++"?>":Str).length<=_;rw[Str.length_append,Str.length_append,h7,h8];walk_at "o"
noncomputable def gP(c:Cal)(g:Nat):Nat:=match c with | .start x _=>if 0<g\/x="x" then g+1 else g | .fin _=>g-1 | _=>g
theorem Tx_at:∀ x∈nm5,(x="x"->Tx x=true)/\(x≠"x"->Tx x=false):=by decide +kernel
theorem aCQ{c:Cal}(hx:CalF c)(T:Tl st rw com a c l a' xs):a'.ig=gP c a.ig:=by
 induction c with
 | ns p u=>
  rcases T with⟨_,rfl,_⟩ | ⟨a1,_,F,_,_,rfl⟩
  ·rfl
  ·exact F.ig
 | start x j=>
  have h1:=Tx_at x hx.1;rcases T with⟨h,rfl,_⟩ | ⟨a1,us,ys,h,hx0,F,_,_,O,_⟩
  ·refine(if_pos ?_).symm;rcases h with h | h
   ·exact .inl (Nat.pos_of_ne_zero h)
   ·exact .inr (Classical.byContradiction λ e=>AY (h.symm.trans (h1.2 e)))
  ·rw[O.ig,F.ig];refine(if_neg λ h2=>?_).symm;rcases h2 with h2 | h2
   ·exact absurd h (Nat.pos_iff_ne_zero.mp h2)
   ·exact AY (hx0.symm.trans (h1.1 h2))
 | fin x=>
  rcases T with⟨_,rfl,_⟩ | ⟨a1,us,tx,sv,pb,h,F,_,_,_,_,_,_,_,_,rfl,_⟩
  ·rfl
  ·show a1.ig=a.ig-1;rw[h];exact F.ig.trans h
 | txt x=>
  rcases T with⟨_,rfl,_⟩ | ⟨_,rfl,_⟩
  ·rfl
  ·rfl
 | co x=>
  rcases T with⟨_,rfl,_⟩ | ⟨_,us,_,R,_⟩
  ·rfl
  ·exact R.ig
 | pi o=>
  rcases T with⟨_,rfl,_⟩ | ⟨us,_,R,_⟩
  ·rfl
  ·exact R.ig
end
noncomputable def PeIn(dn:List CA)(m:Wm):Prop:=∀ p,m.pe=some p->∃ q∈dn,[(p.d,p.l)]=q.st
theorem st_at{W:Wd}{q:CA}{d:Addr}{l:List (Str×Str×Tok)}(h:[(d,l)]=q.st):q.at W=[(d,IsD W d (atV l))]:=by
 obtain⟨a,c,d2,l2⟩:=q
 induction c with
 | start x j=>
  obtain⟨h1,h2⟩:=Prod.mk.inj (List.cons.inj h).1;show[(d2,IsD W d2 (atV l2))]=_;rw[h1,h2]
 | ns p u=>cases h
 | fin x=>cases h
 | pi o=>cases h
 | co x=>cases h
 | txt x=>cases h
section
theorem aBP{W:Wd}{dn:List CA}{m:Wm}(h:PeIn dn m):∃ U,(aI W dn).Perm (pdD W m.pe++U):=by
 cases hp:m.pe with
 | none=>exact⟨aI W dn,.refl _⟩
 | some p=>
  obtain⟨q,hq,e⟩:=h p hp;obtain⟨l1,l2,rfl⟩:=List.append_of_mem hq;refine⟨aI W l1++((q.a,bH q.d q.c)::aI W l2),?_⟩;rw[cX];show List.Perm (aI W l1++(q.led W++aI W l2)) ((p.d,IsD W p.d (atV p.l))::(aI W l1++((q.a,bH q.d q.c)::aI W l2)));rw[CA.led_eq,st_at e];walk_at "perm"
variable {z:Ws}{a a':Ab}{xs:List Str}
noncomputable def W2.after(x:W2)(m':Wm)(xs:List Str):W2:={ x with m:=m',outs:=x.outs++xs }
theorem PeIn.next{dn:List CA}{r:CA}{m m':Wm}(h:PeIn dn m)(F:aBi r m m'):PeIn (dn++[r]) m':=λ p hp=>by
 rcases F p hp with h1 | h1
 ·obtain⟨q,hq,e⟩:=h p h1;exact⟨q,Ak _ hq,e⟩
 ·exact⟨r,by simp,h1⟩
theorem Does.use{r:CA}{t:Tok×Tok×Tok}{v:Value}{f:Addr}{as:List Value}{x:W2}{dn:List CA}{c?:Option Addr}{Q:Value->Ac->Prop}(D:Does W z r t v a a' xs f as)(hA:Aok 31 A)(e:bE x.m=a)(B:WmB x.m)(h3:x.outs.length<=15000000)(P:PeIn dn x.m)(S:Sta W G env loc (x.led W z++(r.opn W t v++(aI W dn++(aP 116 aV aH c?++N)))) s)(k:∀ m' c2 s',bE m'=a'->WmOk m'->PeIn (dn++[r]) m'->Sta W G env loc ((x.after m' xs).led W z++(r.opn W t v++(aI W dn++(aP 116 aV aH c2++N)))) s'->Q .none s'):Ad W.M A (call (.ref f) (.ref x.w.x::as)) Q E s:=by
 obtain⟨U,hU⟩:=aBP (W:=W) P;have S1:=(S.perm (nw':=aI W dn++(x.led W z++(r.opn W t v++(aP 116 aV aH c?++N)))) (by walk_at "perm")).perm (hU.append_right _);refine D hA e B h3 (c?:=c?) (N:=U++N) (S1.perm ?_) λ m' c2 s' o' p' hm hw hf ho hp S2=>?_
 ·show List.Perm ((pdD W x.m.pe++U)++(aC W x.w (x.c z) x.q x.m ([(x.q,dQ "list.append" (.ref x.out)),(x.out,aB x.outs),(x.xt,aS W Tx 1),(x.qt,aS W Tt 1)]++pdT W x.m.pe)++(r.opn W t v++(aP 116 aV aH c?++N)))) _;simp only[aC,bR]
  walk_at "perm"
 ·subst ho hp;refine k m' c2 s' hm hw (P.next hf) ((S2.perm (nw':=(pdD W x.m.pe++U)++((x.after m' xs).led W z++(r.opn W t v++(aP 116 aV aH c2++N)))) ?_).perm (hU.symm.append_right _) |>.perm (by walk_at "perm"));show List.Perm _ ((pdD W x.m.pe++U)++(aC W x.w (x.c z) x.q m' ([(x.q,dQ "list.append" (.ref x.out)),(x.out,aB (x.outs++xs)),(x.xt,aS W Tx 1),(x.qt,aS W Tt 1)]++pdT W m'.pe)++(r.opn W t v++(aP 116 aV aH c2++N))));simp only[aC,bR]
  walk_at "perm"
end
section
local macro_rules | `(tactic| walk_at $s:str) => Mine.goAt Mine.tabD s
section
local macro_rules | `(tactic| walk_at $s:str) => Mine.goAt Mine.tabF s
section
local macro_rules | `(tactic| walk_at $s:str) => Mine.goAt Mine.tabG s
set_option hygiene false in
local macro_rules | `(tactic| walk_at "iK") => `(tactic| intro Kq hKn hKr)
noncomputable def lFor:Stmt:=(aE cV).getD 6 (.Pass default)
noncomputable def lB:List Stmt:=jV lFor
noncomputable abbrev bA(L:Addr):Env:=envOf "law" (aD cV) L 211 (.ref 210)
structure Lf where
 scr:Addr
 T:Value
 ol:Addr
 wl:Addr
 vo:Option Value
 vw:Option Value
 td:Addr
 du:Addr
noncomputable abbrev cA(f:Lf)(hi de be:Value)(vc vs vm:Option Value):Loc:=[("script",some (.ref f.scr)),("total",some f.T),("outs",some (.ref f.ol)),("writers",some (.ref f.wl)),("out",f.vo),("writer",f.vw),("hidden",some hi),("depth",some de),("begun",some be),("told",some (.ref f.td)),("due",some (.ref f.du)),("call",vc),("seen",vs),("mark",vm)]
theorem Sta.appendI{a:Addr}{ns:List Int}{n:Int}{t:Tok}{Q:Value->Ac->Prop}(S:Sta W G env loc nw s)(U:Upd a (bM ns) (bM (ns++[n])) nw nw')(hz:ns.length<=AC)(h:∀ s',Sta W G env loc nw' s'->Q .none s'):Ad W.M A (call (.builtin "list.append") [.ref a,.int n t]) Q E s:=by
 obtain⟨vs,nw1,ht,U1,U2,S1⟩:=S.openI U;obtain⟨nw2,U3,U4⟩:=U2.via2 (aA (vs++[.int n t]));exact S1.append U3 (by rw[Mine.IntsAre.length' ht];exact hz) λ s' S2=>h _ (S2.tell U4 λ o _ ho=>⟨_,Mine.IntsAre.snoc ht n t,ho⟩)
noncomputable abbrev Grew:=Addr×List Str×List Str
noncomputable abbrev pQ(os:List Grew):Lg:=os.map λ r=>(r.1,aB (r.2.1++r.2.2))
noncomputable abbrev pP(os:List Grew):List Value:=os.map λ r=>.ref r.1
noncomputable abbrev kM(os:List Grew):List Int:=os.map λ r=>(r.2.1.length:Int)
theorem mG{W:Wd}{sh:Lg}{it:Addr}:∀{xs:List (Addr×List Str)} {own:Lg} {og:Gens},cE W sh it (xs.map λ r=>.ref r.1) own og->YdR W sh it (λ(q:Addr×List Str) v=>v=.ref q.1) xs own og
 | [],_,_,H=>H
 | q::r,_,_,H=>⟨H.1,λ A R GR s Q E hA S hQ=>H.2 A R GR s Q E hA S λ own' og' s' S' H'=>hQ _ own' og' s' rfl S' (mG (xs:=r) H')⟩
noncomputable abbrev nB(os:List (Addr×List Str)):Lg:=os.map λ r=>(r.1,aB r.2)
noncomputable abbrev iI(os:List (Addr×List Str)):List Value:=os.map λ r=>.ref r.1
theorem aDL{L:Addr}{f:Lf}{hi de be:Value}{vc vs vm:Option Value}{os:List (Addr×List Str)}{Q:Flow->Ac->Prop}(I:IsC W)(hA:Aok 9 A)(hl:os.length<=10)(hz:∀ r∈os,r.2.length<=AC)(S':Sta W G (bA L) (cA f hi de be vc vs vm) ((f.ol,aA (iI os))::(nB os++N)) s)(k:∀ sl s',Sta W G (bA L) (cA f hi de be vc (some (.ref sl)) vm) ((sl,bM (os.map λ r=>(r.2.length:Int)))::(f.ol,aA (iI os))::(nB os++N)) s'-> Ad W.M A (execs (lB.drop 1) (bA L)) Q E s'):Ad W.M A (execs (lB.drop 0) (bA L)) Q E s:=by
 refine bQ rfl ?_;refine gX (cl:=[]) ["out"] (by kernel_rfl) (by kernel_rfl) (by kernel_rfl) rfl rfl ?_ (by intro _;kernel_rfl);refine S'.local_ (by walk_at "mem") ?_;refine S'.iterL (.head _) ?_;clear S';intro it s' S';refine⟨G,_,_,S',?_⟩;intro b Cc s1 eok S1;refine eW rfl rfl jH (S1.get (.tail _ (.tail _ (.head _)))) ?_;generalize hfr:cA f hi de be vc vs vm=fr at S1;have Y:LY W [(f.ol,aA (iI os))] it (iI os) [(it,bG f.ol 0)]:=dJ (own₀:=[]) (by simp) (iI os) 0 rfl;have S2:=(S1.tell (c':=bM []) .head λ o _ ho=>⟨_,.nil,ho⟩).perm (nw':=((b,bM [])::((bA L).locals,aL fr)::(nB os++N))++([(f.ol,aA (iI os))]++[(it,bG f.ol 0)])) (by walk_at "perm");clear S' S1;refine rI (sh:=[(f.ol,aA (iI os))]) (f:=λ(r:Addr×List Str)=>.ref r.1) (hA.le (by decide)) (G:=G) (og:=[]) (own:=[(it,bG f.ol 0)]) (λ(v:Option Value) _=>[("out",v)]) (λ _ dn=>(b,bM (dn.map λ r=>(r.2.length:Int)))::((bA L).locals,aL fr)::(nB os++N)) (λ _ _=>True) (compTurn_list1 ..) (mG Y.yields) none trivial (by rw[Am];exact S2) ?_ ?_
 rotate_left
 ·refine pr2 ?_;intro ra o dn rest tl tg vk s1 K hq _ S' kk;clear S2;have hrm:(ra,o)∈os:=by rw[hq];simp
  have hmq:(ra,aB o)∈(nB os++N)++((f.ol,aA (iI os))::tl):=Ak _ (Ak _ (Aj.mpr ⟨(ra,o),hrm,rfl⟩));have hdl:(dn.map λ r=>(r.2.length:Int)).length<=100:=by
   have:=congrArg A8 hq;simp only[Ai,Ag]at this ⊢;walk_at "o"
  have e1:((dn++[(ra,o)]).map λ r=>(r.2.length:Int))=(dn.map λ r=>(r.2.length:Int))++[(o.length:Int)]:=by rw[Aq];rfl
  simp only[Av,Ay]at S';refine wpAny_assign_Name (S'.store (by walk_at "put") λ s' S'=>?_);refine Aa ?_;refine Call_ ?_ (by kernel_rfl);refine Sta.builtin S' I.b_len kU (by kernel_rfl) ?_;refine PyProof.Rows.callWith_builtin1 ?_ (by kernel_rfl) (by kernel_rfl);walk_at "c";refine Sta.lenT S' (by walk_at "mem") (hz _ hrm) ?_;clear S';intro t1 s' S';walk_at "c";refine Aa (Sta.appendI S' .head (by walk_at "osz") λ s' S'=>Ae ?_);exact kk (some (.ref ra)) _ trivial (S'.perm (nw':=((b,bM ((dn++[(ra,o)]).map λ r=>(r.2.length:Int)))::((bA L).locals,aL fr)::(nB os++N))++([(f.ol,aA (iI os))]++tl)) (by rw[e1];walk_at "perm"))
 ·intro vk s1 _ S1;subst hfr;refine CompEndA.mk (nw':=(b,bM (os.map λ r=>(r.2.length:Int)))::(f.ol,aA (iI os))::(nB os++N)) (S1.perm (by walk_at "perm")) (by simp only[cA];walk_at "put") λ s3 S3=>?_;walk_at "ke";exact k b s3 S3
theorem aDe{L ol sl a:Addr}{os:List Grew}{j:Nat}{o y:List Str}{p3 p4 p5 p6 p7 p8 p9 p10 p11:Pos}{x:Str}{tx:Tok}{Q:Value->Ac->Prop}(hx:x=Str.empty)(hoc:(("outs":Str),some (Value.ref ol))∈loc)(hsc:(("seen":Str),some (Value.ref sl))∈loc)(hg:os[j]?=some (a,o,y))(hj:j<100)(hz:(o++y).length<=AC)(hc:(cat y).length<=16000000)(S':Sta W G (bA L) loc ((ol,aA (pP os))::(sl,bM (kM os))::(pQ os++N)) s)(k:∀ t s',Sta W G (bA L) loc ((ol,aA (pP os))::(sl,bM (kM os))::(pQ os++N)) s'->Q (.str (cat y) t) s'):GetM W.M A E "join" (.str x tx) (λ p s₂=>Ad W.M A (callWith p11 p.1 p.2 (backTo p11 (Ap [.Subscript (.Subscript (.Name "outs" p3) (.Constant (.int (j:Int)) 0 p4) p5) (.Slice (some (.Subscript (.Name "seen" p6) (.Constant (.int (j:Int)) 0 p7) p8)) none none p9) p10] (bA L))) (backToKw p11 (keywordEach [] (bA L)))) Q E s₂) s:=by
 have hrm:(a,o,y)∈os:=Ao hg;have g1:(pP os)[j]?=some (.ref a):=by rw[List.getElem?_map,hg];rfl
 have g2:(kM os)[j]?=some (o.length:Int):=by rw[List.getElem?_map,hg];rfl
 have hmq:(a,aB (o++y))∈(pQ os++N):=Ak _ (Aj.mpr ⟨(a,o,y),hrm,rfl⟩);refine iZ ?_;walk_at "c";refine aBD ?_;refine cI ?_ (by intro _ _;kernel_rfl);refine S'.local_ hoc ?_;walk_at "c";refine Sta.sub_list S' (by walk_at "mem") (by walk_at "o") (by walk_at "o") (by rw[BM];exact g1) ?_;rw[evalPart_some];refine cI ?_ (by intro _ _;kernel_rfl);refine S'.local_ hsc ?_;walk_at "c";refine Sta.subI S' (by walk_at "mem") (j:=j) rfl (by walk_at "o") g2 λ t2=>?_;walk_at "c";refine sD (j:=o.length) S' (by walk_at "mem") hz rfl ?_;rw[List.drop_left];clear S';intro sl2 s' S';walk_at "c";refine Sta.joinT S' (.head _) hx (by walk_at "o") ?_;clear S';intro t3 s' S';exact k t3 s' (S'.sel (Sel.rest [(sl2,aB y)] (by walk_at "perm")))
noncomputable abbrev bF(W:Wd)(z:Ws)(f:Lf)(x0 x1:W2)(tx:List Str)(N:Lg):Lg:=
 (f.ol,aA [.ref x0.out,.ref x1.out])::(f.wl,aA [.ref x0.w.x,.ref x1.w.x])::(f.td,aB tx)::(f.du,aB tx)::(x0.led W z++(x1.led W z++N))
noncomputable abbrev eS(W:Wd)(z:Ws)(f:Lf)(sl:Addr)(n0 n1:Nat)(x0 x1:W2)(tx:List Str)(r:CA)(t:Tok×Tok×Tok)(v:Value)(dn:List CA)(c?:Option Addr)(N:Lg):Lg:=
 (sl,bM [(n0:Int),(n1:Int)])::bF W z f x0 x1 tx (r.opn W t v++(aI W dn++(aP 116 aV aH c?++N)))
theorem aEl{c:Cal}(h:∀ o,c≠.pi o):tU c≠"pi":=by
 induction c with
 | pi o=>exact absurd rfl (h o)
 | start x j=>show("start":Str)≠"pi";decide +kernel
 | fin x=>show("end":Str)≠"pi";decide +kernel
 | ns p u=>show("ns":Str)≠"pi";decide +kernel
 | co x=>show("comment":Str)≠"pi";decide +kernel
 | txt x=>show("text":Str)≠"pi";decide +kernel
theorem PeIn.mono{dn:List CA}{r:CA}{m:Wm}(h:PeIn dn m):PeIn (dn++[r]) m:=λ p hp=>by
 obtain⟨q,hq,e⟩:=h p hp;exact⟨q,Ak _ hq,e⟩
theorem aBX{p:Addr×Cell}{a b c d M:Lg}(h:p∈M):p∈a++(b++(c++(d++M))):=Af _ (Af _ (Af _ (Af _ h)))
section
variable {z:Ws}{a0 a1 b0 b1:Ab}{xs ys:List Str}
theorem aDx{L sl:Addr}{f:Lf}{hi de be:Value}{vs vm:Option Value}{n0 n1:Nat}{x0 x1:W2}{tx:List Str}{r:CA}{t:Tok×Tok×Tok}{v:Value}{dn:List CA}{c?:Option Addr}{Q:Flow->Ac->Prop}(I:IsC W)(hA:Aok 32 A)(hkd:tU r.c≠"pi")(D0:eF W z r t v a0 b0 xs)(D1:eF W z r t v a1 b1 ys)(e0:bE x0.m=a0)(e1:bE x1.m=a1)(B0:WmB x0.m)(B1:WmB x1.m)(h0:x0.outs.length<=15000000)(h1:x1.outs.length<=15000000)(P0:PeIn dn x0.m)(P1:PeIn dn x1.m)(S':Sta W G (bA L) (cA f hi de be (some (.ref r.a)) vs vm) (eS W z f sl n0 n1 x0 x1 tx r t v dn c? N) s)(kk:∀ m0 m1 c2 s',bE m0=b0->bE m1=b1->WmOk m0->WmOk m1->PeIn (dn++[r]) m0->PeIn (dn++[r]) m1-> Sta W G (bA L) (cA f hi de be (some (.ref r.a)) vs vm) (eS W z f sl n0 n1 (x0.after m0 xs) (x1.after m1 ys) tx r t v dn c2 N) s'-> Ad W.M A (execs (lB.drop 3) (bA L)) Q E s'):∀ st:List Stmt,st=lB.drop 2->Ad W.M A (execs st (bA L)) Q E s:=by
 intro st hst;subst hst;obtain⟨M,hM⟩:∃ M:Lg,M=(sl,bM [(n0:Int),(n1:Int)])::(f.ol,aA [.ref x0.out,.ref x1.out])::(f.td,aB tx)::(f.du,aB tx)::N:=⟨_,rfl⟩
 have S1:=S'.perm (nw':=x0.led W z++(r.opn W t v++(aI W dn++(aP 116 aV aH c?++((f.wl,aA [.ref x0.w.x,.ref x1.w.x])::(x1.led W z++M)))))) (by rw[hM];walk_at "perm");clear S';have S':=S1;clear S1;have hca:(r.a,aJ (eI r.d t v r.c))∈x0.led W z++(r.opn W t v++(aI W dn++(aP 116 aV aH c?++((f.wl,aA [.ref x0.w.x,.ref x1.w.x])::(x1.led W z++M))))):=Af _ (.head _);refine fR (l:=lB) (n:=2) rfl ?_;intro K0 hK0 _;refine bW (by walk_at "mem") hca (gH ..) S' (λ e=>absurd e hkd) (λ _=>?_);clear S' hca;intro s' S';walk_at "c";refine Sta.global S' I.g_l_tell (by kernel_rfl) ?_;refine gC (by rw[I.k];kernel_rfl) ?_ (by kernel_rfl) (by kernel_rfl);refine eR ?_ (by kernel_rfl);refine cI ?_ (by intro _ _;kernel_rfl);walk_at "c";refine Sta.sub_list S' (aBX (.head _)) (by decide) (by decide) rfl ?_;refine eR ?_ (by kernel_rfl);refine S'.local_ (by walk_at "mem") ?_;refine args_nil ?_;refine⟨S'.kin,?_⟩;refine D0.use (hA.le (by decide)) e0 B0 h0 P0 S' ?_;clear S';intro m0 c2 s' g0 w0 p0 S';replace S':=S'.perm (nw':=x1.led W z++(r.opn W t v++(aI W dn++(aP 116 aV aH c2++((f.wl,aA [.ref x0.w.x,.ref x1.w.x])::((x0.after m0 xs).led W z++M)))))) (by walk_at "perm");walk_at "c";refine Sta.global S' I.g_l_tell (by kernel_rfl) ?_;refine gC (by rw[I.k];kernel_rfl) ?_ (by kernel_rfl) (by kernel_rfl);refine eR ?_ (by kernel_rfl);refine cI ?_ (by intro _ _;kernel_rfl);walk_at "c";refine Sta.sub_list S' (aBX (.head _)) (by decide) (by decide) rfl ?_;refine eR ?_ (by kernel_rfl);refine S'.local_ (by walk_at "mem") ?_;refine args_nil ?_;refine⟨S'.kin,?_⟩;refine D1.use (hA.le (by decide)) e1 B1 h1 P1 S' ?_;clear S';intro m1 c3 s' g1 w1 p1 S';subst hM;replace S':=S'.perm (nw':=(sl,bM [(n0:Int),(n1:Int)])::(f.ol,aA [.ref x0.out,.ref x1.out])::(f.wl,aA [.ref x0.w.x,.ref x1.w.x])::(f.td,aB tx)::(f.du,aB tx)::((x0.after m0 xs).led W z++((x1.after m1 ys).led W z++(r.opn W t v++(aI W dn++(aP 116 aV aH c3++N)))))) (by walk_at "perm")
 repeat (fail_if_success (with_reducible show K0 .next _));walk_at "cw"
 exact hK0 _ (kk m0 m1 c3 s' g0 g1 w0 w1 p0 p1 S')
end
noncomputable def pIf:Stmt:=lB.getD 2 (.Pass default)
noncomputable def pB:List Stmt:=aE pIf
noncomputable def mkT(bg:Bool)(n g:Nat)(o:Option Str):Str:=if g=0 then(if bg=false then qZ o++"\n" else if n=0 then "\n"++qZ o else qZ o)else ""
theorem aEe{i g:Nat}{ns:List Str}{o:Option Str}(h:i=2\/i=3\/i=4)(h0:ns=[]↔(i<=2\/i=4)):cat (mkV i g o)=mkT (decide (3<=i)) ns.length g o:=by
 by_cases hg:g=0
 ·subst hg;rcases h with rfl | rfl | rfl
  ·exact mk_2
  ·have hn:ns.length≠0:=λ e=>by have:=h0.mp (Bz.mp e);walk_at "o"
   rw[mk_3];exact(if_neg hn).symm
  ·have hn:ns=[]:=h0.mpr (.inr rfl);rw[mk_4,hn]
   rfl
 ·rw[mk_in hg];exact(if_neg hg).symm
theorem zD(x:W2):x.after x.m []=x:=by
 unfold W2.after;rw[Am]
theorem W2.m1{W:Wd}{z:Ws}{N:Lg}(x:W2):(x.w.x,bD 143 x.w.dx)∈x.led W z++N:=Ak _ (by unfold W2.led;exact .head _)
theorem W2.m2{W:Wd}{z:Ws}{N:Lg}(x:W2):(x.w.dx,aN (eJ x.w (x.c z) x.q x.m))∈x.led W z++N:=Ak _ (by unfold W2.led;exact .tail _ (.head _))
section
variable {z:Ws}{a0 a1 b0 b1:Ab}{xs ys:List Str}
theorem piM_{L ca:Addr}{f:Lf}{g n:Nat}{th tdp tm t0:Tok}{bg:Bool}{vs:Option Value}{v:Value}{o:Option Str}{Q:Flow->Ac->Prop}(I:IsC W)(hA:Aok 20 A)(hv:PiArg v o)(S':Sta W G (bA L) (cA f (.int (g:Int) th) (.int (n:Int) tdp) (.bool bg) (some (.ref ca)) vs (some (.str "" tm))) ((ca,aJ [.str "pi" t0,v])::N) s)(kk:∀ tm s',Sta W G (bA L) (cA f (.int (g:Int) th) (.int (n:Int) tdp) (.bool bg) (some (.ref ca)) vs (some (.str (mkT bg n g o) tm))) ((ca,aJ [.str "pi" t0,v])::N) s'->Q .next s'):∀ st:List Stmt,st=pB.drop 2->Ad W.M A (execs st (bA L)) Q E s:=by
 intro st hst;subst hst;have hl1:("<?m ":Str).length=4:=by decide +kernel
 have hl2:("?>":Str).length=2:=by decide +kernel
 have hl3:("\n":Str).length=1:=by decide +kernel
 have hzl:(qZ o).length<=2000000:=by
  cases hv with
  | none=>exact Ar (by decide +kernel)
  | zero t=>exact Ar (by decide +kernel)
  | emp t=>exact Ar (by decide +kernel)
  | txt x t h hz=>
   have hx':x.length<=300000:=hz;have h1:=dM x;show("<?m "++dS x++"?>":Str).length<=_;rw[Str.length_append,Str.length_append];walk_at "o"
 refine fR (l:=pB) (n:=2) rfl ?_;intro K0 hK0 _;refine fG ?_;walk_at "c";refine dL (λ hg=>?_) (λ hg=>?_)
 ·have hg0:g=0:=by have:=of_decide_eq_true hg;walk_at "o"
  walk_at "c";refine Sta.sub_tuple S' (.head _) (j:=1) rfl (by decide) rfl ?_;have hfin:∀ tm s',Sta W G (bA L) (cA f (.int (g:Int) th) (.int (n:Int) tdp) (.bool bg) (some (.ref ca)) vs (some (.str (qZ o) tm))) ((ca,aJ [.str "pi" t0,v])::N) s'->Kq .next s':=by
   clear S';intro tm s' S';refine hKn s' ?_;have hk:∀ tm s',Sta W G (bA L) (cA f (.int (g:Int) th) (.int (n:Int) tdp) (.bool bg) (some (.ref ca)) vs (some (.str (mkT bg n g o) tm))) ((ca,aJ [.str "pi" t0,v])::N) s'->K0 .next s':=λ tm s' S=>hK0 s' (dD (Ar rfl) (kk tm s' S));unfold mkT at hk;rw[if_pos hg0]at hk;clear hKn hKr hK0 kk;cases bg with
   | false=>
    rw[if_pos rfl]at hk
    repeat (fail_if_success (with_reducible show K0 .next _));walk_at "cw"
    exact hk _ _ S'
   | true=>
    rw[if_neg AY]at hk;walk_at "c";refine dL (λ hn=>?_) (λ hn=>?_)
    ·rw[if_pos (by have:=of_decide_eq_true hn;walk_at "o")]at hk
     repeat (fail_if_success (with_reducible show K0 .next _));walk_at "cw"
     exact hk _ _ S'
    ·rw[if_neg (by have:=of_decide_eq_false hn;walk_at "o")]at hk
     repeat (fail_if_success (with_reducible show K0 .next _));walk_at "cw"
     exact hk _ _ S'
  clear hKn hKr hK0 kk;refine aC6 hv S' (λ e s' S'=>?_) (λ x t ev eo hx' s' S'=>?_)
  ·subst e
   repeat (fail_if_success (with_reducible show Kq .next _));walk_at "cw"
   exact hfin _ _ S'
  ·subst ev eo;have h1:=dM x;walk_at "c";refine Sta.global S' I.g_l_spelled (by kernel_rfl) ?_;refine gC (by rw[I.k];kernel_rfl) ?_ (by kernel_rfl) (by kernel_rfl);refine eR ?_ (by kernel_rfl);refine cI ?_ (by intro _ _;kernel_rfl);walk_at "c";refine Sta.sub_tuple S' (.head _) (j:=1) rfl (by decide) rfl ?_;refine args_nil ?_;refine⟨S'.kin,?_⟩;refine aDG I (hA.le (by decide)) (by walk_at "o") S' ?_;clear S';intro t3 s' S'
   repeat (fail_if_success (with_reducible show Kq .next _));walk_at "cw"
   exact hfin _ _ S'
 ·have hg0:g≠0:=by have:=of_decide_eq_false hg;walk_at "o"
  have e:mkT bg n g o="":=if_neg hg0;rw[e]at kk
  repeat (fail_if_success (with_reducible show K0 .next _));walk_at "cw"
  exact hK0 _ (dD (Ar rfl) (kk _ _ S'))
theorem piW_{L:Addr}{f:Lf}{hi de be:Value}{vs vm:Option Value}{x0 x1:W2}{r:CA}{t:Tok×Tok×Tok}{v:Value}{o:Option Str}{dn:List CA}{c?:Option Addr}{Q:Flow->Ac->Prop}(I:IsC W)(hA:Aok 32 A)(hc:r.c=.pi o)(D0:∀ u,Does W z r t v a0 b0 xs 140 [.str "m" u,v])(e0:bE x0.m=a0)(B0:WmB x0.m)(h0:x0.outs.length<=15000000)(P0:PeIn dn x0.m)(S':Sta W G (bA L) (cA f hi de be (some (.ref r.a)) vs vm) (x0.led W z++(r.opn W t v++(aI W dn++(aP 116 aV aH c?++((f.wl,aA [.ref x0.w.x,.ref x1.w.x])::N))))) s)(kk:∀ m0 c2 s',bE m0=b0->WmOk m0->PeIn (dn++[r]) m0-> Sta W G (bA L) (cA f hi de be (some (.ref r.a)) vs vm) ((x0.after m0 xs).led W z++(r.opn W t v++(aI W dn++(aP 116 aV aH c2++((f.wl,aA [.ref x0.w.x,.ref x1.w.x])::N))))) s'-> Ad W.M A (execs (pB.drop 1) (bA L)) Q E s'):∀ st:List Stmt,st=pB.drop 0->Ad W.M A (execs st (bA L)) Q E s:=by
 intro st hst;subst hst;have hcl:=I.cl;have hit:eI r.d t v r.c=[.str "pi" t.1,v]:=by rw[hc];rfl
 have hca:(r.a,aJ [.str "pi" t.1,v])∈x0.led W z++(r.opn W t v++(aI W dn++(aP 116 aV aH c?++((f.wl,aA [.ref x0.w.x,.ref x1.w.x])::N)))):=by rw[←hit];exact Af _ (.head _)
 refine fR (l:=pB) (n:=0) rfl ?_;intro K0 hK0 _;walk_at "c";refine Sta.sub_list S' (aBX (.head _)) (by decide) (by decide) rfl ?_;refine Sta.getM_inst (f:=140) S' hcl (W2.m1 x0) (W2.m2 x0) VV.keys (by decide +kernel) (by rw[I.k];kernel_rfl) (by rw[I.k];kernel_rfl) ?_;refine oP (by rw[I.k];kernel_rfl) ?_ (by kernel_rfl) (by kernel_rfl);refine eR ?_ (by kernel_rfl);walk_at "c";refine Sta.sub_tuple S' hca (j:=1) rfl (by decide) rfl ?_;refine args_nil ?_;refine⟨S'.kin,?_⟩;refine(D0 _).use (hA.le (by decide)) e0 B0 h0 P0 S' ?_;clear S' hca;intro m0 c2 s' g0 w0 p0 S'
 repeat (fail_if_success (with_reducible show K0 .next _));walk_at "cw"
 exact hK0 _ (kk m0 c2 _ g0 w0 p0 S')
noncomputable def zIf:Stmt:=pB.getD 1 (.Pass default)
theorem piZ_{L:Addr}{f:Lf}{hi:Value}{n:Nat}{tdp:Tok}{bg:Bool}{vs vm:Option Value}{x0 x1:W2}{r:CA}{t:Tok×Tok×Tok}{v:Value}{dn:List CA}{c?:Option Addr}{Q:Flow->Ac->Prop}(I:IsC W)(hA:Aok 32 A)(D1:(0<n\/bg=false)->∀ t1 t2,Does W z r t v a1 b1 ys 106 [.str "zz" t1,.str "urn:zz" t2])(D2:¬(0<n\/bg=false)->b1=a1/\ys=[])(e1:bE x1.m=a1)(B1:WmB x1.m)(h1:x1.outs.length<=15000000)(P1:PeIn dn x1.m)(S':Sta W G (bA L) (cA f hi (.int (n:Int) tdp) (.bool bg) (some (.ref r.a)) vs vm) (x1.led W z++(r.opn W t v++(aI W dn++(aP 116 aV aH c?++((f.wl,aA [.ref x0.w.x,.ref x1.w.x])::N))))) s)(kk:∀ m1 c2 s',bE m1=b1->WmOk m1->PeIn (dn++[r]) m1-> Sta W G (bA L) (cA f hi (.int (n:Int) tdp) (.bool bg) (some (.ref r.a)) vs vm) ((x1.after m1 ys).led W z++(r.opn W t v++(aI W dn++(aP 116 aV aH c2++((f.wl,aA [.ref x0.w.x,.ref x1.w.x])::N))))) s'-> Ad W.M A (execs (pB.drop 2) (bA L)) Q E s'):∀ st:List Stmt,st=pB.drop 1->Ad W.M A (execs st (bA L)) Q E s:=by
 intro st hst;subst hst;have hcl:=I.cl;refine fR (l:=pB) (n:=1) rfl ?_;intro K0 hK0 _;have hk:∀ m1 c2 s',bE m1=b1->WmOk m1->PeIn (dn++[r]) m1->
   Sta W G (bA L) (cA f hi (.int (n:Int) tdp) (.bool bg) (some (.ref r.a)) vs vm) ((x1.after m1 ys).led W z++(r.opn W t v++(aI W dn++(aP 116 aV aH c2++((f.wl,aA [.ref x0.w.x,.ref x1.w.x])::N))))) s'->K0 .next s':=λ m1 c2 s' g w p S=>hK0 s' (kk m1 c2 s' g w p S)
 clear hK0 kk;have hb:(0<n\/bg=false)->∀ s',Sta W G (bA L) (cA f hi (.int (n:Int) tdp) (.bool bg) (some (.ref r.a)) vs vm) (x1.led W z++(r.opn W t v++(aI W dn++(aP 116 aV aH c?++((f.wl,aA [.ref x0.w.x,.ref x1.w.x])::N))))) s'->Ad W.M A (execs (aE zIf) (bA L)) K0 E s':=by
  intro hc;clear S';intro s' S';refine aM ?_;refine bQ rfl ?_;walk_at "c";refine Sta.sub_list S' (aBX (.head _)) (by decide) (by decide) rfl ?_;refine Sta.getM_inst (f:=106) S' hcl (W2.m1 x1) (W2.m2 x1) VV.keys (by decide +kernel) (by rw[I.k];kernel_rfl) (by rw[I.k];kernel_rfl) ?_;refine oP (by rw[I.k];kernel_rfl) ?_ (by kernel_rfl) (by kernel_rfl);refine eR ?_ (by kernel_rfl);walk_at "c";refine(D1 hc _ _).use (hA.le (by decide)) e1 B1 h1 P1 S' ?_;clear S';intro m1 c2 s' g1 w1 p1 S'
  repeat (fail_if_success (with_reducible show K0 .next _));walk_at "cw"
  exact hk m1 c2 _ g1 w1 p1 S'
 have hs:¬(0<n\/bg=false)->∀ s',Sta W G (bA L) (cA f hi (.int (n:Int) tdp) (.bool bg) (some (.ref r.a)) vs vm) (x1.led W z++(r.opn W t v++(aI W dn++(aP 116 aV aH c?++((f.wl,aA [.ref x0.w.x,.ref x1.w.x])::N))))) s'->K0 .next s':=λ hc s' S=>by
  obtain⟨rfl,rfl⟩:=D2 hc;refine hk x1.m c? s' e1 B1.ok P1.mono ?_;rw[zD];exact S
 clear hk;refine fG ?_;walk_at "c";refine dL (λ hn=>?_) (λ hn=>?_)
 ·exact hb (.inl (by have:=of_decide_eq_true hn;walk_at "o")) _ S'
 ·have hn0:¬0<n:=by have:=of_decide_eq_false hn;walk_at "o"
  walk_at "c";cases bg with
  | false=>exact hb (.inr rfl) _ S'
  | true=>
   repeat (fail_if_success (with_reducible show K0 .next _));walk_at "cw"
   exact hs (λ h=>h.elim hn0 AY) _ S'
theorem pi2_{L sl:Addr}{f:Lf}{g n n0 n1:Nat}{th tdp tm:Tok}{bg:Bool}{vs:Option Value}{x0 x1:W2}{tx:List Str}{r:CA}{t:Tok×Tok×Tok}{v:Value}{o:Option Str}{dn:List CA}{c?:Option Addr}{Q:Flow->Ac->Prop}(I:IsC W)(hA:Aok 32 A)(hc:r.c=.pi o)(hv:PiArg v o)(D0:∀ u,Does W z r t v a0 b0 xs 140 [.str "m" u,v])(D1:(0<n\/bg=false)->∀ t1 t2,Does W z r t v a1 b1 ys 106 [.str "zz" t1,.str "urn:zz" t2])(D2:¬(0<n\/bg=false)->b1=a1/\ys=[])(e0:bE x0.m=a0)(e1:bE x1.m=a1)(B0:WmB x0.m)(B1:WmB x1.m)(h0:x0.outs.length<=15000000)(h1:x1.outs.length<=15000000)(P0:PeIn dn x0.m)(P1:PeIn dn x1.m)(S':Sta W G (bA L) (cA f (.int (g:Int) th) (.int (n:Int) tdp) (.bool bg) (some (.ref r.a)) vs (some (.str "" tm))) (eS W z f sl n0 n1 x0 x1 tx r t v dn c? N) s)(kk:∀ m0 m1 c2 tm s',bE m0=b0->bE m1=b1->WmOk m0->WmOk m1->PeIn (dn++[r]) m0->PeIn (dn++[r]) m1-> Sta W G (bA L) (cA f (.int (g:Int) th) (.int (n:Int) tdp) (.bool bg) (some (.ref r.a)) vs (some (.str (mkT bg n g o) tm))) (eS W z f sl n0 n1 (x0.after m0 xs) (x1.after m1 ys) tx r t v dn c2 N) s'-> Ad W.M A (execs (lB.drop 3) (bA L)) Q E s'):∀ st:List Stmt,st=lB.drop 2->Ad W.M A (execs st (bA L)) Q E s:=by
 intro st hst;subst hst;obtain⟨M,hM⟩:∃ M:Lg,M=(sl,bM [(n0:Int),(n1:Int)])::(f.ol,aA [.ref x0.out,.ref x1.out])::(f.td,aB tx)::(f.du,aB tx)::N:=⟨_,rfl⟩
 have hit:eI r.d t v r.c=[.str "pi" t.1,v]:=by rw[hc];rfl
 have hop:r.opn W t v=(r.a,aJ [.str "pi" t.1,v])::r.at W:=by rw[←hit]
 replace S':=S'.perm (nw':=x0.led W z++(r.opn W t v++(aI W dn++(aP 116 aV aH c?++((f.wl,aA [.ref x0.w.x,.ref x1.w.x])::(x1.led W z++M)))))) (by rw[hM];simp only[eS,bF];walk_at "perm");have hca:(r.a,aJ (eI r.d t v r.c))∈x0.led W z++(r.opn W t v++(aI W dn++(aP 116 aV aH c?++((f.wl,aA [.ref x0.w.x,.ref x1.w.x])::(x1.led W z++M))))):=Af _ (.head _);refine fR (l:=lB) (n:=2) rfl ?_;intro K0 hK0 _;refine bW (by walk_at "mem") hca (gH ..) S' (λ _=>?_) (λ e=>absurd (by rw[hc];rfl) e);clear S' hca;intro s' S';refine aM ?_;generalize hst:Bv 0 _=st;refine piW_ (x1:=x1) (N:=x1.led W z++M) (xs:=xs) I hA hc D0 e0 B0 h0 P0 S' ?_ st (by rw[←hst];rfl);clear S' hst;intro m0 c2 s' g0 w0 p0 S';generalize hst:Bv 1 pB=st;refine piZ_ (x0:=x0) (x1:=x1) (N:=(x0.after m0 xs).led W z++M) (ys:=ys) I hA D1 D2 e1 B1 h1 P1 (S'.perm (by walk_at "perm")) ?_ st hst.symm;clear S' hst;intro m1 c3 s' g1 w1 p1 S';rw[hop]at S';generalize hst:Bv 2 pB=st;refine piM_ (t0:=t.1) (v:=v) (N:=r.at W++((x1.after m1 ys).led W z++(aI W dn++(aP 116 aV aH c3++((f.wl,aA [.ref x0.w.x,.ref x1.w.x])::((x0.after m0 xs).led W z++M)))))) I (hA.le (by decide)) hv (S'.perm (by walk_at "perm")) ?_ st hst.symm;clear S' hst;intro tm s' S';subst hM;refine hK0 s' (kk m0 m1 c3 tm s' g0 g1 w0 w1 p0 p1 (S'.perm ?_));simp only[eS,bF]
 rw[hop];walk_at "perm"
end
theorem aAK{c:Cal}(h1:∀ x j,c≠.start x j)(h2:∀ x,c≠.fin x):tU c≠"start"/\tU c≠"end":=by
 cases c with
 | start x j=>exact absurd rfl (h1 x j)
 | fin x=>exact absurd rfl (h2 x)
 | ns p u=>exact⟨show("ns":Str)≠"start" from by decide +kernel,show("ns":Str)≠"end" from by decide +kernel⟩
 | pi o=>exact⟨show("pi":Str)≠"start" from by decide +kernel,show("pi":Str)≠"end" from by decide +kernel⟩
 | co x=>exact⟨show("comment":Str)≠"start" from by decide +kernel,show("comment":Str)≠"end" from by decide +kernel⟩
 | txt x=>exact⟨show("text":Str)≠"start" from by decide +kernel,show("text":Str)≠"end" from by decide +kernel⟩
theorem aBS{c:Cal}{ns ns1:List Str}(b:Bool)(g:Nat)(h1:∀ x j,c≠.start x j)(h2:∀ x,c≠.fin x)(hs:uK c ns ns1):ns1=ns/\gP c g=g/\aEO c b=b:=by
 cases c with
 | start x j=>exact absurd rfl (h1 x j)
 | fin x=>exact absurd rfl (h2 x)
 | ns p u=>exact⟨hs,rfl,rfl⟩
 | pi o=>exact⟨hs,rfl,rfl⟩
 | co x=>exact⟨hs,rfl,rfl⟩
 | txt x=>exact⟨hs,rfl,rfl⟩
section
variable {z:Ws}
theorem aDy{L ca d:Addr}{f:Lf}{c:Cal}{t:Tok×Tok×Tok}{v:Value}{g:Nat}{ns ns1:List Str}{th tdp:Tok}{bg:Bool}{vs vm:Option Value}{Q:Flow->Ac->Prop}(I:IsC W)(hA:Aok 9 A)(hst:uK c ns ns1)(S':Sta W G (bA L) (cA f (.int (g:Int) th) (.int (ns.length:Int) tdp) (.bool bg) (some (.ref ca)) vs vm) ((ca,aJ (eI d t v c))::N) s)(k:∀(gi di:Int) bb th tdp s',gi=((gP c g:Nat):Int)->di=(ns1.length:Int)->bb=aEO c bg->Sta W G (bA L) (cA f (.int gi th) (.int di tdp) (.bool bb) (some (.ref ca)) vs vm) ((ca,aJ (eI d t v c))::N) s'->Ad W.M A (execs (lB.drop 4) (bA L)) Q E s'):∀ st:List Stmt,st=lB.drop 3->Ad W.M A (execs st (bA L)) Q E s:=by
 intro st hst';subst hst'
 by_cases h1:∃ x j,c=.start x j
 ·obtain⟨x,j,rfl⟩:=h1;have hst:ns1=ns++[x]:=hst;subst hst;refine fR (l:=lB) (n:=3) rfl ?_;intro Kq hKn hKr;refine bW (by walk_at "mem") (.head _) (gH ..) S' (λ _=>?_) (λ e=>absurd rfl e);clear S';intro s' S';have en:((ns.length:Int)+1)=((ns++[x]).length:Int):=by rw[Ag];rfl
  have hk:∀(gi:Int) th tdp s',gi=((gP (.start x j) g:Nat):Int)->Sta W G (bA L) (cA f (.int gi th) (.int ((ns.length:Int)+1) tdp) (.bool true) (some (.ref ca)) vs vm) ((ca,aJ (eI d t v (.start x j)))::N) s'->Kq .next s':=λ gi th tdp s' e S=>hKn s' (k gi _ true th tdp s' e en rfl S);clear hKn k;walk_at "c";refine dL (λ hg=>?_) (λ hg=>?_)
  ·have hc:0<g\/x="x":=.inl (by have:=of_decide_eq_true hg;walk_at "o");have e1:gP (.start x j) g=g+1:=if_pos hc;walk_at "c";exact hk _ _ _ s' (by rw[e1];rfl) S'
  ·walk_at "c";refine Sta.sub_tuple S' (.head _) (j:=1) rfl (by decide) rfl ?_;walk_at "c";refine rF (λ e=>?_) (λ e=>?_)
   ·have hc:0<g\/x="x":=.inr e;have e1:gP (.start x j) g=g+1:=if_pos hc;walk_at "c";exact hk _ _ _ s' (by rw[e1];rfl) S'
   ·have hc:¬(0<g\/x="x"):=λ h=>h.elim (λ h=>by have:=of_decide_eq_false hg;walk_at "o") e;have e1:gP (.start x j) g=g:=if_neg hc;walk_at "c";exact hk _ _ _ s' (by rw[e1]) S'
 ·have h1':∀ x j,c≠.start x j:=λ x j e=>h1 ⟨x,j,e⟩
  by_cases h2:∃ x,c=.fin x
  ·obtain⟨x,rfl⟩:=h2;have hst:ns=ns1++[x]:=hst;refine fR (l:=lB) (n:=3) rfl ?_;intro Kq hKn hKr;refine bW (by walk_at "mem") (.head _) (gH ..) S' (λ e=>absurd (show("end":Str)="start" from e) (by decide +kernel)) (λ _=>?_);clear S';intro s' S';have en:((ns.length:Int)-1)=(ns1.length:Int):=by rw[hst,Ag,AJ];walk_at "o"
   have hk:∀(gi:Int) th tdp s',gi=((gP (.fin x) g:Nat):Int)->Sta W G (bA L) (cA f (.int gi th) (.int ((ns.length:Int)-1) tdp) (.bool bg) (some (.ref ca)) vs vm) ((ca,aJ (eI d t v (.fin x)))::N) s'->Kq .next s':=λ gi th tdp s' e S=>hKn s' (k gi _ bg th tdp s' e en rfl S);clear hKn k;walk_at "cw";refine bW (by walk_at "mem") (.head _) (gH ..) S' (λ _=>?_) (λ e=>absurd rfl e);clear S';intro s' S';walk_at "c";refine dL (λ hg=>?_) (λ hg=>?_)
   ·have hc:0<g:=by have:=of_decide_eq_true hg;walk_at "o"
    have e1:(g:Int)-1=((gP (.fin x) g:Nat):Int):=(ar_u2 hc).symm;walk_at "c";exact hk _ _ _ s' e1 S'
   ·have hc:¬0<g:=by have:=of_decide_eq_false hg;walk_at "o"
    have e1:gP (.fin x) g=g:=by show g-1=g;walk_at "o"
    walk_at "c";exact hk _ _ _ s' (by rw[e1]) S'
  ·have h2':∀ x,c≠.fin x:=λ x e=>h2 ⟨x,e⟩;obtain⟨n1,n2⟩:=aAK h1' h2';obtain⟨e1,e2,e3⟩:=aBS bg g h1' h2' hst;subst e1;refine fR (l:=lB) (n:=3) rfl ?_;intro K0 hK0 _;refine bW (by walk_at "mem") (.head _) (gH ..) S' (λ e=>absurd e n1) (λ _=>?_);clear S';intro s' S';walk_at "cw";refine bW (by walk_at "mem") (.head _) (gH ..) S' (λ e=>absurd e n2) (λ _=>?_);clear S';intro s' S'
   repeat (fail_if_success (with_reducible show K0 .next _));walk_at "cw"
   exact hK0 _ (k _ _ _ _ _ s' (by rw[e2]) rfl e3.symm S')
noncomputable def W2.rest(W:Wd)(z:Ws)(x:W2):Lg:=aC W x.w (x.c z) x.q x.m ([(x.q,dQ "list.append" (.ref x.out)),(x.xt,aS W Tx 1),(x.qt,aS W Tt 1)]++pdT W x.m.pe)
theorem W2.out_perm(x:W2):(x.led W z).Perm ((x.out,aB x.outs)::x.rest W z):=by
 unfold W2.led W2.rest;simp only[aC]
 walk_at "perm"
theorem outs2(x0 x1:W2)(N:Lg):(x0.led W z++(x1.led W z++N)).Perm ((x0.out,aB x0.outs)::(x1.out,aB x1.outs)::(x0.rest W z++(x1.rest W z++N))):=by
 refine(x0.out_perm.append (x1.out_perm.append_right N)).trans ?_;walk_at "perm"
noncomputable def aAz(W:Wd)(z:Ws)(f:Lf)(x0 x1:W2)(N:Lg):Lg:=x0.rest W z++(x1.rest W z++((f.wl,aA [.ref x0.w.x,.ref x1.w.x])::N))
theorem lw_open{f:Lf}{x0 x1:W2}{tx:List Str}{N:Lg}:(bF W z f x0 x1 tx N).Perm ((f.ol,aA [.ref x0.out,.ref x1.out])::(x0.out,aB x0.outs)::(x1.out,aB x1.outs)::(f.td,aB tx)::(f.du,aB tx)::aAz W z f x0 x1 N):=by
 refine(show List.Perm _ (((f.ol,aA [.ref x0.out,.ref x1.out])::(f.wl,aA [.ref x0.w.x,.ref x1.w.x])::(f.td,aB tx)::(f.du,aB tx)::((x0.out,aB x0.outs)::(x1.out,aB x1.outs)::(x0.rest W z++(x1.rest W z++N)))))from((((outs2 x0 x1 N).cons _).cons _).cons _).cons _).trans ?_;unfold aAz;walk_at "perm"
theorem end2_{L sl:Addr}{f:Lf}{hi de be:Value}{vc:Option Value}{mk:Str}{tm:Tok}{x0 x1:W2}{m0 m1:Wm}{xs ys tx:List Str}{r:CA}{t:Tok×Tok×Tok}{v:Value}{dn:List CA}{c?:Option Addr}{Q:Flow->Ac->Prop}(I:IsC W)(hA:Aok 9 A)(hx:cat xs=cat ys++mk)(h0:xs.length<=8/\(cat xs).length<=300000)(h1:ys.length<=8/\(cat ys).length<=300000)(o0:x0.outs.length<=10000)(o1:x1.outs.length<=10000)(htx:tx.length<=1000)(S':Sta W G (bA L) (cA f hi de be vc (some (.ref sl)) (some (.str mk tm))) (eS W z f sl x0.outs.length x1.outs.length (x0.after m0 xs) (x1.after m1 ys) tx r t v dn c? N) s)(kk:∀ s',Sta W G (bA L) (cA f hi de be vc (some (.ref sl)) (some (.str mk tm))) (bF W z f (x0.after m0 xs) (x1.after m1 ys) (tx++[cat xs]) (r.opn W t v++(aI W dn++(aP 116 aV aH c?++N)))) s'->Q .next s'):∀ st:List Stmt,st=lB.drop 4->Ad W.M A (execs st (bA L)) Q E s:=by
 intro st hst;subst hst;have hm:mk.length<=300000:=by
  have h2:=congrArg Str.length hx;rw[Str.length_append]at h2;walk_at "o"
 obtain⟨P,hP⟩:∃ P:Lg,P=aAz W z f (x0.after m0 xs) (x1.after m1 ys) (r.opn W t v++(aI W dn++(aP 116 aV aH c?++N))):=⟨_,rfl⟩
 obtain⟨os,hos⟩:∃ os:List Grew,os=[(x0.out,x0.outs,xs),(x1.out,x1.outs,ys)]:=⟨_,rfl⟩
 have S1:=(S'.perm (lw_open.cons _)).perm (nw':=(f.td,aB tx)::(f.du,aB tx)::(f.ol,aA (pP os))::(sl,bM (kM os))::(pQ os++P)) (by
  rw[hos,hP];show List.Perm ((sl,bM [(x0.outs.length:Int),(x1.outs.length:Int)])::(f.ol,aA [.ref x0.out,.ref x1.out])::(x0.out,aB (x0.outs++xs))::(x1.out,aB (x1.outs++ys))::(f.td,aB tx)::(f.du,aB tx)::_) ((f.td,aB tx)::(f.du,aB tx)::(f.ol,aA [.ref x0.out,.ref x1.out])::(sl,bM [(x0.outs.length:Int),(x1.outs.length:Int)])::(x0.out,aB (x0.outs++xs))::(x1.out,aB (x1.outs++ys))::_);walk_at "perm")
 clear S';have S':=S1;clear S1;refine bQ rfl ?_;walk_at "c";refine aDe (j:=0) (a:=x0.out) (o:=x0.outs) (y:=xs) (os:=os) (ol:=f.ol) (sl:=sl) (N:=(f.td,aB tx)::(f.du,aB tx)::P) rfl (by walk_at "mem") (by walk_at "mem") (by rw[hos];rfl) (by decide) (by rw[Ag,Aw];walk_at "o") (by walk_at "o") (S'.perm (by walk_at "perm")) ?_;clear S';intro t1 s' S';replace S':=S'.perm (nw':=(f.td,aB tx)::(f.du,aB tx)::(f.ol,aA (pP os))::(sl,bM (kM os))::(pQ os++P)) (by walk_at "perm");walk_at "c";refine aDe (j:=1) (a:=x1.out) (o:=x1.outs) (y:=ys) (os:=os) (ol:=f.ol) (sl:=sl) (N:=(f.td,aB (tx++[cat xs]))::(f.du,aB tx)::P) rfl (by walk_at "mem") (by walk_at "mem") (by rw[hos];rfl) (by decide) (by rw[Ag,Aw];walk_at "o") (by walk_at "o") (S'.perm (by walk_at "perm")) ?_;clear S';intro t2 s' S';replace S':=S'.perm (nw':=(f.du,aB tx)::(f.td,aB (tx++[cat xs]))::(f.ol,aA (pP os))::(sl,bM (kM os))::(pQ os++P)) (by walk_at "perm");walk_at "c";rw[←hx]at S';subst hos hP;refine kk s' ((S'.sel (nw':=(f.ol,aA [.ref x0.out,.ref x1.out])::(x0.out,aB (x0.outs++xs))::(x1.out,aB (x1.outs++ys))::(f.td,aB (tx++[cat xs]))::(f.du,aB (tx++[cat xs]))::aAz W z f (x0.after m0 xs) (x1.after m1 ys) (r.opn W t v++(aI W dn++(aP 116 aV aH c?++N)))) (Sel.rest [(sl,bM [(x0.outs.length:Int),(x1.outs.length:Int)])] ?_)).perm (lw_open (f:=f) (x0:=x0.after m0 xs) (x1:=x1.after m1 ys)).symm);show List.Perm ((f.du,aB (tx++[cat xs]))::(f.td,aB (tx++[cat xs]))::(f.ol,aA [.ref x0.out,.ref x1.out])::(sl,bM [(x0.outs.length:Int),(x1.outs.length:Int)])::(x0.out,aB (x0.outs++xs))::(x1.out,aB (x1.outs++ys))::_) _;walk_at "perm"
end
section
variable {st rw com:Bool}{i i1 n n1 k b b1:Nat}{ns ns1:List Str}{a c:Ab}{l:List (Str×Str×Tok)}
theorem aD4{o:Option Str}(I:Iva rw i ns n k a)(J:Iva rw i ns n k c)(R:Rel a c)(hk:k<300)(s:Step i ns n (.pi o) i1 ns1 n1):i1=i/\ns1=ns/\n1=n/\∃ a' b' xs ys,Tl st rw com a (.pi o) l a' xs/\((0<ns.length\/decide (3<=i)=false)->Tl st rw com c (.ns "zz" "urn:zz") l b' ys)/\(¬(0<ns.length\/decide (3<=i)=false)->b'=c/\ys=[])/\Iva rw i ns n (k+1) a'/\Iva rw i ns n (k+1) b'/\Rel a' b'/\cat xs=cat ys++mkT (decide (3<=i)) ns.length a.ig o:=by
 have F:=iM s;obtain⟨h,rfl,rfl⟩:=F.pf;obtain rfl:ns1=ns:=F.sk;refine⟨rfl,rfl,rfl,?_⟩;have hm:=aEe (g:=a.ig) (o:=o) h I.ns0
 by_cases h4:i1=4
 ·subst h4;obtain⟨T,I2,J2⟩:=aEa (st:=st) (com:=com) (l:=l) (o:=o) I J R hk;have hn:ns1=[]:=I.ns0.mpr (.inr rfl);have hz:¬(0<ns1.length\/decide (3<=4)=false):=by rw[hn];decide
  refine⟨a,c,_,[],T,λ h=>absurd h hz,λ _=>⟨rfl,rfl⟩,I2,J2,R,?_⟩;rw[hm];exact(Str.empty_append _).symm
 ·have hi:i1=2\/i1=3:=by walk_at "o"
  obtain⟨a',b',xs,T,U,I2,J2,R2⟩:=aDr (st:=st) (com:=com) (l:=l) (l2:=l) I J R hk s hi;have hz:0<ns1.length\/decide (3<=i1)=false:=by
   rcases hi with rfl | rfl
   ·exact .inr rfl
   ·refine .inl (Br.mpr λ e=>?_);have:=I.ns0.mp e;walk_at "o"
  exact⟨a',b',_,xs,T,λ _=>U,λ h=>absurd hz h,I2,J2,R2,by rw[aEE,hm]⟩
structure LI2 (z:Ws) (k i:Nat) (ns:List Str) (b:Nat) (x0 x1:W2) (dn:List CA) (a0 a1:Ab):Prop where
 V0:Iva z.rw i ns b k a0
 V1:Iva z.rw i ns b k a1
 R:Rel a0 a1
 e0:bE x0.m=a0
 e1:bE x1.m=a1
 w0:WmOk x0.m
 w1:WmOk x1.m
 p0:PeIn dn x0.m
 p1:PeIn dn x1.m
 o0:x0.outs.length<=8*k
 o1:x1.outs.length<=8*k
theorem Iva.wmB{m:Wm}(V:Iva rw i ns b k (bE m))(w:WmOk m):WmB m:=by
 have h1:=oE V.ht;have h2:=V.hk;have h3:=V.k3;have h4:(m.nl.map Lv.val).length<=10000:=V.bd.nl;rw[Ai]at h4;exact⟨w,V.bd.ps,h4,by rw[Aw];show(bE m).held.length<=_;walk_at "o",by unfold txL;show(cat (bE m).held).length<=_;walk_at "o"⟩
theorem LI2.next{z:Ws}{x0 x1:W2}{dn:List CA}{a0 a1 a0' a1':Ab}{m0 m1:Wm}{xs ys:List Str}{r:CA}(V:LI2 z k i ns b x0 x1 dn a0 a1)(I:Iva z.rw i1 ns1 b1 (k+1) a0')(J:Iva z.rw i1 ns1 b1 (k+1) a1')(R:Rel a0' a1')(e0:bE m0=a0')(e1:bE m1=a1')(w0:WmOk m0)(w1:WmOk m1)(p0:PeIn (dn++[r]) m0)(p1:PeIn (dn++[r]) m1)(h0:xs.length<=8)(h1:ys.length<=8):LI2 z (k+1) i1 ns1 b1 (x0.after m0 xs) (x1.after m1 ys) (dn++[r]) a0' a1' where
 V0:=I
 V1:=J
 R:=R
 e0:=e0
 e1:=e1
 w0:=w0
 w1:=w1
 p0:=p0
 p1:=p1
 o0:=by have:=V.o0;show(x0.outs++xs).length<=_;rw[Ag];walk_at "o"
 o1:=by have:=V.o1;show(x1.outs++ys).length<=_;rw[Ag];walk_at "o"
end
theorem all2{α:Type}{P:α->Prop}{a b:α}(h1:P a)(h2:P b):∀ r∈[a,b],P r:=λ r hr=>by
 rcases Ax.mp hr with rfl | hr
 ·exact h1
 ·rw[AA.mp hr];exact h2
section
variable {z:Ws}{k i i1 b b1:Nat}{ns ns1:List Str}{a0 a1 a0' a1':Ab}
theorem Sta.openLw{f:Lf}{x0 x1:W2}{tx:List Str}{r:CA}(S:Sta W G env loc (bF W z f x0 x1 tx (r.led W++N)) s):∃ t v,PiV v r.c/\Sta W G env loc (bF W z f x0 x1 tx (r.opn W t v++N)) s:=by
 obtain⟨t,v,hv,S2⟩:=(S.perm (nw':=r.led W++bF W z f x0 x1 tx N) (by simp only[bF];walk_at "perm")).openCal;exact⟨t,v,hv,S2.perm (by simp only[bF];walk_at "perm")⟩
theorem Sta.closeLw{f:Lf}{x0 x1:W2}{tx:List Str}{r:CA}{t:Tok×Tok×Tok}{v:Value}(hv:PiV v r.c)(S:Sta W G env loc (bF W z f x0 x1 tx (r.opn W t v++N)) s):Sta W G env loc (bF W z f x0 x1 tx (r.led W++N)) s:=by
 have S2:=(S.perm (nw':=r.opn W t v++bF W z f x0 x1 tx N) (by simp only[bF];walk_at "perm")).closeCal hv;exact S2.perm (by simp only[bF];walk_at "perm")
theorem zL{L sl:Addr}{f:Lf}{mk:Str}{tm th tdp:Tok}{x0 x1:W2}{m0 m1:Wm}{xs ys tx:List Str}{r:CA}{t:Tok×Tok×Tok}{v:Value}{dn:List CA}{c?:Option Addr}{Q:Flow->Ac->Prop}(I:IsC W)(hA:Aok 9 A)(hv:PiV v r.c)(hk:k<300)(St:Step i ns b r.c i1 ns1 b1)(V:LI2 z k i ns b x0 x1 dn a0 a1)(hx:cat xs=cat ys++mk)(h0:xs.length<=8/\(cat xs).length<=300000)(h1:ys.length<=8/\(cat ys).length<=300000)(hg:a0'.ig=gP r.c a0.ig)(I2:Iva z.rw i1 ns1 b1 (k+1) a0')(J2:Iva z.rw i1 ns1 b1 (k+1) a1')(R2:Rel a0' a1')(g0:bE m0=a0')(g1:bE m1=a1')(w0:WmOk m0)(w1:WmOk m1)(p0:PeIn (dn++[r]) m0)(p1:PeIn (dn++[r]) m1)(htx:tx.length<=1000)(S':Sta W G (bA L) (cA f (.int (a0.ig:Nat) th) (.int (ns.length:Int) tdp) (.bool (decide (3<=i))) (some (.ref r.a)) (some (.ref sl)) (some (.str mk tm))) (eS W z f sl x0.outs.length x1.outs.length (x0.after m0 xs) (x1.after m1 ys) tx r t v dn c? N) s)(kk:∀ th tdp vs vm c? x0' x1' a0' a1' tx' s',LI2 z (k+1) i1 ns1 b1 x0' x1' (dn++[r]) a0' a1'->tx'.length=tx.length+1-> Sta W G (bA L) (cA f (.int (a0'.ig:Nat) th) (.int (ns1.length:Int) tdp) (.bool (decide (3<=i1))) (some (.ref r.a)) vs vm) (bF W z f x0' x1' tx' (r.led W++(aI W dn++(aP 116 aV aH c?++N)))) s'->Q .next s'):∀ st:List Stmt,st=lB.drop 3->Ad W.M A (execs st (bA L)) Q E s:=by
 intro st hst;obtain⟨s1,s2,_,_⟩:=iM St;obtain⟨M,hM⟩:∃ M:Lg,M=(sl,bM [(x0.outs.length:Int),(x1.outs.length:Int)])::bF W z f (x0.after m0 xs) (x1.after m1 ys) tx (r.at W++(aI W dn++(aP 116 aV aH c?++N))):=⟨_,rfl⟩
 refine aDy (c:=r.c) (d:=r.d) (t:=t) (v:=v) (g:=a0.ig) (ns:=ns) (ns1:=ns1) (N:=M) I hA s2 (S'.perm (by rw[hM];simp only[eS,bF];walk_at "perm")) ?_ st hst;clear S' hst;intro gi di bb th tdp s' q1 q2 q3 S';obtain rfl:gi=((a0'.ig:Nat):Int):=by rw[q1,hg]
 rw[s1]at q3;subst q2 q3 hM;have o0:=V.o0;have o1:=V.o1;generalize hst:Bv 4 lB=st;refine end2_ (x0:=x0) (x1:=x1) (m0:=m0) (m1:=m1) (xs:=xs) (ys:=ys) (r:=r) (t:=t) (v:=v) (dn:=dn) (c?:=c?) (N:=N) I hA hx h0 h1 (by walk_at "o") (by walk_at "o") htx (S'.perm (by simp only[eS,bF];walk_at "perm")) ?_ st hst.symm;clear S' hst;intro s' S';refine kk th tdp (some (.ref sl)) (some (.str mk tm)) c? _ _ a0' a1' (tx++[cat xs]) s' (V.next I2 J2 R2 g0 g1 w0 w1 p0 p1 h0.1 h1.1) (by rw[Ag];rfl) (S'.closeLw hv)
theorem aDt{L:Addr}{f:Lf}{vs vm:Option Value}{th tdp:Tok}{x0 x1:W2}{tx:List Str}{r:CA}{dn:List CA}{c?:Option Addr}{Q:Flow->Ac->Prop}(I:IsC W)(C:CodeHd W.B 118 116)(hA:Aok 33 A)(hk:k<300)(St:Step i ns b r.c i1 ns1 b1)(V:LI2 z k i ns b x0 x1 dn a0 a1)(hrw:∀ x j,r.c=.start x j->atQ r.l=fQ j)(htx:tx.length<=1000)(S':Sta W G (bA L) (cA f (.int (a0.ig:Nat) th) (.int (ns.length:Int) tdp) (.bool (decide (3<=i))) (some (.ref r.a)) vs vm) (bF W z f x0 x1 tx (r.led W++(aI W dn++(aP 116 aV aH c?++N)))) s)(kk:∀ th tdp vs vm c? x0' x1' a0' a1' tx' s',LI2 z (k+1) i1 ns1 b1 x0' x1' (dn++[r]) a0' a1'->tx'.length=tx.length+1-> Sta W G (bA L) (cA f (.int (a0'.ig:Nat) th) (.int (ns1.length:Int) tdp) (.bool (decide (3<=i1))) (some (.ref r.a)) vs vm) (bF W z f x0' x1' tx' (r.led W++(aI W dn++(aP 116 aV aH c?++N)))) s'->Q .next s'):∀ st:List Stmt,st=lB.drop 0->Ad W.M A (execs st (bA L)) Q E s:=by
 intro st hst;subst hst;have F:=iM St;have B0:WmB x0.m:=Iva.wmB (V.e0▸V.V0) V.w0;have B1:WmB x1.m:=Iva.wmB (V.e1▸V.V1) V.w1;have o0:=V.o0;have o1:=V.o1;obtain⟨t,v,hv,S2⟩:=S'.openLw;clear S';refine aDL (os:=[(x0.out,x0.outs),(x1.out,x1.outs)]) (N:=(f.td,aB tx)::(f.du,aB tx)::aAz W z f x0 x1 (r.opn W t v++(aI W dn++(aP 116 aV aH c?++N)))) I (hA.le (by decide)) (Ar rfl) (all2 (by show x0.outs.length<=_;walk_at "osz") (by show x1.outs.length<=_;walk_at "osz")) (S2.perm lw_open) ?_;clear S2;intro sl s' S';have S2:Sta W G (bA L) _ (eS W z f sl x0.outs.length x1.outs.length x0 x1 tx r t v dn c? N) s':=S'.perm (lw_open.symm.cons _);clear S';have S':=S2;clear S2;refine bQ rfl ?_;walk_at "st"
 by_cases hpi:∃ o,r.c=.pi o
 ·obtain⟨o,hy⟩:=hpi;have St2:=St;rw[hy]at St2;obtain⟨q1,q2,q3,a0',a1',xs,ys,T,U,U2,I2,J2,R2,hx⟩:=aD4 (st:=z.st) (com:=z.com) (l:=r.l) V.V0 V.V1 V.R hk St2;subst q1 q2 q3;have h56:i1≠5/\i1≠6:=by have:=(iM St2).pf.1;walk_at "o"
  have hpv:PiArg v o:=by rw[hy]at hv;exact hv
  have l0:=uG V.V0 (iM St2).cf.len T;have l1:ys.length<=8/\(cat ys).length<=300000:=by
   by_cases hz:0<ns1.length\/decide (3<=i1)=false
   ·exact uG V.V1 (c:=.ns "zz" "urn:zz") trivial (U hz)
   ·rw[(U2 hz).2];exact⟨AE _,AE _⟩
  show Ad W.M A (execs (Bv 2 lB) (bA L)) Q E s';generalize hst:Bv 2 lB=st;refine pi2_ (xs:=xs) (ys:=ys) (b0:=a0') (b1:=a1') (r:=r) (t:=t) (v:=v) (o:=o) (n:=ns1.length) (bg:=decide (3<=i1)) I (hA.le (by decide)) hy hpv (λ u=>aBO I C V.V0 h56 hpv T) (λ hz t1 t2=>aBU I C V.V1 h56 (U hz)) U2 V.e0 V.e1 B0 B1 (by walk_at "o") (by walk_at "o") V.p0 V.p1 S' ?_ st hst.symm;clear S' hst;intro m0 m1 c2 tm s' g0 g1 w0 w1 p0 p1 S';generalize hst:Bv 3 lB=st;exact zL (c?:=c2) (m0:=m0) (m1:=m1) I (hA.le (by decide)) hv hk St V hx l0 l1 ((aCQ (iM St2).cf T).trans (by rw[hy])) I2 J2 R2 g0 g1 w0 w1 p0 p1 htx S' kk st hst.symm
 ·have hnp:∀ o,r.c≠.pi o:=λ o e=>hpi ⟨o,e⟩;obtain⟨a0',a1',xs,T,U,I2,J2,R2⟩:=aDs (st:=z.st) (com:=z.com) V.V0 V.V1 V.R hk St hrw hnp;have l0:=uG V.V0 F.cf.len T;show Ad W.M A (execs (Bv 2 lB) (bA L)) Q E s';generalize hst:Bv 2 lB=st;refine aDx (r:=r) (t:=t) (v:=v) I (hA.le (by decide)) (aEl hnp) (wE I C V.V0 F hnp T) (wE I C V.V1 F hnp U) V.e0 V.e1 B0 B1 (by walk_at "o") (by walk_at "o") V.p0 V.p1 S' ?_ st hst.symm;clear S' hst;intro m0 m1 c2 s' g0 g1 w0 w1 p0 p1 S';generalize hst:Bv 3 lB=st;exact zL (c?:=c2) (m0:=m0) (m1:=m1) I (hA.le (by decide)) hv hk St V (Str.append_empty _).symm l0 l0 (aCQ F.cf T) I2 J2 R2 g0 g1 w0 w1 p0 p1 htx S' kk st hst.symm
end
theorem mH{W:Wd}{sh:Lg}{it:Addr}:∀{xs:List CA} {own:Lg} {og:Gens},cE W sh it (aX xs) own og->YdR W sh it (λ(q:CA) v=>v=.ref q.a) xs own og
 | [],_,_,H=>H
 | q::r,_,_,H=>⟨H.1,λ A R GR s Q E hA S hQ=>H.2 A R GR s Q E hA S λ own' og' s' S' H'=>hQ _ own' og' s' rfl S' (mH (xs:=r) H')⟩
theorem Chn.invs{i b i2 b2:Nat}{ns ns2:List Str}{cs:List Cal}(h:Chn i ns b cs i2 ns2 b2):match cs with | []=>i=i2/\ns=ns2 | c::cs=>∃ i1 ns1 b1,Step i ns b c i1 ns1 b1/\Chn i1 ns1 b1 cs i2 ns2 b2:=by
 induction h with
 | nil=>exact⟨rfl,rfl⟩
 | cons h1 h2 _=>exact⟨_,_,_,h1,h2⟩
theorem Chn.inv{i b i2 b2:Nat}{ns ns2:List Str}{c:Cal}{cs:List Cal}(h:Chn i ns b (c::cs) i2 ns2 b2):∃ i1 ns1 b1,Step i ns b c i1 ns1 b1/\Chn i1 ns1 b1 cs i2 ns2 b2:=h.invs
structure LwS where
 i:Nat
 b:Nat
 ns:List Str
 x0:W2
 x1:W2
 a0:Ab
 a1:Ab
 tx:List Str
 c?:Option Addr
 th:Tok
 tp:Tok
 vc:Option Value
 vs:Option Value
 vm:Option Value
section
variable {z:Ws}
theorem yN{p:Pos}{L it cl:Addr}{f:Lf}{bz:Nat}{cs:List CA}{x0 x1:W2}{a0 a1:Ab}{vc vs vm:Option Value}{th tdp:Tok}{R:Result->Ac->Prop}(I:IsC W)(C:CodeHd W.B 118 116)(hA:Aok 35 A)(hch:Chn 0 [] 0 (cs.map CA.c) 4 [] bz)(hro:RwO cs)(hc:cs.length<=300)(V:LI2 z 0 0 [] 0 x0 x1 [] a0 a1)(S:Sta W G (bA L) (cA f (.int (a0.ig:Nat) th) (.int (0:Nat) tdp) (.bool false) vc vs vm) ((it,bG cl 0)::(cl,aA (aX cs))::bF W z f x0 x1 [] (aP 116 aV aH none++(aI W cs++N))) s)(k:∀ hi de be vc vs vm c? x0 x1 tx s',tx.length<=300->Sta W G (bA L) (cA f hi de be vc vs vm) (bF W z f x0 x1 tx (aP 116 aV aH c?++(aI W cs++N))) s'->R (.ok .next) s')(body:List Stmt)(hbd:body=lB):codeAny W.M A (.forLoop (.Name "call" p) (.ref it) body [] (bA L)) R s:=by
 have Y:LY W [] it (aX cs) [(it,bG cl 0),(cl,aA (aX cs))]:=dJ (sh:=[]) (own₀:=[(cl,aA (aX cs))]) (.head _) (aX cs) 0 rfl;have S2:Sta W (G++[]) (bA L) (cA f (.int (a0.ig:Nat) th) (.int ((([]:List Str).length:Nat):Int) tdp) (.bool (decide (3<=0))) vc vs vm) (bF W z f x0 x1 [] (aP 116 aV aH none++(aI W cs++N))++([]++[(it,bG cl 0),(cl,aA (aX cs))])) s:=by
  rw[Am];exact S.perm (by simp only[bF];walk_at "perm")
 clear S;refine kN (sh:=[]) (f:=λ(q:CA)=>.ref q.a) (hA.le (by decide)) (G:=G) (og:=[]) (own:=[(it,bG cl 0),(cl,aA (aX cs))]) (λ(v:LwS) _=>cA f (.int (v.a0.ig:Nat) v.th) (.int (v.ns.length:Int) v.tp) (.bool (decide (3<=v.i))) v.vc v.vs v.vm) (λ v _=>bF W z f v.x0 v.x1 v.tx (aP 116 aV aH v.c?++(aI W cs++N))) (λ v dn=>(∀ rest,cs=dn++rest->Chn v.i v.ns v.b (rest.map CA.c) 4 [] bz)/\LI2 z dn.length v.i v.ns v.b v.x0 v.x1 dn v.a0 v.a1/\v.tx.length=dn.length) (mH Y.yields) ⟨0,0,[],x0,x1,a0,a1,[],none,th,tdp,vc,vs,vm⟩ ⟨λ rest e=>by rw[←show cs=rest from e];exact hch,V,rfl⟩ S2 ?_ ?_
 rotate_left
 ·intro r dn rest tl2 tg v s1 K hq hH S1 kk _ _;clear S2;obtain⟨hch,V1,hz⟩:=hH;have hdn:dn.length+1<=300:=by
   have:=congrArg A8 hq;simp only[Ag,AG]at this;walk_at "o"
  obtain⟨i1,ns1,b1,St,hch2⟩:=(hch _ hq).inv;refine wpAny_assign_Name (S1.store (by walk_at "put") λ s' S'=>?_);clear S1;have hperm:(aI W cs).Perm (r.led W++(aI W dn++aI W rest)):=by
   rw[hq,cX];show List.Perm (aI W dn++(r.led W++aI W rest)) _;walk_at "perm"
  have S2:=(S'.perm (nw':=aI W cs++bF W z f v.x0 v.x1 v.tx (aP 116 aV aH v.c?++(N++([]++tl2)))) (by simp only[bF];walk_at "perm")).perm (hperm.append_right _);clear S';obtain⟨D,hD⟩:∃ D:Lg,D=aI W dn:=⟨_,rfl⟩
  obtain⟨U,hU⟩:∃ U:Lg,U=aI W rest:=⟨_,rfl⟩
  rw[←hD,←hU]at S2;have S3:=S2.perm (nw':=bF W z f v.x0 v.x1 v.tx (r.led W++(D++(aP 116 aV aH v.c?++(U++(N++([]++tl2))))))) (by simp only[bF];walk_at "perm");rw[hD]at S3;clear S2;refine aDt (N:=U++(N++([]++tl2))) (r:=r) (dn:=dn) (k:=dn.length) I C (hA.le (by decide)) hdn St V1 (hro r (by rw[hq];simp)) (by walk_at "o") S3 ?_ body hbd;clear S3;intro th tdp vs vm c? x0' x1' a0' a1' tx' s' V2 h2 S';rw[←hD]at S';have S4:=S'.perm (nw':=(r.led W++(D++U))++bF W z f x0' x1' tx' (aP 116 aV aH c?++(N++([]++tl2)))) (by simp only[bF];walk_at "perm");rw[hD,hU]at S4;have S3:=S4.perm (hperm.symm.append_right _);refine(kk ⟨i1,b1,ns1,x0',x1',a0',a1',tx',c?,th,tdp,_,vs,vm⟩ _ ⟨λ rest' e=>?_,by rw[Ag];exact V2,by rw[Ag,h2,hz];rfl⟩ (S3.perm (by simp only[bF];walk_at "perm"))).1;have e2:rest=rest':=by
   have h:=hq.symm.trans e;rw[Ah]at h;exact(List.cons.inj (List.append_cancel_left h)).2
  exact e2▸hch2
 ·intro v s1 hH S1;obtain⟨_,V1,hz⟩:=hH;rw[Am]at S1;exact k _ _ _ _ _ _ v.c? v.x0 v.x1 v.tx s1 (by walk_at "o") S1
end
noncomputable abbrev nK(scr:Addr)(T:Value)(ol wl:Addr)(vo vw:Option Value):Loc:=[("script",some (.ref scr)),("total",some T),("outs",some (.ref ol)),("writers",some (.ref wl)),("out",vo),("writer",vw),("hidden",none),("depth",none),("begun",none),("told",none),("due",none),("call",none),("seen",none),("mark",none)]
noncomputable def mFor:Stmt:=(aE cV).getD 3 (.Pass default)
noncomputable def qQ(os:List Addr):Lg:=os.map λ o=>(o,aA [])
structure New2 (z:Ws) (x:W2):Prop where
 m:IFr x.m z.rw
 o:x.outs=[]
noncomputable def gI(W:Wd)(z:Ws)(l:List W2):Lg:=l.flatMap (W2.led W z)
theorem uE(W:Wd)(z:Ws)(l:List W2)(x:W2):gI W z (l++[x])=gI W z l++x.led W z:=by unfold gI;rw[List.flatMap_append];simp
theorem mI{W:Wd}{sh:Lg}{it:Addr}:∀{xs:List Addr} {own:Lg} {og:Gens},cE W sh it (xs.map Value.ref) own og->YdR W sh it (λ(q:Addr) v=>v=.ref q) xs own og
 | [],_,_,H=>H
 | q::r,_,_,H=>⟨H.1,λ A R GR s Q E hA S hQ=>H.2 A R GR s Q E hA S λ own' og' s' S' H'=>hQ _ own' og' s' rfl S' (mI (xs:=r) H')⟩
section
variable {z:Ws}
theorem Sta.sumB{a:Addr}{xs:List Value}{ns:List Int}{Q:Value->Ac->Prop}(S:Sta W G env loc nw s)(hh:A.handled=none)(hB:W.B.IsList a xs.toArray)(hi:IntsAre xs ns)(h:∀ t s',Sta W G env loc nw s'->Q (.int ns.sum t) s'):Ad W.M A (call (.builtin "sum") [.ref a]) Q E s:=by
 obtain⟨xs',e⟩:=hi.allInts.items;have hl:s.heap.IsList a xs.toArray:=by
  obtain⟨o,ho,h1,h2⟩:=hB;exact⟨o,S.led.keep _ _ ho,h1,h2⟩
 rw[e]at hl;refine sum_intListG hh hl λ h' tk t' hk=>?_;have q:=h t' _ (S.grow hk tk);rw[preSum_eq,List.take_of_length_le (by simp)];have e2:(xs'.toList.map (·.1))=ns:=by
  have:=hi.numsOf;rw[show xs=xs.toArray.toList from rfl,e,nums_intItems]at this;simpa using this
 first | (rw[e2];exact q) | (simpa[e2]using q)
theorem aBa{pos:Pos}{f:Addr}{e:Expr}{rest:List Expr}{kws:List Keyword}{Q:Value->Ac->Prop}(hk:keepIn W.K (.ref f)=true)(h:Ad W.M A (spliced (backTo pos (Ap (e::rest) env))) (λ vs s₁=>Ad W.M A (evalAll ((backToKw pos (keywordEach kws env)).map (·.2))) (λ kvs s₂=>W.K.In s₂.heap/\Ad W.M A (call (.ref f) vs (((backToKw pos (keywordEach kws env)).filterMap (·.1)).zip kvs)) Q E s₂) E s₁) E s)(he:backTo pos (Ap (e::rest) env)=(false,eval e env)::backTo pos (Ap rest env))(hplain:((backTo pos (Ap (e::rest) env)).any (·.1)||(backToKw pos (keywordEach kws env)).any (·.1.isNone))=false)(hall:(backToKw pos (keywordEach kws env)).all (·.1.isSome)=true):Ad W.M A (callWith pos (.ref f) [] (backTo pos (Ap (e::rest) env)) (backToKw pos (keywordEach kws env))) Q E s:=by
 refine callWith_of (P:=λ h=>W.K.In h) (first:=[]) hplain (λ h X=>keeps_K hk h X) ?_;rw[he]at h ⊢;exact evalArgs_kwB hall h
end
theorem aEg{xl ql q:Addr}{com st rw:Bool}{Q:Value->Ac->Prop}(I:IsC W)(S:Sta W G env loc ((xl,aB ["x"])::(ql,aB ["t"])::N) s)(hA:Aok 17 A)(h:∀ w xt qt m s',IFr m rw->Sta W G env loc (aC W w ⟨com,st,rw,.ref xt,.ref qt⟩ q m ((xt,aS W Tx 1)::(qt,aS W Tt 1)::N)) s'->Q (.ref w.x) s'):Ad W.M A (call (.ref 143) [.ref q] [("with_comments",.bool com),("strip_text",.bool st),("rewrite_prefixes",.bool rw),("qname_aware_tags",.ref ql),("exclude_tags",.ref xl)]) Q E s:=by
 obtain⟨ox,hox,q0⟩:=S.get (.head _);obtain⟨vs,hvs,h1⟩:=q0;obtain⟨oq,hoq,q0⟩:=S.get (.tail _ (.head _));obtain⟨us,hus,h2⟩:=q0;have S1:=(S.tell (c':=aA vs) .head λ o' ho' _=>by rw[hox]at ho';cases ho';exact h1).tell (c':=aA us) (.tail .head) λ o' ho' _=>by rw[hoq]at ho';cases ho';exact h2
 exact aEh I S1 hvs hus hA h
section
variable {z:Ws}
theorem mk2_{p:Pos}{L scr ol wl it:Addr}{os:List Addr}{T:Int}{tT:Tok}{R:Result->Ac->Prop}(I:IsC W)(hA:Aok 20 A)(hz1:(T.fmod 2==1)=z.com)(hz2:((T.fdiv 2).fmod 2==1)=z.st)(hz3:((T.fdiv 4).fmod 2==1)=z.rw)(hol:os.length<=10)(S:Sta W G (bA L) (nK scr (.int T tT) ol wl none none) ((it,bG ol 0)::(wl,aA [])::(ol,aA (os.map Value.ref))::(qQ os++N)) s)(k:∀ vo vw (ws:List W2) s',ws.map W2.out=os->(∀ x∈ws,New2 z x)->Sta W G (bA L) (nK scr (.int T tT) ol wl vo vw) ((wl,aA (ws.map λ x=>.ref x.w.x))::(ol,aA (os.map Value.ref))::(gI W z ws++N)) s'->R (.ok .next) s')(body:List Stmt)(hbd:body=jV mFor):codeAny W.M A (.forLoop (.Name "out" p) (.ref it) body [] (bA L)) R s:=by
 subst hbd;have Y:LY W [(ol,aA (os.map Value.ref))] it (os.map Value.ref) [(it,bG ol 0)]:=dJ (own₀:=[]) (by simp) (os.map Value.ref) 0 rfl;have S2:Sta W (G++[]) (bA L) (nK scr (.int T tT) ol wl none none) (((wl,aA (([]:List W2).map λ x=>.ref x.w.x))::(gI W z []++(qQ (os.drop 0)++N)))++([(ol,aA (os.map Value.ref))]++[(it,bG ol 0)])) s:=by
  rw[Am];refine S.perm ?_;show List.Perm _ (((wl,aA [])::([]++(qQ os++N)))++([(ol,aA (os.map Value.ref))]++[(it,bG ol 0)]));walk_at "perm"
 clear S;refine kN (sh:=[(ol,aA (os.map Value.ref))]) (f:=λ(o:Addr)=>.ref o) (hA.le (by decide)) (G:=G) (og:=[]) (own:=[(it,bG ol 0)]) (λ(v:List W2×Option Value×Option Value) _=>nK scr (.int T tT) ol wl v.2.1 v.2.2) (λ v dn=>(wl,aA (v.1.map λ x=>.ref x.w.x))::(gI W z v.1++(qQ (os.drop dn.length)++N))) (λ v dn=>v.1.map W2.out=dn/\∀ x∈v.1,New2 z x) (mI Y.yields) ([],none,none) ⟨rfl,λ x h=>by cases h⟩ S2 ?_ ?_
 rotate_left
 ·intro o dn rest tl2 tg v s1 K hq hH S1 kk _ _;clear S2;have hdr:os.drop dn.length=o::rest:=by rw[hq,List.drop_left]
  have hdr2:os.drop (dn++[o]).length=rest:=by rw[hq,show dn++o::rest=(dn++[o])++rest from by simp,List.drop_left]
  rw[hdr]at S1;rw[hdr2]at kk;have hvl:v.1.length<=10:=by
   have h1:=congrArg A8 hH.1;have h2:=congrArg A8 hq;rw[Ai]at h1;rw[Ag]at h2;walk_at "o"
  refine wpAny_assign_Name (S1.store (by walk_at "put") λ s' S'=>?_);clear S1;replace S':=S'.perm (nw':=(o,aA [])::(wl,aA (v.1.map λ x=>.ref x.w.x))::(gI W z v.1++(qQ rest++(N++([(ol,aA (os.map Value.ref))]++tl2))))) (by
   show List.Perm (((wl,aA (v.1.map λ x=>.ref x.w.x))::(gI W z v.1++((o,aA [])::qQ rest++N)))++([(ol,aA (os.map Value.ref))]++tl2)) _;walk_at "perm")
  refine cJ S' ?_;clear S';intro lq Mq S';refine aM ?_;refine bQ rfl ?_;refine sJ ?_ rfl;refine xL ?_ (by kernel_rfl);refine Sta.global S' I.g_cls (by kernel_rfl) ?_;refine aBa (by rw[I.k];kernel_rfl) ?_ (by kernel_rfl) (by kernel_rfl) (by kernel_rfl);walk_at "c";refine Sta.getAppend S' (.head _) ?_;clear S';intro q s' S';refine cJ S' ?_;clear S';intro lq Mq S';walk_at "c";refine kws_cons ?_;walk_at "c";refine kws_cons ?_;walk_at "c";refine kws_cons ?_;walk_at "c";refine kws_cons ?_;walk_at "c";refine kws_cons ?_;walk_at "c";refine kws_nil ?_;refine⟨S'.kin,?_⟩;rw[hz1,hz2,hz3];refine aEg (com:=z.com) (st:=z.st) (rw:=z.rw) I S' (hA.le (by decide)) ?_;clear S';intro w xt qt m s' hf S';refine S'.store (by walk_at "put") ?_;clear S';intro s' S';have hpe:pdT W m.pe=[]:=by rw[hf.pe];rfl
  obtain⟨r,hr⟩:∃ r:W2,r=⟨w,q,o,xt,qt,m,[]⟩:=⟨_,rfl⟩
  replace S':=S'.perm (nw':=(o,aA [])::(aC W w ⟨z.com,z.st,z.rw,.ref xt,.ref qt⟩ q m [(q,dQ "list.append" (.ref o)),(xt,aS W Tx 1),(qt,aS W Tt 1)]++((wl,aA (v.1.map λ x=>.ref x.w.x))::(gI W z v.1++(qQ rest++(N++([(ol,aA (os.map Value.ref))]++tl2))))))) (by simp only[aC];walk_at "perm");replace S':=(S'.tell (c':=aB []) .head λ o _ ho=>⟨_,.nil,ho⟩).perm (nw':=(wl,aA (v.1.map λ x=>.ref x.w.x))::(r.led W z++(gI W z v.1++(qQ rest++(N++([(ol,aA (os.map Value.ref))]++tl2)))))) (by
   rw[hr];show List.Perm _ ((wl,aA (v.1.map λ x=>.ref x.w.x))::(aC W w ⟨z.com,z.st,z.rw,.ref xt,.ref qt⟩ q m ([(q,dQ "list.append" (.ref o)),(o,aB []),(xt,aS W Tx 1),(qt,aS W Tt 1)]++pdT W m.pe)++(gI W z v.1++(qQ rest++(N++([(ol,aA (os.map Value.ref))]++tl2))))));rw[hpe];walk_at "perm")
  have hwx:w.x=r.w.x:=by rw[hr]
  have hN:New2 z r:=by rw[hr];exact⟨hf,rfl⟩
  have hvz:(v.1.map λ x=>Value.ref x.w.x).length<=AC:=by walk_at "osz"
  refine bQ rfl ?_
  repeat ((fail_if_success (with_reducible show Ad _ _ (execs _ _) _ _ _));walk_at "cw")
  refine AR ?_;refine(kk (v.1++[r],some (.ref o),some (.ref w.x)) s' ⟨?_,?_⟩ (S'.perm ?_)).1
  ·show(v.1++[r]).map W2.out=dn++[o]
   rw[Aq,hH.1,hr]
   rfl
  ·intro x hx;rcases AD.mp hx with h | h
   ·exact hH.2 x h
   ·rw[AA.mp h];exact hN
  ·rw[uE,hwx];rw[show(v.1++[r]).map (λ x=>Value.ref x.w.x)=v.1.map (λ x=>Value.ref x.w.x)++[.ref r.w.x]from Aq];walk_at "perm"
 ·intro v s1 hH S1;obtain⟨h1,h2⟩:=hH;refine k v.2.1 v.2.2 v.1 s1 h1 h2 (S1.perm ?_);rw[List.drop_length];show List.Perm (((wl,aA (v.1.map λ x=>.ref x.w.x))::(gI W z v.1++([]++N)))++[(ol,aA (os.map Value.ref))]) _;walk_at "perm"
end
theorem len2{α:Type}:∀{l:List α},l.length=2->∃ a b,l=[a,b]
 | [a,b],_=>⟨a,b,rfl⟩
theorem aEC{A:AL}{s:Ac}{l b:Addr}{xs:List Str}(h1:∃ o,s.heap.get? l=some o/\aB xs o)(h2:∃ o,s.heap.get? b=some o/\aB xs o)(hu:A.units<cLine):RcAt A s (.ref l) (.ref b) true:=by
 obtain⟨o1,ho1,q0⟩:=h1;obtain⟨vs,hv,q0⟩:=q0;obtain⟨n1,rfl⟩:=q0;obtain⟨o2,ho2,q0⟩:=h2;obtain⟨ws,hw,q0⟩:=q0;obtain⟨n2,rfl⟩:=q0;refine aCo (xs:=vs) (ys:=ws) ⟨_,ho1,rfl,n1,rfl⟩ ⟨_,ho2,rfl,n2,rfl⟩ (by rw[hv.length,hw.length]) hu λ j h1 h2=>?_;have hj:j<xs.length:=by rw[←hv.length];exact h1
 obtain⟨t,e1⟩:=hv.at? (List.getElem?_eq_getElem hj);obtain⟨u,e2⟩:=hw.at? (List.getElem?_eq_getElem hj);rw[List.getElem?_eq_getElem h1]at e1;rw[List.getElem?_eq_getElem h2]at e2;injection e1 with e1
 injection e2 with e2
 rw[e1,e2];have:=nZ (A:=A.in1) (s:=s) (x:=xs[j]) (y:=xs[j]) (t:=t) (u:=u)
 rwa[decide_eq_true rfl]at this
noncomputable abbrev aAJ(scr:Addr):Loc:=[("script",some (.ref scr)),("total",none),("outs",none),("writers",none),("out",none),("writer",none),("hidden",none),("depth",none),("begun",none),("told",none),("due",none),("call",none),("seen",none),("mark",none)]
section
variable {z:Ws}
theorem topA_{L scr:Addr}{vs:List Value}{ns:List Int}{Q:Flow->Ac->Prop}(I:IsC W)(hA:Aok 40 A)(hB:W.B.IsList scr vs.toArray)(hi:IntsAre vs ns)(hz1:(ns.sum.fmod 2==1)=z.com)(hz2:((ns.sum.fdiv 2).fmod 2==1)=z.st)(hz3:((ns.sum.fdiv 4).fmod 2==1)=z.rw)(S':Sta W G (bA L) (aAJ scr) N s)(kk:∀ T ol wl vo vw x0 x1 s',New2 z x0->New2 z x1->Sta W G (bA L) (nK scr T ol wl vo vw) ((wl,aA [.ref x0.w.x,.ref x1.w.x])::(ol,aA [.ref x0.out,.ref x1.out])::(x0.led W z++(x1.led W z++N))) s'-> Ad W.M A (execs ((aE cV).drop 4) (bA L)) Q E s'):∀ st:List Stmt,st=(aE cV).drop 0->Ad W.M A (execs st (bA L)) Q E s:=by
 intro st hst;subst hst;refine bQ rfl ?_;walk_at "c";refine Sta.builtin S' I.b_sum aEM (by kernel_rfl) ?_;walk_at "c";refine Sta.sumB S' hA.handled hB hi ?_;clear S';intro tT s' S';walk_at "c";obtain⟨o0,o1,ol,wl,S'⟩:∃ o0 o1 ol wl,Sta W G (bA L) (nK scr (.int ns.sum tT) ol wl none none) ((wl,aB [])::(ol,aA [.ref o0,.ref o1])::(o1,aB [])::(o0,aB [])::N) s':=⟨_,_,_,_,S'⟩
 have hc:∀ o,aB [] o->aA [] o:=λ o ⟨vs,h1,h2⟩=>by cases h1;exact h2
 replace S':=((S'.tell (c':=aA []) .head λ o _ ho=>hc o ho).tell (c':=aA []) (.tail (.tail .head)) λ o _ ho=>hc o ho).tell (c':=aA []) (.tail (.tail (.tail .head))) λ o _ ho=>hc o ho;refine wpAny_For ?_ (by intro _;kernel_rfl);refine S'.local_ (by walk_at "mem") ?_;refine S'.iterL (.tail _ (.head _)) ?_;clear S';intro it s' S';refine mk2_ (z:=z) (os:=[o0,o1]) (ol:=ol) (wl:=wl) (it:=it) (N:=N) I (hA.le (by decide)) hz1 hz2 hz3 (Ar rfl) (S'.perm ?_) ?_ _ rfl
 ·show List.Perm _ ((it,bG ol 0)::(wl,aA [])::(ol,aA [.ref o0,.ref o1])::(o0,aA [])::(o1,aA [])::N);walk_at "perm"
 clear S';intro vo vw ws s' hws hnew S';obtain⟨x0,x1,rfl⟩:=len2 ((Ai ..).symm.trans (congrArg A8 hws));obtain⟨rfl,h⟩:=List.cons.inj hws;obtain⟨rfl,_⟩:=List.cons.inj h;refine hKn _ (aM ?_);exact kk _ ol wl vo vw x0 x1 s' (hnew x0 (.head _)) (hnew x1 (.tail _ (.head _))) (S'.perm (by
  show List.Perm ((wl,aA [.ref x0.w.x,.ref x1.w.x])::(ol,aA [.ref x0.out,.ref x1.out])::((x0.led W z++(x1.led W z++[]))++N)) _;walk_at "perm"))
theorem topB_{L:Addr}{f:Lf}{Q:Flow->Ac->Prop}(hA:Aok 9 A)(S':Sta W G (bA L) (nK f.scr f.T f.ol f.wl f.vo f.vw) N s)(kk:∀ th tdp td du s',Sta W G (bA L) (cA { f with td:=td,du:=du } (.int 0 th) (.int 0 tdp) (.bool false) none none none) ((td,aB [])::(du,aB [])::N) s'-> Ad W.M A (execs ((aE cV).drop 6) (bA L)) Q E s'):∀ st:List Stmt,st=(aE cV).drop 4->Ad W.M A (execs st (bA L)) Q E s:=by
 intro st hst;subst hst;refine bQ rfl ?_;refine Assign_Tuple ?_ (by kernel_rfl) (by kernel_rfl);walk_at "c";replace S':=S'.sub (AZ _ _);refine assignInOrder_cons ?_;refine assign_Name ?_;walk_at "c";refine assignInOrder_cons ?_;refine assign_Name ?_;walk_at "c";refine assignInOrder_cons ?_;refine assign_Name ?_;walk_at "c";refine assignInOrder_nil ?_;refine bQ rfl ?_;refine Assign_Tuple_swapped (names:=["told","due"]) ?_ (by kernel_rfl) (by kernel_rfl);walk_at "c";refine Sta.unpackI S' hA.handled (by walk_at "mem") rfl ?_;clear S';intro s' S';replace S':=S'.sub (AZ _ _);refine assignInOrder_cons ?_;refine bindName_ ?_;walk_at "c";refine assignInOrder_cons ?_;refine bindName_ ?_;walk_at "c";refine assignInOrder_nil ?_;obtain⟨th,tdp,td,du,S'⟩:∃ th tdp td du,Sta W G (bA L) [("script",some (.ref f.scr)),("total",some f.T),("outs",some (.ref f.ol)),("writers",some (.ref f.wl)),("out",f.vo),("writer",f.vw),("hidden",some (.int 0 th)),("depth",some (.int 0 tdp)),("begun",some (.bool false)),("told",some (.ref td)),("due",some (.ref du)),("call",none),("seen",none),("mark",none)] ((du,aB [])::(td,aB [])::N) s':=⟨_,_,_,_,S'⟩
 exact kk th tdp td du s' (S'.perm (List.Perm.swap ..))
end
section
variable {z:Ws}
theorem li2_0{x0 x1:W2}(h0:New2 z x0)(h1:New2 z x1):LI2 z 0 0 [] 0 x0 x1 [] (bE x0.m) (bE x1.m) where
 V0:=aDc h0.m
 V1:=aDc h1.m
 R:=rel_0 h0.m h1.m
 e0:=rfl
 e1:=rfl
 w0:=.none h0.m.pe
 w1:=.none h1.m.pe
 p0:=λ p e=>by rw[h0.m.pe]at e;cases e
 p1:=λ p e=>by rw[h1.m.pe]at e;cases e
 o0:=by rw[h0.o];exact AN 0
 o1:=by rw[h1.o];exact AN 0
theorem topD_{L:Addr}{f:Lf}{hi de be:Value}{vc vs vm:Option Value}{x0 x1:W2}{tx:List Str}{Q:Flow->Ac->Prop}(hA:Aok 9 A)(S':Sta W G (bA L) (cA f hi de be vc vs vm) (bF W z f x0 x1 tx N) s)(kk:∀ s',Sta W G (bA L) (cA f hi de be vc vs vm) (bF W z f x0 x1 tx N) s'->Q (.ret (.bool true)) s'):∀ st:List Stmt,st=(aE cV).drop 7->Ad W.M A (execs st (bA L)) Q E s:=by
 intro st hst;subst hst;have hu:=hA.units;refine bQ rfl ?_;refine wpAny_Return_some ?_;refine wpAny_Compare1 ?_ (by kernel_rfl);walk_at "c";refine Sta.eqOp S' (aEC (xs:=tx) (S'.get (.tail _ (.tail _ (.head _)))) (S'.get (.tail _ (.tail _ (.tail _ (.head _))))) (by walk_at "o")) ?_;walk_at "c";exact kk _ S'
theorem topC_{L:Addr}{f:Lf}{vs:List Value}{ns:List Int}{th tdp:Tok}{x0 x1:W2}{Q:Flow->Ac->Prop}(I:IsC W)(C:CodeHd W.B 118 116)(hA:Aok 40 A)(hB:W.B.IsList f.scr vs.toArray)(hi:IntsAre vs ns)(hn:ns.length<=63)(h0:New2 z x0)(h1:New2 z x1)(S':Sta W G (bA L) (cA f (.int 0 th) (.int 0 tdp) (.bool false) none none none) (bF W z f x0 x1 [] (aP 116 aV aH none)) s)(kk:∀ hi de be vc vs vm c? x0 x1 tx (cl:Lg) s',Sta W G (bA L) (cA f hi de be vc vs vm) (bF W z f x0 x1 tx (aP 116 aV aH c?++cl)) s'-> Ad W.M A (execs ((aE cV).drop 7) (bA L)) Q E s'):∀ st:List Stmt,st=(aE cV).drop 6->Ad W.M A (execs st (bA L)) Q E s:=by
 intro st hst;subst hst;refine bQ rfl ?_;refine wpAny_For ?_ (by intro _;kernel_rfl);refine Call_ ?_ (by kernel_rfl);refine Sta.global S' I.g_l_calls (by kernel_rfl) ?_;refine gC (by rw[I.k];kernel_rfl) ?_ (by kernel_rfl) (by kernel_rfl);walk_at "c";refine aEK I (hA.le (by decide)) hB hi hn S' ?_;clear S';intro cl cs bz s' hch hro hc S';refine S'.iterL (.head _) ?_;clear S';intro it s' S';have S2:=S'.perm (nw':=(it,bG cl 0)::(cl,aA (aX cs))::bF W z f x0 x1 [] (aP 116 aV aH none++(aI W cs++[]))) (by simp only[bF];walk_at "perm");clear S';have e0:(bE x0.m).ig=0:=h0.m.ig;refine yN (a0:=bE x0.m) (cl:=cl) (cs:=cs) (it:=it) (bz:=bz) (N:=[]) I C (hA.le (by decide)) hch hro hc (li2_0 h0 h1) (by rw[e0];exact S2) ?_ _ rfl;clear S2;intro hi de be vc vs vm c? x0 x1 tx s' hz S';walk_at "ke";exact kk _ _ _ _ _ _ c? x0 x1 tx _ s' S'
theorem law2{scr:Addr}{vs:List Value}{ns:List Int}(I:IsC W)(C:CodeHd W.B 118 116)(S:St0 W [] (tabLed [(118,116)]) s)(hB:W.B.IsList scr vs.toArray)(hi:IntsAre vs ns)(hn:ns.length<=63)(hA:Aok 45 A):codeAny W.M A (.call (.ref 211) ⟨[.ref scr],[]⟩) (λ r s'=>r=.ok (.ret (.bool true))/\∃ G nw' c?,St0 W G (nw'++aP 116 aV aH c?) s') s:=by
 refine S.code (binds:=[("script",.ref scr)]) ["total","outs","writers","out","writer","hidden","depth","begun","told","due","call","seen","mark"] I.f_law hA.room (λ _ _ _ _ _=>BindsTo.of_eq (by kernel_rfl)) (by kernel_rfl) ?_;intro L s' S';have hA':=hA.deeper (env:=bA L);obtain⟨z,h1,h2,h3⟩:∃ z:Ws,(ns.sum.fmod 2==1)=z.com/\((ns.sum.fdiv 2).fmod 2==1)=z.st/\((ns.sum.fdiv 4).fmod 2==1)=z.rw:=⟨⟨_,_,_⟩,rfl,rfl,rfl⟩
 have S1:Sta W [] (bA L) (aAJ scr) (aP 116 aV aH none) s':=S';clear S';refine aM ?_;generalize hst:Bv 0 (aE cV)=st;refine topA_ (z:=z) (N:=aP 116 aV aH none) I (hA'.le (by decide)) hB hi h1 h2 h3 S1 ?_ st hst.symm;clear S1 hst;intro T ol wl vo vw x0 x1 s' n0 n1 S';generalize hst:Bv 4 (aE cV)=st;refine topB_ (f:=⟨scr,T,ol,wl,vo,vw,0,0⟩) (hA'.le (by decide)) S' ?_ st hst.symm;clear S' hst;intro th tdp td du s' S';obtain⟨f,hf⟩:∃ f:Lf,f=⟨scr,T,ol,wl,vo,vw,td,du⟩:=⟨_,rfl⟩
 have S2:Sta W [] (bA L) (cA f (.int 0 th) (.int 0 tdp) (.bool false) none none none) (bF W z f x0 x1 [] (aP 116 aV aH none)) s':=by
  rw[hf];refine S'.perm ?_;show List.Perm _ ((ol,aA [.ref x0.out,.ref x1.out])::(wl,aA [.ref x0.w.x,.ref x1.w.x])::(td,aB [])::(du,aB [])::(x0.led W z++(x1.led W z++aP 116 aV aH none)));walk_at "perm"
 clear S';generalize hst:Bv 6 (aE cV)=st;refine topC_ (x0:=x0) (x1:=x1) (z:=z) (f:=f) I C (hA'.le (by decide)) (by rw[hf];exact hB) hi hn n0 n1 S2 ?_ st hst.symm;clear S2 hst hf;intro hi de be vc vs vm c? x0 x1 tx cl s' S';generalize hst:Bv 7 (aE cV)=st;refine topD_ (hA'.le (by decide)) S' ?_ st hst.symm;clear S' hst;intro s' S';exact⟨rfl,_,(_,aL _)::bF W z f x0 x1 tx cl,c?,(S'.perm (nw':=bF W z f x0 x1 tx cl++aP 116 aV aH c?) (by simp only[bF];walk_at "perm")).st0 (pre:=[]) rfl⟩
end
end
end
end
end Mine
end
namespace Mine
theorem aok_caller:Aok 60 callerA:=⟨rfl,by decide +kernel,by decide +kernel⟩
theorem grown_of{W:Wd}{G:Gens}{nw:Lg}{s:Ac}{P:Addr}{ps:List Value}(S:St0 W G nw s)(m:(P,kB ps)∈nw):GrownAt P s.heap:=by
 obtain⟨_,q0⟩:=S.led.own _ m;obtain⟨o,ho,rfl⟩:=q0;exact⟨_,ho⟩
end Mine
theorem PySem.Challenge.cw_dn0284_02_holds : PySem.Challenge.rw_dn0284_02.Holds := by
 refine PySem.W.holds_law Mine.ws (Function.const _ (Mine.hd ?_))
 k_fill
 intro w s₀ s₁ mg mb G Y fa o pm cd doc dV kV ho hd hcd hD hmg hg args vals as hpre hlay hrd hwl hlo;have KX:=km_in_of Y
 km_tabs Y
 have X:=(Ground.X G).1;have V:=(Ground.X G).2;refine Ground.open G ?_;intro T B D TE TW
 try (refine guard_noD D (by decide +kernel) ?_;clear D)
 km_lay T hmg ho hd cd
 wrow_args hpre hlay hrd hwl hlo
 first | refine callC_kw (enter_call ?_) | refine enter_call ?_
 w_top on
 refine Mine.kn_postG hT9 (λ _=>rfl) (by wrow_post) ?_;have hfa:fa=211:=by
  have e1:mg "law"=some (.ref 211):=mg_of KX T.g (by kernel_rfl);have e2:some (Value.ref fa)=some (.ref 211):=hmg.symm.trans e1;injection e2 with e2
  injection e2
 subst hfa
 let W:Mine.Wd:=⟨PySem.Challenge.rw_dn0284_02.row.prog,w,Mine.KK w.params,ghostOf s₁.heap [(118,116)],s₁.os⟩
 have S0:Mine.St0 W [] (Mine.tabLed [(118,116)]) s₁:=Mine.sta0_of (W:=W) hT9 (by decide) KX (by kernel_rfl) T hg rfl rfl;have C:=ghost_code hT9
 rename s₁.heap.IsList _ _=>hL
 rename IntsAre _ _=>hI
 have hL2:=ghost_list hT9 hL;refine codeAny_mono (Mine.law2 (W:=W) ⟨rfl⟩ C.1 S0 hL2 hI (by walk_at "o") (Mine.aok_caller.le (by walk_at "o"))) λ r s' h=>?_;obtain⟨rfl,q0⟩:=h;obtain⟨G',nw',c?,S'⟩:=q0;refine⟨rfl,S'.led.keep,S'.os,S'.bare,?_,trivial⟩;cases c? with
 | none=>exact Mine.grown_of S' (Af _ (.head _))
 | some c=>exact Mine.grown_of S' (Af _ (.head _))
